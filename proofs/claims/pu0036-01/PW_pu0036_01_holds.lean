import PyProof.Rows.All
import Wide.All
import OpenK.AllK
import Wide.FinOn
import PySem.Challenge.RW_pu0036_01
open PySem PySem.W PyProof.Rows
set_option Elab.async false
section PartHd
open PySem PySem.W PyProof.Rows
namespace Mine
def hdS (n : Nat) : Stmt := PySem.Challenge.pw_pu0036_01.main.body.getD n (Stmt.Pass ⟨0, 0, 0, 0⟩)
def hdS0 : Stmt := hdS 0
def hdS1 : Stmt := hdS 1
def hdS2 : Stmt := hdS 2
def hdS3 : Stmt := hdS 3
def hdS4 : Stmt := hdS 4
def hdS5 : Stmt := hdS 5
def hdS6 : Stmt := hdS 6
def hdS7 : Stmt := hdS 7
def hdS8 : Stmt := hdS 8
def hdS9 : Stmt := hdS 9
def hdS10 : Stmt := hdS 10
def hdS11 : Stmt := hdS 11
def hdS12 : Stmt := hdS 12
def hdS13 : Stmt := hdS 13
def hdS14 : Stmt := hdS 14
def hdS15 : Stmt := hdS 15
def hdS16 : Stmt := hdS 16
def hdP : Program := { PySem.Challenge.pw_pu0036_01 with main := { PySem.Challenge.pw_pu0036_01.main with body := [hdS0, hdS1, hdS2, hdS3, hdS4, hdS5, hdS6, hdS7, hdS8, hdS9, hdS10, hdS11, hdS12, hdS13, hdS14, hdS15, hdS16] } }
def hdR : OpenLaw := { PySem.Challenge.rw_pu0036_01 with prog := hdP }
section
local macro_rules | `(tactic| o_head $_) => `(tactic| assumption)
set_option maxRecDepth 100000 in
set_option maxHeartbeats 8000000 in
theorem pre : hdR.row.Holds → hdR.row.Holds := by intro h; k_head
end
noncomputable def K2 : Params → Frag := fun P => by
  refine (fun (_ : decide ((Str.ofString "script").cps.size = 6) = true) => (?a :: ?l : Frag)) ?k
  case k =>
    have h : pre.heap_1 P = ?a :: ?l := by rfl
    decide +kernel
section
local macro_rules | `(tactic| k_head) => `(tactic| o_head (kmHook Mine.K2 (2 :: 3 :: 6 :: 15 :: 17 :: 18 :: 20 :: 21 :: 22 :: 24 :: 25 :: 27 :: 28 :: 29 :: 31 :: 32 :: 34 :: 35 :: 36 :: 38 :: 39 :: 41 :: 42 :: 43 :: 44 :: 45 :: 47 :: 48 :: 50 :: 51 :: 52 :: 53 :: 54 :: 56 :: 57 :: 59 :: 60 :: 61 :: 64 :: 65 :: 66 :: 68 :: 69 :: 71 :: 72 :: 73 :: 75 :: 76 :: 78 :: 79 :: 80 :: 83 :: 84 :: []) (fun _ => by kernel_rfl) [37, 30, 81]))
set_option maxRecDepth 100000 in
set_option maxHeartbeats 8000000 in
open_top hd for hdR
end
end Mine
end PartHd
section PartKit
open PySem PySem.W PyProof.Rows PySem.Spec PySem.Calls
namespace Mine
/-- facts are taken apart while the goal is a mere name: else each step writes the whole goal into the proof -/
theorem viaR {G : Prop} (h : ∀ R : Prop, (G → R) → R) : G := h G id
theorem and2 {a b R : Prop} (h : a ∧ b) (k : a → b → R) : R := k h.1 h.2
theorem and4 {a b c d R : Prop} (h : a ∧ b ∧ c ∧ d) (k : a → b → c → d → R) : R := k h.1 h.2.1 h.2.2.1 h.2.2.2
theorem and8 {a b c d e f g i R : Prop} (h : a ∧ b ∧ c ∧ d ∧ e ∧ f ∧ g ∧ i) (k : a → b → c → d → e → f → g → i → R) : R :=
  and4 h fun a b c r => and4 r fun d e f r => and2 r fun g i => k a b c d e f g i
theorem fmem {α : Type} {P : α → Prop} {a : α} {l : List α} (h : P a) (t : ∀ x ∈ l, P x) : ∀ x ∈ a :: l, P x := List.forall_mem_cons.mpr ⟨h, t⟩
theorem four {G : Nat → Prop} (h0 : G 0) (h1 : G 1) (h2 : G 2) (h3 : G 3) : ∀ {k : Nat}, k < 4 → G k
  | 0, _ => h0
  | 1, _ => h1
  | 2, _ => h2
  | 3, _ => h3
theorem ia_nil {G : List Value → Prop} {vs : List Value} (h : IntsAre vs []) (k : G []) : G vs := by cases h; exact k
theorem ia_cons {G : List Value → Prop} {n : Int} {ns : List Int} {vs : List Value} (h : IntsAre vs (n :: ns)) (k : ∀ t vs', IntsAre vs' ns → G (.int n t :: vs')) : G vs := by cases h with | cons _ t h => exact k t _ h
theorem l_nil {α : Type} {G : List α → Prop} {l : List α} (h : l.length = 0) (k : G []) : G l := by cases l with | nil => exact k | cons => cases h
theorem l_cons {α : Type} {G : List α → Prop} {l : List α} {n : Nat} (h : l.length = n + 1) (k : ∀ a l', l'.length = n → G (a :: l')) : G l := by cases l with | nil => cases h | cons a t => exact k a t (Nat.succ.inj h)
theorem exE {α : Type} {P : α → Prop} {R : Prop} (e : ∃ x, P x) (k : ∀ x, P x → R) : R := e.elim k
theorem all_1_1 {T0 T1 : Type} {G : (T0 × T1) → Prop} (h : ∀ x0 x1, G (x0, x1)) : ∀ x, G x := fun x => h x.1 x.2
theorem all_1_1_1 {T0 T1 T2 : Type} {G : (T0 × T1 × T2) → Prop} (h : ∀ x0 x1 x2, G (x0, x1, x2)) : ∀ x, G x := fun x => h x.1 x.2.1 x.2.2
theorem all_1_1_1_1 {T0 T1 T2 T3 : Type} {G : (T0 × T1 × T2 × T3) → Prop} (h : ∀ x0 x1 x2 x3, G (x0, x1, x2, x3)) : ∀ x, G x := fun x => h x.1 x.2.1 x.2.2.1 x.2.2.2
theorem all_1_1_1_1_1 {T0 T1 T2 T3 T4 : Type} {G : (T0 × T1 × T2 × T3 × T4) → Prop} (h : ∀ x0 x1 x2 x3 x4, G (x0, x1, x2, x3, x4)) : ∀ x, G x := fun x => h x.1 x.2.1 x.2.2.1 x.2.2.2.1 x.2.2.2.2
theorem all_1_1_1_1_1_1 {T0 T1 T2 T3 T4 T5 : Type} {G : (T0 × T1 × T2 × T3 × T4 × T5) → Prop} (h : ∀ x0 x1 x2 x3 x4 x5, G (x0, x1, x2, x3, x4, x5)) : ∀ x, G x := fun x => h x.1 x.2.1 x.2.2.1 x.2.2.2.1 x.2.2.2.2.1 x.2.2.2.2.2
theorem all_1_1_2_2_2 {T0 T1 T2 T3 T4 T5 T6 T7 : Type} {G : (T0 × T1 × (T2 × T3) × (T4 × T5) × (T6 × T7)) → Prop} (h : ∀ x0 x1 x2 x3 x4 x5 x6 x7, G (x0, x1, (x2, x3), (x4, x5), (x6, x7))) : ∀ x, G x := fun x => h x.1 x.2.1 x.2.2.1.1 x.2.2.1.2 x.2.2.2.1.1 x.2.2.2.1.2 x.2.2.2.2.1 x.2.2.2.2.2
theorem all_2_2 {T0 T1 T2 T3 : Type} {G : ((T0 × T1) × (T2 × T3)) → Prop} (h : ∀ x0 x1 x2 x3, G ((x0, x1), (x2, x3))) : ∀ x, G x := fun x => h x.1.1 x.1.2 x.2.1 x.2.2
theorem all_1_3_3 {T0 T1 T2 T3 T4 T5 T6 : Type} {G : (T0 × (T1 × T2 × T3) × (T4 × T5 × T6)) → Prop} (h : ∀ x0 x1 x2 x3 x4 x5 x6, G (x0, (x1, x2, x3), (x4, x5, x6))) : ∀ x, G x := fun x => h x.1 x.2.1.1 x.2.1.2.1 x.2.1.2.2 x.2.2.1 x.2.2.2.1 x.2.2.2.2
theorem all_1_4_4 {T0 T1 T2 T3 T4 T5 T6 T7 T8 : Type} {G : (T0 × (T1 × T2 × T3 × T4) × (T5 × T6 × T7 × T8)) → Prop} (h : ∀ x0 x1 x2 x3 x4 x5 x6 x7 x8, G (x0, (x1, x2, x3, x4), (x5, x6, x7, x8))) : ∀ x, G x := fun x => h x.1 x.2.1.1 x.2.1.2.1 x.2.1.2.2.1 x.2.1.2.2.2 x.2.2.1 x.2.2.2.1 x.2.2.2.2.1 x.2.2.2.2.2
theorem all_3_1 {T0 T1 T2 T3 : Type} {G : ((T0 × T1 × T2) × T3) → Prop} (h : ∀ x0 x1 x2 x3, G ((x0, x1, x2), x3)) : ∀ x, G x := fun x => h x.1.1 x.1.2.1 x.1.2.2 x.2
theorem all_3_1_1_1 {T0 T1 T2 T3 T4 T5 : Type} {G : ((T0 × T1 × T2) × T3 × T4 × T5) → Prop} (h : ∀ x0 x1 x2 x3 x4 x5, G ((x0, x1, x2), x3, x4, x5)) : ∀ x, G x := fun x => h x.1.1 x.1.2.1 x.1.2.2 x.2.1 x.2.2.1 x.2.2.2
theorem all_1_3_1_1_1 {T0 T1 T2 T3 T4 T5 T6 : Type} {G : (T0 × (T1 × T2 × T3) × T4 × T5 × T6) → Prop} (h : ∀ x0 x1 x2 x3 x4 x5 x6, G (x0, (x1, x2, x3), x4, x5, x6)) : ∀ x, G x := fun x => h x.1 x.2.1.1 x.2.1.2.1 x.2.1.2.2 x.2.2.1 x.2.2.2.1 x.2.2.2.2
/-- a def entered with the part P of the caller's ledger handed in; the part `rest` is framed -/
theorem codePass {prog : Program} {w : World} {A₀ A : Around} {s : Shared} {base h₀ : Heap} {outer : List Env} {L : Addr} {m mg mb : Str → Option Value} {env : Env} {news P rest : List (Addr × Obj)} {K : Frag}
    {p : Program} {loose : List Str} {mean : ExcName → Option Value}
    {R : Result → Shared → Prop} {name qual : Str} {params : Arguments} {body : List Stmt} {scope : Scope} {dV kV doc pm cdv ct oc : Value} {an od : Option Addr} {osl : Array (Option Value)} {f : Addr} {args : Args} {binds : List (Str × Value)}
    (B : Below A₀ base outer h₀) (F : Fr h₀ L s.heap m) (X₀ : K.In h₀) (N : News h₀ L s.heap news) (T : Top p loose mean mg mb h₀)
    (hP : ∀ q ∈ P, q ∈ news) (hrest : ∀ q ∈ rest, q ∈ news ∧ q.1 ∉ P.map (·.1))
    (hA : A.frames = some (env :: outer)) (hf : env.frame = some L) (hke : env.scope.kind = .function)
    (ho : K.lookup f = some ⟨oc, od, .func (fnOf name qual params body scope dV kV doc pm an cdv ct), osl⟩) (hcd : codeIn K cdv qual = true) (hroom : A.depth < recursionLimit)
    (hbind : BindsTo s (fnOf name qual params body scope dV kV doc pm an cdv ct) args binds) (hloc : ∀ y ∈ binds, scope.names.lookup y.1 = some .local)
    (h : ∀ g L' h₁, (∀ b o, s.heap.get? b = some o → b ∉ P.map (·.1) → g.get? b = some o) → Fr g L' h₁ (fun y => binds.reverse.lookup y) → News g L' h₁ P → Below A base (env :: outer) g → K.In g → Top p loose mean mg mb g → (∀ q ∈ P, q.1 < L') →
      wpAny (model prog w) (A.deeper (envOf qual scope L' f cdv)) (execs body (envOf qual scope L' f cdv))
        (fun fl s' => LeaveK h₀ L m g (fun r s' => News h₀ L s'.heap rest → R r s') (match fl with | .ret v => v | _ => .none) s')
        (fun e s' => wpAny (model prog w) (A.deeper (envOf qual scope L' f cdv)) (leaving (envOf qual scope L' f cdv) e) (fun _ s'' => R (.error e) s'') (fun e' s'' => R (.error e') s'') s')
        { s with heap := h₁, toks := s.toks + binds.length })
    (hco : scope.isCoroutine = false) (hgen : scope.isGenerator = false) (hk : scope.kind = .function)
    (hcell : ∀ x ∈ scope.names, x.2 ≠ .cell) : codeAny (model prog w) A (.call (.ref f) args) R s := by
  have NP : News h₀ L s.heap P := fun q hq => N q (hP q hq)
  obtain ⟨FG, BG, st, lv⟩ := groundX (R := fun r s' => News h₀ L s'.heap rest → R r s') B F NP hA hf hke
  have hX := X₀.keeps F.keep
  refine codeAny_call_def (fd := fnX name qual params body scope [] dV kV doc pm an cdv ct) (body := body) (binds := binds) hroom (hX _ _ ho) rfl (T.nolimit.keeps F.keep) (codeRec_of hX hcd) rfl hbind hcell hloc (fun h₁ hns hk₁ => ?_) hco hgen hk
  refine wpAny_mono (h _ s.heap.objs.size h₁ (fun b o e hb => hideAll_get _ e hb) ⟨hns, fun b o e => hk₁ b o (of_hideAll _ e), Nat.le_of_eq (hideAll_size _ _)⟩
    (fun p hp => ⟨hk₁ _ _ (NP p hp).1, Nat.ne_of_lt (Heap.lt_size (NP p hp).1), hideAll_none _ (List.mem_map_of_mem hp)⟩) BG (X₀.keeps st) (T.keeps st) (fun p hp => Heap.lt_size (NP p hp).1)) (fun fl s' hl => ?_) fun _ _ y => y
  refine lv _ _ hl fun q hq => ?_
  obtain ⟨L', m', news', F', N', k⟩ := hl
  obtain ⟨hq1, hq2⟩ := hrest q hq
  exact ⟨F'.keep _ _ (hideAll_get _ (N q hq1).1 hq2), (N q hq1).2.1, (N q hq1).2.2⟩
/-- a test's end: the truth is the one told, the frame and the ledger stand -/
noncomputable def TestEnd (h₀ : Heap) (L : Addr) (m : Str → Option Value) (news : List (Addr × Obj)) (s : Shared) (tb b : Bool) (s₂ : Shared) : Prop :=
  b = tb ∧ ∃ h' tk', s₂ = { s with heap := h', toks := tk' } ∧ Fr h₀ L h' m ∧ News h₀ L h' news
theorem TestEnd.intro {h₀ : Heap} {L : Addr} {m : Str → Option Value} {news news' : List (Addr × Obj)} {s : Shared} {tb b : Bool} {h' : Heap} {tk' : Nat} (F : Fr h₀ L h' m) (N : News h₀ L h' news') (hn : ∀ p ∈ news, p ∈ news') (hb : b = tb) :
    TestEnd h₀ L m news s tb b { s with heap := h', toks := tk' } := ⟨hb, h', tk', rfl, F, fun p hp => N p (hn p hp)⟩
section
variable {prog : Program} {w : World} {A : Around} {E : Value → Shared → Prop} {Q : Flow → Shared → Prop} {s : Shared} {env : Env} {h₀ : Heap} {L : Addr}
/-- a while, its test walked once, its turn once, what stands behind it once -/
theorem whileCut {σ : Type} {tst : Expr} {body : List Stmt} {pos : Pos} {m₀ : Str → Option Value} (Led : σ → List (Addr × Obj)) (ps : σ → List (Str × Value)) (stored : List Str) (P : σ → Prop) (μ : σ → Nat) (tb : σ → Bool) (c₀ : σ)
    (F : Fr h₀ L s.heap m₀) (N : News h₀ L s.heap (Led c₀)) (hk : ∀ p ∈ ps c₀, m₀ p.1 = some p.2) (hp : P c₀)
    (test : ∀ (c : σ) (u : Str → Option Value) h tk, P c → Fr h₀ L h (kstB (fun z => if stored.contains z then u z else m₀ z) (ps c)) → News h₀ L h (Led c) →
      wpAny (model prog w) A (isTrue tst env (eval tst env)) (TestEnd h₀ L (kstB (fun z => if stored.contains z then u z else m₀ z) (ps c)) (Led c) s (tb c)) E { s with heap := h, toks := tk })
    (turn : ∀ (c : σ) (u : Str → Option Value) h tk, P c → tb c = true → Fr h₀ L h (kstB (fun z => if stored.contains z then u z else m₀ z) (ps c)) → News h₀ L h (Led c) →
      wpAny (model prog w) A (execs body env) (KswPost h₀ L s Led ps (fun _ => True) stored m₀ P μ Q c) E { s with heap := h, toks := tk })
    (done : ∀ (c : σ) (u : Str → Option Value) h tk, P c → tb c = false → Fr h₀ L h (kstB (fun z => if stored.contains z then u z else m₀ z) (ps c)) → News h₀ L h (Led c) → Q .next { s with heap := h, toks := tk })
    (hE : PassesOwn (model prog w) A env E) :
    wpAny (model prog w) A (exec (.While tst body [] pos) env) Q E s := by
  refine ksw_while Led ps (fun _ => True) stored P μ c₀ F N trivial hk hp ?_ hE
  intro c u h tk _ hc F₁ N₁
  refine wpAny_mono (test c u h tk hc F₁ N₁) (fun b s₂ hb => ?_) fun _ _ x => x
  obtain ⟨rfl, h', tk', rfl, F₂, N₂⟩ := hb
  split
  · rename_i ht; exact turn c u h' tk' hc ht F₂ N₂
  · rename_i ht; exact done c u h' tk' hc (by simpa using ht) F₂ N₂
end
/-- a turn's end in a for -/
noncomputable def FcEnd {σ : Type} (h₀ : Heap) (L : Addr) (s : Shared) (Led : σ → List (Addr × Obj)) (ps : σ → List (Str × Value)) (stored : List Str) (m₀ : Str → Option Value) (own : List (Addr × Obj)) (P : σ → Prop) (s₂ : Shared) : Prop :=
  ∃ (c' : σ) (h' : Heap) (tk : Nat) (m' : Str → Option Value) (news' : List (Addr × Obj)), s₂ = { s with heap := h', toks := tk } ∧ Fr h₀ L h' m' ∧ News h₀ L h' news' ∧ (∀ p ∈ Led c', p ∈ news') ∧ (∀ p ∈ own, p ∈ news') ∧ (∀ p ∈ ps c', m' p.1 = some p.2) ∧ (∀ z, (∀ p ∈ ps c', z ≠ p.1) → stored.contains z = false → m' z = m₀ z) ∧ P c'
noncomputable def FcPost {σ : Type} (h₀ : Heap) (L : Addr) (s : Shared) (Led : σ → List (Addr × Obj)) (ps : σ → List (Str × Value)) (stored : List Str) (m₀ : Str → Option Value) (own : List (Addr × Obj)) (P : σ → Prop) (Q : Flow → Shared → Prop) (f : Flow) (s₂ : Shared) : Prop :=
  match f with
  | .ret v => Q (.ret v) s₂
  | .brk => Q .next s₂
  | _ => FcEnd h₀ L s Led ps stored m₀ own P s₂
theorem fcEnd {σ : Type} {h₀ : Heap} {L : Addr} {s : Shared} {Led : σ → List (Addr × Obj)} {ps : σ → List (Str × Value)} {stored : List Str} {m₀ m' : Str → Option Value} {own news' : List (Addr × Obj)} {P : σ → Prop} {h' : Heap} {tk : Nat} (c' : σ)
    (F : Fr h₀ L h' m') (N : News h₀ L h' news') (hn : ∀ p ∈ Led c', p ∈ news') (ho : ∀ p ∈ own, p ∈ news') (hk : ∀ p ∈ ps c', m' p.1 = some p.2) (hr : ∀ z, (∀ p ∈ ps c', z ≠ p.1) → stored.contains z = false → m' z = m₀ z) (hp : P c') :
    FcEnd h₀ L s Led ps stored m₀ own P { s with heap := h', toks := tk } := ⟨c', h', tk, m', news', rfl, F, N, hn, ho, hk, hr, hp⟩
section
variable {prog : Program} {w : World} {A : Around} {E : Value → Shared → Prop} {Q : Flow → Shared → Prop} {s : Shared} {env : Env} {h₀ : Heap} {x : Str} {body : List Stmt}
/-- a for over any walk of an iterator, by a state of one's own -/
theorem forWalk {σ : Type} {I : Addr} {fp wr : List Addr} {n : Nat} {It : Nat → Value → Prop} {St : Nat → Heap → Prop} {m₀ : Str → Option Value} (Led : σ → List (Addr × Obj)) (ps : σ → List (Str × Value)) (stored : List Str) (P : Nat → σ → Prop) (c₀ : σ)
    (W : Walks prog w A I fp wr n It St) (hLf : env.locals ∉ fp) (hwr : ∀ b ∈ wr, h₀.get? b = none) (hnw : ∀ p ∈ Led c₀, p.1 ∉ wr) (hfp : ∀ q ∈ Led c₀, q.1 ∉ fp) (hst : St 0 s.heap)
    (F : Fr h₀ env.locals s.heap m₀) (N : News h₀ env.locals s.heap (Led c₀)) (hadr : ∀ c, (Led c).map (·.1) = (Led c₀).map (·.1)) (hk : ∀ p ∈ ps c₀, m₀ p.1 = some p.2) (hp : P 0 c₀)
    (turn : ∀ (i : Nat) (v : Value) (c : σ) (u : Str → Option Value) h tk own, i < n → It i v → P i c → OwnOff own ((Led c).map (·.1)) → Fr h₀ env.locals h (fun y => if y = x then some v else kstB (fun z => if stored.contains z then u z else m₀ z) (ps c) y) → News h₀ env.locals h (Led c ++ own) →
      wpAny (model prog w) A (execs body env) (FcPost h₀ env.locals { s with heap := h, toks := tk } Led ps stored m₀ own (P (i + 1)) Q) E { s with heap := h, toks := tk })
    (done : ∀ (c : σ) (u : Str → Option Value) h tk, P n c → Fr h₀ env.locals h (kstB (fun z => if stored.contains z then u z else m₀ z) (ps c)) → News h₀ env.locals h (Led c) → Q .next { s with heap := h, toks := tk }) :
    LoopAtV prog w A h₀ env x body Q E (.ref I) s := by
  refine loop_invN (fun i m nx => ∃ c : σ, nx = Led c ∧ (∀ p ∈ ps c, m p.1 = some p.2) ∧ (∀ z, (∀ p ∈ ps c, z ≠ p.1) → stored.contains z = false → m z = m₀ z) ∧ P i c) W hLf hwr hnw hfp hst F N ⟨c₀, rfl, hk, fun _ _ _ => rfl, hp⟩ ?_ ?_
  · intro i v m₁ news₁ h tk own hin hIt _ hoff hx9 F₁ N₁; refine exE hx9 fun c hx => ?_; clear hx9; have e9 := hx.1; subst e9; have h1 := hx.2.1; have h2 := hx.2.2.1; have hc := hx.2.2.2; clear hx
    refine wpAny_mono (turn i v c m₁ h tk own hin hIt hc (by rw [hadr]; exact hoff) (kst_fr h1 (fun z _ => h2 z) F₁) N₁) (fun f s₂ q => ?_) fun _ _ e => e
    have fin : FcEnd h₀ env.locals { s with heap := h, toks := tk } Led ps stored m₀ own (P (i + 1)) s₂ → InvEndN h₀ env.locals (fun m nx => ∃ c : σ, nx = Led c ∧ (∀ p ∈ ps c, m p.1 = some p.2) ∧ (∀ z, (∀ p ∈ ps c, z ≠ p.1) → stored.contains z = false → m z = m₀ z) ∧ P (i + 1) c) own ((Led c₀).map (·.1)) { s with heap := h, toks := tk } s₂ := by
      rintro ⟨c', h', tk', m', news', rfl, F', N', hn, ho, hk', hr', hp'⟩
      exact ⟨h', tk', m', news', Led c', rfl, F', N', hn, ho, hadr c', c', rfl, hk', hr', hp'⟩
    cases f with
    | ret v => exact q
    | brk => exact q
    | next => exact fin q
    | cont => exact fin q
  · intro m₁ nx h tk hx9 F₁ N₁; refine exE hx9 fun c hx => ?_; clear hx9; have e9 := hx.1; subst e9; have h1 := hx.2.1; have h2 := hx.2.2.1; have hc := hx.2.2.2; clear hx
    exact done c m₁ h tk hc (ksw_fr h1 h2 F₁) N₁
theorem forRange {σ : Type} {r : Addr} {a₀ b₀ : Int} {t₀ u₀ v₀ : Tok} {n : Nat} {m₀ : Str → Option Value} (Led : σ → List (Addr × Obj)) (ps : σ → List (Str × Value)) (stored : List Str) (P : Nat → σ → Prop) (c₀ : σ)
    (hh : A.handled = none) (hr : IsRange s.heap r a₀ b₀ 1 t₀ u₀ v₀) (hsmall : Builtin.Range.small a₀ b₀ 1 = true) (hn : Builtin.Range.rangeSize a₀ b₀ 1 = (n : Int))
    (F : Fr h₀ env.locals s.heap m₀) (N : News h₀ env.locals s.heap (Led c₀)) (hadr : ∀ c, (Led c).map (·.1) = (Led c₀).map (·.1)) (hk : ∀ p ∈ ps c₀, m₀ p.1 = some p.2) (hp : P 0 c₀)
    (turn : ∀ (i : Nat) (t : Tok) (c : σ) (u : Str → Option Value) h tk own, i < n → P i c → OwnOff own ((Led c).map (·.1)) → Fr h₀ env.locals h (fun y => if y = x then some (.int (a₀ + i) t) else kstB (fun z => if stored.contains z then u z else m₀ z) (ps c) y) → News h₀ env.locals h (Led c ++ own) →
      wpAny (model prog w) A (execs body env) (FcPost h₀ env.locals { s with heap := h, toks := tk } Led ps stored m₀ own (P (i + 1)) Q) E { s with heap := h, toks := tk })
    (done : ∀ (c : σ) (u : Str → Option Value) h tk, P n c → Fr h₀ env.locals h (kstB (fun z => if stored.contains z then u z else m₀ z) (ps c)) → News h₀ env.locals h (Led c) → Q .next { s with heap := h, toks := tk }) :
    wpAny (model prog w) A (pyIter (.ref r)) (fun it s₂ => LoopAtV prog w A h₀ env x body Q E it s₂) E s := by
  refine wpAny_pyIter_range hr hsmall ?_
  have W : Walks prog w A s.heap.objs.size [s.heap.objs.size] [s.heap.objs.size] n (fun i v => i < n ∧ ∃ t, v = .int (a₀ + i * 1) t)
      (fun i h => IsRangeIter h s.heap.objs.size (a₀ + (i : Nat) * 1) ((n : Int) - (i : Nat)) 1) := (Walks.range hh _ a₀ 1 n).bound
  refine forWalk Led ps stored P c₀ W ?_ ?_ ?_ ?_ (by show IsRangeIter _ _ _ _ _; rw [hn]; simpa using Heap.get?_push_size _ rfl) (F.push _) (fun p hp => ⟨Heap.get?_push_of_some _ (N p hp).1, (N p hp).2⟩) hadr hk hp ?_ ?_
  · intro hm
    exact absurd F.ns.lt ((List.mem_singleton.mp hm) ▸ Nat.lt_irrefl _)
  · intro b hb
    rw [List.mem_singleton.mp hb]
    exact next_is_new F
  · intro p hp hI
    exact absurd (Heap.lt_size (N p hp).1) ((List.mem_singleton.mp hI) ▸ Nat.lt_irrefl _)
  · intro p hp hI
    exact absurd (Heap.lt_size (N p hp).1) ((List.mem_singleton.mp hI) ▸ Nat.lt_irrefl _)
  · rintro i v c u h tk own hin ⟨_, t, rfl⟩ hc ho F' N'
    rw [Int.mul_one] at F'
    exact turn i t c u h tk own hin hc ho F' N'
  · exact done
end
/-- a statement's end, whatever ways led there -/
noncomputable def CutEnd {σ : Type} (h₀ : Heap) (L : Addr) (s : Shared) (Led : σ → List (Addr × Obj)) (ps : σ → List (Str × Value)) (stored : List Str) (m₀ : Str → Option Value) (P : σ → Prop) (s₂ : Shared) : Prop :=
  ∃ (c' : σ) (h' : Heap) (tk : Nat) (m' : Str → Option Value) (news' : List (Addr × Obj)), s₂ = { s with heap := h', toks := tk } ∧ Fr h₀ L h' m' ∧ News h₀ L h' news' ∧ (∀ p ∈ Led c', p ∈ news') ∧ (∀ p ∈ ps c', m' p.1 = some p.2) ∧ (∀ z, (∀ p ∈ ps c', z ≠ p.1) → stored.contains z = false → m' z = m₀ z) ∧ P c'
noncomputable def CutPost {σ : Type} (h₀ : Heap) (L : Addr) (s : Shared) (Led : σ → List (Addr × Obj)) (ps : σ → List (Str × Value)) (stored : List Str) (m₀ : Str → Option Value) (P : σ → Prop) (Q : Flow → Shared → Prop) (f : Flow) (s₂ : Shared) : Prop :=
  match f with
  | .next => CutEnd h₀ L s Led ps stored m₀ P s₂
  | f => Q f s₂
theorem cutEnd {σ : Type} {h₀ : Heap} {L : Addr} {s : Shared} {Led : σ → List (Addr × Obj)} {ps : σ → List (Str × Value)} {stored : List Str} {m₀ m' : Str → Option Value} {news' : List (Addr × Obj)} {P : σ → Prop} {h' : Heap} {tk : Nat} (c' : σ)
    (F : Fr h₀ L h' m') (N : News h₀ L h' news') (hn : ∀ p ∈ Led c', p ∈ news') (hk : ∀ p ∈ ps c', m' p.1 = some p.2) (hr : ∀ z, (∀ p ∈ ps c', z ≠ p.1) → stored.contains z = false → m' z = m₀ z) (hp : P c') :
    CutEnd h₀ L s Led ps stored m₀ P { s with heap := h', toks := tk } := ⟨c', h', tk, m', news', rfl, F, N, hn, hk, hr, hp⟩
theorem stCut {σ : Type} {prog : Program} {w : World} {A : Around} {E : Value → Shared → Prop} {Q : Flow → Shared → Prop} {s : Shared} {env : Env} {h₀ : Heap} {L : Addr} {m₀ : Str → Option Value} {st : Stmt} {rest : List Stmt} (_F : Fr h₀ L s.heap m₀)
    (Led : σ → List (Addr × Obj)) (ps : σ → List (Str × Value)) (stored : List Str) (P : σ → Prop)
    (h1 : wpAny (model prog w) A (exec st env) (CutPost h₀ L s Led ps stored m₀ P Q) E s)
    (h2 : ∀ (c : σ) (u : Str → Option Value) h' tk, P c → Fr h₀ L h' (kstB (fun z => if stored.contains z then u z else m₀ z) (ps c)) → News h₀ L h' (Led c) → wpAny (model prog w) A (execs rest env) Q E { s with heap := h', toks := tk }) :
    wpAny (model prog w) A (execs (st :: rest) env) Q E s := by
  refine wpAny_execs_cons (wpAny_mono h1 (fun f s₂ q => ?_) fun _ _ e => e)
  cases f with
  | next =>
    obtain ⟨c, h', tk, m', news', rfl, F, N, hn, hk, hr, hp⟩ := q
    exact h2 c m' h' tk hp (ksw_fr hk hr F) fun p hp => N p (hn p hp)
  | ret v => exact q
  | brk => exact q
  | cont => exact q
theorem someInt {i j : Int} {t : Tok} (h : i = j) : some (Value.int i t) = some (Value.int j t) := by rw [h]
theorem someStr {i j : Str} {t : Tok} (h : i = j) : some (Value.str i t) = some (Value.str j t) := by rw [h]
/-- list(range(a, b, c)) -/
theorem list_range_K {prog : Program} {w : World} {A : Around} {E : Value → Shared → Prop} {s : Shared} {h₀ : Heap} {L : Addr} {m : Str → Option Value} {Q : Value → Shared → Prop} {r : Addr} {a b c : Int} {t u v : Tok} {n : Nat} {news : List (Addr × Obj)} (hh : A.handled = none) (F : Fr h₀ L s.heap m) (N : News h₀ L s.heap news)
    (hr : IsRange s.heap r a b c t u v) (hsmall : Builtin.Range.small a b c = true) (hn : Builtin.Range.rangeSize a b c = (n : Int)) (hlen : n ≤ 2 ^ 24)
    (hQ : ∀ l h' tk (ys : List Value) k, Fr h₀ L h' m → News h₀ L h' ((l, listOf ys.toArray k) :: news) → (∀ p ∈ news, p.1 < l) → IntsAre ys ((List.range n).map fun (i : Nat) => a + (i : Int) * c) → Q (.ref l) { s with heap := h', toks := tk }) :
    wpAny (model prog w) A (call (.type "list") [.ref r]) Q E s := by
  refine list_rangeD hh F N hr hsmall hn hlen fun h' tk ys F' N' _ hn0 _ hp hc => ?_
  obtain ⟨k, N'', _⟩ := gn_enter hp F' N' hn0
  exact hQ _ h' tk ys k F' N'' (fun p hp => Heap.lt_size (N p hp).1) (IntsAre.ofCarried hc)
section
variable {prog : Program} {w : World} {A : Around} {E : Value → Shared → Prop} {Q : Flow → Shared → Prop} {s : Shared} {env : Env} {h₀ : Heap} {x : Str} {body : List Stmt}
/-- a for over a list of ints that stands below -/
theorem forInts {σ : Type} {l : Addr} {vs : List Value} {ns : List Int} {m₀ : Str → Option Value} (Led : σ → List (Addr × Obj)) (ps : σ → List (Str × Value)) (stored : List Str) (P : Nat → σ → Prop) (c₀ : σ)
    (hh : A.handled = none) (hl : h₀.IsList l vs.toArray) (hi : IntsAre vs ns)
    (F : Fr h₀ env.locals s.heap m₀) (N : News h₀ env.locals s.heap (Led c₀)) (hadr : ∀ c, (Led c).map (·.1) = (Led c₀).map (·.1)) (hk : ∀ p ∈ ps c₀, m₀ p.1 = some p.2) (hp : P 0 c₀)
    (turn : ∀ (i : Nat) (n : Int) (t : Tok) (c : σ) (u : Str → Option Value) h tk own, ns[i]? = some n → P i c → OwnOff own ((Led c).map (·.1)) → Fr h₀ env.locals h (fun y => if y = x then some (.int n t) else kstB (fun z => if stored.contains z then u z else m₀ z) (ps c) y) → News h₀ env.locals h (Led c ++ own) →
      wpAny (model prog w) A (execs body env) (FcPost h₀ env.locals { s with heap := h, toks := tk } Led ps stored m₀ own (P (i + 1)) Q) E { s with heap := h, toks := tk })
    (done : ∀ (c : σ) (u : Str → Option Value) h tk, P ns.length c → Fr h₀ env.locals h (kstB (fun z => if stored.contains z then u z else m₀ z) (ps c)) → News h₀ env.locals h (Led c) → Q .next { s with heap := h, toks := tk }) :
    wpAny (model prog w) A (pyIter (.ref l)) (fun it s₂ => LoopAtV prog w A h₀ env x body Q E it s₂) E s := by
  refine iter_invN (fun i m nx => ∃ c : σ, nx = Led c ∧ (∀ p ∈ ps c, m p.1 = some p.2) ∧ (∀ z, (∀ p ∈ ps c, z ≠ p.1) → stored.contains z = false → m z = m₀ z) ∧ P i c) hh hl hi F N ⟨c₀, rfl, hk, fun _ _ _ => rfl, hp⟩ ?_ ?_
  · intro i n t m₁ news₁ h tk own hn _ hoff hx9 F₁ N₁; refine exE hx9 fun c hx => ?_; clear hx9; have e9 := hx.1; subst e9; have h1 := hx.2.1; have h2 := hx.2.2.1; have hc := hx.2.2.2; clear hx
    refine wpAny_mono (turn i n t c m₁ h tk own hn hc (by rw [hadr]; exact hoff) (kst_fr h1 (fun z _ => h2 z) F₁) N₁) (fun f s₂ q => ?_) fun _ _ e => e
    have fin : FcEnd h₀ env.locals { s with heap := h, toks := tk } Led ps stored m₀ own (P (i + 1)) s₂ → InvEndN h₀ env.locals (fun m nx => ∃ c : σ, nx = Led c ∧ (∀ p ∈ ps c, m p.1 = some p.2) ∧ (∀ z, (∀ p ∈ ps c, z ≠ p.1) → stored.contains z = false → m z = m₀ z) ∧ P (i + 1) c) own ((Led c₀).map (·.1)) { s with heap := h, toks := tk } s₂ := by
      rintro ⟨c', h', tk', m', news', rfl, F', N', hn, ho, hk', hr', hp'⟩
      exact ⟨h', tk', m', news', Led c', rfl, F', N', hn, ho, hadr c', c', rfl, hk', hr', hp'⟩
    cases f with
    | ret v => exact q
    | brk => exact q
    | next => exact fin q
    | cont => exact fin q
  · intro m₁ nx h tk hx9 F₁ N₁; refine exE hx9 fun c hx => ?_; clear hx9; have e9 := hx.1; subst e9; have h1 := hx.2.1; have h2 := hx.2.2.1; have hc := hx.2.2.2; clear hx
    exact done c m₁ h tk hc (ksw_fr h1 h2 F₁) N₁
end
/-- a def with cells entered with the part P of the caller's ledger handed in -/
theorem cellsPass {prog : Program} {w : World} {A₀ A : Around} {s : Shared} {base h₀ : Heap} {outer : List Env} {L : Addr} {m mg mb : Str → Option Value} {env : Env} {news P rest : List (Addr × Obj)} {K : Frag}
    {p : Program} {loose : List Str} {mean : ExcName → Option Value}
    {R : Result → Shared → Prop} {name qual : Str} {params : Arguments} {body : List Stmt} {scope : Scope} {dV kV doc pm cdv ct oc : Value} {an od : Option Addr} {osl : Array (Option Value)} {f : Addr} {args : Args} {binds : List (Str × Value)}
    (B : Below A₀ base outer h₀) (F : Fr h₀ L s.heap m) (X₀ : K.In h₀) (N : News h₀ L s.heap news) (T : Top p loose mean mg mb h₀)
    (hP : ∀ q ∈ P, q ∈ news) (hrest : ∀ q ∈ rest, q ∈ news ∧ q.1 ∉ P.map (·.1))
    (hA : A.frames = some (env :: outer)) (hf : env.frame = some L) (hke : env.scope.kind = .function)
    (ho : K.lookup f = some ⟨oc, od, .func (fnOf name qual params body scope dV kV doc pm an cdv ct), osl⟩) (hcd : codeIn K cdv qual = true) (hroom : A.depth < recursionLimit)
    (hbind : BindsTo s (fnOf name qual params body scope dV kV doc pm an cdv ct) args binds) (hkind : (binds.all fun y => scope.names.lookup y.1 == some .local || scope.names.lookup y.1 == some .cell) = true)
    (hnd : ((cellsFrom 0 scope.names []).map (·.1)).Nodup)
    (h : ∀ g L' h₁ tk cells, (∀ b o, s.heap.get? b = some o → b ∉ P.map (·.1) → g.get? b = some o) → Fr g L' h₁ (bindL (envOfC qual scope L' f cdv).kindOf binds fun _ => none) → News g L' h₁ (cells ++ P) →
      CellsAre (bindC (envOfC qual scope L' f cdv).kindOf binds fun _ => none) (cellsFrom (L' + 1) scope.names []) cells → Below A base (env :: outer) g → K.In g → Top p loose mean mg mb g → h₀.StaysIn g → (∀ q ∈ P, q.1 < L') →
      wpAny (model prog w) (A.deeper (envOfC qual scope L' f cdv)) (execs body (envOfC qual scope L' f cdv))
        (fun fl s' => LeaveK h₀ L m g (fun r s' => News h₀ L s'.heap rest → R r s') (match fl with | .ret v => v | _ => .none) s')
        (fun e s' => wpAny (model prog w) (A.deeper (envOfC qual scope L' f cdv)) (leaving (envOfC qual scope L' f cdv) e) (fun _ s'' => R (.error e) s'') (fun e' s'' => R (.error e') s'') s')
        { s with heap := h₁, toks := tk })
    (hco : scope.isCoroutine = false) (hgen : scope.isGenerator = false) (hk : scope.kind = .function) : codeAny (model prog w) A (.call (.ref f) args) R s := by
  have NP : News h₀ L s.heap P := fun q hq => N q (hP q hq)
  obtain ⟨FG, BG, st, lv⟩ := groundX (R := fun r s' => News h₀ L s'.heap rest → R r s') B F NP hA hf hke
  have hX := X₀.keeps F.keep
  have hlim := T.nolimit.keeps F.keep
  refine codeAny_call_function hroom (hX _ _ ho) rfl hco hgen rfl (codeRec_of hX hcd) (hbind _ _ _ _ ?_)
  refine wpAny_newFunctionEnv_cells hk (kindsX hkind _) fun env' he s' x => ?_
  subst he
  refine ⟨hlim.keeps x.toInCall.keep, codeAny_func ?_⟩
  obtain ⟨h₁, tk, rfl, _⟩ := x.done
  have hk₁ := x.toInCall.keep
  obtain ⟨cells, NC, Y⟩ := Cl.news (h₀ := s.heap) (Nat.le_refl _) fun n c hm => ⟨x.cell n c (lookup_of_mem_nodup (cellsFrom_names scope.names 0 (s.heap.objs.size + 1) [] [] rfl ▸ hnd) hm), x.above n c hm⟩
  refine wpAny_mono (h _ s.heap.objs.size h₁ tk cells (fun b o e hb => hideAll_get _ e hb) ⟨x.toInCall.ns, fun b o e => hk₁ b o (of_hideAll _ e), Nat.le_of_eq (hideAll_size _ _)⟩ (fun p hp => ?_) Y BG (X₀.keeps st) (T.keeps st) st (fun p hp => Heap.lt_size (NP p hp).1)) (fun fl s' hl => ?_) fun _ _ y => y
  · rcases List.mem_append.mp hp with hp | hp
    · refine ⟨(NC p hp).1, (NC p hp).2.1, ?_⟩
      cases q : (hideAll s.heap (P.map (·.1))).get? p.1 with
      | none => rfl
      | some o => have := of_hideAll _ q; rw [(NC p hp).2.2] at this; cases this
    · exact ⟨hk₁ _ _ (NP p hp).1, Nat.ne_of_lt (Heap.lt_size (NP p hp).1), hideAll_none _ (List.mem_map_of_mem hp)⟩
  · refine lv _ _ hl fun q hq => ?_
    obtain ⟨L', m', news', F', N', k⟩ := hl
    obtain ⟨hq1, hq2⟩ := hrest q hq
    exact ⟨F'.keep _ _ (hideAll_get _ (N q hq1).1 hq2), (N q hq1).2.1, (N q hq1).2.2⟩
/-- a ledger less what stands at some addresses -/
inductive Minus (adr : List Addr) : List (Addr × Obj) → List (Addr × Obj) → Prop
  | nil : Minus adr [] []
  | keep {q : Addr × Obj} {r r' : List (Addr × Obj)} : (∀ b ∈ adr, q.1 ≠ b) → Minus adr r r' → Minus adr (q :: r) (q :: r')
  | drop {q : Addr × Obj} {r r' : List (Addr × Obj)} : Minus adr r r' → Minus adr (q :: r) r'
theorem Minus.spec {adr : List Addr} {news rest : List (Addr × Obj)} (M : Minus adr news rest) : ∀ q ∈ rest, q ∈ news ∧ ∀ b ∈ adr, q.1 ≠ b := by
  induction M with
  | nil => intro q hq; cases hq
  | keep h _ ih =>
    intro q hq
    rcases List.mem_cons.mp hq with rfl | hq
    · exact ⟨.head _, h⟩
    · exact ⟨.tail _ (ih q hq).1, (ih q hq).2⟩
  | drop _ ih => intro q hq; exact ⟨.tail _ (ih q hq).1, (ih q hq).2⟩
theorem Minus.two {a b : Addr} {news rest : List (Addr × Obj)} (M : Minus [a, b] news rest) : ∀ q ∈ rest, q ∈ news ∧ q.1 ≠ a ∧ q.1 ≠ b := fun q hq => ⟨(M.spec q hq).1, (M.spec q hq).2 a (.head _), (M.spec q hq).2 b (.tail _ (.head _))⟩
theorem Minus.one {a : Addr} {news rest : List (Addr × Obj)} (M : Minus [a] news rest) : ∀ q ∈ rest, q ∈ news ∧ q.1 ≠ a := fun q hq => ⟨(M.spec q hq).1, (M.spec q hq).2 a (.head _)⟩
theorem Minus.three {a b c : Addr} {news rest : List (Addr × Obj)} (M : Minus [a, b, c] news rest) : ∀ q ∈ rest, q ∈ news ∧ q.1 ≠ a ∧ q.1 ≠ b ∧ q.1 ≠ c := fun q hq => ⟨(M.spec q hq).1, (M.spec q hq).2 a (.head _), (M.spec q hq).2 b (.tail _ (.head _)), (M.spec q hq).2 c (.tail _ (.tail _ (.head _)))⟩
theorem Minus.four {a b c d : Addr} {news rest : List (Addr × Obj)} (M : Minus [a, b, c, d] news rest) : ∀ q ∈ rest, q ∈ news ∧ q.1 ≠ a ∧ q.1 ≠ b ∧ q.1 ≠ c ∧ q.1 ≠ d := fun q hq => ⟨(M.spec q hq).1, (M.spec q hq).2 a (.head _), (M.spec q hq).2 b (.tail _ (.head _)), (M.spec q hq).2 c (.tail _ (.tail _ (.head _))), (M.spec q hq).2 d (.tail _ (.tail _ (.tail _ (.head _))))⟩
theorem allLt_mem {d : Nat} : ∀ {l : List (Addr × Obj)}, AllLt d l → ∀ q ∈ l, @LT.lt Nat _ q.1 d
  | [], _, _, h => by cases h
  | p :: r, h, q, hq => by
    rcases List.mem_cons.mp hq with rfl | hq
    · exact h.1
    · exact allLt_mem h.2 q hq
theorem allLt_is {d : Nat} : ∀ {l : List (Addr × Obj)}, (∀ q ∈ l, @LT.lt Nat _ q.1 d) → AllLt d l
  | [], _ => trivial
  | p :: _, h => ⟨h p (.head _), allLt_is fun q hq => h q (.tail _ hq)⟩
/-- what lies below a frame lies off its cells -/
theorem off_cells {zs : List (Addr × Obj)} {L' : Nat} {a : Addr} (h : ∀ q ∈ zs, @LT.lt Nat _ q.1 L') (ha : ∀ q ∈ zs, q.1 ≠ a) : OwnOff zs [a, L' + 1, L' + 1 + 1, L' + 1 + 1 + 1] := by
  intro q hq b hb
  have h1 := h q hq
  rcases List.mem_cons.mp hb with rfl | hb
  · exact ha q hq
  · rcases List.mem_cons.mp hb with rfl | hb
    · exact neN (by omega)
    · rcases List.mem_cons.mp hb with rfl | hb
      · exact neN (by omega)
      · rw [List.mem_singleton.mp hb]
        exact neN (by omega)
noncomputable def less (adr : List Addr) (news : List (Addr × Obj)) : List (Addr × Obj) := news.filter fun q => !adr.contains q.1
theorem Minus.less (adr : List Addr) : ∀ news : List (Addr × Obj), Minus adr news (less adr news)
  | [] => .nil
  | q :: r => by
    unfold Mine.less
    rw [List.filter_cons]
    cases h : adr.contains q.1 with
    | true => exact .drop (Minus.less adr r)
    | false =>
      refine .keep (fun b hb e => ?_) (Minus.less adr r)
      rw [e, List.contains_iff_mem.mpr hb] at h
      cases h
/-- a ledger of which nothing has turned stands whole -/
theorem news_back {h₀ h h' : Heap} {L : Addr} {news P : List (Addr × Obj)} (N : News h₀ L h news) (hP : ∀ p ∈ P, p ∈ news) (N' : News h₀ L h' (P ++ less (P.map (·.1)) news)) : News h₀ L h' news := by
  intro q hq
  cases hc : (P.map (·.1)).contains q.1 with
  | false => exact N' q (List.mem_append_right _ (List.mem_filter.mpr ⟨hq, by rw [hc]; rfl⟩))
  | true =>
    obtain ⟨p, hp, he⟩ := List.mem_map.mp (List.contains_iff_mem.mp hc)
    have h1 := (N p (hP p hp)).1
    have h2 := (N q hq).1
    rw [he, h2] at h1
    have : p = q := Prod.ext he (Option.some.inj h1).symm
    subst this
    exact N' p (List.mem_append_left _ hp)
/-- and where one object has turned -/
theorem news_turn {h₀ h h' : Heap} {L d : Addr} {o o' : Obj} {news P : List (Addr × Obj)} {g : Obj → List (Addr × Obj)} (N : News h₀ L h news) (U : UpdF d o news g) (hP : ∀ p ∈ P, p ∈ news) (hd : d ∉ P.map (·.1)) (N' : News h₀ L h' ((d, o') :: P ++ less (d :: P.map (·.1)) news)) : News h₀ L h' (g o') := by
  obtain ⟨own, rest, rfl, hg, h1, h2⟩ := U.split
  rw [hg]
  intro q hq
  have key : ∀ q ∈ own ++ (d, o) :: rest, q.1 ≠ d → h'.get? q.1 = some q.2 ∧ q.1 ≠ L ∧ h₀.get? q.1 = none := by
    intro q hq hne
    cases hc : (P.map (·.1)).contains q.1 with
    | false => exact N' q (List.mem_append_right _ (List.mem_filter.mpr ⟨hq, by rw [List.contains_cons, hc, Bool.or_false, beq_eq_false_iff_ne.mpr hne]; rfl⟩))
    | true =>
      obtain ⟨p, hp, he⟩ := List.mem_map.mp (List.contains_iff_mem.mp hc)
      have e1 := (N p (hP p hp)).1
      have e2 := (N q hq).1
      rw [he, e2] at e1
      have : p = q := Prod.ext he (Option.some.inj e1).symm
      subst this
      exact N' p (List.mem_append_left _ (.tail _ hp))
  rcases List.mem_append.mp hq with hq | hq
  · exact key q (List.mem_append_left _ hq) (h1 q hq)
  · rcases List.mem_cons.mp hq with rfl | hq
    · exact N' _ (List.mem_append_left _ (.head _))
    · exact key q (List.mem_append_right _ (.tail _ hq)) (h2 q hq)
theorem wpGen {α : Type} {M : Model} {A : Around} {t : Sem α} {Q : α → Shared → Prop} {E : Value → Shared → Prop} {s : Shared} (h : ∀ (R : α → Shared → Prop), R = Q → wpAny M A t R (fun _ _ => False) s) : wpAny M A t Q E s := wpAny_mono (h Q rfl) (fun _ _ q => q) fun _ _ f => f.elim
theorem turnGen {α β : Type} {M : Model} {A : Around} {t : Sem α} {b : Sem β} {Q : β → Shared → Prop} {E : Value → Shared → Prop} {s : Shared} (h : ∀ (R : β → Shared → Prop), R = Q → wpAny M A t (fun _ s₃ => wpAny M A b R (fun _ _ => False) s₃) (fun _ _ => False) s) : wpAny M A t (fun _ s₃ => wpAny M A b Q E s₃) E s :=
  wpAny_mono (h Q rfl) (fun _ _ q => wpAny_mono q (fun _ _ q => q) fun _ _ f => f.elim) fun _ _ f => f.elim
theorem ofGen {α : Type} {R Q : α → Shared → Prop} (e : R = Q) {f : α} {s : Shared} (h : Q f s) : R f s := e ▸ h
end Mine
end PartKit
section PartKit2
open PySem PySem.W PyProof.Rows PySem.Spec PySem.Calls
namespace Mine
/-- a turn's end, the ledger's addresses free to change -/
noncomputable def FgEnd {σ : Type} (h₀ : Heap) (L : Addr) (s : Shared) (Led : σ → List (Addr × Obj)) (ps : σ → List (Str × Value)) (stored : List Str) (m₀ : Str → Option Value) (own : List (Addr × Obj)) (P : σ → Prop) (s₂ : Shared) : Prop :=
  ∃ (c' : σ) (h' : Heap) (tk : Nat) (m' : Str → Option Value) (news' : List (Addr × Obj)), s₂ = { s with heap := h', toks := tk } ∧ Fr h₀ L h' m' ∧ News h₀ L h' news' ∧ (∀ p ∈ Led c', p ∈ news') ∧ (∀ p ∈ own, p ∈ news') ∧ OwnOff own ((Led c').map (·.1)) ∧ (∀ p ∈ ps c', m' p.1 = some p.2) ∧ (∀ z, (∀ p ∈ ps c', z ≠ p.1) → stored.contains z = false → m' z = m₀ z) ∧ P c'
noncomputable def FgPost {σ : Type} (h₀ : Heap) (L : Addr) (s : Shared) (Led : σ → List (Addr × Obj)) (ps : σ → List (Str × Value)) (stored : List Str) (m₀ : Str → Option Value) (own : List (Addr × Obj)) (P : σ → Prop) (Q : Flow → Shared → Prop) (f : Flow) (s₂ : Shared) : Prop :=
  match f with
  | .ret v => Q (.ret v) s₂
  | .brk => Q .next s₂
  | _ => FgEnd h₀ L s Led ps stored m₀ own P s₂
theorem fgEnd {σ : Type} {h₀ : Heap} {L : Addr} {s : Shared} {Led : σ → List (Addr × Obj)} {ps : σ → List (Str × Value)} {stored : List Str} {m₀ m' : Str → Option Value} {own news' : List (Addr × Obj)} {P : σ → Prop} {h' : Heap} {tk : Nat} (c' : σ)
    (F : Fr h₀ L h' m') (N : News h₀ L h' news') (hn : ∀ p ∈ Led c', p ∈ news') (ho : ∀ p ∈ own, p ∈ news') (hoff : OwnOff own ((Led c').map (·.1))) (hk : ∀ p ∈ ps c', m' p.1 = some p.2) (hr : ∀ z, (∀ p ∈ ps c', z ≠ p.1) → stored.contains z = false → m' z = m₀ z) (hp : P c') :
    FgEnd h₀ L s Led ps stored m₀ own P { s with heap := h', toks := tk } := ⟨c', h', tk, m', news', rfl, F, N, hn, ho, hoff, hk, hr, hp⟩
section
variable {prog : Program} {w : World} {A : Around} {E : Value → Shared → Prop} {Q : Flow → Shared → Prop} {s : Shared} {env : Env} {h₀ : Heap} {target : Expr} {body : List Stmt}
/-- a for, of any target, over any walk of an iterator, by a state of one's own -/
theorem turnsState {σ : Type} {I : Addr} {fp wr : List Addr} {n : Nat} {It Md : Nat → Value → Heap → Prop} {St : Nat → Heap → Prop} {m₀ : Str → Option Value} (Led : σ → List (Addr × Obj)) (ps : σ → List (Str × Value)) (stored : List Str) (P : Nat → σ → Prop) (c₀ : σ)
    (W : KTurns prog w A target I fp wr n It Md St) (hLf : env.locals ∉ fp) (hwr : ∀ b ∈ wr, h₀.get? b = none) (hfp : ∀ q ∈ Led c₀, q.1 ∉ fp) (hst : St 0 s.heap) (hex : ∀ i h, St i h → ∀ b ∈ fp, ∃ o, h.get? b = some o)
    (F : Fr h₀ env.locals s.heap m₀) (N : News h₀ env.locals s.heap (Led c₀)) (hk : ∀ p ∈ ps c₀, m₀ p.1 = some p.2) (hp : P 0 c₀)
    (turn : ∀ (i : Nat) (v : Value) (c : σ) (u : Str → Option Value) h tk own, i < n → It i v h → P i c → OwnOff own ((Led c).map (·.1)) → Fr h₀ env.locals h (kstB (fun z => if stored.contains z then u z else m₀ z) (ps c)) → News h₀ env.locals h (Led c ++ own) →
      wpAny (model prog w) A (assign target env v) (fun _ s₃ => wpAny (model prog w) A (execs body env) (FgPost h₀ env.locals { s with heap := h, toks := tk } Led ps stored m₀ own (P (i + 1)) Q) E s₃) E { s with heap := h, toks := tk })
    (done : ∀ (c : σ) (u : Str → Option Value) h tk, P n c → Fr h₀ env.locals h (kstB (fun z => if stored.contains z then u z else m₀ z) (ps c)) → News h₀ env.locals h (Led c) → Q .next { s with heap := h, toks := tk }) :
    TurnsAt prog w A h₀ env target body Q E (.ref I) s := by
  refine ⟨I, fp, wr, n, It, Md, St, m₀, Led c₀, fun i m nx => ∃ c : σ, nx = Led c ∧ (∀ q ∈ nx, q.1 ∉ fp) ∧ (∀ p ∈ ps c, m p.1 = some p.2) ∧ (∀ z, (∀ p ∈ ps c, z ≠ p.1) → stored.contains z = false → m z = m₀ z) ∧ P i c, rfl, W, hLf, hwr, fun p hp hw => hfp p hp (W.sub _ hw), hst, F, N, ⟨c₀, rfl, hfp, hk, fun _ _ _ => rfl, hp⟩, ?_, ?_⟩
  · intro i v m₁ nx h tk own hin hIt hx9 hoff hown _ hall hst1 F₁ N₁; refine exE hx9 fun c hx => ?_; clear hx9; have e9 := hx.1; subst e9; have hfpc := hx.2.1; have h1 := hx.2.2.1; have h2 := hx.2.2.2.1; have hc := hx.2.2.2.2; clear hx
    have hsep : OwnOff own ((Led c).map (·.1)) := by
      intro p hp b hb e
      obtain ⟨q, hq, rfl⟩ := List.mem_map.mp hb
      exact hfpc q hq (e ▸ hown p hp)
    have N₂ : News h₀ env.locals h (Led c ++ own) := fun p hp => N₁ p ((List.mem_append.mp hp).elim (fun h => List.mem_append.mpr (.inr h)) fun h => List.mem_append.mpr (.inl h))
    refine wpAny_mono (turn i v c m₁ h tk own hin hIt hc hsep (ksw_fr h1 h2 F₁) N₂) (fun _ s₃ q => wpAny_mono q (fun f s₂ q => ?_) fun _ _ e => e) fun _ _ e => e
    have fin : FgEnd h₀ env.locals { s with heap := h, toks := tk } Led ps stored m₀ own (P (i + 1)) s₂ → LoopStepU h₀ env.locals wr own (fun m nx => ∃ c : σ, nx = Led c ∧ (∀ q ∈ nx, q.1 ∉ fp) ∧ (∀ p ∈ ps c, m p.1 = some p.2) ∧ (∀ z, (∀ p ∈ ps c, z ≠ p.1) → stored.contains z = false → m z = m₀ z) ∧ P (i + 1) c) { s with heap := h, toks := tk } .next s₂ := by
      rintro ⟨c', h', tk', m', news', rfl, F', N', hn, ho, hoff', hk', hr', hp'⟩
      have hf' : ∀ q ∈ Led c', q.1 ∉ fp := by
        intro q hq hf
        have hq2 := (N' q (hn q hq)).2.2
        obtain ⟨o, ho2⟩ := hex _ _ hst1 _ hf
        exact hoff' _ (hall _ hf hq2 o ho2) q.1 (List.mem_map.mpr ⟨q, hq, rfl⟩) rfl
      exact ⟨rfl, h', tk', m', Led c', rfl, F', fun p hp => N' p ((List.mem_append.mp hp).elim (ho p) (hn p)), fun p hp hq => hf' p hp (W.sub _ hq), c', rfl, hf', hk', hr', hp'⟩
    cases f with
    | ret v => exact .ret q
    | brk => exact .brk q
    | next => exact .next (fin q)
    | cont => exact .cont (fin q)
  · intro h tk m₁ nx F₁ N₁ _ hx9; refine exE hx9 fun c hx => ?_; clear hx9; have e9 := hx.1; subst e9; have h1 := hx.2.2.1; have h2 := hx.2.2.2.1; have hc := hx.2.2.2.2; clear hx
    exact done c m₁ h tk hc (ksw_fr h1 h2 F₁) N₁
theorem letGo_rangeiter {I : Addr} {x l c : Int} {v : Value} {Q' : Unit → Shared → Prop} {s' : Shared} (hit : IsRangeIter s'.heap I x l c) (h : Q' () s') :
    wpAny (model prog w) A (letOwnedTupleGo target (.ref I) v) Q' E s' := by
  unfold letOwnedTupleGo
  cases target <;> first
    | exact wpAny_pure h
    | (cases v <;> first
        | exact wpAny_pure h
        | (refine wpAny_bind (wpAny_load hit ?_)
           exact wpAny_pure h))
/-- over a range -/
theorem rangeTurns {σ : Type} {r : Addr} {a₀ b₀ : Int} {t₀ u₀ v₀ : Tok} (n : Nat) {m₀ : Str → Option Value} (Led : σ → List (Addr × Obj)) (ps : σ → List (Str × Value)) (stored : List Str) (P : Nat → σ → Prop) (c₀ : σ)
    (hh : A.handled = none) (hr : IsRange s.heap r a₀ b₀ 1 t₀ u₀ v₀) (hsmall : Builtin.Range.small a₀ b₀ 1 = true) (hn : Builtin.Range.rangeSize a₀ b₀ 1 = (n : Int))
    (F : Fr h₀ env.locals s.heap m₀) (N : News h₀ env.locals s.heap (Led c₀)) (hk : ∀ p ∈ ps c₀, m₀ p.1 = some p.2) (hp : P 0 c₀)
    (turn : ∀ (i : Nat) (t : Tok) (c : σ) (u : Str → Option Value) h tk own, i < n → P i c → OwnOff own ((Led c).map (·.1)) → Fr h₀ env.locals h (kstB (fun z => if stored.contains z then u z else m₀ z) (ps c)) → News h₀ env.locals h (Led c ++ own) →
      wpAny (model prog w) A (assign target env (.int (a₀ + i) t)) (fun _ s₃ => wpAny (model prog w) A (execs body env) (FgPost h₀ env.locals { s with heap := h, toks := tk } Led ps stored m₀ own (P (i + 1)) Q) E s₃) E { s with heap := h, toks := tk })
    (done : ∀ (c : σ) (u : Str → Option Value) h tk, P n c → Fr h₀ env.locals h (kstB (fun z => if stored.contains z then u z else m₀ z) (ps c)) → News h₀ env.locals h (Led c) → Q .next { s with heap := h, toks := tk }) :
    wpAny (model prog w) A (pyIter (.ref r)) (fun it s₂ => TurnsAt prog w A h₀ env target body Q E it s₂) E s := by
  refine wpAny_pyIter_range hr hsmall ?_
  have W : Walks prog w A s.heap.objs.size [s.heap.objs.size] [s.heap.objs.size] n (fun i v => i < n ∧ ∃ t, v = .int (a₀ + i * 1) t)
      (fun i h => IsRangeIter h s.heap.objs.size (a₀ + (i : Nat) * 1) ((n : Int) - (i : Nat)) 1) := (Walks.range hh _ a₀ 1 n).bound
  refine turnsState Led ps stored P c₀ (KTurns.ofWalks W fun i v s Q E st q => letGo_rangeiter st q) ?_ ?_ ?_ (by show IsRangeIter _ _ _ _ _; rw [hn]; simpa using Heap.get?_push_size _ rfl) ?_ (F.push _) (fun p hp => ⟨Heap.get?_push_of_some _ (N p hp).1, (N p hp).2⟩) hk hp ?_ ?_
  · intro hm
    exact absurd F.ns.lt ((List.mem_singleton.mp hm) ▸ Nat.lt_irrefl _)
  · intro b hb
    rw [List.mem_singleton.mp hb]
    exact next_is_new F
  · intro p hp hI
    exact absurd (Heap.lt_size (N p hp).1) ((List.mem_singleton.mp hI) ▸ Nat.lt_irrefl _)
  · intro i h st b hb
    rw [List.mem_singleton.mp hb]
    exact ⟨_, st⟩
  · rintro i v c u h tk own hin ⟨_, t, rfl⟩ hc ho F' N'
    rw [Int.mul_one]
    exact turn i t c u h tk own hin hc ho F' N'
  · exact done
/-- over the pairs of a list of ints that stands below -/
theorem enumTurns {σ : Type} {elts : List Expr} {k : Nat} {pos : Pos} {l : Addr} {vs : List Value} {ns : List Int} {m₀ : Str → Option Value} (Led : σ → List (Addr × Obj)) (ps : σ → List (Str × Value)) (stored : List Str) (P : Nat → σ → Prop) (c₀ : σ)
    (hh : A.handled = none) (hl : h₀.IsList l vs.toArray) (hi : IntsAre vs ns)
    (F : Fr h₀ env.locals s.heap m₀) (N : News h₀ env.locals s.heap (Led c₀)) (hk : ∀ p ∈ ps c₀, m₀ p.1 = some p.2) (hp : P 0 c₀)
    (turn : ∀ (i : Nat) (n : Int) (T : Addr) (t t' : Tok) (c : σ) (u : Str → Option Value) h tk own, i < ns.length → ns[i]? = some n → IsTup h T #[.int (i : Int) t, .int n t'] → P i c → OwnOff own ((Led c).map (·.1)) → Fr h₀ env.locals h (kstB (fun z => if stored.contains z then u z else m₀ z) (ps c)) → News h₀ env.locals h (Led c ++ own) →
      wpAny (model prog w) A (assign (.Tuple elts k pos) env (.ref T)) (fun _ s₃ => wpAny (model prog w) A (execs body env) (FgPost h₀ env.locals { s with heap := h, toks := tk } Led ps stored m₀ own (P (i + 1)) Q) E s₃) E { s with heap := h, toks := tk })
    (done : ∀ (c : σ) (u : Str → Option Value) h tk, P ns.length c → Fr h₀ env.locals h (kstB (fun z => if stored.contains z then u z else m₀ z) (ps c)) → News h₀ env.locals h (Led c) → Q .next { s with heap := h, toks := tk }) :
    wpAny (model prog w) A (call (.type "enumerate") [.ref l]) (fun xv s₁ => wpAny (model prog w) A (pyIter xv) (fun it s₂ => TurnsAt prog w A h₀ env (.Tuple elts k pos) body Q E it s₂) E s₁) E s := by
  have hls : s.heap.IsList l vs.toArray := hl.at fun o e => F.keep l o e
  obtain ⟨ol, hol, _⟩ := id hl
  have hLs : env.locals < s.heap.objs.size := F.ns.lt
  have hlt : l < s.heap.objs.size := Heap.lt_size (F.keep _ _ hol)
  have hlL : l < env.locals := Nat.lt_of_lt_of_le (Heap.lt_size hol) F.above
  have hlen : vs.toArray.size = ns.length := by simp [hi.length]
  refine call_enumerate_list hls fun h' hE hI hsz hk' => ?_
  refine wpAny_pyIter_enum hE ?_
  have W := KTurns.ofWalksU (elts := elts) (k := k) (pos := pos) (WalksT.enumerate (prog := prog) (w := w) hh (s.heap.objs.size + 1) s.heap.objs.size l (Nat.succ_ne_self _) (ktu_ne 1 hlt) (Nat.ne_of_lt hlt) vs.toArray).toU
  rw [hlen] at W
  refine turnsState (s := { s with heap := h' }) Led ps stored P c₀ W ?_ ?_ ?_ ⟨⟨.none, hE⟩, hI, hls.at fun o e => hk' l o e⟩ ?_ (F.keeps hk') (N.grown hk') hk hp ?_ ?_
  · intro hI'
    have hb' : env.locals = s.heap.objs.size + 1 ∨ env.locals = s.heap.objs.size ∨ env.locals = l := by simpa using hI'
    rcases hb' with e | e | e
    · exact ktu_ne 1 hLs e
    · exact Nat.ne_of_lt hLs e
    · exact Nat.ne_of_gt hlL e
  · intro b hb
    have hb' : b = s.heap.objs.size + 1 ∨ b = s.heap.objs.size := by simpa using hb
    rcases hb' with rfl | rfl
    · exact ktu_new F (Nat.le_add_right _ _)
    · exact ktu_new F (Nat.le_refl _)
  · intro p hp hI'
    have hb' : p.1 = s.heap.objs.size + 1 ∨ p.1 = s.heap.objs.size ∨ p.1 = l := by simpa using hI'
    have hlp := Heap.lt_size (N p hp).1
    rcases hb' with e | e | e
    · exact ktu_ne 1 hlp e
    · exact Nat.ne_of_lt hlp e
    · have h3 := (N p hp).2.2
      rw [e, hol] at h3
      cases h3
  · rintro i h ⟨⟨old, he⟩, ⟨oi, hoi, _⟩, ⟨o2, ho2, _⟩⟩ b hb
    have hb' : b = s.heap.objs.size + 1 ∨ b = s.heap.objs.size ∨ b = l := by simpa using hb
    rcases hb' with rfl | rfl | rfl
    · exact ⟨_, he⟩
    · exact ⟨_, hoi⟩
    · exact ⟨_, ho2⟩
  · rintro i v c u h tk own hin ⟨T, vals, rfl, ⟨t, x, hx, rfl⟩, hT⟩ hc ho F' N'
    have hx' : vs[i]? = some x := by simpa using hx
    obtain ⟨t', ht'⟩ := hi.get i ns[i] (by simp [hin])
    rw [ht'] at hx'
    cases hx'
    exact turn i ns[i] T t t' c u h tk own hin (by simp [hin]) hT hc ho F' N'
  · exact done
/-- over a made list, which stands off the state's ledger -/
theorem listTurns {σ : Type} {ax : Addr} {vs : List Value} {k : Nat} {m₀ : Str → Option Value} (Led : σ → List (Addr × Obj)) (ps : σ → List (Str × Value)) (stored : List Str) (P : Nat → σ → Prop) (c₀ : σ)
    (hh : A.handled = none) (F : Fr h₀ env.locals s.heap m₀) (N : News h₀ env.locals s.heap ((ax, listOf vs.toArray k) :: Led c₀)) (hax : ∀ q ∈ Led c₀, q.1 ≠ ax) (hk : ∀ p ∈ ps c₀, m₀ p.1 = some p.2) (hp : P 0 c₀)
    (turn : ∀ (i : Nat) (v : Value) (c : σ) (u : Str → Option Value) h tk own, i < vs.length → vs[i]? = some v → P i c → OwnOff own ((Led c).map (·.1)) → Fr h₀ env.locals h (kstB (fun z => if stored.contains z then u z else m₀ z) (ps c)) → News h₀ env.locals h (Led c ++ own) →
      wpAny (model prog w) A (assign target env v) (fun _ s₃ => wpAny (model prog w) A (execs body env) (FgPost h₀ env.locals { s with heap := h, toks := tk } Led ps stored m₀ own (P (i + 1)) Q) E s₃) E { s with heap := h, toks := tk })
    (done : ∀ (c : σ) (u : Str → Option Value) h tk, P vs.length c → Fr h₀ env.locals h (kstB (fun z => if stored.contains z then u z else m₀ z) (ps c)) → News h₀ env.locals h (Led c) → Q .next { s with heap := h, toks := tk }) :
    wpAny (model prog w) A (pyIter (.ref ax)) (fun it s₂ => TurnsAt prog w A h₀ env target body Q E it s₂) E s := by
  have hm := N _ (.head _)
  have N₁ : News h₀ env.locals s.heap (Led c₀) := fun p hp => N p (.tail _ hp)
  have hl : s.heap.IsList ax vs.toArray := ⟨_, hm.1, rfl, k, rfl⟩
  have hlt : ax < s.heap.objs.size := Heap.lt_size hm.1
  have hne : ax ≠ s.heap.objs.size := Nat.ne_of_lt hlt
  refine wpAny_pyIter_list hl ?_
  have W := KTurns.ofWalks (target := target) (Walks.list (prog := prog) (w := w) hh s.heap.objs.size ax hne vs.toArray) fun i v s Q E st q => letGo_listiter st.1 q
  have hlen : vs.toArray.size = vs.length := by simp
  rw [hlen] at W
  refine turnsState Led ps stored P c₀ W ?_ ?_ ?_ ⟨⟨_, Heap.get?_push_size _ rfl, rfl, rfl⟩, hl.at fun o e => Heap.get?_push_of_some _ e⟩ ?_ (F.push _) (fun p hp => ⟨Heap.get?_push_of_some _ (N₁ p hp).1, (N₁ p hp).2⟩) hk hp ?_ ?_
  · intro hI
    rcases List.mem_cons.mp hI with e | hI
    · exact absurd F.ns.lt (e ▸ Nat.lt_irrefl _)
    · exact hm.2.1 (List.mem_singleton.mp hI).symm
  · intro b hb
    rw [List.mem_singleton.mp hb]
    exact next_is_new F
  · intro p hp hI
    rcases List.mem_cons.mp hI with e | hI
    · exact absurd (Heap.lt_size (N₁ p hp).1) (e ▸ Nat.lt_irrefl _)
    · exact hax p hp (List.mem_singleton.mp hI)
  · rintro i h ⟨⟨o1, ho1, _⟩, ⟨o2, ho2, _⟩⟩ b hb
    have hb' : b = s.heap.objs.size ∨ b = ax := by simpa using hb
    rcases hb' with rfl | rfl
    · exact ⟨_, ho1⟩
    · exact ⟨_, ho2⟩
  · rintro i v c u h tk own hin hx hc ho F' N'
    exact turn i v c u h tk own hin (by simpa using hx) hc ho F' N'
  · exact done
end
theorem fr_base {h₀ h : Heap} {L : Addr} {m : Str → Option Value} {ps : List (Str × Value)} (F : Fr h₀ L h m) (h1 : ∀ p ∈ ps, m p.1 = some p.2) : ∃ U : Str → Option Value, Fr h₀ L h (kstB U ps) := by
  refine ⟨m, ?_⟩
  have em : kstB m ps = m := funext fun y => kstB_eq h1 fun _ => rfl
  rw [em]
  exact F
theorem ints7 {G : List Value → Prop} {vs : List Value} {ns : List Int} (h : IntsAre vs ns) (hl : ns.length = 7) (k : ∀ n0 n1 n2 n3 n4 n5 n6 t0 t1 t2 t3 t4 t5 t6, G [.int n0 t0, .int n1 t1, .int n2 t2, .int n3 t3, .int n4 t4, .int n5 t5, .int n6 t6]) : G vs := by
  revert h
  refine l_cons (G := fun l => IntsAre vs (l) → G vs) hl fun n0 _ hl => ?_
  refine l_cons (G := fun l => IntsAre vs (n0 :: l) → G vs) hl fun n1 _ hl => ?_
  refine l_cons (G := fun l => IntsAre vs (n0 :: n1 :: l) → G vs) hl fun n2 _ hl => ?_
  refine l_cons (G := fun l => IntsAre vs (n0 :: n1 :: n2 :: l) → G vs) hl fun n3 _ hl => ?_
  refine l_cons (G := fun l => IntsAre vs (n0 :: n1 :: n2 :: n3 :: l) → G vs) hl fun n4 _ hl => ?_
  refine l_cons (G := fun l => IntsAre vs (n0 :: n1 :: n2 :: n3 :: n4 :: l) → G vs) hl fun n5 _ hl => ?_
  refine l_cons (G := fun l => IntsAre vs (n0 :: n1 :: n2 :: n3 :: n4 :: n5 :: l) → G vs) hl fun n6 _ hl => ?_
  refine l_nil (G := fun l => IntsAre vs (n0 :: n1 :: n2 :: n3 :: n4 :: n5 :: n6 :: l) → G vs) hl ?_
  intro h
  refine ia_cons (G := fun v => G (v)) h fun t0 _ h => ?_
  refine ia_cons (G := fun v => G (.int n0 t0 :: v)) h fun t1 _ h => ?_
  refine ia_cons (G := fun v => G (.int n0 t0 :: .int n1 t1 :: v)) h fun t2 _ h => ?_
  refine ia_cons (G := fun v => G (.int n0 t0 :: .int n1 t1 :: .int n2 t2 :: v)) h fun t3 _ h => ?_
  refine ia_cons (G := fun v => G (.int n0 t0 :: .int n1 t1 :: .int n2 t2 :: .int n3 t3 :: v)) h fun t4 _ h => ?_
  refine ia_cons (G := fun v => G (.int n0 t0 :: .int n1 t1 :: .int n2 t2 :: .int n3 t3 :: .int n4 t4 :: v)) h fun t5 _ h => ?_
  refine ia_cons (G := fun v => G (.int n0 t0 :: .int n1 t1 :: .int n2 t2 :: .int n3 t3 :: .int n4 t4 :: .int n5 t5 :: v)) h fun t6 _ h => ?_
  exact ia_nil (G := fun v => G (.int n0 t0 :: .int n1 t1 :: .int n2 t2 :: .int n3 t3 :: .int n4 t4 :: .int n5 t5 :: .int n6 t6 :: v)) h (k n0 n1 n2 n3 n4 n5 n6 t0 t1 t2 t3 t4 t5 t6)
/-- the table of a code whose nested def has been made, or has not -/
abbrev tabO (a b : Nat) (c' : Addr) : Obj := tabObj #[rawInt ((a : Nat) : Int), rawInt ((b : Nat) : Int), .ref c']
noncomputable def tabL (T : Addr) (a b : Nat) : Option (Addr × Obj) → List (Addr × Obj)
  | none => [(T, tabObj #[])]
  | some (c', oc) => [(T, tabO a b c'), (c', oc)]
noncomputable def tabL_o : Option (Addr × Obj) → Obj
  | none => tabObj #[]
  | some c => tabO 68 4 c.1
theorem tb_cases : ∀ tb : Option (Addr × Obj), tb = none ∨ ∃ c o, tb = some (c, o)
  | none => .inl rfl
  | some (c, o) => .inr ⟨c, o, rfl⟩
/-- two ways that come to the same place: the place is stated by the first of them -/
theorem share10 {R : Prop} {A B C D E F G H I J : Type} {P : A → B → C → D → E → F → G → H → I → J → Prop} (use : (∀ a b c d e f g h i j, P a b c d e f g h i j) → R) (main : ∀ a b c d e f g h i j, P a b c d e f g h i j) : R := use main
theorem tabL_hd : ∀ tb : Option (Addr × Obj), (37, tabL_o tb) ∈ tabL 37 68 4 tb
  | none => .head _
  | some (_, _) => .head _
theorem share7 {R : Prop} {A B C D E F G : Type} {P : A → B → C → D → E → F → G → Prop} (use : (∀ a b c d e f g, P a b c d e f g) → R) (main : ∀ a b c d e f g, P a b c d e f g) : R := use main
end Mine
end PartKit2
section PartPStr
open PySem PySem.W PyProof.Rows PySem.Spec PySem.Calls PySem.Builtin.Str
namespace Mine
/-- the text of these codes -/
noncomputable def S (l : List Nat) : Str := ⟨l.toArray⟩
theorem S_len (l : List Nat) : (S l).length = l.length := by simp [S, Str.length]
theorem S_inj {l k : List Nat} : S l = S k ↔ l = k := by
  constructor
  · intro h
    have := congrArg (fun x : Str => x.cps.toList) h
    simpa [S] using this
  · rintro rfl; rfl
theorem S_beq (l k : List Nat) : (S l == S k) = (l == k) := by
  rw [Bool.eq_iff_iff]
  simp [beq_iff_eq, S_inj]
theorem slice_is {l : List Nat} {lo hi : Option Int} {a b : Nat} (h : strSliceIndices lo hi 1 l.length = strSliceIndices (some (a : Int)) (some (b : Int)) 1 l.length) (hab : a ≤ b) (hb : b ≤ l.length) :
    Txt.slice (S l) lo hi = S ((l.drop a).take (b - a)) := by
  unfold Txt.slice
  rw [S_len, h]
  have e : (strSliceIndices (some (a : Int)) (some (b : Int)) 1 l.length).filterMap ((S l).cps[·]?) = (l.drop a).take (b - a) := by
    have := StrLaws.sliced_plain (S l) hab (by rw [S_len]; exact hb)
    rw [S_len] at this
    simpa [S] using this
  rw [e, StrLaws.strSliceIndices_plain hab hb]
  simp only [List.length_map, List.length_range]
  split
  · rename_i hq
    have hq' : b - a = l.length := by simpa using hq
    have : a = 0 := by omega
    subst this
    rw [List.drop_zero, hq', List.take_length]
  · rfl
theorem slice_from {l : List Nat} {k : Nat} (h : k ≤ l.length) : Txt.slice (S l) (some (k : Int)) none = S (l.drop k) := by
  rw [slice_is (a := k) (b := l.length) ?_ h (Nat.le_refl _)]
  · rw [show l.length - k = (l.drop k).length by simp, List.take_length]
  · unfold strSliceIndices
    simp only [show (1 : Int) > 0 by decide, if_true]
    rw [if_neg (by omega), if_neg (by omega)]
    congr 1
    lia
theorem slice_all {l : List Nat} : Txt.slice (S l) none none = S l := by
  rw [slice_is (a := 0) (b := l.length) ?_ (Nat.zero_le _) (Nat.le_refl _)]
  · simp
  · unfold strSliceIndices
    simp only [show (1 : Int) > 0 by decide, if_true]
    rw [if_neg (by omega), if_neg (by omega)]
    congr 1 <;> lia
theorem slice_upto {l : List Nat} {k : Nat} (h : k ≤ l.length) : Txt.slice (S l) none (some (k : Int)) = S (l.take k) := by
  rw [slice_is (a := 0) (b := k) ?_ (Nat.zero_le _) h]
  · simp
  · unfold strSliceIndices
    simp only [show (1 : Int) > 0 by decide, if_true]
    rw [if_neg (by omega), if_neg (by omega)]
    congr 1 <;> omega
theorem slice_cut {l : List Nat} {k : Nat} (h : k ≤ l.length) (h0 : 0 < k) : Txt.slice (S l) none (some (-(k : Int))) = S (l.take (l.length - k)) := by
  rw [slice_is (a := 0) (b := l.length - k) ?_ (Nat.zero_le _) (Nat.sub_le _ _)]
  · simp
  · unfold strSliceIndices
    simp only [show (1 : Int) > 0 by decide, if_true]
    rw [if_pos (by omega), if_neg (by omega), if_neg (by omega)]
    congr 1 <;> lia
theorem slice_mid {l : List Nat} {i j : Nat} (h : i ≤ j) (hj : j ≤ l.length) : Txt.slice (S l) (some (i : Int)) (some (j : Int)) = S ((l.drop i).take (j - i)) := slice_is rfl h hj
theorem item_at {l : List Nat} {k : Nat} (h : k < l.length) : Txt.item (S l) (k : Int) = S [l.getD k 0] := by
  unfold Txt.item Txt.charAt seqIndex?
  rw [S_len]
  simp only [show ¬ ((k : Int) < 0) by omega, if_false, show (0 : Int) ≤ k by omega, show (k : Int) < l.length by omega, decide_true, Bool.and_self, if_true, Option.bind_some, Int.toNat_natCast]
  simp [S, h]
theorem item_back {l : List Nat} {k : Nat} (h : k < l.length) : Txt.item (S l) (-(k : Int) - 1) = S [l.getD (l.length - 1 - k) 0] := by
  unfold Txt.item Txt.charAt seqIndex?
  rw [S_len]
  have e : (-(k : Int) - 1 + (l.length : Int)).toNat = l.length - 1 - k := by
    rw [show -(k : Int) - 1 + (l.length : Int) = ((l.length - 1 - k : Nat) : Int) by lia, Int.toNat_natCast]
  simp only [show (-(k : Int) - 1 < 0) by omega, if_true, show (0 : Int) ≤ -(k : Int) - 1 + l.length by omega, show -(k : Int) - 1 + (l.length : Int) < l.length by omega, decide_true, Bool.and_self, Option.bind_some, e]
  have h2 : l.length - 1 - k < l.length := by omega
  simp [S, h2]
end Mine
end PartPStr
section PartPLev
namespace Mine
open PySem
/-- how many signs two texts share at their beginning -/
noncomputable def cpl : List Nat → List Nat → Nat
  | a :: as, b :: bs => if a = b then cpl as bs + 1 else 0
  | _, _ => 0
theorem cpl_le_left : ∀ a b : List Nat, cpl a b ≤ a.length
  | a :: as, b :: bs => by
    unfold cpl
    split
    · have := cpl_le_left as bs; simp; omega
    · simp
  | [], _ => by simp [cpl]
  | _ :: _, [] => by simp [cpl]
theorem cpl_comm : ∀ a b : List Nat, cpl a b = cpl b a
  | a :: as, b :: bs => by
    unfold cpl
    by_cases h : a = b
    · subst h; simp [cpl_comm as bs]
    · simp [h, Ne.symm h]
  | [], [] => rfl
  | [], _ :: _ => by simp [cpl]
  | _ :: _, [] => by simp [cpl]
theorem cpl_le_right (a b : List Nat) : cpl a b ≤ b.length := by rw [cpl_comm]; exact cpl_le_left b a
theorem cpl_step {a b : List Nat} {k : Nat} (h : cpl a b = k + cpl (a.drop k) (b.drop k)) (h2 : 0 < cpl (a.drop k) (b.drop k)) : cpl a b = (k + 1) + cpl (a.drop (k + 1)) (b.drop (k + 1)) := by
  cases ha : a.drop k with
  | nil => rw [ha] at h2; simp [cpl] at h2
  | cons x xs =>
    cases hb : b.drop k with
    | nil => rw [ha, hb] at h2; simp [cpl] at h2
    | cons y ys =>
      rw [ha, hb] at h h2
      have e1 : a.drop (k + 1) = xs := by rw [← List.drop_drop, ha]; rfl
      have e2 : b.drop (k + 1) = ys := by rw [← List.drop_drop, hb]; rfl
      rw [e1, e2]
      have e3 : cpl (x :: xs) (y :: ys) = if x = y then cpl xs ys + 1 else 0 := rfl
      rw [e3] at h h2
      split at h2
      · rename_i hq; rw [if_pos hq] at h; lia
      · exact absurd h2 (Nat.lt_irrefl 0)
theorem cpl_pos {a b : List Nat} {k : Nat} : 0 < cpl (a.drop k) (b.drop k) ↔ k < a.length ∧ k < b.length ∧ a.getD k 0 = b.getD k 0 := by
  by_cases h1 : k < a.length
  · by_cases h2 : k < b.length
    · rw [List.drop_eq_getElem_cons h1, List.drop_eq_getElem_cons h2]
      unfold cpl
      simp only [h1, h2, true_and, List.getD_eq_getElem?_getD, List.getElem?_eq_getElem h1, List.getElem?_eq_getElem h2, Option.getD_some]
      split <;> simp_all
    · simp only [h2, false_and, and_false, iff_false]
      rw [List.drop_eq_nil_of_le (Nat.le_of_not_lt h2)]
      cases a.drop k <;> simp [cpl]
  · simp only [h1, false_and, iff_false]
    rw [List.drop_eq_nil_of_le (Nat.le_of_not_lt h1)]
    simp [cpl]
/-- one row of the table: the signs' costs, the old row, the corner, the left, the least so far -/
noncomputable def cellGo (cost : Nat → Int) : List Nat → List Int → Int → Int → Int → List Int × Int × Int
  | x :: xs, o :: os, d, r, mn =>
    let r' := min (min r o + 2) (d + cost x)
    let q := cellGo cost xs os o r' (if r' < mn then r' else mn)
    (r' :: q.1, q.2)
  | _, _, _, r, mn => ([], r, mn)
noncomputable def big : Int := 9223372036854775807
/-- row after row -/
noncomputable def outGo (cost : Nat → Nat → Int) (a : List Nat) (mc : Int) : List Nat → Nat → List Int → Int → Int
  | [], _, _, r => r
  | c :: cs, k, row, _ =>
    let q := cellGo (cost c) a row (2 * k) (2 * k) big
    if mc < q.2.2 then mc + 1 else outGo cost a mc cs (k + 1) q.1 q.2.1
noncomputable def row0 (n : Nat) : List Int := (List.range n).map fun (i : Nat) => 2 * ((i : Int) + 1)
noncomputable def levTab (cost : Nat → Nat → Int) (a b : List Nat) (mc : Int) : Int :=
  if mc < ((b.length : Int) - a.length) * 2 then mc + 1 else outGo cost a mc b 0 (row0 a.length) 0
noncomputable def cutEnds (a b : List Nat) : List Nat × List Nat :=
  let k := cpl a b
  let a1 := a.drop k
  let b1 := b.drop k
  let j := cpl a1.reverse b1.reverse
  (a1.take (a1.length - j), b1.take (b1.length - j))
noncomputable def lev (cost : Nat → Nat → Int) (a b : List Nat) (mc : Int) : Int :=
  if a = b then 0 else
  let q := cutEnds a b
  if q.1 = [] ∨ q.2 = [] then 2 * ((q.1.length : Int) + q.2.length)
  else if q.2.length < q.1.length then levTab cost q.2 q.1 mc else levTab cost q.1 q.2 mc
end Mine
namespace Mine
open PySem
theorem tst1 {la lb : List Nat} {k : Nat} (h1 : k ≤ la.length) (h2 : k ≤ lb.length) : (0 < cpl (la.drop k) (lb.drop k)) ↔ (((Txt.slice (S la) (some (k : Int)) none).length : Int) ≠ 0 ∧ ((Txt.slice (S lb) (some (k : Int)) none).length : Int) ≠ 0 ∧ (Txt.item (S la) k == Txt.item (S lb) k) = true) := by
  rw [slice_from h1, slice_from h2, S_len, S_len, List.length_drop, List.length_drop, cpl_pos]
  constructor
  · rintro ⟨ha, hb, he⟩
    refine ⟨by omega, by omega, ?_⟩
    rw [item_at ha, item_at hb, he]; simp
  · rintro ⟨ha, hb, he⟩
    have ha' : k < la.length := by lia
    have hb' : k < lb.length := by omega
    refine ⟨ha', hb', ?_⟩
    rw [item_at ha', item_at hb', S_beq] at he
    simpa using he
/-- the same from behind -/
theorem tst2 {la lb : List Nat} {k : Nat} (h1 : k < la.length) (h2 : k < lb.length) : (0 < cpl (la.reverse.drop k) (lb.reverse.drop k)) ↔ (Txt.item (S la) (-(k : Int) - 1) == Txt.item (S lb) (-(k : Int) - 1)) = true := by
  rw [item_back h1, item_back h2, S_beq, cpl_pos]
  simp only [List.length_reverse, h1, h2, true_and]
  have e1 : la.reverse.getD k 0 = la.getD (la.length - 1 - k) 0 := by
    simp only [List.getD_eq_getElem?_getD, List.getElem?_reverse h1]
  have e2 : lb.reverse.getD k 0 = lb.getD (lb.length - 1 - k) 0 := by
    simp only [List.getD_eq_getElem?_getD, List.getElem?_reverse h2]
  rw [e1, e2]
  simp
end Mine
namespace Mine
open PySem
section
variable {la lb : List Nat} {k : Nat} (h1 : k ≤ la.length) (h2 : k ≤ lb.length)
include h1 h2
theorem tst1_t (a : ((Txt.slice (S la) (some (k : Int)) none).length : Int) ≠ 0) (b : ((Txt.slice (S lb) (some (k : Int)) none).length : Int) ≠ 0) (e : (Txt.item (S la) k == Txt.item (S lb) k) = true) : true = decide (0 < cpl (la.drop k) (lb.drop k)) :=
  (decide_eq_true ((tst1 h1 h2).mpr ⟨a, b, e⟩)).symm
theorem tst1_a (a : ((Txt.slice (S la) (some (k : Int)) none).length : Int) = 0) : false = decide (0 < cpl (la.drop k) (lb.drop k)) :=
  (decide_eq_false fun h => ((tst1 h1 h2).mp h).1 a).symm
theorem tst1_b (a : ((Txt.slice (S lb) (some (k : Int)) none).length : Int) = 0) : false = decide (0 < cpl (la.drop k) (lb.drop k)) :=
  (decide_eq_false fun h => ((tst1 h1 h2).mp h).2.1 a).symm
theorem tst1_e (e : (Txt.item (S la) k == Txt.item (S lb) k) = false) : false = decide (0 < cpl (la.drop k) (lb.drop k)) :=
  (decide_eq_false fun h => by rw [((tst1 h1 h2).mp h).2.2] at e; cases e).symm
end
end Mine
namespace Mine
open PySem
section
variable {la lb : List Nat} {k : Nat} (h1 : k ≤ la.length) (h2 : k ≤ lb.length)
theorem cutA (h1 : k ≤ la.length) (h0 : -(k : Int) = 0) : Txt.slice (S la) none none = S (la.take (la.length - k)) := by
  have : k = 0 := by omega
  subst this
  rw [slice_all]; simp
theorem cutB (h1 : k ≤ la.length) (h0 : -(k : Int) ≠ 0) : Txt.slice (S la) none (some (-(k : Int))) = S (la.take (la.length - k)) := slice_cut h1 (by omega)
include h1 h2
theorem tst2_t (a : k < la.length) (b : k < lb.length) (e : (Txt.item (S la) (-(k : Int) - 1) == Txt.item (S lb) (-(k : Int) - 1)) = true) : true = decide (0 < cpl (la.reverse.drop k) (lb.reverse.drop k)) :=
  (decide_eq_true ((tst2 a b).mpr e)).symm
theorem tst2_e (a : k < la.length) (b : k < lb.length) (e : (Txt.item (S la) (-(k : Int) - 1) == Txt.item (S lb) (-(k : Int) - 1)) = false) : false = decide (0 < cpl (la.reverse.drop k) (lb.reverse.drop k)) :=
  (decide_eq_false fun h => by rw [(tst2 a b).mp h] at e; cases e).symm
theorem tst2_f (a : ¬ (k < la.length ∧ k < lb.length)) : false = decide (0 < cpl (la.reverse.drop k) (lb.reverse.drop k)) :=
  (decide_eq_false fun h => by have := cpl_pos.mp h; simp only [List.length_reverse] at this; exact a ⟨this.1, this.2.1⟩).symm
end
end Mine
namespace Mine
open PySem
theorem cellGo_step (cost : Nat → Int) {la : List Nat} {ns : List Int} {i : Nat} (h1 : i < la.length) (h2 : i < ns.length) (d r mn : Int) :
    cellGo cost (la.drop i) (ns.drop i) d r mn =
      (let r' := min (min r (ns.getD i 0) + 2) (d + cost (la.getD i 0))
       let q := cellGo cost (la.drop (i + 1)) ((ns.set i r').drop (i + 1)) (ns.getD i 0) r' (if r' < mn then r' else mn)
       (r' :: q.1, q.2)) := by
  rw [List.drop_eq_getElem_cons h1, List.drop_eq_getElem_cons h2]
  have e1 : la.getD i 0 = la[i] := by simp [List.getD_eq_getElem?_getD, List.getElem?_eq_getElem h1]
  have e2 : ns.getD i 0 = ns[i] := by simp [List.getD_eq_getElem?_getD, List.getElem?_eq_getElem h2]
  rw [e1, e2]
  simp only [cellGo]
  rw [List.drop_set_of_lt (Nat.lt_succ_self i)]
theorem take_set (ns : List Int) {i : Nat} (h : i < ns.length) (x : Int) (q : List Int) : (ns.set i x).take (i + 1) ++ q = ns.take i ++ (x :: q) := by
  have e : (ns.set i x).take (i + 1) = ns.take i ++ [x] := by
    rw [List.take_add_one, List.getElem?_set_self (by simpa using h), List.take_set_of_le (Nat.le_refl i)]
    rfl
  rw [e, List.append_assoc]
  rfl
/-- the row's own word between two turns -/
noncomputable def CellIs (cost : Nat → Int) (la : List Nat) (W : List Int × Int × Int) (i : Nat) (ns : List Int) (d r mn : Int) : Prop :=
  W = (ns.take i ++ (cellGo cost (la.drop i) (ns.drop i) d r mn).1, (cellGo cost (la.drop i) (ns.drop i) d r mn).2)
theorem CellIs.start (cost : Nat → Int) (la : List Nat) (ns : List Int) (d r mn : Int) : CellIs cost la (cellGo cost la ns d r mn) 0 ns d r mn := by simp [CellIs]
theorem CellIs.step {cost : Nat → Int} {la : List Nat} {W : List Int × Int × Int} {i : Nat} {ns : List Int} {d r mn : Int} (H : CellIs cost la W i ns d r mn) (h1 : i < la.length) (h2 : i < ns.length) {r' : Int} (hr : r' = min (min r (ns.getD i 0) + 2) (d + cost (la.getD i 0))) {mn' : Int} (hm : mn' = if r' < mn then r' else mn) :
    CellIs cost la W (i + 1) (ns.set i r') (ns.getD i 0) r' mn' := by
  unfold CellIs at H ⊢
  rw [H, cellGo_step cost h1 h2]
  simp only [← hr, ← hm]
  simp only [take_set ns h2]
theorem CellIs.fin {cost : Nat → Int} {la : List Nat} {W : List Int × Int × Int} {ns : List Int} {d r mn : Int} (H : CellIs cost la W la.length ns d r mn) (hl : ns.length = la.length) : W = (ns, r, mn) := by
  unfold CellIs at H
  rw [H, List.drop_length, ← hl, List.take_length]
  simp [cellGo]
theorem outGo_step (cost : Nat → Nat → Int) (a : List Nat) (mc : Int) {b : List Nat} {i : Nat} (h : i < b.length) (row : List Int) (r : Int) :
    outGo cost a mc (b.drop i) i row r = (let q := cellGo (cost (b.getD i 0)) a row (2 * i) (2 * i) big; if mc < q.2.2 then mc + 1 else outGo cost a mc (b.drop (i + 1)) (i + 1) q.1 q.2.1) := by
  rw [List.drop_eq_getElem_cons h]
  have e1 : b.getD i 0 = b[i] := by simp [List.getD_eq_getElem?_getD, List.getElem?_eq_getElem h]
  rw [e1]
  rfl
end Mine
namespace Mine
open PySem
theorem lev_empty {cost : Nat → Nat → Int} {la lb la2 lb2 : List Nat} {mc : Int} (hne : la ≠ lb) (hce : cutEnds la lb = (la2, lb2)) (h : la2.length = 0 ∨ lb2.length = 0) : 2 * (((S la2).length : Int) + (S lb2).length) = lev cost la lb mc := by
  rw [lev, if_neg hne, hce]
  simp only
  rw [if_pos (h.imp List.eq_nil_of_length_eq_zero List.eq_nil_of_length_eq_zero), S_len, S_len]
/-- the shorter one first -/
noncomputable def Ordered (la2 lb2 la3 lb3 : List Nat) : Prop := if lb2.length < la2.length then la3 = lb2 ∧ lb3 = la2 else la3 = la2 ∧ lb3 = lb2
theorem lev_tab {cost : Nat → Nat → Int} {la lb la2 lb2 la3 lb3 : List Nat} {mc : Int} (hne : la ≠ lb) (hce : cutEnds la lb = (la2, lb2)) (h1 : la2.length ≠ 0) (h2 : lb2.length ≠ 0) (ho : Ordered la2 lb2 la3 lb3) : levTab cost la3 lb3 mc = lev cost la lb mc := by
  rw [lev, if_neg hne, hce]
  simp only
  rw [if_neg (fun h => h.elim (fun e => h1 (by rw [e]; rfl)) fun e => h2 (by rw [e]; rfl))]
  unfold Ordered at ho
  split at ho
  · rename_i hl; rw [if_pos hl, ho.1, ho.2]
  · rename_i hl; rw [if_neg hl, ho.1, ho.2]
theorem tab_over {cost : Nat → Nat → Int} {la lb : List Nat} {mc : Int} (h : mc < (((S lb).length : Int) - (S la).length) * 2) : mc + 1 = levTab cost la lb mc := by
  rw [S_len, S_len] at h
  rw [levTab, if_pos h]
theorem tab_go {cost : Nat → Nat → Int} {la lb : List Nat} {mc : Int} (h : ¬ mc < (((S lb).length : Int) - (S la).length) * 2) : levTab cost la lb mc = outGo cost la mc lb 0 (row0 la.length) 0 := by
  rw [S_len, S_len] at h
  rw [levTab, if_neg h]
end Mine
end PartPLev
section PartPRun
open PySem PySem.W PyProof.Rows
namespace Mine
theorem bitAnd_nat (a b : Nat) : Builtin.bitAnd (a : Int) (b : Int) = ((a &&& b : Nat) : Int) := by
  unfold Builtin.bitAnd
  rw [decide_eq_true (by omega), decide_eq_true (by omega)]
  simp
theorem bitOr_nat (a b : Nat) : Builtin.bitOr (a : Int) (b : Int) = ((a ||| b : Nat) : Int) := by
  unfold Builtin.bitOr Builtin.bitAnd
  rw [decide_eq_false (by unfold Builtin.bitNot; omega), decide_eq_false (by unfold Builtin.bitNot; omega)]
  simp only [Builtin.bitNot]
  have e1 : (-(-(a : Int) - 1) - 1).toNat = a := by lia
  have e2 : (-(-(b : Int) - 1) - 1).toNat = b := by lia
  rw [e1, e2]
  lia
theorem shr_nat (a n : Nat) : ((a : Int)).fdiv (2 ^ n) = ((a >>> n : Nat) : Int) := by
  rw [Int.fdiv_eq_ediv_of_nonneg _ (by exact Int.le_of_lt (Int.pow_pos (by decide))), Nat.shiftRight_eq_div_pow]
  simp
/-- one step of the bits' run -/
noncomputable def runStep (st m : Nat) : Nat := (st + (st &&& m)) ||| (st - (st &&& m))
theorem runStep_int (st m : Nat) : Builtin.bitOr ((st : Int) + Builtin.bitAnd st m) ((st : Int) - Builtin.bitAnd st m) = (runStep st m : Nat) := by
  have h : st &&& m ≤ st := Nat.and_le_left
  rw [bitAnd_nat, show (st : Int) - ((st &&& m : Nat) : Int) = ((st - (st &&& m) : Nat) : Int) by omega, show (st : Int) + ((st &&& m : Nat) : Int) = ((st + (st &&& m) : Nat) : Int) by lia, bitOr_nat]
  rfl
theorem runStep_lt {st m n : Nat} (h : st < 2 ^ n) : runStep st m < 2 ^ (n + 1) := by
  have h1 : st &&& m ≤ st := Nat.and_le_left
  have e : 2 ^ (n + 1) = 2 ^ n + 2 ^ n := by rw [Nat.pow_succ]; lia
  exact Nat.or_lt_two_pow (by omega) (by omega)
noncomputable def runGo : List Nat → Nat → List Nat → Nat × List Nat
  | [], st, ca => (st, ca)
  | m :: ms, st, ca => runGo ms (runStep st m) (ca ++ [runStep st m >>> (12 + ca.sum)])
noncomputable def zs (l : List Nat) : List Int := l.map fun (k : Nat) => (k : Int)
theorem zs_len (l : List Nat) : (zs l).length = l.length := by simp [zs]
theorem zs_sum (l : List Nat) : (zs l).sum = ((l.sum : Nat) : Int) := by
  induction l with
  | nil => rfl
  | cons a l ih => simp only [zs, List.map_cons, List.sum_cons] at ih ⊢; rw [ih]; lia
theorem zs_app (a b : List Nat) : zs (a ++ b) = zs a ++ zs b := by simp [zs]
theorem zs_get {l : List Nat} {i : Nat} {n : Int} (h : (zs l)[i]? = some n) : ∃ k, l[i]? = some k ∧ n = (k : Int) := by
  simp only [zs, List.getElem?_map, Option.map_eq_some_iff] at h
  obtain ⟨k, h1, h2⟩ := h
  exact ⟨k, h1, h2.symm⟩
theorem drop_get {l : List Nat} {i k : Nat} (h : l[i]? = some k) : l.drop i = k :: l.drop (i + 1) := by
  obtain ⟨hl, he⟩ := List.getElem?_eq_some_iff.mp h
  rw [List.drop_eq_getElem_cons hl, he]
end Mine
end PartPRun
section PartPDig
open PySem PySem.W PyProof.Rows
namespace Mine
/-- the digits of a number at four bits, the lowest first -/
noncomputable def digs : Nat → Nat → List Nat
  | 0, _ => []
  | n + 1, x => x % 16 :: digs n (x / 16)
theorem digs_len : ∀ (n x : Nat), (digs n x).length = n
  | 0, _ => rfl
  | n + 1, x => by rw [digs, List.length_cons, digs_len n]
theorem digs_mod : ∀ (i x : Nat), digs i (x % 2 ^ (4 * i)) = digs i x
  | 0, _ => rfl
  | i + 1, x => by
    have e : 2 ^ (4 * (i + 1)) = 16 * 2 ^ (4 * i) := by rw [show 4 * (i + 1) = 4 * i + 4 by omega, Nat.pow_add]; omega
    rw [digs, digs, e]
    have h1 : x % (16 * 2 ^ (4 * i)) % 16 = x % 16 := Nat.mod_mul_right_mod x 16 _
    have h2 : x % (16 * 2 ^ (4 * i)) / 16 = x / 16 % 2 ^ (4 * i) := Nat.mod_mul_right_div_self x 16 _
    rw [h1, h2, digs_mod i]
theorem digs_add : ∀ (i j x : Nat), digs (i + j) x = digs i x ++ digs j (x / 2 ^ (4 * i))
  | 0, j, x => by rw [Nat.zero_add]; simp [digs]
  | i + 1, j, x => by
    have e : 2 ^ (4 * (i + 1)) = 16 * 2 ^ (4 * i) := by rw [show 4 * (i + 1) = 4 * i + 4 by omega, Nat.pow_add]; omega
    rw [show i + 1 + j = (i + j) + 1 by lia, digs, digs, digs_add i j, e, List.cons_append, Nat.div_div_eq_div_mul]
theorem digs_split (i j x : Nat) : digs (i + j) x = digs i (x % 2 ^ (4 * i)) ++ digs j (x / 2 ^ (4 * i)) := by rw [digs_mod, digs_add]
theorem xor_low (x s : Nat) : Builtin.bitXor (x : Int) (((x >>> s : Nat) : Int) * 2 ^ s) = ((x % 2 ^ s : Nat) : Int) := by
  have e : (((x >>> s : Nat) : Int) * 2 ^ s) = ((2 ^ s * (x / 2 ^ s) : Nat) : Int) := by rw [Nat.shiftRight_eq_div_pow, Nat.mul_comm]; simp
  unfold Builtin.bitXor
  rw [e, bitOr_nat, bitAnd_nat]
  have h := Nat.div_add_mod x (2 ^ s)
  have hlt : x % 2 ^ s < 2 ^ s := Nat.mod_lt _ (Nat.two_pow_pos s)
  have ho : x ||| 2 ^ s * (x / 2 ^ s) = x := by
    conv => lhs; lhs; rw [← h]
    rw [Nat.two_pow_add_eq_or_of_lt hlt, Nat.or_assoc, Nat.or_comm (x % 2 ^ s), ← Nat.or_assoc, Nat.or_self, ← Nat.two_pow_add_eq_or_of_lt hlt, h]
  have ha : x &&& 2 ^ s * (x / 2 ^ s) = 2 ^ s * (x / 2 ^ s) := by
    apply Nat.eq_of_testBit_eq
    intro i
    rw [Nat.testBit_and]
    have := congrArg (fun y => Nat.testBit y i) ho
    simp only [Nat.testBit_or] at this
    cases hb : Nat.testBit (2 ^ s * (x / 2 ^ s)) i with
    | false => simp
    | true => rw [hb] at this; simp at this; simp [← this]
  rw [ho, ha]
  omega
theorem bits_digs {x D : Nat} (h1 : 16 ^ (D - 1) ≤ x) (h2 : x < 16 ^ D) (hD : 0 < D) : (((Builtin.Int.intBits (x : Int) : Nat) : Int) + 4 - 1).fdiv 4 = (D : Int) := by
  have e16 : ∀ n : Nat, 16 ^ n = 2 ^ (4 * n) := fun n => by rw [Nat.pow_mul]
  have hx : x ≠ 0 := by have := Nat.pow_pos (n := D - 1) (show 0 < 16 by decide); omega
  have e : Builtin.Int.intBits (x : Int) = x.log2 + 1 := by
    unfold Builtin.Int.intBits
    rw [if_neg (by simp; omega)]
    rfl
  rw [e16] at h1 h2
  have l1 : 4 * (D - 1) ≤ x.log2 := (Nat.le_log2 hx).mpr h1
  have l2 : x.log2 < 4 * D := (Nat.log2_lt hx).mpr h2
  rw [e, Int.fdiv_eq_ediv_of_nonneg _ (by decide)]
  lia
end Mine
namespace Mine
theorem dig_leaf {ns : List Int} {l x : Nat} (hl : l < ns.length) (hx : x < 2 ^ (4 * (0 + 1))) : ns.set l (x : Int) = ns.take l ++ zs (digs (0 + 1) x) ++ ns.drop (l + 1) := by
  have e : x % 16 = x := Nat.mod_eq_of_lt (by simpa using hx)
  rw [List.set_eq_take_append_cons_drop, if_pos hl]
  simp only [digs, zs, e, List.map_cons, List.map_nil, List.append_assoc, List.cons_append, List.nil_append]
theorem dig_join {ns : List Int} {l i j x : Nat} (hl : l + i + j ≤ ns.length) :
    (ns.take l ++ zs (digs i (x % 2 ^ (4 * i))) ++ ns.drop (l + i)).take (l + i) ++ zs (digs j (x >>> (4 * i))) ++ (ns.take l ++ zs (digs i (x % 2 ^ (4 * i))) ++ ns.drop (l + i)).drop (l + i + j) = ns.take l ++ zs (digs (i + j) x) ++ ns.drop (l + i + j) := by
  have e1 : (ns.take l ++ zs (digs i (x % 2 ^ (4 * i)))).length = l + i := by
    rw [List.length_append, List.length_take, zs_len, digs_len]; lia
  rw [List.take_append_of_le_length (Nat.le_of_eq e1.symm), List.take_of_length_le (Nat.le_of_eq e1)]
  have e2 : (ns.take l ++ zs (digs i (x % 2 ^ (4 * i))) ++ ns.drop (l + i)).drop (l + i + j) = ns.drop (l + i + j) := by
    rw [List.drop_append, List.drop_eq_nil_of_le (by rw [e1]; lia), List.nil_append, e1, List.drop_drop]
    congr 1
    omega
  rw [e2, digs_split, zs_app, Nat.shiftRight_eq_div_pow]
  simp only [List.append_assoc]
theorem zs_replicate (D : Nat) : (List.replicate D [(0 : Int)]).flatten.length = D := by
  induction D with
  | zero => rfl
  | succ n ih => rw [List.replicate_succ, List.flatten_cons, List.length_append, ih]; simp; lia
end Mine
end PartPDig
section PartPEd
open PySem
namespace Mine
theorem le_min1 (z a b c : Int) : z ≤ min a b + c ↔ z ≤ a + c ∧ z ≤ b + c :=
  ⟨fun h => ⟨Int.le_trans h (Int.add_le_add_right (Int.min_le_left a b) c), Int.le_trans h (Int.add_le_add_right (Int.min_le_right a b) c)⟩, fun h => (Int.le_total a b).elim (fun e => by rw [Int.min_eq_left e]; exact h.1) (fun e => by rw [Int.min_eq_right e]; exact h.2)⟩
theorem le_min2 (z a b c d : Int) : z ≤ min a b + c + d ↔ z ≤ a + c + d ∧ z ≤ b + c + d := by
  rw [Int.add_assoc, Int.add_assoc, Int.add_assoc]; exact le_min1 z a b (c + d)
theorem min9 (E E1 E2 F F1 F2 G G1 G2 s t : Int) :
    min (min (E + s) (min E1 E2 + 2) + t) (min (min (F + s) (min F1 F2 + 2)) (min (G + s) (min G1 G2 + 2)) + 2) =
    min (min (E + t) (min F G + 2) + s) (min (min (E1 + t) (min F1 G1 + 2)) (min (E2 + t) (min F2 G2 + 2)) + 2) := by
  apply Int.le_antisymm
  · have h := Int.le_refl (min (min (E + s) (min E1 E2 + 2) + t) (min (min (F + s) (min F1 F2 + 2)) (min (G + s) (min G1 G2 + 2)) + 2))
    generalize hz : min (min (E + s) (min E1 E2 + 2) + t) (min (min (F + s) (min F1 F2 + 2)) (min (G + s) (min G1 G2 + 2)) + 2) = z at h ⊢
    have h' : z ≤ min (min (E + s) (min E1 E2 + 2) + t) (min (min (F + s) (min F1 F2 + 2)) (min (G + s) (min G1 G2 + 2)) + 2) := by rw [hz]; exact h
    clear hz h
    simp only [Int.le_min, le_min1, le_min2] at h' ⊢
    rw [Int.add_right_comm E t s, Int.add_right_comm F 2 s, Int.add_right_comm G 2 s, Int.add_right_comm E1 t 2, Int.add_right_comm E2 t 2]
    exact ⟨⟨h'.1.1, h'.2.1.1, h'.2.2.1⟩, ⟨h'.1.2.1, h'.2.1.2.1, h'.2.2.2.1⟩, h'.1.2.2, h'.2.1.2.2, h'.2.2.2.2⟩
  · have h := Int.le_refl (min (min (E + t) (min F G + 2) + s) (min (min (E1 + t) (min F1 G1 + 2)) (min (E2 + t) (min F2 G2 + 2)) + 2))
    generalize hz : min (min (E + t) (min F G + 2) + s) (min (min (E1 + t) (min F1 G1 + 2)) (min (E2 + t) (min F2 G2 + 2)) + 2) = z at h ⊢
    have h' : z ≤ min (min (E + t) (min F G + 2) + s) (min (min (E1 + t) (min F1 G1 + 2)) (min (E2 + t) (min F2 G2 + 2)) + 2) := by rw [hz]; exact h
    clear hz h
    simp only [Int.le_min, le_min1, le_min2] at h' ⊢
    rw [Int.add_right_comm E s t, Int.add_right_comm E1 2 t, Int.add_right_comm E2 2 t, Int.add_right_comm F s 2, Int.add_right_comm G s 2]
    exact ⟨⟨h'.1.1, h'.2.1.1, h'.2.2.1⟩, ⟨h'.1.2.1, h'.2.1.2.1, h'.2.2.2.1⟩, h'.1.2.2, h'.2.1.2.2, h'.2.2.2.2⟩
theorem mnA (B A C p q e : Int) (hA : A = B + 2) (hC : C = A + 2) : min (A + p) (min C (min (B + q) (min A e + 2)) + 2) = min (A + q) (min C (min (B + p) (min A e + 2)) + 2) := by
  subst hC hA
  apply Int.le_antisymm
  · generalize hz : min (B + 2 + p) (min (B + 2 + 2) (min (B + q) (min (B + 2) e + 2)) + 2) = z
    have h' := Int.le_of_eq hz.symm
    clear hz
    simp only [Int.le_min, le_min1, le_min2] at h' ⊢
    rw [Int.add_right_comm B 2 q, Int.add_right_comm B p 2]
    exact ⟨h'.2.2.1, h'.2.1, h'.1, h'.2.2.2⟩
  · generalize hz : min (B + 2 + q) (min (B + 2 + 2) (min (B + p) (min (B + 2) e + 2)) + 2) = z
    have h' := Int.le_of_eq hz.symm
    clear hz
    simp only [Int.le_min, le_min1, le_min2] at h' ⊢
    rw [Int.add_right_comm B 2 p, Int.add_right_comm B q 2]
    exact ⟨h'.2.2.1, h'.2.1, h'.1, h'.2.2.2⟩
theorem mnB (B A C p q e : Int) (hA : A = B + 2) (hC : C = A + 2) : min (A + p) (min (min (B + q) (min e A + 2)) C + 2) = min (A + q) (min (min (B + p) (min e A + 2)) C + 2) := by
  rw [Int.min_comm e A, Int.min_comm _ C, Int.min_comm _ C]
  exact mnA B A C p q e hA hC
theorem two_succ (n : Nat) : (2 * ((n + 1 : Nat) : Int)) = 2 * (n : Int) + 2 := by rw [Int.natCast_add, Int.mul_add]; rfl
section
variable (sub : Nat → Nat → Int)
/-- the plain distance: two for a sign more or less, sub for one in place of another -/
noncomputable def ed : List Nat → List Nat → Int
  | [], b => 2 * (b.length : Int)
  | x :: a, [] => 2 * ((x :: a).length : Int)
  | x :: a, y :: b => min (ed a b + sub x y) (min (ed a (y :: b)) (ed (x :: a) b) + 2)
termination_by a b => a.length + b.length
variable {sub}
theorem ed_nil (b : List Nat) : ed sub [] b = 2 * (b.length : Int) := by rw [ed]
theorem ed_nil' (a : List Nat) : ed sub a [] = 2 * (a.length : Int) := by
  cases a <;> rw [ed]
theorem ed_cons (x y : Nat) (a b : List Nat) : ed sub (x :: a) (y :: b) = min (ed sub a b + sub x y) (min (ed sub a (y :: b)) (ed sub (x :: a) b) + 2) := by rw [ed]
theorem ed_upL (x : Nat) (a b : List Nat) : ed sub (x :: a) b ≤ ed sub a b + 2 := by
  cases b with
  | nil => rw [ed_nil', ed_nil']; simp; omega
  | cons y b => rw [ed_cons]; omega
theorem ed_upR (y : Nat) (a b : List Nat) : ed sub a (y :: b) ≤ ed sub a b + 2 := by
  cases a with
  | nil => rw [ed_nil, ed_nil]; simp; omega
  | cons x a => rw [ed_cons]; omega
variable (h0 : ∀ x y, 0 ≤ sub x y)
include h0
theorem ed_downL (x : Nat) (a : List Nat) : ∀ b : List Nat, ed sub a b ≤ ed sub (x :: a) b + 2
  | [] => by rw [ed_nil', ed_nil']; simp; omega
  | y :: b => by
    have h := ed_downL x a b
    have h1 := ed_upR (sub := sub) y a b
    have h2 := h0 x y
    rw [ed_cons]
    omega
theorem ed_downR (y : Nat) (b : List Nat) : ∀ a : List Nat, ed sub a b ≤ ed sub a (y :: b) + 2
  | [] => by rw [ed_nil, ed_nil]; simp; omega
  | x :: a => by
    have h := ed_downR y b a
    have h1 := ed_upL (sub := sub) x a b
    have h2 := h0 x y
    rw [ed_cons]
    omega
variable (hs : ∀ x, sub x x = 0)
include hs
theorem ed_same (x : Nat) (a b : List Nat) : ed sub (x :: a) (x :: b) = ed sub a b := by
  have h1 := ed_downL h0 x a b
  have h2 := ed_downR h0 x b a
  have h3 := hs x
  rw [ed_cons]
  omega
theorem ed_pre (p a b : List Nat) : ed sub (p ++ a) (p ++ b) = ed sub a b := by
  induction p with
  | nil => rfl
  | cons x p ih => rw [List.cons_append, List.cons_append, ed_same h0 hs, ih]
theorem ed_last1 (x : Nat) : ∀ b : List Nat, ed sub [x] (b ++ [x]) = 2 * (b.length : Int)
  | [] => by rw [List.nil_append, ed_same h0 hs, ed_nil]
  | z :: b => by
    have h := ed_last1 x b
    have h2 := h0 x z
    rw [List.cons_append, ed_cons, h, ed_nil, ed_nil]
    simp
    omega
theorem ed_last2 (x : Nat) : ∀ a : List Nat, ed sub (a ++ [x]) [x] = 2 * (a.length : Int)
  | [] => by rw [List.nil_append, ed_same h0 hs, ed_nil]
  | z :: a => by
    have h := ed_last2 x a
    have h2 := h0 z x
    rw [List.cons_append, ed_cons, h, ed_nil', ed_nil']
    simp
    omega
theorem ed_last (x : Nat) : ∀ (a b : List Nat), ed sub (a ++ [x]) (b ++ [x]) = ed sub a b
  | [], b => by rw [List.nil_append, ed_last1 h0 hs, ed_nil]
  | y :: a, [] => by rw [List.nil_append, ed_last2 h0 hs, ed_nil']
  | y :: a, z :: b => by
    have h1 := ed_last x a b
    have h2 := ed_last x a (z :: b)
    have h3 := ed_last x (y :: a) b
    rw [List.cons_append] at h2 h3
    rw [List.cons_append, List.cons_append, ed_cons, ed_cons, h1, h2, h3]
termination_by a b => a.length + b.length
theorem ed_suf (p a b : List Nat) : ed sub (a ++ p) (b ++ p) = ed sub a b := by
  induction p generalizing a b with
  | nil => simp
  | cons x p ih =>
    have e : ∀ l : List Nat, l ++ x :: p = (l ++ [x]) ++ p := by simp
    rw [e a, e b, ih, ed_last h0 hs]
omit h0 hs in
theorem ed_sym (hy : ∀ x y, sub x y = sub y x) : ∀ a b : List Nat, ed sub a b = ed sub b a
  | [], b => by rw [ed_nil, ed_nil']
  | x :: a, [] => by rw [ed_nil, ed_nil']
  | x :: a, y :: b => by
    have h1 := ed_sym hy a b
    have h2 := ed_sym hy a (y :: b)
    have h3 := ed_sym hy (x :: a) b
    have h4 := hy x y
    rw [ed_cons, ed_cons, h1, h2, h3, h4, Int.min_comm (ed sub (y :: b) a)]
termination_by a b => a.length + b.length
omit h0 hs in
theorem ed_len (h0 : ∀ x y, 0 ≤ sub x y) : ∀ a b : List Nat, 2 * ((b.length : Int) - a.length) ≤ ed sub a b
  | [], b => by rw [ed_nil]; simp
  | x :: a, [] => by rw [ed_nil']; simp; omega
  | x :: a, y :: b => by
    have h1 := ed_len h0 a b
    have h2 := ed_len h0 a (y :: b)
    have h3 := ed_len h0 (x :: a) b
    have h4 := h0 x y
    rw [ed_cons]
    simp at h1 h2 h3 ⊢
    omega
termination_by a b => a.length + b.length
omit h0 hs in
/-- the last signs first -/
theorem ed_snoc (x y : Nat) : ∀ a b : List Nat, ed sub (a ++ [x]) (b ++ [y]) = min (ed sub a b + sub x y) (min (ed sub a (b ++ [y])) (ed sub (a ++ [x]) b) + 2)
  | [], [] => by simp [ed_cons, ed_nil, ed_nil']
  | [], q :: b => by
    have h := ed_snoc x y [] b
    rw [List.nil_append] at h ⊢
    rw [List.cons_append, ed_cons, h, ed_cons]
    simp only [ed_nil, List.length_cons, List.length_append, List.length_nil]
    exact mnA _ _ _ _ _ _ (two_succ _) (two_succ _)
  | p :: a, [] => by
    have h := ed_snoc x y a []
    rw [List.nil_append] at h ⊢
    rw [List.cons_append, ed_cons, h, ed_cons]
    simp only [ed_nil', List.length_cons, List.length_append, List.length_nil]
    exact mnB _ _ _ _ _ _ (two_succ _) (two_succ _)
  | p :: a, q :: b => by
    have h1 := ed_snoc x y a b
    have h2 := ed_snoc x y a (q :: b)
    have h3 := ed_snoc x y (p :: a) b
    simp only [List.cons_append] at h1 h2 h3 ⊢
    rw [ed_cons, h1, h2, h3, ed_cons p q a b, ed_cons p q a (b ++ [y]), ed_cons p q (a ++ [x]) b]
    exact min9 _ _ _ _ _ _ _ _ _ _ _
termination_by a b => a.length + b.length
end
end Mine
end PartPEd
section PartPEd2
open PySem
namespace Mine
theorem row_min (b E s : Int) (h : s ≤ 2) : min (min b E + 2) (b + s) = min (b + s) (min (b + 2) E + 2) := by
  have h9 : b + s ≤ b + 2 := Int.add_le_add_left h b
  apply Int.le_antisymm
  · refine Int.le_min.mpr ⟨Int.min_le_right _ _, ?_⟩
    rw [le_min1]
    exact ⟨Int.le_trans (Int.min_le_right _ _) (Int.le_trans h9 (Int.le_add_of_nonneg_right (by decide))), Int.le_trans (Int.min_le_left _ _) (Int.add_le_add_right (Int.min_le_right _ _) 2)⟩
  · refine Int.le_min.mpr ⟨?_, Int.min_le_left _ _⟩
    rw [le_min1]
    exact ⟨Int.le_trans (Int.min_le_left _ _) h9, Int.le_trans (Int.min_le_right _ _) (Int.add_le_add_right (Int.min_le_right _ _) 2)⟩
section
variable (sub : Nat → Nat → Int)
noncomputable def rowOf : List Nat → List Nat → List Nat → List Int
  | _, [], _ => []
  | p, x :: xs, B => ed sub (p ++ [x]) B :: rowOf (p ++ [x]) xs B
variable {sub}
theorem rowOf_last (B : List Nat) : ∀ (xs p : List Nat), xs ≠ [] → ed sub (p ++ xs) B ∈ rowOf sub p xs B
  | [], _, h => absurd rfl h
  | [x], p, _ => .head _
  | x :: y :: xs, p, _ => by
    have h := rowOf_last B (y :: xs) (p ++ [x]) (by simp)
    rw [List.append_assoc, List.singleton_append] at h
    exact .tail _ h
theorem rowOf_nil : ∀ (xs p : List Nat), rowOf sub p xs [] = (List.range xs.length).map fun (i : Nat) => 2 * ((p.length : Int) + (i : Int) + 1)
  | [], _ => rfl
  | x :: xs, p => by
    rw [rowOf, rowOf_nil xs (p ++ [x]), ed_nil', List.length_cons, List.range_succ_eq_map, List.map_cons, List.map_map]
    congr 1
    · simp
    · refine List.map_congr_left fun i _ => ?_
      simp only [Function.comp, List.length_append, List.length_cons, List.length_nil]
      lia
variable {cost : Nat → Int} (h0 : ∀ x y, 0 ≤ sub x y) (h2 : ∀ x y, sub x y ≤ 2)
include h2 in
theorem cell_row (B : List Nat) (c : Nat) (hc : ∀ x, cost x = sub x c) : ∀ (xs p : List Nat) (r mn : Int), (r = ed sub p (B ++ [c]) ∨ (p = [] ∧ r = 2 * (B.length : Int))) →
    (cellGo cost xs (rowOf sub p xs B) (ed sub p B) r mn).1 = rowOf sub p xs (B ++ [c]) ∧
    (xs ≠ [] → (cellGo cost xs (rowOf sub p xs B) (ed sub p B) r mn).2.1 = ed sub (p ++ xs) (B ++ [c])) ∧
    (∀ mc, mc < (cellGo cost xs (rowOf sub p xs B) (ed sub p B) r mn).2.2 → mc < mn ∧ ∀ e ∈ rowOf sub p xs (B ++ [c]), mc < e)
  | [], p, r, mn, _ => by
    refine ⟨rfl, fun h => absurd rfl h, fun mc h => ⟨h, fun e he => nomatch he⟩⟩
  | x :: xs, p, r, mn, hr => by
    have hr' : min (min r (ed sub (p ++ [x]) B) + 2) (ed sub p B + cost x) = ed sub (p ++ [x]) (B ++ [c]) := by
      rw [ed_snoc, hc]
      have hx := h2 x c
      rcases hr with hr | ⟨rfl, hr⟩
      · rw [hr]; lia
      · rw [hr, ed_nil, ed_nil, List.length_append, List.length_singleton, two_succ]; exact row_min _ _ _ hx
    obtain ⟨i1, i2, i3⟩ := cell_row B c hc xs (p ++ [x]) (ed sub (p ++ [x]) (B ++ [c])) (if ed sub (p ++ [x]) (B ++ [c]) < mn then ed sub (p ++ [x]) (B ++ [c]) else mn) (.inl rfl)
    simp only [rowOf, cellGo, hr']
    refine ⟨by rw [i1], fun _ => ?_, fun mc h => ?_⟩
    · cases xs with
      | nil => rfl
      | cons y ys =>
        rw [i2 (by simp), List.append_assoc, List.singleton_append]
    · obtain ⟨j1, j2⟩ := i3 mc h
      refine ⟨by split at j1 <;> omega, fun e he => ?_⟩
      rcases List.mem_cons.mp he with rfl | he
      · split at j1 <;> omega
      · exact j2 e he
include h0 in
theorem row_step {mc : Int} (B : List Nat) (c : Nat) : ∀ (xs p : List Nat), mc < ed sub p B → mc < ed sub p (B ++ [c]) → (∀ e ∈ rowOf sub p xs B, mc < e) → ∀ e ∈ rowOf sub p xs (B ++ [c]), mc < e
  | [], _, _, _, _ => fun e he => nomatch he
  | x :: xs, p, a1, a2, a3 => by
    have a4 := a3 _ (.head _)
    have a5 : mc < ed sub (p ++ [x]) (B ++ [c]) := by
      rw [ed_snoc]
      have := h0 x c
      omega
    intro e he
    rcases List.mem_cons.mp he with rfl | he
    · exact a5
    · exact row_step B c xs (p ++ [x]) a4 a5 (fun e he => a3 e (.tail _ he)) e he
include h0 h2 in
theorem row_over {mc : Int} {x : Nat} {xs : List Nat} : ∀ (cs B : List Nat), B ≠ [] → (∀ e ∈ rowOf sub [] (x :: xs) B, mc < e) → mc < ed sub (x :: xs) (B ++ cs)
  | [], B, _, h => by
    rw [List.append_nil]
    exact h _ (rowOf_last B (x :: xs) [] (by simp))
  | c :: cs, B, hB, h => by
    have e : B ++ c :: cs = (B ++ [c]) ++ cs := by simp
    rw [e]
    refine row_over cs (B ++ [c]) (by simp) (row_step h0 B c (x :: xs) [] ?_ ?_ h)
    · have h1 := h _ (.head _)
      cases B with
      | nil => exact absurd rfl hB
      | cons q B =>
        rw [List.nil_append, ed_cons, ed_nil, ed_nil] at h1
        rw [ed_nil]
        have := h2 x q
        rw [List.length_cons] at *
        omega
    · have h1 := h _ (.head _)
      cases B with
      | nil => exact absurd rfl hB
      | cons q B =>
        rw [List.nil_append, ed_cons, ed_nil, ed_nil] at h1
        rw [ed_nil, List.length_append, List.length_cons, List.length_singleton]
        rw [List.length_cons] at h1
        have := h2 x q
        omega
end
section
variable {cost : Nat → Nat → Int} (h0 : ∀ x y, 0 ≤ cost x y) (h2 : ∀ x y, cost x y ≤ 2) (hy : ∀ x y, cost x y = cost y x)
include h0 h2 hy
theorem outGo_is {mc : Int} {x : Nat} {xs : List Nat} : ∀ (cs B : List Nat) (r : Int), ed cost (x :: xs) (B ++ cs) - 1 ≤ mc →
    outGo cost (x :: xs) mc cs B.length (rowOf cost [] (x :: xs) B) r = if cs = [] then r else ed cost (x :: xs) (B ++ cs)
  | [], B, r, _ => by rw [outGo, if_pos rfl]
  | c :: cs, B, r, h => by
    have e : B ++ c :: cs = (B ++ [c]) ++ cs := by simp
    obtain ⟨i1, i2, i3⟩ := cell_row (sub := cost) (cost := cost c) h2 B c (fun q => hy c q) (x :: xs) [] (2 * (B.length : Int)) big (.inr ⟨rfl, rfl⟩)
    rw [ed_nil] at i1 i2 i3
    rw [if_neg (by simp), outGo]
    (try simp only)
    split
    · rename_i hq
      have := row_over h0 h2 cs (B ++ [c]) (by simp) (i3 mc hq).2
      rw [e] at h ⊢
      lia
    · rw [i1, i2 (by simp), List.nil_append]
      have ih := outGo_is (mc := mc) cs (B ++ [c]) (ed cost (x :: xs) (B ++ [c])) (by rw [← e]; exact h)
      rw [List.length_append, List.length_singleton] at ih
      rw [ih, ← e]
      split
      · rename_i hcs; subst hcs; rfl
      · rfl
theorem levTab_is {mc : Int} {a b : List Nat} (ha : a ≠ []) (hb : b ≠ []) (h : ed cost a b - 1 ≤ mc) : levTab cost a b mc = ed cost a b := by
  unfold levTab
  split
  · have := ed_len h0 a b
    lia
  · cases a with
    | nil => exact absurd rfl ha
    | cons x xs =>
      have q := outGo_is h0 h2 hy (mc := mc) (x := x) (xs := xs) b [] 0 (by simpa using h)
      rw [if_neg hb, rowOf_nil, List.nil_append] at q
      rw [← q]
      congr 1
      unfold row0
      refine List.map_congr_left fun i _ => ?_
      simp
end
theorem cpl_split : ∀ a b : List Nat, a.take (cpl a b) = b.take (cpl a b)
  | [], _ => by simp [cpl]
  | _ :: _, [] => by simp [cpl]
  | x :: a, y :: b => by
    unfold cpl
    split
    · rename_i h; subst h; rw [List.take_succ_cons, List.take_succ_cons, cpl_split a b]
    · rfl
theorem lev_is {cost : Nat → Nat → Int} (h0 : ∀ x y, 0 ≤ cost x y) (h2 : ∀ x y, cost x y ≤ 2) (hy : ∀ x y, cost x y = cost y x) (hs : ∀ x, cost x x = 0) {a b : List Nat} {mc : Int} (h : ed cost a b - 1 ≤ mc) : lev cost a b mc = ed cost a b := by
  unfold lev
  split
  · rename_i e
    subst e
    have q := ed_pre (sub := cost) h0 hs a [] []
    rw [List.append_nil, ed_nil] at q
    rw [q]; rfl
  · have e1 : ed cost a b = ed cost (a.drop (cpl a b)) (b.drop (cpl a b)) := by
      have t := ed_pre (sub := cost) h0 hs (a.take (cpl a b)) (a.drop (cpl a b)) (b.drop (cpl a b))
      have t2 : a.take (cpl a b) ++ b.drop (cpl a b) = b := by rw [cpl_split, List.take_append_drop]
      rw [List.take_append_drop, t2] at t
      exact t
    generalize ha1 : a.drop (cpl a b) = a1 at e1
    generalize hb1 : b.drop (cpl a b) = b1 at e1
    have e2 : ed cost a1 b1 = ed cost (a1.take (a1.length - cpl a1.reverse b1.reverse)) (b1.take (b1.length - cpl a1.reverse b1.reverse)) := by
      have s1 := cpl_split a1.reverse b1.reverse
      rw [List.take_reverse, List.take_reverse] at s1
      have s2 := congrArg List.reverse s1
      rw [List.reverse_reverse, List.reverse_reverse] at s2
      generalize a1.length - cpl a1.reverse b1.reverse = n1 at s2 ⊢
      generalize b1.length - cpl a1.reverse b1.reverse = n2 at s2 ⊢
      have t := ed_suf (sub := cost) h0 hs (a1.drop n1) (a1.take n1) (b1.take n2)
      have t2 : b1.take n2 ++ a1.drop n1 = b1 := by rw [s2, List.take_append_drop]
      rw [List.take_append_drop, t2] at t
      exact t
    have e3 : cutEnds a b = (a1.take (a1.length - cpl a1.reverse b1.reverse), b1.take (b1.length - cpl a1.reverse b1.reverse)) := by
      simp only [cutEnds, ha1, hb1]
    rw [e3]
    rw [e1, e2] at h ⊢
    generalize a1.take (a1.length - cpl a1.reverse b1.reverse) = a2 at h ⊢
    generalize b1.take (b1.length - cpl a1.reverse b1.reverse) = b2 at h ⊢
    simp only
    split
    · rename_i hq
      rcases hq with rfl | rfl
      · rw [ed_nil]; simp
      · rw [ed_nil']; simp
    · rename_i hq
      have ha : a2 ≠ [] := fun q => hq (.inl q)
      have hb : b2 ≠ [] := fun q => hq (.inr q)
      split
      · rw [ed_sym hy] at h ⊢
        exact levTab_is h0 h2 hy hb ha h
      · exact levTab_is h0 h2 hy ha hb h
end Mine
end PartPEd2
section Ov
local macro_rules | `(tactic| omega) => `(tactic| first | lia | omega (config := {}))
local macro_rules | `(tactic| lcg_sub) => `(tactic| first | exact List.forall_mem_nil _ | exact Mine.fmem (by k_mem) (by lcg_sub))
local macro_rules | `(tactic| kcf_all) => `(tactic| first | exact List.forall_mem_nil _ | exact fun _ hp => hp | (refine Mine.fmem ?_ ?_; (focus kcf_m); kcf_all))
section PartT2
open PySem PySem.W PyProof.Rows PySem.Spec PySem.Calls
namespace Mine
theorem fm {a : Int} {n : Int} (h : 0 ≤ n) : a.fmod n = a % n := Int.fmod_eq_emod_of_nonneg a h
theorem fd {a : Int} {n : Int} (h : 0 ≤ n) : a.fdiv n = a / n := Int.fdiv_eq_ediv_of_nonneg a h
/-- what a substitution costs -/
noncomputable def subCost (a b : Str) : Int := if a == b then 0 else if Txt.lower a == Txt.lower b then 1 else 2
set_option maxRecDepth 100000 in
set_option maxHeartbeats 8000000 in
theorem nought_ok {w : World} {p : Program} {loose : List Str} {mean : ExcName → Option Value} {mg mb : Str → Option Value} {dp un : Nat} {gd : Option (List Code)} {cn : Str} {cs : Scope} {a : Addr} {ccd : Value} {cl : List (Str × Addr)} {outer : List Env} {A₀ : Around} {base h₀ : Heap} {L : Addr} {m : Str → Option Value} {news : List (Addr × Obj)} {s : Shared} {Q E : Value → Shared → Prop}
    {d : Int} {td : Tok}
    (B : Below A₀ base outer h₀) (F : Fr h₀ L s.heap m) (X : (K2 w.params).In h₀) (N : News h₀ L s.heap news) (T : Top p loose mean mg mb h₀) (hk : cs.kind = .function) (hdp : dp + 1 < recursionLimit) (hun : un + 8 < cLine)
    
    (ret : ∀ t h' tk', Fr h₀ L h' m → News h₀ L h' news → Q (.int (4 - d % 2 - d / 2 % 2 - d / 4 % 2 - d / 8 % 2) t) { s with heap := h', toks := tk' }) :
    wpAny (model PySem.Challenge.rw_pu0036_01.row.prog w) (ktrTop dp un gd cn cs L a ccd cl outer) (call (.ref 79) [.int d td]) Q E s := by
  revert X
  k_fill
  intro X
  refine wpAny_call ?_
  k_dflt (refine' codePass (P := []) (rest := news) B F X N T (fun q hq => nomatch hq) (fun q hq => ⟨hq, by simp⟩) ?kA ?kF ?kK ?k6 ?k7 ?k8 ?k9 ?kB ?_ ?c2 ?c3 ?c4 ?c5; (case kA => exact rfl); (case kF => exact rfl); (case kK => assumption); (case k6 => k_is); (case k7 => k_is); (case k8 => ktr_room); (case k9 => first | exact BindsTo.of_eq rfl | exact binds_K (by k_in) rfl (by k_is) rfl rfl rfl); (case c5 => decide); (case kB => exact locs rfl); (case c2 => exact rfl); (case c3 => exact rfl); (case c4 => exact rfl); k_whole; intro g' L' h' hkeep' F' N' B' X' T' lP'; (try dsimp only); (try k_fold))
  k_steps
  refine cb_retI ret ?_ (by assumption) (by assumption)
  simp only [fm (show (0:Int) ≤ 2 by decide), fd (show (0:Int) ≤ 2 by decide), fd (show (0:Int) ≤ 4 by decide), fd (show (0:Int) ≤ 8 by decide)]
set_option maxRecDepth 100000 in
set_option maxHeartbeats 8000000 in
theorem subst_ok {w : World} {p : Program} {loose : List Str} {mean : ExcName → Option Value} {mg mb : Str → Option Value} {dp un : Nat} {gd : Option (List Code)} {cn : Str} {cs : Scope} {a : Addr} {ccd : Value} {cl : List (Str × Addr)} {outer : List Env} {A₀ : Around} {base h₀ : Heap} {L : Addr} {m : Str → Option Value} {news : List (Addr × Obj)} {s : Shared} {Q E : Value → Shared → Prop}
    {x y : Str} {tx ty : Tok}
    (B : Below A₀ base outer h₀) (F : Fr h₀ L s.heap m) (X : (K2 w.params).In h₀) (N : News h₀ L s.heap news) (T : Top p loose mean mg mb h₀) (hk : cs.kind = .function) (hdp : dp + 1 < recursionLimit) (hun : un + 8 < cLine)
    (hx : x.length ≤ 100) (hy : y.length ≤ 100)
    (ret : ∀ t h' tk', Fr h₀ L h' m → News h₀ L h' news → Q (.int (subCost x y) t) { s with heap := h', toks := tk' }) :
    wpAny (model PySem.Challenge.rw_pu0036_01.row.prog w) (ktrTop dp un gd cn cs L a ccd cl outer) (call (.ref 21) [.str x tx, .str y ty]) Q E s := by
  revert X
  k_fill
  intro X
  refine wpAny_call ?_
  k_dflt (refine' codePass (P := []) (rest := news) B F X N T (fun q hq => nomatch hq) (fun q hq => ⟨hq, by simp⟩) ?kA ?kF ?kK ?k6 ?k7 ?k8 ?k9 ?kB ?_ ?c2 ?c3 ?c4 ?c5; (case kA => exact rfl); (case kF => exact rfl); (case kK => assumption); (case k6 => k_is); (case k7 => k_is); (case k8 => ktr_room); (case k9 => first | exact BindsTo.of_eq rfl | exact binds_K (by k_in) rfl (by k_is) rfl rfl rfl); (case c5 => decide); (case kB => exact locs rfl); (case c2 => exact rfl); (case c3 => exact rfl); (case c4 => exact rfl); k_whole; intro g' L' h' hkeep' F' N' B' X' T' lP'; (try dsimp only); (try k_fold))
  k_steps
  all_goals (refine cb_retI ret ?_ (by assumption) (by assumption); simp only [subCost]; simp only [*, if_true, Bool.false_eq_true, if_false])
end Mine
end PartT2
section PartT4
open PySem PySem.W PyProof.Rows PySem.Spec PySem.Calls
namespace Mine
noncomputable def cost1 (c d : Nat) : Int := subCost (S [c]) (S [d])
theorem fr_kst {h₀ h : Heap} {L : Addr} {m : Str → Option Value} {ps : List (Str × Value)} (F : Fr h₀ L h m) (hk : ∀ p ∈ ps, m p.1 = some p.2) : Fr h₀ L h (kstB m ps) := by
  have e : kstB m ps = m := by
    funext y
    exact kstB_eq hk fun _ => rfl
  rw [e]; exact F
theorem row0_is {n : Nat} {ys : List Value} (h : IntsAre ys ((List.range n).map fun (i : Nat) => (2 : Int) + (i : Int) * 2)) : IntsAre ys (row0 n) := by
  have e : ((List.range n).map fun (i : Nat) => (2 : Int) + (i : Int) * 2) = row0 n := by
    unfold row0
    exact List.map_congr_left fun i _ => by omega
  rw [← e]; exact h
theorem lt_min {x y : Int} : (if x < y then x else y) = min x y := by
  split
  · exact (Int.min_eq_left (Int.le_of_lt (by assumption))).symm
  · exact (Int.min_eq_right (Int.not_lt.mp (by assumption))).symm
theorem min_is {r o d c : Int} : (if d + c < (if o < r then o else r) + 2 then d + c else (if o < r then o else r) + 2) = min (min r o + 2) (d + c) := by
  rw [lt_min, lt_min, Int.min_comm, Int.min_comm o r]
theorem row0_len (n : Nat) : (row0 n).length = n := by simp [row0]
theorem size2 {n : Nat} : Builtin.Range.rangeSize 2 (2 * ((n : Int) + 1)) 2 = (n : Int) := by
  unfold Builtin.Range.rangeSize
  rw [if_pos (by decide)]
  split <;> omega
theorem small2 {n : Nat} (h : n ≤ 40) : Builtin.Range.small 2 (2 * ((n : Int) + 1)) 2 = true := by
  unfold Builtin.Range.small
  rw [size2]
  have h1 : Builtin.Range.rangeFitsLong 2 = true := by decide
  have h2 : ∀ x : Int, 0 ≤ x → x ≤ 100 → Builtin.Range.rangeFitsLong x = true := fun x a b => by
    have e : (2 : Int) ^ 63 = 9223372036854775808 := by decide
    simp only [Builtin.Range.rangeFitsLong, Bool.and_eq_true, decide_eq_true_eq, e]
    omega
  rw [h1, h2 _ (by omega) (by omega), h2 _ (by omega) (by omega), if_pos (by decide), h2 (2 * ((n : Int) + 1) + (2 - 1)) (by omega) (by omega)]
  simp
theorem fn_inj {oc oc' cdv cdv' dV dV' kV kV' doc doc' pm pm' ct ct' : Value} {an an' od od' : Option Addr} {osl osl' : Array (Option Value)} {name name' qual qual' : Str} {params params' : Arguments} {body body' : List Stmt} {scope scope' : Scope} (e : some (Obj.mk oc od (.func (fnOf name qual params body scope dV kV doc pm an cdv ct)) osl) = some (Obj.mk oc' od' (.func (fnOf name' qual' params' body' scope' dV' kV' doc' pm' an' cdv' ct')) osl')) : qual = qual' ∧ body = body' ∧ scope = scope' ∧ cdv = cdv' := by
  have b := Data.func.inj (congrArg Obj.data (Option.some.inj e))
  exact ⟨congrArg FuncData.qualname b, FuncBody.stmts.inj (congrArg FuncData.body b), congrArg FuncData.scope b, congrArg FuncData.code b⟩
set_option maxRecDepth 100000 in
set_option maxHeartbeats 8000000 in
theorem lev_table {w : World} {p : Program} {loose : List Str} {mean : ExcName → Option Value} {mg mb : Str → Option Value} {dp un : Nat} {gd : Option (List Code)} {cn : Str} {cs : Scope} {a : Addr} {ccd : Value} {cl : List (Str × Addr)} {outer : List Env} {base h₀ g : Heap} {L L' : Addr} {m m₀ : Str → Option Value} {news : List (Addr × Obj)} {s : Shared} {R : Result → Shared → Prop} {Q0 : Flow → Shared → Prop} {E0 : Value → Shared → Prop}
    {oc : Value} {od : Option Addr} {name qual : Str} {params : Arguments} {s0 s1 s2 s3 s4 s5 s6 s7 s8 s9 s10 s11 : Stmt} {rest : List Stmt} {scope : Scope} {dV kV doc pm cdv ct : Value} {an : Option Addr} {osl : Array (Option Value)}
    {la lb : List Nat} {mc : Int} {ta tb tm : Tok}
    (X : (K2 w.params).In g)
    (hK : (K2 w.params).lookup 28 = some ⟨oc, od, .func (fnOf name qual params (s0 :: s1 :: s2 :: s3 :: s4 :: s5 :: s6 :: s7 :: s8 :: s9 :: s10 :: s11 :: rest) scope dV kV doc pm an cdv ct), osl⟩)
    (B : Below (ktrTop dp un gd cn cs L a ccd cl outer) base (envX cn cs L a ccd cl :: outer) g) (T : Top p loose mean mg mb g) (hdp : dp + 3 < recursionLimit) (hun : un + 24 < cLine)
    (F : Fr g L' s.heap (kstB m₀ [(Str.ofString "a", .str (S la) ta), (Str.ofString "b", .str (S lb) tb), (Str.ofString "max_cost", .int mc tm)])) (hx : la.length ≤ 40) (hy : lb.length ≤ 40)
    (hQ0 : ∀ v s', LeaveK h₀ L m g (fun r s' => News h₀ L s'.heap news → R r s') v s' → Q0 (.ret v) s')
    (ret : ∀ t h' tk, Fr h₀ L h' m → News h₀ L h' news → R (.ok (.ret (.int (levTab cost1 la lb mc) t))) { s with heap := h', toks := tk }) :
    wpAny (model PySem.Challenge.rw_pu0036_01.row.prog w) ((ktrTop dp un gd cn cs L a ccd cl outer).deeper (envOf qual scope L' 28 cdv)) (execs rest (envOf qual scope L' 28 cdv)) Q0 E0 s := by
  w_top off
  revert X
  k_fill
  intro X
  obtain ⟨o₂, h₂⟩ : ∃ o₂, (K2 w.params).lookup 28 = some o₂ ∧ o₂ = _ := ⟨_, by k_is, rfl⟩
  have e₂ := h₂.2
  have h₂ := h₂.1
  have e₃ := hK.symm.trans h₂
  rw [e₂] at e₃
  have i1 := fn_inj e₃
  have i2 := congrArg (List.drop 12) i1.2.1
  dsimp only [List.drop] at i2
  have i3 := i1.1
  have i4 := i1.2.2.1
  have i5 := i1.2.2.2
  clear i1 e₃ e₂
  subst i2 i3 i4 i5
  clear hK h₂
  have hl5 : (S la).length = la.length := S_len _
  have hl6 : (S lb).length = lb.length := S_len _
  have N : News g L' s.heap [] := News.nil
  show wpAny _ _ _ _ _ _
  (try k_fold)
  refine wpGen ?_; intro R0 hR0
  repeat' ((fail_if_success (with_reducible show wpAny _ _ (call (Value.type "list") _) _ _ _)); (fail_if_success (with_reducible show KswEnd _ _ _ _ _ _ _ _ _ _ _ _)); (fail_if_success (with_reducible show FcEnd _ _ _ _ _ _ _ _ _ _)); (fail_if_success (with_reducible show CutEnd _ _ _ _ _ _ _ _ _)); first | (k_unfold; (try dsimp only)) | ((with_reducible show wpAny _ _ (execs (_ :: _) _) _ _ _); walk1; (try k_fold)) | (k_end; wrow_close) | (k_here; (with_reducible show wpAny _ _ (call (Value.ref 21) _) _ _ _); k_dflt (refine' subst_ok ?k1 ?k2 ?k3 ?k4 ?k5 ?kK ?kd ?ku ?kx ?ky ?_; (case k1 => k_asm); (case k2 => k_asm); (case k3 => k_asm); (case k4 => k_asm); (case k5 => k_asm); (case kK => first | exact rfl | assumption); (case kd => ktr_room); (case ku => ktr_units); (case kx => omega); (case ky => omega)); k_whole; intro t9 h9 tk9 F9 N9; (try k_fold)) | walk1 | (dsimp only; walk1) | (leave1; try dsimp only))
  · refine ofGen hR0 (hQ0 _ _ ?_)
    show LeaveK _ _ _ _ _ _ _
    refine leaveK_ (by assumption) (by assumption) fun F9 _ N9 => ?_
    (try dsimp only)
    rw [tab_over (cost := cost1) (by assumption)]
    exact ret _ _ _ F9 N9
  · (rename IsRange _ _ _ _ _ _ _ _ => rgX); (rename Fr _ _ _ _ => F1); (rename News _ _ _ _ => N1)
    have hlt := tab_go (cost := cost1) (la := la) (lb := lb) (mc := mc) (by assumption)
    refine list_range_K (n := la.length) rfl F1 N1 rgX (by rw [hl5]; exact small2 hx) (by rw [hl5]; exact size2) (by omega) ?_
    intro ra h2 tk2 ys kk F2 N2 lr2 hI2
    clear F1 N1 rgX lr2
    have hI3 := row0_is hI2
    clear hI2
    repeat' ((fail_if_success (with_reducible show wpAny _ _ (pyIter _) _ _ _)); (fail_if_success (with_reducible show KswEnd _ _ _ _ _ _ _ _ _ _ _ _)); (fail_if_success (with_reducible show FcEnd _ _ _ _ _ _ _ _ _ _)); (fail_if_success (with_reducible show CutEnd _ _ _ _ _ _ _ _ _)); first | (k_unfold; (try dsimp only)) | ((with_reducible show wpAny _ _ (execs (_ :: _) _) _ _ _); walk1; (try k_fold)) | (k_end; wrow_close) | (k_here; (with_reducible show wpAny _ _ (call (Value.ref 21) _) _ _ _); k_dflt (refine' subst_ok ?k1 ?k2 ?k3 ?k4 ?k5 ?kK ?kd ?ku ?kx ?ky ?_; (case k1 => k_asm); (case k2 => k_asm); (case k3 => k_asm); (case k4 => k_asm); (case k5 => k_asm); (case kK => first | exact rfl | assumption); (case kd => ktr_room); (case ku => ktr_units); (case kx => omega); (case ky => omega)); k_whole; intro t9 h9 tk9 F9 N9; (try k_fold)) | walk1 | (dsimp only; walk1) | (leave1; try dsimp only))
    (rename IsRange _ _ _ _ _ _ _ _ => rgX); (rename Fr _ _ _ _ => F3); (rename News _ _ _ _ => N3)
    refine' forRange (σ := List Value × List Int × Int × Tok) (n := lb.length) (fun c => [(ra, listOf c.1.toArray kk)]) (fun c => [(Str.ofString "result", .int c.2.2.1 c.2.2.2)]) [Str.ofString "bindex", Str.ofString "bchar", Str.ofString "distance", Str.ofString "minimum", Str.ofString "index", Str.ofString "substitute", Str.ofString "insert_delete"] (fun i c => IntsAre c.1 c.2.1 ∧ c.2.1.length = la.length ∧ outGo cost1 la mc lb 0 (row0 la.length) 0 = outGo cost1 la mc (lb.drop i) i c.2.1 c.2.2.1) (ys, row0 la.length, 0, _) rfl rgX ?small ?size F3 N3 (fun _ => rfl) ?hk ?hp ?turn ?done
    case hk => kst_all
    case small => exact small_one (by omega) (by omega) (by omega) (by omega)
    case size => rw [rangeSize_nat]; omega
    case hp => exact ⟨hI3, row0_len _, rfl⟩
    case turn =>
      intro i t; refine all_1_1_1_1 ?_; intro vs ns r tr u h tk own hi hP hoff F4 N4
      have hP1 := hP.1; have hP2 := hP.2.1; have hP3 := hP.2.2; clear hP
      dsimp only at hP1 hP2 hP3 hoff F4 N4
      simp only [List.cons_append, List.nil_append] at N4
      clear F3 N3 rgX hI3
      refine wpGen ?_; intro R1 hR1
      repeat' ((fail_if_success (with_reducible show wpAny _ _ (pyIter _) _ _ _)); (fail_if_success (with_reducible show KswEnd _ _ _ _ _ _ _ _ _ _ _ _)); (fail_if_success (with_reducible show FcEnd _ _ _ _ _ _ _ _ _ _)); (fail_if_success (with_reducible show CutEnd _ _ _ _ _ _ _ _ _)); first | (k_unfold; (try dsimp only)) | ((with_reducible show wpAny _ _ (execs (_ :: _) _) _ _ _); walk1; (try k_fold)) | (k_end; wrow_close) | (k_here; (with_reducible show wpAny _ _ (call (Value.ref 21) _) _ _ _); k_dflt (refine' subst_ok ?k1 ?k2 ?k3 ?k4 ?k5 ?kK ?kd ?ku ?kx ?ky ?_; (case k1 => k_asm); (case k2 => k_asm); (case k3 => k_asm); (case k4 => k_asm); (case k5 => k_asm); (case kK => first | exact rfl | assumption); (case kd => ktr_room); (case ku => ktr_units); (case kx => omega); (case ky => omega)); k_whole; intro t9 h9 tk9 F9 N9; (try k_fold)) | walk1 | (dsimp only; walk1) | (leave1; try dsimp only))
      (rename IsRange _ _ _ _ _ _ _ _ => rgX); (rename Fr _ _ _ _ => F5); (rename News _ _ _ _ => N5)
      simp only [Int.zero_add, item_at hi] at F5
      generalize hW : cellGo (cost1 (lb.getD i 0)) la ns (2 * (i : Int)) (2 * (i : Int)) big = W
      refine' forRange (σ := List Value × List Int × (Int × Tok) × (Int × Tok) × (Int × Tok)) (n := la.length) (fun c => (ra, listOf c.1.toArray kk) :: own) (fun c => [(Str.ofString "distance", .int c.2.2.1.1 c.2.2.1.2), (Str.ofString "result", .int c.2.2.2.1.1 c.2.2.2.1.2), (Str.ofString "minimum", .int c.2.2.2.2.1 c.2.2.2.2.2)]) [Str.ofString "index", Str.ofString "substitute", Str.ofString "insert_delete"] (fun j c => IntsAre c.1 c.2.1 ∧ c.2.1.length = la.length ∧ CellIs (cost1 (lb.getD i 0)) la W j c.2.1 c.2.2.1.1 c.2.2.2.1.1 c.2.2.2.2.1) (vs, ns, (_, _), (_, _), (_, _)) rfl rgX ?small2 ?size2 F5 N5 (fun _ => rfl) ?hk2 ?hp2 ?turn2 ?done2
      case hk2 => kst_all
      case small2 => exact small_one (by omega) (by omega) (by omega) (by omega)
      case size2 => rw [rangeSize_nat]; omega
      case hp2 =>
        refine ⟨hP1, hP2, ?_⟩
        dsimp only
        rw [← hW, Int.mul_comm 2 (i : Int)]
        exact CellIs.start _ _ _ _ _ _
      case turn2 =>
        intro j tj; refine all_1_1_2_2_2 ?_; intro vs5 ns5 d5 td5 r5 tr5 mn5 tm5 u2 h5 tk5 own5 hj hQ hoff5 F6 N6
        have hQ1 := hQ.1; have hQ2 := hQ.2.1; have hQ3 := hQ.2.2; clear hQ
        dsimp only at hQ1 hQ2 hQ3 hoff5 F6 N6
        simp only [List.cons_append, List.nil_append] at N6
        have hoff6 : OwnOff (own ++ own5) [ra] := fun p hp b hb => (List.mem_append.mp hp).elim (fun q => hoff p q b hb) fun q => hoff5 p q b (by rw [List.mem_singleton.mp hb]; exact .head _)
        have ho1 : ∀ p ∈ own, p ∈ own ++ own5 := fun p hp => List.mem_append_left _ hp
        have ho2 : ∀ p ∈ own5, p ∈ own ++ own5 := fun p hp => List.mem_append_right _ hp
        generalize own ++ own5 = own6 at N6 hoff6 ho1 ho2
        clear hoff5
        clear F5 N5 rgX
        simp only [Int.zero_add] at F6
        have hb1 : (S [lb.getD i 0]).length = 1 := S_len _
        refine wpGen ?_; intro R2 hR2
        repeat' ((fail_if_success (with_reducible show wpAny _ _ (exec (Stmt.While _ _ _ _) _) _ _ _)); (fail_if_success (with_reducible show wpAny _ _ (exec (Stmt.For _ _ _ _ _) _) _ _ _)); (fail_if_success (with_reducible show KswEnd _ _ _ _ _ _ _ _ _ _ _ _)); (fail_if_success (with_reducible show FcEnd _ _ _ _ _ _ _ _ _ _)); (fail_if_success (with_reducible show CutEnd _ _ _ _ _ _ _ _ _)); first | (k_unfold; (try dsimp only)) | ((with_reducible show wpAny _ _ (execs (_ :: _) _) _ _ _); walk1; (try k_fold)) | (k_end; wrow_close) | (k_here; (with_reducible show wpAny _ _ (call (Value.ref 21) _) _ _ _); k_dflt (refine' subst_ok ?k1 ?k2 ?k3 ?k4 ?k5 ?kK ?kd ?ku ?kx ?ky ?_; (case k1 => k_asm); (case k2 => k_asm); (case k3 => k_asm); (case k4 => k_asm); (case k5 => k_asm); (case kK => first | exact rfl | assumption); (case kd => ktr_room); (case ku => ktr_units); (case kx => omega); (case ky => omega)); k_whole; intro t9 h9 tk9 F9 N9; (try k_fold)) | walk1 | (dsimp only; walk1) | (leave1; try dsimp only))
        · refine ofGen hR2 ?_
          show FcEnd _ _ _ _ _ _ _ _ _ _
          (rename IntsAre _ _ => hi9)
          refine fcEnd (_, ns5.set j _, (ns5.getD j 0, _), (_, _), (_, _)) (by assumption) (by assumption) (by exact fmem (List.Mem.head _) (fun p hp => List.Mem.tail _ (ho1 p hp))) (by exact fun p hp => List.Mem.tail _ (ho2 p hp)) (by kst_all) (by (intro z h2 h3; (have hz0 : z ≠ Str.ofString "distance" := h2 _ (.head _)); (have hz1 : z ≠ Str.ofString "result" := h2 _ (.tail _ (.head _))); (have hz2 : z ≠ Str.ofString "minimum" := h2 _ (.tail _ (.tail _ (.head _)))); (have hs0 : z ≠ Str.ofString "index" := by rintro rfl; exact absurd h3 (by decide)); (have hs1 : z ≠ Str.ofString "substitute" := by rintro rfl; exact absurd h3 (by decide)); (have hs2 : z ≠ Str.ofString "insert_delete" := by rintro rfl; exact absurd h3 (by decide)); simp only [kstB, h3, if_neg hz0, if_neg hz1, if_neg hz2, if_neg hs0, if_neg hs1, if_neg hs2, Bool.false_eq_true, if_false])) (by
            refine ⟨hi9, by rw [List.length_set]; exact hQ2, hQ3.step hj (by omega) ?_ ?_⟩
            · rw [cost1, ← item_at hj]; exact min_is
            · exact (if_pos (by assumption)).symm)
        · refine ofGen hR2 ?_
          show FcEnd _ _ _ _ _ _ _ _ _ _
          (rename IntsAre _ _ => hi9)
          refine fcEnd (_, ns5.set j _, (ns5.getD j 0, _), (_, _), (_, _)) (by assumption) (by assumption) (by exact fmem (List.Mem.head _) (fun p hp => List.Mem.tail _ (ho1 p hp))) (by exact fun p hp => List.Mem.tail _ (ho2 p hp)) (by kst_all) (by (intro z h2 h3; (have hz0 : z ≠ Str.ofString "distance" := h2 _ (.head _)); (have hz1 : z ≠ Str.ofString "result" := h2 _ (.tail _ (.head _))); (have hz2 : z ≠ Str.ofString "minimum" := h2 _ (.tail _ (.tail _ (.head _)))); (have hs0 : z ≠ Str.ofString "index" := by rintro rfl; exact absurd h3 (by decide)); (have hs1 : z ≠ Str.ofString "substitute" := by rintro rfl; exact absurd h3 (by decide)); (have hs2 : z ≠ Str.ofString "insert_delete" := by rintro rfl; exact absurd h3 (by decide)); simp only [kstB, h3, if_neg hz0, if_neg hz1, if_neg hz2, if_neg hs0, if_neg hs1, if_neg hs2, Bool.false_eq_true, if_false])) (by
            refine ⟨hi9, by rw [List.length_set]; exact hQ2, hQ3.step hj (by omega) ?_ ?_⟩
            · rw [cost1, ← item_at hj]; exact min_is
            · exact (if_neg (by assumption)).symm)
      case done2 =>
        refine all_1_1_2_2_2 ?_; intro vs5 ns5 d5 td5 r5 tr5 mn5 tm5 u2 h5 tk5 hQ F6 N6
        have hQ1 := hQ.1; have hQ2 := hQ.2.1; have hQ3 := hQ.2.2; clear hQ
        dsimp only at hQ1 hQ2 hQ3 F6 N6
        clear F5 N5 rgX
        have hWf := hQ3.fin hQ2
        have hst := outGo_step cost1 la mc hi ns r
        rw [hW, hWf] at hst
        dsimp only at hst
        repeat' ((fail_if_success (with_reducible show wpAny _ _ (exec (Stmt.While _ _ _ _) _) _ _ _)); (fail_if_success (with_reducible show wpAny _ _ (exec (Stmt.For _ _ _ _ _) _) _ _ _)); (fail_if_success (with_reducible show KswEnd _ _ _ _ _ _ _ _ _ _ _ _)); (fail_if_success (with_reducible show FcEnd _ _ _ _ _ _ _ _ _ _)); (fail_if_success (with_reducible show CutEnd _ _ _ _ _ _ _ _ _)); first | (k_unfold; (try dsimp only)) | ((with_reducible show wpAny _ _ (execs (_ :: _) _) _ _ _); walk1; (try k_fold)) | (k_end; wrow_close) | (k_here; (with_reducible show wpAny _ _ (call (Value.ref 21) _) _ _ _); k_dflt (refine' subst_ok ?k1 ?k2 ?k3 ?k4 ?k5 ?kK ?kd ?ku ?kx ?ky ?_; (case k1 => k_asm); (case k2 => k_asm); (case k3 => k_asm); (case k4 => k_asm); (case k5 => k_asm); (case kK => first | exact rfl | assumption); (case kd => ktr_room); (case ku => ktr_units); (case kx => omega); (case ky => omega)); k_whole; intro t9 h9 tk9 F9 N9; (try k_fold)) | walk1 | (dsimp only; walk1) | (leave1; try dsimp only))
        · refine ofGen hR1 ?_
          dsimp only [FcPost]
          refine ofGen hR0 (hQ0 _ _ ?_)
          show LeaveK _ _ _ _ _ _ _
          refine leaveK_ (by assumption) (by assumption) fun F9 _ N9 => ?_
          (try dsimp only)
          have hv : mc + 1 = levTab cost1 la lb mc := by rw [hlt, hP3, hst]; exact (if_pos (by assumption)).symm
          rw [hv]
          exact ret _ _ _ F9 N9
        · refine ofGen hR1 ?_
          show FcEnd _ _ _ _ _ _ _ _ _ _
          refine fcEnd (vs5, ns5, r5, _) (by assumption) (by assumption) (by exact fmem (List.Mem.head _) (List.forall_mem_nil _)) (by exact fun p hp => List.Mem.tail _ hp) (by kst_all) (by (intro z h2 h3; (have hz0 : z ≠ Str.ofString "result" := h2 _ (.head _)); (have hs0 : z ≠ Str.ofString "bindex" := by rintro rfl; exact absurd h3 (by decide)); (have hs1 : z ≠ Str.ofString "bchar" := by rintro rfl; exact absurd h3 (by decide)); (have hs2 : z ≠ Str.ofString "distance" := by rintro rfl; exact absurd h3 (by decide)); (have hs3 : z ≠ Str.ofString "minimum" := by rintro rfl; exact absurd h3 (by decide)); (have hs4 : z ≠ Str.ofString "index" := by rintro rfl; exact absurd h3 (by decide)); (have hs5 : z ≠ Str.ofString "substitute" := by rintro rfl; exact absurd h3 (by decide)); (have hs6 : z ≠ Str.ofString "insert_delete" := by rintro rfl; exact absurd h3 (by decide)); (have hc0 : [Str.ofString "index", Str.ofString "substitute", Str.ofString "insert_delete"].contains z = false := by simp only [List.contains_cons, List.contains_nil, beq_eq_false_iff_ne.mpr hs4, beq_eq_false_iff_ne.mpr hs5, beq_eq_false_iff_ne.mpr hs6, Bool.or_false]); simp only [kstB, h3, hc0, if_neg hz0, if_neg hs0, if_neg hs1, if_neg hs2, if_neg hs3, if_neg hs4, if_neg hs5, if_neg hs6, Bool.false_eq_true, if_false])) ⟨hQ1, hQ2, by rw [hP3, hst]; exact if_neg (by assumption)⟩
    case done =>
      refine all_1_1_1_1 ?_; intro vs5 ns5 r5 tr5 u2 h5 tk5 hQ F6 N6
      have hQ1 := hQ.1; have hQ2 := hQ.2.1; have hQ3 := hQ.2.2; clear hQ
      dsimp only at hQ1 hQ2 hQ3 F6 N6
      clear F3 N3 rgX
      repeat' ((fail_if_success (with_reducible show wpAny _ _ (exec (Stmt.While _ _ _ _) _) _ _ _)); (fail_if_success (with_reducible show wpAny _ _ (exec (Stmt.For _ _ _ _ _) _) _ _ _)); (fail_if_success (with_reducible show KswEnd _ _ _ _ _ _ _ _ _ _ _ _)); (fail_if_success (with_reducible show FcEnd _ _ _ _ _ _ _ _ _ _)); (fail_if_success (with_reducible show CutEnd _ _ _ _ _ _ _ _ _)); first | (k_unfold; (try dsimp only)) | ((with_reducible show wpAny _ _ (execs (_ :: _) _) _ _ _); walk1; (try k_fold)) | (k_end; wrow_close) | (k_here; (with_reducible show wpAny _ _ (call (Value.ref 21) _) _ _ _); k_dflt (refine' subst_ok ?k1 ?k2 ?k3 ?k4 ?k5 ?kK ?kd ?ku ?kx ?ky ?_; (case k1 => k_asm); (case k2 => k_asm); (case k3 => k_asm); (case k4 => k_asm); (case k5 => k_asm); (case kK => first | exact rfl | assumption); (case kd => ktr_room); (case ku => ktr_units); (case kx => omega); (case ky => omega)); k_whole; intro t9 h9 tk9 F9 N9; (try k_fold)) | walk1 | (dsimp only; walk1) | (leave1; try dsimp only))
      refine ofGen hR0 (hQ0 _ _ ?_)
      show LeaveK _ _ _ _ _ _ _
      refine leaveK_ (by assumption) (by assumption) fun F9 _ N9 => ?_
      (try dsimp only)
      have hv : r5 = levTab cost1 la lb mc := by rw [hlt, hQ3, List.drop_length]; rfl
      rw [hv]
      exact ret _ _ _ F9 N9
end Mine
end PartT4
section PartT5
open PySem PySem.W PyProof.Rows PySem.Spec PySem.Calls
namespace Mine
abbrev tupOf (a : Array Value) : Obj := { cls := .type "tuple", data := .seq a }
theorem newsApp {h₀ h : Heap} {L : Addr} {p q : List (Addr × Obj)} (a : News h₀ L h p) (b : News h₀ L h q) : News h₀ L h (p ++ q) := fun x hx => (List.mem_append.mp hx).elim (a x) (b x)
theorem newsTwo {h₀ h : Heap} {L : Addr} {x y : Addr × Obj} {q : List (Addr × Obj)} (a : News h₀ L h [x, y]) (b : News h₀ L h q) : News h₀ L h (x :: y :: q) := newsApp a b
theorem newsOne {h₀ h : Heap} {L : Addr} {x : Addr × Obj} {q : List (Addr × Obj)} (a : News h₀ L h [x]) (b : News h₀ L h q) : News h₀ L h (x :: q) := newsApp a b
theorem newsThree {h₀ h : Heap} {L : Addr} {x y z : Addr × Obj} {q : List (Addr × Obj)} (a : News h₀ L h [x, y, z]) (b : News h₀ L h q) : News h₀ L h (x :: y :: z :: q) := newsApp a b
theorem off_own {rest own : List (Addr × Obj)} {lc : Addr} {o : Obj} (h : AllLt lc rest) (hoff : OwnOff own (((lc, o) :: rest).map (·.1))) : OwnOff (rest ++ own) [lc] := fun p hp b hb => (List.mem_append.mp hp).elim (fun q => by rw [List.mem_singleton.mp hb]; exact neN (Nat.ne_of_lt (allLt_mem h p q))) fun q => hoff p q b (by rw [List.mem_singleton.mp hb]; exact .head _)
theorem ints_push {vs : List Value} {ns : List Int} {n : Int} {t : Tok} (h : IntsAre vs ns) : IntsAre (vs ++ [.int n t]) (ns ++ [n]) := by
  induction h with
  | nil => exact .cons n t .nil
  | cons k u _ ih => exact .cons k u ih
set_option maxRecDepth 100000 in
set_option maxHeartbeats 8000000 in
theorem run_ok {w : World} {p : Program} {loose : List Str} {mean : ExcName → Option Value} {mg mb : Str → Option Value} {dp un : Nat} {gd : Option (List Code)} {cn : Str} {cs : Scope} {a : Addr} {ccd : Value} {cl : List (Str × Addr)} {outer : List Env} {A₀ : Around} {base h₀ : Heap} {L : Addr} {m : Str → Option Value} {news : List (Addr × Obj)} {s : Shared} {Q E : Value → Shared → Prop}
    {l : Addr} {rest : List (Addr × Obj)} {vs : List Value} {ms : List Nat}
    (B : Below A₀ base outer h₀) (F : Fr h₀ L s.heap m) (X : (K2 w.params).In h₀) (N : News h₀ L s.heap news) (T : Top p loose mean mg mb h₀) (hk : cs.kind = .function) (hdp : dp + 3 < recursionLimit) (hun : un + 24 < cLine)
    (hl : s.heap.IsList l vs.toArray) (hms : IntsAre vs (zs ms)) (hlen : ms.length ≤ 16) (M : Minus [l] news rest)
    (ret : ∀ tu lc (cs' : List Value) k t h' tk', Fr h₀ L h' m → News h₀ L h' ((tu, tupOf #[.int ((runGo ms 4095 []).1 : Nat) t, .ref lc]) :: (lc, listOf cs'.toArray k) :: rest) → AllLt lc rest → @LT.lt Nat _ lc tu → IntsAre cs' (zs (runGo ms 4095 []).2) → Q (.ref tu) { s with heap := h', toks := tk' }) :
    wpAny (model PySem.Challenge.rw_pu0036_01.row.prog w) (ktrTop dp un gd cn cs L a ccd cl outer) (call (.ref 72) [.ref l]) Q E s := by
  w_top off
  revert X
  k_fill
  intro X
  refine wpAny_call ?_
  k_dflt (refine' codePass (P := rest) (rest := []) B F X N T (fun q hq => (M.one q hq).1) (fun q hq => nomatch hq) ?kA ?kF ?kK ?k6 ?k7 ?k8 ?k9 ?kB ?_ ?c2 ?c3 ?c4 ?c5; (case kA => exact rfl); (case kF => exact rfl); (case kK => assumption); (case k6 => k_is); (case k7 => k_is); (case k8 => ktr_room); (case k9 => first | exact BindsTo.of_eq rfl | exact binds_K (by k_in) rfl (by k_is) rfl rfl rfl); (case c5 => decide); (case kB => exact locs rfl); (case c2 => exact rfl); (case c3 => exact rfl); (case c4 => exact rfl); k_whole; intro g' L' h' hkeep' F' N' B' X' T' lP'; (try k_lt lP'); (try dsimp only); (try k_fold))
  have hl' : g'.IsList l vs.toArray := by
    obtain ⟨o, ho, hr'⟩ := hl
    exact ⟨o, hkeep' l o ho (fun hm => by obtain ⟨q, hq, e⟩ := List.mem_map.mp hm; exact (M.one q hq).2 e), hr'⟩
  repeat' ((fail_if_success (with_reducible show wpAny _ _ (pyIter _) _ _ _)); (fail_if_success (with_reducible show KswEnd _ _ _ _ _ _ _ _ _ _ _ _)); (fail_if_success (with_reducible show FcEnd _ _ _ _ _ _ _ _ _ _)); (fail_if_success (with_reducible show CutEnd _ _ _ _ _ _ _ _ _)); first | (k_unfold; (try dsimp only)) | ((with_reducible show wpAny _ _ (execs (_ :: _) _) _ _ _); walk1; (try k_fold)) | (k_end; wrow_close) | walk1 | (dsimp only; walk1) | (leave1; try dsimp only))
  (rename Fr _ _ _ _ => F1); (rename News _ _ _ _ => N1); (rename IntsAre _ _ => hms); (rename (∀ p, p ∈ _ → Prod.fst p < _) => hlr0)
  have hlr := allLt_of hlr0
  have N2 := cb_drop (news := (_, listOf #[] 0) :: rest) N1 (fmem (List.Mem.tail _ (List.Mem.head _)) (fun p hp => List.Mem.tail _ (List.Mem.tail _ hp)))
  refine' forInts (σ := List Value × List Nat × Nat × Nat × Tok) (fun c => (_, listOf c.1.toArray c.2.2.1) :: rest) (fun c => [(Str.ofString "state", .int (c.2.2.2.1 : Int) c.2.2.2.2)]) [Str.ofString "mask", Str.ofString "shared"] (fun i c => IntsAre c.1 (zs c.2.1) ∧ c.2.1.length = i ∧ c.2.2.2.1 < 2 ^ (12 + i) ∧ runGo ms 4095 [] = runGo (ms.drop i) c.2.2.2.1 c.2.1) ([], [], 0, 4095, _) rfl hl' hms F1 N2 (fun _ => rfl) ?hk ?hp ?turn ?done
  case hk => kst_all
  case hp => exact ⟨.nil, rfl, show (4095 : Nat) < 2 ^ (12 + 0) by decide, rfl⟩
  case turn =>
    intro i n t; refine all_1_1_1_1_1 ?_; intro vs3 ns3 k3 st3 ts3 u h tk own hn hP hoff F3 N3
    have hP1 := hP.1; have hP2 := hP.2.1; have hP3 := hP.2.2.1; have hP4 := hP.2.2.2; clear hP
    dsimp only at hP1 hP2 hP3 hP4 F3 N3 hoff
    simp only [List.cons_append, List.nil_append] at N3
    have hoff6 := off_own hlr hoff
    have ho1 : ∀ p ∈ rest, p ∈ rest ++ own := fun p hp => List.mem_append_left _ hp
    have ho2 : ∀ p ∈ own, p ∈ rest ++ own := fun p hp => List.mem_append_right _ hp
    generalize rest ++ own = own6 at N3 hoff6 ho1 ho2
    clear hoff
    obtain ⟨k, hk, rfl⟩ := zs_get hn
    have hsum := zs_sum ns3
    have hzl := zs_len ns3
    have hik : i < ms.length := (List.getElem?_eq_some_iff.mp hk).1
    clear F1 N1 N2
    have hE : ((runStep st3 k : Nat) : Int).fdiv (2 ^ (12 + (zs ns3).sum).toNat) = ((runStep st3 k >>> (12 + ns3.sum) : Nat) : Int) := by
      rw [hsum, show ((12 : Int) + ((ns3.sum : Nat) : Int)).toNat = 12 + ns3.sum by omega, shr_nat]
    repeat' ((fail_if_success (with_reducible show wpAny _ _ (exec (Stmt.While _ _ _ _) _) _ _ _)); (fail_if_success (with_reducible show wpAny _ _ (exec (Stmt.For _ _ _ _ _) _) _ _ _)); (fail_if_success (with_reducible show KswEnd _ _ _ _ _ _ _ _ _ _ _ _)); (fail_if_success (with_reducible show FcEnd _ _ _ _ _ _ _ _ _ _)); (fail_if_success (with_reducible show CutEnd _ _ _ _ _ _ _ _ _)); first | (k_unfold; (try dsimp only)) | ((with_reducible show wpAny _ _ (execs (_ :: _) _) _ _ _); walk1; (try k_fold)) | (k_end; wrow_close) | walk1 | (dsimp only; walk1) | (leave1; try dsimp only))
    show FcEnd _ _ _ _ _ _ _ _ _ _
    (rename Fr _ _ _ _ => F5); (rename News _ _ _ _ => N5)
    rw [runStep_int st3 k] at F5 N5
    rw [hE, List.push_toArray] at N5
    refine fcEnd (vs3 ++ [_], ns3 ++ [runStep st3 k >>> (12 + ns3.sum)], k3 + 1, runStep st3 k, _) F5 N5 (by exact fmem (List.Mem.head _) (fun p hp => List.Mem.tail _ (ho1 p hp))) (by exact fun p hp => List.Mem.tail _ (ho2 p hp)) (by kst_all) (by (intro z h2 h3; (have hz0 : z ≠ Str.ofString "state" := h2 _ (.head _)); (have hs0 : z ≠ Str.ofString "mask" := by rintro rfl; exact absurd h3 (by decide)); (have hs1 : z ≠ Str.ofString "shared" := by rintro rfl; exact absurd h3 (by decide)); simp only [kstB, h3, if_neg hz0, if_neg hs0, if_neg hs1, Bool.false_eq_true, if_false])) (by
      refine ⟨by rw [zs_app]; exact ints_push hP1, by rw [List.length_append, hP2]; rfl, runStep_lt hP3, ?_⟩
      rw [hP4, drop_get hk]; rfl)
  case done =>
    refine all_1_1_1_1_1 ?_; intro vs3 ns3 k3 st3 ts3 u h tk hP F3 N3
    have hP1 := hP.1; have hP2 := hP.2.1; have hP3 := hP.2.2.1; have hP4 := hP.2.2.2; clear hP
    dsimp only at hP1 hP2 hP3 hP4 F3 N3
    clear F1 N1 N2
    have hfin : runGo ms 4095 [] = (st3, ns3) := by rw [hP4, zs_len, List.drop_length]; rfl
    rw [hfin] at ret
    repeat' ((fail_if_success (with_reducible show wpAny _ _ (exec (Stmt.While _ _ _ _) _) _ _ _)); (fail_if_success (with_reducible show wpAny _ _ (exec (Stmt.For _ _ _ _ _) _) _ _ _)); (fail_if_success (with_reducible show KswEnd _ _ _ _ _ _ _ _ _ _ _ _)); (fail_if_success (with_reducible show FcEnd _ _ _ _ _ _ _ _ _ _)); (fail_if_success (with_reducible show CutEnd _ _ _ _ _ _ _ _ _)); first | (k_unfold; (try dsimp only)) | ((with_reducible show wpAny _ _ (execs (_ :: _) _) _ _ _); walk1; (try k_fold)) | (k_end; wrow_close) | walk1 | (dsimp only; walk1) | (leave1; try dsimp only))
    exact ret _ _ vs3 _ _ _ _ (by assumption) (by assumption) hlr (by omega) hP1
end Mine
end PartT5
local macro_rules | `(tactic| k_room) => `(tactic| ktr_room)
section PartT6
open PySem PySem.W PyProof.Rows PySem.Spec PySem.Calls
namespace Mine
theorem shl4 {prog : Program} {w : World} {A : Around} {E : Value → Shared → Prop} {s : Shared} {Q : Value → Shared → Prop} {a n : Int} {t u : Tok} (hn : n = 4) (ha : a.natAbs < 2 ^ 64) (h : Q (.int (a * 16) s.toks) { s with toks := s.toks + 1 }) : wpAny (model prog w) A (binaryOp .LShift (.int a t) (.int n u)) Q E s := by
  subst hn
  exact lshift_int_small (by decide) (by decide) ha h
set_option maxRecDepth 100000 in
set_option maxHeartbeats 8000000 in
theorem d2i_any {w : World} {p : Program} {loose : List Str} {mean : ExcName → Option Value} {mg mb : Str → Option Value} {dp un : Nat} {gd : Option (List Code)} {cn : Str} {cs : Scope} {a : Addr} {ccd : Value} {cl : List (Str × Addr)} {outer : List Env} {A₀ : Around} {base h₀ : Heap} {L : Addr} {m : Str → Option Value} {news rest : List (Addr × Obj)} {s : Shared} {Q E : Value → Shared → Prop}
    {l : Addr} {tb : Option (Addr × Obj)} {kl : Nat} {d0 d1 d2 : Int} {t0 t1 t2 tn : Tok}
    (B : Below A₀ base outer h₀) (F : Fr h₀ L s.heap m) (X : (K2 w.params).In h₀) (N : News h₀ L s.heap news) (T : Top p loose mean mg mb h₀) (hk : cs.kind = .function) (hdp : dp + 6 < recursionLimit) (hun : un + 60 < cLine)
    (hd0 : 0 ≤ d0 ∧ d0 < 4096) (hd1 : 0 ≤ d1 ∧ d1 < 4096) (hd2 : 0 ≤ d2 ∧ d2 < 4096) (C : CodeHd h₀ 41 37) (hl : (l, listOf #[.int d0 t0, .int d1 t1, .int d2 t2] kl) ∈ news) (hl37 : @Ne Nat 37 l) (hT : ∀ q ∈ tabL 37 68 4 tb, q ∈ news) (hok : ∀ c ∈ tb, (∃ fv tq, c.2.data = .fields fv ∧ fv[1]? = some (.str (Str.ofString "_digits2int.<locals>.inner") tq)) ∧ @Ne Nat 37 c.1 ∧ @Ne Nat l c.1 ∧ ∀ q ∈ rest, @Ne Nat q.1 c.1) (hr : ∀ q ∈ rest, q ∈ news ∧ @Ne Nat q.1 37)
    (ret : ∀ t h' tk' c' oc fv tq, Fr h₀ L h' m → News h₀ L h' ((37, tabObj #[rawInt ((68 : Nat) : Int), rawInt ((4 : Nat) : Int), .ref c']) :: (c', oc) :: (l, listOf #[.int d0 t0, .int d1 t1, .int d2 t2] kl) :: rest) → oc.data = .fields fv → fv[1]? = some (.str (Str.ofString "_digits2int.<locals>.inner") tq) → @Ne Nat 37 c' → @Ne Nat l c' → (∀ q ∈ rest, @Ne Nat q.1 c') → (∀ c ∈ tb, c = (c', oc)) → Q (.int ((d2 * 16 + d1) * 16 + d0) t) { s with heap := h', toks := tk' }) :
    wpAny (model PySem.Challenge.rw_pu0036_01.row.prog w) (ktrTop dp un gd cn cs L a ccd cl outer) (call (.ref 42) [.ref l, .int 4 tn]) Q E s := by
  w_top off
  revert X
  k_fill
  intro X
  refine wpAny_call ?_
  k_dflt (refine' cellsPass (P := (tabL 37 68 4 tb ++ (l, listOf #[.int d0 t0, .int d1 t1, .int d2 t2] kl) :: rest)) (rest := []) B F X N T (List.forall_mem_append.mpr ⟨hT, fmem hl (fun q hq => (hr q hq).1)⟩) (fun q hq => nomatch hq) ?kA ?kF ?kK ?k6 ?k7 ?k8 ?k9 ?kB ?kD ?_ ?c2 ?c3 ?c4; (case kA => exact rfl); (case kF => exact rfl); (case kK => assumption); (case k6 => k_is); (case k7 => k_is); (case k8 => ktr_room); (case k9 => first | exact BindsTo.of_eq rfl | exact binds_K (by k_in) rfl (by k_is) rfl rfl rfl | (refine' kp_binds ?kx ?ke; (case kx => k_in); (case ke => exact fun _ => rfl))); (case kB => exact rfl); (case kD => decide +kernel); (case c2 => exact rfl); (case c3 => exact rfl); (case c4 => exact rfl); k_whole; intro g' L' h' tk' cells' hkeep' F' N' Y' B' X' T' st' lP'; k_cells Y'; (try k_lt lP'); (try simp only [List.cons_append, List.nil_append] at N'); (try dsimp only); (try k_fold))
  have C' := CodeHd.keeps C st'
  have hL : @LT.lt Nat _ 37 L' ∧ @LT.lt Nat _ l L' ∧ AllLt L' rest := by
    refine ⟨lP' (37, tabL_o tb) (List.mem_append_left _ (tabL_hd tb)), lP' (l, _) (List.mem_append_right _ (.head _)), allLt_is fun q hq => lP' q (List.mem_append_right _ (.tail _ hq))⟩
  have hoz := off_cells (allLt_mem hL.2.2) fun q hq => (hr q hq).2
  apply share10
  case use =>
    intro main
    rcases tb_cases tb with htb | ⟨c9, oc9, htb⟩
    · rw [htb] at N' lP'
      dsimp only [tabL, List.cons_append, List.nil_append] at N' lP'
      k_lt lP'
      repeat' ((fail_if_success (with_reducible show wpAny _ _ (execs (Stmt.Return _ _ :: _) _) _ _ _)); first | (k_unfold; (try dsimp only)) | (k_end; wrow_close) | ((with_reducible show wpAny _ _ (binaryOp Operator.LShift (Value.int _ _) (Value.int _ _)) _ _ _); refine shl4 (by decide) (by omega) ?_) | walk1 | (dsimp only; first | ((with_reducible show wpAny _ _ (binaryOp Operator.LShift (Value.int _ _) (Value.int _ _)) _ _ _); refine shl4 (by decide) (by omega) ?_) | walk1) | (leave1; try dsimp only))
      (try dsimp only)
      rename_i f9 c9 oc9 fv9 tq9 ct9 dc9 h8 tk9 e1 e2' l1 l2 h9 o9 F9 N9 d9
      have e2 : fv9[1]? = some (.str (Str.ofString "_digits2int.<locals>.inner") tq9) := e2'
      clear e2'
      have N8 : News g' L' h9 ((f9, _) :: (L' + 1 + 1 + 1, o9) :: (L' + 1 + 1, _) :: (L' + 1, _) :: (37, tabO 68 4 c9) :: (c9, oc9) :: (l, listOf #[.int d0 t0, .int d1 t1, .int d2 t2] kl) :: rest) := cb_drop N9 (fmem (by k_mem) (fmem (by k_mem) (fmem (by k_mem) (fmem (by k_mem) (fmem (by k_mem) (fmem (by k_mem) (fmem (by k_mem) (fun p hp => by (first | exact hp | exact List.Mem.tail _ (hp) | exact List.Mem.tail _ (List.Mem.tail _ (hp)) | exact List.Mem.tail _ (List.Mem.tail _ (List.Mem.tail _ (hp))) | exact List.Mem.tail _ (List.Mem.tail _ (List.Mem.tail _ (List.Mem.tail _ (hp)))) | exact List.Mem.tail _ (List.Mem.tail _ (List.Mem.tail _ (List.Mem.tail _ (List.Mem.tail _ (hp))))) | exact List.Mem.tail _ (List.Mem.tail _ (List.Mem.tail _ (List.Mem.tail _ (List.Mem.tail _ (List.Mem.tail _ (hp)))))) | exact List.Mem.tail _ (List.Mem.tail _ (List.Mem.tail _ (List.Mem.tail _ (List.Mem.tail _ (List.Mem.tail _ (List.Mem.tail _ (hp))))))) | exact List.Mem.tail _ (List.Mem.tail _ (List.Mem.tail _ (List.Mem.tail _ (List.Mem.tail _ (List.Mem.tail _ (List.Mem.tail _ (List.Mem.tail _ (hp)))))))) | exact List.Mem.tail _ (List.Mem.tail _ (List.Mem.tail _ (List.Mem.tail _ (List.Mem.tail _ (List.Mem.tail _ (List.Mem.tail _ (List.Mem.tail _ (List.Mem.tail _ (hp))))))))) | exact List.Mem.tail _ (List.Mem.tail _ (List.Mem.tail _ (List.Mem.tail _ (List.Mem.tail _ (List.Mem.tail _ (List.Mem.tail _ (List.Mem.tail _ (List.Mem.tail _ (List.Mem.tail _ (hp)))))))))) | exact List.Mem.tail _ (List.Mem.tail _ (List.Mem.tail _ (List.Mem.tail _ (List.Mem.tail _ (List.Mem.tail _ (List.Mem.tail _ (List.Mem.tail _ (List.Mem.tail _ (List.Mem.tail _ (List.Mem.tail _ (hp))))))))))))))))))))
      have l9 : @LT.lt Nat _ (L' + 1 + 1 + 1) f9 ∧ @LT.lt Nat _ c9 f9 := ⟨Nat.lt_trans l1.1 l2, l2⟩
      have n9 : @Ne Nat 37 c9 ∧ @Ne Nat l c9 ∧ (∀ q ∈ rest, @Ne Nat q.1 c9) ∧ ∀ c ∈ tb, c = (c9, oc9) := ⟨Nat.ne_of_lt l1.2.2.2.1, Nat.ne_of_lt l1.2.2.2.2.1, fun q hq => Nat.ne_of_lt (allLt_mem l1.2.2.2.2.2 q hq), fun c hc => by rw [htb] at hc; cases hc⟩
      revert n9; revert l9; revert d9; revert e2; revert e1; revert N8; revert F9
      exact main f9 c9 oc9 fv9 tq9 ct9 dc9 h9 tk9 o9
    · rw [htb] at N' lP'
      dsimp only [tabL, List.cons_append, List.nil_append] at N' lP'
      k_lt lP'
      obtain ⟨⟨fv9, tq9, e1', e2⟩, hc1, hc2⟩ := hok _ htb
      have e1 : oc9.data = .fields fv9 := e1'
      clear e1'
      repeat' ((fail_if_success (with_reducible show wpAny _ _ (execs (Stmt.Return _ _ :: _) _) _ _ _)); first | (k_unfold; (try dsimp only)) | (k_end; wrow_close) | ((with_reducible show wpAny _ _ (binaryOp Operator.LShift (Value.int _ _) (Value.int _ _)) _ _ _); refine shl4 (by decide) (by omega) ?_) | walk1 | (dsimp only; first | ((with_reducible show wpAny _ _ (binaryOp Operator.LShift (Value.int _ _) (Value.int _ _)) _ _ _); refine shl4 (by decide) (by omega) ?_) | walk1) | (leave1; try dsimp only))
      (try dsimp only)
      rename_i f9 ct9 dc9 h8 tk9 l1 h9 o9 F9 N9 d9
      have N8 : News g' L' h9 ((f9, _) :: (L' + 1 + 1 + 1, o9) :: (L' + 1 + 1, _) :: (L' + 1, _) :: (37, tabO 68 4 c9) :: (c9, oc9) :: (l, listOf #[.int d0 t0, .int d1 t1, .int d2 t2] kl) :: rest) := cb_drop N9 (fmem (by k_mem) (fmem (by k_mem) (fmem (by k_mem) (fmem (by k_mem) (fmem (by k_mem) (fmem (by k_mem) (fmem (by k_mem) (fun p hp => by (first | exact hp | exact List.Mem.tail _ (hp) | exact List.Mem.tail _ (List.Mem.tail _ (hp)) | exact List.Mem.tail _ (List.Mem.tail _ (List.Mem.tail _ (hp))) | exact List.Mem.tail _ (List.Mem.tail _ (List.Mem.tail _ (List.Mem.tail _ (hp)))) | exact List.Mem.tail _ (List.Mem.tail _ (List.Mem.tail _ (List.Mem.tail _ (List.Mem.tail _ (hp))))) | exact List.Mem.tail _ (List.Mem.tail _ (List.Mem.tail _ (List.Mem.tail _ (List.Mem.tail _ (List.Mem.tail _ (hp)))))) | exact List.Mem.tail _ (List.Mem.tail _ (List.Mem.tail _ (List.Mem.tail _ (List.Mem.tail _ (List.Mem.tail _ (List.Mem.tail _ (hp))))))) | exact List.Mem.tail _ (List.Mem.tail _ (List.Mem.tail _ (List.Mem.tail _ (List.Mem.tail _ (List.Mem.tail _ (List.Mem.tail _ (List.Mem.tail _ (hp)))))))) | exact List.Mem.tail _ (List.Mem.tail _ (List.Mem.tail _ (List.Mem.tail _ (List.Mem.tail _ (List.Mem.tail _ (List.Mem.tail _ (List.Mem.tail _ (List.Mem.tail _ (hp))))))))) | exact List.Mem.tail _ (List.Mem.tail _ (List.Mem.tail _ (List.Mem.tail _ (List.Mem.tail _ (List.Mem.tail _ (List.Mem.tail _ (List.Mem.tail _ (List.Mem.tail _ (List.Mem.tail _ (hp)))))))))) | exact List.Mem.tail _ (List.Mem.tail _ (List.Mem.tail _ (List.Mem.tail _ (List.Mem.tail _ (List.Mem.tail _ (List.Mem.tail _ (List.Mem.tail _ (List.Mem.tail _ (List.Mem.tail _ (List.Mem.tail _ (hp))))))))))))))))))))
      have l9 : @LT.lt Nat _ (L' + 1 + 1 + 1) f9 ∧ @LT.lt Nat _ c9 f9 := ⟨l1.1, l1.2.2.2.2.1⟩
      have n9 : @Ne Nat 37 c9 ∧ @Ne Nat l c9 ∧ (∀ q ∈ rest, @Ne Nat q.1 c9) ∧ ∀ c ∈ tb, c = (c9, oc9) := ⟨hc1, hc2.1, hc2.2, fun c hc => by rw [htb] at hc; cases hc; rfl⟩
      revert n9; revert l9; revert d9; revert e2; revert e1; revert N8; revert F9
      exact main f9 c9 oc9 fv9 tq9 ct9 dc9 h9 tk9 o9
  case main =>
    intro f9 c9 oc9 fv9 tq9 ct9 dc9 h9 tk9 o9 F9 N8 e1 e2 d9 l9 n9
    clear F' N' lP' hkeep' N F hok hT
    repeat' (first | (k_unfold; (try dsimp only)) | (k_end; wrow_close) | ((with_reducible show wpAny _ _ (binaryOp Operator.LShift (Value.int _ _) (Value.int _ _)) _ _ _); refine shl4 (by decide) (by omega) ?_) | walk1 | (dsimp only; first | ((with_reducible show wpAny _ _ (binaryOp Operator.LShift (Value.int _ _) (Value.int _ _)) _ _ _); refine shl4 (by decide) (by omega) ?_) | walk1) | (leave1; try dsimp only))
    (rename News _ _ _ (List.cons _ _) => kN)
    refine ret _ _ _ c9 oc9 fv9 tq9 (by assumption) (cb_drop kN (fmem (by k_mem) (fmem (by k_mem) (fmem (by k_mem) (fun p hp => ?_))))) e1 e2 n9.1 n9.2.1 n9.2.2.1 n9.2.2.2
    (repeat (refine List.Mem.tail _ ?_)); exact hp
end Mine
end PartT6
section PartT7
open PySem PySem.W PyProof.Rows PySem.Spec PySem.Calls
namespace Mine
theorem d2iF {w : World} {p : Program} {loose : List Str} {mean : ExcName → Option Value} {mg mb : Str → Option Value} {dp un : Nat} {gd : Option (List Code)} {cn : Str} {cs : Scope} {a : Addr} {ccd : Value} {cl : List (Str × Addr)} {outer : List Env} {A₀ : Around} {base h₀ : Heap} {L : Addr} {m : Str → Option Value} {news : List (Addr × Obj)} {s : Shared} {Q E : Value → Shared → Prop} {l : Addr} {vs : List Value} {kl : Nat} {d0 d1 d2 : Int} {tn : Tok} {g : Obj → List (Addr × Obj)} (B : Below A₀ base outer h₀) (F : Fr h₀ L s.heap m) (X : (K2 w.params).In h₀) (N : News h₀ L s.heap news) (T : Top p loose mean mg mb h₀) (hk : cs.kind = .function) (hdp : dp + 6 < recursionLimit) (hun : un + 60 < cLine)
    (hl : (l, listOf vs.toArray kl) ∈ news) (hi : IntsAre vs [d0, d1, d2]) (hd0 : 0 ≤ d0 ∧ d0 < 4096) (hd1 : 0 ≤ d1 ∧ d1 < 4096) (hd2 : 0 ≤ d2 ∧ d2 < 4096) (C : CodeHd h₀ 41 37) (hl37 : @Ne Nat 37 l) (U : UpdF 37 (tabObj #[]) news g)
    (ret : ∀ t h' tk' c' oc fv tq, Fr h₀ L h' m → News h₀ L h' ((c', oc) :: g (tabObj #[rawInt ((68 : Nat) : Int), rawInt ((4 : Nat) : Int), .ref c'])) → oc.data = .fields fv → fv[1]? = some (.str (Str.ofString "_digits2int.<locals>.inner") tq) → (∀ q ∈ news, @Ne Nat q.1 c') → Q (.int ((d2 * 16 + d1) * 16 + d0) t) { s with heap := h', toks := tk' }) :
    wpAny (model PySem.Challenge.rw_pu0036_01.row.prog w) (ktrTop dp un gd cn cs L a ccd cl outer) (call (.ref 42) [.ref l, .int 4 tn]) Q E s := by
  have h37 : (37, tabObj #[]) ∈ news := by
    obtain ⟨pre, post, rfl, _⟩ := U.split
    exact List.mem_append_right _ (.head _)
  have hne : ∀ o : Obj, (37 : Addr) ∉ ([(l, o)] : List (Addr × Obj)).map (·.1) := fun o hm => hl37 (List.mem_singleton.mp hm)
  refine viaR ?_; intro R9 k9
  refine ia_cons (G := fun v => vs = v → R9) hi (fun t0 _ h1 => ?_) rfl
  refine ia_cons (G := fun v => vs = .int d0 t0 :: v → R9) h1 fun t1 _ h2 => ?_
  refine ia_cons (G := fun v => vs = .int d0 t0 :: .int d1 t1 :: v → R9) h2 fun t2 _ h3 => ?_
  refine ia_nil (G := fun v => vs = .int d0 t0 :: .int d1 t1 :: .int d2 t2 :: v → R9) h3 ?_
  intro e9; refine k9 ?_; clear k9 h1 h2 h3; clear R9 hi; subst e9
  refine d2i_any (tb := none) (rest := less [37, l] news) B F X N T hk hdp hun hd0 hd1 hd2 C hl hl37 (fmem h37 (List.forall_mem_nil _)) (fun c hc => nomatch hc) (fun q hq => ((Minus.less [37, l] news).two q hq).elim fun a b => ⟨a, b.1⟩) ?_
  intro t h' tk' c' oc fv tq F9 N9 hoc hfv l1 l2 l3 _
  refine ret t h' tk' c' oc fv tq F9 ?_ hoc hfv ?_
  · have N10 : News h₀ L h' ((37, tabObj #[rawInt ((68 : Nat) : Int), rawInt ((4 : Nat) : Int), .ref c']) :: [(l, listOf [Value.int d0 t0, Value.int d1 t1, Value.int d2 t2].toArray kl)] ++ less (37 :: [(l, listOf [Value.int d0 t0, Value.int d1 t1, Value.int d2 t2].toArray kl)].map (·.1)) news) := fun q hq => N9 q (by
      rcases List.mem_cons.mp hq with rfl | hq
      · exact .head _
      · exact .tail _ (.tail _ hq))
    have N11 := news_turn N U (fmem hl (List.forall_mem_nil _)) (hne _) N10
    exact fmem (N9 _ (.tail _ (.head _))) N11
  · intro q hq
    by_cases e1 : q.1 = 37
    · rw [e1]; exact l1
    · by_cases e2 : q.1 = l
      · rw [e2]; exact l2
      · refine l3 q (List.mem_filter.mpr ⟨hq, ?_⟩)
        rw [List.contains_cons, List.contains_cons, List.contains_nil, beq_eq_false_iff_ne.mpr e1, beq_eq_false_iff_ne.mpr e2]
        rfl
theorem d2iH {w : World} {p : Program} {loose : List Str} {mean : ExcName → Option Value} {mg mb : Str → Option Value} {dp un : Nat} {gd : Option (List Code)} {cn : Str} {cs : Scope} {a : Addr} {ccd : Value} {cl : List (Str × Addr)} {outer : List Env} {A₀ : Around} {base h₀ : Heap} {L : Addr} {m : Str → Option Value} {news : List (Addr × Obj)} {s : Shared} {Q E : Value → Shared → Prop} {l c' : Addr} {oc : Obj} {fv : Array Value} {tq : Tok} {vs : List Value} {kl : Nat} {d0 d1 d2 : Int} {tn : Tok} (B : Below A₀ base outer h₀) (F : Fr h₀ L s.heap m) (X : (K2 w.params).In h₀) (N : News h₀ L s.heap news) (T : Top p loose mean mg mb h₀) (hk : cs.kind = .function) (hdp : dp + 6 < recursionLimit) (hun : un + 60 < cLine)
    (hl : (l, listOf vs.toArray kl) ∈ news) (hi : IntsAre vs [d0, d1, d2]) (hd0 : 0 ≤ d0 ∧ d0 < 4096) (hd1 : 0 ≤ d1 ∧ d1 < 4096) (hd2 : 0 ≤ d2 ∧ d2 < 4096) (C : CodeHd h₀ 41 37) (hl37 : @Ne Nat 37 l) (h37 : (37, tabObj #[rawInt ((68 : Nat) : Int), rawInt ((4 : Nat) : Int), .ref c']) ∈ news) (hc : (c', oc) ∈ news) (hoc : oc.data = .fields fv) (hfv : fv[1]? = some (.str (Str.ofString "_digits2int.<locals>.inner") tq)) (h3 : @Ne Nat 37 c') (h4 : @Ne Nat l c')
    (ret : ∀ t h' tk', Fr h₀ L h' m → News h₀ L h' news → Q (.int ((d2 * 16 + d1) * 16 + d0) t) { s with heap := h', toks := tk' }) :
    wpAny (model PySem.Challenge.rw_pu0036_01.row.prog w) (ktrTop dp un gd cn cs L a ccd cl outer) (call (.ref 42) [.ref l, .int 4 tn]) Q E s := by
  refine viaR ?_; intro R9 k9
  refine ia_cons (G := fun v => vs = v → R9) hi (fun t0 _ h1 => ?_) rfl
  refine ia_cons (G := fun v => vs = .int d0 t0 :: v → R9) h1 fun t1 _ h2 => ?_
  refine ia_cons (G := fun v => vs = .int d0 t0 :: .int d1 t1 :: v → R9) h2 fun t2 _ h3 => ?_
  refine ia_nil (G := fun v => vs = .int d0 t0 :: .int d1 t1 :: .int d2 t2 :: v → R9) h3 ?_
  intro e9; refine k9 ?_; clear k9 h1 h2 h3; clear R9 hi; subst e9
  refine d2i_any (tb := some (c', oc)) (rest := less [37, c', l] news) B F X N T hk hdp hun hd0 hd1 hd2 C hl hl37 (fmem h37 (fmem hc (List.forall_mem_nil _))) (fun c hcc => by cases hcc; exact ⟨⟨fv, tq, hoc, hfv⟩, h3, h4, fun q hq => ((Minus.less [37, c', l] news).three q hq).2.2.1⟩) (fun q hq => ((Minus.less [37, c', l] news).three q hq).elim fun a b => ⟨a, b.1⟩) ?_
  intro t h' tk' c2 oc2 fv2 tq2 F9 N9 _ _ _ _ _ hcc
  cases hcc _ rfl
  exact ret t h' tk' F9 (news_back (P := [(37, tabObj #[rawInt ((68 : Nat) : Int), rawInt ((4 : Nat) : Int), .ref c']), (c', oc), (l, listOf [Value.int d0 t0, Value.int d1 t1, Value.int d2 t2].toArray kl)]) N (fmem h37 (fmem hc (fmem hl (List.forall_mem_nil _)))) N9)
local macro_rules | `(tactic| k_ne) => `(tactic| (refine neN ?_; (try dsimp only); first | assumption | exact Ne.symm (by assumption) | exact Nat.ne_of_gt (by assumption) | exact Nat.ne_of_lt (by assumption) | omega))
noncomputable def maskInts (w0 w1 w2 mk : Int) : List Int := [(1 * 16 + 1) * 16 + 1, (2 * 16 + 2) * 16 + 2, ((4 * if (w2.fdiv 2 == mk.fdiv 2) = true then 1 else 0) * 16 + 4 * if (w1.fdiv 2 == mk.fdiv 2) = true then 1 else 0) * 16 + 4 * if (w0.fdiv 2 == mk.fdiv 2) = true then 1 else 0, ((8 * if (w2 == mk) = true then 1 else 0) * 16 + 8 * if (w1 == mk) = true then 1 else 0) * 16 + 8 * if (w0 == mk) = true then 1 else 0]
theorem newsFour9 {h₀ h : Heap} {L : Addr} {x y z u : Addr × Obj} {q : List (Addr × Obj)} (a : News h₀ L h [x, y, z, u]) (b : News h₀ L h q) : News h₀ L h (x :: y :: z :: u :: q) := newsApp a b
theorem ne_base {g h : Heap} {L ml : Addr} {ledger : List (Addr × Obj)} {o o2 : Obj} {q : Addr} (N : News g L h ledger) (hm : (ml, o) ∈ ledger) (hq : g.get? q = some o2) : @Ne Nat q ml := fun e => by
  have := (N _ hm).2.2
  rw [← (e : q = ml), hq] at this
  cases this
theorem tabL_off {q l : Addr} {o : Obj} {tb : Option (Addr × Obj)} (h1 : @Ne Nat q 37) (h2 : @Ne Nat q l) (h3 : ∀ c ∈ tb, @Ne Nat q c.1) : q ∉ (tabL 37 68 4 tb ++ [(l, o)]).map (·.1) := by
  intro hm
  rw [List.map_append, List.mem_append] at hm
  rcases hm with hm | hm
  · cases tb with
    | none => exact h1 (List.mem_singleton.mp hm)
    | some c =>
      rcases List.mem_cons.mp hm with e | hm
      · exact h1 e
      · exact h3 c rfl (List.mem_singleton.mp hm)
  · exact h2 (List.mem_singleton.mp hm)
set_option maxRecDepth 100000 in
set_option maxHeartbeats 8000000 in
theorem masks_fresh {w : World} {p : Program} {loose : List Str} {mean : ExcName → Option Value} {mg mb : Str → Option Value} {dp un : Nat} {gd : Option (List Code)} {cn : Str} {cs : Scope} {a : Addr} {ccd : Value} {cl : List (Str × Addr)} {outer : List Env} {A₀ : Around} {base h₀ : Heap} {L : Addr} {m : Str → Option Value} {news rest : List (Addr × Obj)} {s : Shared} {Q E : Value → Shared → Prop}
    {l : Addr} {kl : Nat} {w0 w1 w2 mk : Int} {t0 t1 t2 tm : Tok}
    (B : Below A₀ base outer h₀) (F : Fr h₀ L s.heap m) (X : (K2 w.params).In h₀) (N : News h₀ L s.heap news) (T : Top p loose mean mg mb h₀) (hk : cs.kind = .function) (hdp : dp + 10 < recursionLimit) (hun : un + 80 < cLine)
    (h0 : 0 ≤ w0 ∧ w0 < 4) (h1 : 0 ≤ w1 ∧ w1 < 4) (h2 : 0 ≤ w2 ∧ w2 < 4) (h3 : 0 ≤ mk ∧ mk < 4) (C : CodeHd h₀ 41 37) (hl : (l, listOf #[.int w0 t0, .int w1 t1, .int w2 t2] kl) ∈ news) (hl37 : @Ne Nat 37 l) (h37 : (37, tabObj #[]) ∈ news) (M : Minus [37, l] news rest)
    (ret : ∀ ml vs c' oc fv tq h' tk', Fr h₀ L h' m → News h₀ L h' ((ml, LCg.lst vs) :: (37, tabObj #[rawInt ((68 : Nat) : Int), rawInt ((4 : Nat) : Int), .ref c']) :: (c', oc) :: (l, listOf #[.int w0 t0, .int w1 t1, .int w2 t2] kl) :: rest) → IntsAre vs (maskInts w0 w1 w2 mk) → oc.data = .fields fv → fv[1]? = some (.str (Str.ofString "_digits2int.<locals>.inner") tq) → @Ne Nat 37 c' → @Ne Nat l c' → @Ne Nat c' ml → @Ne Nat 37 ml → @Ne Nat l ml → (∀ q ∈ rest, @Ne Nat q.1 c' ∧ @Ne Nat q.1 ml) → Q (.ref ml) { s with heap := h', toks := tk' }) :
    wpAny (model PySem.Challenge.rw_pu0036_01.row.prog w) (ktrTop dp un gd cn cs L a ccd cl outer) (call (.ref 65) [.ref l, .int mk tm]) Q E s := by
  w_top off
  revert X
  k_fill
  intro X
  refine wpAny_call ?_
  k_dflt (refine' cellsPass (P := [(37, tabObj #[]), (l, listOf #[.int w0 t0, .int w1 t1, .int w2 t2] kl)]) (rest := rest) B F X N T (fmem h37 (fmem hl (List.forall_mem_nil _))) (fun q hq => ⟨(M.two q hq).1, by simpa using (M.two q hq).2⟩) ?kA ?kF ?kK ?k6 ?k7 ?k8 ?k9 ?kB ?kD ?_ ?c2 ?c3 ?c4; (case kA => exact rfl); (case kF => exact rfl); (case kK => assumption); (case k6 => k_is); (case k7 => k_is); (case k8 => ktr_room); (case k9 => first | exact BindsTo.of_eq rfl | exact binds_K (by k_in) rfl (by k_is) rfl rfl rfl | (refine' kp_binds ?kx ?ke; (case kx => k_in); (case ke => exact fun _ => rfl))); (case kB => exact rfl); (case kD => decide +kernel); (case c2 => exact rfl); (case c3 => exact rfl); (case c4 => exact rfl); k_whole; intro g' L' h' tk' cells' hkeep' F' N' Y' B' X' T' st' lP'; k_cells Y'; (try k_lt lP'); (try simp only [List.cons_append, List.nil_append] at N'); (try dsimp only); (try k_fold))
  have C' := CodeHd.keeps C st'
  repeat' ((fail_if_success (with_reducible show wpAny _ _ (call (Value.ref 42) _) _ _ _)); first | (k_unfold; (try dsimp only)) | ((with_reducible show wpAny _ _ (execs (_ :: _) _) _ _ _); walk1; (try k_fold)) | (k_end; wrow_close) | walk1 | (dsimp only; walk1) | (leave1; try dsimp only))
  (try ((fail_if_success (fail_if_success (with_reducible rename (_ ∧ _) => hx9))); refine viaR ?_; intro R9 k9; (repeat (first | ((with_reducible rename (_ ∧ _ ∧ _ ∧ _ ∧ _ ∧ _ ∧ _ ∧ _) => hx9); refine and8 hx9 ?_; clear hx9; intro _ _ _ _ _ _ _ _) | ((with_reducible rename (_ ∧ _ ∧ _ ∧ _) => hx9); refine and4 hx9 ?_; clear hx9; intro _ _ _ _) | ((with_reducible rename (_ ∧ _) => hx9); refine and2 hx9 ?_; clear hx9; intro _ _) | ((with_reducible rename True => hx9); clear hx9))); refine k9 ?_; clear k9 R9))
  k_dflt (refine' d2iF (by k_asm) (by k_asm) (by k_asm) (by k_asm) (by k_asm) (by first | exact rfl | assumption) (by ktr_room) (by ktr_units) (by k_mem) (by first | k_asm | exact .cons _ _ (.cons _ _ (.cons _ _ .nil))) (by ((try simp only [List.map]); (repeat' split) <;> omega)) (by ((try simp only [List.map]); (repeat' split) <;> omega)) (by ((try simp only [List.map]); (repeat' split) <;> omega)) (by kn_code) (by first | assumption | exact Ne.symm (by assumption) | exact Nat.ne_of_lt (by assumption) | omega) ?U ?_; (case U => k_updF))
  k_whole
  intro t9 h9 tk9 c9 oc9 fv9 tq9 F9 N9 d9 e9 a9
  have a8 := gnNe_of a9
  dsimp only [GnNe] at a8
  clear a9
  (try dsimp only at N9)
  (try k_fold)
  repeat' ((fail_if_success (with_reducible show wpAny _ _ (call (Value.ref 42) _) _ _ _)); first | (k_unfold; (try dsimp only)) | ((with_reducible show wpAny _ _ (execs (_ :: _) _) _ _ _); walk1; (try k_fold)) | (k_end; wrow_close) | walk1 | (dsimp only; walk1) | (leave1; try dsimp only))
  (try ((fail_if_success (fail_if_success (with_reducible rename (_ ∧ _) => hx9))); refine viaR ?_; intro R9 k9; (repeat (first | ((with_reducible rename (_ ∧ _ ∧ _ ∧ _ ∧ _ ∧ _ ∧ _ ∧ _) => hx9); refine and8 hx9 ?_; clear hx9; intro _ _ _ _ _ _ _ _) | ((with_reducible rename (_ ∧ _ ∧ _ ∧ _) => hx9); refine and4 hx9 ?_; clear hx9; intro _ _ _ _) | ((with_reducible rename (_ ∧ _) => hx9); refine and2 hx9 ?_; clear hx9; intro _ _) | ((with_reducible rename True => hx9); clear hx9))); refine k9 ?_; clear k9 R9))
  k_dflt (refine d2iH (by k_asm) (by k_asm) (by k_asm) (by k_asm) (by k_asm) (by first | exact rfl | assumption) (by ktr_room) (by ktr_units) (by k_mem) (by first | k_asm | exact .cons _ _ (.cons _ _ (.cons _ _ .nil))) (by ((try simp only [List.map]); (repeat' split) <;> omega)) (by ((try simp only [List.map]); (repeat' split) <;> omega)) (by ((try simp only [List.map]); (repeat' split) <;> omega)) (by kn_code) (by first | assumption | exact Ne.symm (by assumption) | exact Nat.ne_of_lt (by assumption) | omega) (by k_mem) (by k_mem) (by k_asm) (by k_asm) (by first | assumption | exact Ne.symm (by assumption) | exact Nat.ne_of_lt (by assumption) | omega) (by first | assumption | exact Ne.symm (by assumption) | exact Nat.ne_of_lt (by assumption) | omega) ?_)
  k_whole
  intro t9 h9 tk9 F9 N9
  (try k_fold)
  repeat' ((fail_if_success (with_reducible show wpAny _ _ (call (Value.ref 42) _) _ _ _)); first | (k_unfold; (try dsimp only)) | ((with_reducible show wpAny _ _ (execs (_ :: _) _) _ _ _); walk1; (try k_fold)) | (k_end; wrow_close) | walk1 | (dsimp only; walk1) | (leave1; try dsimp only))
  (try ((fail_if_success (fail_if_success (with_reducible rename (_ ∧ _) => hx9))); refine viaR ?_; intro R9 k9; (repeat (first | ((with_reducible rename (_ ∧ _ ∧ _ ∧ _ ∧ _ ∧ _ ∧ _ ∧ _) => hx9); refine and8 hx9 ?_; clear hx9; intro _ _ _ _ _ _ _ _) | ((with_reducible rename (_ ∧ _ ∧ _ ∧ _) => hx9); refine and4 hx9 ?_; clear hx9; intro _ _ _ _) | ((with_reducible rename (_ ∧ _) => hx9); refine and2 hx9 ?_; clear hx9; intro _ _) | ((with_reducible rename True => hx9); clear hx9))); refine k9 ?_; clear k9 R9))
  k_dflt (refine d2iH (by k_asm) (by k_asm) (by k_asm) (by k_asm) (by k_asm) (by first | exact rfl | assumption) (by ktr_room) (by ktr_units) (by k_mem) (by first | k_asm | exact .cons _ _ (.cons _ _ (.cons _ _ .nil))) (by ((try simp only [List.map]); (repeat' split) <;> omega)) (by ((try simp only [List.map]); (repeat' split) <;> omega)) (by ((try simp only [List.map]); (repeat' split) <;> omega)) (by kn_code) (by first | assumption | exact Ne.symm (by assumption) | exact Nat.ne_of_lt (by assumption) | omega) (by k_mem) (by k_mem) (by k_asm) (by k_asm) (by first | assumption | exact Ne.symm (by assumption) | exact Nat.ne_of_lt (by assumption) | omega) (by first | assumption | exact Ne.symm (by assumption) | exact Nat.ne_of_lt (by assumption) | omega) ?_)
  k_whole
  intro t9 h9 tk9 F9 N9
  (try k_fold)
  repeat' ((fail_if_success (with_reducible show wpAny _ _ (call (Value.ref 42) _) _ _ _)); first | (k_unfold; (try dsimp only)) | ((with_reducible show wpAny _ _ (execs (_ :: _) _) _ _ _); walk1; (try k_fold)) | (k_end; wrow_close) | walk1 | (dsimp only; walk1) | (leave1; try dsimp only))
  (try ((fail_if_success (fail_if_success (with_reducible rename (_ ∧ _) => hx9))); refine viaR ?_; intro R9 k9; (repeat (first | ((with_reducible rename (_ ∧ _ ∧ _ ∧ _ ∧ _ ∧ _ ∧ _ ∧ _) => hx9); refine and8 hx9 ?_; clear hx9; intro _ _ _ _ _ _ _ _) | ((with_reducible rename (_ ∧ _ ∧ _ ∧ _) => hx9); refine and4 hx9 ?_; clear hx9; intro _ _ _ _) | ((with_reducible rename (_ ∧ _) => hx9); refine and2 hx9 ?_; clear hx9; intro _ _) | ((with_reducible rename True => hx9); clear hx9))); refine k9 ?_; clear k9 R9))
  k_dflt (refine d2iH (by k_asm) (by k_asm) (by k_asm) (by k_asm) (by k_asm) (by first | exact rfl | assumption) (by ktr_room) (by ktr_units) (by k_mem) (by first | k_asm | exact .cons _ _ (.cons _ _ (.cons _ _ .nil))) (by ((try simp only [List.map]); (repeat' split) <;> omega)) (by ((try simp only [List.map]); (repeat' split) <;> omega)) (by ((try simp only [List.map]); (repeat' split) <;> omega)) (by kn_code) (by first | assumption | exact Ne.symm (by assumption) | exact Nat.ne_of_lt (by assumption) | omega) (by k_mem) (by k_mem) (by k_asm) (by k_asm) (by first | assumption | exact Ne.symm (by assumption) | exact Nat.ne_of_lt (by assumption) | omega) (by first | assumption | exact Ne.symm (by assumption) | exact Nat.ne_of_lt (by assumption) | omega) ?_)
  k_whole
  intro t9 h9 tk9 F9 N9
  (try k_fold)
  repeat' (first | (k_unfold; (try dsimp only)) | ((with_reducible show wpAny _ _ (execs (_ :: _) _) _ _ _); walk1; (try k_fold)) | (k_end; wrow_close) | walk1 | (dsimp only; walk1) | (leave1; try dsimp only))
  (rename News g' L' _ _ => gN)
  (rename News h₀ L _ (List.cons _ _) => kN)
  (try ((fail_if_success (fail_if_success (with_reducible rename (_ ∧ _) => hx9))); refine viaR ?_; intro R9 k9; (repeat (first | ((with_reducible rename (_ ∧ _ ∧ _ ∧ _ ∧ _ ∧ _ ∧ _ ∧ _) => hx9); refine and8 hx9 ?_; clear hx9; intro _ _ _ _ _ _ _ _) | ((with_reducible rename (_ ∧ _ ∧ _ ∧ _) => hx9); refine and4 hx9 ?_; clear hx9; intro _ _ _ _) | ((with_reducible rename (_ ∧ _) => hx9); refine and2 hx9 ?_; clear hx9; intro _ _) | ((with_reducible rename True => hx9); clear hx9))); refine k9 ?_; clear k9 R9))
  (rename _ = some (Value.str _ _) => hq1)
  refine ret _ _ _ _ _ _ _ _ (by assumption) (newsFour9 (cb_drop kN (fmem (by k_mem) (fmem (by k_mem) (fmem (by k_mem) (fmem (by k_mem) (List.forall_mem_nil _)))))) (by assumption)) (.cons _ _ (.cons _ _ (.cons _ _ (.cons _ _ .nil)))) (by assumption) hq1 (by k_ne) (by k_ne) (by k_ne) (by k_ne) (by k_ne) ?_
  intro q hq
  have hqg := hkeep' q.1 q.2 (N q (M.two q hq).1).1 (by simpa using (M.two q hq).2)
  exact ⟨ne_base gN (by k_mem) hqg, ne_base gN (by k_mem) hqg⟩
set_option maxRecDepth 100000 in
set_option maxHeartbeats 8000000 in
theorem masks_hit {w : World} {p : Program} {loose : List Str} {mean : ExcName → Option Value} {mg mb : Str → Option Value} {dp un : Nat} {gd : Option (List Code)} {cn : Str} {cs : Scope} {a : Addr} {ccd : Value} {cl : List (Str × Addr)} {outer : List Env} {A₀ : Around} {base h₀ : Heap} {L : Addr} {m : Str → Option Value} {news rest : List (Addr × Obj)} {s : Shared} {Q E : Value → Shared → Prop}
    {l c' : Addr} {oc : Obj} {fv : Array Value} {tq : Tok} {kl : Nat} {w0 w1 w2 mk : Int} {t0 t1 t2 tm : Tok}
    (B : Below A₀ base outer h₀) (F : Fr h₀ L s.heap m) (X : (K2 w.params).In h₀) (N : News h₀ L s.heap news) (T : Top p loose mean mg mb h₀) (hk : cs.kind = .function) (hdp : dp + 10 < recursionLimit) (hun : un + 80 < cLine)
    (h0 : 0 ≤ w0 ∧ w0 < 4) (h1 : 0 ≤ w1 ∧ w1 < 4) (h2 : 0 ≤ w2 ∧ w2 < 4) (h3 : 0 ≤ mk ∧ mk < 4) (C : CodeHd h₀ 41 37) (hl : (l, listOf #[.int w0 t0, .int w1 t1, .int w2 t2] kl) ∈ news) (h37 : (37, tabObj #[rawInt ((68 : Nat) : Int), rawInt ((4 : Nat) : Int), .ref c']) ∈ news) (hc : (c', oc) ∈ news) (hoc : oc.data = .fields fv) (hfv : fv[1]? = some (.str (Str.ofString "_digits2int.<locals>.inner") tq)) (hl37 : @Ne Nat 37 l) (h37c : @Ne Nat 37 c') (hlc : @Ne Nat l c') (hre : rest = less [37, c', l] news)
    (ret : ∀ ml vs h' tk', Fr h₀ L h' m → News h₀ L h' ((ml, LCg.lst vs) :: news) → IntsAre vs (maskInts w0 w1 w2 mk) → (∀ q ∈ news, @Ne Nat q.1 ml) → Q (.ref ml) { s with heap := h', toks := tk' }) :
    wpAny (model PySem.Challenge.rw_pu0036_01.row.prog w) (ktrTop dp un gd cn cs L a ccd cl outer) (call (.ref 65) [.ref l, .int mk tm]) Q E s := by
  w_top off
  revert X
  k_fill
  intro X
  refine wpAny_call ?_
  k_dflt (refine' cellsPass (P := [(37, tabObj #[rawInt ((68 : Nat) : Int), rawInt ((4 : Nat) : Int), .ref c']), (c', oc), (l, listOf #[.int w0 t0, .int w1 t1, .int w2 t2] kl)]) (rest := rest) B F X N T (fmem h37 (fmem hc (fmem hl (List.forall_mem_nil _)))) (fun q hq => by rw [hre] at hq; exact ⟨((Minus.less [37, c', l] news).spec q hq).1, fun hm => ((Minus.less [37, c', l] news).spec q hq).2 _ hm rfl⟩) ?kA ?kF ?kK ?k6 ?k7 ?k8 ?k9 ?kB ?kD ?_ ?c2 ?c3 ?c4; (case kA => exact rfl); (case kF => exact rfl); (case kK => assumption); (case k6 => k_is); (case k7 => k_is); (case k8 => ktr_room); (case k9 => first | exact BindsTo.of_eq rfl | exact binds_K (by k_in) rfl (by k_is) rfl rfl rfl | (refine' kp_binds ?kx ?ke; (case kx => k_in); (case ke => exact fun _ => rfl))); (case kB => exact rfl); (case kD => decide +kernel); (case c2 => exact rfl); (case c3 => exact rfl); (case c4 => exact rfl); k_whole; intro g' L' h' tk' cells' hkeep' F' N' Y' B' X' T' st' lP'; k_cells Y'; (try k_lt lP'); (try simp only [List.cons_append, List.nil_append] at N'); (try dsimp only); (try k_fold))
  have C' := CodeHd.keeps C st'
  repeat' ((fail_if_success (with_reducible show wpAny _ _ (call (Value.ref 42) _) _ _ _)); first | (k_unfold; (try dsimp only)) | ((with_reducible show wpAny _ _ (execs (_ :: _) _) _ _ _); walk1; (try k_fold)) | (k_end; wrow_close) | walk1 | (dsimp only; walk1) | (leave1; try dsimp only))
  (try ((fail_if_success (fail_if_success (with_reducible rename (_ ∧ _) => hx9))); refine viaR ?_; intro R9 k9; (repeat (first | ((with_reducible rename (_ ∧ _ ∧ _ ∧ _ ∧ _ ∧ _ ∧ _ ∧ _) => hx9); refine and8 hx9 ?_; clear hx9; intro _ _ _ _ _ _ _ _) | ((with_reducible rename (_ ∧ _ ∧ _ ∧ _) => hx9); refine and4 hx9 ?_; clear hx9; intro _ _ _ _) | ((with_reducible rename (_ ∧ _) => hx9); refine and2 hx9 ?_; clear hx9; intro _ _) | ((with_reducible rename True => hx9); clear hx9))); refine k9 ?_; clear k9 R9))
  k_dflt (refine d2iH (by k_asm) (by k_asm) (by k_asm) (by k_asm) (by k_asm) (by first | exact rfl | assumption) (by ktr_room) (by ktr_units) (by k_mem) (by first | k_asm | exact .cons _ _ (.cons _ _ (.cons _ _ .nil))) (by ((try simp only [List.map]); (repeat' split) <;> omega)) (by ((try simp only [List.map]); (repeat' split) <;> omega)) (by ((try simp only [List.map]); (repeat' split) <;> omega)) (by kn_code) (by first | assumption | exact Ne.symm (by assumption) | exact Nat.ne_of_lt (by assumption) | omega) (by k_mem) (by k_mem) (by k_asm) (by k_asm) (by first | assumption | exact Ne.symm (by assumption) | exact Nat.ne_of_lt (by assumption) | omega) (by first | assumption | exact Ne.symm (by assumption) | exact Nat.ne_of_lt (by assumption) | omega) ?_)
  k_whole
  intro t9 h9 tk9 F9 N9
  (try k_fold)
  repeat' ((fail_if_success (with_reducible show wpAny _ _ (call (Value.ref 42) _) _ _ _)); first | (k_unfold; (try dsimp only)) | ((with_reducible show wpAny _ _ (execs (_ :: _) _) _ _ _); walk1; (try k_fold)) | (k_end; wrow_close) | walk1 | (dsimp only; walk1) | (leave1; try dsimp only))
  (try ((fail_if_success (fail_if_success (with_reducible rename (_ ∧ _) => hx9))); refine viaR ?_; intro R9 k9; (repeat (first | ((with_reducible rename (_ ∧ _ ∧ _ ∧ _ ∧ _ ∧ _ ∧ _ ∧ _) => hx9); refine and8 hx9 ?_; clear hx9; intro _ _ _ _ _ _ _ _) | ((with_reducible rename (_ ∧ _ ∧ _ ∧ _) => hx9); refine and4 hx9 ?_; clear hx9; intro _ _ _ _) | ((with_reducible rename (_ ∧ _) => hx9); refine and2 hx9 ?_; clear hx9; intro _ _) | ((with_reducible rename True => hx9); clear hx9))); refine k9 ?_; clear k9 R9))
  k_dflt (refine d2iH (by k_asm) (by k_asm) (by k_asm) (by k_asm) (by k_asm) (by first | exact rfl | assumption) (by ktr_room) (by ktr_units) (by k_mem) (by first | k_asm | exact .cons _ _ (.cons _ _ (.cons _ _ .nil))) (by ((try simp only [List.map]); (repeat' split) <;> omega)) (by ((try simp only [List.map]); (repeat' split) <;> omega)) (by ((try simp only [List.map]); (repeat' split) <;> omega)) (by kn_code) (by first | assumption | exact Ne.symm (by assumption) | exact Nat.ne_of_lt (by assumption) | omega) (by k_mem) (by k_mem) (by k_asm) (by k_asm) (by first | assumption | exact Ne.symm (by assumption) | exact Nat.ne_of_lt (by assumption) | omega) (by first | assumption | exact Ne.symm (by assumption) | exact Nat.ne_of_lt (by assumption) | omega) ?_)
  k_whole
  intro t9 h9 tk9 F9 N9
  (try k_fold)
  repeat' ((fail_if_success (with_reducible show wpAny _ _ (call (Value.ref 42) _) _ _ _)); first | (k_unfold; (try dsimp only)) | ((with_reducible show wpAny _ _ (execs (_ :: _) _) _ _ _); walk1; (try k_fold)) | (k_end; wrow_close) | walk1 | (dsimp only; walk1) | (leave1; try dsimp only))
  (try ((fail_if_success (fail_if_success (with_reducible rename (_ ∧ _) => hx9))); refine viaR ?_; intro R9 k9; (repeat (first | ((with_reducible rename (_ ∧ _ ∧ _ ∧ _ ∧ _ ∧ _ ∧ _ ∧ _) => hx9); refine and8 hx9 ?_; clear hx9; intro _ _ _ _ _ _ _ _) | ((with_reducible rename (_ ∧ _ ∧ _ ∧ _) => hx9); refine and4 hx9 ?_; clear hx9; intro _ _ _ _) | ((with_reducible rename (_ ∧ _) => hx9); refine and2 hx9 ?_; clear hx9; intro _ _) | ((with_reducible rename True => hx9); clear hx9))); refine k9 ?_; clear k9 R9))
  k_dflt (refine d2iH (by k_asm) (by k_asm) (by k_asm) (by k_asm) (by k_asm) (by first | exact rfl | assumption) (by ktr_room) (by ktr_units) (by k_mem) (by first | k_asm | exact .cons _ _ (.cons _ _ (.cons _ _ .nil))) (by ((try simp only [List.map]); (repeat' split) <;> omega)) (by ((try simp only [List.map]); (repeat' split) <;> omega)) (by ((try simp only [List.map]); (repeat' split) <;> omega)) (by kn_code) (by first | assumption | exact Ne.symm (by assumption) | exact Nat.ne_of_lt (by assumption) | omega) (by k_mem) (by k_mem) (by k_asm) (by k_asm) (by first | assumption | exact Ne.symm (by assumption) | exact Nat.ne_of_lt (by assumption) | omega) (by first | assumption | exact Ne.symm (by assumption) | exact Nat.ne_of_lt (by assumption) | omega) ?_)
  k_whole
  intro t9 h9 tk9 F9 N9
  (try k_fold)
  repeat' ((fail_if_success (with_reducible show wpAny _ _ (call (Value.ref 42) _) _ _ _)); first | (k_unfold; (try dsimp only)) | ((with_reducible show wpAny _ _ (execs (_ :: _) _) _ _ _); walk1; (try k_fold)) | (k_end; wrow_close) | walk1 | (dsimp only; walk1) | (leave1; try dsimp only))
  (try ((fail_if_success (fail_if_success (with_reducible rename (_ ∧ _) => hx9))); refine viaR ?_; intro R9 k9; (repeat (first | ((with_reducible rename (_ ∧ _ ∧ _ ∧ _ ∧ _ ∧ _ ∧ _ ∧ _) => hx9); refine and8 hx9 ?_; clear hx9; intro _ _ _ _ _ _ _ _) | ((with_reducible rename (_ ∧ _ ∧ _ ∧ _) => hx9); refine and4 hx9 ?_; clear hx9; intro _ _ _ _) | ((with_reducible rename (_ ∧ _) => hx9); refine and2 hx9 ?_; clear hx9; intro _ _) | ((with_reducible rename True => hx9); clear hx9))); refine k9 ?_; clear k9 R9))
  k_dflt (refine d2iH (by k_asm) (by k_asm) (by k_asm) (by k_asm) (by k_asm) (by first | exact rfl | assumption) (by ktr_room) (by ktr_units) (by k_mem) (by first | k_asm | exact .cons _ _ (.cons _ _ (.cons _ _ .nil))) (by ((try simp only [List.map]); (repeat' split) <;> omega)) (by ((try simp only [List.map]); (repeat' split) <;> omega)) (by ((try simp only [List.map]); (repeat' split) <;> omega)) (by kn_code) (by first | assumption | exact Ne.symm (by assumption) | exact Nat.ne_of_lt (by assumption) | omega) (by k_mem) (by k_mem) (by k_asm) (by k_asm) (by first | assumption | exact Ne.symm (by assumption) | exact Nat.ne_of_lt (by assumption) | omega) (by first | assumption | exact Ne.symm (by assumption) | exact Nat.ne_of_lt (by assumption) | omega) ?_)
  k_whole
  intro t9 h9 tk9 F9 N9
  (try k_fold)
  repeat' (first | (k_unfold; (try dsimp only)) | ((with_reducible show wpAny _ _ (execs (_ :: _) _) _ _ _); walk1; (try k_fold)) | (k_end; wrow_close) | walk1 | (dsimp only; walk1) | (leave1; try dsimp only))
  (rename News g' L' _ _ => gN)
  (rename News h₀ L _ (List.cons _ _) => kN)
  (rename News h₀ L _ rest => rN)
  subst hre
  have hPn : ∀ p ∈ ([(37, tabObj #[rawInt ((68 : Nat) : Int), rawInt ((4 : Nat) : Int), .ref c']), (c', oc), (l, listOf #[.int w0 t0, .int w1 t1, .int w2 t2] kl)] : List (Addr × Obj)), p ∈ news := fmem h37 (fmem hc (fmem hl (List.forall_mem_nil _)))
  have nN := news_back (P := [(37, tabObj #[rawInt ((68 : Nat) : Int), rawInt ((4 : Nat) : Int), .ref c']), (c', oc), (l, listOf #[.int w0 t0, .int w1 t1, .int w2 t2] kl)]) N hPn (newsApp (cb_drop kN (fmem (by k_mem) (fmem (by k_mem) (fmem (by k_mem) (List.forall_mem_nil _))))) rN)
  (try ((fail_if_success (fail_if_success (with_reducible rename (_ ∧ _) => hx9))); refine viaR ?_; intro R9 k9; (repeat (first | ((with_reducible rename (_ ∧ _ ∧ _ ∧ _ ∧ _ ∧ _ ∧ _ ∧ _) => hx9); refine and8 hx9 ?_; clear hx9; intro _ _ _ _ _ _ _ _) | ((with_reducible rename (_ ∧ _ ∧ _ ∧ _) => hx9); refine and4 hx9 ?_; clear hx9; intro _ _ _ _) | ((with_reducible rename (_ ∧ _) => hx9); refine and2 hx9 ?_; clear hx9; intro _ _) | ((with_reducible rename True => hx9); clear hx9))); refine k9 ?_; clear k9 R9))
  refine ret _ _ _ _ (by assumption) (fmem (kN _ (List.Mem.head _)) nN) (.cons _ _ (.cons _ _ (.cons _ _ (.cons _ _ .nil)))) ?_
  intro q hq
  by_cases e1 : q.1 = 37
  · rw [e1]; k_ne
  · by_cases e2 : q.1 = c'
    · rw [e2]; k_ne
    · by_cases e3 : q.1 = l
      · rw [e3]; k_ne
      · have hqg := hkeep' q.1 q.2 (N q hq).1 (by simp [e1, e2, e3])
        exact ne_base gN (by k_mem) hqg
end Mine
end PartT7
section PartT9
open PySem PySem.W PyProof.Rows PySem.Spec PySem.Calls
namespace Mine
theorem masksF {w : World} {p : Program} {loose : List Str} {mean : ExcName → Option Value} {mg mb : Str → Option Value} {dp un : Nat} {gd : Option (List Code)} {cn : Str} {cs : Scope} {a : Addr} {ccd : Value} {cl : List (Str × Addr)} {outer : List Env} {A₀ : Around} {base h₀ : Heap} {L : Addr} {m : Str → Option Value} {news : List (Addr × Obj)} {s : Shared} {Q E : Value → Shared → Prop} {l : Addr} {kl : Nat} {w0 w1 w2 mk : Int} {t0 t1 t2 tm : Tok} {g : Obj → List (Addr × Obj)} (B : Below A₀ base outer h₀) (F : Fr h₀ L s.heap m) (X : (K2 w.params).In h₀) (N : News h₀ L s.heap news) (T : Top p loose mean mg mb h₀) (hk : cs.kind = .function) (hdp : dp + 10 < recursionLimit) (hun : un + 80 < cLine)
    (h0 : 0 ≤ w0 ∧ w0 < 4) (h1 : 0 ≤ w1 ∧ w1 < 4) (h2 : 0 ≤ w2 ∧ w2 < 4) (h3 : 0 ≤ mk ∧ mk < 4) (C : CodeHd h₀ 41 37) (hl : (l, listOf #[.int w0 t0, .int w1 t1, .int w2 t2] kl) ∈ news) (hl37 : @Ne Nat 37 l) (U : UpdF 37 (tabObj #[]) news g)
    (ret : ∀ ml vs c' oc fv tq h' tk', Fr h₀ L h' m → News h₀ L h' ((ml, LCg.lst vs) :: (c', oc) :: g (tabObj #[rawInt ((68 : Nat) : Int), rawInt ((4 : Nat) : Int), .ref c'])) → IntsAre vs (maskInts w0 w1 w2 mk) → oc.data = .fields fv → fv[1]? = some (.str (Str.ofString "_digits2int.<locals>.inner") tq) → (∀ q ∈ news, @Ne Nat q.1 c' ∧ @Ne Nat q.1 ml) → @Ne Nat c' ml → Q (.ref ml) { s with heap := h', toks := tk' }) :
    wpAny (model PySem.Challenge.rw_pu0036_01.row.prog w) (ktrTop dp un gd cn cs L a ccd cl outer) (call (.ref 65) [.ref l, .int mk tm]) Q E s := by
  have h37 : (37, tabObj #[]) ∈ news := by
    obtain ⟨pre, post, rfl, _⟩ := U.split
    exact List.mem_append_right _ (.head _)
  have hne : ∀ o : Obj, (37 : Addr) ∉ ([(l, o)] : List (Addr × Obj)).map (·.1) := fun o hm => by
    have e : @Eq Nat 37 l := List.mem_singleton.mp hm
    exact hl37 e
  refine masks_fresh B F X N T hk hdp hun h0 h1 h2 h3 C hl hl37 h37 (Minus.less [37, l] news) ?_
  intro ml vs c' oc fv tq h' tk' F9 N9 hi hoc hfv l1 l2 l3 l4 l5 l6
  refine ret ml vs c' oc fv tq h' tk' F9 ?_ hi hoc hfv ?_ l3
  · have N10 : News h₀ L h' ((37, tabObj #[rawInt ((68 : Nat) : Int), rawInt ((4 : Nat) : Int), .ref c']) :: [(l, listOf #[.int w0 t0, .int w1 t1, .int w2 t2] kl)] ++ less (37 :: [(l, listOf #[.int w0 t0, .int w1 t1, .int w2 t2] kl)].map (·.1)) news) := fun q hq => N9 q (by
      rcases List.mem_cons.mp hq with rfl | hq
      · exact .tail _ (.head _)
      · rcases List.mem_cons.mp hq with rfl | hq
        · exact .tail _ (.tail _ (.tail _ (.head _)))
        · exact .tail _ (.tail _ (.tail _ (.tail _ hq))))
    have N11 := news_turn N U (List.forall_mem_cons.mpr ⟨hl, List.forall_mem_nil _⟩) (hne _) N10
    exact List.forall_mem_cons.mpr ⟨N9 _ (.head _), List.forall_mem_cons.mpr ⟨N9 _ (.tail _ (.tail _ (.head _))), N11⟩⟩
  · intro q hq
    by_cases e1 : q.1 = 37
    · rw [e1]; exact ⟨l1, l4⟩
    · by_cases e2 : q.1 = l
      · rw [e2]; exact ⟨l2, l5⟩
      · refine l6 q (List.mem_filter.mpr ⟨hq, ?_⟩)
        rw [List.contains_cons, List.contains_cons, List.contains_nil, beq_eq_false_iff_ne.mpr e1, beq_eq_false_iff_ne.mpr e2]
        rfl
end Mine
end PartT9
section PartLK
open PySem PySem.W PyProof.Rows PySem.Spec PySem.Calls
namespace Mine
structure Apart (a b : Nat) : Prop where
  ne : a ≠ b
noncomputable def AllNe (a : Nat) : List (Addr × Obj) → Prop
  | [] => True
  | p :: r => Apart p.1 a ∧ AllNe a r
theorem apart_of {a b : Nat} (h : a ≠ b) : Apart a b := ⟨h⟩
theorem allNe_of {a : Nat} : ∀ {l : List (Addr × Obj)}, (∀ q ∈ l, @Ne Nat q.1 a) → AllNe a l
  | [], _ => trivial
  | p :: _, h => ⟨⟨h p (.head _)⟩, allNe_of fun q hq => h q (.tail _ hq)⟩
theorem allNe_mem {a : Nat} {l : List (Addr × Obj)} (h : AllNe a l) : ∀ q ∈ l, @Ne Nat q.1 a := by
  induction l with
  | nil => intro q hq; cases hq
  | cons p r ih =>
    intro q hq
    have h' : Apart p.1 a ∧ AllNe a r := h
    rcases List.mem_cons.mp hq with e | hq
    · rw [e]; exact h'.1.ne
    · exact ih h'.2 q hq
theorem offOwn {own : List (Addr × Obj)} {a : Addr} {adr : List Addr} (h : AllNe a own) (ho : OwnOff own adr) : OwnOff own (a :: adr) := by
  intro p hp b hb
  rcases List.mem_cons.mp hb with rfl | hb
  · exact allNe_mem h p hp
  · exact ho p hp b hb
theorem offSub {own : List (Addr × Obj)} {adr adr' : List Addr} (ho : OwnOff own adr) (h : ∀ b ∈ adr', b ∈ adr) : OwnOff own adr' := fun p hp b hb => ho p hp b (h b hb)
noncomputable def TabOk (nm : String) (l : List (Addr × Obj)) : Option (Addr × Obj) → Prop
  | none => True
  | some (c', oc) => (∃ fv tq, oc.data = .fields fv ∧ fv[1]? = some (.str (Str.ofString nm) tq)) ∧ AllNe c' l
theorem pick4 {G : Value → Prop} {o0 o1 o2 o3 : Nat} {t0 t1 t2 t3 : Tok} (h0 : o0 < 4) (h1 : o1 < 4) (h2 : o2 < 4) (h3 : o3 < 4) {i : Nat} {v : Value} (h : [Value.int (o0 : Int) t0, .int (o1 : Int) t1, .int (o2 : Int) t2, .int (o3 : Int) t3][i]? = some v)
    (g : ∀ (k : Nat) (t : Tok), k < 4 → [o0, o1, o2, o3][i]? = some k → G (.int (k : Int) t)) : G v := by
  match i, h with
  | 0, h => cases h; exact g o0 t0 h0 rfl
  | 1, h => cases h; exact g o1 t1 h1 rfl
  | 2, h => cases h; exact g o2 t2 h2 rfl
  | 3, h => cases h; exact g o3 t3 h3 rfl
  | n + 4, h => cases h
/-- the masks of the first i signs -/
noncomputable def masksI (w0 w1 w2 : Nat) (os : List Nat) : List Int := (os.map fun (k : Nat) => maskInts w0 w1 w2 k).flatten
theorem masksI_snoc {w0 w1 w2 i k : Nat} {os : List Nat} (h : os[i]? = some k) : masksI w0 w1 w2 (os.take (i + 1)) = masksI w0 w1 w2 (os.take i) ++ maskInts w0 w1 w2 k := by
  unfold masksI
  rw [List.take_add_one, h]
  simp
theorem extendK {prog : Program} {w : World} {A : Around} {E : Value → Shared → Prop} {s : Shared} {h₀ : Heap} {L D b : Addr} {m : Str → Option Value} {news news' : List (Addr × Obj)} {vs vs2 : List Value} {n : Nat} {Q : Value → Shared → Prop}
    (F : Fr h₀ L s.heap m) (N : News h₀ L s.heap news) (hb : (b, LCg.lst vs2) ∈ news) (U : Upd D (listOf vs.toArray n) (listOf (vs ++ vs2).toArray (n + 1)) news news') (h1 : vs.length ≤ 100) (h2 : vs2.length ≤ 100) (h3 : vs2.length ≠ 0)
    (h : ∀ h', Fr h₀ L h' m → News h₀ L h' news' → Q .none { s with heap := h' }) : wpAny (model prog w) A (call (.builtin "list.extend") [.ref D, .ref b]) Q E s := by
  refine kl_extend (its := vs.toArray) (its2 := vs2.toArray) (l := vs ++ vs2) F N hb (by simp) (by simpa using h3) U ?_ ?_ ?_ h
  · have : Builtin.List.listTooLong (vs.toArray.size + vs2.toArray.size) = false := by
      unfold Builtin.List.listTooLong
      rw [sizeLine_eq]
      simp
      omega
    rw [this]
    simp
  · rw [sizeLine_eq]; simp; omega
  · rw [sizeLine_eq]; simp; omega
theorem masksI_len (w0 w1 w2 : Nat) (os : List Nat) : (masksI w0 w1 w2 os).length = 4 * os.length := by
  unfold masksI
  induction os with
  | nil => rfl
  | cons k r ih => rw [List.map_cons, List.flatten_cons, List.length_append, ih, List.length_cons]; show 4 + _ = _; omega
theorem intsApp {a b : List Value} {x y : List Int} (h : IntsAre a x) (h2 : IntsAre b y) : IntsAre (a ++ b) (x ++ y) := by
  induction h with
  | nil => exact h2
  | cons k t _ ih => exact .cons k t ih
noncomputable def eqBit (a b : Nat) : Nat := if a = b then 1 else 0
/-- the four masks of a sign -/
noncomputable def masksN (w0 w1 w2 mk : Nat) : List Nat := [273, 546, 4 * (256 * eqBit (w2 / 2) (mk / 2) + 16 * eqBit (w1 / 2) (mk / 2) + eqBit (w0 / 2) (mk / 2)), 8 * (256 * eqBit w2 mk + 16 * eqBit w1 mk + eqBit w0 mk)]
theorem maskInts_fin : ∀ a b c d : Fin 4, maskInts (a.val : Nat) (b.val : Nat) (c.val : Nat) (d.val : Nat) = zs (masksN a.val b.val c.val d.val) := by decide +kernel
theorem maskInts_nat {a b c d : Nat} (ha : a < 4) (hb : b < 4) (hc : c < 4) (hd : d < 4) : maskInts (a : Int) (b : Int) (c : Int) (d : Int) = zs (masksN a b c d) := maskInts_fin ⟨a, ha⟩ ⟨b, hb⟩ ⟨c, hc⟩ ⟨d, hd⟩
noncomputable def msOf (w0 w1 w2 : Nat) (os : List Nat) : List Nat := (os.map (masksN w0 w1 w2)).flatten
theorem msOf_len (w0 w1 w2 : Nat) (os : List Nat) : (msOf w0 w1 w2 os).length = 4 * os.length := by
  unfold msOf
  induction os with
  | nil => rfl
  | cons k r ih => rw [List.map_cons, List.flatten_cons, List.length_append, ih, List.length_cons]; show 4 + _ = _; omega
theorem masksI_nat {w0 w1 w2 : Nat} (h0 : w0 < 4) (h1 : w1 < 4) (h2 : w2 < 4) {os : List Nat} (ho : ∀ k ∈ os, k < 4) : masksI w0 w1 w2 os = zs (msOf w0 w1 w2 os) := by
  unfold masksI msOf
  induction os with
  | nil => rfl
  | cons k r ih =>
    rw [List.map_cons, List.flatten_cons, List.map_cons, List.flatten_cons, zs_app, ih fun q hq => ho q (.tail _ hq), maskInts_nat h0 h1 h2 (ho k (.head _))]
/-- the sign of a mark -/
noncomputable def cod (k : Nat) : Nat := [97, 65, 98, 66].getD k 0
theorem cod_item {w : Nat} (h : w < 4) : Txt.item (Str.ofString "aAbB") (w : Int) = S [cod w] := by
  have e : Str.ofString "aAbB" = S [97, 65, 98, 66] := by decide +kernel
  rw [e, item_at (by simpa using h)]
  rfl
theorem cod_tail {prog : Program} {w : World} {A : Around} {E : Value → Shared → Prop} {s : Shared} {value slice : PySem.Expr} {t u : Tok} {k : Nat} {Q : Value → Shared → Prop} (hk : k < 4) (h : Q (.str (S [cod k]) s.toks) { s with toks := s.toks + 1 })
    (hs : subscripted slice false (.str (Str.ofString "aAbB") t) (.int (k : Int) u) = operate [.str (Str.ofString "aAbB") t, .int (k : Int) u] (getItem (.str (Str.ofString "aAbB") t) (.int (k : Int) u)))
    (ht : ∀ r, letTemporaryGo value (.str (Str.ofString "aAbB") t) r = pure ()) :
    wpAny (model prog w) A (subscriptTail value slice (.str (Str.ofString "aAbB") t) (.int (k : Int) u)) Q E s := by
  have e : (Str.ofString "aAbB").length = 4 := by decide +kernel
  refine KXi.item (n := 4) e (by omega) (by omega) (by decide) (fun _ => ?_) hs ht
  rw [cod_item hk]
  exact h
theorem join3 (a b c : Nat) : Txt.join (Str.ofString "") [S [a], S [b], S [c]] = S [a, b, c] := by
  have e : Str.ofString "" = S [] := by decide +kernel
  rw [e]
  rfl
theorem join4 (a b c d : Nat) : Txt.join (Str.ofString "") [S [a], S [b], S [c], S [d]] = S [a, b, c, d] := by
  have e : Str.ofString "" = S [] := by decide +kernel
  rw [e]
  rfl
theorem nat4 (n : Int) : ∃ k : Nat, n.fmod 4 = (k : Int) ∧ k < 4 := by
  refine ⟨(n.fmod 4).toNat, ?_, ?_⟩
  · have := Int.fmod_nonneg_of_pos n (show (0 : Int) < 4 by decide); omega
  · have := Int.fmod_lt_of_pos n (show (0 : Int) < 4 by decide); have := Int.fmod_nonneg_of_pos n (show (0 : Int) < 4 by decide); omega
section
variable {prog : Program} {w : World} {A : Around} {E : Value → Shared → Prop} {s : Shared} {h₀ : Heap} {L l : Addr} {m : Str → Option Value} {news : List (Addr × Obj)} {value slice : PySem.Expr} {vs : List Value} {x y : Int} {k : Nat} {tx ty : Tok} {Q : Value → Shared → Prop}
theorem min_cut (a b n : Nat) : min a n - min b n = min (a - b) (n - b) := by
  rcases Nat.le_total b n with h | h
  · rw [Nat.min_eq_left h, Nat.sub_min_sub_right]
  · rw [Nat.min_eq_right h, Nat.sub_eq_zero_of_le h, Nat.min_zero, Nat.sub_eq_zero_of_le (Nat.min_le_right _ _)]
theorem natmin (a b : Nat) : min (a : Int) (b : Int) = ((min a b : Nat) : Int) :=
  (Nat.le_total a b).elim (fun h => by rw [Nat.min_eq_left h, Int.min_eq_left (Int.ofNat_le.mpr h)]) (fun h => by rw [Nat.min_eq_right h, Int.min_eq_right (Int.ofNat_le.mpr h)])
theorem max0 {x : Int} (n : Nat) (h : 0 ≤ x) : max 0 (min x (n : Int)) = ((min x.toNat n : Nat) : Int) := by
  have e : x = (x.toNat : Int) := (Int.toNat_of_nonneg h).symm
  rw [e, Int.toNat_natCast, natmin]
  exact Int.max_eq_right (Int.natCast_nonneg _)
theorem clip_pos {z : Int} (n : Nat) (h : 0 ≤ z) : (if (1 : Int) > 0 then max 0 (min (if z < 0 then z + n else z) (n : Int)) else max (-1) (min (if z < 0 then z + n else z) ((n : Int) - 1))) = ((min z.toNat n : Nat) : Int) := by
  rw [if_pos (by decide), if_neg (Int.not_lt.mpr h)]
  exact max0 n h
/-- the piece of a list between two places -/
theorem pick_cut {lo hi : Option Int} (a b : Nat) {p q : Int} (hp : p = ((min a vs.length : Nat) : Int)) (hq : q = ((min b vs.length : Nat) : Int)) (e : sliceBounds lo hi none vs.length = (p, q, 1)) : slicePick vs.toArray lo hi none = ((vs.drop a).take (b - a)).toArray := by
  subst hp; subst hq
  refine (kmk_pick_nat vs.toArray e).trans (congrArg List.toArray ?_)
  rw [kmk_drop_min, min_cut b a, ← List.length_drop, kmk_take_min]
theorem pick_from (h : 0 ≤ x) : slicePick vs.toArray (some x) none none = (vs.drop x.toNat).toArray :=
  (pick_cut x.toNat vs.length (clip_pos vs.length h) (congrArg Nat.cast (Nat.min_self vs.length).symm) rfl).trans (by rw [← List.length_drop, List.take_length])
theorem pick_upto (h : 0 ≤ y) : slicePick vs.toArray none (some y) none = (vs.take y.toNat).toArray :=
  pick_cut 0 y.toNat (congrArg Nat.cast (Nat.zero_min vs.length).symm) (clip_pos vs.length h) rfl
theorem pick_run (h : 0 ≤ x) (h2 : 0 ≤ y) : slicePick vs.toArray (some x) (some y) none = ((vs.drop x.toNat).take (y.toNat - x.toNat)).toArray :=
  pick_cut x.toNat y.toNat (clip_pos vs.length h) (clip_pos vs.length h2) rfl
theorem sliceFrom (F : Fr h₀ L s.heap m) (N : News h₀ L s.heap news) (hm : (l, listOf vs.toArray k) ∈ news) (hx : 0 ≤ x) (hz : vs.length ≤ 1000)
    (h : ∀ D h', Fr h₀ L h' m → News h₀ L h' ((D, listOf (vs.drop x.toNat).toArray 0) :: news) → AllLt D news → Q (.ref D) { s with heap := h' })
    (hs : subscripted slice false (.ref l) (.ref s.heap.objs.size) = operate [.ref s.heap.objs.size, .ref l] (getItem (.ref l) (.ref s.heap.objs.size)) := by with_unfolding_all rfl) (ht : ∀ r, letTemporaryGo value (.ref l) r = pure () := by intro _; with_unfolding_all rfl) :
    wpAny (model prog w) A (subscriptTail value slice (.ref l) (.ref s.heap.objs.size)) Q E { s with heap := s.heap.push { cls := .type "slice", data := .fields #[.int x tx, .none, .none] } } :=
  kmk_slice F N (News.isList N hm) (.int x tx) .none (fun D h' F' N' l1 => h D h' F' (by rw [← pick_from hx]; exact N') (allLt_is l1)) hs ht (by rw [sizeLine_eq, List.size_toArray]; omega)
theorem sliceUpto (F : Fr h₀ L s.heap m) (N : News h₀ L s.heap news) (hm : (l, listOf vs.toArray k) ∈ news) (hy : 0 ≤ y) (hz : vs.length ≤ 1000)
    (h : ∀ D h', Fr h₀ L h' m → News h₀ L h' ((D, listOf (vs.take y.toNat).toArray 0) :: news) → AllLt D news → Q (.ref D) { s with heap := h' })
    (hs : subscripted slice false (.ref l) (.ref s.heap.objs.size) = operate [.ref s.heap.objs.size, .ref l] (getItem (.ref l) (.ref s.heap.objs.size)) := by with_unfolding_all rfl) (ht : ∀ r, letTemporaryGo value (.ref l) r = pure () := by intro _; with_unfolding_all rfl) :
    wpAny (model prog w) A (subscriptTail value slice (.ref l) (.ref s.heap.objs.size)) Q E { s with heap := s.heap.push { cls := .type "slice", data := .fields #[.none, .int y ty, .none] } } :=
  kmk_slice F N (News.isList N hm) .none (.int y ty) (fun D h' F' N' l1 => h D h' F' (by rw [← pick_upto hy]; exact N') (allLt_is l1)) hs ht (by rw [sizeLine_eq, List.size_toArray]; omega)
theorem sliceRun (F : Fr h₀ L s.heap m) (N : News h₀ L s.heap news) (hm : (l, listOf vs.toArray k) ∈ news) (hx : 0 ≤ x) (hy : 0 ≤ y) (hz : vs.length ≤ 1000)
    (h : ∀ D h', Fr h₀ L h' m → News h₀ L h' ((D, listOf ((vs.drop x.toNat).take (y.toNat - x.toNat)).toArray 0) :: news) → AllLt D news → Q (.ref D) { s with heap := h' })
    (hs : subscripted slice false (.ref l) (.ref s.heap.objs.size) = operate [.ref s.heap.objs.size, .ref l] (getItem (.ref l) (.ref s.heap.objs.size)) := by with_unfolding_all rfl) (ht : ∀ r, letTemporaryGo value (.ref l) r = pure () := by intro _; with_unfolding_all rfl) :
    wpAny (model prog w) A (subscriptTail value slice (.ref l) (.ref s.heap.objs.size)) Q E { s with heap := s.heap.push { cls := .type "slice", data := .fields #[.int x tx, .int y ty, .none] } } :=
  kmk_slice F N (News.isList N hm) (.int x tx) (.int y ty) (fun D h' F' N' l1 => h D h' F' (by rw [← pick_run hx hy]; exact N') (allLt_is l1)) hs ht (by rw [sizeLine_eq, List.size_toArray]; omega)
end
theorem ints_take {vs : List Value} {ns : List Int} (h : IntsAre vs ns) (k : Nat) : IntsAre (vs.take k) (ns.take k) := h.take k
theorem ints_drop {vs : List Value} {ns : List Int} (h : IntsAre vs ns) (k : Nat) : IntsAre (vs.drop k) (ns.drop k) := h.drop k
theorem zs_take (l : List Nat) (k : Nat) : zs (l.take k) = (zs l).take k := by simp [zs, List.map_take]
theorem zs_drop (l : List Nat) (k : Nat) : zs (l.drop k) = (zs l).drop k := by simp [zs, List.map_drop]
theorem zs_ints_drop {vs : List Value} {ms : List Nat} (h : IntsAre vs (zs ms)) (k : Nat) : IntsAre (vs.drop k) (zs (ms.drop k)) := by rw [zs_drop]; exact h.drop k
theorem zs_ints_take {vs : List Value} {ms : List Nat} (h : IntsAre vs (zs ms)) (k : Nat) : IntsAre (vs.take k) (zs (ms.take k)) := by rw [zs_take]; exact h.take k
theorem isListOf {h₀ h : Heap} {L l : Addr} {news : List (Addr × Obj)} {vs : List Value} {k : Nat} (N : News h₀ L h news) (hm : (l, listOf vs.toArray k) ∈ news) : h.IsList l vs.toArray := News.isList N hm
theorem minus_one {l : Addr} {o : Obj} {rest : List (Addr × Obj)} (h : AllNe l rest) : Minus [l] ((l, o) :: rest) rest := by
  refine .drop ?_
  induction rest with
  | nil => exact .nil
  | cons p r ih =>
    have h' : Apart p.1 l ∧ AllNe l r := h
    exact .keep (fun b hb => by rw [List.mem_singleton.mp hb]; exact h'.1.ne) (ih h'.2)
theorem run_at {w : World} {p : Program} {loose : List Str} {mean : ExcName → Option Value} {mg mb : Str → Option Value} {dp un : Nat} {gd : Option (List Code)} {cn : Str} {cs : Scope} {a : Addr} {ccd : Value} {cl : List (Str × Addr)} {outer : List Env} {A₀ : Around} {base h₀ : Heap} {L : Addr} {m : Str → Option Value} {s : Shared} {Q E : Value → Shared → Prop} {l : Addr} {k : Nat} {rest : List (Addr × Obj)} {vs : List Value} {ms : List Nat} (B : Below A₀ base outer h₀) (F : Fr h₀ L s.heap m) (X : (K2 w.params).In h₀) (N : News h₀ L s.heap ((l, listOf vs.toArray k) :: rest)) (T : Top p loose mean mg mb h₀) (hk : cs.kind = .function) (hdp : dp + 3 < recursionLimit) (hun : un + 24 < cLine)
    (hms : IntsAre vs (zs ms)) (hlen : ms.length ≤ 16) (hne : AllNe l rest)
    (ret : ∀ tu lc (cs' : List Value) k t h' tk', Fr h₀ L h' m → News h₀ L h' ((tu, tupOf #[.int ((runGo ms 4095 []).1 : Nat) t, .ref lc]) :: (lc, listOf cs'.toArray k) :: rest) → AllLt lc rest → @LT.lt Nat _ lc tu → IntsAre cs' (zs (runGo ms 4095 []).2) → Q (.ref tu) { s with heap := h', toks := tk' }) :
    wpAny (model PySem.Challenge.rw_pu0036_01.row.prog w) (ktrTop dp un gd cn cs L a ccd cl outer) (call (.ref 72) [.ref l]) Q E s :=
  run_ok B F X N T hk hdp hun (isListOf N (.head _)) hms hlen (minus_one hne) ret
noncomputable def AllApart : List (Addr × Obj) → Prop
  | [] => True
  | p :: r => AllNe p.1 r ∧ AllApart r
/-- what a run from a sign on leaves, and what it carries out -/
noncomputable def stN (ms : List Nat) (k : Nat) : Nat := (runGo (ms.drop (4 * k)) 4095 []).1
noncomputable def caN (ms : List Nat) (k : Nat) : List Nat := (runGo (ms.drop (4 * k)) 4095 []).2
set_option genSizeOf false in
set_option genInjectivity false in
structure RunsS where
  aR : Addr
  u3 : Addr
  c3 : Addr
  u2 : Addr
  c2 : Addr
  u1 : Addr
  c1 : Addr
  u0 : Addr
  c0 : Addr
  t3 : Tok
  t2 : Tok
  t1 : Tok
  t0 : Tok
  v3 : List Value
  v2 : List Value
  v1 : List Value
  v0 : List Value
  k3 : Nat
  k2 : Nat
  k1 : Nat
  k0 : Nat
  oR : Obj
theorem allRuns {G : RunsS → Prop} (h : ∀ (aR : Addr) (u3 : Addr) (c3 : Addr) (u2 : Addr) (c2 : Addr) (u1 : Addr) (c1 : Addr) (u0 : Addr) (c0 : Addr) (t3 : Tok) (t2 : Tok) (t1 : Tok) (t0 : Tok) (v3 : List Value) (v2 : List Value) (v1 : List Value) (v0 : List Value) (k3 : Nat) (k2 : Nat) (k1 : Nat) (k0 : Nat) (oR : Obj), G ⟨aR, u3, c3, u2, c2, u1, c1, u0, c0, t3, t2, t1, t0, v3, v2, v1, v0, k3, k2, k1, k0, oR⟩) : ∀ x, G x := fun x => h x.aR x.u3 x.c3 x.u2 x.c2 x.u1 x.c1 x.u0 x.c0 x.t3 x.t2 x.t1 x.t0 x.v3 x.v2 x.v1 x.v0 x.k3 x.k2 x.k1 x.k0 x.oR
end Mine
end PartLK
section PartT8
open PySem PySem.W PyProof.Rows PySem.Spec PySem.Calls
namespace Mine
/-- how many of a list do not lie above x -/
noncomputable def below (ns : List Int) (x : Int) : Nat := (ns.filter fun n => decide (n ≤ x)).length
theorem below_len (ns : List Int) (x : Int) : below ns x ≤ ns.length := List.length_filter_le _ _
theorem below_zero : ∀ {ns : List Int} {x : Int}, (∀ n ∈ ns, x < n) → below ns x = 0
  | [], _, _ => rfl
  | n :: r, x, h => by
    have h1 := h n (.head _)
    unfold below
    rw [List.filter_cons_of_neg (by simp; omega)]
    exact below_zero fun k hk => h k (.tail _ hk)
theorem below_hi : ∀ {ns : List Int} {x n : Int} {i : Nat}, ns.Pairwise (· ≤ ·) → ns[i]? = some n → x < n → below ns x ≤ i
  | [], _, _, i, _, h, _ => by simp at h
  | k :: r, x, n, 0, hp, h, hx => by
    have e : k = n := by simpa using h
    subst e
    refine Nat.le_of_eq (below_zero fun y hy => ?_)
    rcases List.mem_cons.mp hy with rfl | hy
    · exact hx
    · have := List.rel_of_pairwise_cons hp hy; omega
  | k :: r, x, n, i + 1, hp, h, hx => by
    have ih := below_hi (List.Pairwise.of_cons hp) (by simpa using h) hx
    unfold below at ih ⊢
    rw [List.filter_cons]
    split
    · simp only [List.length_cons]; omega
    · omega
theorem below_lo : ∀ {ns : List Int} {x n : Int} {i : Nat}, ns.Pairwise (· ≤ ·) → ns[i]? = some n → n ≤ x → i + 1 ≤ below ns x
  | [], _, _, i, _, h, _ => by simp at h
  | k :: r, x, n, 0, hp, h, hx => by
    have e : k = n := by simpa using h
    subst e
    unfold below
    rw [List.filter_cons_of_pos (by simpa using hx)]
    simp
  | k :: r, x, n, i + 1, hp, h, hx => by
    have h2 : r[i]? = some n := by simpa using h
    have ih := below_lo (List.Pairwise.of_cons hp) h2 hx
    have hk := List.rel_of_pairwise_cons hp (List.mem_of_getElem? h2)
    unfold below at ih ⊢
    rw [List.filter_cons_of_pos (by simp; omega)]
    simp only [List.length_cons]; omega
theorem mid_le {lo hi : Nat} (h : lo < hi) : lo ≤ (lo + hi) / 2 := (Nat.le_div_iff_mul_le (by decide)).mpr (by lia)
theorem mid_lt {lo hi : Nat} (h : lo < hi) : (lo + hi) / 2 < hi := Nat.div_lt_of_lt_mul (by lia)
theorem mid_a {lo hi : Nat} (h : decide (lo < hi) = true) : hi - ((lo + hi) / 2 + 1) < hi - lo := Nat.sub_lt_sub_left (of_decide_eq_true h) (Nat.lt_succ_of_le (mid_le (of_decide_eq_true h)))
theorem mid_b {lo hi : Nat} (h : decide (lo < hi) = true) : (lo + hi) / 2 - lo < hi - lo := Nat.sub_lt_sub_right (mid_le (of_decide_eq_true h)) (mid_lt (of_decide_eq_true h))
theorem mid_f (lo hi : Nat) : ((lo : Int) + hi).fdiv 2 = (((lo + hi) / 2 : Nat) : Int) := by rw [Int.fdiv_eq_ediv_of_nonneg _ (by decide)]; rfl
set_option maxRecDepth 100000 in
set_option maxHeartbeats 8000000 in
theorem bisr_ok {w : World} {p : Program} {loose : List Str} {mean : ExcName → Option Value} {mg mb : Str → Option Value} {dp un : Nat} {gd : Option (List Code)} {cn : Str} {cs : Scope} {a : Addr} {ccd : Value} {cl : List (Str × Addr)} {outer : List Env} {A₀ : Around} {base h₀ : Heap} {L : Addr} {m : Str → Option Value} {news : List (Addr × Obj)} {s : Shared} {Q E : Value → Shared → Prop}
    {l : Addr} {vs : List Value} {ns : List Int} {x : Int} {tx : Tok}
    (B : Below A₀ base outer h₀) (F : Fr h₀ L s.heap m) (X : (K2 w.params).In h₀) (N : News h₀ L s.heap news) (T : Top p loose mean mg mb h₀) (hk : cs.kind = .function) (hdp : dp + 3 < recursionLimit) (hun : un + 24 < cLine)
    (hl : s.heap.IsList l vs.toArray) (hns : IntsAre vs ns) (hlen : ns.length ≤ 16) (hso : ns.Pairwise (· ≤ ·))
    (ret : ∀ t h' tk', Fr h₀ L h' m → News h₀ L h' news → Q (.int ((below ns x : Nat)) t) { s with heap := h', toks := tk' }) :
    wpAny (model PySem.Challenge.rw_pu0036_01.row.prog w) (ktrTop dp un gd cn cs L a ccd cl outer) (call (.ref 51) [.ref l, .int x tx]) Q E s := by
  w_top off
  revert X
  k_fill
  intro X
  refine wpAny_call ?_
  k_dflt (refine' codePass (P := []) (rest := news) (binds := [(Str.ofString "a", .ref l), (Str.ofString "x", .int x tx), (Str.ofString "lo", .int 0 249), (Str.ofString "hi", .none), (Str.ofString "key", .none)]) B F X N T (fun q hq => nomatch hq) (fun q hq => ⟨hq, by simp⟩) ?kA ?kF ?kK ?k6 ?k7 ?k8 ?k9 ?kB ?_ ?c2 ?c3 ?c4 ?c5; (case kA => exact rfl); (case kF => exact rfl); (case kK => assumption); (case k6 => k_is); (case k7 => k_is); (case k8 => ktr_room); (case k9 => first | exact BindsTo.of_eq rfl | exact binds_K (by k_in) rfl (by k_is) rfl rfl rfl | (refine' kp_binds ?kx ?ke; (case kx => k_in); (case ke => exact fun _ => rfl))); (case c5 => decide); (case kB => exact locs rfl); (case c2 => exact rfl); (case c3 => exact rfl); (case c4 => exact rfl); k_whole; intro g' L' h' hkeep' F' N' B' X' T' lP'; (try k_lt lP'); (try dsimp only); (try k_fold))
  have hl' : g'.IsList l vs.toArray := by
    obtain ⟨o, ho, hr'⟩ := hl
    exact ⟨o, hkeep' l o ho (fun hm => nomatch hm), hr'⟩
  have hvl : vs.length = ns.length := hns.length
  have hbl := below_len ns x
  repeat' ((fail_if_success (with_reducible show wpAny _ _ (exec (Stmt.While _ _ _ _) _) _ _ _)); (fail_if_success (with_reducible show wpAny _ _ (exec (Stmt.For _ _ _ _ _) _) _ _ _)); (fail_if_success (with_reducible show KswEnd _ _ _ _ _ _ _ _ _ _ _ _)); (fail_if_success (with_reducible show FcEnd _ _ _ _ _ _ _ _ _ _)); (fail_if_success (with_reducible show CutEnd _ _ _ _ _ _ _ _ _)); first | (k_unfold; (try dsimp only)) | ((with_reducible show wpAny _ _ (execs (_ :: _) _) _ _ _); walk1; (try k_fold)) | (k_end; wrow_close) | walk1 | (dsimp only; walk1) | (leave1; try dsimp only))
  (rename Fr _ _ _ _ => F1); (rename News _ _ _ _ => N1)
  refine' whileCut (σ := Nat × Nat × Tok × Tok) (fun _ => []) (fun c => [(Str.ofString "lo", .int (c.1 : Int) c.2.2.1), (Str.ofString "hi", .int (c.2.1 : Int) c.2.2.2)]) [Str.ofString "mid"] (fun c => c.1 ≤ below ns x ∧ below ns x ≤ c.2.1 ∧ c.2.1 ≤ ns.length) (fun c => c.2.1 - c.1) (fun c => decide (c.1 < c.2.1)) (0, ns.length, _, _) F1 N1 ?hk ?hp ?test ?turn ?done (by passes_own)
  case hk => kst_all
  case hp => exact ⟨Nat.zero_le _, by dsimp only; omega, by dsimp only; omega⟩
  case test =>
    refine all_1_1_1_1 ?_; intro lo hi t1 t2 u h tk hc F2 N2
    have hc1 := hc.1; have hc2 := hc.2.1; have hc3 := hc.2.2; clear hc
    dsimp only at hc1 hc2 hc3 F2 N2
    clear F1 N1
    repeat' ((fail_if_success (with_reducible show wpAny _ _ (exec (Stmt.While _ _ _ _) _) _ _ _)); (fail_if_success (with_reducible show wpAny _ _ (exec (Stmt.For _ _ _ _ _) _) _ _ _)); (fail_if_success (with_reducible show KswEnd _ _ _ _ _ _ _ _ _ _ _ _)); (fail_if_success (with_reducible show FcEnd _ _ _ _ _ _ _ _ _ _)); (fail_if_success (with_reducible show CutEnd _ _ _ _ _ _ _ _ _)); first | (k_unfold; (try dsimp only)) | ((with_reducible show wpAny _ _ (execs (_ :: _) _) _ _ _); walk1; (try k_fold)) | (k_end; wrow_close) | walk1 | (dsimp only; walk1) | (leave1; try dsimp only))
    all_goals refine TestEnd.intro (by assumption) (by assumption) (fun p hp => nomatch hp) (by dsimp only; exact decide_eq_decide.mpr (by omega))
  case turn =>
    refine all_1_1_1_1 ?_; intro lo hi t1 t2 u h tk hc ht F2 N2
    have hc1 := hc.1; have hc2 := hc.2.1; have hc3 := hc.2.2; clear hc
    dsimp only at hc1 hc2 hc3 F2 N2 ht
    clear F1 N1
    have ht' : lo < hi := by simpa using ht
    have hmid : ((lo : Int) + hi).fdiv 2 = (((lo + hi) / 2 : Nat) : Int) := mid_f lo hi
    have hget : ns[(lo + hi) / 2]? = some (ns.getD ((lo + hi) / 2) 0) := by rw [List.getD_eq_getElem?_getD, List.getElem?_eq_getElem (by omega)]; rfl
    repeat' ((fail_if_success (with_reducible show wpAny _ _ (exec (Stmt.While _ _ _ _) _) _ _ _)); (fail_if_success (with_reducible show wpAny _ _ (exec (Stmt.For _ _ _ _ _) _) _ _ _)); (fail_if_success (with_reducible show KswEnd _ _ _ _ _ _ _ _ _ _ _ _)); (fail_if_success (with_reducible show FcEnd _ _ _ _ _ _ _ _ _ _)); (fail_if_success (with_reducible show CutEnd _ _ _ _ _ _ _ _ _)); first | (k_unfold; (try dsimp only)) | ((with_reducible show wpAny _ _ (execs (_ :: _) _) _ _ _); walk1; (try k_fold)) | (k_end; wrow_close) | walk1 | (dsimp only; walk1) | (leave1; try dsimp only))
    all_goals (rename Fr _ _ _ _ => F5; rename News _ _ _ _ => N5)
    all_goals show KswEnd _ _ _ _ _ _ _ _ _ _ _ _
    · (rename x < _ => hq); rw [hmid] at hq F5; rw [Int.toNat_natCast] at hq
      have hb := below_hi hso hget hq
      refine' ksw_end (lo, (lo + hi) / 2, _, _) F5 N5 (fun p hp => nomatch hp) trivial ?hk ?hr ?hp ?hm
      case hk => kst_all
      case hr => (intro z h2 h3; (have hz0 : z ≠ Str.ofString "lo" := h2 _ (.head _)); (have hz1 : z ≠ Str.ofString "hi" := h2 _ (.tail _ (.head _))); (have hs0 : z ≠ Str.ofString "mid" := by rintro rfl; exact absurd h3 (by decide)); simp only [kstB, h3, if_neg hz0, if_neg hz1, if_neg hs0, Bool.false_eq_true, if_false])
      case hp => exact ⟨hc1, hb, by dsimp only; omega⟩
      case hm => first | exact mid_a (by assumption) | exact mid_b (by assumption) | (dsimp only; omega)
    · (rename ¬ x < _ => hq); rw [hmid] at hq F5; rw [Int.toNat_natCast] at hq
      have hb := below_lo hso hget (Int.not_lt.mp hq)
      refine' ksw_end ((lo + hi) / 2 + 1, hi, _, _) F5 N5 (fun p hp => nomatch hp) trivial ?hk ?hr ?hp ?hm
      case hk => kst_all
      case hr => (intro z h2 h3; (have hz0 : z ≠ Str.ofString "lo" := h2 _ (.head _)); (have hz1 : z ≠ Str.ofString "hi" := h2 _ (.tail _ (.head _))); (have hs0 : z ≠ Str.ofString "mid" := by rintro rfl; exact absurd h3 (by decide)); simp only [kstB, h3, if_neg hz0, if_neg hz1, if_neg hs0, Bool.false_eq_true, if_false])
      case hp => exact ⟨hb, hc2, hc3⟩
      case hm => first | exact mid_a (by assumption) | exact mid_b (by assumption) | (dsimp only; omega)
  case done =>
    refine all_1_1_1_1 ?_; intro lo hi t1 t2 u h tk hc ht F2 N2
    have hc1 := hc.1; have hc2 := hc.2.1; have hc3 := hc.2.2; clear hc
    dsimp only at hc1 hc2 hc3 F2 N2 ht
    clear F1 N1
    have ht' : ¬ lo < hi := by simpa using ht
    repeat' ((fail_if_success (with_reducible show wpAny _ _ (exec (Stmt.While _ _ _ _) _) _ _ _)); (fail_if_success (with_reducible show wpAny _ _ (exec (Stmt.For _ _ _ _ _) _) _ _ _)); (fail_if_success (with_reducible show KswEnd _ _ _ _ _ _ _ _ _ _ _ _)); (fail_if_success (with_reducible show FcEnd _ _ _ _ _ _ _ _ _ _)); (fail_if_success (with_reducible show CutEnd _ _ _ _ _ _ _ _ _)); first | (k_unfold; (try dsimp only)) | ((with_reducible show wpAny _ _ (execs (_ :: _) _) _ _ _); walk1; (try k_fold)) | (k_end; wrow_close) | walk1 | (dsimp only; walk1) | (leave1; try dsimp only))
    have e : lo = below ns x := by omega
    subst e
    exact ret _ _ _ (by assumption) (by assumption)
end Mine
end PartT8
section PartT10
open PySem PySem.W PyProof.Rows PySem.Spec PySem.Calls
namespace Mine
/-- what a key's call gives, in any frame, over the part P of the ledger -/
noncomputable def KeyOk (w : World) (p : Program) (loose : List Str) (mean : ExcName → Option Value) (mg mb : Str → Option Value) (P : List (Addr × Obj)) (f : Addr) (n : Nat) (key : Nat → Nat) : Prop :=
  ∀ (dp un : Nat) (gd : Option (List Code)) (cn : Str) (cs : Scope) (a : Addr) (ccd : Value) (cl : List (Str × Addr)) (outer : List Env) (A₀ : Around) (base h₀ : Heap) (L : Addr) (m : Str → Option Value) (s : Shared) (Q E : Value → Shared → Prop) (k : Nat) (tk : Tok),
    k < n → Below A₀ base outer h₀ → Fr h₀ L s.heap m → (K2 w.params).In h₀ → News h₀ L s.heap P → Top p loose mean mg mb h₀ → cs.kind = .function → dp + 3 < recursionLimit → un + 24 < cLine →
    (∀ t h' tk', Fr h₀ L h' m → News h₀ L h' P → Q (.int ((key k : Nat) : Int) t) { s with heap := h', toks := tk' }) →
    wpAny (model PySem.Challenge.rw_pu0036_01.row.prog w) (ktrTop dp un gd cn cs L a ccd cl outer) (call (.ref f) [.int (k : Int) tk]) Q E s
local macro_rules | `(tactic| walk_at "callWith ref") => `(tactic| (k_here; (refine' callWith_F ?k1 ?_; (case k1 => exact FnAt.of (by assumption) (by assumption)))))
local macro_rules | `(tactic| walk_at "FnAt") => `(tactic| (exact FnAt.of (by assumption) (by assumption)))
set_option maxRecDepth 100000 in
set_option maxHeartbeats 8000000 in
theorem bisl_ok {w : World} {p : Program} {loose : List Str} {mean : ExcName → Option Value} {mg mb : Str → Option Value} {dp un : Nat} {gd : Option (List Code)} {cn : Str} {cs : Scope} {a : Addr} {ccd : Value} {cl : List (Str × Addr)} {outer : List Env} {A₀ : Around} {base h₀ : Heap} {L : Addr} {m : Str → Option Value} {news : List (Addr × Obj)} {s : Shared} {Q E : Value → Shared → Prop}
    {l f : Addr} {oc : Value} {od : Option Addr} {fd : FuncData} {sl : Array (Option Value)} {P : List (Addr × Obj)} {vs : List Value} {n r : Nat} {key : Nat → Nat} {tx : Tok}
    (B : Below A₀ base outer h₀) (F : Fr h₀ L s.heap m) (X : (K2 w.params).In h₀) (N : News h₀ L s.heap news) (T : Top p loose mean mg mb h₀) (hk : cs.kind = .function) (hdp : dp + 6 < recursionLimit) (hun : un + 60 < cLine)
    (hl : s.heap.IsList l vs.toArray) (hns : IntsAre vs (zs (List.range n))) (hlP : l ∉ P.map (·.1)) (hP : ∀ q ∈ P, q ∈ news) (hn : n ≤ 16) (hr : r ≤ n) (hlo : ∀ k, k < r → key k = 0) (hhi : ∀ k, r ≤ k → k < n → key k = 1) (hfo : (f, (⟨oc, od, .func fd, sl⟩ : Obj)) ∈ P) (hkey : KeyOk w p loose mean mg mb P f n key)
    (ret : ∀ t h' tk', Fr h₀ L h' m → News h₀ L h' news → Q (.int ((r : Nat)) t) { s with heap := h', toks := tk' }) :
    wpAny (model PySem.Challenge.rw_pu0036_01.row.prog w) (ktrTop dp un gd cn cs L a ccd cl outer) (call (.ref 60) [.ref l, .int 1 tx] [(Str.ofString "key", .ref f)]) Q E s := by
  w_top off
  revert X
  k_fill
  intro X
  refine wpAny_call ?_
  k_dflt (refine' codePass (P := P) (rest := less (P.map (·.1)) news) B F X N T hP (fun q hq => ⟨((Minus.less (P.map (·.1)) news).spec q hq).1, fun hm => ((Minus.less (P.map (·.1)) news).spec q hq).2 _ hm rfl⟩) ?kA ?kF ?kK ?k6 ?k7 ?k8 ?k9 ?kB ?_ ?c2 ?c3 ?c4 ?c5; (case kA => exact rfl); (case kF => exact rfl); (case kK => assumption); (case k6 => k_is); (case k7 => k_is); (case k8 => ktr_room); (case k9 => first | exact BindsTo.of_eq rfl | exact binds_K (by k_in) rfl (by k_is) rfl rfl rfl | (refine' kp_binds ?kx ?ke; (case kx => k_in); (case ke => exact fun _ => rfl))); (case c5 => decide); (case kB => exact locs rfl); (case c2 => exact rfl); (case c3 => exact rfl); (case c4 => exact rfl); k_whole; intro g' L' h' hkeep' F' N' B' X' T' lP'; (try k_lt lP'); (try dsimp only); (try k_fold))
  have hl' : g'.IsList l vs.toArray := by
    obtain ⟨o, ho, hr'⟩ := hl
    exact ⟨o, hkeep' l o ho hlP, hr'⟩
  have hvl : vs.length = (zs (List.range n)).length := hns.length
  have hzl : (zs (List.range n)).length = n := by rw [zs_len, List.length_range]
  repeat' ((fail_if_success (with_reducible show wpAny _ _ (exec (Stmt.While _ _ _ _) _) _ _ _)); (fail_if_success (with_reducible show wpAny _ _ (exec (Stmt.For _ _ _ _ _) _) _ _ _)); (fail_if_success (with_reducible show KswEnd _ _ _ _ _ _ _ _ _ _ _ _)); (fail_if_success (with_reducible show FcEnd _ _ _ _ _ _ _ _ _ _)); (fail_if_success (with_reducible show CutEnd _ _ _ _ _ _ _ _ _)); first | (k_unfold; (try dsimp only)) | ((with_reducible show wpAny _ _ (execs (_ :: _) _) _ _ _); walk1; (try k_fold)) | (k_end; wrow_close) | walk1 | (dsimp only; walk1) | (leave1; try dsimp only))
  (rename Fr _ _ _ _ => F1); (rename News _ _ _ _ => N1)
  rw [hzl] at F1
  refine' whileCut (σ := Nat × Nat × Tok × Tok) (fun _ => P) (fun c => [(Str.ofString "lo", .int (c.1 : Int) c.2.2.1), (Str.ofString "hi", .int (c.2.1 : Int) c.2.2.2)]) [Str.ofString "mid"] (fun c => c.1 ≤ r ∧ r ≤ c.2.1 ∧ c.2.1 ≤ n) (fun c => c.2.1 - c.1) (fun c => decide (c.1 < c.2.1)) (0, n, _, _) F1 N1 ?hk ?hp ?test ?turn ?done (by passes_own)
  case hk => kst_all
  case hp => exact ⟨Nat.zero_le _, by dsimp only; omega, by dsimp only; omega⟩
  case test =>
    refine all_1_1_1_1 ?_; intro lo hi t1 t2 u h tk hc F2 N2
    have hc1 := hc.1; have hc2 := hc.2.1; have hc3 := hc.2.2; clear hc
    dsimp only at hc1 hc2 hc3 F2 N2
    clear F1 N1
    repeat' ((fail_if_success (with_reducible show wpAny _ _ (exec (Stmt.While _ _ _ _) _) _ _ _)); (fail_if_success (with_reducible show wpAny _ _ (exec (Stmt.For _ _ _ _ _) _) _ _ _)); (fail_if_success (with_reducible show KswEnd _ _ _ _ _ _ _ _ _ _ _ _)); (fail_if_success (with_reducible show FcEnd _ _ _ _ _ _ _ _ _ _)); (fail_if_success (with_reducible show CutEnd _ _ _ _ _ _ _ _ _)); first | (k_unfold; (try dsimp only)) | ((with_reducible show wpAny _ _ (execs (_ :: _) _) _ _ _); walk1; (try k_fold)) | (k_end; wrow_close) | walk1 | (dsimp only; walk1) | (leave1; try dsimp only))
    all_goals refine TestEnd.intro (by assumption) (by assumption) (fun p hp => hp) (by dsimp only; exact decide_eq_decide.mpr (by omega))
  case turn =>
    refine all_1_1_1_1 ?_; intro lo hi t1 t2 u h tk hc ht F2 N2
    have hc1 := hc.1; have hc2 := hc.2.1; have hc3 := hc.2.2; clear hc
    dsimp only at hc1 hc2 hc3 F2 N2 ht
    clear F1 N1
    have ht' : lo < hi := by simpa using ht
    have hmid : ((lo : Int) + hi).fdiv 2 = (((lo + hi) / 2 : Nat) : Int) := mid_f lo hi
    repeat' ((fail_if_success (with_reducible show wpAny _ _ (call (Value.ref _) _) _ _ _)); (fail_if_success (with_reducible show wpAny _ _ (exec (Stmt.While _ _ _ _) _) _ _ _)); (fail_if_success (with_reducible show wpAny _ _ (exec (Stmt.For _ _ _ _ _) _) _ _ _)); (fail_if_success (with_reducible show KswEnd _ _ _ _ _ _ _ _ _ _ _ _)); (fail_if_success (with_reducible show FcEnd _ _ _ _ _ _ _ _ _ _)); (fail_if_success (with_reducible show CutEnd _ _ _ _ _ _ _ _ _)); first | (k_unfold; (try dsimp only)) | ((with_reducible show wpAny _ _ (execs (_ :: _) _) _ _ _); walk1; (try k_fold)) | (k_end; wrow_close) | walk1 | (dsimp only; walk1) | (leave1; try dsimp only))
    (rename Fr _ _ _ _ => F5); (rename News _ _ _ _ => N5)
    rw [hmid] at F5 ⊢
    have hgx : (zs (List.range n)).getD ((lo + hi) / 2) 0 = (((lo + hi) / 2 : Nat) : Int) := by
      unfold zs
      rw [List.getD_eq_getElem?_getD, List.getElem?_map, List.getElem?_range (by omega)]
      rfl
    rw [Int.toNat_natCast, hgx]
    clear hmid
    refine hkey _ _ _ _ _ _ _ _ _ _ _ _ _ _ _ _ _ ((lo + hi) / 2) _ (by omega) (by k_asm) (by k_asm) (by k_asm) (by k_asm) (by k_asm) (by first | exact rfl | assumption) (by ktr_room) (by ktr_units) ?_
    intro t9 h9 tk9 F9 N9
    clear F5 N5
    by_cases hmr : (lo + hi) / 2 < r
    · rw [hlo _ hmr]
      repeat' ((fail_if_success (with_reducible show wpAny _ _ (exec (Stmt.While _ _ _ _) _) _ _ _)); (fail_if_success (with_reducible show wpAny _ _ (exec (Stmt.For _ _ _ _ _) _) _ _ _)); (fail_if_success (with_reducible show KswEnd _ _ _ _ _ _ _ _ _ _ _ _)); (fail_if_success (with_reducible show FcEnd _ _ _ _ _ _ _ _ _ _)); (fail_if_success (with_reducible show CutEnd _ _ _ _ _ _ _ _ _)); first | (k_unfold; (try dsimp only)) | ((with_reducible show wpAny _ _ (execs (_ :: _) _) _ _ _); walk1; (try k_fold)) | (k_end; wrow_close) | walk1 | (dsimp only; walk1) | (leave1; try dsimp only))
      (rename Fr _ _ _ _ => F5); (rename News _ _ _ _ => N5)
      show KswEnd _ _ _ _ _ _ _ _ _ _ _ _
      refine' ksw_end ((lo + hi) / 2 + 1, hi, _, _) F5 N5 (fun p hp => hp) trivial ?hk ?hr ?hp ?hm
      case hk => kst_all
      case hr => (intro z h2 h3; (have hz0 : z ≠ Str.ofString "lo" := h2 _ (.head _)); (have hz1 : z ≠ Str.ofString "hi" := h2 _ (.tail _ (.head _))); (have hs0 : z ≠ Str.ofString "mid" := by rintro rfl; exact absurd h3 (by decide)); simp only [kstB, h3, if_neg hz0, if_neg hz1, if_neg hs0, Bool.false_eq_true, if_false])
      case hp => exact ⟨hmr, hc2, hc3⟩
      case hm => first | exact mid_a (by assumption) | exact mid_b (by assumption) | (dsimp only; omega)
    · rw [hhi _ (by omega) (by omega)]
      repeat' ((fail_if_success (with_reducible show wpAny _ _ (exec (Stmt.While _ _ _ _) _) _ _ _)); (fail_if_success (with_reducible show wpAny _ _ (exec (Stmt.For _ _ _ _ _) _) _ _ _)); (fail_if_success (with_reducible show KswEnd _ _ _ _ _ _ _ _ _ _ _ _)); (fail_if_success (with_reducible show FcEnd _ _ _ _ _ _ _ _ _ _)); (fail_if_success (with_reducible show CutEnd _ _ _ _ _ _ _ _ _)); first | (k_unfold; (try dsimp only)) | ((with_reducible show wpAny _ _ (execs (_ :: _) _) _ _ _); walk1; (try k_fold)) | (k_end; wrow_close) | walk1 | (dsimp only; walk1) | (leave1; try dsimp only))
      (rename Fr _ _ _ _ => F5); (rename News _ _ _ _ => N5)
      show KswEnd _ _ _ _ _ _ _ _ _ _ _ _
      refine' ksw_end (lo, (lo + hi) / 2, _, _) F5 N5 (fun p hp => hp) trivial ?hk ?hr ?hp ?hm
      case hk => kst_all
      case hr => (intro z h2 h3; (have hz0 : z ≠ Str.ofString "lo" := h2 _ (.head _)); (have hz1 : z ≠ Str.ofString "hi" := h2 _ (.tail _ (.head _))); (have hs0 : z ≠ Str.ofString "mid" := by rintro rfl; exact absurd h3 (by decide)); simp only [kstB, h3, if_neg hz0, if_neg hz1, if_neg hs0, Bool.false_eq_true, if_false])
      case hp => exact ⟨hc1, by dsimp only; omega, by dsimp only; omega⟩
      case hm => first | exact mid_a (by assumption) | exact mid_b (by assumption) | (dsimp only; omega)
  case done =>
    refine all_1_1_1_1 ?_; intro lo hi t1 t2 u h tk hc ht F2 N2
    have hc1 := hc.1; have hc2 := hc.2.1; have hc3 := hc.2.2; clear hc
    dsimp only at hc1 hc2 hc3 F2 N2 ht
    clear F1 N1
    have ht' : ¬ lo < hi := by simpa using ht
    repeat' ((fail_if_success (with_reducible show wpAny _ _ (exec (Stmt.While _ _ _ _) _) _ _ _)); (fail_if_success (with_reducible show wpAny _ _ (exec (Stmt.For _ _ _ _ _) _) _ _ _)); (fail_if_success (with_reducible show KswEnd _ _ _ _ _ _ _ _ _ _ _ _)); (fail_if_success (with_reducible show FcEnd _ _ _ _ _ _ _ _ _ _)); (fail_if_success (with_reducible show CutEnd _ _ _ _ _ _ _ _ _)); first | (k_unfold; (try dsimp only)) | ((with_reducible show wpAny _ _ (execs (_ :: _) _) _ _ _); walk1; (try k_fold)) | (k_end; wrow_close) | walk1 | (dsimp only; walk1) | (leave1; try dsimp only))
    have e : lo = r := by omega
    subst e
    exact ret _ _ _ (by assumption) (news_back N hP (newsApp (by assumption) (by assumption)))
end Mine
end PartT10
section PartT3
open PySem PySem.W PyProof.Rows PySem.Spec PySem.Calls
namespace Mine
set_option maxRecDepth 100000 in
set_option maxHeartbeats 8000000 in
theorem lev_ok {w : World} {p : Program} {loose : List Str} {mean : ExcName → Option Value} {mg mb : Str → Option Value} {dp un : Nat} {gd : Option (List Code)} {cn : Str} {cs : Scope} {a : Addr} {ccd : Value} {cl : List (Str × Addr)} {outer : List Env} {A₀ : Around} {base h₀ : Heap} {L : Addr} {m : Str → Option Value} {news : List (Addr × Obj)} {s : Shared} {Q E : Value → Shared → Prop}
    {la lb : List Nat} {mc : Int} {tx ty tm : Tok}
    (B : Below A₀ base outer h₀) (F : Fr h₀ L s.heap m) (X : (K2 w.params).In h₀) (N : News h₀ L s.heap news) (T : Top p loose mean mg mb h₀) (hk : cs.kind = .function) (hdp : dp + 3 < recursionLimit) (hun : un + 24 < cLine)
    (hx : la.length ≤ 40) (hy : lb.length ≤ 40)
    (ret : ∀ t h' tk', Fr h₀ L h' m → News h₀ L h' news → Q (.int (lev cost1 la lb mc) t) { s with heap := h', toks := tk' }) :
    wpAny (model PySem.Challenge.rw_pu0036_01.row.prog w) (ktrTop dp un gd cn cs L a ccd cl outer) (call (.ref 28) [.str (S la) tx, .str (S lb) ty, .int mc tm]) Q E s := by
  w_top off
  revert X
  k_fill
  intro X
  refine wpAny_call ?_
  k_dflt (refine' codePass (P := []) (rest := news) B F X N T (fun q hq => nomatch hq) (fun q hq => ⟨hq, by simp⟩) ?kA ?kF ?kK ?k6 ?k7 ?k8 ?k9 ?kB ?_ ?c2 ?c3 ?c4 ?c5; (case kA => exact rfl); (case kF => exact rfl); (case kK => assumption); (case k6 => k_is); (case k7 => k_is); (case k8 => ktr_room); (case k9 => first | exact BindsTo.of_eq rfl | exact binds_K (by k_in) rfl (by k_is) rfl rfl rfl | (refine' kp_binds ?kx ?ke; (case kx => k_in); (case ke => exact fun _ => rfl))); (case c5 => decide); (case kB => exact locs rfl); (case c2 => exact rfl); (case c3 => exact rfl); (case c4 => exact rfl); k_whole; intro g' L' h' hkeep' F' N' B' X' T' lP'; (try k_lt lP'); (try dsimp only); (try k_fold))
  have hx' : (S la).length ≤ 40 := by rw [S_len]; exact hx
  have hy' : (S lb).length ≤ 40 := by rw [S_len]; exact hy
  repeat' ((fail_if_success (with_reducible show wpAny _ _ (exec (Stmt.While _ _ _ _) _) _ _ _)); (fail_if_success (with_reducible show wpAny _ _ (exec (Stmt.For _ _ _ _ _) _) _ _ _)); (fail_if_success (with_reducible show KswEnd _ _ _ _ _ _ _ _ _ _ _ _)); (fail_if_success (with_reducible show FcEnd _ _ _ _ _ _ _ _ _ _)); (fail_if_success (with_reducible show CutEnd _ _ _ _ _ _ _ _ _)); first | (k_unfold; (try dsimp only)) | ((with_reducible show wpAny _ _ (execs (_ :: _) _) _ _ _); walk1; (try k_fold)) | (k_end; wrow_close) | ((first | ((with_reducible show wpAny _ _ (subscriptTail _ (Expr.Slice none (some _) none _) _ _) _ _ _); (with_reducible rename Fr _ _ _ _ => F'); (with_reducible rename News _ _ _ _ => N'); refine slice_strN_nn_len (s := ⟨_, _, _, _, _⟩) F' N' ?_; intro _ _ _ _ _ _) | walk1); (all_goals (try ((with_reducible rename ((_ → _ → _) ∧ (_ → _)) => hx7); clear hx7)))) | (dsimp only; (first | ((with_reducible show wpAny _ _ (subscriptTail _ (Expr.Slice none (some _) none _) _ _) _ _ _); (with_reducible rename Fr _ _ _ _ => F'); (with_reducible rename News _ _ _ _ => N'); refine slice_strN_nn_len (s := ⟨_, _, _, _, _⟩) F' N' ?_; intro _ _ _ _ _ _) | walk1); (all_goals (try ((with_reducible rename ((_ → _ → _) ∧ (_ → _)) => hx7); clear hx7)))) | (leave1; try dsimp only))
  · refine cb_retI ret ?_ (by assumption) (by assumption)
    have hq : la = lb := by rw [← beq_iff_eq (α := List Nat), ← S_beq]; assumption
    rw [lev, if_pos hq]
  · (rename Fr _ _ _ _ => F1); (rename News _ _ _ _ => N1)
    have hne : la ≠ lb := by rw [← beq_eq_false_iff_ne, ← S_beq]; assumption
    refine' whileCut (σ := Nat × Tok) (fun _ => []) (fun c => [(Str.ofString "pre", .int (c.1 : Int) c.2)]) [] (fun c => c.1 ≤ la.length ∧ c.1 ≤ lb.length ∧ cpl la lb = c.1 + cpl (la.drop c.1) (lb.drop c.1)) (fun c => la.length - c.1) (fun c => decide (0 < cpl (la.drop c.1) (lb.drop c.1))) (0, _) F1 N1 ?hk ?hp ?test ?turn ?done (by passes_own)
    case hk => exact fmem ((if_pos rfl).trans (by rfl)) (List.forall_mem_nil _)
    case hp => simp
    case test =>
      intro c u h tk hc F2 N2
      have hc1 := hc.1; have hc2 := hc.2.1; have hc3 := hc.2.2; clear hc
      clear F1 N1
      repeat' ((fail_if_success (with_reducible show wpAny _ _ (exec (Stmt.While _ _ _ _) _) _ _ _)); (fail_if_success (with_reducible show wpAny _ _ (exec (Stmt.For _ _ _ _ _) _) _ _ _)); (fail_if_success (with_reducible show KswEnd _ _ _ _ _ _ _ _ _ _ _ _)); (fail_if_success (with_reducible show FcEnd _ _ _ _ _ _ _ _ _ _)); (fail_if_success (with_reducible show CutEnd _ _ _ _ _ _ _ _ _)); first | (k_unfold; (try dsimp only)) | ((with_reducible show wpAny _ _ (execs (_ :: _) _) _ _ _); walk1; (try k_fold)) | (k_end; wrow_close) | ((first | ((with_reducible show wpAny _ _ (subscriptTail _ (Expr.Slice none (some _) none _) _ _) _ _ _); (with_reducible rename Fr _ _ _ _ => F'); (with_reducible rename News _ _ _ _ => N'); refine slice_strN_nn_len (s := ⟨_, _, _, _, _⟩) F' N' ?_; intro _ _ _ _ _ _) | walk1); skip) | (dsimp only; (first | ((with_reducible show wpAny _ _ (subscriptTail _ (Expr.Slice none (some _) none _) _ _) _ _ _); (with_reducible rename Fr _ _ _ _ => F'); (with_reducible rename News _ _ _ _ => N'); refine slice_strN_nn_len (s := ⟨_, _, _, _, _⟩) F' N' ?_; intro _ _ _ _ _ _) | walk1); skip) | (leave1; try dsimp only))
      all_goals refine TestEnd.intro (by assumption) (by assumption) (fun p hp => nomatch hp) ?_
      all_goals first | exact tst1_t hc1 hc2 (by assumption) (by assumption) (by assumption) | exact tst1_a hc1 hc2 (by assumption) | exact tst1_b hc1 hc2 (by assumption) | exact tst1_e hc1 hc2 (by assumption)
    case turn =>
      intro c u h tk hc ht F2 N2
      have hc1 := hc.1; have hc2 := hc.2.1; have hc3 := hc.2.2; clear hc
      clear F1 N1
      repeat' ((fail_if_success (with_reducible show wpAny _ _ (exec (Stmt.While _ _ _ _) _) _ _ _)); (fail_if_success (with_reducible show wpAny _ _ (exec (Stmt.For _ _ _ _ _) _) _ _ _)); (fail_if_success (with_reducible show KswEnd _ _ _ _ _ _ _ _ _ _ _ _)); (fail_if_success (with_reducible show FcEnd _ _ _ _ _ _ _ _ _ _)); (fail_if_success (with_reducible show CutEnd _ _ _ _ _ _ _ _ _)); first | (k_unfold; (try dsimp only)) | ((with_reducible show wpAny _ _ (execs (_ :: _) _) _ _ _); walk1; (try k_fold)) | (k_end; wrow_close) | ((first | ((with_reducible show wpAny _ _ (subscriptTail _ (Expr.Slice none (some _) none _) _ _) _ _ _); (with_reducible rename Fr _ _ _ _ => F'); (with_reducible rename News _ _ _ _ => N'); refine slice_strN_nn_len (s := ⟨_, _, _, _, _⟩) F' N' ?_; intro _ _ _ _ _ _) | walk1); (all_goals (try ((with_reducible rename ((_ → _ → _) ∧ (_ → _)) => hx7); clear hx7)))) | (dsimp only; (first | ((with_reducible show wpAny _ _ (subscriptTail _ (Expr.Slice none (some _) none _) _ _) _ _ _); (with_reducible rename Fr _ _ _ _ => F'); (with_reducible rename News _ _ _ _ => N'); refine slice_strN_nn_len (s := ⟨_, _, _, _, _⟩) F' N' ?_; intro _ _ _ _ _ _) | walk1); (all_goals (try ((with_reducible rename ((_ → _ → _) ∧ (_ → _)) => hx7); clear hx7)))) | (leave1; try dsimp only))
      have ht' := of_decide_eq_true ht
      have hlt := cpl_pos.mp ht'
      refine' ksw_end (c.1 + 1, _) (by assumption) (by assumption) (fun p hp => nomatch hp) trivial ?hk ?hr ?hp ?hm
      case hk => exact fmem ((if_pos rfl).trans (by rfl)) (List.forall_mem_nil _)
      case hr => (intro z h2 h3; (have hz0 : z ≠ Str.ofString "pre" := h2 _ (.head _)); simp only [kstB, h3, if_neg hz0, Bool.false_eq_true, if_false])
      case hp => exact ⟨hlt.1, hlt.2.1, cpl_step hc3 ht'⟩
      case hm => dsimp only; omega
    case done => 
      intro c u h tk hc ht F2 N2
      have hc1 := hc.1; have hc2 := hc.2.1; have hc3 := hc.2.2; clear hc
      clear F1 N1
      repeat' ((fail_if_success (with_reducible show wpAny _ _ (exec (Stmt.While _ _ _ _) _) _ _ _)); (fail_if_success (with_reducible show wpAny _ _ (exec (Stmt.For _ _ _ _ _) _) _ _ _)); (fail_if_success (with_reducible show KswEnd _ _ _ _ _ _ _ _ _ _ _ _)); (fail_if_success (with_reducible show FcEnd _ _ _ _ _ _ _ _ _ _)); (fail_if_success (with_reducible show CutEnd _ _ _ _ _ _ _ _ _)); first | (k_unfold; (try dsimp only)) | ((with_reducible show wpAny _ _ (execs (_ :: _) _) _ _ _); walk1; (try k_fold)) | (k_end; wrow_close) | ((first | ((with_reducible show wpAny _ _ (subscriptTail _ (Expr.Slice none (some _) none _) _ _) _ _ _); (with_reducible rename Fr _ _ _ _ => F'); (with_reducible rename News _ _ _ _ => N'); refine slice_strN_nn_len (s := ⟨_, _, _, _, _⟩) F' N' ?_; intro _ _ _ _ _ _) | walk1); (all_goals (try ((with_reducible rename ((_ → _ → _) ∧ (_ → _)) => hx7); clear hx7)))) | (dsimp only; (first | ((with_reducible show wpAny _ _ (subscriptTail _ (Expr.Slice none (some _) none _) _ _) _ _ _); (with_reducible rename Fr _ _ _ _ => F'); (with_reducible rename News _ _ _ _ => N'); refine slice_strN_nn_len (s := ⟨_, _, _, _, _⟩) F' N' ?_; intro _ _ _ _ _ _) | walk1); (all_goals (try ((with_reducible rename ((_ → _ → _) ∧ (_ → _)) => hx7); clear hx7)))) | (leave1; try dsimp only))
      have hk : cpl la lb = c.1 := by have := of_decide_eq_false ht; omega
      (rename Fr _ _ _ _ => F3); (rename News _ _ _ _ => N3)
      rw [slice_from hc1, slice_from hc2] at F3
      generalize hla1 : la.drop c.1 = la1 at F3
      generalize hlb1 : lb.drop c.1 = lb1 at F3
      have hl1 : (S la1).length = la1.length := S_len _
      have hl2 : (S lb1).length = lb1.length := S_len _
      have hx1 : la1.length ≤ 40 := by rw [← hla1, List.length_drop]; omega
      have hy1 : lb1.length ≤ 40 := by rw [← hlb1, List.length_drop]; omega
      refine' whileCut (σ := Nat × Tok) (fun _ => []) (fun c => [(Str.ofString "post", .int (-(c.1 : Int)) c.2)]) [] (fun c => c.1 ≤ la1.length ∧ c.1 ≤ lb1.length ∧ cpl la1.reverse lb1.reverse = c.1 + cpl (la1.reverse.drop c.1) (lb1.reverse.drop c.1)) (fun c => la1.length - c.1) (fun c => decide (0 < cpl (la1.reverse.drop c.1) (lb1.reverse.drop c.1))) (0, _) F3 N3 ?hk ?hp ?test ?turn ?done (by passes_own)
      case hk => exact fmem ((if_pos rfl).trans (by rfl)) (List.forall_mem_nil _)
      case hp => simp
      case test =>
        intro c u h tk hc F4 N4
        have hd1 := hc.1; have hd2 := hc.2.1; have hd3 := hc.2.2; clear hc
        clear F3 N3
        by_cases hz : c.1 = 0
        · have hz' : ¬ (-(c.1 : Int) ≠ 0) := by omega
          have e1 : (Txt.slice (S la1) none none).length = la1.length := by rw [slice_all, S_len]
          have e2 : (Txt.slice (S lb1) none none).length = lb1.length := by rw [slice_all, S_len]
          repeat' ((fail_if_success (with_reducible show wpAny _ _ (exec (Stmt.While _ _ _ _) _) _ _ _)); (fail_if_success (with_reducible show wpAny _ _ (exec (Stmt.For _ _ _ _ _) _) _ _ _)); (fail_if_success (with_reducible show KswEnd _ _ _ _ _ _ _ _ _ _ _ _)); (fail_if_success (with_reducible show FcEnd _ _ _ _ _ _ _ _ _ _)); (fail_if_success (with_reducible show CutEnd _ _ _ _ _ _ _ _ _)); first | (k_unfold; (try dsimp only)) | ((with_reducible show wpAny _ _ (execs (_ :: _) _) _ _ _); walk1; (try k_fold)) | (k_end; wrow_close) | ((first | ((with_reducible show wpAny _ _ (subscriptTail _ (Expr.Slice none (some _) none _) _ _) _ _ _); (with_reducible rename Fr _ _ _ _ => F'); (with_reducible rename News _ _ _ _ => N'); refine slice_strN_nn_len (s := ⟨_, _, _, _, _⟩) F' N' ?_; intro _ _ _ _ _ _) | walk1); (all_goals (try ((with_reducible rename ((_ → _ → _) ∧ (_ → _)) => hx7); clear hx7)))) | (dsimp only; (first | ((with_reducible show wpAny _ _ (subscriptTail _ (Expr.Slice none (some _) none _) _ _) _ _ _); (with_reducible rename Fr _ _ _ _ => F'); (with_reducible rename News _ _ _ _ => N'); refine slice_strN_nn_len (s := ⟨_, _, _, _, _⟩) F' N' ?_; intro _ _ _ _ _ _) | walk1); (all_goals (try ((with_reducible rename ((_ → _ → _) ∧ (_ → _)) => hx7); clear hx7)))) | (leave1; try dsimp only))
          all_goals (try (refine TestEnd.intro (by assumption) (by assumption) (fun p hp => nomatch hp) ?_; first | exact tst2_t hd1 hd2 (by omega) (by omega) (by assumption) | exact tst2_e hd1 hd2 (by omega) (by omega) (by assumption) | exact tst2_f hd1 hd2 (by omega)))
          all_goals (exfalso; omega)
        · have hz' : -(c.1 : Int) ≠ 0 := by omega
          have e1 : (Txt.slice (S la1) none (some (-(c.1 : Int)))).length = la1.length - c.1 := by rw [slice_cut hd1 (by omega), S_len, List.length_take]; omega
          have e2 : (Txt.slice (S lb1) none (some (-(c.1 : Int)))).length = lb1.length - c.1 := by rw [slice_cut hd2 (by omega), S_len, List.length_take]; omega
          repeat' ((fail_if_success (with_reducible show wpAny _ _ (exec (Stmt.While _ _ _ _) _) _ _ _)); (fail_if_success (with_reducible show wpAny _ _ (exec (Stmt.For _ _ _ _ _) _) _ _ _)); (fail_if_success (with_reducible show KswEnd _ _ _ _ _ _ _ _ _ _ _ _)); (fail_if_success (with_reducible show FcEnd _ _ _ _ _ _ _ _ _ _)); (fail_if_success (with_reducible show CutEnd _ _ _ _ _ _ _ _ _)); first | (k_unfold; (try dsimp only)) | ((with_reducible show wpAny _ _ (execs (_ :: _) _) _ _ _); walk1; (try k_fold)) | (k_end; wrow_close) | ((first | ((with_reducible show wpAny _ _ (subscriptTail _ (Expr.Slice none (some _) none _) _ _) _ _ _); (with_reducible rename Fr _ _ _ _ => F'); (with_reducible rename News _ _ _ _ => N'); refine slice_strN_nn_len (s := ⟨_, _, _, _, _⟩) F' N' ?_; intro _ _ _ _ _ _) | walk1); (all_goals (try ((with_reducible rename ((_ → _ → _) ∧ (_ → _)) => hx7); clear hx7)))) | (dsimp only; (first | ((with_reducible show wpAny _ _ (subscriptTail _ (Expr.Slice none (some _) none _) _ _) _ _ _); (with_reducible rename Fr _ _ _ _ => F'); (with_reducible rename News _ _ _ _ => N'); refine slice_strN_nn_len (s := ⟨_, _, _, _, _⟩) F' N' ?_; intro _ _ _ _ _ _) | walk1); (all_goals (try ((with_reducible rename ((_ → _ → _) ∧ (_ → _)) => hx7); clear hx7)))) | (leave1; try dsimp only))
          all_goals (try (refine TestEnd.intro (by assumption) (by assumption) (fun p hp => nomatch hp) ?_; first | exact tst2_t hd1 hd2 (by omega) (by omega) (by assumption) | exact tst2_e hd1 hd2 (by omega) (by omega) (by assumption) | exact tst2_f hd1 hd2 (by omega)))
          all_goals (exfalso; omega)
      case turn =>
        intro c u h tk hc ht F4 N4
        have hd1 := hc.1; have hd2 := hc.2.1; have hd3 := hc.2.2; clear hc
        clear F3 N3
        repeat' ((fail_if_success (with_reducible show wpAny _ _ (exec (Stmt.While _ _ _ _) _) _ _ _)); (fail_if_success (with_reducible show wpAny _ _ (exec (Stmt.For _ _ _ _ _) _) _ _ _)); (fail_if_success (with_reducible show KswEnd _ _ _ _ _ _ _ _ _ _ _ _)); (fail_if_success (with_reducible show FcEnd _ _ _ _ _ _ _ _ _ _)); (fail_if_success (with_reducible show CutEnd _ _ _ _ _ _ _ _ _)); first | (k_unfold; (try dsimp only)) | ((with_reducible show wpAny _ _ (execs (_ :: _) _) _ _ _); walk1; (try k_fold)) | (k_end; wrow_close) | ((first | ((with_reducible show wpAny _ _ (subscriptTail _ (Expr.Slice none (some _) none _) _ _) _ _ _); (with_reducible rename Fr _ _ _ _ => F'); (with_reducible rename News _ _ _ _ => N'); refine slice_strN_nn_len (s := ⟨_, _, _, _, _⟩) F' N' ?_; intro _ _ _ _ _ _) | walk1); (all_goals (try ((with_reducible rename ((_ → _ → _) ∧ (_ → _)) => hx7); clear hx7)))) | (dsimp only; (first | ((with_reducible show wpAny _ _ (subscriptTail _ (Expr.Slice none (some _) none _) _ _) _ _ _); (with_reducible rename Fr _ _ _ _ => F'); (with_reducible rename News _ _ _ _ => N'); refine slice_strN_nn_len (s := ⟨_, _, _, _, _⟩) F' N' ?_; intro _ _ _ _ _ _) | walk1); (all_goals (try ((with_reducible rename ((_ → _ → _) ∧ (_ → _)) => hx7); clear hx7)))) | (leave1; try dsimp only))
        have ht' := of_decide_eq_true ht
        have hlt := cpl_pos.mp ht'
        simp only [List.length_reverse] at hlt
        have hq : (-(c.1 : Int) - 1) = -((c.1 + 1 : Nat) : Int) := by omega
        refine' ksw_end (c.1 + 1, _) (by assumption) (by assumption) (fun p hp => nomatch hp) trivial ?hk ?hr ?hp ?hm
        case hk => exact fmem ((if_pos rfl).trans (by show some (Value.int _ _) = some (Value.int (-((c.1 + 1 : Nat) : Int)) _); rw [← hq])) (List.forall_mem_nil _)
        case hr => (intro z h2 h3; (have hz0 : z ≠ Str.ofString "post" := h2 _ (.head _)); simp only [kstB, h3, if_neg hz0, Bool.false_eq_true, if_false])
        case hp => exact ⟨hlt.1, hlt.2.1, cpl_step hd3 ht'⟩
        case hm => dsimp only; omega
      case done =>
        intro c u h tk hc ht F4 N4
        have hd1 := hc.1; have hd2 := hc.2.1; have hd3 := hc.2.2; clear hc
        clear F3 N3
        have hj : cpl la1.reverse lb1.reverse = c.1 := by have := of_decide_eq_false ht; omega
        (try k_unfold); (try dsimp only)
        have hce : cutEnds la lb = (la1.take (la1.length - c.1), lb1.take (lb1.length - c.1)) := by
          simp only [cutEnds, hk, hla1, hlb1, hj]
        generalize hla2 : la1.take (la1.length - c.1) = la2 at hce
        generalize hlb2 : lb1.take (lb1.length - c.1) = lb2 at hce
        have hx2 : la2.length ≤ 40 := by rw [← hla2, List.length_take]; omega
        have hy2 : lb2.length ≤ 40 := by rw [← hlb2, List.length_take]; omega
        refine' stCut (σ := Tok) F4 (fun _ => []) (fun t => [(Str.ofString "a", .str (S la2) t)]) [] (fun _ => True) ?h1 ?h2
        case h1 =>
          by_cases hz : c.1 = 0
          · have hz' : ¬ (-(c.1 : Int) ≠ 0) := by omega
            repeat' ((fail_if_success (with_reducible show wpAny _ _ (exec (Stmt.While _ _ _ _) _) _ _ _)); (fail_if_success (with_reducible show wpAny _ _ (exec (Stmt.For _ _ _ _ _) _) _ _ _)); (fail_if_success (with_reducible show KswEnd _ _ _ _ _ _ _ _ _ _ _ _)); (fail_if_success (with_reducible show FcEnd _ _ _ _ _ _ _ _ _ _)); (fail_if_success (with_reducible show CutEnd _ _ _ _ _ _ _ _ _)); first | (k_unfold; (try dsimp only)) | ((with_reducible show wpAny _ _ (execs (_ :: _) _) _ _ _); walk1; (try k_fold)) | (k_end; wrow_close) | ((first | ((with_reducible show wpAny _ _ (subscriptTail _ (Expr.Slice none (some _) none _) _ _) _ _ _); (with_reducible rename Fr _ _ _ _ => F'); (with_reducible rename News _ _ _ _ => N'); refine slice_strN_nn_len (s := ⟨_, _, _, _, _⟩) F' N' ?_; intro _ _ _ _ _ _) | walk1); (all_goals (try ((with_reducible rename ((_ → _ → _) ∧ (_ → _)) => hx7); clear hx7)))) | (dsimp only; (first | ((with_reducible show wpAny _ _ (subscriptTail _ (Expr.Slice none (some _) none _) _ _) _ _ _); (with_reducible rename Fr _ _ _ _ => F'); (with_reducible rename News _ _ _ _ => N'); refine slice_strN_nn_len (s := ⟨_, _, _, _, _⟩) F' N' ?_; intro _ _ _ _ _ _) | walk1); (all_goals (try ((with_reducible rename ((_ → _ → _) ∧ (_ → _)) => hx7); clear hx7)))) | (leave1; try dsimp only))
            all_goals first | (exfalso; omega) | (refine' cutEnd _ (by assumption) (by assumption) (fun p hp => nomatch hp) ?hk ?hr trivial; (case hk => exact fmem ((if_pos rfl).trans (by show some (Value.str _ _) = some (Value.str (S la2) _); rw [← hla2, ← cutA hd1 (by omega)])) (List.forall_mem_nil _)); (case hr => (intro z h2 h3; (have hz0 : z ≠ Str.ofString "a" := h2 _ (.head _)); simp only [kstB, h3, if_neg hz0, Bool.false_eq_true, if_false])))
          · have hz' : -(c.1 : Int) ≠ 0 := by omega
            repeat' ((fail_if_success (with_reducible show wpAny _ _ (exec (Stmt.While _ _ _ _) _) _ _ _)); (fail_if_success (with_reducible show wpAny _ _ (exec (Stmt.For _ _ _ _ _) _) _ _ _)); (fail_if_success (with_reducible show KswEnd _ _ _ _ _ _ _ _ _ _ _ _)); (fail_if_success (with_reducible show FcEnd _ _ _ _ _ _ _ _ _ _)); (fail_if_success (with_reducible show CutEnd _ _ _ _ _ _ _ _ _)); first | (k_unfold; (try dsimp only)) | ((with_reducible show wpAny _ _ (execs (_ :: _) _) _ _ _); walk1; (try k_fold)) | (k_end; wrow_close) | ((first | ((with_reducible show wpAny _ _ (subscriptTail _ (Expr.Slice none (some _) none _) _ _) _ _ _); (with_reducible rename Fr _ _ _ _ => F'); (with_reducible rename News _ _ _ _ => N'); refine slice_strN_nn_len (s := ⟨_, _, _, _, _⟩) F' N' ?_; intro _ _ _ _ _ _) | walk1); (all_goals (try ((with_reducible rename ((_ → _ → _) ∧ (_ → _)) => hx7); clear hx7)))) | (dsimp only; (first | ((with_reducible show wpAny _ _ (subscriptTail _ (Expr.Slice none (some _) none _) _ _) _ _ _); (with_reducible rename Fr _ _ _ _ => F'); (with_reducible rename News _ _ _ _ => N'); refine slice_strN_nn_len (s := ⟨_, _, _, _, _⟩) F' N' ?_; intro _ _ _ _ _ _) | walk1); (all_goals (try ((with_reducible rename ((_ → _ → _) ∧ (_ → _)) => hx7); clear hx7)))) | (leave1; try dsimp only))
            all_goals first | (exfalso; omega) | (refine' cutEnd _ (by assumption) (by assumption) (fun p hp => nomatch hp) ?hk ?hr trivial; (case hk => exact fmem ((if_pos rfl).trans (by show some (Value.str _ _) = some (Value.str (S la2) _); rw [← hla2, ← cutB hd1 (by omega)])) (List.forall_mem_nil _)); (case hr => (intro z h2 h3; (have hz0 : z ≠ Str.ofString "a" := h2 _ (.head _)); simp only [kstB, h3, if_neg hz0, Bool.false_eq_true, if_false])))
        case h2 =>
        intro ta2 u2 h5 tk5 _ F5 N5
        clear F4 N4
        refine' stCut (σ := Tok) F5 (fun _ => []) (fun t => [(Str.ofString "b", .str (S lb2) t)]) [] (fun _ => True) ?h1 ?h2
        case h1 =>
          by_cases hz : c.1 = 0
          · have hz' : ¬ (-(c.1 : Int) ≠ 0) := by omega
            repeat' ((fail_if_success (with_reducible show wpAny _ _ (exec (Stmt.While _ _ _ _) _) _ _ _)); (fail_if_success (with_reducible show wpAny _ _ (exec (Stmt.For _ _ _ _ _) _) _ _ _)); (fail_if_success (with_reducible show KswEnd _ _ _ _ _ _ _ _ _ _ _ _)); (fail_if_success (with_reducible show FcEnd _ _ _ _ _ _ _ _ _ _)); (fail_if_success (with_reducible show CutEnd _ _ _ _ _ _ _ _ _)); first | (k_unfold; (try dsimp only)) | ((with_reducible show wpAny _ _ (execs (_ :: _) _) _ _ _); walk1; (try k_fold)) | (k_end; wrow_close) | ((first | ((with_reducible show wpAny _ _ (subscriptTail _ (Expr.Slice none (some _) none _) _ _) _ _ _); (with_reducible rename Fr _ _ _ _ => F'); (with_reducible rename News _ _ _ _ => N'); refine slice_strN_nn_len (s := ⟨_, _, _, _, _⟩) F' N' ?_; intro _ _ _ _ _ _) | walk1); (all_goals (try ((with_reducible rename ((_ → _ → _) ∧ (_ → _)) => hx7); clear hx7)))) | (dsimp only; (first | ((with_reducible show wpAny _ _ (subscriptTail _ (Expr.Slice none (some _) none _) _ _) _ _ _); (with_reducible rename Fr _ _ _ _ => F'); (with_reducible rename News _ _ _ _ => N'); refine slice_strN_nn_len (s := ⟨_, _, _, _, _⟩) F' N' ?_; intro _ _ _ _ _ _) | walk1); (all_goals (try ((with_reducible rename ((_ → _ → _) ∧ (_ → _)) => hx7); clear hx7)))) | (leave1; try dsimp only))
            all_goals first | (exfalso; omega) | (refine' cutEnd _ (by assumption) (by assumption) (fun p hp => nomatch hp) ?hk ?hr trivial; (case hk => exact fmem ((if_pos rfl).trans (by show some (Value.str _ _) = some (Value.str (S lb2) _); rw [← hlb2, ← cutA hd2 (by omega)])) (List.forall_mem_nil _)); (case hr => (intro z h2 h3; (have hz0 : z ≠ Str.ofString "b" := h2 _ (.head _)); simp only [kstB, h3, if_neg hz0, Bool.false_eq_true, if_false])))
          · have hz' : -(c.1 : Int) ≠ 0 := by omega
            repeat' ((fail_if_success (with_reducible show wpAny _ _ (exec (Stmt.While _ _ _ _) _) _ _ _)); (fail_if_success (with_reducible show wpAny _ _ (exec (Stmt.For _ _ _ _ _) _) _ _ _)); (fail_if_success (with_reducible show KswEnd _ _ _ _ _ _ _ _ _ _ _ _)); (fail_if_success (with_reducible show FcEnd _ _ _ _ _ _ _ _ _ _)); (fail_if_success (with_reducible show CutEnd _ _ _ _ _ _ _ _ _)); first | (k_unfold; (try dsimp only)) | ((with_reducible show wpAny _ _ (execs (_ :: _) _) _ _ _); walk1; (try k_fold)) | (k_end; wrow_close) | ((first | ((with_reducible show wpAny _ _ (subscriptTail _ (Expr.Slice none (some _) none _) _ _) _ _ _); (with_reducible rename Fr _ _ _ _ => F'); (with_reducible rename News _ _ _ _ => N'); refine slice_strN_nn_len (s := ⟨_, _, _, _, _⟩) F' N' ?_; intro _ _ _ _ _ _) | walk1); (all_goals (try ((with_reducible rename ((_ → _ → _) ∧ (_ → _)) => hx7); clear hx7)))) | (dsimp only; (first | ((with_reducible show wpAny _ _ (subscriptTail _ (Expr.Slice none (some _) none _) _ _) _ _ _); (with_reducible rename Fr _ _ _ _ => F'); (with_reducible rename News _ _ _ _ => N'); refine slice_strN_nn_len (s := ⟨_, _, _, _, _⟩) F' N' ?_; intro _ _ _ _ _ _) | walk1); (all_goals (try ((with_reducible rename ((_ → _ → _) ∧ (_ → _)) => hx7); clear hx7)))) | (leave1; try dsimp only))
            all_goals first | (exfalso; omega) | (refine' cutEnd _ (by assumption) (by assumption) (fun p hp => nomatch hp) ?hk ?hr trivial; (case hk => exact fmem ((if_pos rfl).trans (by show some (Value.str _ _) = some (Value.str (S lb2) _); rw [← hlb2, ← cutB hd2 (by omega)])) (List.forall_mem_nil _)); (case hr => (intro z h2 h3; (have hz0 : z ≠ Str.ofString "b" := h2 _ (.head _)); simp only [kstB, h3, if_neg hz0, Bool.false_eq_true, if_false])))
        case h2 =>
        intro tb2 u3 h6 tk6 _ F6 N6
        clear F5 N5
        have hl3 : (S la2).length = la2.length := S_len _
        have hl4 : (S lb2).length = lb2.length := S_len _
        repeat' ((fail_if_success (with_reducible show wpAny _ _ (execs (Stmt.If _ [Stmt.Assign [Expr.Tuple _ _ _] _ _] _ _ :: _) _) _ _ _)); (fail_if_success (with_reducible show KswEnd _ _ _ _ _ _ _ _ _ _ _ _)); (fail_if_success (with_reducible show FcEnd _ _ _ _ _ _ _ _ _ _)); (fail_if_success (with_reducible show CutEnd _ _ _ _ _ _ _ _ _)); first | (k_unfold; (try dsimp only)) | ((with_reducible show wpAny _ _ (execs (_ :: _) _) _ _ _); walk1; (try k_fold)) | (k_end; wrow_close) | ((first | ((with_reducible show wpAny _ _ (subscriptTail _ (Expr.Slice none (some _) none _) _ _) _ _ _); (with_reducible rename Fr _ _ _ _ => F'); (with_reducible rename News _ _ _ _ => N'); refine slice_strN_nn_len (s := ⟨_, _, _, _, _⟩) F' N' ?_; intro _ _ _ _ _ _) | walk1); (all_goals (try ((with_reducible rename ((_ → _ → _) ∧ (_ → _)) => hx7); clear hx7)))) | (dsimp only; (first | ((with_reducible show wpAny _ _ (subscriptTail _ (Expr.Slice none (some _) none _) _ _) _ _ _); (with_reducible rename Fr _ _ _ _ => F'); (with_reducible rename News _ _ _ _ => N'); refine slice_strN_nn_len (s := ⟨_, _, _, _, _⟩) F' N' ?_; intro _ _ _ _ _ _) | walk1); (all_goals (try ((with_reducible rename ((_ → _ → _) ∧ (_ → _)) => hx7); clear hx7)))) | (leave1; try dsimp only))
        rotate_left
        all_goals try (refine cb_retI ret ?_ (by assumption) (by assumption); exact lev_empty hne hce (by omega))
        have hn1 : la2.length ≠ 0 := by omega
        have hn2 : lb2.length ≠ 0 := by omega
        dsimp only
        (rename Fr _ _ _ _ => F7); (rename News _ _ _ _ => N7)
        refine' stCut (σ := (List Nat × Tok) × (List Nat × Tok)) F7 (fun _ => []) (fun c => [(Str.ofString "a", .str (S c.1.1) c.1.2), (Str.ofString "b", .str (S c.2.1) c.2.2)]) [] (fun c => Ordered la2 lb2 c.1.1 c.2.1) ?h1 ?h2
        case h1 => --
          repeat' ((fail_if_success (with_reducible show wpAny _ _ (exec (Stmt.While _ _ _ _) _) _ _ _)); (fail_if_success (with_reducible show wpAny _ _ (exec (Stmt.For _ _ _ _ _) _) _ _ _)); (fail_if_success (with_reducible show KswEnd _ _ _ _ _ _ _ _ _ _ _ _)); (fail_if_success (with_reducible show FcEnd _ _ _ _ _ _ _ _ _ _)); (fail_if_success (with_reducible show CutEnd _ _ _ _ _ _ _ _ _)); first | (k_unfold; (try dsimp only)) | ((with_reducible show wpAny _ _ (execs (_ :: _) _) _ _ _); walk1; (try k_fold)) | (k_end; wrow_close) | ((first | ((with_reducible show wpAny _ _ (subscriptTail _ (Expr.Slice none (some _) none _) _ _) _ _ _); (with_reducible rename Fr _ _ _ _ => F'); (with_reducible rename News _ _ _ _ => N'); refine slice_strN_nn_len (s := ⟨_, _, _, _, _⟩) F' N' ?_; intro _ _ _ _ _ _) | walk1); (all_goals (try ((with_reducible rename ((_ → _ → _) ∧ (_ → _)) => hx7); clear hx7)))) | (dsimp only; (first | ((with_reducible show wpAny _ _ (subscriptTail _ (Expr.Slice none (some _) none _) _ _) _ _ _); (with_reducible rename Fr _ _ _ _ => F'); (with_reducible rename News _ _ _ _ => N'); refine slice_strN_nn_len (s := ⟨_, _, _, _, _⟩) F' N' ?_; intro _ _ _ _ _ _) | walk1); (all_goals (try ((with_reducible rename ((_ → _ → _) ∧ (_ → _)) => hx7); clear hx7)))) | (leave1; try dsimp only))
          · refine' cutEnd ((lb2, _), (la2, _)) (by assumption) (by assumption) (fun p hp => nomatch hp) ?hk ?hr ?hp
            case hk => kst_all
            case hr => (intro z h2 h3; (have hz0 : z ≠ Str.ofString "a" := h2 _ (.head _)); (have hz1 : z ≠ Str.ofString "b" := h2 _ (.tail _ (.head _))); simp only [kstB, h3, if_neg hz0, if_neg hz1, Bool.false_eq_true, if_false])
            case hp => rw [Ordered, if_pos (by omega)]; exact ⟨rfl, rfl⟩
          · refine' cutEnd ((la2, _), (lb2, _)) (by assumption) (by assumption) (fun p hp => nomatch hp) ?hk ?hr ?hp
            case hk => kst_all
            case hr => (intro z h2 h3; (have hz0 : z ≠ Str.ofString "a" := h2 _ (.head _)); (have hz1 : z ≠ Str.ofString "b" := h2 _ (.tail _ (.head _))); simp only [kstB, h3, if_neg hz0, if_neg hz1, Bool.false_eq_true, if_false])
            case hp => rw [Ordered, if_neg (by omega)]; exact ⟨rfl, rfl⟩
        case h2 =>
        intro c3 u7 h7 tk7 ho3 F8 N8
        clear F7 N7
        obtain ⟨⟨la3, ta3⟩, ⟨lb3, tb3⟩⟩ := c3
        dsimp only at ho3 F8 N8
        have hl5 : (S la3).length = la3.length := S_len _
        have hl6 : (S lb3).length = lb3.length := S_len _
        have hx3 : la3.length ≤ 40 := by unfold Ordered at ho3; split at ho3 <;> (obtain ⟨rfl, rfl⟩ := ho3; assumption)
        have hy3 : lb3.length ≤ 40 := by unfold Ordered at ho3; split at ho3 <;> (obtain ⟨rfl, rfl⟩ := ho3; assumption)
        refine lev_table X' (by k_is) B' T' hdp hun (fr_kst F8 (by kst_all)) hx3 hy3 (fun _ _ h => h) ?_
        intro t9 h9 tk9 F9 N9
        rw [lev_tab hne hce hn1 hn2 ho3]
        exact ret _ _ _ F9 N9
end Mine
end PartT3
section PartT11
open PySem PySem.W PyProof.Rows PySem.Spec PySem.Calls
namespace Mine
local macro_rules | `(tactic| k_ne) => `(tactic| (refine neN ?_; (try dsimp only); first | assumption | exact Ne.symm (by assumption) | exact Nat.ne_of_gt (by assumption) | exact Nat.ne_of_lt (by assumption) | omega))
theorem mid_at {prog : Program} {w : World} {A : Around} {E : Value → Shared → Prop} {s : Shared} {Q : Value → Shared → Prop} {l r q : Nat} {t u : Tok} (hq : (l + r) / 2 = q) (h : Q (.int (q : Int) s.toks) { s with toks := s.toks + 1 }) : wpAny (model prog w) A (binaryOp .RShift (.int ((l : Int) + (r : Int)) t) (.int 1 u)) Q E s := by
  refine rshift_int (by decide) ?_
  have e : ((l : Int) + (r : Int)).fdiv (2 ^ (1 : Int).toNat) = (q : Int) := by
    rw [show ((l : Int) + (r : Int)) = ((l + r : Nat) : Int) by omega]
    rw [show (2 : Int) ^ (1 : Int).toNat = 2 by rfl, Int.fdiv_eq_ediv_of_nonneg _ (by decide)]
    omega
  rw [e]
  exact h
theorem rsh_at {prog : Program} {w : World} {A : Around} {E : Value → Shared → Prop} {s : Shared} {Q : Value → Shared → Prop} {x q : Nat} {n : Int} {t u : Tok} (hn : n = (q : Int)) (h : Q (.int ((x >>> q : Nat) : Int) s.toks) { s with toks := s.toks + 1 }) : wpAny (model prog w) A (binaryOp .RShift (.int (x : Int) t) (.int n u)) Q E s := by
  subst hn
  refine rshift_int (by omega) ?_
  rw [Int.toNat_natCast, shr_nat]
  exact h
theorem lsh_at {prog : Program} {w : World} {A : Around} {E : Value → Shared → Prop} {s : Shared} {Q : Value → Shared → Prop} {x q : Nat} {n : Int} {t u : Tok} (hn : n = (q : Int)) (hq : q ≤ 100) (hx : x < 2 ^ 64) (h : Q (.int ((x : Int) * 2 ^ q) s.toks) { s with toks := s.toks + 1 }) : wpAny (model prog w) A (binaryOp .LShift (.int (x : Int) t) (.int n u)) Q E s := by
  subst hn
  refine lshift_int_small (by omega) (by omega) (by omega) ?_
  rw [Int.toNat_natCast]
  exact h
theorem xor_at {prog : Program} {w : World} {A : Around} {E : Value → Shared → Prop} {s : Shared} {Q : Value → Shared → Prop} {x q : Nat} {t u : Tok} (h : Q (.int ((x % 2 ^ q : Nat) : Int) s.toks) { s with toks := s.toks + 1 }) : wpAny (model prog w) A (binaryOp .BitXor (.int (x : Int) t) (.int (((x >>> q : Nat) : Int) * 2 ^ q) u)) Q E s := by
  refine xor_int ?_
  rw [xor_low]
  exact h
/-- what the nested def does, in any frame, over a ledger with the list's items left open -/
noncomputable def DigOk (w : World) (p : Program) (loose : List Str) (mean : ExcName → Option Value) (mg mb : Str → Option Value) (Led : List Value → Nat → List (Addr × Obj)) (f : Addr) (D k : Nat) : Prop :=
  ∀ (dp un : Nat) (gd : Option (List Code)) (cn : Str) (cs : Scope) (a : Addr) (ccd : Value) (cl : List (Str × Addr)) (outer : List Env) (A₀ : Around) (base h₀ : Heap) (L : Addr) (m : Str → Option Value) (s : Shared) (Q E : Value → Shared → Prop) (x l r : Nat) (t1 t2 t3 : Tok) (vs : List Value) (ns : List Int) (kk : Nat),
    r = l + k + 1 → r ≤ D → x < 2 ^ (4 * (k + 1)) → IntsAre vs ns → ns.length = D →
    Below A₀ base outer h₀ → Fr h₀ L s.heap m → (K2 w.params).In h₀ → News h₀ L s.heap (Led vs kk) → Top p loose mean mg mb h₀ → cs.kind = .function → dp + k + 3 < recursionLimit → un + 16 * k + 24 < cLine →
    (∀ vs' kk' h' tk', IntsAre vs' (ns.take l ++ zs (digs (k + 1) x) ++ ns.drop r) → Fr h₀ L h' m → News h₀ L h' (Led vs' kk') → Q .none { s with heap := h', toks := tk' }) →
    wpAny (model PySem.Challenge.rw_pu0036_01.row.prog w) (ktrTop dp un gd cn cs L a ccd cl outer) (call (.ref f) [.int (x : Int) t1, .int (l : Int) t2, .int (r : Int) t3]) Q E s
theorem dig_all {w : World} {p : Program} {loose : List Str} {mean : ExcName → Option Value} {mg mb : Str → Option Value} {Led : List Value → Nat → List (Addr × Obj)} {f : Addr} {D : Nat}
    (step : ∀ k, k ≤ 5 → (∀ j, j < k → DigOk w p loose mean mg mb Led f D j) → DigOk w p loose mean mg mb Led f D k) : ∀ k, k ≤ 5 → DigOk w p loose mean mg mb Led f D k := by
  intro k
  induction k using Nat.strongRecOn with
  | ind k ih => exact fun hk => step k hk fun j hj => ih j hj (by omega)
theorem dig_use {w : World} {p : Program} {loose : List Str} {mean : ExcName → Option Value} {mg mb : Str → Option Value} {Led : List Value → Nat → List (Addr × Obj)} {f : Addr} {D k : Nat} {dp un : Nat} {gd : Option (List Code)} {cn : Str} {cs : Scope} {a : Addr} {ccd : Value} {cl : List (Str × Addr)} {outer : List Env} {A₀ : Around} {base h₀ : Heap} {L : Addr} {m : Str → Option Value} {s : Shared} {Q E : Value → Shared → Prop} {x : Nat} {t1 t2 t3 : Tok} {vs : List Value} {ns : List Int} {kk : Nat}
    (B : Below A₀ base outer h₀) (F : Fr h₀ L s.heap m) (X : (K2 w.params).In h₀) (N : News h₀ L s.heap (Led vs kk)) (T : Top p loose mean mg mb h₀) (hk : cs.kind = .function) (hdp : dp + k + 3 < recursionLimit) (hun : un + 16 * k + 24 < cLine)
    (hD : D = k + 1) (hk5 : k ≤ 5) (hx : x < 2 ^ (4 * (k + 1))) (hi : IntsAre vs ns) (hl : ns.length = D)
    (step : ∀ k, k ≤ 5 → (∀ j, j < k → DigOk w p loose mean mg mb Led f D j) → DigOk w p loose mean mg mb Led f D k)
    (ret : ∀ vs' kk' h' tk', IntsAre vs' (zs (digs D x)) → Fr h₀ L h' m → News h₀ L h' (Led vs' kk') → Q .none { s with heap := h', toks := tk' }) :
    wpAny (model PySem.Challenge.rw_pu0036_01.row.prog w) (ktrTop dp un gd cn cs L a ccd cl outer) (call (.ref f) [.int (x : Int) t1, .int ((0 : Nat) : Int) t2, .int (D : Int) t3]) Q E s := by
  refine dig_all step k hk5 dp un gd cn cs a ccd cl outer A₀ base h₀ L m s Q E x 0 D t1 t2 t3 vs ns kk (by omega) (Nat.le_refl _) hx hi hl B F X N T hk hdp hun fun vs' kk' h' tk' h1 => ret vs' kk' h' tk' ?_
  rw [List.take_zero, List.nil_append, List.drop_eq_nil_of_le (Nat.le_of_eq hl), List.append_nil] at h1
  rw [hD]
  exact h1
theorem tabL_off1 {q T : Addr} {a b : Nat} {tb : Option (Addr × Obj)} (h1 : @Ne Nat q T) (h3 : ∀ c ∈ tb, @Ne Nat q c.1) : q ∉ (tabL T a b tb).map (·.1) := by
  intro hm
  cases tb with
  | none => exact h1 (List.mem_singleton.mp hm)
  | some c =>
    rcases List.mem_cons.mp hm with e | hm
    · exact h1 e
    · exact h3 c rfl (List.mem_singleton.mp hm)
theorem split_k {k : Nat} (h : 0 < k) : ∃ i j, k + 1 = (i + 1) + (j + 1) ∧ ∀ l, (l + (l + k + 1)) / 2 = l + i + 1 :=
  ⟨(k + 1) / 2 - 1, k - (k + 1) / 2, by omega, fun l => by omega⟩
set_option maxRecDepth 100000 in
set_option maxHeartbeats 8000000 in
theorem i2d_any {w : World} {p : Program} {loose : List Str} {mean : ExcName → Option Value} {mg mb : Str → Option Value} {dp un : Nat} {gd : Option (List Code)} {cn : Str} {cs : Scope} {a : Addr} {ccd : Value} {cl : List (Str × Addr)} {outer : List Env} {A₀ : Around} {base h₀ : Heap} {L : Addr} {m : Str → Option Value} {news rest : List (Addr × Obj)} {s : Shared} {Q E : Value → Shared → Prop}
    {x D : Nat} {tb : Option (Addr × Obj)} {tx tn : Tok}
    (B : Below A₀ base outer h₀) (F : Fr h₀ L s.heap m) (X : (K2 w.params).In h₀) (N : News h₀ L s.heap news) (T : Top p loose mean mg mb h₀) (hk : cs.kind = .function) (hdp : dp + 12 < recursionLimit) (hun : un + 140 < cLine)
    (hx : 16 ^ (D - 1) ≤ x) (hx2 : x < 16 ^ D) (hD : 0 < D ∧ D ≤ 6) (C : CodeHd h₀ 34 30) (hT : ∀ q ∈ tabL 30 53 4 tb, q ∈ news) (hok : ∀ c ∈ tb, (∃ fv tq, c.2.data = .fields fv ∧ fv[1]? = some (.str (Str.ofString "_int2digits.<locals>.inner") tq)) ∧ @Ne Nat 30 c.1) (hr : ∀ q ∈ rest, q ∈ news ∧ @Ne Nat q.1 30 ∧ ∀ c ∈ tb, @Ne Nat q.1 c.1)
    (ret : ∀ ad vs k c' oc fv tq h' tk', Fr h₀ L h' m → News h₀ L h' ((ad, listOf vs.toArray k) :: (30, tabO 53 4 c') :: (c', oc) :: rest) → IntsAre vs (zs (digs D x)) → oc.data = .fields fv → fv[1]? = some (.str (Str.ofString "_int2digits.<locals>.inner") tq) → @Ne Nat 30 c' → @Ne Nat c' ad → @Ne Nat 30 ad → (∀ q ∈ rest, @Ne Nat q.1 c' ∧ @Ne Nat q.1 ad) → (∀ c ∈ tb, c = (c', oc)) → Q (.ref ad) { s with heap := h', toks := tk' }) :
    wpAny (model PySem.Challenge.rw_pu0036_01.row.prog w) (ktrTop dp un gd cn cs L a ccd cl outer) (call (.ref 35) [.int (x : Int) tx, .int 4 tn]) Q E s := by
  w_top off
  revert X
  k_fill
  intro X
  refine wpAny_call ?_
  k_dflt (refine' cellsPass (P := (tabL 30 53 4 tb)) (rest := rest) B F X N T hT (fun q hq => ⟨(hr q hq).1, tabL_off1 (hr q hq).2.1 (hr q hq).2.2⟩) ?kA ?kF ?kK ?k6 ?k7 ?k8 ?k9 ?kB ?kD ?_ ?c2 ?c3 ?c4; (case kA => exact rfl); (case kF => exact rfl); (case kK => assumption); (case k6 => k_is); (case k7 => k_is); (case k8 => ktr_room); (case k9 => first | exact BindsTo.of_eq rfl | exact binds_K (by k_in) rfl (by k_is) rfl rfl rfl | (refine' kp_binds ?kx ?ke; (case kx => k_in); (case ke => exact fun _ => rfl))); (case kB => exact rfl); (case kD => decide +kernel); (case c2 => exact rfl); (case c3 => exact rfl); (case c4 => exact rfl); k_whole; intro g' L' h' tk' cells' hkeep' F' N' Y' B' X' T' st' lP'; k_cells Y'; (try k_lt lP'); (try simp only [List.cons_append, List.nil_append] at N'); (try dsimp only); (try k_fold))
  have C' := CodeHd.keeps C st'
  have hx0 : (x : Int) ≠ 0 := by have := Nat.pow_pos (n := D - 1) (show 0 < 16 by decide); omega
  have hbl := bits_digs hx hx2 hD.1
  rename_i oI oA oN dI0 dA0 dN0
  have dI : oI.data = Data.cell none := dI0
  have dA : oA.data = Data.cell none := dA0
  have dN : oN.data = Data.cell (some (.int 4 tn)) := dN0
  clear dI0 dA0 dN0
  have hlt : ∀ q ∈ tabL 30 53 4 tb, @LT.lt Nat _ q.1 L' := by first | exact lP' | exact allLt_mem lP'
  have hoz := off_cells (a := L' + 1) hlt fun q hq => Nat.ne_of_lt (Nat.lt_succ_of_lt (hlt q hq))
  refine' stCut (σ := Addr × List Value × List Int × Nat × Obj) F' (fun c => (c.1, listOf c.2.1.toArray c.2.2.2.1) :: (L' + 1 + 1 + 1, oI) :: (L' + 1 + 1, c.2.2.2.2) :: (L' + 1, oN) :: tabL 30 53 4 tb) (fun _ => []) [] (fun c => IntsAre c.2.1 c.2.2.1 ∧ c.2.2.1.length = D ∧ c.2.2.2.2.data = Data.cell (some (.ref c.1)) ∧ (@LT.lt Nat _ (L' + 1 + 1 + 1) c.1 ∧ @LT.lt Nat _ (L' + 1 + 1) c.1 ∧ @LT.lt Nat _ (L' + 1) c.1 ∧ AllLt c.1 (tabL 30 53 4 tb))) ?h1 ?h2
  case h1 =>
    repeat' ((fail_if_success (with_reducible show wpAny _ _ (binaryOp Operator.Mult (Value.ref _) _) _ _ _)); (fail_if_success (with_reducible show wpAny _ _ (call (Value.ref _) _) _ _ _)); (fail_if_success (with_reducible show KswEnd _ _ _ _ _ _ _ _ _ _ _ _)); (fail_if_success (with_reducible show FcEnd _ _ _ _ _ _ _ _ _ _)); (fail_if_success (with_reducible show CutEnd _ _ _ _ _ _ _ _ _)); first | (k_unfold; (try dsimp only)) | (k_end; wrow_close) | ((with_reducible show wpAny _ _ (binaryOp Operator.BitXor (Value.int _ _) (Value.int _ _)) _ _ _); k_here; with_reducible refine xor_at ?_) | ((with_reducible show wpAny _ _ (binaryOp Operator.LShift (Value.int _ _) (Value.int _ _)) _ _ _); k_here; with_reducible refine lsh_at (by assumption) (by omega) (by assumption) ?_) | ((with_reducible show wpAny _ _ (binaryOp Operator.RShift (Value.int _ _) (Value.int _ _)) _ _ _); k_here; with_reducible refine rsh_at (by assumption) ?_) | ((with_reducible show wpAny _ _ (binaryOp Operator.RShift (Value.int _ _) (Value.int _ _)) _ _ _); k_here; with_reducible refine mid_at (by assumption) ?_) | walk1 | (dsimp only; walk1) | (leave1; try dsimp only))
    rw [hbl]
    repeat' ((fail_if_success (with_reducible show wpAny _ _ (call (Value.ref _) _) _ _ _)); (fail_if_success (with_reducible show KswEnd _ _ _ _ _ _ _ _ _ _ _ _)); (fail_if_success (with_reducible show FcEnd _ _ _ _ _ _ _ _ _ _)); (fail_if_success (with_reducible show CutEnd _ _ _ _ _ _ _ _ _)); first | (k_unfold; (try dsimp only)) | (k_end; wrow_close) | ((with_reducible show wpAny _ _ (binaryOp Operator.BitXor (Value.int _ _) (Value.int _ _)) _ _ _); k_here; with_reducible refine xor_at ?_) | ((with_reducible show wpAny _ _ (binaryOp Operator.LShift (Value.int _ _) (Value.int _ _)) _ _ _); k_here; with_reducible refine lsh_at (by assumption) (by omega) (by assumption) ?_) | ((with_reducible show wpAny _ _ (binaryOp Operator.RShift (Value.int _ _) (Value.int _ _)) _ _ _); k_here; with_reducible refine rsh_at (by assumption) ?_) | ((with_reducible show wpAny _ _ (binaryOp Operator.RShift (Value.int _ _) (Value.int _ _)) _ _ _); k_here; with_reducible refine mid_at (by assumption) ?_) | walk1 | (dsimp only; walk1) | (leave1; try dsimp only))
    (rename Fr _ _ _ _ => F5); (rename News _ _ _ _ => N5); (rename _ = Data.cell (some (Value.ref _)) => d5); (rename IntsAre _ _ => i5)
    refine cutEnd (_, _, _, 0, _) F5 N5 ?_ (fun p hp => nomatch hp) (fun z h2 h3 => rfl) ⟨i5, by rw [Int.toNat_natCast]; exact zs_replicate _, d5, ?_⟩
    · exact fmem (by k_mem) (fmem (by k_mem) (fmem (by k_mem) (fmem (by k_mem) (fun p hp => by (first | exact hp | exact List.Mem.tail _ (hp) | exact List.Mem.tail _ (List.Mem.tail _ (hp)) | exact List.Mem.tail _ (List.Mem.tail _ (List.Mem.tail _ (hp))) | exact List.Mem.tail _ (List.Mem.tail _ (List.Mem.tail _ (List.Mem.tail _ (hp)))) | exact List.Mem.tail _ (List.Mem.tail _ (List.Mem.tail _ (List.Mem.tail _ (List.Mem.tail _ (hp))))) | exact List.Mem.tail _ (List.Mem.tail _ (List.Mem.tail _ (List.Mem.tail _ (List.Mem.tail _ (List.Mem.tail _ (hp)))))) | exact List.Mem.tail _ (List.Mem.tail _ (List.Mem.tail _ (List.Mem.tail _ (List.Mem.tail _ (List.Mem.tail _ (List.Mem.tail _ (hp))))))) | exact List.Mem.tail _ (List.Mem.tail _ (List.Mem.tail _ (List.Mem.tail _ (List.Mem.tail _ (List.Mem.tail _ (List.Mem.tail _ (List.Mem.tail _ (hp)))))))) | exact List.Mem.tail _ (List.Mem.tail _ (List.Mem.tail _ (List.Mem.tail _ (List.Mem.tail _ (List.Mem.tail _ (List.Mem.tail _ (List.Mem.tail _ (List.Mem.tail _ (hp))))))))) | exact List.Mem.tail _ (List.Mem.tail _ (List.Mem.tail _ (List.Mem.tail _ (List.Mem.tail _ (List.Mem.tail _ (List.Mem.tail _ (List.Mem.tail _ (List.Mem.tail _ (List.Mem.tail _ (hp)))))))))) | exact List.Mem.tail _ (List.Mem.tail _ (List.Mem.tail _ (List.Mem.tail _ (List.Mem.tail _ (List.Mem.tail _ (List.Mem.tail _ (List.Mem.tail _ (List.Mem.tail _ (List.Mem.tail _ (List.Mem.tail _ (hp))))))))))))))))
    · simp only [AllLt] at *
      (repeat' (first | exact trivial | assumption | apply And.intro))
      all_goals (repeat ((with_reducible rename (_ ∧ _) => hx9); obtain ⟨_, _⟩ := hx9))
      all_goals assumption
  case h2 =>
  refine all_1_1_1_1_1 ?_; intro ad vs ns kk oA2 u h tk hP F5 N5
  have hvs := hP.1; have hns := hP.2.1; have dA2 := hP.2.2.1; have had := hP.2.2.2; clear hP
  dsimp only at hvs hns dA2 had F5 N5
  have hvl : vs.length = D := by rw [hvs.length, hns]
  clear F' N'
  apply share10
  case use =>
    intro main
    rcases tb_cases tb with htb | ⟨c9, oc9, htb⟩
    · rw [htb] at N5 had hlt
      dsimp only [tabL, AllLt] at N5 had hlt
      k_lt hlt
      repeat' ((fail_if_success (with_reducible show wpAny _ _ (call (Value.ref _) _) _ _ _)); (fail_if_success (with_reducible show KswEnd _ _ _ _ _ _ _ _ _ _ _ _)); (fail_if_success (with_reducible show FcEnd _ _ _ _ _ _ _ _ _ _)); (fail_if_success (with_reducible show CutEnd _ _ _ _ _ _ _ _ _)); first | (k_unfold; (try dsimp only)) | (k_end; wrow_close) | (k_here; (with_reducible show wpAny _ _ (call (Value.builtin "len") [Value.ref _]) _ _ _); refine KM.len_K (n := D) (by k_asm) (by k_mem) (by rw [List.size_toArray]; exact hvl) (by omega) ?_) | ((with_reducible show wpAny _ _ (binaryOp Operator.BitXor (Value.int _ _) (Value.int _ _)) _ _ _); k_here; with_reducible refine xor_at ?_) | ((with_reducible show wpAny _ _ (binaryOp Operator.LShift (Value.int _ _) (Value.int _ _)) _ _ _); k_here; with_reducible refine lsh_at (by assumption) (by omega) (by assumption) ?_) | ((with_reducible show wpAny _ _ (binaryOp Operator.RShift (Value.int _ _) (Value.int _ _)) _ _ _); k_here; with_reducible refine rsh_at (by assumption) ?_) | ((with_reducible show wpAny _ _ (binaryOp Operator.RShift (Value.int _ _) (Value.int _ _)) _ _ _); k_here; with_reducible refine mid_at (by assumption) ?_) | walk1 | (dsimp only; walk1) | (leave1; try dsimp only))
      all_goals (try (exact absurd (by assumption) hx0))
      try rw [hns]
      show wpAny _ _ (call (Value.ref _) [Value.int (x : Int) _, Value.int ((0 : Nat) : Int) _, Value.int (D : Int) _]) _ _ _
      rename_i f9 c9 oc9 fv9 tq9 ct9 dc9 h8 tk9 e1 e2' l1 l2 h9 o9 F9 N9 d9
      have e2 : fv9[1]? = some (.str (Str.ofString "_int2digits.<locals>.inner") tq9) := e2'
      clear e2'
      have N8 : News g' L' h9 ((f9, _) :: (ad, listOf vs.toArray kk) :: (L' + 1 + 1 + 1, o9) :: (L' + 1 + 1, oA2) :: (L' + 1, oN) :: (30, tabO 53 4 c9) :: (c9, oc9) :: []) := cb_drop N9 (fmem (by k_mem) (fmem (by k_mem) (fmem (by k_mem) (fmem (by k_mem) (fmem (by k_mem) (fmem (by k_mem) (fmem (by k_mem) (List.forall_mem_nil _))))))))
      have n9 : @Ne Nat 30 c9 ∧ @Ne Nat 30 ad ∧ @Ne Nat c9 ad ∧ @Ne Nat f9 ad := by refine ⟨?_, ?_, ?_, ?_⟩ <;> omega
      have r9 : (∀ q ∈ rest, @Ne Nat q.1 c9 ∧ @Ne Nat q.1 ad) ∧ ∀ c ∈ tb, c = (c9, oc9) := by
        refine ⟨fun q hq => ?_, fun c hc => by rw [htb] at hc; cases hc; try rfl⟩
        have hqg := hkeep' q.1 q.2 (N q (hr q hq).1).1 (tabL_off1 (hr q hq).2.1 (hr q hq).2.2)
        exact ⟨ne_base N8 (by k_mem) hqg, ne_base N8 (by k_mem) hqg⟩
      revert r9; revert n9; revert d9; revert e2; revert e1; revert N8; revert F9
      exact main f9 c9 oc9 fv9 tq9 ct9 dc9 h9 tk9 o9
    · rw [htb] at N5 had hlt
      dsimp only [tabL, AllLt] at N5 had hlt
      k_lt hlt
      obtain ⟨⟨fv9, tq9, e1', e2⟩, hc1⟩ := hok _ htb
      have e1 : oc9.data = .fields fv9 := e1'
      have hc3 : @Ne Nat 30 c9 := hc1
      clear e1' hc1
      repeat' ((fail_if_success (with_reducible show wpAny _ _ (call (Value.ref _) _) _ _ _)); (fail_if_success (with_reducible show KswEnd _ _ _ _ _ _ _ _ _ _ _ _)); (fail_if_success (with_reducible show FcEnd _ _ _ _ _ _ _ _ _ _)); (fail_if_success (with_reducible show CutEnd _ _ _ _ _ _ _ _ _)); first | (k_unfold; (try dsimp only)) | (k_end; wrow_close) | (k_here; (with_reducible show wpAny _ _ (call (Value.builtin "len") [Value.ref _]) _ _ _); refine KM.len_K (n := D) (by k_asm) (by k_mem) (by rw [List.size_toArray]; exact hvl) (by omega) ?_) | ((with_reducible show wpAny _ _ (binaryOp Operator.BitXor (Value.int _ _) (Value.int _ _)) _ _ _); k_here; with_reducible refine xor_at ?_) | ((with_reducible show wpAny _ _ (binaryOp Operator.LShift (Value.int _ _) (Value.int _ _)) _ _ _); k_here; with_reducible refine lsh_at (by assumption) (by omega) (by assumption) ?_) | ((with_reducible show wpAny _ _ (binaryOp Operator.RShift (Value.int _ _) (Value.int _ _)) _ _ _); k_here; with_reducible refine rsh_at (by assumption) ?_) | ((with_reducible show wpAny _ _ (binaryOp Operator.RShift (Value.int _ _) (Value.int _ _)) _ _ _); k_here; with_reducible refine mid_at (by assumption) ?_) | walk1 | (dsimp only; walk1) | (leave1; try dsimp only))
      all_goals (try (exact absurd (by assumption) hx0))
      try rw [hns]
      show wpAny _ _ (call (Value.ref _) [Value.int (x : Int) _, Value.int ((0 : Nat) : Int) _, Value.int (D : Int) _]) _ _ _
      rename_i f9 ct9 dc9 h8 tk9 l1 h9 o9 F9 N9 d9
      have N8 : News g' L' h9 ((f9, _) :: (ad, listOf vs.toArray kk) :: (L' + 1 + 1 + 1, o9) :: (L' + 1 + 1, oA2) :: (L' + 1, oN) :: (30, tabO 53 4 c9) :: (c9, oc9) :: []) := cb_drop N9 (fmem (by k_mem) (fmem (by k_mem) (fmem (by k_mem) (fmem (by k_mem) (fmem (by k_mem) (fmem (by k_mem) (fmem (by k_mem) (List.forall_mem_nil _))))))))
      have n9 : @Ne Nat 30 c9 ∧ @Ne Nat 30 ad ∧ @Ne Nat c9 ad ∧ @Ne Nat f9 ad := by refine ⟨?_, ?_, ?_, ?_⟩ <;> omega
      have r9 : (∀ q ∈ rest, @Ne Nat q.1 c9 ∧ @Ne Nat q.1 ad) ∧ ∀ c ∈ tb, c = (c9, oc9) := by
        refine ⟨fun q hq => ?_, fun c hc => by rw [htb] at hc; cases hc; try rfl⟩
        have hqg := hkeep' q.1 q.2 (N q (hr q hq).1).1 (tabL_off1 (hr q hq).2.1 (hr q hq).2.2)
        exact ⟨(hr q hq).2.2 _ htb, ne_base N8 (by k_mem) hqg⟩
      revert r9; revert n9; revert d9; revert e2; revert e1; revert N8; revert F9
      exact main f9 c9 oc9 fv9 tq9 ct9 dc9 h9 tk9 o9
  case main =>
    intro f9 c9 oc9 fv9 tq9 ct9 dc9 h9 tk9 o9 F6 N6 e1 e2 d9 n9 r9
    have n30 : @Ne Nat 30 ad := n9.2.1
    have n31 : @Ne Nat c9 ad := n9.2.2.1
    have n32 : @Ne Nat f9 ad := n9.2.2.2
    have l31 := had.1; have l32 := had.2.1; have l33 := had.2.2.1; skip; clear had
    clear F5 N5 hoz hlt
    refine' dig_use (Led := fun vs kk => (f9, _) :: (ad, listOf vs.toArray kk) :: (L' + 1 + 1 + 1, o9) :: (L' + 1 + 1, oA2) :: (L' + 1, oN) :: (30, tabO 53 4 c9) :: (c9, oc9) :: []) (vs := vs) (kk := kk) (k := D - 1) (D := D) (x := x) (ns := ns) (by k_asm) F6 (by k_asm) N6 (by k_asm) (by first | exact rfl | assumption) ?room1 ?room2 (by omega) (by omega) ?hx9 hvs hns ?step ?_
    case room1 => ktr_room
    case room2 => ktr_units
    case hx9 => rw [show D - 1 + 1 = D by omega, Nat.pow_mul]; exact hx2
    case step =>
      clear F6 N6 N ret
      intro k hk5 ih dp un gd cn cs a ccd cl outer A₀ base h₀ L m s Q E x l r t1 t2 t3 vs ns kk hr hrD hx hvs hns B F X N T hk hdp hun ret
      (try dsimp only at N ret)
      have hvl : vs.length = D := by rw [hvs.length, hns]
      (refine wpAny_call ?_; refine' code_nest ?k1 ?k2 ?k3 ?k4 ?k5 ?kA ?kF ?kK ?k6 ?k7 ?k8 ?k9 ?kB ?_ ?c2 ?c3 ?c4 ?c5; (case kA => exact rfl); (case kF => exact rfl); (case kK => assumption); (case k1 => k_asm); (case k2 => k_asm); (case k3 => k_asm); (case k4 => k_asm); (case k5 => k_asm); (case k6 => k_mem); (case k7 => exact codeRec_news (by k_asm) (by k_mem) (by assumption) (by assumption)); (case k8 => k_room); (case k9 => exact BindsTo.of_eq rfl); (case c5 => decide); (case kB => exact locs rfl); (case c2 => exact rfl); (case c3 => exact rfl); (case c4 => exact rfl); k_whole; intro g' L' h' FG' F' N' B' X' T'; (try dsimp only); (try k_lift B'); (try k_fold))
      rcases Nat.eq_zero_or_pos k with hk0 | hk0
      · subst hk0
        have hrl : (l : Int) + 1 = (r : Int) := by omega
        have hrlb : ((l : Int) + 1 == (r : Int)) = true := by rw [hrl]; exact beq_self_eq_true _
        have hlD : l < vs.length := by omega
        repeat' ((fail_if_success (with_reducible show wpAny _ _ (call (Value.ref _) _) _ _ _)); (fail_if_success (with_reducible show KswEnd _ _ _ _ _ _ _ _ _ _ _ _)); (fail_if_success (with_reducible show FcEnd _ _ _ _ _ _ _ _ _ _)); (fail_if_success (with_reducible show CutEnd _ _ _ _ _ _ _ _ _)); first | (k_unfold; (try dsimp only)) | (k_end; wrow_close) | ((with_reducible show wpAny _ _ (binaryOp Operator.BitXor (Value.int _ _) (Value.int _ _)) _ _ _); k_here; with_reducible refine xor_at ?_) | ((with_reducible show wpAny _ _ (binaryOp Operator.LShift (Value.int _ _) (Value.int _ _)) _ _ _); k_here; with_reducible refine lsh_at (by assumption) (by omega) (by assumption) ?_) | ((with_reducible show wpAny _ _ (binaryOp Operator.RShift (Value.int _ _) (Value.int _ _)) _ _ _); k_here; with_reducible refine rsh_at (by assumption) ?_) | ((with_reducible show wpAny _ _ (binaryOp Operator.RShift (Value.int _ _) (Value.int _ _)) _ _ _); k_here; with_reducible refine mid_at (by assumption) ?_) | walk1 | (dsimp only; walk1) | (leave1; try dsimp only))
        (rename Fr _ _ _ _ => F9); (rename News _ _ _ _ => N9); (rename IntsAre _ _ => hi9)
        rw [Int.toNat_natCast] at hi9
        refine' ret _ _ _ _ ?hI F9 N9
        case hI =>
          subst hr
          rw [Int.toNat_natCast]
          exact (congrArg (IntsAre _) (dig_leaf (by omega) hx)).mp hi9
      · refine exE (split_k hk0) fun i1 q => exE q fun j1 q => ?_
        have hj1 := q.1
        have hmid : (l + r) / 2 = l + i1 + 1 := by rw [hr]; exact q.2 l
        clear q
        have hrl : (l : Int) + 1 ≠ (r : Int) := by omega
        have hrlb : ((l : Int) + 1 == (r : Int)) = false := beq_eq_false_iff_ne.mpr hrl
        have hsh : (((l + i1 + 1 : Nat) : Int) - (l : Int)) * 4 = ((4 * (i1 + 1) : Nat) : Int) := by omega
        have hx64 : x >>> (4 * (i1 + 1)) < 2 ^ 64 := by
          have h1 : x >>> (4 * (i1 + 1)) ≤ x := by rw [Nat.shiftRight_eq_div_pow]; exact Nat.div_le_self _ _
          have h2 : 2 ^ (4 * (k + 1)) ≤ 2 ^ 64 := Nat.pow_le_pow_right (by decide) (by omega)
          omega
        have hxu : x >>> (4 * (i1 + 1)) < 2 ^ (4 * (j1 + 1)) := by
          rw [Nat.shiftRight_eq_div_pow]
          refine Nat.div_lt_of_lt_mul ?_
          rw [← Nat.pow_add, ← Nat.mul_add, ← hj1]
          exact hx
        repeat' ((fail_if_success (with_reducible show wpAny _ _ (call (Value.ref _) _) _ _ _)); (fail_if_success (with_reducible show KswEnd _ _ _ _ _ _ _ _ _ _ _ _)); (fail_if_success (with_reducible show FcEnd _ _ _ _ _ _ _ _ _ _)); (fail_if_success (with_reducible show CutEnd _ _ _ _ _ _ _ _ _)); first | (k_unfold; (try dsimp only)) | (k_end; wrow_close) | ((with_reducible show wpAny _ _ (binaryOp Operator.BitXor (Value.int _ _) (Value.int _ _)) _ _ _); k_here; with_reducible refine xor_at ?_) | ((with_reducible show wpAny _ _ (binaryOp Operator.LShift (Value.int _ _) (Value.int _ _)) _ _ _); k_here; with_reducible refine lsh_at (by assumption) (by omega) (by assumption) ?_) | ((with_reducible show wpAny _ _ (binaryOp Operator.RShift (Value.int _ _) (Value.int _ _)) _ _ _); k_here; with_reducible refine rsh_at (by assumption) ?_) | ((with_reducible show wpAny _ _ (binaryOp Operator.RShift (Value.int _ _) (Value.int _ _)) _ _ _); k_here; with_reducible refine mid_at (by assumption) ?_) | walk1 | (dsimp only; walk1) | (leave1; try dsimp only))
        (rename Fr _ _ _ _ => F8); (rename News _ _ _ _ => N8)
        refine ih i1 (by omega) _ _ _ _ _ _ _ _ _ _ _ _ _ _ _ _ _ (x % 2 ^ (4 * (i1 + 1))) l (l + i1 + 1) _ _ _ vs ns kk rfl (by omega) (Nat.mod_lt _ (Nat.two_pow_pos _)) hvs hns (by k_asm) F8 (by k_asm) N8 (by k_asm) (by first | exact rfl | assumption) (by ktr_room) (by ktr_units) ?_
        intro vs1 kk1 h1 tk1 hv1 F1 N1
        (try dsimp only at N1)
        clear F8 N8
        repeat' ((fail_if_success (with_reducible show wpAny _ _ (call (Value.ref _) _) _ _ _)); (fail_if_success (with_reducible show KswEnd _ _ _ _ _ _ _ _ _ _ _ _)); (fail_if_success (with_reducible show FcEnd _ _ _ _ _ _ _ _ _ _)); (fail_if_success (with_reducible show CutEnd _ _ _ _ _ _ _ _ _)); first | (k_unfold; (try dsimp only)) | (k_end; wrow_close) | ((with_reducible show wpAny _ _ (binaryOp Operator.BitXor (Value.int _ _) (Value.int _ _)) _ _ _); k_here; with_reducible refine xor_at ?_) | ((with_reducible show wpAny _ _ (binaryOp Operator.LShift (Value.int _ _) (Value.int _ _)) _ _ _); k_here; with_reducible refine lsh_at (by assumption) (by omega) (by assumption) ?_) | ((with_reducible show wpAny _ _ (binaryOp Operator.RShift (Value.int _ _) (Value.int _ _)) _ _ _); k_here; with_reducible refine rsh_at (by assumption) ?_) | ((with_reducible show wpAny _ _ (binaryOp Operator.RShift (Value.int _ _) (Value.int _ _)) _ _ _); k_here; with_reducible refine mid_at (by assumption) ?_) | walk1 | (dsimp only; walk1) | (leave1; try dsimp only))
        (rename Fr _ _ _ _ => F8); (rename News _ _ _ _ => N8)
        have hl1 : (ns.take l ++ zs (digs (i1 + 1) (x % 2 ^ (4 * (i1 + 1)))) ++ ns.drop (l + i1 + 1)).length = D := by
          rw [List.length_append, List.length_append, List.length_take, List.length_drop, zs_len, digs_len]
          omega
        refine ih j1 (by omega) _ _ _ _ _ _ _ _ _ _ _ _ _ _ _ _ _ (x >>> (4 * (i1 + 1))) (l + i1 + 1) r _ _ _ vs1 _ kk1 (by omega) (by omega) hxu hv1 hl1 (by k_asm) F8 (by k_asm) N8 (by k_asm) (by first | exact rfl | assumption) (by ktr_room) (by ktr_units) ?_
        intro vs2 kk2 h2 tk2 hv2 F2 N2
        (try dsimp only at N2)
        clear F8 N8
        repeat' ((fail_if_success (with_reducible show wpAny _ _ (call (Value.ref _) _) _ _ _)); (fail_if_success (with_reducible show KswEnd _ _ _ _ _ _ _ _ _ _ _ _)); (fail_if_success (with_reducible show FcEnd _ _ _ _ _ _ _ _ _ _)); (fail_if_success (with_reducible show CutEnd _ _ _ _ _ _ _ _ _)); first | (k_unfold; (try dsimp only)) | (k_end; wrow_close) | ((with_reducible show wpAny _ _ (binaryOp Operator.BitXor (Value.int _ _) (Value.int _ _)) _ _ _); k_here; with_reducible refine xor_at ?_) | ((with_reducible show wpAny _ _ (binaryOp Operator.LShift (Value.int _ _) (Value.int _ _)) _ _ _); k_here; with_reducible refine lsh_at (by assumption) (by omega) (by assumption) ?_) | ((with_reducible show wpAny _ _ (binaryOp Operator.RShift (Value.int _ _) (Value.int _ _)) _ _ _); k_here; with_reducible refine rsh_at (by assumption) ?_) | ((with_reducible show wpAny _ _ (binaryOp Operator.RShift (Value.int _ _) (Value.int _ _)) _ _ _); k_here; with_reducible refine mid_at (by assumption) ?_) | walk1 | (dsimp only; walk1) | (leave1; try dsimp only))
        (rename Fr _ _ _ _ => F9); (rename News _ _ _ _ => N9)
        refine' ret _ _ _ _ ?hI F9 N9
        case hI =>
          have hr2 : r = l + (i1 + 1) + (j1 + 1) := by omega
          have e := dig_join (ns := ns) (l := l) (i := i1 + 1) (j := j1 + 1) (x := x) (by omega)
          rw [← hr2, ← hj1] at e
          rw [← e]
          exact hv2
    · intro vs' kk' h9 tk9 hv9 F9 N9
      (try dsimp only at N9)
      repeat' ((fail_if_success (with_reducible show wpAny _ _ (call (Value.ref _) _) _ _ _)); (fail_if_success (with_reducible show KswEnd _ _ _ _ _ _ _ _ _ _ _ _)); (fail_if_success (with_reducible show FcEnd _ _ _ _ _ _ _ _ _ _)); (fail_if_success (with_reducible show CutEnd _ _ _ _ _ _ _ _ _)); first | (k_unfold; (try dsimp only)) | (k_end; wrow_close) | ((with_reducible show wpAny _ _ (binaryOp Operator.BitXor (Value.int _ _) (Value.int _ _)) _ _ _); k_here; with_reducible refine xor_at ?_) | ((with_reducible show wpAny _ _ (binaryOp Operator.LShift (Value.int _ _) (Value.int _ _)) _ _ _); k_here; with_reducible refine lsh_at (by assumption) (by omega) (by assumption) ?_) | ((with_reducible show wpAny _ _ (binaryOp Operator.RShift (Value.int _ _) (Value.int _ _)) _ _ _); k_here; with_reducible refine rsh_at (by assumption) ?_) | ((with_reducible show wpAny _ _ (binaryOp Operator.RShift (Value.int _ _) (Value.int _ _)) _ _ _); k_here; with_reducible refine mid_at (by assumption) ?_) | walk1 | (dsimp only; walk1) | (leave1; try dsimp only))
      (rename News h₀ L _ (List.cons _ _) => kN)
      (rename News h₀ L _ rest => rN)
      refine ret _ _ _ c9 oc9 fv9 tq9 _ _ (by assumption) (newsThree (cb_drop kN (fmem (by k_mem) (fmem (by k_mem) (fmem (by k_mem) (List.forall_mem_nil _))))) rN) hv9 e1 e2 n9.1 n9.2.2.1 n9.2.1 r9.1 r9.2
theorem i2d_hit {w : World} {p : Program} {loose : List Str} {mean : ExcName → Option Value} {mg mb : Str → Option Value} {dp un : Nat} {gd : Option (List Code)} {cn : Str} {cs : Scope} {a : Addr} {ccd : Value} {cl : List (Str × Addr)} {outer : List Env} {A₀ : Around} {base h₀ : Heap} {L : Addr} {m : Str → Option Value} {news : List (Addr × Obj)} {s : Shared} {Q E : Value → Shared → Prop} {x D : Nat} {tx tn : Tok} {c' : Addr} {oc : Obj} {fv : Array Value} {tq : Tok}
    (B : Below A₀ base outer h₀) (F : Fr h₀ L s.heap m) (X : (K2 w.params).In h₀) (N : News h₀ L s.heap news) (T : Top p loose mean mg mb h₀) (hk : cs.kind = .function) (hdp : dp + 12 < recursionLimit) (hun : un + 140 < cLine)
    (hx : 16 ^ (D - 1) ≤ x) (hx2 : x < 16 ^ D) (hD : 0 < D ∧ D ≤ 6) (C : CodeHd h₀ 34 30) (h30 : (30, tabO 53 4 c') ∈ news) (hc : (c', oc) ∈ news) (hoc : oc.data = .fields fv) (hfv : fv[1]? = some (.str (Str.ofString "_int2digits.<locals>.inner") tq)) (h30c : @Ne Nat 30 c')
    (ret : ∀ ad vs k h' tk', Fr h₀ L h' m → News h₀ L h' ((ad, listOf vs.toArray k) :: news) → IntsAre vs (zs (digs D x)) → (∀ q ∈ news, @Ne Nat q.1 ad) → Q (.ref ad) { s with heap := h', toks := tk' }) :
    wpAny (model PySem.Challenge.rw_pu0036_01.row.prog w) (ktrTop dp un gd cn cs L a ccd cl outer) (call (.ref 35) [.int (x : Int) tx, .int 4 tn]) Q E s := by
  have hPn : ∀ p ∈ ([(30, tabO 53 4 c'), (c', oc)] : List (Addr × Obj)), p ∈ news := fmem h30 (fmem hc (List.forall_mem_nil _))
  refine i2d_any (tb := some (c', oc)) (rest := less [30, c'] news) B F X N T hk hdp hun hx hx2 hD C hPn (fun c hcc => by cases hcc; exact ⟨⟨fv, tq, hoc, hfv⟩, h30c⟩) (fun q hq => ⟨((Minus.less [30, c'] news).spec q hq).1, fun e => ((Minus.less [30, c'] news).spec q hq).2 _ (.head _) e, fun c hcc e => by cases hcc; exact ((Minus.less [30, c'] news).spec q hq).2 _ (.tail _ (.head _)) e⟩) ?_
  intro ad vs k c2 oc2 fv2 tq2 h' tk' F9 N9 hi _ _ l1 l2 l3 l4 hcc
  cases hcc _ rfl
  refine ret ad vs k h' tk' F9 (fmem (N9 _ (.head _)) (news_back (P := [(30, tabO 53 4 c'), (c', oc)]) N hPn (fun q hq => N9 q (.tail _ hq)))) hi fun q hq => ?_
  by_cases e1 : q.1 = 30
  · rw [e1]; exact l3
  · by_cases e2 : q.1 = c'
    · rw [e2]; exact l2
    · refine (l4 q (List.mem_filter.mpr ⟨hq, ?_⟩)).2
      rw [List.contains_cons, List.contains_cons, List.contains_nil, beq_eq_false_iff_ne.mpr e1, beq_eq_false_iff_ne.mpr e2]
      rfl
end Mine
end PartT11
section PartPNib
namespace Mine
noncomputable def nibS (n c j : Nat) : Nat := ((n + (n &&& j) + c) % 16) ||| (n - (n &&& j))
noncomputable def nibC (n c j : Nat) : Nat := (n + (n &&& j) + c) / 16
noncomputable def stepC (c st m : Nat) : Nat := (st + (st &&& m) + c) ||| (st - (st &&& m))
theorem runStep_C (st m : Nat) : runStep st m = stepC 0 st m := rfl
theorem and16 {h n k j : Nat} (hn : n < 16) (hj : j < 16) : (16 * h + n) &&& (16 * k + j) = 16 * (h &&& k) + (n &&& j) := by
  have e := Nat.div_add_mod ((16 * h + n) &&& (16 * k + j)) (2 ^ 4)
  rw [Nat.and_div_two_pow, Nat.and_mod_two_pow] at e
  rw [← e]
  have e1 : (16 * h + n) / 2 ^ 4 = h := by omega
  have e2 : (16 * k + j) / 2 ^ 4 = k := by omega
  have e3 : (16 * h + n) % 2 ^ 4 = n := by omega
  have e4 : (16 * k + j) % 2 ^ 4 = j := by omega
  rw [e1, e2, e3, e4]
theorem or16 {h n k j : Nat} (hn : n < 16) (hj : j < 16) : (16 * h + n) ||| (16 * k + j) = 16 * (h ||| k) + (n ||| j) := by
  have e := Nat.div_add_mod ((16 * h + n) ||| (16 * k + j)) (2 ^ 4)
  rw [Nat.or_div_two_pow, Nat.or_mod_two_pow] at e
  rw [← e]
  have e1 : (16 * h + n) / 2 ^ 4 = h := by omega
  have e2 : (16 * k + j) / 2 ^ 4 = k := by omega
  have e3 : (16 * h + n) % 2 ^ 4 = n := by omega
  have e4 : (16 * k + j) % 2 ^ 4 = j := by omega
  rw [e1, e2, e3, e4]
theorem sub16 {h y n x : Nat} (h1 : x ≤ n) (h2 : y ≤ h) : 16 * h + n - (16 * y + x) = 16 * (h - y) + (n - x) := by
  obtain ⟨a, rfl⟩ := Nat.exists_eq_add_of_le h1
  obtain ⟨b, rfl⟩ := Nat.exists_eq_add_of_le h2
  rw [Nat.add_sub_cancel_left, Nat.add_sub_cancel_left, Nat.mul_add]
  exact Nat.sub_eq_of_eq_add (by ac_rfl)
theorem stepC_nib {c h n k j : Nat} (hn : n < 16) (hj : j < 16) : stepC c (16 * h + n) (16 * k + j) = 16 * stepC (nibC n c j) h k + nibS n c j := by
  unfold stepC
  rw [and16 hn hj]
  have h1 : n &&& j ≤ n := Nat.and_le_left
  have h2 : h &&& k ≤ h := Nat.and_le_left
  generalize hx : n &&& j = x at *
  generalize hy : h &&& k = y at *
  have e1 : 16 * h + n + (16 * y + x) + c = 16 * (h + y + (n + x + c) / 16) + (n + x + c) % 16 := by lia
  have e2 : 16 * h + n - (16 * y + x) = 16 * (h - y) + (n - x) := sub16 h1 h2
  rw [e1, e2, or16 (Nat.mod_lt _ (by decide)) (Nat.lt_of_le_of_lt (Nat.sub_le n x) hn)]
  simp only [nibC, nibS, hx]
/-- a state: ones as many as came out, above three nibbles -/
noncomputable def stOf (cnt n0 n1 n2 : Nat) : Nat := 16 * (16 * (16 * (2 ^ cnt - 1) + n2) + n1) + n0
theorem ones_fin : ∀ (c : Fin 2) (k : Fin 17), stepC c.val (2 ^ k.val - 1) 0 = 2 ^ (k.val + c.val) - 1 := by decide +kernel
theorem nibC_fin : ∀ (n j : Fin 16) (c : Fin 2), nibC n.val c.val j.val < 2 ∧ nibS n.val c.val j.val < 16 := by decide +kernel
theorem nibC_lt {n c j : Nat} (hn : n < 16) (hc : c < 2) (hj : j < 16) : nibC n c j < 2 := (nibC_fin ⟨n, hn⟩ ⟨j, hj⟩ ⟨c, hc⟩).1
theorem nibS_lt {n c j : Nat} (hn : n < 16) (hc : c < 2) (hj : j < 16) : nibS n c j < 16 := (nibC_fin ⟨n, hn⟩ ⟨j, hj⟩ ⟨c, hc⟩).2
theorem run_nib {cnt n0 n1 n2 j0 j1 j2 : Nat} (hc : cnt ≤ 16) (h0 : n0 < 16) (h1 : n1 < 16) (h2 : n2 < 16) (k0 : j0 < 16) (k1 : j1 < 16) (k2 : j2 < 16) :
    runStep (stOf cnt n0 n1 n2) (16 * (16 * (16 * 0 + j2) + j1) + j0) =
      stOf (cnt + nibC n2 (nibC n1 (nibC n0 0 j0) j1) j2) (nibS n0 0 j0) (nibS n1 (nibC n0 0 j0) j1) (nibS n2 (nibC n1 (nibC n0 0 j0) j1) j2) := by
  have a0 := nibC_lt h0 (show 0 < 2 by decide) k0
  have a1 := nibC_lt h1 a0 k1
  have a2 := nibC_lt h2 a1 k2
  rw [runStep_C]
  unfold stOf
  rw [stepC_nib h0 k0, stepC_nib h1 k1, stepC_nib h2 k2]
  have e := ones_fin ⟨_, a2⟩ ⟨cnt, by omega⟩
  simp only at e
  rw [e]
theorem shr_fin : ∀ (c : Fin 2) (k : Fin 17), (2 ^ (k.val + c.val) - 1) >>> k.val = c.val := by decide +kernel
theorem stOf_shr {cnt c n0 n1 n2 : Nat} (hc : cnt ≤ 16) (h : c < 2) (h0 : n0 < 16) (h1 : n1 < 16) (h2 : n2 < 16) : stOf (cnt + c) n0 n1 n2 >>> (12 + cnt) = c := by
  rw [Nat.shiftRight_add]
  have e : stOf (cnt + c) n0 n1 n2 >>> 12 = 2 ^ (cnt + c) - 1 := by
    rw [Nat.shiftRight_eq_div_pow]
    unfold stOf
    generalize 2 ^ (cnt + c) - 1 = q
    lia
  rw [e]
  exact shr_fin ⟨c, h⟩ ⟨cnt, by omega⟩
end Mine
end PartPNib
section PartPSgn
namespace Mine
/-- a sign of the word under a sign of the other: its four masks' nibbles, at cost k -/
noncomputable def jm (k i : Nat) : Nat := if i = 0 then 1 else if i = 1 then 2 else if i = 2 then (if k < 2 then 4 else 0) else (if k < 1 then 8 else 0)
structure C4 where
  a : Nat
  b : Nat
  c : Nat
  d : Nat
deriving DecidableEq
noncomputable def C4.sum (x : C4) : Nat := x.a + x.b + x.c + x.d
noncomputable def sgnS (n : Nat) (x : C4) (k : Nat) : Nat := nibS (nibS (nibS (nibS n x.a (jm k 0)) x.b (jm k 1)) x.c (jm k 2)) x.d (jm k 3)
noncomputable def sgnC (n : Nat) (x : C4) (k : Nat) : C4 :=
  let s1 := nibS n x.a (jm k 0)
  let s2 := nibS s1 x.b (jm k 1)
  let s3 := nibS s2 x.c (jm k 2)
  ⟨nibC n x.a (jm k 0), nibC s1 x.b (jm k 1), nibC s2 x.c (jm k 2), nibC s3 x.d (jm k 3)⟩
noncomputable def okV : List Nat := [0, 1, 3, 4, 5, 7, 8, 9, 11, 12, 13, 15]
noncomputable def okC : List C4 := [⟨0, 0, 0, 0⟩, ⟨0, 0, 0, 1⟩, ⟨0, 0, 1, 0⟩, ⟨0, 0, 1, 1⟩, ⟨0, 1, 0, 0⟩, ⟨0, 1, 0, 1⟩, ⟨0, 1, 1, 0⟩, ⟨0, 1, 1, 1⟩, ⟨1, 1, 0, 0⟩, ⟨1, 1, 0, 1⟩, ⟨1, 1, 1, 0⟩, ⟨1, 1, 1, 1⟩]
/-- the noughts of a nibble -/
noncomputable def zer (n : Nat) : Int := 4 - (n : Int) % 2 - (n : Int) / 2 % 2 - (n : Int) / 4 % 2 - (n : Int) / 8 % 2
noncomputable def mid (n : Nat) (x : C4) (k : Nat) : Int := min (k : Int) (min (2 - zer n) (2 - (x.sum : Int)) + 2)
theorem sgn_fin : ∀ n ∈ okV, ∀ x ∈ okC, ∀ k ∈ [0, 1, 2], sgnS n x k ∈ okV ∧ sgnC n x k ∈ okC ∧ zer (sgnS n x k) = 4 - (x.sum : Int) - mid n x k ∧ ((sgnC n x k).sum : Int) = 4 - zer n - mid n x k := by decide +kernel
theorem okV_lt : ∀ n ∈ okV, n < 16 := by decide
theorem okC_lt : ∀ x ∈ okC, x.a < 2 ∧ x.b < 2 ∧ x.c < 2 ∧ x.d < 2 := by decide
theorem jm_lt (k i : Nat) : jm k i < 16 := by unfold jm; (repeat' split) <;> omega (config := {})
theorem mid_nib {n x k} (hn : n < 16) (hx : x < 2) (i : Nat) : nibS n x (jm k i) < 16 ∧ nibC n x (jm k i) < 2 := ⟨nibS_lt hn hx (jm_lt k i), nibC_lt hn hx (jm_lt k i)⟩
/-- the cost of two marks -/
noncomputable def mcost (a b : Nat) : Nat := if a = b then 0 else if a / 2 = b / 2 then 1 else 2
theorem mask_fin : ∀ a b c y : Fin 4, masksN a.val b.val c.val y.val = [0, 1, 2, 3].map fun i => 16 * (16 * (16 * 0 + jm (mcost c.val y.val) i) + jm (mcost b.val y.val) i) + jm (mcost a.val y.val) i := by decide +kernel
end Mine
end PartPSgn
section PartPRunD
namespace Mine
theorem run_one {cnt n0 n1 n2 j0 j1 j2 : Nat} {rest ca : List Nat} (hca : ca.sum = cnt) (hc : cnt ≤ 16) (h0 : n0 < 16) (h1 : n1 < 16) (h2 : n2 < 16) (k0 : j0 < 16) (k1 : j1 < 16) (k2 : j2 < 16) :
    runGo ((16 * (16 * (16 * 0 + j2) + j1) + j0) :: rest) (stOf cnt n0 n1 n2) ca =
      runGo rest (stOf (cnt + nibC n2 (nibC n1 (nibC n0 0 j0) j1) j2) (nibS n0 0 j0) (nibS n1 (nibC n0 0 j0) j1) (nibS n2 (nibC n1 (nibC n0 0 j0) j1) j2)) (ca ++ [nibC n2 (nibC n1 (nibC n0 0 j0) j1) j2]) := by
  have a0 := nibC_lt h0 (show 0 < 2 by decide) k0
  have a1 := nibC_lt h1 a0 k1
  have a2 := nibC_lt h2 a1 k2
  have b0 := nibS_lt h0 (show 0 < 2 by decide) k0
  have b1 := nibS_lt h1 a0 k1
  have b2 := nibS_lt h2 a1 k2
  show runGo rest (runStep _ _) (ca ++ [runStep _ _ >>> (12 + ca.sum)]) = _
  rw [run_nib hc h0 h1 h2 k0 k1 k2, hca, stOf_shr hc a2 b0 b1 b2]
noncomputable def X0 : C4 := ⟨0, 0, 0, 0⟩
theorem run_sign {cnt n0 n1 n2 a b c y : Nat} {rest ca : List Nat} (hca : ca.sum = cnt) (hc : cnt ≤ 12) (h0 : n0 < 16) (h1 : n1 < 16) (h2 : n2 < 16) (ha : a < 4) (hb : b < 4) (hcc : c < 4) (hy : y < 4) :
    runGo (masksN a b c y ++ rest) (stOf cnt n0 n1 n2) ca =
      runGo rest (stOf (cnt + (sgnC n2 (sgnC n1 (sgnC n0 X0 (mcost a y)) (mcost b y)) (mcost c y)).sum) (sgnS n0 X0 (mcost a y)) (sgnS n1 (sgnC n0 X0 (mcost a y)) (mcost b y)) (sgnS n2 (sgnC n1 (sgnC n0 X0 (mcost a y)) (mcost b y)) (mcost c y)))
        (ca ++ [(sgnC n2 (sgnC n1 (sgnC n0 X0 (mcost a y)) (mcost b y)) (mcost c y)).a, (sgnC n2 (sgnC n1 (sgnC n0 X0 (mcost a y)) (mcost b y)) (mcost c y)).b, (sgnC n2 (sgnC n1 (sgnC n0 X0 (mcost a y)) (mcost b y)) (mcost c y)).c, (sgnC n2 (sgnC n1 (sgnC n0 X0 (mcost a y)) (mcost b y)) (mcost c y)).d]) := by
  have e := mask_fin ⟨a, ha⟩ ⟨b, hb⟩ ⟨c, hcc⟩ ⟨y, hy⟩
  simp only [List.map] at e
  rw [e]
  generalize mcost a y = ka
  generalize mcost b y = kb
  generalize mcost c y = kc
  simp only [List.cons_append, List.nil_append]
  -- the four masks, one by one
  have st : ∀ {cnt n0 n1 n2 : Nat} {rest ca : List Nat} (i : Nat), ca.sum = cnt → cnt ≤ 16 → n0 < 16 → n1 < 16 → n2 < 16 →
      runGo ((16 * (16 * (16 * 0 + jm kc i) + jm kb i) + jm ka i) :: rest) (stOf cnt n0 n1 n2) ca =
      runGo rest (stOf (cnt + nibC n2 (nibC n1 (nibC n0 0 (jm ka i)) (jm kb i)) (jm kc i)) (nibS n0 0 (jm ka i)) (nibS n1 (nibC n0 0 (jm ka i)) (jm kb i)) (nibS n2 (nibC n1 (nibC n0 0 (jm ka i)) (jm kb i)) (jm kc i))) (ca ++ [nibC n2 (nibC n1 (nibC n0 0 (jm ka i)) (jm kb i)) (jm kc i)]) := fun i e1 e2 e3 e4 e5 => run_one e1 e2 e3 e4 e5 (jm_lt _ _) (jm_lt _ _) (jm_lt _ _)
  have z2 : (0 : Nat) < 2 := by decide
  have p0 := nibC_lt h0 z2 (jm_lt ka 0)
  have p1 := nibC_lt h1 p0 (jm_lt kb 0)
  have p2 := nibC_lt h2 p1 (jm_lt kc 0)
  have q0 := nibS_lt h0 z2 (jm_lt ka 0)
  have q1 := nibS_lt h1 p0 (jm_lt kb 0)
  have q2 := nibS_lt h2 p1 (jm_lt kc 0)
  rw [st 0 hca (by lia) h0 h1 h2]
  have r0 := nibC_lt q0 z2 (jm_lt ka 1)
  have r1 := nibC_lt q1 r0 (jm_lt kb 1)
  have r2 := nibC_lt q2 r1 (jm_lt kc 1)
  have s0 := nibS_lt q0 z2 (jm_lt ka 1)
  have s1 := nibS_lt q1 r0 (jm_lt kb 1)
  have s2 := nibS_lt q2 r1 (jm_lt kc 1)
  rw [st 1 (by rw [List.sum_append, hca]; simp) (by lia) q0 q1 q2]
  have t0 := nibC_lt s0 z2 (jm_lt ka 2)
  have t1 := nibC_lt s1 t0 (jm_lt kb 2)
  have t2 := nibC_lt s2 t1 (jm_lt kc 2)
  have u0 := nibS_lt s0 z2 (jm_lt ka 2)
  have u1 := nibS_lt s1 t0 (jm_lt kb 2)
  have u2 := nibS_lt s2 t1 (jm_lt kc 2)
  rw [st 2 (by rw [List.sum_append, List.sum_append, hca]; simp) (by lia) s0 s1 s2]
  rw [st 3 (by rw [List.sum_append, List.sum_append, List.sum_append, hca]; simp) (by lia) u0 u1 u2]
  simp only [List.append_assoc, List.cons_append, List.nil_append, sgnC, sgnS, X0, C4.sum, Nat.add_assoc]
end Mine
end PartPRunD
section PartPRow
namespace Mine
theorem mcost_mem (a b : Nat) : mcost a b ∈ [0, 1, 2] := by unfold mcost; (repeat' split) <;> simp
noncomputable def mc (a b : Nat) : Int := (mcost a b : Nat)
/-- one cell of the table, told by the nibble and the carries -/
theorem add_min (E a b : Int) : E + min a b = min (E + a) (E + b) :=
  (Int.le_total a b).elim (fun h => by rw [Int.min_eq_left h, Int.min_eq_left (Int.add_le_add_left h E)]) (fun h => by rw [Int.min_eq_right h, Int.min_eq_right (Int.add_le_add_left h E)])
theorem sgn_min (E m z cs : Int) : min (E + m) (min (E + 2 - cs) (E + 2 - z) + 2) = E + min m (min (2 - z) (2 - cs) + 2) := by
  rw [add_min, ← Int.add_assoc, add_min, Int.min_comm (E + (2 - z)), ← Int.add_sub_assoc, ← Int.add_sub_assoc]
theorem lin1 (E c M : Int) : E + M = E + 2 - c + 2 - (4 - c - M) := by omega (config := {})
theorem cell_sgn {a u : List Nat} {x y n : Nat} {c : C4} (hn : n ∈ okV) (hc : c ∈ okC) (h1 : ed mc (a ++ [x]) u = ed mc a u + 2 - zer n) (h2 : ed mc a (u ++ [y]) = ed mc a u + 2 - (c.sum : Int)) :
    sgnS n c (mcost x y) ∈ okV ∧ sgnC n c (mcost x y) ∈ okC ∧ ed mc (a ++ [x]) (u ++ [y]) = ed mc a (u ++ [y]) + 2 - zer (sgnS n c (mcost x y)) ∧ ed mc (a ++ [x]) (u ++ [y]) = ed mc (a ++ [x]) u + 2 - ((sgnC n c (mcost x y)).sum : Int) := by
  obtain ⟨g1, g2, g3, g4⟩ := sgn_fin n hn c hc (mcost x y) (mcost_mem x y)
  refine ⟨g1, g2, ?_, ?_⟩
  · rw [ed_snoc, g3, h1, h2]
    unfold mid
    exact (sgn_min _ _ _ _).trans (lin1 _ _ _)
  · rw [ed_snoc, g4, h1, h2]
    unfold mid
    exact (sgn_min _ _ _ _).trans (lin1 _ _ _)
structure RowInv (w0 w1 w2 : Nat) (u : List Nat) (n0 n1 n2 : Nat) : Prop where
  o0 : n0 ∈ okV
  o1 : n1 ∈ okV
  o2 : n2 ∈ okV
  e0 : ed mc [w0] u = 2 * (u.length : Int) + 2 - zer n0
  e1 : ed mc [w0, w1] u = ed mc [w0] u + 2 - zer n1
  e2 : ed mc [w0, w1, w2] u = ed mc [w0, w1] u + 2 - zer n2
theorem rowInv0 (w0 w1 w2 : Nat) : RowInv w0 w1 w2 [] 15 15 15 := by
  refine ⟨by decide, by decide, by decide, ?_, ?_, ?_⟩ <;> simp only [ed_nil', List.length_cons, List.length_nil] <;> decide
theorem row_sgn {w0 w1 w2 n0 n1 n2 : Nat} {u : List Nat} (R : RowInv w0 w1 w2 u n0 n1 n2) (y : Nat) :
    RowInv w0 w1 w2 (u ++ [y]) (sgnS n0 X0 (mcost w0 y)) (sgnS n1 (sgnC n0 X0 (mcost w0 y)) (mcost w1 y)) (sgnS n2 (sgnC n1 (sgnC n0 X0 (mcost w0 y)) (mcost w1 y)) (mcost w2 y)) ∧
    sgnC n2 (sgnC n1 (sgnC n0 X0 (mcost w0 y)) (mcost w1 y)) (mcost w2 y) ∈ okC ∧
    ed mc [w0, w1, w2] (u ++ [y]) = ed mc [w0, w1, w2] u + 2 - ((sgnC n2 (sgnC n1 (sgnC n0 X0 (mcost w0 y)) (mcost w1 y)) (mcost w2 y)).sum : Int) := by
  have hl : ((u ++ [y]).length : Int) = u.length + 1 := by simp
  obtain ⟨a1, a2, a3, a4⟩ := cell_sgn (a := []) (x := w0) (y := y) (u := u) R.o0 (c := X0) (by decide) (by rw [List.nil_append, R.e0, ed_nil]) (by rw [ed_nil, ed_nil, hl]; show _ = _ - (((0 : Nat)) : Int); lia)
  simp only [List.nil_append] at a3 a4
  obtain ⟨b1, b2, b3, b4⟩ := cell_sgn (a := [w0]) (x := w1) (y := y) (u := u) R.o1 a2 (by exact R.e1) a4
  simp only [List.cons_append, List.nil_append] at b3 b4
  obtain ⟨c1, c2, c3, c4⟩ := cell_sgn (a := [w0, w1]) (x := w2) (y := y) (u := u) R.o2 b2 (by exact R.e2) b4
  simp only [List.cons_append, List.nil_append] at c3 c4
  refine ⟨⟨a1, b1, c1, ?_, b3, c3⟩, c2, c4⟩
  rw [a3, ed_nil]
end Mine
end PartPRow
section PartPMono
namespace Mine
noncomputable def leN (n m : Nat) : Bool := n &&& m == n
noncomputable def leC (x y : C4) : Bool := decide (x.a ≤ y.a) && decide (x.b ≤ y.b) && decide (x.c ≤ y.c) && decide (x.d ≤ y.d)
noncomputable def pairsV : List (Nat × Nat) := (okV.flatMap fun n => okV.map fun m => (n, m)).filter fun p => leN p.1 p.2
noncomputable def pairsC : List (C4 × C4) := (okC.flatMap fun n => okC.map fun m => (n, m)).filter fun p => leC p.1 p.2
theorem mono_fin : ∀ p ∈ pairsV, ∀ q ∈ pairsC, ∀ k ∈ [0, 1, 2], leN (sgnS p.1 q.1 k) (sgnS p.2 q.2 k) = true ∧ leC (sgnC p.1 q.1 k) (sgnC p.2 q.2 k) = true := by decide +kernel
theorem mem_pairsV {n m : Nat} (hn : n ∈ okV) (hm : m ∈ okV) (h : leN n m = true) : (n, m) ∈ pairsV := by
  unfold pairsV
  rw [List.mem_filter]
  exact ⟨List.mem_flatMap.mpr ⟨n, hn, List.mem_map.mpr ⟨m, hm, rfl⟩⟩, h⟩
theorem mem_pairsC {n m : C4} (hn : n ∈ okC) (hm : m ∈ okC) (h : leC n m = true) : (n, m) ∈ pairsC := by
  unfold pairsC
  rw [List.mem_filter]
  exact ⟨List.mem_flatMap.mpr ⟨n, hn, List.mem_map.mpr ⟨m, hm, rfl⟩⟩, h⟩
theorem mono {n m : Nat} {x y : C4} {k : Nat} (hn : n ∈ okV) (hm : m ∈ okV) (h : leN n m = true) (hx : x ∈ okC) (hy : y ∈ okC) (h2 : leC x y = true) (hk : k ∈ [0, 1, 2]) : leN (sgnS n x k) (sgnS m y k) = true ∧ leC (sgnC n x k) (sgnC m y k) = true :=
  mono_fin (n, m) (mem_pairsV hn hm h) (x, y) (mem_pairsC hx hy h2) k hk
theorem le15 : ∀ n ∈ okV, leN n 15 = true := by decide
theorem leC_refl0 : leC X0 X0 = true := by decide
end Mine
end PartPMono
section PartPRun2
namespace Mine
abbrev N3 := Nat × Nat × Nat
noncomputable def outC (w0 w1 w2 : Nat) (n : N3) (y : Nat) : C4 := sgnC n.2.2 (sgnC n.2.1 (sgnC n.1 X0 (mcost w0 y)) (mcost w1 y)) (mcost w2 y)
noncomputable def nxtN (w0 w1 w2 : Nat) (n : N3) (y : Nat) : N3 := (sgnS n.1 X0 (mcost w0 y), sgnS n.2.1 (sgnC n.1 X0 (mcost w0 y)) (mcost w1 y), sgnS n.2.2 (sgnC n.2.1 (sgnC n.1 X0 (mcost w0 y)) (mcost w1 y)) (mcost w2 y))
/-- what comes out, sign by sign -/
noncomputable def outs (w0 w1 w2 : Nat) : N3 → List Nat → List C4
  | _, [] => []
  | n, y :: ys => outC w0 w1 w2 n y :: outs w0 w1 w2 (nxtN w0 w1 w2 n y) ys
noncomputable def fins (w0 w1 w2 : Nat) : N3 → List Nat → N3
  | n, [] => n
  | n, y :: ys => fins w0 w1 w2 (nxtN w0 w1 w2 n y) ys
noncomputable def flatC (cs : List C4) : List Nat := (cs.map fun c => [c.a, c.b, c.c, c.d]).flatten
noncomputable def OkN (n : N3) : Prop := n.1 ∈ okV ∧ n.2.1 ∈ okV ∧ n.2.2 ∈ okV
theorem out_ok {w0 w1 w2 y : Nat} {n : N3} (h : OkN n) : OkN (nxtN w0 w1 w2 n y) ∧ outC w0 w1 w2 n y ∈ okC := by
  obtain ⟨a1, a2, _, _⟩ := sgn_fin n.1 h.1 X0 (by decide) (mcost w0 y) (mcost_mem _ _)
  obtain ⟨b1, b2, _, _⟩ := sgn_fin n.2.1 h.2.1 _ a2 (mcost w1 y) (mcost_mem _ _)
  obtain ⟨c1, c2, _, _⟩ := sgn_fin n.2.2 h.2.2 _ b2 (mcost w2 y) (mcost_mem _ _)
  exact ⟨⟨a1, b1, c1⟩, c2⟩
theorem outs_ok {w0 w1 w2 : Nat} : ∀ (ys : List Nat) (n : N3), OkN n → OkN (fins w0 w1 w2 n ys) ∧ ∀ c ∈ outs w0 w1 w2 n ys, c ∈ okC
  | [], n, h => ⟨h, fun c hc => nomatch hc⟩
  | y :: ys, n, h => by
    obtain ⟨h1, h2⟩ := out_ok (w0 := w0) (w1 := w1) (w2 := w2) (y := y) h
    obtain ⟨i1, i2⟩ := outs_ok ys _ h1
    exact ⟨i1, List.forall_mem_cons.mpr ⟨h2, i2⟩⟩
theorem outs_len (w0 w1 w2 : Nat) : ∀ (ys : List Nat) (n : N3), (outs w0 w1 w2 n ys).length = ys.length
  | [], _ => rfl
  | y :: ys, n => by rw [outs, List.length_cons, outs_len w0 w1 w2 ys, List.length_cons]
theorem flatC_cons (c : C4) (cs : List C4) : flatC (c :: cs) = [c.a, c.b, c.c, c.d] ++ flatC cs := rfl
theorem flatC_sum : ∀ cs : List C4, (flatC cs).sum = (cs.map C4.sum).sum
  | [] => rfl
  | c :: cs => by
    rw [flatC_cons, List.sum_append, flatC_sum cs, List.map_cons, List.sum_cons]
    simp [C4.sum, Nat.add_assoc]
theorem okC_sum : ∀ c ∈ okC, c.sum ≤ 4 := by decide
theorem run_all {w0 w1 w2 : Nat} (h0 : w0 < 4) (h1 : w1 < 4) (h2 : w2 < 4) : ∀ (ys : List Nat) (n : N3) (ca : List Nat) (cnt : Nat), (∀ y ∈ ys, y < 4) → OkN n → ca.sum = cnt → cnt + 4 * ys.length ≤ 16 →
    runGo (msOf w0 w1 w2 ys) (stOf cnt n.1 n.2.1 n.2.2) ca = (stOf (cnt + ((outs w0 w1 w2 n ys).map C4.sum).sum) (fins w0 w1 w2 n ys).1 (fins w0 w1 w2 n ys).2.1 (fins w0 w1 w2 n ys).2.2, ca ++ flatC (outs w0 w1 w2 n ys))
  | [], n, ca, cnt, _, _, _, _ => by simp [msOf, runGo, outs, fins, flatC]
  | y :: ys, n, ca, cnt, hy, hn, hca, hc => by
    obtain ⟨o1, o2⟩ := out_ok (w0 := w0) (w1 := w1) (w2 := w2) (y := y) hn
    rw [List.length_cons] at hc
    have e : msOf w0 w1 w2 (y :: ys) = masksN w0 w1 w2 y ++ msOf w0 w1 w2 ys := rfl
    rw [e, run_sign hca (by omega (config := {})) (okV_lt _ hn.1) (okV_lt _ hn.2.1) (okV_lt _ hn.2.2) h0 h1 h2 (hy y (.head _))]
    have hs := okC_sum _ o2
    have ih := run_all h0 h1 h2 ys (nxtN w0 w1 w2 n y) (ca ++ [(outC w0 w1 w2 n y).a, (outC w0 w1 w2 n y).b, (outC w0 w1 w2 n y).c, (outC w0 w1 w2 n y).d]) (cnt + (outC w0 w1 w2 n y).sum) (fun z hz => hy z (.tail _ hz)) o1 (by rw [List.sum_append, hca]; simp [C4.sum, Nat.add_assoc]) (by lia)
    refine Eq.trans ih ?_
    rw [outs, fins, List.map_cons, List.sum_cons, flatC_cons, List.append_assoc, Nat.add_assoc]
end Mine
end PartPRun2
section PartLK2
open PySem PySem.W PyProof.Rows PySem.Spec PySem.Calls
namespace Mine
/-- what a run from sign k on carries at mask i -/
noncomputable def bitN (ms : List Nat) (i k : Nat) : Nat := (caN ms k).getD (i - 4 * k) 0
/-- the first run that carries a one at mask i -/
noncomputable def firstN (ms : List Nat) (i : Nat) : Nat := ((List.range (i / 4 + 1)).filter fun k => bitN ms i k == 0).length
theorem firstN_le (ms : List Nat) (i : Nat) : firstN ms i ≤ i / 4 + 1 := by
  have := List.length_filter_le (fun k => bitN ms i k == 0) (List.range (i / 4 + 1))
  rw [List.length_range] at this
  exact this
theorem runGo_len : ∀ (ms : List Nat) (st : Nat) (ca : List Nat), (runGo ms st ca).2.length = ca.length + ms.length
  | [], _, _ => rfl
  | m :: ms, st, ca => by rw [runGo, runGo_len ms, List.length_append, List.length_cons, List.length_cons, List.length_nil]; lia
theorem caN_len (ms : List Nat) (k : Nat) : (caN ms k).length = ms.length - 4 * k := by
  unfold caN
  rw [runGo_len, List.length_drop]; simp
/-- the carried bits rise with the start -/
structure FirstOk (ms : List Nat) : Prop where
  lo : ∀ i k, i < 16 → k < firstN ms i → bitN ms i k = 0
  hi : ∀ i k, i < 16 → firstN ms i ≤ k → k < i / 4 + 1 → bitN ms i k = 1
theorem zs_getD (l : List Nat) (j : Nat) : (zs l).getD j 0 = ((l.getD j 0 : Nat) : Int) := by
  unfold zs
  rw [List.getD_eq_getElem?_getD, List.getD_eq_getElem?_getD, List.getElem?_map]
  cases l[j]? <;> rfl
theorem zs_bit {ms : List Nat} {i : Nat} (k : Nat) (h : 4 * k ≤ i) : (zs (caN ms k)).getD ((i : Int) - 4 * (k : Int)).toNat 0 = ((bitN ms i k : Nat) : Int) := by
  have e : ((i : Int) - 4 * (k : Int)).toNat = i - 4 * k := by lia
  rw [e, zs_getD]
  rfl
theorem allNe_of_lt {c : Nat} {l : List (Addr × Obj)} (h : AllLt c l) : AllNe c l := allNe_of fun q hq => Nat.ne_of_lt (allLt_mem h q hq)
/-- a code made in the loop: its name, and that it stands apart -/
noncomputable def TabOkS (q : Str) (l : List (Addr × Obj)) : Option (Addr × Obj) → Prop
  | none => True
  | some (c', oc) => (∃ fv tq, oc.data = .fields fv ∧ fv[1]? = some (.str q tq)) ∧ AllNe c' l
end Mine
namespace Mine
theorem offTab {T : Addr} {a b : Nat} {tb : Option (Addr × Obj)} {own l : List (Addr × Obj)} {q : Str} {adr : List Addr} {adr0 : List Addr} (h0 : OwnOff own adr0) (hsub : ∀ b ∈ adr, b ∈ adr0) (hT : ∀ b ∈ adr, @Ne Nat T b) (hl : ∀ b ∈ adr, b ∈ l.map (·.1)) (h : TabOkS q l tb) : OwnOff (tabL T a b tb ++ own) adr := by
  intro p hp c hc
  rcases List.mem_append.mp hp with hp | hp
  · cases tb with
    | none => rw [List.mem_singleton.mp hp]; exact hT c hc
    | some cc =>
      obtain ⟨c', oc⟩ := cc
      rcases List.mem_cons.mp hp with rfl | hp
      · exact hT c hc
      · rw [List.mem_singleton.mp hp]
        obtain ⟨q2, hq2, e⟩ := List.mem_map.mp (hl c hc)
        exact fun e2 => allNe_mem h.2 q2 hq2 (e.trans e2.symm)
  · exact h0 p hp c (hsub c hc)
end Mine
namespace Mine
theorem item_lst {prog : Program} {w : World} {A : Around} {E : Value → Shared → Prop} {s : Shared} {h₀ : Heap} {L l : Addr} {news : List (Addr × Obj)} {value slice : PySem.Expr} {vs : List Value} {k : Nat} {u : Tok} {v : Value} {Q : Value → Shared → Prop}
    (N : News h₀ L s.heap news) (hm : (l, LCg.lst vs) ∈ news) (hx : vs[k]? = some v) (hk : k < 1000) (h : Q v s)
    (hs : subscripted slice false (.ref l) (.int (k : Int) u) = operate [.ref l, .int (k : Int) u] (getItem (.ref l) (.int (k : Int) u)) := by with_unfolding_all rfl) :
    wpAny (model prog w) A (subscriptTail value slice (.ref l) (.int (k : Int) u)) Q E s := by
  have hl : s.heap.IsList l vs.toArray := News.isList N hm
  exact tail_any hl.typeIs slot_list_getitem.lookup (wpAny_getItem_list hl (by omega) (by omega) (by simpa using hx) h) hs
end Mine
namespace Mine
/-- the ones above the nibbles, four a digit -/
noncomputable def onesL (cnt : Nat) : List Nat := List.replicate (cnt / 4) 15 ++ (if 0 < cnt % 4 then [2 ^ (cnt % 4) - 1] else [])
/-- what the plain law tells of the masks -/
structure LawOk (w0 w1 w2 o0 o1 o2 o3 : Nat) (ms : List Nat) : Prop where
  fok : FirstOk ms
  car : ∀ s : Nat, s < 4 → ((zs ((List.range 16).map (firstN ms))).drop (4 * (s : Int)).toNat).map (fun k => if k ≤ (s : Int) then 1 else 0) = zs (caN ms s)
  dig : ∀ s : Nat, s < 4 → ∃ cnt d0 d1 d2 D, (zs (caN ms s)).sum = ((cnt : Nat) : Int) ∧ cnt ≤ 12 ∧ D = 3 + (cnt + 3) / 4 ∧ 16 ^ (D - 1) ≤ stN ms s ∧ stN ms s < 16 ^ D ∧ digs D (stN ms s) = d0 :: d1 :: d2 :: onesL cnt ∧ d0 < 16 ∧ d1 < 16 ∧ d2 < 16 ∧ zer d0 + zer d1 + zer d2 = ((cnt : Nat) : Int) ∧
    lev cost1 ([cod o0, cod o1, cod o2, cod o3].drop s) [cod w0] (2 * (1 + 4 - (s : Int)) - zer d0 + ((s : Int) + 1) % 3 - 1) = 2 * (1 + 4 - (s : Int)) - zer d0 ∧
    lev cost1 ([cod o0, cod o1, cod o2, cod o3].drop s) [cod w0, cod w1] (2 * (2 + 4 - (s : Int)) - (zer d0 + zer d1) + ((s : Int) + 2) % 3 - 1) = 2 * (2 + 4 - (s : Int)) - (zer d0 + zer d1)
  due : ∀ s e : Nat, s < e → e ≤ 4 → lev cost1 [cod w0, cod w1, cod w2] (([cod o0, cod o1, cod o2, cod o3].drop s).take (e - s)) (2 * (3 + (e : Int) - s) - below (((zs ((List.range 16).map (firstN ms))).drop (4 * s)).take (4 * e - 4 * s)) s + ((s : Int) + e) % 3 - 1) = 2 * (3 + (e : Int) - s) - below (((zs ((List.range 16).map (firstN ms))).drop (4 * s)).take (4 * e - 4 * s)) s
end Mine
namespace Mine
theorem ints_three {G : List Value → Prop} {vs : List Value} {d0 d1 d2 : Nat} {r : List Nat} (h : IntsAre vs (zs (d0 :: d1 :: d2 :: r))) (k : ∀ t0 t1 t2 vr, IntsAre vr (zs r) → G (.int (d0 : Int) t0 :: .int (d1 : Int) t1 :: .int (d2 : Int) t2 :: vr)) : G vs := by
  have h : IntsAre vs ((d0 : Int) :: (d1 : Int) :: (d2 : Int) :: zs r) := h
  refine ia_cons (G := fun v => G v) h fun t0 _ h => ?_
  refine ia_cons (G := fun v => G (.int (d0 : Int) t0 :: v)) h fun t1 _ h => ?_
  refine ia_cons (G := fun v => G (.int (d0 : Int) t0 :: .int (d1 : Int) t1 :: v)) h fun t2 vr h => ?_
  exact k t0 t1 t2 vr h
theorem i2dF {w : World} {p : Program} {loose : List Str} {mean : ExcName → Option Value} {mg mb : Str → Option Value} {dp un : Nat} {gd : Option (List Code)} {cn : Str} {cs : Scope} {a : Addr} {ccd : Value} {cl : List (Str × Addr)} {outer : List Env} {A₀ : Around} {base h₀ : Heap} {L : Addr} {m : Str → Option Value} {news : List (Addr × Obj)} {s : Shared} {Q E : Value → Shared → Prop} {x D : Nat} {tx tn : Tok} {g : Obj → List (Addr × Obj)} (B : Below A₀ base outer h₀) (F : Fr h₀ L s.heap m) (X : (K2 w.params).In h₀) (N : News h₀ L s.heap news) (T : Top p loose mean mg mb h₀) (hk : cs.kind = .function) (hdp : dp + 12 < recursionLimit) (hun : un + 140 < cLine)
    (hx : 16 ^ (D - 1) ≤ x) (hx2 : x < 16 ^ D) (hD : 0 < D ∧ D ≤ 6) (C : CodeHd h₀ 34 30) (U : UpdF 30 (tabObj #[]) news g)
    (ret : ∀ ad vs k c' oc fv tq h' tk', Fr h₀ L h' m → News h₀ L h' ((ad, listOf vs.toArray k) :: (c', oc) :: g (tabO 53 4 c')) → IntsAre vs (zs (digs D x)) → oc.data = .fields fv → fv[1]? = some (.str (Str.ofString "_int2digits.<locals>.inner") tq) → (∀ q ∈ news, @Ne Nat q.1 c' ∧ @Ne Nat q.1 ad) → @Ne Nat c' ad → Q (.ref ad) { s with heap := h', toks := tk' }) :
    wpAny (model PySem.Challenge.rw_pu0036_01.row.prog w) (ktrTop dp un gd cn cs L a ccd cl outer) (call (.ref 35) [.int (x : Int) tx, .int 4 tn]) Q E s := by
  have h30 : (30, tabObj #[]) ∈ news := by
    obtain ⟨pre, post, rfl, _⟩ := U.split
    exact List.mem_append_right _ (.head _)
  refine i2d_any (tb := none) (rest := less [30] news) B F X N T hk hdp hun hx hx2 hD C (List.forall_mem_cons.mpr ⟨h30, List.forall_mem_nil _⟩) (fun c hc => nomatch hc) (fun q hq => ⟨((Minus.less [30] news).one q hq).1, ((Minus.less [30] news).one q hq).2, fun c hc => nomatch hc⟩) ?_
  intro ad vs k c' oc fv tq h' tk' F9 N9 hi hoc hfv l1 l2 l3 l4 _
  refine ret ad vs k c' oc fv tq h' tk' F9 ?_ hi hoc hfv ?_ l2
  · have N10 : News h₀ L h' ((30, tabO 53 4 c') :: ([] : List (Addr × Obj)) ++ less (30 :: ([] : List (Addr × Obj)).map (·.1)) news) := fun q hq => N9 q (by
      rcases List.mem_cons.mp hq with rfl | hq
      · exact .tail _ (.head _)
      · exact .tail _ (.tail _ (.tail _ hq)))
    have N11 := news_turn N U (List.forall_mem_nil _) (List.not_mem_nil) N10
    exact List.forall_mem_cons.mpr ⟨N9 _ (.head _), List.forall_mem_cons.mpr ⟨N9 _ (.tail _ (.tail _ (.head _))), N11⟩⟩
  · intro q hq
    by_cases e1 : q.1 = 30
    · rw [e1]; exact ⟨l1, l3⟩
    · refine l4 q (List.mem_filter.mpr ⟨hq, ?_⟩)
      rw [List.contains_cons, List.contains_nil, beq_eq_false_iff_ne.mpr e1]
      rfl
end Mine
namespace Mine
theorem onesL_len {cnt : Nat} (h : cnt ≤ 12) : (onesL cnt).length ≤ 4 := by
  unfold onesL
  rw [List.length_append, List.length_replicate]
  split
  · simp; omega
  · simp; omega
end Mine
namespace Mine
theorem ints_zer {G : List Value → Prop} {ys : List Value} {d0 d1 d2 : Nat} (h : IntsAre ys ([(d0 : Int), (d1 : Int), (d2 : Int)].map fun k => 4 - k % 2 - k / 2 % 2 - k / 4 % 2 - k / 8 % 2)) (k : ∀ t0 t1 t2, G [.int (zer d0) t0, .int (zer d1) t1, .int (zer d2) t2]) : G ys := by
  have h : IntsAre ys [zer d0, zer d1, zer d2] := h
  refine ia_cons (G := fun v => G v) h fun t0 _ h => ?_
  refine ia_cons (G := fun v => G (.int (zer d0) t0 :: v)) h fun t1 _ h => ?_
  refine ia_cons (G := fun v => G (.int (zer d0) t0 :: .int (zer d1) t1 :: v)) h fun t2 vr h => ?_
  exact ia_nil (G := fun v => G (.int (zer d0) t0 :: .int (zer d1) t1 :: .int (zer d2) t2 :: v)) h (k t0 t1 t2)
end Mine
namespace Mine
theorem ones_fin9 : ∀ cnt : Fin 13, (List.replicate (((cnt.val : Nat) : Int).fdiv 4).toNat [(15 : Int)]).flatten ++ (List.replicate (if decide (0 < ((cnt.val : Nat) : Int).fmod 4) = true then (1 : Int) else 0).toNat [(2 : Int) ^ (((cnt.val : Nat) : Int).fmod 4).toNat - 1]).flatten = zs (onesL cnt.val) := by decide +kernel
theorem ones_is {cnt : Nat} (h : cnt ≤ 12) : (List.replicate (((cnt : Nat) : Int).fdiv 4).toNat [(15 : Int)]).flatten ++ (List.replicate (if decide (0 < ((cnt : Nat) : Int).fmod 4) = true then (1 : Int) else 0).toNat [(2 : Int) ^ (((cnt : Nat) : Int).fmod 4).toNat - 1]).flatten = zs (onesL cnt) := ones_fin9 ⟨cnt, by omega⟩
end Mine
namespace Mine
theorem range_sz (a b : Int) : Builtin.Range.rangeSize a b 1 = (((b - a).toNat : Nat) : Int) := by
  unfold Builtin.Range.rangeSize
  simp
  lia
end Mine
namespace Mine
theorem below_perm {a b : List Int} (h : a.Perm b) (x : Int) : below a x = below b x := (h.filter _).length_eq
end Mine
namespace Mine
theorem offApp {own : List (Addr × Obj)} {a b : List Addr} (h1 : OwnOff own a) (h2 : OwnOff own b) : OwnOff own (a ++ b) := fun p hp c hc => (List.mem_append.mp hc).elim (h1 p hp c) (h2 p hp c)
end Mine
namespace Mine
theorem tabL_ps (T : Addr) (a b : Nat) (tb : Option (Addr × Obj)) : ∃ ps, (T, tabObj ps) ∈ tabL T a b tb := by
  cases tb with
  | none => exact ⟨_, .head _⟩
  | some cc => obtain ⟨c', oc⟩ := cc; exact ⟨_, .head _⟩
end Mine
namespace Mine
theorem item_ints {prog : Program} {w : World} {A : Around} {E : Value → Shared → Prop} {s : Shared} {h₀ : Heap} {L l : Addr} {news : List (Addr × Obj)} {value slice : PySem.Expr} {vs : List Value} {ns : List Int} {k : Nat} {x : Int} {u : Tok} {Q : Value → Shared → Prop}
    (N : News h₀ L s.heap news) (hm : (l, listOf vs.toArray k) ∈ news) (hv : IntsAre vs ns) (h0 : 0 ≤ x) (h1 : x < ns.length) (h2 : x < 2 ^ 63) (h : ∀ t, Q (.int (ns.getD x.toNat 0) t) s)
    (hs : subscripted slice false (.ref l) (.int x u) = operate [.ref l, .int x u] (getItem (.ref l) (.int x u)) := by with_unfolding_all rfl) :
    wpAny (model prog w) A (subscriptTail value slice (.ref l) (.int x u)) Q E s :=
  item_anyK (isListOf N hm) hv h0 h1 h2 h hs
end Mine
namespace Mine
theorem item_tup {prog : Program} {w : World} {A : Around} {E : Value → Shared → Prop} {s : Shared} {h₀ : Heap} {L l : Addr} {news : List (Addr × Obj)} {value slice : PySem.Expr} {vs : List Value} {x : Int} {j : Nat} {u : Tok} {v : Value} {Q : Value → Shared → Prop}
    (N : News h₀ L s.heap news) (hm : (l, tupOf vs.toArray) ∈ news) (h0 : -(2 ^ 63) ≤ x) (h1 : x < 2 ^ 63) (hj : seqIndex? x vs.length = some j) (hx : vs[j]? = some v) (h : Q v s)
    (hs : subscripted slice false (.ref l) (.int x u) = operate [.ref l, .int x u] (getItem (.ref l) (.int x u)) := by with_unfolding_all rfl) :
    wpAny (model prog w) A (subscriptTail value slice (.ref l) (.int x u)) Q E s :=
  item_tupleT (News.isTup N hm) h0 h1 hj hx h hs
end Mine
namespace Mine
theorem ofGenC {σ : Type} {h₀ : Heap} {L : Addr} {s : Shared} {Led : σ → List (Addr × Obj)} {ps : σ → List (Str × Value)} {stored : List Str} {m₀ : Str → Option Value} {P : σ → Prop} {Q R : Flow → Shared → Prop} {s₂ : Shared} (e : R = CutPost h₀ L s Led ps stored m₀ P Q) (h : CutEnd h₀ L s Led ps stored m₀ P s₂) : R .next s₂ := e ▸ h
theorem ofGenF {σ : Type} {h₀ : Heap} {L : Addr} {s : Shared} {Led : σ → List (Addr × Obj)} {ps : σ → List (Str × Value)} {stored : List Str} {m₀ : Str → Option Value} {own : List (Addr × Obj)} {P : σ → Prop} {Q R : Flow → Shared → Prop} {s₂ : Shared} (e : R = FgPost h₀ L s Led ps stored m₀ own P Q) (h : FgEnd h₀ L s Led ps stored m₀ own P s₂) : R .next s₂ := e ▸ h
end Mine
end PartLK2
section PartPAll
namespace Mine
theorem masksN_len (w0 w1 w2 k : Nat) : (masksN w0 w1 w2 k).length = 4 := rfl
theorem msOf_drop (w0 w1 w2 : Nat) : ∀ (k : Nat) (os : List Nat), (msOf w0 w1 w2 os).drop (4 * k) = msOf w0 w1 w2 (os.drop k)
  | 0, _ => rfl
  | k + 1, [] => by simp [msOf]
  | k + 1, o :: os => by
    have e : msOf w0 w1 w2 (o :: os) = masksN w0 w1 w2 o ++ msOf w0 w1 w2 os := rfl
    rw [e, List.drop_succ_cons, ← msOf_drop w0 w1 w2 k os, show 4 * (k + 1) = 4 + 4 * k by lia, ← List.drop_drop]
    rfl
noncomputable def N15 : N3 := (15, 15, 15)
theorem okN15 : OkN N15 := ⟨by decide, by decide, by decide⟩
section
variable {w0 w1 w2 : Nat} (h0 : w0 < 4) (h1 : w1 < 4) (h2 : w2 < 4)
include h0 h1 h2
theorem run_from {os : List Nat} (ho : ∀ y ∈ os, y < 4) (hl : os.length ≤ 4) (k : Nat) :
    caN (msOf w0 w1 w2 os) k = flatC (outs w0 w1 w2 N15 (os.drop k)) ∧
    stN (msOf w0 w1 w2 os) k = stOf ((outs w0 w1 w2 N15 (os.drop k)).map C4.sum).sum (fins w0 w1 w2 N15 (os.drop k)).1 (fins w0 w1 w2 N15 (os.drop k)).2.1 (fins w0 w1 w2 N15 (os.drop k)).2.2 := by
  have e := run_all h0 h1 h2 (os.drop k) N15 [] 0 (fun y hy => ho y (List.mem_of_mem_drop hy)) okN15 rfl (by rw [List.length_drop]; omega (config := {}))
  have e15 : stOf 0 N15.1 N15.2.1 N15.2.2 = 4095 := by decide
  rw [e15, Nat.zero_add, List.nil_append] at e
  unfold caN stN
  rw [msOf_drop, e]
  exact ⟨rfl, rfl⟩
end
theorem row_all {w0 w1 w2 : Nat} : ∀ (ys u : List Nat) (n : N3), RowInv w0 w1 w2 u n.1 n.2.1 n.2.2 →
    RowInv w0 w1 w2 (u ++ ys) (fins w0 w1 w2 n ys).1 (fins w0 w1 w2 n ys).2.1 (fins w0 w1 w2 n ys).2.2 ∧
    ∀ i, i ≤ ys.length → ed mc [w0, w1, w2] (u ++ ys.take i) = ed mc [w0, w1, w2] u + 2 * (i : Int) - ((((outs w0 w1 w2 n ys).take i).map C4.sum).sum : Nat)
  | [], u, n, R => by
    refine ⟨by rw [List.append_nil]; exact R, fun i hi => ?_⟩
    have : i = 0 := by simpa using hi
    subst this
    simp [outs]
  | y :: ys, u, n, R => by
    obtain ⟨R1, _, E1⟩ := row_sgn R y
    obtain ⟨R2, E2⟩ := row_all ys (u ++ [y]) (nxtN w0 w1 w2 n y) R1
    refine ⟨by have := R2; rw [List.append_assoc] at this; exact this, fun i hi => ?_⟩
    cases i with
    | zero => simp
    | succ i =>
      have e := E2 i (by simpa using hi)
      rw [List.append_assoc, E1] at e
      rw [List.take_succ_cons, outs, List.take_succ_cons, List.map_cons, List.sum_cons]
      refine Eq.trans e ?_
      unfold outC
      lia
theorem digs_ones : ∀ cnt : Fin 13, digs ((cnt.val + 3) / 4) (2 ^ cnt.val - 1) = onesL cnt.val := by decide +kernel
end Mine
end PartPAll
section PartPFirst
namespace Mine
noncomputable def leN3 (n m : N3) : Prop := leN n.1 m.1 = true ∧ leN n.2.1 m.2.1 = true ∧ leN n.2.2 m.2.2 = true
theorem step_mono {w0 w1 w2 y : Nat} {n m : N3} (hn : OkN n) (hm : OkN m) (h : leN3 n m) : leN3 (nxtN w0 w1 w2 n y) (nxtN w0 w1 w2 m y) ∧ leC (outC w0 w1 w2 n y) (outC w0 w1 w2 m y) = true := by
  obtain ⟨a1, a2, _, _⟩ := sgn_fin n.1 hn.1 X0 (by decide) (mcost w0 y) (mcost_mem _ _)
  obtain ⟨b1, b2, _, _⟩ := sgn_fin n.2.1 hn.2.1 _ a2 (mcost w1 y) (mcost_mem _ _)
  obtain ⟨a3, a4, _, _⟩ := sgn_fin m.1 hm.1 X0 (by decide) (mcost w0 y) (mcost_mem _ _)
  obtain ⟨b3, b4, _, _⟩ := sgn_fin m.2.1 hm.2.1 _ a4 (mcost w1 y) (mcost_mem _ _)
  obtain ⟨p1, p2⟩ := mono (k := mcost w0 y) hn.1 hm.1 h.1 (x := X0) (y := X0) (by decide) (by decide) leC_refl0 (mcost_mem _ _)
  obtain ⟨q1, q2⟩ := mono (k := mcost w1 y) hn.2.1 hm.2.1 h.2.1 a2 a4 p2 (mcost_mem _ _)
  obtain ⟨r1, r2⟩ := mono (k := mcost w2 y) hn.2.2 hm.2.2 h.2.2 b2 b4 q2 (mcost_mem _ _)
  exact ⟨⟨p1, q1, r1⟩, r2⟩
theorem outs_mono {w0 w1 w2 : Nat} : ∀ (ys : List Nat) (n m : N3) (j : Nat), OkN n → OkN m → leN3 n m → leC ((outs w0 w1 w2 n ys).getD j X0) ((outs w0 w1 w2 m ys).getD j X0) = true
  | [], _, _, j, _, _, _ => by simp [outs]; decide
  | y :: ys, n, m, 0, hn, hm, h => by
    simpa [outs] using (step_mono (w0 := w0) (w1 := w1) (w2 := w2) (y := y) hn hm h).2
  | y :: ys, n, m, j + 1, hn, hm, h => by
    have ih := outs_mono (w0 := w0) (w1 := w1) (w2 := w2) ys _ _ j (out_ok (w0 := w0) (w1 := w1) (w2 := w2) (y := y) hn).1 (out_ok (w0 := w0) (w1 := w1) (w2 := w2) (y := y) hm).1 (step_mono hn hm h).1
    simpa [outs] using ih
theorem outs_app {w0 w1 w2 : Nat} : ∀ (a b : List Nat) (n : N3), outs w0 w1 w2 n (a ++ b) = outs w0 w1 w2 n a ++ outs w0 w1 w2 (fins w0 w1 w2 n a) b
  | [], _, _ => rfl
  | y :: a, b, n => by rw [List.cons_append, outs, outs_app a b, outs, fins, List.cons_append]
noncomputable def comp (r : Nat) (c : C4) : Nat := if r = 0 then c.a else if r = 1 then c.b else if r = 2 then c.c else c.d
theorem flat_get : ∀ (cs : List C4) (j r : Nat), r < 4 → (flatC cs).getD (4 * j + r) 0 = comp r (cs.getD j X0)
  | [], j, r, _ => by simp [flatC, comp, X0]
  | c :: cs, 0, r, h => by
    rw [flatC_cons]
    match r, h with
    | 0, _ => rfl
    | 1, _ => rfl
    | 2, _ => rfl
    | 3, _ => rfl
  | c :: cs, j + 1, r, h => by
    have ih := flat_get cs j r h
    rw [flatC_cons, show 4 * (j + 1) + r = 4 + (4 * j + r) by lia]
    rw [List.getD_eq_getElem?_getD, List.getElem?_append_right (by simp)]
    simp only [List.length_cons, List.length_nil, Nat.zero_add, Nat.reduceAdd, Nat.add_sub_cancel_left, List.getD_cons_succ]
    rw [← ih, List.getD_eq_getElem?_getD]
theorem comp_le {x y : C4} (h : leC x y = true) (r : Nat) : comp r x ≤ comp r y := by
  unfold leC at h
  simp only [Bool.and_eq_true, decide_eq_true_eq] at h
  unfold comp
  (repeat' split) <;> lia
theorem comp_one : ∀ c ∈ okC, c.a ≤ 1 ∧ c.b ≤ 1 ∧ c.c ≤ 1 ∧ c.d ≤ 1 := by decide
theorem comp_le1 {c : C4} (h : c ∈ okC) (r : Nat) : comp r c ≤ 1 := by
  obtain ⟨h1, h2, h3, h4⟩ := comp_one c h
  unfold comp
  (repeat' split) <;> omega (config := {})
theorem getD_mem {cs : List C4} (h : ∀ c ∈ cs, c ∈ okC) (j : Nat) : cs.getD j X0 ∈ okC := by
  rw [List.getD_eq_getElem?_getD]
  cases e : cs[j]? with
  | none => decide
  | some c => exact h c (List.mem_of_getElem? e)
theorem le15N {n : N3} (h : OkN n) : leN3 n N15 := ⟨le15 _ h.1, le15 _ h.2.1, le15 _ h.2.2⟩
noncomputable def cutN (f : Nat → Nat) (n : Nat) : Nat := ((List.range n).filter fun k => f k == 0).length
theorem cutN_le (f : Nat → Nat) (n : Nat) : cutN f n ≤ n := by
  have := List.length_filter_le (fun k => f k == 0) (List.range n)
  rw [List.length_range] at this
  exact this
theorem cut_spec (f : Nat → Nat) : ∀ n, (∀ k k', k ≤ k' → k' < n → f k ≤ f k') → (∀ k, k < n → f k ≤ 1) → (∀ k, k < cutN f n → f k = 0) ∧ ∀ k, cutN f n ≤ k → k < n → f k = 1
  | 0, _, _ => ⟨fun k h => by simp [cutN] at h, fun k _ h => absurd h (Nat.not_lt_zero k)⟩
  | n + 1, hm, h1 => by
    obtain ⟨i1, i2⟩ := cut_spec f n (fun k k' a b => hm k k' a (by omega (config := {}))) fun k a => h1 k (by omega (config := {}))
    have hle := cutN_le f n
    have e : cutN f (n + 1) = cutN f n + if f n = 0 then 1 else 0 := by
      unfold cutN
      rw [List.range_succ, List.filter_append, List.length_append]
      by_cases hf : f n = 0
      · simp [hf]
      · simp [hf]
    by_cases hf : f n = 0
    · have hall : ∀ k, k < n + 1 → f k = 0 := fun k hk => by have := hm k n (by omega (config := {})) (by omega (config := {})); lia
      have hc : cutN f n = n := by
        by_cases q : cutN f n = n
        · exact q
        · have a := i2 (cutN f n) (Nat.le_refl _) (by lia)
          have b := hall (cutN f n) (by omega (config := {}))
          lia
      rw [e, if_pos hf, hc]
      exact ⟨fun k hk => hall k hk, fun k a b => by omega (config := {})⟩
    · rw [e, if_neg hf, Nat.add_zero]
      refine ⟨i1, fun k a b => ?_⟩
      by_cases q : k = n
      · subst q; have := h1 k (by omega (config := {})); lia
      · exact i2 k a (by omega (config := {}))
end Mine
end PartPFirst
section PartPCar
namespace Mine
section
variable {w0 w1 w2 : Nat} (h0 : w0 < 4) (h1 : w1 < 4) (h2 : w2 < 4) {os : List Nat} (ho : ∀ y ∈ os, y < 4) (hl : os.length = 4)
include h0 h1 h2 ho hl
theorem bit_is {i k : Nat} (hk : k ≤ i / 4) : bitN (msOf w0 w1 w2 os) i k = comp (i % 4) ((outs w0 w1 w2 N15 (os.drop k)).getD (i / 4 - k) X0) := by
  unfold bitN
  rw [(run_from h0 h1 h2 ho (by omega) k).1, ← flat_get _ _ _ (Nat.mod_lt _ (by decide))]
  congr 1
  omega
theorem bit_mono {i k k' : Nat} (hi : i < 16) (h : k ≤ k') (hk : k' ≤ i / 4) : bitN (msOf w0 w1 w2 os) i k ≤ bitN (msOf w0 w1 w2 os) i k' := by
  have hk4 : k' ≤ os.length := by rw [hl]; exact Nat.le_trans hk (Nat.le_of_lt (Nat.div_lt_of_lt_mul hi))
  rw [bit_is h0 h1 h2 ho hl (Nat.le_trans h hk), bit_is h0 h1 h2 ho hl hk]
  refine comp_le ?_ _
  have e : os.drop k = (os.drop k).take (k' - k) ++ os.drop k' := by
    have := List.take_append_drop (k' - k) (os.drop k)
    rw [List.drop_drop, show k + (k' - k) = k' by omega] at this
    exact this.symm
  have hn := outs_ok (w0 := w0) (w1 := w1) (w2 := w2) ((os.drop k).take (k' - k)) N15 okN15
  have e2 : (outs w0 w1 w2 N15 (os.drop k)).getD (i / 4 - k) X0 = (outs w0 w1 w2 (fins w0 w1 w2 N15 ((os.drop k).take (k' - k))) (os.drop k')).getD (i / 4 - k') X0 := by
    rw [e, outs_app, List.getD_eq_getElem?_getD, List.getElem?_append_right (by rw [outs_len, List.length_take, List.length_drop]; exact Nat.le_trans (Nat.min_le_left _ _) (Nat.sub_le_sub_right hk k)), outs_len, List.length_take, List.length_drop, List.getD_eq_getElem?_getD]
    congr 2
    · congr 1
      rw [← e]
    · rw [Nat.min_eq_left (Nat.sub_le_sub_right hk4 k)]; exact Nat.sub_sub_sub_cancel_right h
  rw [e2]
  exact outs_mono _ _ _ _ hn.1 okN15 (le15N hn.1)
theorem bit_one {i k : Nat} (hk : k ≤ i / 4) : bitN (msOf w0 w1 w2 os) i k ≤ 1 := by
  rw [bit_is h0 h1 h2 ho hl hk]
  exact comp_le1 (getD_mem (outs_ok (w0 := w0) (w1 := w1) (w2 := w2) _ N15 okN15).2 _) _
theorem first_ok : FirstOk (msOf w0 w1 w2 os) := by
  refine ⟨fun i k hi hk => ?_, fun i k hi h hk => ?_⟩
  · exact (cut_spec (bitN (msOf w0 w1 w2 os) i) (i / 4 + 1) (fun a b hab hb => bit_mono h0 h1 h2 ho hl hi hab (by omega)) fun a ha => bit_one h0 h1 h2 ho hl (by omega)).1 k hk
  · exact (cut_spec (bitN (msOf w0 w1 w2 os) i) (i / 4 + 1) (fun a b hab hb => bit_mono h0 h1 h2 ho hl hi hab (by omega)) fun a ha => bit_one h0 h1 h2 ho hl (by omega)).2 k h hk
end
theorem zs_elem {l : List Nat} {j : Nat} (h : j < (zs l).length) (h2 : j < l.length) : (zs l)[j] = ((l[j] : Nat) : Int) := by simp [zs]
theorem car_of {ms : List Nat} (F : FirstOk ms) (hl : ms.length = 16) (s : Nat) (hs : s < 4) : ((zs ((List.range 16).map (firstN ms))).drop (4 * (s : Int)).toNat).map (fun k => if k ≤ (s : Int) then (1 : Int) else 0) = zs (caN ms s) := by
  rw [show (4 * (s : Int)).toNat = 4 * s by lia]
  refine List.ext_getElem ?_ fun j h1 h2 => ?_
  · rw [List.length_map, List.length_drop, zs_len, zs_len, List.length_map, List.length_range, caN_len, hl]
  · have hj : j < 16 - 4 * s := by rw [zs_len, caN_len, hl] at h2; exact h2
    have e2 : (zs (caN ms s))[j] = ((bitN ms (4 * s + j) s : Nat) : Int) := by
      unfold bitN
      rw [zs_elem h2 (by rw [caN_len, hl]; exact hj), show 4 * s + j - 4 * s = j by omega, List.getD_eq_getElem?_getD, List.getElem?_eq_getElem (by rw [caN_len, hl]; exact hj)]
      rfl
    rw [e2, List.getElem_map, List.getElem_drop]
    rw [zs_elem _ (by rw [List.length_map, List.length_range]; omega), List.getElem_map, List.getElem_range]
    by_cases q : firstN ms (4 * s + j) ≤ s
    · rw [if_pos (by omega), F.hi (4 * s + j) s (by omega) q (by omega)]
      rfl
    · rw [if_neg (by omega), F.lo (4 * s + j) s (by omega) (by omega)]
      rfl
theorem below_sum : ∀ (l : List Int) (x : Int), ((below l x : Nat) : Int) = (l.map fun k => if k ≤ x then (1 : Int) else 0).sum
  | [], _ => rfl
  | n :: r, x => by
    have ih := below_sum r x
    unfold below at ih ⊢
    rw [List.filter_cons, List.map_cons, List.sum_cons, ← ih]
    by_cases h : n ≤ x
    · simp [h]; lia
    · simp [h]
theorem flatC_take : ∀ (cs : List C4) (m : Nat), (flatC cs).take (4 * m) = flatC (cs.take m)
  | [], m => by simp [flatC]
  | c :: cs, 0 => by simp [flatC]
  | c :: cs, m + 1 => by
    rw [flatC_cons, show 4 * (m + 1) = 4 + 4 * m by lia, List.take_succ_cons, flatC_cons, List.take_append, List.take_of_length_le (by simp)]
    show _ ++ (flatC cs).take (4 + 4 * m - 4) = _
    rw [Nat.add_sub_cancel_left, flatC_take cs m]
end Mine
end PartPCar
section PartPLaw
open PySem PySem.W PyProof.Rows
namespace Mine
theorem cost_fin : ∀ a b : Fin 4, cost1 (cod a.val) (cod b.val) = mc a.val b.val := by decide +kernel
theorem cost_cod {a b : Nat} (ha : a < 4) (hb : b < 4) : cost1 (cod a) (cod b) = mc a b := cost_fin ⟨a, ha⟩ ⟨b, hb⟩
theorem cost_lo (x y : Nat) : 0 ≤ cost1 x y := by unfold cost1 subCost; (repeat' split) <;> decide
theorem cost_hi (x y : Nat) : cost1 x y ≤ 2 := by unfold cost1 subCost; (repeat' split) <;> decide
theorem cost_self (x : Nat) : cost1 x x = 0 := by
  unfold cost1 subCost
  rw [if_pos (by rw [S_beq]; simp)]
theorem str_beq (a b : Str) : (a == b) = (b == a) := by
  rw [Bool.eq_iff_iff, beq_iff_eq, beq_iff_eq]
  exact eq_comm
theorem cost_sym (x y : Nat) : cost1 x y = cost1 y x := by
  unfold cost1 subCost
  rw [str_beq (S [x]) (S [y]), str_beq (Txt.lower (S [x])) (Txt.lower (S [y]))]
theorem ed_cod : ∀ a b : List Nat, (∀ x ∈ a, x < 4) → (∀ x ∈ b, x < 4) → ed cost1 (a.map cod) (b.map cod) = ed mc a b
  | [], b, _, _ => by rw [List.map_nil, ed_nil, ed_nil, List.length_map]
  | x :: a, [], _, _ => by rw [List.map_nil, ed_nil', ed_nil', List.length_map]
  | x :: a, y :: b, ha, hb => by
    have e1 := ed_cod a b (fun z hz => ha z (.tail _ hz)) fun z hz => hb z (.tail _ hz)
    have e2 := ed_cod a (y :: b) (fun z hz => ha z (.tail _ hz)) hb
    have e3 := ed_cod (x :: a) b ha fun z hz => hb z (.tail _ hz)
    rw [List.map_cons] at e2 e3
    rw [List.map_cons, List.map_cons, ed_cons, ed_cons, e1, e2, e3, cost_cod (ha x (.head _)) (hb y (.head _))]
termination_by a b => a.length + b.length
theorem lev_cod {a b : List Nat} (ha : ∀ x ∈ a, x < 4) (hb : ∀ x ∈ b, x < 4) {d t : Int} (ht : 0 ≤ t) (h : ed mc a b = d) : lev cost1 (a.map cod) (b.map cod) (d + t - 1) = d := by
  have e := ed_cod a b ha hb
  rw [h] at e
  rw [lev_is cost_lo cost_hi cost_sym cost_self (by rw [e]; omega (config := {})), e]
theorem mc_sym (x y : Nat) : mc x y = mc y x := by
  unfold mc mcost
  by_cases h : x = y
  · subst h; rfl
  · by_cases h2 : x / 2 = y / 2
    · rw [if_neg h, if_neg (Ne.symm h), if_pos h2, if_pos h2.symm]
    · rw [if_neg h, if_neg (Ne.symm h), if_neg h2, if_neg (Ne.symm h2)]
theorem zer_fin : ∀ n ∈ okV, 0 ≤ zer n ∧ zer n ≤ 4 ∧ (zer n = 0 → n = 15) := by decide
theorem zs_take_sum (l : List Nat) (m : Nat) : ((zs l).take m).sum = (((l.take m).sum : Nat) : Int) := by rw [← zs_take, zs_sum]
end Mine
end PartPLaw
section PartPLaw2
open PySem PySem.W PyProof.Rows
namespace Mine
theorem bnd_fin : ∀ cnt : Fin 13, (cnt.val = 0 ∨ 16 ^ (3 + (cnt.val + 3) / 4 - 1) ≤ 4096 * (2 ^ cnt.val - 1)) ∧ 4096 * (2 ^ cnt.val - 1) + 4096 ≤ 16 ^ (3 + (cnt.val + 3) / 4) := by decide +kernel
theorem digs_st {cnt n0 n1 n2 : Nat} (hc : cnt ≤ 12) (h0 : n0 < 16) (h1 : n1 < 16) (h2 : n2 < 16) : digs (3 + (cnt + 3) / 4) (stOf cnt n0 n1 n2) = n0 :: n1 :: n2 :: onesL cnt := by
  have e := digs_ones ⟨cnt, by omega⟩
  simp only at e
  rw [show 3 + (cnt + 3) / 4 = (cnt + 3) / 4 + 1 + 1 + 1 by lia]
  unfold stOf
  generalize 2 ^ cnt - 1 = x at e ⊢
  simp only [digs]
  rw [show (16 * (16 * (16 * x + n2) + n1) + n0) % 16 = n0 by omega, show (16 * (16 * (16 * x + n2) + n1) + n0) / 16 = 16 * (16 * x + n2) + n1 by omega, show (16 * (16 * x + n2) + n1) % 16 = n1 by omega, show (16 * (16 * x + n2) + n1) / 16 = 16 * x + n2 by omega, show (16 * x + n2) % 16 = n2 by omega, show (16 * x + n2) / 16 = x by omega, e]
theorem st_bnd {cnt n0 n1 n2 : Nat} (hc : cnt ≤ 12) (h0 : n0 < 16) (h1 : n1 < 16) (h2 : n2 < 16) (hz : cnt = 0 → n2 = 15) : 16 ^ (3 + (cnt + 3) / 4 - 1) ≤ stOf cnt n0 n1 n2 ∧ stOf cnt n0 n1 n2 < 16 ^ (3 + (cnt + 3) / 4) := by
  obtain ⟨b1, b2⟩ := bnd_fin ⟨cnt, by omega⟩
  simp only at b1 b2
  unfold stOf
  rcases b1 with b1 | b1
  · subst b1
    have := hz rfl
    subst this
    constructor
    · show 16 ^ 2 ≤ _; omega
    · show _ < 16 ^ 3; omega
  · generalize 16 ^ (3 + (cnt + 3) / 4 - 1) = a at *
    generalize 16 ^ (3 + (cnt + 3) / 4) = b at *
    generalize 2 ^ cnt - 1 = x at *
    lia
theorem law_of {w0 w1 w2 o0 o1 o2 o3 : Nat} (h0 : w0 < 4) (h1 : w1 < 4) (h2 : w2 < 4) (ho0 : o0 < 4) (ho1 : o1 < 4) (ho2 : o2 < 4) (ho3 : o3 < 4) : LawOk w0 w1 w2 o0 o1 o2 o3 (msOf w0 w1 w2 [o0, o1, o2, o3]) := by
  have ho : ∀ y ∈ [o0, o1, o2, o3], y < 4 := by
    simp only [List.forall_mem_cons]
    exact ⟨ho0, ho1, ho2, ho3, List.forall_mem_nil _⟩
  have hw : ∀ y ∈ [w0, w1, w2], y < 4 := by
    simp only [List.forall_mem_cons]
    exact ⟨h0, h1, h2, List.forall_mem_nil _⟩
  have F := first_ok h0 h1 h2 ho rfl
  have hml : (msOf w0 w1 w2 [o0, o1, o2, o3]).length = 16 := by rw [msOf_len]; rfl
  have hrow : ∀ s, ([cod o0, cod o1, cod o2, cod o3]).drop s = ([o0, o1, o2, o3].drop s).map cod := fun s => by rw [List.map_drop]; rfl
  generalize hos : [o0, o1, o2, o3] = os at *
  have hol : os.length = 4 := by rw [← hos]; rfl
  refine ⟨F, car_of F hml, fun s hs => ?_, fun s e hse he => ?_⟩
  · have q9 := run_from h0 h1 h2 ho (by omega) s
    have rc := q9.1; have rs := q9.2; clear q9
    have q9 := row_all (w0 := w0) (w1 := w1) (w2 := w2) (os.drop s) [] N15 (rowInv0 w0 w1 w2)
    have R := q9.1; have E := q9.2; clear q9
    have q9 := outs_ok (w0 := w0) (w1 := w1) (w2 := w2) (os.drop s) N15 okN15
    have k1 := q9.1; clear q9
    have hyl : (os.drop s).length = 4 - s := by rw [List.length_drop, hol]
    have E4 := E (os.drop s).length (Nat.le_refl _)
    rw [List.take_of_length_le (Nat.le_refl _), List.take_of_length_le (by rw [outs_len]; exact Nat.le_refl _), hyl] at E4
    rw [List.nil_append] at R E4
    have e0 := R.e0
    have e1 := R.e1
    have e2 := R.e2
    rw [hyl] at e0
    rw [ed_nil'] at E4
    simp only [List.length_cons, List.length_nil] at E4
    have q9 := zer_fin _ k1.1
    have z0 := q9.1; have z0' := q9.2.1; clear q9
    have q9 := zer_fin _ k1.2.1
    have z1 := q9.1; have z1' := q9.2.1; clear q9
    have q9 := zer_fin _ k1.2.2
    have z2 := q9.1; have z2' := q9.2.1; have z2'' := q9.2.2; clear q9
    have hyo : ∀ y ∈ os.drop s, y < 4 := fun y hy => ho y (List.mem_of_mem_drop hy)
    generalize hcnt : ((outs w0 w1 w2 N15 (os.drop s)).map C4.sum).sum = cnt at *
    generalize fins w0 w1 w2 N15 (os.drop s) = n at *
    obtain ⟨n0, n1, n2⟩ := n
    simp only at *
    have hc12 : cnt ≤ 12 := by omega
    have q9 := st_bnd (n0 := n0) (n1 := n1) (n2 := n2) hc12 (okV_lt _ k1.1) (okV_lt _ k1.2.1) (okV_lt _ k1.2.2) (fun q => z2'' (by lia))
    have b1 := q9.1; have b2 := q9.2; clear q9
    refine ⟨cnt, n0, n1, n2, _, ?_, hc12, rfl, by rw [rs]; exact b1, by rw [rs]; exact b2, by rw [rs]; exact digs_st hc12 (okV_lt _ k1.1) (okV_lt _ k1.2.1) (okV_lt _ k1.2.2), okV_lt _ k1.1, okV_lt _ k1.2.1, okV_lt _ k1.2.2, by lia, ?_, ?_⟩
    · rw [zs_sum, rc, flatC_sum, hcnt]
    · rw [hrow]
      refine lev_cod (b := [w0]) hyo (by simpa using h0) (by omega) ?_
      rw [ed_sym mc_sym, e0]
      lia
    · rw [hrow]
      refine lev_cod (b := [w0, w1]) hyo (by simp only [List.forall_mem_cons]; exact ⟨h0, h1, List.forall_mem_nil _⟩) (by omega) ?_
      rw [ed_sym mc_sym, e1, e0]
      lia
  · have q9 := run_from h0 h1 h2 ho (by omega) s
    have rc := q9.1; have rs := q9.2; clear q9
    have q9 := row_all (w0 := w0) (w1 := w1) (w2 := w2) (os.drop s) [] N15 (rowInv0 w0 w1 w2)
    have R := q9.1; have E := q9.2; clear q9
    have hyl : (os.drop s).length = 4 - s := by rw [List.length_drop, hol]
    have Ee := E (e - s) (by omega)
    rw [List.nil_append, ed_nil'] at Ee
    simp only [List.length_cons, List.length_nil] at Ee
    have hb : ((below (((zs ((List.range 16).map (firstN (msOf w0 w1 w2 os)))).drop (4 * s)).take (4 * e - 4 * s)) s : Nat) : Int) = (((((outs w0 w1 w2 N15 (os.drop s)).take (e - s)).map C4.sum).sum : Nat) : Int) := by
      have c := car_of F hml s (by omega)
      rw [show (4 * (s : Int)).toNat = 4 * s by lia] at c
      rw [below_sum, List.map_take, c, zs_take_sum, rc, show 4 * e - 4 * s = 4 * (e - s) by omega, flatC_take, flatC_sum]
    rw [hb, hrow, ← List.map_take]
    refine lev_cod (a := [w0, w1, w2]) hw (fun y hy => ho y (List.mem_of_mem_drop (List.mem_of_mem_take hy))) (by omega) ?_
    rw [Ee]
    lia
end Mine
end PartPLaw2
section PartLawM
open PySem PySem.W PyProof.Rows PySem.Spec PySem.Calls
namespace Mine
local macro_rules | `(tactic| k_ne) => `(tactic| (refine neN ?_; (try dsimp only); first | (first | exact Apart.ne (by assumption) | exact Ne.symm (Apart.ne (by assumption)) | assumption | exact Ne.symm (by assumption) | exact Nat.ne_of_gt (by assumption) | exact Nat.ne_of_lt (by assumption)) | (kopn_split; first | exact Apart.ne (by assumption) | exact Ne.symm (Apart.ne (by assumption)) | assumption | exact Ne.symm (by assumption) | exact Nat.ne_of_gt (by assumption) | exact Nat.ne_of_lt (by assumption)) | omega))
structure HidP (p : Prop) : Prop where
  out : p
theorem share10h {R : Prop} {A B C D E F G H I J : Type} {P : A → B → C → D → E → F → G → H → I → J → Prop} (use : HidP (∀ a b c d e f g h i j, P a b c d e f g h i j) → R) (main : ∀ a b c d e f g h i j, P a b c d e f g h i j) : R := use ⟨main⟩
theorem four4 {G : Nat → Prop} (k : Nat) (hk : k < 4) (h0 : G 0) (h1 : G 1) (h2 : G 2) (h3 : G 3) : G k := four h0 h1 h2 h3 hk
theorem nats3 {R : Prop} {ys : List Value} {a b c : Int} (h : IntsAre ys ([a, b, c].map fun k => k.fmod 4)) (g : ∀ (x y z : Nat) (t u v : Tok), x < 4 → y < 4 → z < 4 → ys = [.int (x : Int) t, .int (y : Int) u, .int (z : Int) v] → R) : R := by
  refine exE (nat4 a) fun x hx => exE (nat4 b) fun y hy => exE (nat4 c) fun z hz => ?_
  simp only [List.map, hx.1, hy.1, hz.1] at h
  refine ia_cons (G := fun v => ys = v → R) h (fun t _ h => ?_) rfl
  refine ia_cons (G := fun v => ys = .int x t :: v → R) h fun u _ h => ?_
  refine ia_cons (G := fun v => ys = .int x t :: .int y u :: v → R) h fun v _ h => ?_
  exact ia_nil (G := fun w => ys = .int x t :: .int y u :: .int z v :: w → R) h (g x y z t u v hx.2 hy.2 hz.2)
theorem nats4 {R : Prop} {ys : List Value} {a b c d : Int} (h : IntsAre ys ([a, b, c, d].map fun k => k.fmod 4)) (g : ∀ (x y z e : Nat) (t u v q : Tok), x < 4 → y < 4 → z < 4 → e < 4 → ys = [.int (x : Int) t, .int (y : Int) u, .int (z : Int) v, .int (e : Int) q] → R) : R := by
  refine exE (nat4 a) fun x hx => exE (nat4 b) fun y hy => exE (nat4 c) fun z hz => exE (nat4 d) fun e he => ?_
  simp only [List.map, hx.1, hy.1, hz.1, he.1] at h
  refine ia_cons (G := fun v => ys = v → R) h (fun t _ h => ?_) rfl
  refine ia_cons (G := fun v => ys = .int x t :: v → R) h fun u _ h => ?_
  refine ia_cons (G := fun v => ys = .int x t :: .int y u :: v → R) h fun v _ h => ?_
  refine ia_cons (G := fun w => ys = .int x t :: .int y u :: .int z v :: w → R) h fun q _ h => ?_
  exact ia_nil (G := fun w => ys = .int x t :: .int y u :: .int z v :: .int e q :: w → R) h (g x y z e t u v q hx.2 hy.2 hz.2 he.2)
theorem sc_list {prog : Program} {w : World} {A : Around} {h₀ : Heap} {L : Addr} {m : Str → Option Value} {env : Env} {elt : PySem.Expr} {x : Str} {scope : Scope} {cl : List (Str × Addr)} {s : Shared} {S' : List (Addr × Obj) → Prop} {Fin : List Value → List (Addr × Obj) → Prop} {news : List (Addr × Obj)} {vs : List Value} {ks : List Nat} (hi : IntsAre vs (zs ks)) (h4 : ∀ k ∈ ks, k < 4)
    (turn : ∀ (k : Nat) t I oI C oC D m₂ ys h tk (E' : Value → Shared → Prop), k < 4 → LCg.NsObj oC m₂ → m₂ x = some (.int (k : Int) t) → Fr h₀ L h m → News h₀ L h ((I, oI) :: (C, oC) :: (D, LCg.lst ys) :: news) → LCg.Off3 I C D news → ((@Ne Nat I C) ∧ (@Ne Nat I D) ∧ (@Ne Nat C D)) →
      wpAny (model prog w) A (eval elt (compEnvC scope cl C env)) (LCg.CompEnd h₀ L m { s with heap := h, toks := tk } I oI C oC D (LCg.lst ys) S' (fun y news' => KCtEl news (S [cod k]) y news')) E' { s with heap := h, toks := tk })
    (fin : ∀ ys, StrsAre ys (ks.map fun k => S [cod k]) → Fin ys news) : LCg.CompRest prog w A h₀ L m env elt x scope cl s S' (fun i v => vs.toArray[i]? = some v) Fin vs.toArray.size 0 [] news :=
  kct_list (ns := zs ks) (fun z => S [cod z.toNat]) hi (fun k t I oI C oC D m₂ ys h tk E' hk hC hx F N off ne _ => by
    obtain ⟨q, hq, rfl⟩ := List.mem_map.mp hk
    exact turn q t I oI C oC D m₂ ys h tk E' (h4 q hq) hC hx F N off ne)
    (fun ys hc _ => fin ys (by
      have h9 := CarriedAll.strsOf hc
      unfold zs at h9
      rw [List.map_map] at h9
      exact h9))
set_option maxRecDepth 100000 in
set_option maxHeartbeats 100000000 in
theorem lawX : PySem.Challenge.rw_pu0036_01.Holds := hd (by
  w_top off
  k_go0
  (all_goals try k_fold)
  rename_i W s0 s1 mg mb zG zY fa oo pm dc ho hg zX zV zT zB zTE zTW hcd nscr zs zlay zL0 zr0 zl2 al al2 lscr vscr al3 zL zra zw1 zr1 hints zr2 zc1 zc2 zD h1 tk1 oS oR oT oM dS' dR' dT' dM' zX0 hX hT hB F0 c1 c2 N0 hl0
  clear zG zY zX zV zT zB zTE zTW hcd zs zlay zL0 zr0 zl2 zL zra zw1 zr1 zr2 zD zX0 hT9 hT8 ho
  have dS : oS.data = Data.cell none := dS'
  have dR : oR.data = Data.cell none := dR'
  have dT : oT.data = Data.cell none := dT'
  have dM : oM.data = Data.cell none := dM'
  clear dS' dR' dT' dM'
  have hl37 := hl0.1; have hl30 := hl0.2.1; have hl81 := hl0.2.2; clear hl0
  have ap0 : Apart (s1.heap.objs.size + 1 + 1) (s1.heap.objs.size + 1) := ⟨by omega⟩
  have ap1 : Apart (s1.heap.objs.size + 1 + 1 + 1) (s1.heap.objs.size + 1) := ⟨by omega⟩
  have ap2 : Apart (s1.heap.objs.size + 1 + 1 + 1) (s1.heap.objs.size + 1 + 1) := ⟨by omega⟩
  have ap3 : Apart (s1.heap.objs.size + 1 + 1 + 1 + 1) (s1.heap.objs.size + 1) := ⟨by omega⟩
  have ap4 : Apart (s1.heap.objs.size + 1 + 1 + 1 + 1) (s1.heap.objs.size + 1 + 1) := ⟨by omega⟩
  have ap5 : Apart (s1.heap.objs.size + 1 + 1 + 1 + 1) (s1.heap.objs.size + 1 + 1 + 1) := ⟨by omega⟩
  have ap6 : Apart (37) (s1.heap.objs.size + 1) := ⟨by omega⟩
  have ap7 : Apart (37) (s1.heap.objs.size + 1 + 1) := ⟨by omega⟩
  have ap8 : Apart (37) (s1.heap.objs.size + 1 + 1 + 1) := ⟨by omega⟩
  have ap9 : Apart (37) (s1.heap.objs.size + 1 + 1 + 1 + 1) := ⟨by omega⟩
  have ap10 : Apart (30) (s1.heap.objs.size + 1) := ⟨by omega⟩
  have ap11 : Apart (30) (s1.heap.objs.size + 1 + 1) := ⟨by omega⟩
  have ap12 : Apart (30) (s1.heap.objs.size + 1 + 1 + 1) := ⟨by omega⟩
  have ap13 : Apart (30) (s1.heap.objs.size + 1 + 1 + 1 + 1) := ⟨by omega⟩
  have ap14 : Apart (81) (s1.heap.objs.size + 1) := ⟨by omega⟩
  have ap15 : Apart (81) (s1.heap.objs.size + 1 + 1) := ⟨by omega⟩
  have ap16 : Apart (81) (s1.heap.objs.size + 1 + 1 + 1) := ⟨by omega⟩
  have ap17 : Apart (81) (s1.heap.objs.size + 1 + 1 + 1 + 1) := ⟨by omega⟩
  have ap18 : Apart (37) (30) := ⟨by decide⟩
  have ap19 : Apart (37) (81) := ⟨by decide⟩
  have ap20 : Apart (30) (81) := ⟨by decide⟩
  refine wpGen ?_; intro RR0 hRR0
  repeat' ((fail_if_success (with_reducible show wpAny _ _ (exec (Stmt.While _ _ _ _) _) _ _ _)); (fail_if_success (with_reducible show wpAny _ _ (exec (Stmt.For _ _ _ _ _) _) _ _ _)); (fail_if_success (with_reducible show KswEnd _ _ _ _ _ _ _ _ _ _ _ _)); (fail_if_success (with_reducible show FcEnd _ _ _ _ _ _ _ _ _ _)); (fail_if_success (with_reducible show CutEnd _ _ _ _ _ _ _ _ _)); first | (k_unfold; (try dsimp only)) | (k_end; wrow_close) | ((with_reducible show wpAny _ _ (subscriptTail _ _ _ _) _ _ _); first | (k_here; (with_reducible show wpAny _ _ (subscriptTail (PySem.Expr.Name _ _) (PySem.Expr.Name _ _) (Value.ref _) (Value.int (Nat.cast _) _)) _ _ _); (refine item_lst (by k_asm) (by k_mem) (by exact rfl) (by decide) ?_)) | (k_here; (with_reducible show wpAny _ _ (subscriptTail (PySem.Expr.Subscript (PySem.Expr.Name _ _) (PySem.Expr.Name _ _) _) (PySem.Expr.Constant _ _ _) (Value.ref _) (Value.int _ _)) _ _ _); (refine item_tup (by k_asm) (by k_mem) (by decide) (by decide) (by exact rfl) (by exact rfl) ?_)) | (k_here; (with_reducible show wpAny _ _ (subscriptTail (PySem.Expr.Subscript (PySem.Expr.Subscript _ _ _) (PySem.Expr.Constant _ _ _) _) (PySem.Expr.BinOp _ _ _ _) (Value.ref _) (Value.int (HSub.hSub _ _) _)) _ _ _); (refine item_ints (by k_asm) (by k_mem) (by with_reducible assumption) (by omega) (by omega) (by omega) ?_); intro _) | with_reducible (k_here; (with_reducible show wpAny _ _ (subscriptTail _ (PySem.Expr.Slice _ _ _ _) (Value.str _ _) (Value.ref _)) _ _ _); kxi_slice; intro _ _ _ _ _) | with_reducible (k_here; (with_reducible show wpAny _ _ (subscriptTail _ (PySem.Expr.Slice (some _) (some _) none _) (Value.ref _) (Value.ref _)) _ _ _); k_dflt (refine' sliceRun (s := ⟨_, _, _, _, _⟩) ?F ?N ?m ?x ?y ?z ?_; (case F => k_asm); (case N => k_asm); (case m => k_mem); (case z => assumption); (case x => first | decide | omega); (case y => first | decide | omega)); intro _ _ _ _ l1; (try dsimp only [AllLt] at l1); (try k_sweep)) | with_reducible (k_here; (with_reducible show wpAny _ _ (subscriptTail _ (PySem.Expr.Slice none (some _) none _) (Value.ref _) (Value.ref _)) _ _ _); k_dflt (refine' sliceUpto (s := ⟨_, _, _, _, _⟩) ?F ?N ?m ?x ?z ?_; (case F => k_asm); (case N => k_asm); (case m => k_mem); (case z => assumption); (case x => first | decide | omega)); intro _ _ _ _ l1; (try dsimp only [AllLt] at l1); (try k_sweep)) | with_reducible (k_here; (with_reducible show wpAny _ _ (subscriptTail _ (PySem.Expr.Slice (some _) none none _) (Value.ref _) (Value.ref _)) _ _ _); k_dflt (refine' sliceFrom (s := ⟨_, _, _, _, _⟩) ?F ?N ?m ?x ?z ?_; (case F => k_asm); (case N => k_asm); (case m => k_mem); (case z => first | assumption | exact Nat.le_trans (Nat.le_of_eq (by assumption)) (by decide)); (case x => first | decide | omega)); intro _ _ _ _ l1; (try dsimp only [AllLt] at l1); (try k_sweep)) | with_reducible (k_here; (with_reducible show wpAny _ _ (subscriptTail (Expr.Constant _ _ _) _ (Value.str _ _) (Value.int _ _)) _ _ _); (refine cod_tail (by assumption) ?_ (by with_unfolding_all rfl) (by intro _; with_unfolding_all rfl)))) | walk1 | (dsimp only; walk1) | (leave1; try dsimp only))
  (rename_i aM _ _ _ F1 N1)
  (rename (Heap.IsList _ _ _) => hscr)
  with_unfolding_all refine' For_turns F1 ?_
  k_whole
  repeat' ((fail_if_success (with_reducible show wpAny _ _ (call (Value.type "enumerate") _) _ _ _)); (fail_if_success (with_reducible show KswEnd _ _ _ _ _ _ _ _ _ _ _ _)); (fail_if_success (with_reducible show FcEnd _ _ _ _ _ _ _ _ _ _)); (fail_if_success (with_reducible show CutEnd _ _ _ _ _ _ _ _ _)); first | (k_unfold; (try dsimp only)) | (k_end; wrow_close) | ((first | ((with_reducible show wpAny _ _ (subscriptTail _ _ _ _) _ _ _); first | (k_here; (with_reducible show wpAny _ _ (subscriptTail (PySem.Expr.Name _ _) (PySem.Expr.Name _ _) (Value.ref _) (Value.int (Nat.cast _) _)) _ _ _); (refine item_lst (by k_asm) (by k_mem) (by exact rfl) (by decide) ?_)) | (k_here; (with_reducible show wpAny _ _ (subscriptTail (PySem.Expr.Subscript (PySem.Expr.Name _ _) (PySem.Expr.Name _ _) _) (PySem.Expr.Constant _ _ _) (Value.ref _) (Value.int _ _)) _ _ _); (refine item_tup (by k_asm) (by k_mem) (by decide) (by decide) (by exact rfl) (by exact rfl) ?_)) | (k_here; (with_reducible show wpAny _ _ (subscriptTail (PySem.Expr.Subscript (PySem.Expr.Subscript _ _ _) (PySem.Expr.Constant _ _ _) _) (PySem.Expr.BinOp _ _ _ _) (Value.ref _) (Value.int (HSub.hSub _ _) _)) _ _ _); (refine item_ints (by k_asm) (by k_mem) (by with_reducible assumption) (by omega) (by omega) (by omega) ?_); intro _) | with_reducible (k_here; (with_reducible show wpAny _ _ (subscriptTail _ (PySem.Expr.Slice _ _ _ _) (Value.str _ _) (Value.ref _)) _ _ _); kxi_slice; intro _ _ _ _ _) | with_reducible (k_here; (with_reducible show wpAny _ _ (subscriptTail _ (PySem.Expr.Slice (some _) (some _) none _) (Value.ref _) (Value.ref _)) _ _ _); k_dflt (refine' sliceRun (s := ⟨_, _, _, _, _⟩) ?F ?N ?m ?x ?y ?z ?_; (case F => k_asm); (case N => k_asm); (case m => k_mem); (case z => assumption); (case x => first | decide | omega); (case y => first | decide | omega)); intro _ _ _ _ l1; (try dsimp only [AllLt] at l1); (try k_sweep)) | with_reducible (k_here; (with_reducible show wpAny _ _ (subscriptTail _ (PySem.Expr.Slice none (some _) none _) (Value.ref _) (Value.ref _)) _ _ _); k_dflt (refine' sliceUpto (s := ⟨_, _, _, _, _⟩) ?F ?N ?m ?x ?z ?_; (case F => k_asm); (case N => k_asm); (case m => k_mem); (case z => assumption); (case x => first | decide | omega)); intro _ _ _ _ l1; (try dsimp only [AllLt] at l1); (try k_sweep)) | with_reducible (k_here; (with_reducible show wpAny _ _ (subscriptTail _ (PySem.Expr.Slice (some _) none none _) (Value.ref _) (Value.ref _)) _ _ _); k_dflt (refine' sliceFrom (s := ⟨_, _, _, _, _⟩) ?F ?N ?m ?x ?z ?_; (case F => k_asm); (case N => k_asm); (case m => k_mem); (case z => first | assumption | exact Nat.le_trans (Nat.le_of_eq (by assumption)) (by decide)); (case x => first | decide | omega)); intro _ _ _ _ l1; (try dsimp only [AllLt] at l1); (try k_sweep)) | with_reducible (k_here; (with_reducible show wpAny _ _ (subscriptTail (Expr.Constant _ _ _) _ (Value.str _ _) (Value.int _ _)) _ _ _); (refine cod_tail (by assumption) ?_ (by with_unfolding_all rfl) (by intro _; with_unfolding_all rfl)))) | walk1); (all_goals ((try ((fail_if_success (fail_if_success (with_reducible rename (_ ∧ _) => hx9))); refine viaR ?_; intro R9 k9; (repeat (first | ((with_reducible rename (_ ∧ _ ∧ _ ∧ _ ∧ _ ∧ _ ∧ _ ∧ _) => hx9); refine and8 hx9 ?_; clear hx9; intro _ _ _ _ _ _ _ _) | ((with_reducible rename (_ ∧ _ ∧ _ ∧ _) => hx9); refine and4 hx9 ?_; clear hx9; intro _ _ _ _) | ((with_reducible rename (_ ∧ _) => hx9); refine and2 hx9 ?_; clear hx9; intro _ _) | ((with_reducible rename True => hx9); clear hx9))); refine k9 ?_; clear k9 R9)); repeat ((with_reducible rename (@Ne Nat _ _) => hx9); (have hx8 := apart_of hx9); clear hx9)))) | (dsimp only; walk1) | (leave1; try dsimp only))
  refine' enumTurns (σ := List Value × List Int × Nat) (fun c => (aM, listOf c.1.toArray c.2.2) :: [(s1.heap.objs.size + 1 + 1 + 1 + 1, oS), (s1.heap.objs.size + 1 + 1 + 1, oR), (s1.heap.objs.size + 1 + 1, oT), (s1.heap.objs.size + 1, oM), (37, tabObj #[]), (30, tabObj #[]), (81, tabObj #[])]) (fun _ => []) [Str.ofString "place", Str.ofString "number"] (fun _ c => IntsAre c.1 c.2.1 ∧ c.2.1.length = 7) ([_,_,_,_,_,_,_], [0,2,1,3,0,1,2], 0) rfl hscr hints F1 N1 ?hk ?hp ?turn ?done
  case hk => intro p hp; cases hp
  case hp => exact ⟨.cons _ _ (.cons _ _ (.cons _ _ (.cons _ _ (.cons _ _ (.cons _ _ (.cons _ _ .nil)))))), rfl⟩
  case turn =>
    intro i n T t t'; refine all_1_1_1 ?_; intro vs3 ns3 k3 u h tk own hi hn hT hP hoff F3 N3
    refine turnGen ?_; intro RR1 hRR1
    have hP1 := hP.1; have hP2 := hP.2; clear hP
    dsimp only at hP1 hP2 F3 N3 hoff
    dsimp only [List.cons_append, List.nil_append] at N3
    clear F1 N1
    repeat' ((fail_if_success (with_reducible show wpAny _ _ (exec (Stmt.While _ _ _ _) _) _ _ _)); (fail_if_success (with_reducible show wpAny _ _ (exec (Stmt.For _ _ _ _ _) _) _ _ _)); (fail_if_success (with_reducible show KswEnd _ _ _ _ _ _ _ _ _ _ _ _)); (fail_if_success (with_reducible show FcEnd _ _ _ _ _ _ _ _ _ _)); (fail_if_success (with_reducible show CutEnd _ _ _ _ _ _ _ _ _)); first | (k_unfold; (try dsimp only)) | (k_end; wrow_close) | ((with_reducible show wpAny _ _ (subscriptTail _ _ _ _) _ _ _); first | (k_here; (with_reducible show wpAny _ _ (subscriptTail (PySem.Expr.Name _ _) (PySem.Expr.Name _ _) (Value.ref _) (Value.int (Nat.cast _) _)) _ _ _); (refine item_lst (by k_asm) (by k_mem) (by exact rfl) (by decide) ?_)) | (k_here; (with_reducible show wpAny _ _ (subscriptTail (PySem.Expr.Subscript (PySem.Expr.Name _ _) (PySem.Expr.Name _ _) _) (PySem.Expr.Constant _ _ _) (Value.ref _) (Value.int _ _)) _ _ _); (refine item_tup (by k_asm) (by k_mem) (by decide) (by decide) (by exact rfl) (by exact rfl) ?_)) | (k_here; (with_reducible show wpAny _ _ (subscriptTail (PySem.Expr.Subscript (PySem.Expr.Subscript _ _ _) (PySem.Expr.Constant _ _ _) _) (PySem.Expr.BinOp _ _ _ _) (Value.ref _) (Value.int (HSub.hSub _ _) _)) _ _ _); (refine item_ints (by k_asm) (by k_mem) (by with_reducible assumption) (by omega) (by omega) (by omega) ?_); intro _) | with_reducible (k_here; (with_reducible show wpAny _ _ (subscriptTail _ (PySem.Expr.Slice _ _ _ _) (Value.str _ _) (Value.ref _)) _ _ _); kxi_slice; intro _ _ _ _ _) | with_reducible (k_here; (with_reducible show wpAny _ _ (subscriptTail _ (PySem.Expr.Slice (some _) (some _) none _) (Value.ref _) (Value.ref _)) _ _ _); k_dflt (refine' sliceRun (s := ⟨_, _, _, _, _⟩) ?F ?N ?m ?x ?y ?z ?_; (case F => k_asm); (case N => k_asm); (case m => k_mem); (case z => assumption); (case x => first | decide | omega); (case y => first | decide | omega)); intro _ _ _ _ l1; (try dsimp only [AllLt] at l1); (try k_sweep)) | with_reducible (k_here; (with_reducible show wpAny _ _ (subscriptTail _ (PySem.Expr.Slice none (some _) none _) (Value.ref _) (Value.ref _)) _ _ _); k_dflt (refine' sliceUpto (s := ⟨_, _, _, _, _⟩) ?F ?N ?m ?x ?z ?_; (case F => k_asm); (case N => k_asm); (case m => k_mem); (case z => assumption); (case x => first | decide | omega)); intro _ _ _ _ l1; (try dsimp only [AllLt] at l1); (try k_sweep)) | with_reducible (k_here; (with_reducible show wpAny _ _ (subscriptTail _ (PySem.Expr.Slice (some _) none none _) (Value.ref _) (Value.ref _)) _ _ _); k_dflt (refine' sliceFrom (s := ⟨_, _, _, _, _⟩) ?F ?N ?m ?x ?z ?_; (case F => k_asm); (case N => k_asm); (case m => k_mem); (case z => first | assumption | exact Nat.le_trans (Nat.le_of_eq (by assumption)) (by decide)); (case x => first | decide | omega)); intro _ _ _ _ l1; (try dsimp only [AllLt] at l1); (try k_sweep)) | with_reducible (k_here; (with_reducible show wpAny _ _ (subscriptTail (Expr.Constant _ _ _) _ (Value.str _ _) (Value.int _ _)) _ _ _); (refine cod_tail (by assumption) ?_ (by with_unfolding_all rfl) (by intro _; with_unfolding_all rfl)))) | walk1 | (dsimp only; walk1) | (leave1; try dsimp only))
    refine ofGenF hRR1 ?_
    (rename Fr _ _ _ _ => F5); (rename News _ _ _ _ => N5); (rename IntsAre _ _ => hI5)
    have N6 : News _ _ _ ([_, _, _, _, _, _, _, _] ++ own) := N5
    refine fgEnd (_, _, _) F5 N6 (fun p hp => List.mem_append_left _ hp) (fun p hp => List.mem_append_right _ hp) hoff (fun p hp => nomatch hp) (by (intro z h2 h3; (have hs0 : z ≠ Str.ofString "place" := by rintro rfl; exact absurd h3 (by decide)); (have hs1 : z ≠ Str.ofString "number" := by rintro rfl; exact absurd h3 (by decide)); simp only [kstB, h3, if_neg hs0, if_neg hs1, Bool.false_eq_true, if_false])) ⟨hI5, by rw [List.length_set]; exact hP2⟩
  case done =>
  refine all_1_1_1 ?_; intro vs3 ns3 k3 u h tk hP F3 N3
  have hP1 := hP.1; have hP2 := hP.2; clear hP
  dsimp only at hP1 hP2 F3 N3
  clear F1 N1
  refine viaR ?_; intro R9 k9; refine ints7 (G := fun v => vs3 = v → R9) hP1 hP2 ?_ rfl; intro n0 n1 n2 n3 n4 n5 n6 t0 t1 t2 t3 t4 t5 t6 e9; refine k9 ?_; clear k9 R9; subst e9
  refine exE (fr_base (ps := [(Str.ofString "marks", .ref aM)]) F3 (by kst_all)) ?_; intro U F4
  clear F3 hP1 hP2
  (try k_unfold); (try dsimp only)
  refine' stCut (σ := Addr × (Nat × Nat × Nat) × (Tok × Tok × Tok)) F4 (fun c => (c.1, LCg.lst [.int (c.2.1.1 : Int) c.2.2.1, .int (c.2.1.2.1 : Int) c.2.2.2.1, .int (c.2.1.2.2 : Int) c.2.2.2.2]) :: (aM, listOf #[.int n0 t0, .int n1 t1, .int n2 t2, .int n3 t3, .int n4 t4, .int n5 t5, .int n6 t6] k3) :: [(s1.heap.objs.size + 1 + 1 + 1 + 1, oS), (s1.heap.objs.size + 1 + 1 + 1, oR), (s1.heap.objs.size + 1 + 1, oT), (s1.heap.objs.size + 1, oM), (37, tabObj #[]), (30, tabObj #[]), (81, tabObj #[])]) (fun c => [(Str.ofString "word", .ref c.1)]) [] (fun c => (c.2.1.1 < 4 ∧ c.2.1.2.1 < 4 ∧ c.2.1.2.2 < 4) ∧ AllNe c.1 ((aM, listOf #[.int n0 t0, .int n1 t1, .int n2 t2, .int n3 t3, .int n4 t4, .int n5 t5, .int n6 t6] k3) :: [(s1.heap.objs.size + 1 + 1 + 1 + 1, oS), (s1.heap.objs.size + 1 + 1 + 1, oR), (s1.heap.objs.size + 1 + 1, oT), (s1.heap.objs.size + 1, oM), (37, tabObj #[]), (30, tabObj #[]), (81, tabObj #[])])) ?h1 ?h2
  case h1 =>
    refine wpGen ?_; intro RR1 hRR1
    k_dflt (refine LCg.Assign_ListComp_U (F₀ := by k_asm) (by rfl) (by with_unfolding_all rfl) (by with_unfolding_all rfl) (by decide) (by rfl) (by decide) (by rfl) (by rfl) (by rfl) ?_)
    repeat' ((fail_if_success (with_reducible show LCg.CompSrc _ _ _ _ _ _ _ _ _ _ _ _ _ _)); (fail_if_success (with_reducible show KswEnd _ _ _ _ _ _ _ _ _ _ _ _)); (fail_if_success (with_reducible show FcEnd _ _ _ _ _ _ _ _ _ _)); (fail_if_success (with_reducible show CutEnd _ _ _ _ _ _ _ _ _)); first | (k_unfold; (try dsimp only)) | (k_end; wrow_close) | ((first | ((with_reducible show wpAny _ _ (subscriptTail _ _ _ _) _ _ _); first | (k_here; (with_reducible show wpAny _ _ (subscriptTail (PySem.Expr.Name _ _) (PySem.Expr.Name _ _) (Value.ref _) (Value.int (Nat.cast _) _)) _ _ _); (refine item_lst (by k_asm) (by k_mem) (by exact rfl) (by decide) ?_)) | (k_here; (with_reducible show wpAny _ _ (subscriptTail (PySem.Expr.Subscript (PySem.Expr.Name _ _) (PySem.Expr.Name _ _) _) (PySem.Expr.Constant _ _ _) (Value.ref _) (Value.int _ _)) _ _ _); (refine item_tup (by k_asm) (by k_mem) (by decide) (by decide) (by exact rfl) (by exact rfl) ?_)) | (k_here; (with_reducible show wpAny _ _ (subscriptTail (PySem.Expr.Subscript (PySem.Expr.Subscript _ _ _) (PySem.Expr.Constant _ _ _) _) (PySem.Expr.BinOp _ _ _ _) (Value.ref _) (Value.int (HSub.hSub _ _) _)) _ _ _); (refine item_ints (by k_asm) (by k_mem) (by with_reducible assumption) (by omega) (by omega) (by omega) ?_); intro _) | with_reducible (k_here; (with_reducible show wpAny _ _ (subscriptTail _ (PySem.Expr.Slice _ _ _ _) (Value.str _ _) (Value.ref _)) _ _ _); kxi_slice; intro _ _ _ _ _) | with_reducible (k_here; (with_reducible show wpAny _ _ (subscriptTail _ (PySem.Expr.Slice (some _) (some _) none _) (Value.ref _) (Value.ref _)) _ _ _); k_dflt (refine' sliceRun (s := ⟨_, _, _, _, _⟩) ?F ?N ?m ?x ?y ?z ?_; (case F => k_asm); (case N => k_asm); (case m => k_mem); (case z => assumption); (case x => first | decide | omega); (case y => first | decide | omega)); intro _ _ _ _ l1; (try dsimp only [AllLt] at l1); (try k_sweep)) | with_reducible (k_here; (with_reducible show wpAny _ _ (subscriptTail _ (PySem.Expr.Slice none (some _) none _) (Value.ref _) (Value.ref _)) _ _ _); k_dflt (refine' sliceUpto (s := ⟨_, _, _, _, _⟩) ?F ?N ?m ?x ?z ?_; (case F => k_asm); (case N => k_asm); (case m => k_mem); (case z => assumption); (case x => first | decide | omega)); intro _ _ _ _ l1; (try dsimp only [AllLt] at l1); (try k_sweep)) | with_reducible (k_here; (with_reducible show wpAny _ _ (subscriptTail _ (PySem.Expr.Slice (some _) none none _) (Value.ref _) (Value.ref _)) _ _ _); k_dflt (refine' sliceFrom (s := ⟨_, _, _, _, _⟩) ?F ?N ?m ?x ?z ?_; (case F => k_asm); (case N => k_asm); (case m => k_mem); (case z => first | assumption | exact Nat.le_trans (Nat.le_of_eq (by assumption)) (by decide)); (case x => first | decide | omega)); intro _ _ _ _ l1; (try dsimp only [AllLt] at l1); (try k_sweep)) | with_reducible (k_here; (with_reducible show wpAny _ _ (subscriptTail (Expr.Constant _ _ _) _ (Value.str _ _) (Value.int _ _)) _ _ _); (refine cod_tail (by assumption) ?_ (by with_unfolding_all rfl) (by intro _; with_unfolding_all rfl)))) | walk1); (all_goals ((try ((fail_if_success (fail_if_success (with_reducible rename (_ ∧ _) => hx9))); refine viaR ?_; intro R9 k9; (repeat (first | ((with_reducible rename (_ ∧ _ ∧ _ ∧ _ ∧ _ ∧ _ ∧ _ ∧ _) => hx9); refine and8 hx9 ?_; clear hx9; intro _ _ _ _ _ _ _ _) | ((with_reducible rename (_ ∧ _ ∧ _ ∧ _) => hx9); refine and4 hx9 ?_; clear hx9; intro _ _ _ _) | ((with_reducible rename (_ ∧ _) => hx9); refine and2 hx9 ?_; clear hx9; intro _ _) | ((with_reducible rename True => hx9); clear hx9))); refine k9 ?_; clear k9 R9)); repeat ((with_reducible rename (@Ne Nat _ _) => hx9); (have hx8 := apart_of hx9); clear hx9)))) | (dsimp only; walk1) | (leave1; try dsimp only))
    (rename Fr _ _ _ _ => Fd); (rename News _ _ _ _ => Nd)
    refine LCg.CompSrc.ledger (its := #[Value.int n0 t0, Value.int n1 t1, Value.int n2 t2]) (by rfl) Fd Nd (by k_mem) (by first | size_fits | exact Nat.le_of_ble_eq_true rfl) ?_
    intro g'
    refine' kcf_list (vs := [Value.int n0 t0, Value.int n1 t1, Value.int n2 t2]) (ns := [n0, n1, n2]) (fun k => k.fmod 4) (.cons _ _ (.cons _ _ (.cons _ _ (.nil)))) (fun k' t' I' oI' C' oC' D' m' ys' h' tk' E' hk' hC' hx' F' N' off' ne' hMark' => ?_) ?_
    · repeat' ((fail_if_success (with_reducible show wpAny _ _ (exec (Stmt.While _ _ _ _) _) _ _ _)); (fail_if_success (with_reducible show wpAny _ _ (exec (Stmt.For _ _ _ _ _) _) _ _ _)); (fail_if_success (with_reducible show KswEnd _ _ _ _ _ _ _ _ _ _ _ _)); (fail_if_success (with_reducible show FcEnd _ _ _ _ _ _ _ _ _ _)); (fail_if_success (with_reducible show CutEnd _ _ _ _ _ _ _ _ _)); first | (k_unfold; (try dsimp only)) | (k_end; wrow_close) | ((with_reducible show wpAny _ _ (subscriptTail _ _ _ _) _ _ _); first | (k_here; (with_reducible show wpAny _ _ (subscriptTail (PySem.Expr.Name _ _) (PySem.Expr.Name _ _) (Value.ref _) (Value.int (Nat.cast _) _)) _ _ _); (refine item_lst (by k_asm) (by k_mem) (by exact rfl) (by decide) ?_)) | (k_here; (with_reducible show wpAny _ _ (subscriptTail (PySem.Expr.Subscript (PySem.Expr.Name _ _) (PySem.Expr.Name _ _) _) (PySem.Expr.Constant _ _ _) (Value.ref _) (Value.int _ _)) _ _ _); (refine item_tup (by k_asm) (by k_mem) (by decide) (by decide) (by exact rfl) (by exact rfl) ?_)) | (k_here; (with_reducible show wpAny _ _ (subscriptTail (PySem.Expr.Subscript (PySem.Expr.Subscript _ _ _) (PySem.Expr.Constant _ _ _) _) (PySem.Expr.BinOp _ _ _ _) (Value.ref _) (Value.int (HSub.hSub _ _) _)) _ _ _); (refine item_ints (by k_asm) (by k_mem) (by with_reducible assumption) (by omega) (by omega) (by omega) ?_); intro _) | with_reducible (k_here; (with_reducible show wpAny _ _ (subscriptTail _ (PySem.Expr.Slice _ _ _ _) (Value.str _ _) (Value.ref _)) _ _ _); kxi_slice; intro _ _ _ _ _) | with_reducible (k_here; (with_reducible show wpAny _ _ (subscriptTail _ (PySem.Expr.Slice (some _) (some _) none _) (Value.ref _) (Value.ref _)) _ _ _); k_dflt (refine' sliceRun (s := ⟨_, _, _, _, _⟩) ?F ?N ?m ?x ?y ?z ?_; (case F => k_asm); (case N => k_asm); (case m => k_mem); (case z => assumption); (case x => first | decide | omega); (case y => first | decide | omega)); intro _ _ _ _ l1; (try dsimp only [AllLt] at l1); (try k_sweep)) | with_reducible (k_here; (with_reducible show wpAny _ _ (subscriptTail _ (PySem.Expr.Slice none (some _) none _) (Value.ref _) (Value.ref _)) _ _ _); k_dflt (refine' sliceUpto (s := ⟨_, _, _, _, _⟩) ?F ?N ?m ?x ?z ?_; (case F => k_asm); (case N => k_asm); (case m => k_mem); (case z => assumption); (case x => first | decide | omega)); intro _ _ _ _ l1; (try dsimp only [AllLt] at l1); (try k_sweep)) | with_reducible (k_here; (with_reducible show wpAny _ _ (subscriptTail _ (PySem.Expr.Slice (some _) none none _) (Value.ref _) (Value.ref _)) _ _ _); k_dflt (refine' sliceFrom (s := ⟨_, _, _, _, _⟩) ?F ?N ?m ?x ?z ?_; (case F => k_asm); (case N => k_asm); (case m => k_mem); (case z => first | assumption | exact Nat.le_trans (Nat.le_of_eq (by assumption)) (by decide)); (case x => first | decide | omega)); intro _ _ _ _ l1; (try dsimp only [AllLt] at l1); (try k_sweep)) | with_reducible (k_here; (with_reducible show wpAny _ _ (subscriptTail (Expr.Constant _ _ _) _ (Value.str _ _) (Value.int _ _)) _ _ _); (refine cod_tail (by assumption) ?_ (by with_unfolding_all rfl) (by intro _; with_unfolding_all rfl)))) | walk1 | (dsimp only; walk1) | (leave1; try dsimp only))
    · intro ys hys
      refine viaR ?_; intro R9 k9; refine nats3 hys ?_; intro w0 w1 w2 q0 q1 q2 hw0 hw1 hw2 e9; refine k9 ?_; clear k9 R9 hys; subst e9
      repeat' ((fail_if_success (with_reducible show wpAny _ _ (exec (Stmt.While _ _ _ _) _) _ _ _)); (fail_if_success (with_reducible show wpAny _ _ (exec (Stmt.For _ _ _ _ _) _) _ _ _)); (fail_if_success (with_reducible show wpAny _ _ (execs (Stmt.Assign [Expr.Name _ _] _ _ :: _) _) _ _ _)); (fail_if_success (with_reducible show FgEnd _ _ _ _ _ _ _ _ _ _)); (fail_if_success (with_reducible show KswEnd _ _ _ _ _ _ _ _ _ _ _ _)); (fail_if_success (with_reducible show FcEnd _ _ _ _ _ _ _ _ _ _)); (fail_if_success (with_reducible show CutEnd _ _ _ _ _ _ _ _ _)); first | (k_unfold; (try dsimp only)) | (k_end; wrow_close) | ((first | ((with_reducible show wpAny _ _ (subscriptTail _ _ _ _) _ _ _); first | (k_here; (with_reducible show wpAny _ _ (subscriptTail (PySem.Expr.Name _ _) (PySem.Expr.Name _ _) (Value.ref _) (Value.int (Nat.cast _) _)) _ _ _); (refine item_lst (by k_asm) (by k_mem) (by exact rfl) (by decide) ?_)) | (k_here; (with_reducible show wpAny _ _ (subscriptTail (PySem.Expr.Subscript (PySem.Expr.Name _ _) (PySem.Expr.Name _ _) _) (PySem.Expr.Constant _ _ _) (Value.ref _) (Value.int _ _)) _ _ _); (refine item_tup (by k_asm) (by k_mem) (by decide) (by decide) (by exact rfl) (by exact rfl) ?_)) | (k_here; (with_reducible show wpAny _ _ (subscriptTail (PySem.Expr.Subscript (PySem.Expr.Subscript _ _ _) (PySem.Expr.Constant _ _ _) _) (PySem.Expr.BinOp _ _ _ _) (Value.ref _) (Value.int (HSub.hSub _ _) _)) _ _ _); (refine item_ints (by k_asm) (by k_mem) (by with_reducible assumption) (by omega) (by omega) (by omega) ?_); intro _) | with_reducible (k_here; (with_reducible show wpAny _ _ (subscriptTail _ (PySem.Expr.Slice _ _ _ _) (Value.str _ _) (Value.ref _)) _ _ _); kxi_slice; intro _ _ _ _ _) | with_reducible (k_here; (with_reducible show wpAny _ _ (subscriptTail _ (PySem.Expr.Slice (some _) (some _) none _) (Value.ref _) (Value.ref _)) _ _ _); k_dflt (refine' sliceRun (s := ⟨_, _, _, _, _⟩) ?F ?N ?m ?x ?y ?z ?_; (case F => k_asm); (case N => k_asm); (case m => k_mem); (case z => assumption); (case x => first | decide | omega); (case y => first | decide | omega)); intro _ _ _ _ l1; (try dsimp only [AllLt] at l1); (try k_sweep)) | with_reducible (k_here; (with_reducible show wpAny _ _ (subscriptTail _ (PySem.Expr.Slice none (some _) none _) (Value.ref _) (Value.ref _)) _ _ _); k_dflt (refine' sliceUpto (s := ⟨_, _, _, _, _⟩) ?F ?N ?m ?x ?z ?_; (case F => k_asm); (case N => k_asm); (case m => k_mem); (case z => assumption); (case x => first | decide | omega)); intro _ _ _ _ l1; (try dsimp only [AllLt] at l1); (try k_sweep)) | with_reducible (k_here; (with_reducible show wpAny _ _ (subscriptTail _ (PySem.Expr.Slice (some _) none none _) (Value.ref _) (Value.ref _)) _ _ _); k_dflt (refine' sliceFrom (s := ⟨_, _, _, _, _⟩) ?F ?N ?m ?x ?z ?_; (case F => k_asm); (case N => k_asm); (case m => k_mem); (case z => first | assumption | exact Nat.le_trans (Nat.le_of_eq (by assumption)) (by decide)); (case x => first | decide | omega)); intro _ _ _ _ l1; (try dsimp only [AllLt] at l1); (try k_sweep)) | with_reducible (k_here; (with_reducible show wpAny _ _ (subscriptTail (Expr.Constant _ _ _) _ (Value.str _ _) (Value.int _ _)) _ _ _); (refine cod_tail (by assumption) ?_ (by with_unfolding_all rfl) (by intro _; with_unfolding_all rfl)))) | walk1); (all_goals ((try ((fail_if_success (fail_if_success (with_reducible rename (_ ∧ _) => hx9))); refine viaR ?_; intro R9 k9; (repeat (first | ((with_reducible rename (_ ∧ _ ∧ _ ∧ _ ∧ _ ∧ _ ∧ _ ∧ _) => hx9); refine and8 hx9 ?_; clear hx9; intro _ _ _ _ _ _ _ _) | ((with_reducible rename (_ ∧ _ ∧ _ ∧ _) => hx9); refine and4 hx9 ?_; clear hx9; intro _ _ _ _) | ((with_reducible rename (_ ∧ _) => hx9); refine and2 hx9 ?_; clear hx9; intro _ _) | ((with_reducible rename True => hx9); clear hx9))); refine k9 ?_; clear k9 R9)); repeat ((with_reducible rename (@Ne Nat _ _) => hx9); (have hx8 := apart_of hx9); clear hx9)))) | (dsimp only; walk1) | (leave1; try dsimp only))
      (rename Fr _ _ _ _ => F5); (rename News _ _ _ _ => N5)
      refine ofGenC hRR1 ?_
      refine cutEnd (_, (w0, w1, w2), (_, _, _)) F5 N5 (by exact fmem (List.Mem.head _) (fmem (by k_mem) (fun p hp => by (first | exact hp | exact List.Mem.tail _ (hp) | exact List.Mem.tail _ (List.Mem.tail _ (hp)) | exact List.Mem.tail _ (List.Mem.tail _ (List.Mem.tail _ (hp))) | exact List.Mem.tail _ (List.Mem.tail _ (List.Mem.tail _ (List.Mem.tail _ (hp)))) | exact List.Mem.tail _ (List.Mem.tail _ (List.Mem.tail _ (List.Mem.tail _ (List.Mem.tail _ (hp))))) | exact List.Mem.tail _ (List.Mem.tail _ (List.Mem.tail _ (List.Mem.tail _ (List.Mem.tail _ (List.Mem.tail _ (hp)))))) | exact List.Mem.tail _ (List.Mem.tail _ (List.Mem.tail _ (List.Mem.tail _ (List.Mem.tail _ (List.Mem.tail _ (List.Mem.tail _ (hp))))))) | exact List.Mem.tail _ (List.Mem.tail _ (List.Mem.tail _ (List.Mem.tail _ (List.Mem.tail _ (List.Mem.tail _ (List.Mem.tail _ (List.Mem.tail _ (hp)))))))))))) (by kst_all) (by (intro z h2 h3; (have hz0 : z ≠ Str.ofString "word" := h2 _ (.head _)); simp only [kstB, h3, if_neg hz0, Bool.false_eq_true, if_false])) (by
        refine ⟨⟨hw0, hw1, hw2⟩, ?_⟩
        dsimp only [AllNe]
        (try ((fail_if_success (fail_if_success (with_reducible rename (_ ∧ _) => hx9))); refine viaR ?_; intro R9 k9; (repeat (first | ((with_reducible rename (_ ∧ _ ∧ _ ∧ _ ∧ _ ∧ _ ∧ _ ∧ _) => hx9); refine and8 hx9 ?_; clear hx9; intro _ _ _ _ _ _ _ _) | ((with_reducible rename (_ ∧ _ ∧ _ ∧ _) => hx9); refine and4 hx9 ?_; clear hx9; intro _ _ _ _) | ((with_reducible rename (_ ∧ _) => hx9); refine and2 hx9 ?_; clear hx9; intro _ _) | ((with_reducible rename True => hx9); clear hx9))); refine k9 ?_; clear k9 R9))
        (repeat' (first | exact trivial | assumption | exact ⟨by assumption⟩ | exact ⟨Nat.ne_of_lt (by assumption)⟩ | exact ⟨by k_ne⟩ | refine And.intro ?_ ?_)))
  case h2 =>
  refine all_1_3_3 ?_; intro aW w0 w1 w2 tw0 tw1 tw2 u2 h2 tk2 hP F5 N5
  have hw0 := hP.1.1; have hw1 := hP.1.2.1; have hw2 := hP.1.2.2; have hneW := hP.2; clear hP
  dsimp only at hw0 hw1 hw2 hneW F5 N5
  dsimp only [AllNe] at hneW
  clear N3
  refine' stCut (σ := Addr × (Nat × Nat × Nat × Nat) × (Tok × Tok × Tok × Tok)) F5 (fun c => (c.1, LCg.lst [.int (c.2.1.1 : Int) c.2.2.1, .int (c.2.1.2.1 : Int) c.2.2.2.1, .int (c.2.1.2.2.1 : Int) c.2.2.2.2.1, .int (c.2.1.2.2.2 : Int) c.2.2.2.2.2]) :: (aW, LCg.lst [.int (w0 : Int) tw0, .int (w1 : Int) tw1, .int (w2 : Int) tw2]) :: [(s1.heap.objs.size + 1 + 1 + 1 + 1, oS), (s1.heap.objs.size + 1 + 1 + 1, oR), (s1.heap.objs.size + 1 + 1, oT), (s1.heap.objs.size + 1, oM), (37, tabObj #[]), (30, tabObj #[]), (81, tabObj #[])]) (fun c => [(Str.ofString "other", .ref c.1)]) [] (fun c => (c.2.1.1 < 4 ∧ c.2.1.2.1 < 4 ∧ c.2.1.2.2.1 < 4 ∧ c.2.1.2.2.2 < 4) ∧ AllNe c.1 ((aW, LCg.lst [.int (w0 : Int) tw0, .int (w1 : Int) tw1, .int (w2 : Int) tw2]) :: [(s1.heap.objs.size + 1 + 1 + 1 + 1, oS), (s1.heap.objs.size + 1 + 1 + 1, oR), (s1.heap.objs.size + 1 + 1, oT), (s1.heap.objs.size + 1, oM), (37, tabObj #[]), (30, tabObj #[]), (81, tabObj #[])])) ?h1 ?h2
  case h1 =>
    refine wpGen ?_; intro RR1 hRR1
    k_dflt (refine LCg.Assign_ListComp_U (F₀ := by k_asm) (by rfl) (by with_unfolding_all rfl) (by with_unfolding_all rfl) (by decide) (by rfl) (by decide) (by rfl) (by rfl) (by rfl) ?_)
    repeat' ((fail_if_success (with_reducible show LCg.CompSrc _ _ _ _ _ _ _ _ _ _ _ _ _ _)); (fail_if_success (with_reducible show KswEnd _ _ _ _ _ _ _ _ _ _ _ _)); (fail_if_success (with_reducible show FcEnd _ _ _ _ _ _ _ _ _ _)); (fail_if_success (with_reducible show CutEnd _ _ _ _ _ _ _ _ _)); first | (k_unfold; (try dsimp only)) | (k_end; wrow_close) | ((first | ((with_reducible show wpAny _ _ (subscriptTail _ _ _ _) _ _ _); first | (k_here; (with_reducible show wpAny _ _ (subscriptTail (PySem.Expr.Name _ _) (PySem.Expr.Name _ _) (Value.ref _) (Value.int (Nat.cast _) _)) _ _ _); (refine item_lst (by k_asm) (by k_mem) (by exact rfl) (by decide) ?_)) | (k_here; (with_reducible show wpAny _ _ (subscriptTail (PySem.Expr.Subscript (PySem.Expr.Name _ _) (PySem.Expr.Name _ _) _) (PySem.Expr.Constant _ _ _) (Value.ref _) (Value.int _ _)) _ _ _); (refine item_tup (by k_asm) (by k_mem) (by decide) (by decide) (by exact rfl) (by exact rfl) ?_)) | (k_here; (with_reducible show wpAny _ _ (subscriptTail (PySem.Expr.Subscript (PySem.Expr.Subscript _ _ _) (PySem.Expr.Constant _ _ _) _) (PySem.Expr.BinOp _ _ _ _) (Value.ref _) (Value.int (HSub.hSub _ _) _)) _ _ _); (refine item_ints (by k_asm) (by k_mem) (by with_reducible assumption) (by omega) (by omega) (by omega) ?_); intro _) | with_reducible (k_here; (with_reducible show wpAny _ _ (subscriptTail _ (PySem.Expr.Slice _ _ _ _) (Value.str _ _) (Value.ref _)) _ _ _); kxi_slice; intro _ _ _ _ _) | with_reducible (k_here; (with_reducible show wpAny _ _ (subscriptTail _ (PySem.Expr.Slice (some _) (some _) none _) (Value.ref _) (Value.ref _)) _ _ _); k_dflt (refine' sliceRun (s := ⟨_, _, _, _, _⟩) ?F ?N ?m ?x ?y ?z ?_; (case F => k_asm); (case N => k_asm); (case m => k_mem); (case z => assumption); (case x => first | decide | omega); (case y => first | decide | omega)); intro _ _ _ _ l1; (try dsimp only [AllLt] at l1); (try k_sweep)) | with_reducible (k_here; (with_reducible show wpAny _ _ (subscriptTail _ (PySem.Expr.Slice none (some _) none _) (Value.ref _) (Value.ref _)) _ _ _); k_dflt (refine' sliceUpto (s := ⟨_, _, _, _, _⟩) ?F ?N ?m ?x ?z ?_; (case F => k_asm); (case N => k_asm); (case m => k_mem); (case z => assumption); (case x => first | decide | omega)); intro _ _ _ _ l1; (try dsimp only [AllLt] at l1); (try k_sweep)) | with_reducible (k_here; (with_reducible show wpAny _ _ (subscriptTail _ (PySem.Expr.Slice (some _) none none _) (Value.ref _) (Value.ref _)) _ _ _); k_dflt (refine' sliceFrom (s := ⟨_, _, _, _, _⟩) ?F ?N ?m ?x ?z ?_; (case F => k_asm); (case N => k_asm); (case m => k_mem); (case z => first | assumption | exact Nat.le_trans (Nat.le_of_eq (by assumption)) (by decide)); (case x => first | decide | omega)); intro _ _ _ _ l1; (try dsimp only [AllLt] at l1); (try k_sweep)) | with_reducible (k_here; (with_reducible show wpAny _ _ (subscriptTail (Expr.Constant _ _ _) _ (Value.str _ _) (Value.int _ _)) _ _ _); (refine cod_tail (by assumption) ?_ (by with_unfolding_all rfl) (by intro _; with_unfolding_all rfl)))) | walk1); (all_goals ((try ((fail_if_success (fail_if_success (with_reducible rename (_ ∧ _) => hx9))); refine viaR ?_; intro R9 k9; (repeat (first | ((with_reducible rename (_ ∧ _ ∧ _ ∧ _ ∧ _ ∧ _ ∧ _ ∧ _) => hx9); refine and8 hx9 ?_; clear hx9; intro _ _ _ _ _ _ _ _) | ((with_reducible rename (_ ∧ _ ∧ _ ∧ _) => hx9); refine and4 hx9 ?_; clear hx9; intro _ _ _ _) | ((with_reducible rename (_ ∧ _) => hx9); refine and2 hx9 ?_; clear hx9; intro _ _) | ((with_reducible rename True => hx9); clear hx9))); refine k9 ?_; clear k9 R9)); repeat ((with_reducible rename (@Ne Nat _ _) => hx9); (have hx8 := apart_of hx9); clear hx9)))) | (dsimp only; walk1) | (leave1; try dsimp only))
    (rename Fr _ _ _ _ => Fd); (rename News _ _ _ _ => Nd)
    refine LCg.CompSrc.ledger (its := #[Value.int n3 t3, Value.int n4 t4, Value.int n5 t5, Value.int n6 t6]) (by rfl) Fd Nd (by k_mem) (by first | size_fits | exact Nat.le_of_ble_eq_true rfl) ?_
    intro g'
    refine' kcf_list (vs := [Value.int n3 t3, Value.int n4 t4, Value.int n5 t5, Value.int n6 t6]) (ns := [n3, n4, n5, n6]) (fun k => k.fmod 4) (.cons _ _ (.cons _ _ (.cons _ _ (.cons _ _ (.nil))))) (fun k' t' I' oI' C' oC' D' m' ys' h' tk' E' hk' hC' hx' F' N' off' ne' hMark' => ?_) ?_
    · repeat' ((fail_if_success (with_reducible show wpAny _ _ (exec (Stmt.While _ _ _ _) _) _ _ _)); (fail_if_success (with_reducible show wpAny _ _ (exec (Stmt.For _ _ _ _ _) _) _ _ _)); (fail_if_success (with_reducible show KswEnd _ _ _ _ _ _ _ _ _ _ _ _)); (fail_if_success (with_reducible show FcEnd _ _ _ _ _ _ _ _ _ _)); (fail_if_success (with_reducible show CutEnd _ _ _ _ _ _ _ _ _)); first | (k_unfold; (try dsimp only)) | (k_end; wrow_close) | ((with_reducible show wpAny _ _ (subscriptTail _ _ _ _) _ _ _); first | (k_here; (with_reducible show wpAny _ _ (subscriptTail (PySem.Expr.Name _ _) (PySem.Expr.Name _ _) (Value.ref _) (Value.int (Nat.cast _) _)) _ _ _); (refine item_lst (by k_asm) (by k_mem) (by exact rfl) (by decide) ?_)) | (k_here; (with_reducible show wpAny _ _ (subscriptTail (PySem.Expr.Subscript (PySem.Expr.Name _ _) (PySem.Expr.Name _ _) _) (PySem.Expr.Constant _ _ _) (Value.ref _) (Value.int _ _)) _ _ _); (refine item_tup (by k_asm) (by k_mem) (by decide) (by decide) (by exact rfl) (by exact rfl) ?_)) | (k_here; (with_reducible show wpAny _ _ (subscriptTail (PySem.Expr.Subscript (PySem.Expr.Subscript _ _ _) (PySem.Expr.Constant _ _ _) _) (PySem.Expr.BinOp _ _ _ _) (Value.ref _) (Value.int (HSub.hSub _ _) _)) _ _ _); (refine item_ints (by k_asm) (by k_mem) (by with_reducible assumption) (by omega) (by omega) (by omega) ?_); intro _) | with_reducible (k_here; (with_reducible show wpAny _ _ (subscriptTail _ (PySem.Expr.Slice _ _ _ _) (Value.str _ _) (Value.ref _)) _ _ _); kxi_slice; intro _ _ _ _ _) | with_reducible (k_here; (with_reducible show wpAny _ _ (subscriptTail _ (PySem.Expr.Slice (some _) (some _) none _) (Value.ref _) (Value.ref _)) _ _ _); k_dflt (refine' sliceRun (s := ⟨_, _, _, _, _⟩) ?F ?N ?m ?x ?y ?z ?_; (case F => k_asm); (case N => k_asm); (case m => k_mem); (case z => assumption); (case x => first | decide | omega); (case y => first | decide | omega)); intro _ _ _ _ l1; (try dsimp only [AllLt] at l1); (try k_sweep)) | with_reducible (k_here; (with_reducible show wpAny _ _ (subscriptTail _ (PySem.Expr.Slice none (some _) none _) (Value.ref _) (Value.ref _)) _ _ _); k_dflt (refine' sliceUpto (s := ⟨_, _, _, _, _⟩) ?F ?N ?m ?x ?z ?_; (case F => k_asm); (case N => k_asm); (case m => k_mem); (case z => assumption); (case x => first | decide | omega)); intro _ _ _ _ l1; (try dsimp only [AllLt] at l1); (try k_sweep)) | with_reducible (k_here; (with_reducible show wpAny _ _ (subscriptTail _ (PySem.Expr.Slice (some _) none none _) (Value.ref _) (Value.ref _)) _ _ _); k_dflt (refine' sliceFrom (s := ⟨_, _, _, _, _⟩) ?F ?N ?m ?x ?z ?_; (case F => k_asm); (case N => k_asm); (case m => k_mem); (case z => first | assumption | exact Nat.le_trans (Nat.le_of_eq (by assumption)) (by decide)); (case x => first | decide | omega)); intro _ _ _ _ l1; (try dsimp only [AllLt] at l1); (try k_sweep)) | with_reducible (k_here; (with_reducible show wpAny _ _ (subscriptTail (Expr.Constant _ _ _) _ (Value.str _ _) (Value.int _ _)) _ _ _); (refine cod_tail (by assumption) ?_ (by with_unfolding_all rfl) (by intro _; with_unfolding_all rfl)))) | walk1 | (dsimp only; walk1) | (leave1; try dsimp only))
    · intro ys hys
      refine viaR ?_; intro R9 k9; refine nats4 hys ?_; intro o0 o1 o2 o3 q0 q1 q2 q3 ho0 ho1 ho2 ho3 e9; refine k9 ?_; clear k9 R9 hys; subst e9
      repeat' ((fail_if_success (with_reducible show wpAny _ _ (exec (Stmt.While _ _ _ _) _) _ _ _)); (fail_if_success (with_reducible show wpAny _ _ (exec (Stmt.For _ _ _ _ _) _) _ _ _)); (fail_if_success (with_reducible show wpAny _ _ (execs (Stmt.Assign [Expr.Name _ _] _ _ :: _) _) _ _ _)); (fail_if_success (with_reducible show FgEnd _ _ _ _ _ _ _ _ _ _)); (fail_if_success (with_reducible show KswEnd _ _ _ _ _ _ _ _ _ _ _ _)); (fail_if_success (with_reducible show FcEnd _ _ _ _ _ _ _ _ _ _)); (fail_if_success (with_reducible show CutEnd _ _ _ _ _ _ _ _ _)); first | (k_unfold; (try dsimp only)) | (k_end; wrow_close) | ((first | ((with_reducible show wpAny _ _ (subscriptTail _ _ _ _) _ _ _); first | (k_here; (with_reducible show wpAny _ _ (subscriptTail (PySem.Expr.Name _ _) (PySem.Expr.Name _ _) (Value.ref _) (Value.int (Nat.cast _) _)) _ _ _); (refine item_lst (by k_asm) (by k_mem) (by exact rfl) (by decide) ?_)) | (k_here; (with_reducible show wpAny _ _ (subscriptTail (PySem.Expr.Subscript (PySem.Expr.Name _ _) (PySem.Expr.Name _ _) _) (PySem.Expr.Constant _ _ _) (Value.ref _) (Value.int _ _)) _ _ _); (refine item_tup (by k_asm) (by k_mem) (by decide) (by decide) (by exact rfl) (by exact rfl) ?_)) | (k_here; (with_reducible show wpAny _ _ (subscriptTail (PySem.Expr.Subscript (PySem.Expr.Subscript _ _ _) (PySem.Expr.Constant _ _ _) _) (PySem.Expr.BinOp _ _ _ _) (Value.ref _) (Value.int (HSub.hSub _ _) _)) _ _ _); (refine item_ints (by k_asm) (by k_mem) (by with_reducible assumption) (by omega) (by omega) (by omega) ?_); intro _) | with_reducible (k_here; (with_reducible show wpAny _ _ (subscriptTail _ (PySem.Expr.Slice _ _ _ _) (Value.str _ _) (Value.ref _)) _ _ _); kxi_slice; intro _ _ _ _ _) | with_reducible (k_here; (with_reducible show wpAny _ _ (subscriptTail _ (PySem.Expr.Slice (some _) (some _) none _) (Value.ref _) (Value.ref _)) _ _ _); k_dflt (refine' sliceRun (s := ⟨_, _, _, _, _⟩) ?F ?N ?m ?x ?y ?z ?_; (case F => k_asm); (case N => k_asm); (case m => k_mem); (case z => assumption); (case x => first | decide | omega); (case y => first | decide | omega)); intro _ _ _ _ l1; (try dsimp only [AllLt] at l1); (try k_sweep)) | with_reducible (k_here; (with_reducible show wpAny _ _ (subscriptTail _ (PySem.Expr.Slice none (some _) none _) (Value.ref _) (Value.ref _)) _ _ _); k_dflt (refine' sliceUpto (s := ⟨_, _, _, _, _⟩) ?F ?N ?m ?x ?z ?_; (case F => k_asm); (case N => k_asm); (case m => k_mem); (case z => assumption); (case x => first | decide | omega)); intro _ _ _ _ l1; (try dsimp only [AllLt] at l1); (try k_sweep)) | with_reducible (k_here; (with_reducible show wpAny _ _ (subscriptTail _ (PySem.Expr.Slice (some _) none none _) (Value.ref _) (Value.ref _)) _ _ _); k_dflt (refine' sliceFrom (s := ⟨_, _, _, _, _⟩) ?F ?N ?m ?x ?z ?_; (case F => k_asm); (case N => k_asm); (case m => k_mem); (case z => first | assumption | exact Nat.le_trans (Nat.le_of_eq (by assumption)) (by decide)); (case x => first | decide | omega)); intro _ _ _ _ l1; (try dsimp only [AllLt] at l1); (try k_sweep)) | with_reducible (k_here; (with_reducible show wpAny _ _ (subscriptTail (Expr.Constant _ _ _) _ (Value.str _ _) (Value.int _ _)) _ _ _); (refine cod_tail (by assumption) ?_ (by with_unfolding_all rfl) (by intro _; with_unfolding_all rfl)))) | walk1); (all_goals ((try ((fail_if_success (fail_if_success (with_reducible rename (_ ∧ _) => hx9))); refine viaR ?_; intro R9 k9; (repeat (first | ((with_reducible rename (_ ∧ _ ∧ _ ∧ _ ∧ _ ∧ _ ∧ _ ∧ _) => hx9); refine and8 hx9 ?_; clear hx9; intro _ _ _ _ _ _ _ _) | ((with_reducible rename (_ ∧ _ ∧ _ ∧ _) => hx9); refine and4 hx9 ?_; clear hx9; intro _ _ _ _) | ((with_reducible rename (_ ∧ _) => hx9); refine and2 hx9 ?_; clear hx9; intro _ _) | ((with_reducible rename True => hx9); clear hx9))); refine k9 ?_; clear k9 R9)); repeat ((with_reducible rename (@Ne Nat _ _) => hx9); (have hx8 := apart_of hx9); clear hx9)))) | (dsimp only; walk1) | (leave1; try dsimp only))
      (rename Fr _ _ _ _ => F6); (rename News _ _ _ _ => N6)
      refine ofGenC hRR1 ?_
      refine cutEnd (_, (o0, o1, o2, o3), (_, _, _, _)) F6 N6 (by exact fmem (List.Mem.head _) (fmem (by k_mem) (fun p hp => by (first | exact hp | exact List.Mem.tail _ (hp) | exact List.Mem.tail _ (List.Mem.tail _ (hp)) | exact List.Mem.tail _ (List.Mem.tail _ (List.Mem.tail _ (hp))) | exact List.Mem.tail _ (List.Mem.tail _ (List.Mem.tail _ (List.Mem.tail _ (hp)))) | exact List.Mem.tail _ (List.Mem.tail _ (List.Mem.tail _ (List.Mem.tail _ (List.Mem.tail _ (hp))))) | exact List.Mem.tail _ (List.Mem.tail _ (List.Mem.tail _ (List.Mem.tail _ (List.Mem.tail _ (List.Mem.tail _ (hp)))))) | exact List.Mem.tail _ (List.Mem.tail _ (List.Mem.tail _ (List.Mem.tail _ (List.Mem.tail _ (List.Mem.tail _ (List.Mem.tail _ (hp))))))) | exact List.Mem.tail _ (List.Mem.tail _ (List.Mem.tail _ (List.Mem.tail _ (List.Mem.tail _ (List.Mem.tail _ (List.Mem.tail _ (List.Mem.tail _ (hp)))))))))))) (by kst_all) (by (intro z h2 h3; (have hz0 : z ≠ Str.ofString "other" := h2 _ (.head _)); simp only [kstB, h3, if_neg hz0, Bool.false_eq_true, if_false])) (by
        refine ⟨⟨ho0, ho1, ho2, ho3⟩, ?_⟩
        dsimp only [AllNe]
        (try ((fail_if_success (fail_if_success (with_reducible rename (_ ∧ _) => hx9))); refine viaR ?_; intro R9 k9; (repeat (first | ((with_reducible rename (_ ∧ _ ∧ _ ∧ _ ∧ _ ∧ _ ∧ _ ∧ _) => hx9); refine and8 hx9 ?_; clear hx9; intro _ _ _ _ _ _ _ _) | ((with_reducible rename (_ ∧ _ ∧ _ ∧ _) => hx9); refine and4 hx9 ?_; clear hx9; intro _ _ _ _) | ((with_reducible rename (_ ∧ _) => hx9); refine and2 hx9 ?_; clear hx9; intro _ _) | ((with_reducible rename True => hx9); clear hx9))); refine k9 ?_; clear k9 R9))
        (repeat' (first | exact trivial | assumption | exact ⟨by assumption⟩ | exact ⟨Nat.ne_of_lt (by assumption)⟩ | exact ⟨by k_ne⟩ | refine And.intro ?_ ?_)))
  case h2 =>
  refine all_1_4_4 ?_; intro aO o0 o1 o2 o3 to0 to1 to2 to3 u3 h3 tk3 hP F6 N6
  have ho0 := hP.1.1; have ho1 := hP.1.2.1; have ho2 := hP.1.2.2.1; have ho3 := hP.1.2.2.2; have hneO := hP.2; clear hP
  dsimp only at ho0 ho1 ho2 ho3 hneO F6 N6
  dsimp only [AllNe] at hneO
  refine exE (fr_base (ps := [(Str.ofString "word", .ref aW), (Str.ofString "other", .ref aO)]) F6 (by kst_all)) ?_; intro U2 F7
  clear F4 F5 F6 N5
  refine' stCut (σ := Tok) F7 (fun c => (aW, LCg.lst [.int (w0 : Int) tw0, .int (w1 : Int) tw1, .int (w2 : Int) tw2]) :: (aO, LCg.lst [.int (o0 : Int) to0, .int (o1 : Int) to1, .int (o2 : Int) to2, .int (o3 : Int) to3]) :: [(s1.heap.objs.size + 1 + 1 + 1 + 1, oS), (s1.heap.objs.size + 1 + 1 + 1, oR), (s1.heap.objs.size + 1 + 1, oT), (s1.heap.objs.size + 1, oM), (37, tabObj #[]), (30, tabObj #[]), (81, tabObj #[])]) (fun c => [(Str.ofString "short", .str (S [cod w0, cod w1, cod w2]) c)]) [] (fun _ => True) ?h1 ?h2
  case h1 =>
    refine wpGen ?_; intro RR1 hRR1
    repeat' ((fail_if_success (with_reducible show wpAny _ _ (eval (Expr.ListComp _ _ _ _) _) _ _ _)); (fail_if_success (with_reducible show KswEnd _ _ _ _ _ _ _ _ _ _ _ _)); (fail_if_success (with_reducible show FcEnd _ _ _ _ _ _ _ _ _ _)); (fail_if_success (with_reducible show CutEnd _ _ _ _ _ _ _ _ _)); first | (k_unfold; (try dsimp only)) | (k_end; wrow_close) | ((first | ((with_reducible show wpAny _ _ (subscriptTail _ _ _ _) _ _ _); first | (k_here; (with_reducible show wpAny _ _ (subscriptTail (PySem.Expr.Name _ _) (PySem.Expr.Name _ _) (Value.ref _) (Value.int (Nat.cast _) _)) _ _ _); (refine item_lst (by k_asm) (by k_mem) (by exact rfl) (by decide) ?_)) | (k_here; (with_reducible show wpAny _ _ (subscriptTail (PySem.Expr.Subscript (PySem.Expr.Name _ _) (PySem.Expr.Name _ _) _) (PySem.Expr.Constant _ _ _) (Value.ref _) (Value.int _ _)) _ _ _); (refine item_tup (by k_asm) (by k_mem) (by decide) (by decide) (by exact rfl) (by exact rfl) ?_)) | (k_here; (with_reducible show wpAny _ _ (subscriptTail (PySem.Expr.Subscript (PySem.Expr.Subscript _ _ _) (PySem.Expr.Constant _ _ _) _) (PySem.Expr.BinOp _ _ _ _) (Value.ref _) (Value.int (HSub.hSub _ _) _)) _ _ _); (refine item_ints (by k_asm) (by k_mem) (by with_reducible assumption) (by omega) (by omega) (by omega) ?_); intro _) | with_reducible (k_here; (with_reducible show wpAny _ _ (subscriptTail _ (PySem.Expr.Slice _ _ _ _) (Value.str _ _) (Value.ref _)) _ _ _); kxi_slice; intro _ _ _ _ _) | with_reducible (k_here; (with_reducible show wpAny _ _ (subscriptTail _ (PySem.Expr.Slice (some _) (some _) none _) (Value.ref _) (Value.ref _)) _ _ _); k_dflt (refine' sliceRun (s := ⟨_, _, _, _, _⟩) ?F ?N ?m ?x ?y ?z ?_; (case F => k_asm); (case N => k_asm); (case m => k_mem); (case z => assumption); (case x => first | decide | omega); (case y => first | decide | omega)); intro _ _ _ _ l1; (try dsimp only [AllLt] at l1); (try k_sweep)) | with_reducible (k_here; (with_reducible show wpAny _ _ (subscriptTail _ (PySem.Expr.Slice none (some _) none _) (Value.ref _) (Value.ref _)) _ _ _); k_dflt (refine' sliceUpto (s := ⟨_, _, _, _, _⟩) ?F ?N ?m ?x ?z ?_; (case F => k_asm); (case N => k_asm); (case m => k_mem); (case z => assumption); (case x => first | decide | omega)); intro _ _ _ _ l1; (try dsimp only [AllLt] at l1); (try k_sweep)) | with_reducible (k_here; (with_reducible show wpAny _ _ (subscriptTail _ (PySem.Expr.Slice (some _) none none _) (Value.ref _) (Value.ref _)) _ _ _); k_dflt (refine' sliceFrom (s := ⟨_, _, _, _, _⟩) ?F ?N ?m ?x ?z ?_; (case F => k_asm); (case N => k_asm); (case m => k_mem); (case z => first | assumption | exact Nat.le_trans (Nat.le_of_eq (by assumption)) (by decide)); (case x => first | decide | omega)); intro _ _ _ _ l1; (try dsimp only [AllLt] at l1); (try k_sweep)) | with_reducible (k_here; (with_reducible show wpAny _ _ (subscriptTail (Expr.Constant _ _ _) _ (Value.str _ _) (Value.int _ _)) _ _ _); (refine cod_tail (by assumption) ?_ (by with_unfolding_all rfl) (by intro _; with_unfolding_all rfl)))) | walk1); (all_goals ((try ((fail_if_success (fail_if_success (with_reducible rename (_ ∧ _) => hx9))); refine viaR ?_; intro R9 k9; (repeat (first | ((with_reducible rename (_ ∧ _ ∧ _ ∧ _ ∧ _ ∧ _ ∧ _ ∧ _) => hx9); refine and8 hx9 ?_; clear hx9; intro _ _ _ _ _ _ _ _) | ((with_reducible rename (_ ∧ _ ∧ _ ∧ _) => hx9); refine and4 hx9 ?_; clear hx9; intro _ _ _ _) | ((with_reducible rename (_ ∧ _) => hx9); refine and2 hx9 ?_; clear hx9; intro _ _) | ((with_reducible rename True => hx9); clear hx9))); refine k9 ?_; clear k9 R9)); repeat ((with_reducible rename (@Ne Nat _ _) => hx9); (have hx8 := apart_of hx9); clear hx9)))) | (dsimp only; walk1) | (leave1; try dsimp only))
    k_dflt (refine LCg.ListComp_U (F₀ := by k_asm) (by with_unfolding_all rfl) (by decide) (by rfl) (by decide) (by rfl) ?_)
    repeat' ((fail_if_success (with_reducible show LCg.CompSrc _ _ _ _ _ _ _ _ _ _ _ _ _ _)); (fail_if_success (with_reducible show KswEnd _ _ _ _ _ _ _ _ _ _ _ _)); (fail_if_success (with_reducible show FcEnd _ _ _ _ _ _ _ _ _ _)); (fail_if_success (with_reducible show CutEnd _ _ _ _ _ _ _ _ _)); first | (k_unfold; (try dsimp only)) | (k_end; wrow_close) | ((first | ((with_reducible show wpAny _ _ (subscriptTail _ _ _ _) _ _ _); first | (k_here; (with_reducible show wpAny _ _ (subscriptTail (PySem.Expr.Name _ _) (PySem.Expr.Name _ _) (Value.ref _) (Value.int (Nat.cast _) _)) _ _ _); (refine item_lst (by k_asm) (by k_mem) (by exact rfl) (by decide) ?_)) | (k_here; (with_reducible show wpAny _ _ (subscriptTail (PySem.Expr.Subscript (PySem.Expr.Name _ _) (PySem.Expr.Name _ _) _) (PySem.Expr.Constant _ _ _) (Value.ref _) (Value.int _ _)) _ _ _); (refine item_tup (by k_asm) (by k_mem) (by decide) (by decide) (by exact rfl) (by exact rfl) ?_)) | (k_here; (with_reducible show wpAny _ _ (subscriptTail (PySem.Expr.Subscript (PySem.Expr.Subscript _ _ _) (PySem.Expr.Constant _ _ _) _) (PySem.Expr.BinOp _ _ _ _) (Value.ref _) (Value.int (HSub.hSub _ _) _)) _ _ _); (refine item_ints (by k_asm) (by k_mem) (by with_reducible assumption) (by omega) (by omega) (by omega) ?_); intro _) | with_reducible (k_here; (with_reducible show wpAny _ _ (subscriptTail _ (PySem.Expr.Slice _ _ _ _) (Value.str _ _) (Value.ref _)) _ _ _); kxi_slice; intro _ _ _ _ _) | with_reducible (k_here; (with_reducible show wpAny _ _ (subscriptTail _ (PySem.Expr.Slice (some _) (some _) none _) (Value.ref _) (Value.ref _)) _ _ _); k_dflt (refine' sliceRun (s := ⟨_, _, _, _, _⟩) ?F ?N ?m ?x ?y ?z ?_; (case F => k_asm); (case N => k_asm); (case m => k_mem); (case z => assumption); (case x => first | decide | omega); (case y => first | decide | omega)); intro _ _ _ _ l1; (try dsimp only [AllLt] at l1); (try k_sweep)) | with_reducible (k_here; (with_reducible show wpAny _ _ (subscriptTail _ (PySem.Expr.Slice none (some _) none _) (Value.ref _) (Value.ref _)) _ _ _); k_dflt (refine' sliceUpto (s := ⟨_, _, _, _, _⟩) ?F ?N ?m ?x ?z ?_; (case F => k_asm); (case N => k_asm); (case m => k_mem); (case z => assumption); (case x => first | decide | omega)); intro _ _ _ _ l1; (try dsimp only [AllLt] at l1); (try k_sweep)) | with_reducible (k_here; (with_reducible show wpAny _ _ (subscriptTail _ (PySem.Expr.Slice (some _) none none _) (Value.ref _) (Value.ref _)) _ _ _); k_dflt (refine' sliceFrom (s := ⟨_, _, _, _, _⟩) ?F ?N ?m ?x ?z ?_; (case F => k_asm); (case N => k_asm); (case m => k_mem); (case z => first | assumption | exact Nat.le_trans (Nat.le_of_eq (by assumption)) (by decide)); (case x => first | decide | omega)); intro _ _ _ _ l1; (try dsimp only [AllLt] at l1); (try k_sweep)) | with_reducible (k_here; (with_reducible show wpAny _ _ (subscriptTail (Expr.Constant _ _ _) _ (Value.str _ _) (Value.int _ _)) _ _ _); (refine cod_tail (by assumption) ?_ (by with_unfolding_all rfl) (by intro _; with_unfolding_all rfl)))) | walk1); (all_goals ((try ((fail_if_success (fail_if_success (with_reducible rename (_ ∧ _) => hx9))); refine viaR ?_; intro R9 k9; (repeat (first | ((with_reducible rename (_ ∧ _ ∧ _ ∧ _ ∧ _ ∧ _ ∧ _ ∧ _) => hx9); refine and8 hx9 ?_; clear hx9; intro _ _ _ _ _ _ _ _) | ((with_reducible rename (_ ∧ _ ∧ _ ∧ _) => hx9); refine and4 hx9 ?_; clear hx9; intro _ _ _ _) | ((with_reducible rename (_ ∧ _) => hx9); refine and2 hx9 ?_; clear hx9; intro _ _) | ((with_reducible rename True => hx9); clear hx9))); refine k9 ?_; clear k9 R9)); repeat ((with_reducible rename (@Ne Nat _ _) => hx9); (have hx8 := apart_of hx9); clear hx9)))) | (dsimp only; walk1) | (leave1; try dsimp only))
    (rename Fr _ _ _ _ => Fd); (rename News _ _ _ _ => Nd)
    refine LCg.CompSrc.ledger (its := #[Value.int (w0 : Int) tw0, Value.int (w1 : Int) tw1, Value.int (w2 : Int) tw2]) (by rfl) Fd Nd (by k_mem) (by first | size_fits | exact Nat.le_of_ble_eq_true rfl) ?_
    intro g'
    refine' sc_list (vs := [Value.int (w0 : Int) tw0, Value.int (w1 : Int) tw1, Value.int (w2 : Int) tw2]) (ks := [w0, w1, w2]) (.cons _ _ (.cons _ _ (.cons _ _ (.nil)))) (fmem hw0 (fmem hw1 (fmem hw2 (List.forall_mem_nil _)))) (fun k' t' I' oI' C' oC' D' m' ys' h' tk' E' hk' hC' hx' F' N' off' ne' => ?_) ?_
    · repeat' ((fail_if_success (with_reducible show wpAny _ _ (exec (Stmt.While _ _ _ _) _) _ _ _)); (fail_if_success (with_reducible show wpAny _ _ (exec (Stmt.For _ _ _ _ _) _) _ _ _)); (fail_if_success (with_reducible show KswEnd _ _ _ _ _ _ _ _ _ _ _ _)); (fail_if_success (with_reducible show FcEnd _ _ _ _ _ _ _ _ _ _)); (fail_if_success (with_reducible show CutEnd _ _ _ _ _ _ _ _ _)); first | (k_unfold; (try dsimp only)) | (k_end; wrow_close) | ((with_reducible show wpAny _ _ (subscriptTail _ _ _ _) _ _ _); first | (k_here; (with_reducible show wpAny _ _ (subscriptTail (PySem.Expr.Name _ _) (PySem.Expr.Name _ _) (Value.ref _) (Value.int (Nat.cast _) _)) _ _ _); (refine item_lst (by k_asm) (by k_mem) (by exact rfl) (by decide) ?_)) | (k_here; (with_reducible show wpAny _ _ (subscriptTail (PySem.Expr.Subscript (PySem.Expr.Name _ _) (PySem.Expr.Name _ _) _) (PySem.Expr.Constant _ _ _) (Value.ref _) (Value.int _ _)) _ _ _); (refine item_tup (by k_asm) (by k_mem) (by decide) (by decide) (by exact rfl) (by exact rfl) ?_)) | (k_here; (with_reducible show wpAny _ _ (subscriptTail (PySem.Expr.Subscript (PySem.Expr.Subscript _ _ _) (PySem.Expr.Constant _ _ _) _) (PySem.Expr.BinOp _ _ _ _) (Value.ref _) (Value.int (HSub.hSub _ _) _)) _ _ _); (refine item_ints (by k_asm) (by k_mem) (by with_reducible assumption) (by omega) (by omega) (by omega) ?_); intro _) | with_reducible (k_here; (with_reducible show wpAny _ _ (subscriptTail _ (PySem.Expr.Slice _ _ _ _) (Value.str _ _) (Value.ref _)) _ _ _); kxi_slice; intro _ _ _ _ _) | with_reducible (k_here; (with_reducible show wpAny _ _ (subscriptTail _ (PySem.Expr.Slice (some _) (some _) none _) (Value.ref _) (Value.ref _)) _ _ _); k_dflt (refine' sliceRun (s := ⟨_, _, _, _, _⟩) ?F ?N ?m ?x ?y ?z ?_; (case F => k_asm); (case N => k_asm); (case m => k_mem); (case z => assumption); (case x => first | decide | omega); (case y => first | decide | omega)); intro _ _ _ _ l1; (try dsimp only [AllLt] at l1); (try k_sweep)) | with_reducible (k_here; (with_reducible show wpAny _ _ (subscriptTail _ (PySem.Expr.Slice none (some _) none _) (Value.ref _) (Value.ref _)) _ _ _); k_dflt (refine' sliceUpto (s := ⟨_, _, _, _, _⟩) ?F ?N ?m ?x ?z ?_; (case F => k_asm); (case N => k_asm); (case m => k_mem); (case z => assumption); (case x => first | decide | omega)); intro _ _ _ _ l1; (try dsimp only [AllLt] at l1); (try k_sweep)) | with_reducible (k_here; (with_reducible show wpAny _ _ (subscriptTail _ (PySem.Expr.Slice (some _) none none _) (Value.ref _) (Value.ref _)) _ _ _); k_dflt (refine' sliceFrom (s := ⟨_, _, _, _, _⟩) ?F ?N ?m ?x ?z ?_; (case F => k_asm); (case N => k_asm); (case m => k_mem); (case z => first | assumption | exact Nat.le_trans (Nat.le_of_eq (by assumption)) (by decide)); (case x => first | decide | omega)); intro _ _ _ _ l1; (try dsimp only [AllLt] at l1); (try k_sweep)) | with_reducible (k_here; (with_reducible show wpAny _ _ (subscriptTail (Expr.Constant _ _ _) _ (Value.str _ _) (Value.int _ _)) _ _ _); (refine cod_tail (by assumption) ?_ (by with_unfolding_all rfl) (by intro _; with_unfolding_all rfl)))) | walk1 | (dsimp only; walk1) | (leave1; try dsimp only))
      all_goals exact LCg.CompEnd.intro (by assumption) (by assumption) _ (fun _ hp => hp) (by first | exact off' | assumption | (simp only [LCg.Off3, and_true]; assumption)) (by first | lcg_src | assumption) ⟨rfl, _, rfl⟩
    intro ys hys
    have hys : StrsAre ys [S [cod w0], S [cod w1], S [cod w2]] := hys
    repeat' ((fail_if_success (with_reducible show wpAny _ _ (call (Value.builtin "str.join") _) _ _ _)); (fail_if_success (with_reducible show wpAny _ _ (exec (Stmt.While _ _ _ _) _) _ _ _)); (fail_if_success (with_reducible show wpAny _ _ (exec (Stmt.For _ _ _ _ _) _) _ _ _)); (fail_if_success (with_reducible show wpAny _ _ (execs (Stmt.Assign [Expr.Name _ _] _ _ :: _) _) _ _ _)); (fail_if_success (with_reducible show FgEnd _ _ _ _ _ _ _ _ _ _)); (fail_if_success (with_reducible show KswEnd _ _ _ _ _ _ _ _ _ _ _ _)); (fail_if_success (with_reducible show FcEnd _ _ _ _ _ _ _ _ _ _)); (fail_if_success (with_reducible show CutEnd _ _ _ _ _ _ _ _ _)); first | (k_unfold; (try dsimp only)) | (k_end; wrow_close) | ((first | ((with_reducible show wpAny _ _ (subscriptTail _ _ _ _) _ _ _); first | (k_here; (with_reducible show wpAny _ _ (subscriptTail (PySem.Expr.Name _ _) (PySem.Expr.Name _ _) (Value.ref _) (Value.int (Nat.cast _) _)) _ _ _); (refine item_lst (by k_asm) (by k_mem) (by exact rfl) (by decide) ?_)) | (k_here; (with_reducible show wpAny _ _ (subscriptTail (PySem.Expr.Subscript (PySem.Expr.Name _ _) (PySem.Expr.Name _ _) _) (PySem.Expr.Constant _ _ _) (Value.ref _) (Value.int _ _)) _ _ _); (refine item_tup (by k_asm) (by k_mem) (by decide) (by decide) (by exact rfl) (by exact rfl) ?_)) | (k_here; (with_reducible show wpAny _ _ (subscriptTail (PySem.Expr.Subscript (PySem.Expr.Subscript _ _ _) (PySem.Expr.Constant _ _ _) _) (PySem.Expr.BinOp _ _ _ _) (Value.ref _) (Value.int (HSub.hSub _ _) _)) _ _ _); (refine item_ints (by k_asm) (by k_mem) (by with_reducible assumption) (by omega) (by omega) (by omega) ?_); intro _) | with_reducible (k_here; (with_reducible show wpAny _ _ (subscriptTail _ (PySem.Expr.Slice _ _ _ _) (Value.str _ _) (Value.ref _)) _ _ _); kxi_slice; intro _ _ _ _ _) | with_reducible (k_here; (with_reducible show wpAny _ _ (subscriptTail _ (PySem.Expr.Slice (some _) (some _) none _) (Value.ref _) (Value.ref _)) _ _ _); k_dflt (refine' sliceRun (s := ⟨_, _, _, _, _⟩) ?F ?N ?m ?x ?y ?z ?_; (case F => k_asm); (case N => k_asm); (case m => k_mem); (case z => assumption); (case x => first | decide | omega); (case y => first | decide | omega)); intro _ _ _ _ l1; (try dsimp only [AllLt] at l1); (try k_sweep)) | with_reducible (k_here; (with_reducible show wpAny _ _ (subscriptTail _ (PySem.Expr.Slice none (some _) none _) (Value.ref _) (Value.ref _)) _ _ _); k_dflt (refine' sliceUpto (s := ⟨_, _, _, _, _⟩) ?F ?N ?m ?x ?z ?_; (case F => k_asm); (case N => k_asm); (case m => k_mem); (case z => assumption); (case x => first | decide | omega)); intro _ _ _ _ l1; (try dsimp only [AllLt] at l1); (try k_sweep)) | with_reducible (k_here; (with_reducible show wpAny _ _ (subscriptTail _ (PySem.Expr.Slice (some _) none none _) (Value.ref _) (Value.ref _)) _ _ _); k_dflt (refine' sliceFrom (s := ⟨_, _, _, _, _⟩) ?F ?N ?m ?x ?z ?_; (case F => k_asm); (case N => k_asm); (case m => k_mem); (case z => first | assumption | exact Nat.le_trans (Nat.le_of_eq (by assumption)) (by decide)); (case x => first | decide | omega)); intro _ _ _ _ l1; (try dsimp only [AllLt] at l1); (try k_sweep)) | with_reducible (k_here; (with_reducible show wpAny _ _ (subscriptTail (Expr.Constant _ _ _) _ (Value.str _ _) (Value.int _ _)) _ _ _); (refine cod_tail (by assumption) ?_ (by with_unfolding_all rfl) (by intro _; with_unfolding_all rfl)))) | walk1); (all_goals ((try ((fail_if_success (fail_if_success (with_reducible rename (_ ∧ _) => hx9))); refine viaR ?_; intro R9 k9; (repeat (first | ((with_reducible rename (_ ∧ _ ∧ _ ∧ _ ∧ _ ∧ _ ∧ _ ∧ _) => hx9); refine and8 hx9 ?_; clear hx9; intro _ _ _ _ _ _ _ _) | ((with_reducible rename (_ ∧ _ ∧ _ ∧ _) => hx9); refine and4 hx9 ?_; clear hx9; intro _ _ _ _) | ((with_reducible rename (_ ∧ _) => hx9); refine and2 hx9 ?_; clear hx9; intro _ _) | ((with_reducible rename True => hx9); clear hx9))); refine k9 ?_; clear k9 R9)); repeat ((with_reducible rename (@Ne Nat _ _) => hx9); (have hx8 := apart_of hx9); clear hx9)))) | (dsimp only; walk1) | (leave1; try dsimp only))
    refine join_listW (by is_list) hys (by decide +kernel) ?_ ?_
    case refine_1 => simp only [List.map, S_len, List.sum_cons, List.sum_nil, List.length_cons, List.length_nil]; decide
    intro t9 k9
    rw [join3]
    repeat' ((fail_if_success (with_reducible show wpAny _ _ (exec (Stmt.While _ _ _ _) _) _ _ _)); (fail_if_success (with_reducible show wpAny _ _ (exec (Stmt.For _ _ _ _ _) _) _ _ _)); (fail_if_success (with_reducible show wpAny _ _ (execs (Stmt.Assign [Expr.Name _ _] _ _ :: _) _) _ _ _)); (fail_if_success (with_reducible show FgEnd _ _ _ _ _ _ _ _ _ _)); (fail_if_success (with_reducible show KswEnd _ _ _ _ _ _ _ _ _ _ _ _)); (fail_if_success (with_reducible show FcEnd _ _ _ _ _ _ _ _ _ _)); (fail_if_success (with_reducible show CutEnd _ _ _ _ _ _ _ _ _)); first | (k_unfold; (try dsimp only)) | (k_end; wrow_close) | ((first | ((with_reducible show wpAny _ _ (subscriptTail _ _ _ _) _ _ _); first | (k_here; (with_reducible show wpAny _ _ (subscriptTail (PySem.Expr.Name _ _) (PySem.Expr.Name _ _) (Value.ref _) (Value.int (Nat.cast _) _)) _ _ _); (refine item_lst (by k_asm) (by k_mem) (by exact rfl) (by decide) ?_)) | (k_here; (with_reducible show wpAny _ _ (subscriptTail (PySem.Expr.Subscript (PySem.Expr.Name _ _) (PySem.Expr.Name _ _) _) (PySem.Expr.Constant _ _ _) (Value.ref _) (Value.int _ _)) _ _ _); (refine item_tup (by k_asm) (by k_mem) (by decide) (by decide) (by exact rfl) (by exact rfl) ?_)) | (k_here; (with_reducible show wpAny _ _ (subscriptTail (PySem.Expr.Subscript (PySem.Expr.Subscript _ _ _) (PySem.Expr.Constant _ _ _) _) (PySem.Expr.BinOp _ _ _ _) (Value.ref _) (Value.int (HSub.hSub _ _) _)) _ _ _); (refine item_ints (by k_asm) (by k_mem) (by with_reducible assumption) (by omega) (by omega) (by omega) ?_); intro _) | with_reducible (k_here; (with_reducible show wpAny _ _ (subscriptTail _ (PySem.Expr.Slice _ _ _ _) (Value.str _ _) (Value.ref _)) _ _ _); kxi_slice; intro _ _ _ _ _) | with_reducible (k_here; (with_reducible show wpAny _ _ (subscriptTail _ (PySem.Expr.Slice (some _) (some _) none _) (Value.ref _) (Value.ref _)) _ _ _); k_dflt (refine' sliceRun (s := ⟨_, _, _, _, _⟩) ?F ?N ?m ?x ?y ?z ?_; (case F => k_asm); (case N => k_asm); (case m => k_mem); (case z => assumption); (case x => first | decide | omega); (case y => first | decide | omega)); intro _ _ _ _ l1; (try dsimp only [AllLt] at l1); (try k_sweep)) | with_reducible (k_here; (with_reducible show wpAny _ _ (subscriptTail _ (PySem.Expr.Slice none (some _) none _) (Value.ref _) (Value.ref _)) _ _ _); k_dflt (refine' sliceUpto (s := ⟨_, _, _, _, _⟩) ?F ?N ?m ?x ?z ?_; (case F => k_asm); (case N => k_asm); (case m => k_mem); (case z => assumption); (case x => first | decide | omega)); intro _ _ _ _ l1; (try dsimp only [AllLt] at l1); (try k_sweep)) | with_reducible (k_here; (with_reducible show wpAny _ _ (subscriptTail _ (PySem.Expr.Slice (some _) none none _) (Value.ref _) (Value.ref _)) _ _ _); k_dflt (refine' sliceFrom (s := ⟨_, _, _, _, _⟩) ?F ?N ?m ?x ?z ?_; (case F => k_asm); (case N => k_asm); (case m => k_mem); (case z => first | assumption | exact Nat.le_trans (Nat.le_of_eq (by assumption)) (by decide)); (case x => first | decide | omega)); intro _ _ _ _ l1; (try dsimp only [AllLt] at l1); (try k_sweep)) | with_reducible (k_here; (with_reducible show wpAny _ _ (subscriptTail (Expr.Constant _ _ _) _ (Value.str _ _) (Value.int _ _)) _ _ _); (refine cod_tail (by assumption) ?_ (by with_unfolding_all rfl) (by intro _; with_unfolding_all rfl)))) | walk1); (all_goals ((try ((fail_if_success (fail_if_success (with_reducible rename (_ ∧ _) => hx9))); refine viaR ?_; intro R9 k9; (repeat (first | ((with_reducible rename (_ ∧ _ ∧ _ ∧ _ ∧ _ ∧ _ ∧ _ ∧ _) => hx9); refine and8 hx9 ?_; clear hx9; intro _ _ _ _ _ _ _ _) | ((with_reducible rename (_ ∧ _ ∧ _ ∧ _) => hx9); refine and4 hx9 ?_; clear hx9; intro _ _ _ _) | ((with_reducible rename (_ ∧ _) => hx9); refine and2 hx9 ?_; clear hx9; intro _ _) | ((with_reducible rename True => hx9); clear hx9))); refine k9 ?_; clear k9 R9)); repeat ((with_reducible rename (@Ne Nat _ _) => hx9); (have hx8 := apart_of hx9); clear hx9)))) | (dsimp only; walk1) | (leave1; try dsimp only))
    (rename Fr _ _ _ _ => F8); (rename News _ _ _ _ => N8)
    refine ofGenC hRR1 ?_
    refine cutEnd _ F8 N8 (by exact fmem (by k_mem) (fmem (by k_mem) (fun p hp => by (first | exact hp | exact List.Mem.tail _ (hp) | exact List.Mem.tail _ (List.Mem.tail _ (hp)) | exact List.Mem.tail _ (List.Mem.tail _ (List.Mem.tail _ (hp))) | exact List.Mem.tail _ (List.Mem.tail _ (List.Mem.tail _ (List.Mem.tail _ (hp)))) | exact List.Mem.tail _ (List.Mem.tail _ (List.Mem.tail _ (List.Mem.tail _ (List.Mem.tail _ (hp))))) | exact List.Mem.tail _ (List.Mem.tail _ (List.Mem.tail _ (List.Mem.tail _ (List.Mem.tail _ (List.Mem.tail _ (hp)))))) | exact List.Mem.tail _ (List.Mem.tail _ (List.Mem.tail _ (List.Mem.tail _ (List.Mem.tail _ (List.Mem.tail _ (List.Mem.tail _ (hp))))))) | exact List.Mem.tail _ (List.Mem.tail _ (List.Mem.tail _ (List.Mem.tail _ (List.Mem.tail _ (List.Mem.tail _ (List.Mem.tail _ (List.Mem.tail _ (hp)))))))))))) (by kst_all) (by (intro z h2 h3; (have hz0 : z ≠ Str.ofString "short" := h2 _ (.head _)); simp only [kstB, h3, if_neg hz0, Bool.false_eq_true, if_false])) trivial
  case h2 =>
  intro t8 u8 h8 tk8 _ F8 N8
  refine' stCut (σ := Tok) F8 (fun c => (aW, LCg.lst [.int (w0 : Int) tw0, .int (w1 : Int) tw1, .int (w2 : Int) tw2]) :: (aO, LCg.lst [.int (o0 : Int) to0, .int (o1 : Int) to1, .int (o2 : Int) to2, .int (o3 : Int) to3]) :: [(s1.heap.objs.size + 1 + 1 + 1 + 1, oS), (s1.heap.objs.size + 1 + 1 + 1, oR), (s1.heap.objs.size + 1 + 1, oT), (s1.heap.objs.size + 1, oM), (37, tabObj #[]), (30, tabObj #[]), (81, tabObj #[])]) (fun c => [(Str.ofString "row", .str (S [cod o0, cod o1, cod o2, cod o3]) c)]) [] (fun _ => True) ?h1 ?h2
  case h1 =>
    refine wpGen ?_; intro RR1 hRR1
    repeat' ((fail_if_success (with_reducible show wpAny _ _ (eval (Expr.ListComp _ _ _ _) _) _ _ _)); (fail_if_success (with_reducible show KswEnd _ _ _ _ _ _ _ _ _ _ _ _)); (fail_if_success (with_reducible show FcEnd _ _ _ _ _ _ _ _ _ _)); (fail_if_success (with_reducible show CutEnd _ _ _ _ _ _ _ _ _)); first | (k_unfold; (try dsimp only)) | (k_end; wrow_close) | ((first | ((with_reducible show wpAny _ _ (subscriptTail _ _ _ _) _ _ _); first | (k_here; (with_reducible show wpAny _ _ (subscriptTail (PySem.Expr.Name _ _) (PySem.Expr.Name _ _) (Value.ref _) (Value.int (Nat.cast _) _)) _ _ _); (refine item_lst (by k_asm) (by k_mem) (by exact rfl) (by decide) ?_)) | (k_here; (with_reducible show wpAny _ _ (subscriptTail (PySem.Expr.Subscript (PySem.Expr.Name _ _) (PySem.Expr.Name _ _) _) (PySem.Expr.Constant _ _ _) (Value.ref _) (Value.int _ _)) _ _ _); (refine item_tup (by k_asm) (by k_mem) (by decide) (by decide) (by exact rfl) (by exact rfl) ?_)) | (k_here; (with_reducible show wpAny _ _ (subscriptTail (PySem.Expr.Subscript (PySem.Expr.Subscript _ _ _) (PySem.Expr.Constant _ _ _) _) (PySem.Expr.BinOp _ _ _ _) (Value.ref _) (Value.int (HSub.hSub _ _) _)) _ _ _); (refine item_ints (by k_asm) (by k_mem) (by with_reducible assumption) (by omega) (by omega) (by omega) ?_); intro _) | with_reducible (k_here; (with_reducible show wpAny _ _ (subscriptTail _ (PySem.Expr.Slice _ _ _ _) (Value.str _ _) (Value.ref _)) _ _ _); kxi_slice; intro _ _ _ _ _) | with_reducible (k_here; (with_reducible show wpAny _ _ (subscriptTail _ (PySem.Expr.Slice (some _) (some _) none _) (Value.ref _) (Value.ref _)) _ _ _); k_dflt (refine' sliceRun (s := ⟨_, _, _, _, _⟩) ?F ?N ?m ?x ?y ?z ?_; (case F => k_asm); (case N => k_asm); (case m => k_mem); (case z => assumption); (case x => first | decide | omega); (case y => first | decide | omega)); intro _ _ _ _ l1; (try dsimp only [AllLt] at l1); (try k_sweep)) | with_reducible (k_here; (with_reducible show wpAny _ _ (subscriptTail _ (PySem.Expr.Slice none (some _) none _) (Value.ref _) (Value.ref _)) _ _ _); k_dflt (refine' sliceUpto (s := ⟨_, _, _, _, _⟩) ?F ?N ?m ?x ?z ?_; (case F => k_asm); (case N => k_asm); (case m => k_mem); (case z => assumption); (case x => first | decide | omega)); intro _ _ _ _ l1; (try dsimp only [AllLt] at l1); (try k_sweep)) | with_reducible (k_here; (with_reducible show wpAny _ _ (subscriptTail _ (PySem.Expr.Slice (some _) none none _) (Value.ref _) (Value.ref _)) _ _ _); k_dflt (refine' sliceFrom (s := ⟨_, _, _, _, _⟩) ?F ?N ?m ?x ?z ?_; (case F => k_asm); (case N => k_asm); (case m => k_mem); (case z => first | assumption | exact Nat.le_trans (Nat.le_of_eq (by assumption)) (by decide)); (case x => first | decide | omega)); intro _ _ _ _ l1; (try dsimp only [AllLt] at l1); (try k_sweep)) | with_reducible (k_here; (with_reducible show wpAny _ _ (subscriptTail (Expr.Constant _ _ _) _ (Value.str _ _) (Value.int _ _)) _ _ _); (refine cod_tail (by assumption) ?_ (by with_unfolding_all rfl) (by intro _; with_unfolding_all rfl)))) | walk1); (all_goals ((try ((fail_if_success (fail_if_success (with_reducible rename (_ ∧ _) => hx9))); refine viaR ?_; intro R9 k9; (repeat (first | ((with_reducible rename (_ ∧ _ ∧ _ ∧ _ ∧ _ ∧ _ ∧ _ ∧ _) => hx9); refine and8 hx9 ?_; clear hx9; intro _ _ _ _ _ _ _ _) | ((with_reducible rename (_ ∧ _ ∧ _ ∧ _) => hx9); refine and4 hx9 ?_; clear hx9; intro _ _ _ _) | ((with_reducible rename (_ ∧ _) => hx9); refine and2 hx9 ?_; clear hx9; intro _ _) | ((with_reducible rename True => hx9); clear hx9))); refine k9 ?_; clear k9 R9)); repeat ((with_reducible rename (@Ne Nat _ _) => hx9); (have hx8 := apart_of hx9); clear hx9)))) | (dsimp only; walk1) | (leave1; try dsimp only))
    k_dflt (refine LCg.ListComp_U (F₀ := by k_asm) (by with_unfolding_all rfl) (by decide) (by rfl) (by decide) (by rfl) ?_)
    repeat' ((fail_if_success (with_reducible show LCg.CompSrc _ _ _ _ _ _ _ _ _ _ _ _ _ _)); (fail_if_success (with_reducible show KswEnd _ _ _ _ _ _ _ _ _ _ _ _)); (fail_if_success (with_reducible show FcEnd _ _ _ _ _ _ _ _ _ _)); (fail_if_success (with_reducible show CutEnd _ _ _ _ _ _ _ _ _)); first | (k_unfold; (try dsimp only)) | (k_end; wrow_close) | ((first | ((with_reducible show wpAny _ _ (subscriptTail _ _ _ _) _ _ _); first | (k_here; (with_reducible show wpAny _ _ (subscriptTail (PySem.Expr.Name _ _) (PySem.Expr.Name _ _) (Value.ref _) (Value.int (Nat.cast _) _)) _ _ _); (refine item_lst (by k_asm) (by k_mem) (by exact rfl) (by decide) ?_)) | (k_here; (with_reducible show wpAny _ _ (subscriptTail (PySem.Expr.Subscript (PySem.Expr.Name _ _) (PySem.Expr.Name _ _) _) (PySem.Expr.Constant _ _ _) (Value.ref _) (Value.int _ _)) _ _ _); (refine item_tup (by k_asm) (by k_mem) (by decide) (by decide) (by exact rfl) (by exact rfl) ?_)) | (k_here; (with_reducible show wpAny _ _ (subscriptTail (PySem.Expr.Subscript (PySem.Expr.Subscript _ _ _) (PySem.Expr.Constant _ _ _) _) (PySem.Expr.BinOp _ _ _ _) (Value.ref _) (Value.int (HSub.hSub _ _) _)) _ _ _); (refine item_ints (by k_asm) (by k_mem) (by with_reducible assumption) (by omega) (by omega) (by omega) ?_); intro _) | with_reducible (k_here; (with_reducible show wpAny _ _ (subscriptTail _ (PySem.Expr.Slice _ _ _ _) (Value.str _ _) (Value.ref _)) _ _ _); kxi_slice; intro _ _ _ _ _) | with_reducible (k_here; (with_reducible show wpAny _ _ (subscriptTail _ (PySem.Expr.Slice (some _) (some _) none _) (Value.ref _) (Value.ref _)) _ _ _); k_dflt (refine' sliceRun (s := ⟨_, _, _, _, _⟩) ?F ?N ?m ?x ?y ?z ?_; (case F => k_asm); (case N => k_asm); (case m => k_mem); (case z => assumption); (case x => first | decide | omega); (case y => first | decide | omega)); intro _ _ _ _ l1; (try dsimp only [AllLt] at l1); (try k_sweep)) | with_reducible (k_here; (with_reducible show wpAny _ _ (subscriptTail _ (PySem.Expr.Slice none (some _) none _) (Value.ref _) (Value.ref _)) _ _ _); k_dflt (refine' sliceUpto (s := ⟨_, _, _, _, _⟩) ?F ?N ?m ?x ?z ?_; (case F => k_asm); (case N => k_asm); (case m => k_mem); (case z => assumption); (case x => first | decide | omega)); intro _ _ _ _ l1; (try dsimp only [AllLt] at l1); (try k_sweep)) | with_reducible (k_here; (with_reducible show wpAny _ _ (subscriptTail _ (PySem.Expr.Slice (some _) none none _) (Value.ref _) (Value.ref _)) _ _ _); k_dflt (refine' sliceFrom (s := ⟨_, _, _, _, _⟩) ?F ?N ?m ?x ?z ?_; (case F => k_asm); (case N => k_asm); (case m => k_mem); (case z => first | assumption | exact Nat.le_trans (Nat.le_of_eq (by assumption)) (by decide)); (case x => first | decide | omega)); intro _ _ _ _ l1; (try dsimp only [AllLt] at l1); (try k_sweep)) | with_reducible (k_here; (with_reducible show wpAny _ _ (subscriptTail (Expr.Constant _ _ _) _ (Value.str _ _) (Value.int _ _)) _ _ _); (refine cod_tail (by assumption) ?_ (by with_unfolding_all rfl) (by intro _; with_unfolding_all rfl)))) | walk1); (all_goals ((try ((fail_if_success (fail_if_success (with_reducible rename (_ ∧ _) => hx9))); refine viaR ?_; intro R9 k9; (repeat (first | ((with_reducible rename (_ ∧ _ ∧ _ ∧ _ ∧ _ ∧ _ ∧ _ ∧ _) => hx9); refine and8 hx9 ?_; clear hx9; intro _ _ _ _ _ _ _ _) | ((with_reducible rename (_ ∧ _ ∧ _ ∧ _) => hx9); refine and4 hx9 ?_; clear hx9; intro _ _ _ _) | ((with_reducible rename (_ ∧ _) => hx9); refine and2 hx9 ?_; clear hx9; intro _ _) | ((with_reducible rename True => hx9); clear hx9))); refine k9 ?_; clear k9 R9)); repeat ((with_reducible rename (@Ne Nat _ _) => hx9); (have hx8 := apart_of hx9); clear hx9)))) | (dsimp only; walk1) | (leave1; try dsimp only))
    (rename Fr _ _ _ _ => Fd); (rename News _ _ _ _ => Nd)
    refine LCg.CompSrc.ledger (its := #[Value.int (o0 : Int) to0, Value.int (o1 : Int) to1, Value.int (o2 : Int) to2, Value.int (o3 : Int) to3]) (by rfl) Fd Nd (by k_mem) (by first | size_fits | exact Nat.le_of_ble_eq_true rfl) ?_
    intro g'
    refine' sc_list (vs := [Value.int (o0 : Int) to0, Value.int (o1 : Int) to1, Value.int (o2 : Int) to2, Value.int (o3 : Int) to3]) (ks := [o0, o1, o2, o3]) (.cons _ _ (.cons _ _ (.cons _ _ (.cons _ _ (.nil))))) (fmem ho0 (fmem ho1 (fmem ho2 (fmem ho3 (List.forall_mem_nil _))))) (fun k' t' I' oI' C' oC' D' m' ys' h' tk' E' hk' hC' hx' F' N' off' ne' => ?_) ?_
    · repeat' ((fail_if_success (with_reducible show wpAny _ _ (exec (Stmt.While _ _ _ _) _) _ _ _)); (fail_if_success (with_reducible show wpAny _ _ (exec (Stmt.For _ _ _ _ _) _) _ _ _)); (fail_if_success (with_reducible show KswEnd _ _ _ _ _ _ _ _ _ _ _ _)); (fail_if_success (with_reducible show FcEnd _ _ _ _ _ _ _ _ _ _)); (fail_if_success (with_reducible show CutEnd _ _ _ _ _ _ _ _ _)); first | (k_unfold; (try dsimp only)) | (k_end; wrow_close) | ((with_reducible show wpAny _ _ (subscriptTail _ _ _ _) _ _ _); first | (k_here; (with_reducible show wpAny _ _ (subscriptTail (PySem.Expr.Name _ _) (PySem.Expr.Name _ _) (Value.ref _) (Value.int (Nat.cast _) _)) _ _ _); (refine item_lst (by k_asm) (by k_mem) (by exact rfl) (by decide) ?_)) | (k_here; (with_reducible show wpAny _ _ (subscriptTail (PySem.Expr.Subscript (PySem.Expr.Name _ _) (PySem.Expr.Name _ _) _) (PySem.Expr.Constant _ _ _) (Value.ref _) (Value.int _ _)) _ _ _); (refine item_tup (by k_asm) (by k_mem) (by decide) (by decide) (by exact rfl) (by exact rfl) ?_)) | (k_here; (with_reducible show wpAny _ _ (subscriptTail (PySem.Expr.Subscript (PySem.Expr.Subscript _ _ _) (PySem.Expr.Constant _ _ _) _) (PySem.Expr.BinOp _ _ _ _) (Value.ref _) (Value.int (HSub.hSub _ _) _)) _ _ _); (refine item_ints (by k_asm) (by k_mem) (by with_reducible assumption) (by omega) (by omega) (by omega) ?_); intro _) | with_reducible (k_here; (with_reducible show wpAny _ _ (subscriptTail _ (PySem.Expr.Slice _ _ _ _) (Value.str _ _) (Value.ref _)) _ _ _); kxi_slice; intro _ _ _ _ _) | with_reducible (k_here; (with_reducible show wpAny _ _ (subscriptTail _ (PySem.Expr.Slice (some _) (some _) none _) (Value.ref _) (Value.ref _)) _ _ _); k_dflt (refine' sliceRun (s := ⟨_, _, _, _, _⟩) ?F ?N ?m ?x ?y ?z ?_; (case F => k_asm); (case N => k_asm); (case m => k_mem); (case z => assumption); (case x => first | decide | omega); (case y => first | decide | omega)); intro _ _ _ _ l1; (try dsimp only [AllLt] at l1); (try k_sweep)) | with_reducible (k_here; (with_reducible show wpAny _ _ (subscriptTail _ (PySem.Expr.Slice none (some _) none _) (Value.ref _) (Value.ref _)) _ _ _); k_dflt (refine' sliceUpto (s := ⟨_, _, _, _, _⟩) ?F ?N ?m ?x ?z ?_; (case F => k_asm); (case N => k_asm); (case m => k_mem); (case z => assumption); (case x => first | decide | omega)); intro _ _ _ _ l1; (try dsimp only [AllLt] at l1); (try k_sweep)) | with_reducible (k_here; (with_reducible show wpAny _ _ (subscriptTail _ (PySem.Expr.Slice (some _) none none _) (Value.ref _) (Value.ref _)) _ _ _); k_dflt (refine' sliceFrom (s := ⟨_, _, _, _, _⟩) ?F ?N ?m ?x ?z ?_; (case F => k_asm); (case N => k_asm); (case m => k_mem); (case z => first | assumption | exact Nat.le_trans (Nat.le_of_eq (by assumption)) (by decide)); (case x => first | decide | omega)); intro _ _ _ _ l1; (try dsimp only [AllLt] at l1); (try k_sweep)) | with_reducible (k_here; (with_reducible show wpAny _ _ (subscriptTail (Expr.Constant _ _ _) _ (Value.str _ _) (Value.int _ _)) _ _ _); (refine cod_tail (by assumption) ?_ (by with_unfolding_all rfl) (by intro _; with_unfolding_all rfl)))) | walk1 | (dsimp only; walk1) | (leave1; try dsimp only))
      all_goals exact LCg.CompEnd.intro (by assumption) (by assumption) _ (fun _ hp => hp) (by first | exact off' | assumption | (simp only [LCg.Off3, and_true]; assumption)) (by first | lcg_src | assumption) ⟨rfl, _, rfl⟩
    intro ys hys
    have hys : StrsAre ys [S [cod o0], S [cod o1], S [cod o2], S [cod o3]] := hys
    repeat' ((fail_if_success (with_reducible show wpAny _ _ (call (Value.builtin "str.join") _) _ _ _)); (fail_if_success (with_reducible show wpAny _ _ (exec (Stmt.While _ _ _ _) _) _ _ _)); (fail_if_success (with_reducible show wpAny _ _ (exec (Stmt.For _ _ _ _ _) _) _ _ _)); (fail_if_success (with_reducible show wpAny _ _ (execs (Stmt.Assign [Expr.Name _ _] _ _ :: _) _) _ _ _)); (fail_if_success (with_reducible show FgEnd _ _ _ _ _ _ _ _ _ _)); (fail_if_success (with_reducible show KswEnd _ _ _ _ _ _ _ _ _ _ _ _)); (fail_if_success (with_reducible show FcEnd _ _ _ _ _ _ _ _ _ _)); (fail_if_success (with_reducible show CutEnd _ _ _ _ _ _ _ _ _)); first | (k_unfold; (try dsimp only)) | (k_end; wrow_close) | ((first | ((with_reducible show wpAny _ _ (subscriptTail _ _ _ _) _ _ _); first | (k_here; (with_reducible show wpAny _ _ (subscriptTail (PySem.Expr.Name _ _) (PySem.Expr.Name _ _) (Value.ref _) (Value.int (Nat.cast _) _)) _ _ _); (refine item_lst (by k_asm) (by k_mem) (by exact rfl) (by decide) ?_)) | (k_here; (with_reducible show wpAny _ _ (subscriptTail (PySem.Expr.Subscript (PySem.Expr.Name _ _) (PySem.Expr.Name _ _) _) (PySem.Expr.Constant _ _ _) (Value.ref _) (Value.int _ _)) _ _ _); (refine item_tup (by k_asm) (by k_mem) (by decide) (by decide) (by exact rfl) (by exact rfl) ?_)) | (k_here; (with_reducible show wpAny _ _ (subscriptTail (PySem.Expr.Subscript (PySem.Expr.Subscript _ _ _) (PySem.Expr.Constant _ _ _) _) (PySem.Expr.BinOp _ _ _ _) (Value.ref _) (Value.int (HSub.hSub _ _) _)) _ _ _); (refine item_ints (by k_asm) (by k_mem) (by with_reducible assumption) (by omega) (by omega) (by omega) ?_); intro _) | with_reducible (k_here; (with_reducible show wpAny _ _ (subscriptTail _ (PySem.Expr.Slice _ _ _ _) (Value.str _ _) (Value.ref _)) _ _ _); kxi_slice; intro _ _ _ _ _) | with_reducible (k_here; (with_reducible show wpAny _ _ (subscriptTail _ (PySem.Expr.Slice (some _) (some _) none _) (Value.ref _) (Value.ref _)) _ _ _); k_dflt (refine' sliceRun (s := ⟨_, _, _, _, _⟩) ?F ?N ?m ?x ?y ?z ?_; (case F => k_asm); (case N => k_asm); (case m => k_mem); (case z => assumption); (case x => first | decide | omega); (case y => first | decide | omega)); intro _ _ _ _ l1; (try dsimp only [AllLt] at l1); (try k_sweep)) | with_reducible (k_here; (with_reducible show wpAny _ _ (subscriptTail _ (PySem.Expr.Slice none (some _) none _) (Value.ref _) (Value.ref _)) _ _ _); k_dflt (refine' sliceUpto (s := ⟨_, _, _, _, _⟩) ?F ?N ?m ?x ?z ?_; (case F => k_asm); (case N => k_asm); (case m => k_mem); (case z => assumption); (case x => first | decide | omega)); intro _ _ _ _ l1; (try dsimp only [AllLt] at l1); (try k_sweep)) | with_reducible (k_here; (with_reducible show wpAny _ _ (subscriptTail _ (PySem.Expr.Slice (some _) none none _) (Value.ref _) (Value.ref _)) _ _ _); k_dflt (refine' sliceFrom (s := ⟨_, _, _, _, _⟩) ?F ?N ?m ?x ?z ?_; (case F => k_asm); (case N => k_asm); (case m => k_mem); (case z => first | assumption | exact Nat.le_trans (Nat.le_of_eq (by assumption)) (by decide)); (case x => first | decide | omega)); intro _ _ _ _ l1; (try dsimp only [AllLt] at l1); (try k_sweep)) | with_reducible (k_here; (with_reducible show wpAny _ _ (subscriptTail (Expr.Constant _ _ _) _ (Value.str _ _) (Value.int _ _)) _ _ _); (refine cod_tail (by assumption) ?_ (by with_unfolding_all rfl) (by intro _; with_unfolding_all rfl)))) | walk1); (all_goals ((try ((fail_if_success (fail_if_success (with_reducible rename (_ ∧ _) => hx9))); refine viaR ?_; intro R9 k9; (repeat (first | ((with_reducible rename (_ ∧ _ ∧ _ ∧ _ ∧ _ ∧ _ ∧ _ ∧ _) => hx9); refine and8 hx9 ?_; clear hx9; intro _ _ _ _ _ _ _ _) | ((with_reducible rename (_ ∧ _ ∧ _ ∧ _) => hx9); refine and4 hx9 ?_; clear hx9; intro _ _ _ _) | ((with_reducible rename (_ ∧ _) => hx9); refine and2 hx9 ?_; clear hx9; intro _ _) | ((with_reducible rename True => hx9); clear hx9))); refine k9 ?_; clear k9 R9)); repeat ((with_reducible rename (@Ne Nat _ _) => hx9); (have hx8 := apart_of hx9); clear hx9)))) | (dsimp only; walk1) | (leave1; try dsimp only))
    refine join_listW (by is_list) hys (by decide +kernel) ?_ ?_
    case refine_1 => simp only [List.map, S_len, List.sum_cons, List.sum_nil, List.length_cons, List.length_nil]; decide
    intro t9 k9
    rw [join4]
    repeat' ((fail_if_success (with_reducible show wpAny _ _ (exec (Stmt.While _ _ _ _) _) _ _ _)); (fail_if_success (with_reducible show wpAny _ _ (exec (Stmt.For _ _ _ _ _) _) _ _ _)); (fail_if_success (with_reducible show wpAny _ _ (execs (Stmt.Assign [Expr.Name _ _] _ _ :: _) _) _ _ _)); (fail_if_success (with_reducible show FgEnd _ _ _ _ _ _ _ _ _ _)); (fail_if_success (with_reducible show KswEnd _ _ _ _ _ _ _ _ _ _ _ _)); (fail_if_success (with_reducible show FcEnd _ _ _ _ _ _ _ _ _ _)); (fail_if_success (with_reducible show CutEnd _ _ _ _ _ _ _ _ _)); first | (k_unfold; (try dsimp only)) | (k_end; wrow_close) | ((first | ((with_reducible show wpAny _ _ (subscriptTail _ _ _ _) _ _ _); first | (k_here; (with_reducible show wpAny _ _ (subscriptTail (PySem.Expr.Name _ _) (PySem.Expr.Name _ _) (Value.ref _) (Value.int (Nat.cast _) _)) _ _ _); (refine item_lst (by k_asm) (by k_mem) (by exact rfl) (by decide) ?_)) | (k_here; (with_reducible show wpAny _ _ (subscriptTail (PySem.Expr.Subscript (PySem.Expr.Name _ _) (PySem.Expr.Name _ _) _) (PySem.Expr.Constant _ _ _) (Value.ref _) (Value.int _ _)) _ _ _); (refine item_tup (by k_asm) (by k_mem) (by decide) (by decide) (by exact rfl) (by exact rfl) ?_)) | (k_here; (with_reducible show wpAny _ _ (subscriptTail (PySem.Expr.Subscript (PySem.Expr.Subscript _ _ _) (PySem.Expr.Constant _ _ _) _) (PySem.Expr.BinOp _ _ _ _) (Value.ref _) (Value.int (HSub.hSub _ _) _)) _ _ _); (refine item_ints (by k_asm) (by k_mem) (by with_reducible assumption) (by omega) (by omega) (by omega) ?_); intro _) | with_reducible (k_here; (with_reducible show wpAny _ _ (subscriptTail _ (PySem.Expr.Slice _ _ _ _) (Value.str _ _) (Value.ref _)) _ _ _); kxi_slice; intro _ _ _ _ _) | with_reducible (k_here; (with_reducible show wpAny _ _ (subscriptTail _ (PySem.Expr.Slice (some _) (some _) none _) (Value.ref _) (Value.ref _)) _ _ _); k_dflt (refine' sliceRun (s := ⟨_, _, _, _, _⟩) ?F ?N ?m ?x ?y ?z ?_; (case F => k_asm); (case N => k_asm); (case m => k_mem); (case z => assumption); (case x => first | decide | omega); (case y => first | decide | omega)); intro _ _ _ _ l1; (try dsimp only [AllLt] at l1); (try k_sweep)) | with_reducible (k_here; (with_reducible show wpAny _ _ (subscriptTail _ (PySem.Expr.Slice none (some _) none _) (Value.ref _) (Value.ref _)) _ _ _); k_dflt (refine' sliceUpto (s := ⟨_, _, _, _, _⟩) ?F ?N ?m ?x ?z ?_; (case F => k_asm); (case N => k_asm); (case m => k_mem); (case z => assumption); (case x => first | decide | omega)); intro _ _ _ _ l1; (try dsimp only [AllLt] at l1); (try k_sweep)) | with_reducible (k_here; (with_reducible show wpAny _ _ (subscriptTail _ (PySem.Expr.Slice (some _) none none _) (Value.ref _) (Value.ref _)) _ _ _); k_dflt (refine' sliceFrom (s := ⟨_, _, _, _, _⟩) ?F ?N ?m ?x ?z ?_; (case F => k_asm); (case N => k_asm); (case m => k_mem); (case z => first | assumption | exact Nat.le_trans (Nat.le_of_eq (by assumption)) (by decide)); (case x => first | decide | omega)); intro _ _ _ _ l1; (try dsimp only [AllLt] at l1); (try k_sweep)) | with_reducible (k_here; (with_reducible show wpAny _ _ (subscriptTail (Expr.Constant _ _ _) _ (Value.str _ _) (Value.int _ _)) _ _ _); (refine cod_tail (by assumption) ?_ (by with_unfolding_all rfl) (by intro _; with_unfolding_all rfl)))) | walk1); (all_goals ((try ((fail_if_success (fail_if_success (with_reducible rename (_ ∧ _) => hx9))); refine viaR ?_; intro R9 k9; (repeat (first | ((with_reducible rename (_ ∧ _ ∧ _ ∧ _ ∧ _ ∧ _ ∧ _ ∧ _) => hx9); refine and8 hx9 ?_; clear hx9; intro _ _ _ _ _ _ _ _) | ((with_reducible rename (_ ∧ _ ∧ _ ∧ _) => hx9); refine and4 hx9 ?_; clear hx9; intro _ _ _ _) | ((with_reducible rename (_ ∧ _) => hx9); refine and2 hx9 ?_; clear hx9; intro _ _) | ((with_reducible rename True => hx9); clear hx9))); refine k9 ?_; clear k9 R9)); repeat ((with_reducible rename (@Ne Nat _ _) => hx9); (have hx8 := apart_of hx9); clear hx9)))) | (dsimp only; walk1) | (leave1; try dsimp only))
    (rename Fr _ _ _ _ => F9); (rename News _ _ _ _ => N9)
    refine ofGenC hRR1 ?_
    refine cutEnd _ F9 N9 (by exact fmem (by k_mem) (fmem (by k_mem) (fun p hp => by (first | exact hp | exact List.Mem.tail _ (hp) | exact List.Mem.tail _ (List.Mem.tail _ (hp)) | exact List.Mem.tail _ (List.Mem.tail _ (List.Mem.tail _ (hp))) | exact List.Mem.tail _ (List.Mem.tail _ (List.Mem.tail _ (List.Mem.tail _ (hp)))) | exact List.Mem.tail _ (List.Mem.tail _ (List.Mem.tail _ (List.Mem.tail _ (List.Mem.tail _ (hp))))) | exact List.Mem.tail _ (List.Mem.tail _ (List.Mem.tail _ (List.Mem.tail _ (List.Mem.tail _ (List.Mem.tail _ (hp)))))) | exact List.Mem.tail _ (List.Mem.tail _ (List.Mem.tail _ (List.Mem.tail _ (List.Mem.tail _ (List.Mem.tail _ (List.Mem.tail _ (hp))))))) | exact List.Mem.tail _ (List.Mem.tail _ (List.Mem.tail _ (List.Mem.tail _ (List.Mem.tail _ (List.Mem.tail _ (List.Mem.tail _ (List.Mem.tail _ (hp)))))))))))) (by kst_all) (by (intro z h2 h3; (have hz0 : z ≠ Str.ofString "row" := h2 _ (.head _)); simp only [kstB, h3, if_neg hz0, Bool.false_eq_true, if_false])) trivial
  case h2 =>
  intro t9 u9 h9 tk9 _ F9 N9
  refine exE (fr_base (ps := [(Str.ofString "word", .ref aW), (Str.ofString "other", .ref aO), (Str.ofString "short", .str (S [cod w0, cod w1, cod w2]) t8), (Str.ofString "row", .str (S [cod o0, cod o1, cod o2, cod o3]) t9)]) F9 (by kst_all)) ?_; intro U3 Fa
  clear F7 F8 F9 N6 N8
  repeat' ((fail_if_success (with_reducible show wpAny _ _ (exec (Stmt.While _ _ _ _) _) _ _ _)); (fail_if_success (with_reducible show wpAny _ _ (exec (Stmt.For _ _ _ _ _) _) _ _ _)); (fail_if_success (with_reducible show KswEnd _ _ _ _ _ _ _ _ _ _ _ _)); (fail_if_success (with_reducible show FcEnd _ _ _ _ _ _ _ _ _ _)); (fail_if_success (with_reducible show CutEnd _ _ _ _ _ _ _ _ _)); first | (k_unfold; (try dsimp only)) | (k_end; wrow_close) | ((with_reducible show wpAny _ _ (subscriptTail _ _ _ _) _ _ _); first | (k_here; (with_reducible show wpAny _ _ (subscriptTail (PySem.Expr.Name _ _) (PySem.Expr.Name _ _) (Value.ref _) (Value.int (Nat.cast _) _)) _ _ _); (refine item_lst (by k_asm) (by k_mem) (by exact rfl) (by decide) ?_)) | (k_here; (with_reducible show wpAny _ _ (subscriptTail (PySem.Expr.Subscript (PySem.Expr.Name _ _) (PySem.Expr.Name _ _) _) (PySem.Expr.Constant _ _ _) (Value.ref _) (Value.int _ _)) _ _ _); (refine item_tup (by k_asm) (by k_mem) (by decide) (by decide) (by exact rfl) (by exact rfl) ?_)) | (k_here; (with_reducible show wpAny _ _ (subscriptTail (PySem.Expr.Subscript (PySem.Expr.Subscript _ _ _) (PySem.Expr.Constant _ _ _) _) (PySem.Expr.BinOp _ _ _ _) (Value.ref _) (Value.int (HSub.hSub _ _) _)) _ _ _); (refine item_ints (by k_asm) (by k_mem) (by with_reducible assumption) (by omega) (by omega) (by omega) ?_); intro _) | with_reducible (k_here; (with_reducible show wpAny _ _ (subscriptTail _ (PySem.Expr.Slice _ _ _ _) (Value.str _ _) (Value.ref _)) _ _ _); kxi_slice; intro _ _ _ _ _) | with_reducible (k_here; (with_reducible show wpAny _ _ (subscriptTail _ (PySem.Expr.Slice (some _) (some _) none _) (Value.ref _) (Value.ref _)) _ _ _); k_dflt (refine' sliceRun (s := ⟨_, _, _, _, _⟩) ?F ?N ?m ?x ?y ?z ?_; (case F => k_asm); (case N => k_asm); (case m => k_mem); (case z => assumption); (case x => first | decide | omega); (case y => first | decide | omega)); intro _ _ _ _ l1; (try dsimp only [AllLt] at l1); (try k_sweep)) | with_reducible (k_here; (with_reducible show wpAny _ _ (subscriptTail _ (PySem.Expr.Slice none (some _) none _) (Value.ref _) (Value.ref _)) _ _ _); k_dflt (refine' sliceUpto (s := ⟨_, _, _, _, _⟩) ?F ?N ?m ?x ?z ?_; (case F => k_asm); (case N => k_asm); (case m => k_mem); (case z => assumption); (case x => first | decide | omega)); intro _ _ _ _ l1; (try dsimp only [AllLt] at l1); (try k_sweep)) | with_reducible (k_here; (with_reducible show wpAny _ _ (subscriptTail _ (PySem.Expr.Slice (some _) none none _) (Value.ref _) (Value.ref _)) _ _ _); k_dflt (refine' sliceFrom (s := ⟨_, _, _, _, _⟩) ?F ?N ?m ?x ?z ?_; (case F => k_asm); (case N => k_asm); (case m => k_mem); (case z => first | assumption | exact Nat.le_trans (Nat.le_of_eq (by assumption)) (by decide)); (case x => first | decide | omega)); intro _ _ _ _ l1; (try dsimp only [AllLt] at l1); (try k_sweep)) | with_reducible (k_here; (with_reducible show wpAny _ _ (subscriptTail (Expr.Constant _ _ _) _ (Value.str _ _) (Value.int _ _)) _ _ _); (refine cod_tail (by assumption) ?_ (by with_unfolding_all rfl) (by intro _; with_unfolding_all rfl)))) | walk1 | (dsimp only; walk1) | (leave1; try dsimp only))
  rename_i aK _ _ _ lK _ oM2 Fb Nb dM2
  have Nc := cb_drop (news := (aO, LCg.lst [.int (o0 : Int) to0, .int (o1 : Int) to1, .int (o2 : Int) to2, .int (o3 : Int) to3]) :: (aK, listOf #[] 0) :: (tabL 37 68 4 none ++ (aW, LCg.lst [.int (w0 : Int) tw0, .int (w1 : Int) tw1, .int (w2 : Int) tw2]) :: [(s1.heap.objs.size + 1 + 1 + 1 + 1, oS), (s1.heap.objs.size + 1 + 1 + 1, oR), (s1.heap.objs.size + 1 + 1, oT), (s1.heap.objs.size + 1, oM2), (30, tabObj #[]), (81, tabObj #[])])) Nb (fmem (by k_mem) (fmem (by k_mem) (fmem (by k_mem) (fmem (by k_mem) (fmem (by k_mem) (fmem (by k_mem) (fmem (by k_mem) (fmem (by k_mem) (fmem (by k_mem) (fmem (by k_mem) (List.forall_mem_nil _)))))))))))
  have hneA : AllNe aO ((aK, listOf #[] 0) :: (tabL 37 68 4 none ++ (aW, LCg.lst [.int (w0 : Int) tw0, .int (w1 : Int) tw1, .int (w2 : Int) tw2]) :: [(s1.heap.objs.size + 1 + 1 + 1 + 1, oS), (s1.heap.objs.size + 1 + 1 + 1, oR), (s1.heap.objs.size + 1 + 1, oT), (s1.heap.objs.size + 1, oM2), (30, tabObj #[]), (81, tabObj #[])])) := by
    (try ((fail_if_success (fail_if_success (with_reducible rename (_ ∧ _) => hx9))); refine viaR ?_; intro R9 k9; (repeat (first | ((with_reducible rename (_ ∧ _ ∧ _ ∧ _ ∧ _ ∧ _ ∧ _ ∧ _) => hx9); refine and8 hx9 ?_; clear hx9; intro _ _ _ _ _ _ _ _) | ((with_reducible rename (_ ∧ _ ∧ _ ∧ _) => hx9); refine and4 hx9 ?_; clear hx9; intro _ _ _ _) | ((with_reducible rename (_ ∧ _) => hx9); refine and2 hx9 ?_; clear hx9; intro _ _) | ((with_reducible rename True => hx9); clear hx9))); refine k9 ?_; clear k9 R9))
    dsimp only [AllNe, tabL, List.cons_append, List.nil_append]
    (repeat' (first | exact trivial | assumption | exact ⟨by k_ne⟩ | refine And.intro ?_ ?_))
  with_unfolding_all refine' For_turns Fb ?_
  k_whole
  repeat' ((fail_if_success (with_reducible show wpAny _ _ (pyIter _) _ _ _)); (fail_if_success (with_reducible show KswEnd _ _ _ _ _ _ _ _ _ _ _ _)); (fail_if_success (with_reducible show FcEnd _ _ _ _ _ _ _ _ _ _)); (fail_if_success (with_reducible show CutEnd _ _ _ _ _ _ _ _ _)); first | (k_unfold; (try dsimp only)) | (k_end; wrow_close) | ((with_reducible show wpAny _ _ (subscriptTail _ _ _ _) _ _ _); first | (k_here; (with_reducible show wpAny _ _ (subscriptTail (PySem.Expr.Name _ _) (PySem.Expr.Name _ _) (Value.ref _) (Value.int (Nat.cast _) _)) _ _ _); (refine item_lst (by k_asm) (by k_mem) (by exact rfl) (by decide) ?_)) | (k_here; (with_reducible show wpAny _ _ (subscriptTail (PySem.Expr.Subscript (PySem.Expr.Name _ _) (PySem.Expr.Name _ _) _) (PySem.Expr.Constant _ _ _) (Value.ref _) (Value.int _ _)) _ _ _); (refine item_tup (by k_asm) (by k_mem) (by decide) (by decide) (by exact rfl) (by exact rfl) ?_)) | (k_here; (with_reducible show wpAny _ _ (subscriptTail (PySem.Expr.Subscript (PySem.Expr.Subscript _ _ _) (PySem.Expr.Constant _ _ _) _) (PySem.Expr.BinOp _ _ _ _) (Value.ref _) (Value.int (HSub.hSub _ _) _)) _ _ _); (refine item_ints (by k_asm) (by k_mem) (by with_reducible assumption) (by omega) (by omega) (by omega) ?_); intro _) | with_reducible (k_here; (with_reducible show wpAny _ _ (subscriptTail _ (PySem.Expr.Slice _ _ _ _) (Value.str _ _) (Value.ref _)) _ _ _); kxi_slice; intro _ _ _ _ _) | with_reducible (k_here; (with_reducible show wpAny _ _ (subscriptTail _ (PySem.Expr.Slice (some _) (some _) none _) (Value.ref _) (Value.ref _)) _ _ _); k_dflt (refine' sliceRun (s := ⟨_, _, _, _, _⟩) ?F ?N ?m ?x ?y ?z ?_; (case F => k_asm); (case N => k_asm); (case m => k_mem); (case z => assumption); (case x => first | decide | omega); (case y => first | decide | omega)); intro _ _ _ _ l1; (try dsimp only [AllLt] at l1); (try k_sweep)) | with_reducible (k_here; (with_reducible show wpAny _ _ (subscriptTail _ (PySem.Expr.Slice none (some _) none _) (Value.ref _) (Value.ref _)) _ _ _); k_dflt (refine' sliceUpto (s := ⟨_, _, _, _, _⟩) ?F ?N ?m ?x ?z ?_; (case F => k_asm); (case N => k_asm); (case m => k_mem); (case z => assumption); (case x => first | decide | omega)); intro _ _ _ _ l1; (try dsimp only [AllLt] at l1); (try k_sweep)) | with_reducible (k_here; (with_reducible show wpAny _ _ (subscriptTail _ (PySem.Expr.Slice (some _) none none _) (Value.ref _) (Value.ref _)) _ _ _); k_dflt (refine' sliceFrom (s := ⟨_, _, _, _, _⟩) ?F ?N ?m ?x ?z ?_; (case F => k_asm); (case N => k_asm); (case m => k_mem); (case z => first | assumption | exact Nat.le_trans (Nat.le_of_eq (by assumption)) (by decide)); (case x => first | decide | omega)); intro _ _ _ _ l1; (try dsimp only [AllLt] at l1); (try k_sweep)) | with_reducible (k_here; (with_reducible show wpAny _ _ (subscriptTail (Expr.Constant _ _ _) _ (Value.str _ _) (Value.int _ _)) _ _ _); (refine cod_tail (by assumption) ?_ (by with_unfolding_all rfl) (by intro _; with_unfolding_all rfl)))) | walk1 | (dsimp only; walk1) | (leave1; try dsimp only))
  refine' listTurns (σ := (List Value × List Int × Nat) × Option (Addr × Obj)) (ax := aO) (vs := [.int (o0 : Int) to0, .int (o1 : Int) to1, .int (o2 : Int) to2, .int (o3 : Int) to3]) (k := 4) (fun c => (aK, listOf c.1.1.toArray c.1.2.2) :: (tabL 37 68 4 c.2 ++ (aW, LCg.lst [.int (w0 : Int) tw0, .int (w1 : Int) tw1, .int (w2 : Int) tw2]) :: [(s1.heap.objs.size + 1 + 1 + 1 + 1, oS), (s1.heap.objs.size + 1 + 1 + 1, oR), (s1.heap.objs.size + 1 + 1, oT), (s1.heap.objs.size + 1, oM2), (30, tabObj #[]), (81, tabObj #[])])) (fun _ => []) [Str.ofString "mark"] (fun i c => IntsAre c.1.1 c.1.2.1 ∧ c.1.2.1 = masksI w0 w1 w2 ([o0, o1, o2, o3].take i) ∧ TabOk "_digits2int.<locals>.inner" ((aK, listOf #[] 0) :: (37, tabObj #[]) :: (aW, LCg.lst [.int (w0 : Int) tw0, .int (w1 : Int) tw1, .int (w2 : Int) tw2]) :: [(s1.heap.objs.size + 1 + 1 + 1 + 1, oS), (s1.heap.objs.size + 1 + 1 + 1, oR), (s1.heap.objs.size + 1 + 1, oT), (s1.heap.objs.size + 1, oM2), (30, tabObj #[]), (81, tabObj #[])]) c.2) (([], [], 0), none) rfl Fb Nc (allNe_mem hneA) ?hk ?hp ?turn ?done
  case hk => intro p hp; cases hp
  case hp => exact ⟨.nil, rfl, trivial⟩
  case turn =>
    intro i v; refine all_3_1 ?_; intro vs3 ns3 k3 tb u h tk own hi hx hP hoff F8 N8
    refine turnGen ?_; intro RR1 hRR1
    refine viaR ?_; intro R9 k9; refine pick4 (G := fun w => v = w → R9) ho0 ho1 ho2 ho3 hx ?_ rfl; intro mk tmk hmk hpk e9; refine k9 ?_; clear k9 R9; clear hx; subst e9
    have hP1 := hP.1; have hP2 := hP.2.1; have hP3 := hP.2.2; clear hP
    dsimp only at hP1 hP2 hP3 F8 N8 hoff
    clear Nc Fb Nb hneA
    cases tb with
    | none =>
      dsimp only [tabL, List.cons_append, List.nil_append] at N8 hoff
      repeat' ((fail_if_success (with_reducible show wpAny _ _ (call (Value.ref 65) _) _ _ _)); (fail_if_success (with_reducible show KswEnd _ _ _ _ _ _ _ _ _ _ _ _)); (fail_if_success (with_reducible show FcEnd _ _ _ _ _ _ _ _ _ _)); (fail_if_success (with_reducible show CutEnd _ _ _ _ _ _ _ _ _)); first | (k_unfold; (try dsimp only)) | (k_end; wrow_close) | ((first | ((with_reducible show wpAny _ _ (subscriptTail _ _ _ _) _ _ _); first | (k_here; (with_reducible show wpAny _ _ (subscriptTail (PySem.Expr.Name _ _) (PySem.Expr.Name _ _) (Value.ref _) (Value.int (Nat.cast _) _)) _ _ _); (refine item_lst (by k_asm) (by k_mem) (by exact rfl) (by decide) ?_)) | (k_here; (with_reducible show wpAny _ _ (subscriptTail (PySem.Expr.Subscript (PySem.Expr.Name _ _) (PySem.Expr.Name _ _) _) (PySem.Expr.Constant _ _ _) (Value.ref _) (Value.int _ _)) _ _ _); (refine item_tup (by k_asm) (by k_mem) (by decide) (by decide) (by exact rfl) (by exact rfl) ?_)) | (k_here; (with_reducible show wpAny _ _ (subscriptTail (PySem.Expr.Subscript (PySem.Expr.Subscript _ _ _) (PySem.Expr.Constant _ _ _) _) (PySem.Expr.BinOp _ _ _ _) (Value.ref _) (Value.int (HSub.hSub _ _) _)) _ _ _); (refine item_ints (by k_asm) (by k_mem) (by with_reducible assumption) (by omega) (by omega) (by omega) ?_); intro _) | with_reducible (k_here; (with_reducible show wpAny _ _ (subscriptTail _ (PySem.Expr.Slice _ _ _ _) (Value.str _ _) (Value.ref _)) _ _ _); kxi_slice; intro _ _ _ _ _) | with_reducible (k_here; (with_reducible show wpAny _ _ (subscriptTail _ (PySem.Expr.Slice (some _) (some _) none _) (Value.ref _) (Value.ref _)) _ _ _); k_dflt (refine' sliceRun (s := ⟨_, _, _, _, _⟩) ?F ?N ?m ?x ?y ?z ?_; (case F => k_asm); (case N => k_asm); (case m => k_mem); (case z => assumption); (case x => first | decide | omega); (case y => first | decide | omega)); intro _ _ _ _ l1; (try dsimp only [AllLt] at l1); (try k_sweep)) | with_reducible (k_here; (with_reducible show wpAny _ _ (subscriptTail _ (PySem.Expr.Slice none (some _) none _) (Value.ref _) (Value.ref _)) _ _ _); k_dflt (refine' sliceUpto (s := ⟨_, _, _, _, _⟩) ?F ?N ?m ?x ?z ?_; (case F => k_asm); (case N => k_asm); (case m => k_mem); (case z => assumption); (case x => first | decide | omega)); intro _ _ _ _ l1; (try dsimp only [AllLt] at l1); (try k_sweep)) | with_reducible (k_here; (with_reducible show wpAny _ _ (subscriptTail _ (PySem.Expr.Slice (some _) none none _) (Value.ref _) (Value.ref _)) _ _ _); k_dflt (refine' sliceFrom (s := ⟨_, _, _, _, _⟩) ?F ?N ?m ?x ?z ?_; (case F => k_asm); (case N => k_asm); (case m => k_mem); (case z => first | assumption | exact Nat.le_trans (Nat.le_of_eq (by assumption)) (by decide)); (case x => first | decide | omega)); intro _ _ _ _ l1; (try dsimp only [AllLt] at l1); (try k_sweep)) | with_reducible (k_here; (with_reducible show wpAny _ _ (subscriptTail (Expr.Constant _ _ _) _ (Value.str _ _) (Value.int _ _)) _ _ _); (refine cod_tail (by assumption) ?_ (by with_unfolding_all rfl) (by intro _; with_unfolding_all rfl)))) | walk1); (all_goals ((try ((fail_if_success (fail_if_success (with_reducible rename (_ ∧ _) => hx9))); refine viaR ?_; intro R9 k9; (repeat (first | ((with_reducible rename (_ ∧ _ ∧ _ ∧ _ ∧ _ ∧ _ ∧ _ ∧ _) => hx9); refine and8 hx9 ?_; clear hx9; intro _ _ _ _ _ _ _ _) | ((with_reducible rename (_ ∧ _ ∧ _ ∧ _) => hx9); refine and4 hx9 ?_; clear hx9; intro _ _ _ _) | ((with_reducible rename (_ ∧ _) => hx9); refine and2 hx9 ?_; clear hx9; intro _ _) | ((with_reducible rename True => hx9); clear hx9))); refine k9 ?_; clear k9 R9)); repeat ((with_reducible rename (@Ne Nat _ _) => hx9); (have hx8 := apart_of hx9); clear hx9)))) | (dsimp only; walk1) | (leave1; try dsimp only))
      refine' masksF (w0 := (w0 : Int)) (w1 := (w1 : Int)) (w2 := (w2 : Int)) (mk := (mk : Int)) (t0 := tw0) (t1 := tw1) (t2 := tw2) (tm := tmk) (l := aW) (kl := 3) (by k_asm) (by k_asm) (by k_asm) (by k_asm) (by k_asm) (by first | exact rfl | assumption) (by ktr_room) (by ktr_units) (by omega) (by omega) (by omega) (by omega) (by kn_code) (by k_mem) (by exact Apart.ne (by assumption)) ?U ?_
      case U => k_updF
      intro ml vs c' oc fv tq h9 tk9 F9 N9 hi9 hoc hfv hne9 hcm
      (try dsimp only at N9)
      have hml := allNe_of fun q hq => (hne9 q hq).2
      have hcc := allNe_of fun q hq => (hne9 q hq).1
      dsimp only [AllNe] at hml hcc
      (try ((fail_if_success (fail_if_success (with_reducible rename (_ ∧ _) => hx9))); refine viaR ?_; intro R9 k9; (repeat (first | ((with_reducible rename (_ ∧ _ ∧ _ ∧ _ ∧ _ ∧ _ ∧ _ ∧ _) => hx9); refine and8 hx9 ?_; clear hx9; intro _ _ _ _ _ _ _ _) | ((with_reducible rename (_ ∧ _ ∧ _ ∧ _) => hx9); refine and4 hx9 ?_; clear hx9; intro _ _ _ _) | ((with_reducible rename (_ ∧ _) => hx9); refine and2 hx9 ?_; clear hx9; intro _ _) | ((with_reducible rename True => hx9); clear hx9))); refine k9 ?_; clear k9 R9))
      have hcm' : Apart c' ml := ⟨hcm⟩
      clear hne9 hcm
      have hvl : vs.length = 4 := hi9.length
      have hvl3 : vs3.length ≤ 16 := by
        have e1 := hP1.length
        rw [hP2, masksI_len] at e1
        have e2 : ([o0, o1, o2, o3].take i).length ≤ 4 := by rw [List.length_take]; exact Nat.min_le_right _ _
        omega
      repeat' ((fail_if_success (with_reducible show wpAny _ _ (call (Value.builtin "list.extend") _) _ _ _)); (fail_if_success (with_reducible show KswEnd _ _ _ _ _ _ _ _ _ _ _ _)); (fail_if_success (with_reducible show FcEnd _ _ _ _ _ _ _ _ _ _)); (fail_if_success (with_reducible show CutEnd _ _ _ _ _ _ _ _ _)); first | (k_unfold; (try dsimp only)) | (k_end; wrow_close) | ((first | ((with_reducible show wpAny _ _ (subscriptTail _ _ _ _) _ _ _); first | (k_here; (with_reducible show wpAny _ _ (subscriptTail (PySem.Expr.Name _ _) (PySem.Expr.Name _ _) (Value.ref _) (Value.int (Nat.cast _) _)) _ _ _); (refine item_lst (by k_asm) (by k_mem) (by exact rfl) (by decide) ?_)) | (k_here; (with_reducible show wpAny _ _ (subscriptTail (PySem.Expr.Subscript (PySem.Expr.Name _ _) (PySem.Expr.Name _ _) _) (PySem.Expr.Constant _ _ _) (Value.ref _) (Value.int _ _)) _ _ _); (refine item_tup (by k_asm) (by k_mem) (by decide) (by decide) (by exact rfl) (by exact rfl) ?_)) | (k_here; (with_reducible show wpAny _ _ (subscriptTail (PySem.Expr.Subscript (PySem.Expr.Subscript _ _ _) (PySem.Expr.Constant _ _ _) _) (PySem.Expr.BinOp _ _ _ _) (Value.ref _) (Value.int (HSub.hSub _ _) _)) _ _ _); (refine item_ints (by k_asm) (by k_mem) (by with_reducible assumption) (by omega) (by omega) (by omega) ?_); intro _) | with_reducible (k_here; (with_reducible show wpAny _ _ (subscriptTail _ (PySem.Expr.Slice _ _ _ _) (Value.str _ _) (Value.ref _)) _ _ _); kxi_slice; intro _ _ _ _ _) | with_reducible (k_here; (with_reducible show wpAny _ _ (subscriptTail _ (PySem.Expr.Slice (some _) (some _) none _) (Value.ref _) (Value.ref _)) _ _ _); k_dflt (refine' sliceRun (s := ⟨_, _, _, _, _⟩) ?F ?N ?m ?x ?y ?z ?_; (case F => k_asm); (case N => k_asm); (case m => k_mem); (case z => assumption); (case x => first | decide | omega); (case y => first | decide | omega)); intro _ _ _ _ l1; (try dsimp only [AllLt] at l1); (try k_sweep)) | with_reducible (k_here; (with_reducible show wpAny _ _ (subscriptTail _ (PySem.Expr.Slice none (some _) none _) (Value.ref _) (Value.ref _)) _ _ _); k_dflt (refine' sliceUpto (s := ⟨_, _, _, _, _⟩) ?F ?N ?m ?x ?z ?_; (case F => k_asm); (case N => k_asm); (case m => k_mem); (case z => assumption); (case x => first | decide | omega)); intro _ _ _ _ l1; (try dsimp only [AllLt] at l1); (try k_sweep)) | with_reducible (k_here; (with_reducible show wpAny _ _ (subscriptTail _ (PySem.Expr.Slice (some _) none none _) (Value.ref _) (Value.ref _)) _ _ _); k_dflt (refine' sliceFrom (s := ⟨_, _, _, _, _⟩) ?F ?N ?m ?x ?z ?_; (case F => k_asm); (case N => k_asm); (case m => k_mem); (case z => first | assumption | exact Nat.le_trans (Nat.le_of_eq (by assumption)) (by decide)); (case x => first | decide | omega)); intro _ _ _ _ l1; (try dsimp only [AllLt] at l1); (try k_sweep)) | with_reducible (k_here; (with_reducible show wpAny _ _ (subscriptTail (Expr.Constant _ _ _) _ (Value.str _ _) (Value.int _ _)) _ _ _); (refine cod_tail (by assumption) ?_ (by with_unfolding_all rfl) (by intro _; with_unfolding_all rfl)))) | walk1); (all_goals ((try ((fail_if_success (fail_if_success (with_reducible rename (_ ∧ _) => hx9))); refine viaR ?_; intro R9 k9; (repeat (first | ((with_reducible rename (_ ∧ _ ∧ _ ∧ _ ∧ _ ∧ _ ∧ _ ∧ _) => hx9); refine and8 hx9 ?_; clear hx9; intro _ _ _ _ _ _ _ _) | ((with_reducible rename (_ ∧ _ ∧ _ ∧ _) => hx9); refine and4 hx9 ?_; clear hx9; intro _ _ _ _) | ((with_reducible rename (_ ∧ _) => hx9); refine and2 hx9 ?_; clear hx9; intro _ _) | ((with_reducible rename True => hx9); clear hx9))); refine k9 ?_; clear k9 R9)); repeat ((with_reducible rename (@Ne Nat _ _) => hx9); (have hx8 := apart_of hx9); clear hx9)))) | (dsimp only; walk1) | (leave1; try dsimp only))
      refine' extendK (vs := vs3) (vs2 := vs) (n := k3) (D := aK) (b := ml) (by k_asm) (by k_asm) (by k_mem) ?U (by omega) (by omega) (by omega) ?_
      case U => k_upd
      intro h' F' N'
      repeat' ((fail_if_success (with_reducible show FgPost _ _ _ _ _ _ _ _ _ _ _ _)); (fail_if_success (with_reducible show KswEnd _ _ _ _ _ _ _ _ _ _ _ _)); (fail_if_success (with_reducible show FcEnd _ _ _ _ _ _ _ _ _ _)); (fail_if_success (with_reducible show CutEnd _ _ _ _ _ _ _ _ _)); first | (k_unfold; (try dsimp only)) | (k_end; wrow_close) | ((first | ((with_reducible show wpAny _ _ (subscriptTail _ _ _ _) _ _ _); first | (k_here; (with_reducible show wpAny _ _ (subscriptTail (PySem.Expr.Name _ _) (PySem.Expr.Name _ _) (Value.ref _) (Value.int (Nat.cast _) _)) _ _ _); (refine item_lst (by k_asm) (by k_mem) (by exact rfl) (by decide) ?_)) | (k_here; (with_reducible show wpAny _ _ (subscriptTail (PySem.Expr.Subscript (PySem.Expr.Name _ _) (PySem.Expr.Name _ _) _) (PySem.Expr.Constant _ _ _) (Value.ref _) (Value.int _ _)) _ _ _); (refine item_tup (by k_asm) (by k_mem) (by decide) (by decide) (by exact rfl) (by exact rfl) ?_)) | (k_here; (with_reducible show wpAny _ _ (subscriptTail (PySem.Expr.Subscript (PySem.Expr.Subscript _ _ _) (PySem.Expr.Constant _ _ _) _) (PySem.Expr.BinOp _ _ _ _) (Value.ref _) (Value.int (HSub.hSub _ _) _)) _ _ _); (refine item_ints (by k_asm) (by k_mem) (by with_reducible assumption) (by omega) (by omega) (by omega) ?_); intro _) | with_reducible (k_here; (with_reducible show wpAny _ _ (subscriptTail _ (PySem.Expr.Slice _ _ _ _) (Value.str _ _) (Value.ref _)) _ _ _); kxi_slice; intro _ _ _ _ _) | with_reducible (k_here; (with_reducible show wpAny _ _ (subscriptTail _ (PySem.Expr.Slice (some _) (some _) none _) (Value.ref _) (Value.ref _)) _ _ _); k_dflt (refine' sliceRun (s := ⟨_, _, _, _, _⟩) ?F ?N ?m ?x ?y ?z ?_; (case F => k_asm); (case N => k_asm); (case m => k_mem); (case z => assumption); (case x => first | decide | omega); (case y => first | decide | omega)); intro _ _ _ _ l1; (try dsimp only [AllLt] at l1); (try k_sweep)) | with_reducible (k_here; (with_reducible show wpAny _ _ (subscriptTail _ (PySem.Expr.Slice none (some _) none _) (Value.ref _) (Value.ref _)) _ _ _); k_dflt (refine' sliceUpto (s := ⟨_, _, _, _, _⟩) ?F ?N ?m ?x ?z ?_; (case F => k_asm); (case N => k_asm); (case m => k_mem); (case z => assumption); (case x => first | decide | omega)); intro _ _ _ _ l1; (try dsimp only [AllLt] at l1); (try k_sweep)) | with_reducible (k_here; (with_reducible show wpAny _ _ (subscriptTail _ (PySem.Expr.Slice (some _) none none _) (Value.ref _) (Value.ref _)) _ _ _); k_dflt (refine' sliceFrom (s := ⟨_, _, _, _, _⟩) ?F ?N ?m ?x ?z ?_; (case F => k_asm); (case N => k_asm); (case m => k_mem); (case z => first | assumption | exact Nat.le_trans (Nat.le_of_eq (by assumption)) (by decide)); (case x => first | decide | omega)); intro _ _ _ _ l1; (try dsimp only [AllLt] at l1); (try k_sweep)) | with_reducible (k_here; (with_reducible show wpAny _ _ (subscriptTail (Expr.Constant _ _ _) _ (Value.str _ _) (Value.int _ _)) _ _ _); (refine cod_tail (by assumption) ?_ (by with_unfolding_all rfl) (by intro _; with_unfolding_all rfl)))) | walk1); (all_goals ((try ((fail_if_success (fail_if_success (with_reducible rename (_ ∧ _) => hx9))); refine viaR ?_; intro R9 k9; (repeat (first | ((with_reducible rename (_ ∧ _ ∧ _ ∧ _ ∧ _ ∧ _ ∧ _ ∧ _) => hx9); refine and8 hx9 ?_; clear hx9; intro _ _ _ _ _ _ _ _) | ((with_reducible rename (_ ∧ _ ∧ _ ∧ _) => hx9); refine and4 hx9 ?_; clear hx9; intro _ _ _ _) | ((with_reducible rename (_ ∧ _) => hx9); refine and2 hx9 ?_; clear hx9; intro _ _) | ((with_reducible rename True => hx9); clear hx9))); refine k9 ?_; clear k9 R9)); repeat ((with_reducible rename (@Ne Nat _ _) => hx9); (have hx8 := apart_of hx9); clear hx9)))) | (dsimp only; walk1) | (leave1; try dsimp only))
      refine ofGenF hRR1 ?_
      (rename Fr _ _ _ _ => F5); (rename News _ _ _ _ => N5)
      refine fgEnd ((vs3 ++ vs, ns3 ++ maskInts w0 w1 w2 mk, _), some (c', oc)) F5 N5 (by exact fmem (by exact List.Mem.tail _ (List.Mem.tail _ (List.Mem.head _))) (by (simp only [tabL, List.cons_append, List.nil_append]); exact fmem (by k_mem) (fmem (by k_mem) (fmem (by k_mem) (fmem (by k_mem) (fmem (by k_mem) (fmem (by k_mem) (fmem (by k_mem) (fmem (by k_mem) (fmem (by k_mem) (List.forall_mem_nil _))))))))))) (fun p hp => by (first | exact hp | exact List.Mem.tail _ (hp) | exact List.Mem.tail _ (List.Mem.tail _ (hp)) | exact List.Mem.tail _ (List.Mem.tail _ (List.Mem.tail _ (hp))) | exact List.Mem.tail _ (List.Mem.tail _ (List.Mem.tail _ (List.Mem.tail _ (hp)))) | exact List.Mem.tail _ (List.Mem.tail _ (List.Mem.tail _ (List.Mem.tail _ (List.Mem.tail _ (hp))))) | exact List.Mem.tail _ (List.Mem.tail _ (List.Mem.tail _ (List.Mem.tail _ (List.Mem.tail _ (List.Mem.tail _ (hp)))))) | exact List.Mem.tail _ (List.Mem.tail _ (List.Mem.tail _ (List.Mem.tail _ (List.Mem.tail _ (List.Mem.tail _ (List.Mem.tail _ (hp))))))) | exact List.Mem.tail _ (List.Mem.tail _ (List.Mem.tail _ (List.Mem.tail _ (List.Mem.tail _ (List.Mem.tail _ (List.Mem.tail _ (List.Mem.tail _ (hp)))))))) | exact List.Mem.tail _ (List.Mem.tail _ (List.Mem.tail _ (List.Mem.tail _ (List.Mem.tail _ (List.Mem.tail _ (List.Mem.tail _ (List.Mem.tail _ (List.Mem.tail _ (hp))))))))) | exact List.Mem.tail _ (List.Mem.tail _ (List.Mem.tail _ (List.Mem.tail _ (List.Mem.tail _ (List.Mem.tail _ (List.Mem.tail _ (List.Mem.tail _ (List.Mem.tail _ (List.Mem.tail _ (hp)))))))))) | exact List.Mem.tail _ (List.Mem.tail _ (List.Mem.tail _ (List.Mem.tail _ (List.Mem.tail _ (List.Mem.tail _ (List.Mem.tail _ (List.Mem.tail _ (List.Mem.tail _ (List.Mem.tail _ (List.Mem.tail _ (hp))))))))))) | exact List.Mem.tail _ (List.Mem.tail _ (List.Mem.tail _ (List.Mem.tail _ (List.Mem.tail _ (List.Mem.tail _ (List.Mem.tail _ (List.Mem.tail _ (List.Mem.tail _ (List.Mem.tail _ (List.Mem.tail _ (List.Mem.tail _ (hp)))))))))))) | exact List.Mem.tail _ (List.Mem.tail _ (List.Mem.tail _ (List.Mem.tail _ (List.Mem.tail _ (List.Mem.tail _ (List.Mem.tail _ (List.Mem.tail _ (List.Mem.tail _ (List.Mem.tail _ (List.Mem.tail _ (List.Mem.tail _ (List.Mem.tail _ (hp))))))))))))) | exact List.Mem.tail _ (List.Mem.tail _ (List.Mem.tail _ (List.Mem.tail _ (List.Mem.tail _ (List.Mem.tail _ (List.Mem.tail _ (List.Mem.tail _ (List.Mem.tail _ (List.Mem.tail _ (List.Mem.tail _ (List.Mem.tail _ (List.Mem.tail _ (List.Mem.tail _ (hp)))))))))))))) | exact List.Mem.tail _ (List.Mem.tail _ (List.Mem.tail _ (List.Mem.tail _ (List.Mem.tail _ (List.Mem.tail _ (List.Mem.tail _ (List.Mem.tail _ (List.Mem.tail _ (List.Mem.tail _ (List.Mem.tail _ (List.Mem.tail _ (List.Mem.tail _ (List.Mem.tail _ (List.Mem.tail _ (hp))))))))))))))))) ?_ (fun p hp => nomatch hp) (by (intro z h2 h3; (have hs0 : z ≠ Str.ofString "mark" := by rintro rfl; exact absurd h3 (by decide)); simp only [kstB, h3, if_neg hs0, Bool.false_eq_true, if_false])) ⟨intsApp hP1 hi9, ?_, ⟨fv, tq, hoc, hfv⟩, ?_⟩
      · exact offSub (offOwn (by assumption) hoff) (by simp [tabL])
      · rw [hP2, masksI_snoc hpk]
      · dsimp only [AllNe]
        (repeat' (first | exact trivial | assumption | refine And.intro ?_ ?_))
    | some cc =>
      obtain ⟨c', oc⟩ := cc
      refine viaR ?_; intro R9 k9
      obtain ⟨⟨fv, tq, hoc, hfv⟩, hne⟩ := hP3
      refine k9 ?_; clear k9 R9
      dsimp only [tabL, List.cons_append, List.nil_append] at N8 hoff
      dsimp only [AllNe] at hne
      (try ((fail_if_success (fail_if_success (with_reducible rename (_ ∧ _) => hx9))); refine viaR ?_; intro R9 k9; (repeat (first | ((with_reducible rename (_ ∧ _ ∧ _ ∧ _ ∧ _ ∧ _ ∧ _ ∧ _) => hx9); refine and8 hx9 ?_; clear hx9; intro _ _ _ _ _ _ _ _) | ((with_reducible rename (_ ∧ _ ∧ _ ∧ _) => hx9); refine and4 hx9 ?_; clear hx9; intro _ _ _ _) | ((with_reducible rename (_ ∧ _) => hx9); refine and2 hx9 ?_; clear hx9; intro _ _) | ((with_reducible rename True => hx9); clear hx9))); refine k9 ?_; clear k9 R9))
      repeat' ((fail_if_success (with_reducible show wpAny _ _ (call (Value.ref 65) _) _ _ _)); (fail_if_success (with_reducible show KswEnd _ _ _ _ _ _ _ _ _ _ _ _)); (fail_if_success (with_reducible show FcEnd _ _ _ _ _ _ _ _ _ _)); (fail_if_success (with_reducible show CutEnd _ _ _ _ _ _ _ _ _)); first | (k_unfold; (try dsimp only)) | (k_end; wrow_close) | ((first | ((with_reducible show wpAny _ _ (subscriptTail _ _ _ _) _ _ _); first | (k_here; (with_reducible show wpAny _ _ (subscriptTail (PySem.Expr.Name _ _) (PySem.Expr.Name _ _) (Value.ref _) (Value.int (Nat.cast _) _)) _ _ _); (refine item_lst (by k_asm) (by k_mem) (by exact rfl) (by decide) ?_)) | (k_here; (with_reducible show wpAny _ _ (subscriptTail (PySem.Expr.Subscript (PySem.Expr.Name _ _) (PySem.Expr.Name _ _) _) (PySem.Expr.Constant _ _ _) (Value.ref _) (Value.int _ _)) _ _ _); (refine item_tup (by k_asm) (by k_mem) (by decide) (by decide) (by exact rfl) (by exact rfl) ?_)) | (k_here; (with_reducible show wpAny _ _ (subscriptTail (PySem.Expr.Subscript (PySem.Expr.Subscript _ _ _) (PySem.Expr.Constant _ _ _) _) (PySem.Expr.BinOp _ _ _ _) (Value.ref _) (Value.int (HSub.hSub _ _) _)) _ _ _); (refine item_ints (by k_asm) (by k_mem) (by with_reducible assumption) (by omega) (by omega) (by omega) ?_); intro _) | with_reducible (k_here; (with_reducible show wpAny _ _ (subscriptTail _ (PySem.Expr.Slice _ _ _ _) (Value.str _ _) (Value.ref _)) _ _ _); kxi_slice; intro _ _ _ _ _) | with_reducible (k_here; (with_reducible show wpAny _ _ (subscriptTail _ (PySem.Expr.Slice (some _) (some _) none _) (Value.ref _) (Value.ref _)) _ _ _); k_dflt (refine' sliceRun (s := ⟨_, _, _, _, _⟩) ?F ?N ?m ?x ?y ?z ?_; (case F => k_asm); (case N => k_asm); (case m => k_mem); (case z => assumption); (case x => first | decide | omega); (case y => first | decide | omega)); intro _ _ _ _ l1; (try dsimp only [AllLt] at l1); (try k_sweep)) | with_reducible (k_here; (with_reducible show wpAny _ _ (subscriptTail _ (PySem.Expr.Slice none (some _) none _) (Value.ref _) (Value.ref _)) _ _ _); k_dflt (refine' sliceUpto (s := ⟨_, _, _, _, _⟩) ?F ?N ?m ?x ?z ?_; (case F => k_asm); (case N => k_asm); (case m => k_mem); (case z => assumption); (case x => first | decide | omega)); intro _ _ _ _ l1; (try dsimp only [AllLt] at l1); (try k_sweep)) | with_reducible (k_here; (with_reducible show wpAny _ _ (subscriptTail _ (PySem.Expr.Slice (some _) none none _) (Value.ref _) (Value.ref _)) _ _ _); k_dflt (refine' sliceFrom (s := ⟨_, _, _, _, _⟩) ?F ?N ?m ?x ?z ?_; (case F => k_asm); (case N => k_asm); (case m => k_mem); (case z => first | assumption | exact Nat.le_trans (Nat.le_of_eq (by assumption)) (by decide)); (case x => first | decide | omega)); intro _ _ _ _ l1; (try dsimp only [AllLt] at l1); (try k_sweep)) | with_reducible (k_here; (with_reducible show wpAny _ _ (subscriptTail (Expr.Constant _ _ _) _ (Value.str _ _) (Value.int _ _)) _ _ _); (refine cod_tail (by assumption) ?_ (by with_unfolding_all rfl) (by intro _; with_unfolding_all rfl)))) | walk1); (all_goals ((try ((fail_if_success (fail_if_success (with_reducible rename (_ ∧ _) => hx9))); refine viaR ?_; intro R9 k9; (repeat (first | ((with_reducible rename (_ ∧ _ ∧ _ ∧ _ ∧ _ ∧ _ ∧ _ ∧ _) => hx9); refine and8 hx9 ?_; clear hx9; intro _ _ _ _ _ _ _ _) | ((with_reducible rename (_ ∧ _ ∧ _ ∧ _) => hx9); refine and4 hx9 ?_; clear hx9; intro _ _ _ _) | ((with_reducible rename (_ ∧ _) => hx9); refine and2 hx9 ?_; clear hx9; intro _ _) | ((with_reducible rename True => hx9); clear hx9))); refine k9 ?_; clear k9 R9)); repeat ((with_reducible rename (@Ne Nat _ _) => hx9); (have hx8 := apart_of hx9); clear hx9)))) | (dsimp only; walk1) | (leave1; try dsimp only))
      refine masks_hit (w0 := (w0 : Int)) (w1 := (w1 : Int)) (w2 := (w2 : Int)) (mk := (mk : Int)) (t0 := tw0) (t1 := tw1) (t2 := tw2) (tm := tmk) (l := aW) (kl := 3) (c' := c') (oc := oc) (fv := fv) (tq := tq) (by k_asm) (by k_asm) (by k_asm) (by k_asm) (by k_asm) (by first | exact rfl | assumption) (by ktr_room) (by ktr_units) (by omega) (by omega) (by omega) (by omega) (by kn_code) (by k_mem) (by k_mem) (by k_mem) hoc hfv (by k_ne) (by k_ne) (by k_ne) rfl ?_
      intro ml vs h9 tk9 F9 N9 hi9 hne9
      have hml := allNe_of hne9
      dsimp only [AllNe] at hml
      (try ((fail_if_success (fail_if_success (with_reducible rename (_ ∧ _) => hx9))); refine viaR ?_; intro R9 k9; (repeat (first | ((with_reducible rename (_ ∧ _ ∧ _ ∧ _ ∧ _ ∧ _ ∧ _ ∧ _) => hx9); refine and8 hx9 ?_; clear hx9; intro _ _ _ _ _ _ _ _) | ((with_reducible rename (_ ∧ _ ∧ _ ∧ _) => hx9); refine and4 hx9 ?_; clear hx9; intro _ _ _ _) | ((with_reducible rename (_ ∧ _) => hx9); refine and2 hx9 ?_; clear hx9; intro _ _) | ((with_reducible rename True => hx9); clear hx9))); refine k9 ?_; clear k9 R9))
      clear hne9
      have hvl : vs.length = 4 := hi9.length
      have hvl3 : vs3.length ≤ 16 := by
        have e1 := hP1.length
        rw [hP2, masksI_len] at e1
        have e2 : ([o0, o1, o2, o3].take i).length ≤ 4 := by rw [List.length_take]; exact Nat.min_le_right _ _
        omega
      repeat' ((fail_if_success (with_reducible show wpAny _ _ (call (Value.builtin "list.extend") _) _ _ _)); (fail_if_success (with_reducible show KswEnd _ _ _ _ _ _ _ _ _ _ _ _)); (fail_if_success (with_reducible show FcEnd _ _ _ _ _ _ _ _ _ _)); (fail_if_success (with_reducible show CutEnd _ _ _ _ _ _ _ _ _)); first | (k_unfold; (try dsimp only)) | (k_end; wrow_close) | ((first | ((with_reducible show wpAny _ _ (subscriptTail _ _ _ _) _ _ _); first | (k_here; (with_reducible show wpAny _ _ (subscriptTail (PySem.Expr.Name _ _) (PySem.Expr.Name _ _) (Value.ref _) (Value.int (Nat.cast _) _)) _ _ _); (refine item_lst (by k_asm) (by k_mem) (by exact rfl) (by decide) ?_)) | (k_here; (with_reducible show wpAny _ _ (subscriptTail (PySem.Expr.Subscript (PySem.Expr.Name _ _) (PySem.Expr.Name _ _) _) (PySem.Expr.Constant _ _ _) (Value.ref _) (Value.int _ _)) _ _ _); (refine item_tup (by k_asm) (by k_mem) (by decide) (by decide) (by exact rfl) (by exact rfl) ?_)) | (k_here; (with_reducible show wpAny _ _ (subscriptTail (PySem.Expr.Subscript (PySem.Expr.Subscript _ _ _) (PySem.Expr.Constant _ _ _) _) (PySem.Expr.BinOp _ _ _ _) (Value.ref _) (Value.int (HSub.hSub _ _) _)) _ _ _); (refine item_ints (by k_asm) (by k_mem) (by with_reducible assumption) (by omega) (by omega) (by omega) ?_); intro _) | with_reducible (k_here; (with_reducible show wpAny _ _ (subscriptTail _ (PySem.Expr.Slice _ _ _ _) (Value.str _ _) (Value.ref _)) _ _ _); kxi_slice; intro _ _ _ _ _) | with_reducible (k_here; (with_reducible show wpAny _ _ (subscriptTail _ (PySem.Expr.Slice (some _) (some _) none _) (Value.ref _) (Value.ref _)) _ _ _); k_dflt (refine' sliceRun (s := ⟨_, _, _, _, _⟩) ?F ?N ?m ?x ?y ?z ?_; (case F => k_asm); (case N => k_asm); (case m => k_mem); (case z => assumption); (case x => first | decide | omega); (case y => first | decide | omega)); intro _ _ _ _ l1; (try dsimp only [AllLt] at l1); (try k_sweep)) | with_reducible (k_here; (with_reducible show wpAny _ _ (subscriptTail _ (PySem.Expr.Slice none (some _) none _) (Value.ref _) (Value.ref _)) _ _ _); k_dflt (refine' sliceUpto (s := ⟨_, _, _, _, _⟩) ?F ?N ?m ?x ?z ?_; (case F => k_asm); (case N => k_asm); (case m => k_mem); (case z => assumption); (case x => first | decide | omega)); intro _ _ _ _ l1; (try dsimp only [AllLt] at l1); (try k_sweep)) | with_reducible (k_here; (with_reducible show wpAny _ _ (subscriptTail _ (PySem.Expr.Slice (some _) none none _) (Value.ref _) (Value.ref _)) _ _ _); k_dflt (refine' sliceFrom (s := ⟨_, _, _, _, _⟩) ?F ?N ?m ?x ?z ?_; (case F => k_asm); (case N => k_asm); (case m => k_mem); (case z => first | assumption | exact Nat.le_trans (Nat.le_of_eq (by assumption)) (by decide)); (case x => first | decide | omega)); intro _ _ _ _ l1; (try dsimp only [AllLt] at l1); (try k_sweep)) | with_reducible (k_here; (with_reducible show wpAny _ _ (subscriptTail (Expr.Constant _ _ _) _ (Value.str _ _) (Value.int _ _)) _ _ _); (refine cod_tail (by assumption) ?_ (by with_unfolding_all rfl) (by intro _; with_unfolding_all rfl)))) | walk1); (all_goals ((try ((fail_if_success (fail_if_success (with_reducible rename (_ ∧ _) => hx9))); refine viaR ?_; intro R9 k9; (repeat (first | ((with_reducible rename (_ ∧ _ ∧ _ ∧ _ ∧ _ ∧ _ ∧ _ ∧ _) => hx9); refine and8 hx9 ?_; clear hx9; intro _ _ _ _ _ _ _ _) | ((with_reducible rename (_ ∧ _ ∧ _ ∧ _) => hx9); refine and4 hx9 ?_; clear hx9; intro _ _ _ _) | ((with_reducible rename (_ ∧ _) => hx9); refine and2 hx9 ?_; clear hx9; intro _ _) | ((with_reducible rename True => hx9); clear hx9))); refine k9 ?_; clear k9 R9)); repeat ((with_reducible rename (@Ne Nat _ _) => hx9); (have hx8 := apart_of hx9); clear hx9)))) | (dsimp only; walk1) | (leave1; try dsimp only))
      refine' extendK (vs := vs3) (vs2 := vs) (n := k3) (D := aK) (b := ml) (by k_asm) (by k_asm) (by k_mem) ?U (by omega) (by omega) (by omega) ?_
      case U => k_upd
      intro h' F' N'
      repeat' ((fail_if_success (with_reducible show FgPost _ _ _ _ _ _ _ _ _ _ _ _)); (fail_if_success (with_reducible show KswEnd _ _ _ _ _ _ _ _ _ _ _ _)); (fail_if_success (with_reducible show FcEnd _ _ _ _ _ _ _ _ _ _)); (fail_if_success (with_reducible show CutEnd _ _ _ _ _ _ _ _ _)); first | (k_unfold; (try dsimp only)) | (k_end; wrow_close) | ((first | ((with_reducible show wpAny _ _ (subscriptTail _ _ _ _) _ _ _); first | (k_here; (with_reducible show wpAny _ _ (subscriptTail (PySem.Expr.Name _ _) (PySem.Expr.Name _ _) (Value.ref _) (Value.int (Nat.cast _) _)) _ _ _); (refine item_lst (by k_asm) (by k_mem) (by exact rfl) (by decide) ?_)) | (k_here; (with_reducible show wpAny _ _ (subscriptTail (PySem.Expr.Subscript (PySem.Expr.Name _ _) (PySem.Expr.Name _ _) _) (PySem.Expr.Constant _ _ _) (Value.ref _) (Value.int _ _)) _ _ _); (refine item_tup (by k_asm) (by k_mem) (by decide) (by decide) (by exact rfl) (by exact rfl) ?_)) | (k_here; (with_reducible show wpAny _ _ (subscriptTail (PySem.Expr.Subscript (PySem.Expr.Subscript _ _ _) (PySem.Expr.Constant _ _ _) _) (PySem.Expr.BinOp _ _ _ _) (Value.ref _) (Value.int (HSub.hSub _ _) _)) _ _ _); (refine item_ints (by k_asm) (by k_mem) (by with_reducible assumption) (by omega) (by omega) (by omega) ?_); intro _) | with_reducible (k_here; (with_reducible show wpAny _ _ (subscriptTail _ (PySem.Expr.Slice _ _ _ _) (Value.str _ _) (Value.ref _)) _ _ _); kxi_slice; intro _ _ _ _ _) | with_reducible (k_here; (with_reducible show wpAny _ _ (subscriptTail _ (PySem.Expr.Slice (some _) (some _) none _) (Value.ref _) (Value.ref _)) _ _ _); k_dflt (refine' sliceRun (s := ⟨_, _, _, _, _⟩) ?F ?N ?m ?x ?y ?z ?_; (case F => k_asm); (case N => k_asm); (case m => k_mem); (case z => assumption); (case x => first | decide | omega); (case y => first | decide | omega)); intro _ _ _ _ l1; (try dsimp only [AllLt] at l1); (try k_sweep)) | with_reducible (k_here; (with_reducible show wpAny _ _ (subscriptTail _ (PySem.Expr.Slice none (some _) none _) (Value.ref _) (Value.ref _)) _ _ _); k_dflt (refine' sliceUpto (s := ⟨_, _, _, _, _⟩) ?F ?N ?m ?x ?z ?_; (case F => k_asm); (case N => k_asm); (case m => k_mem); (case z => assumption); (case x => first | decide | omega)); intro _ _ _ _ l1; (try dsimp only [AllLt] at l1); (try k_sweep)) | with_reducible (k_here; (with_reducible show wpAny _ _ (subscriptTail _ (PySem.Expr.Slice (some _) none none _) (Value.ref _) (Value.ref _)) _ _ _); k_dflt (refine' sliceFrom (s := ⟨_, _, _, _, _⟩) ?F ?N ?m ?x ?z ?_; (case F => k_asm); (case N => k_asm); (case m => k_mem); (case z => first | assumption | exact Nat.le_trans (Nat.le_of_eq (by assumption)) (by decide)); (case x => first | decide | omega)); intro _ _ _ _ l1; (try dsimp only [AllLt] at l1); (try k_sweep)) | with_reducible (k_here; (with_reducible show wpAny _ _ (subscriptTail (Expr.Constant _ _ _) _ (Value.str _ _) (Value.int _ _)) _ _ _); (refine cod_tail (by assumption) ?_ (by with_unfolding_all rfl) (by intro _; with_unfolding_all rfl)))) | walk1); (all_goals ((try ((fail_if_success (fail_if_success (with_reducible rename (_ ∧ _) => hx9))); refine viaR ?_; intro R9 k9; (repeat (first | ((with_reducible rename (_ ∧ _ ∧ _ ∧ _ ∧ _ ∧ _ ∧ _ ∧ _) => hx9); refine and8 hx9 ?_; clear hx9; intro _ _ _ _ _ _ _ _) | ((with_reducible rename (_ ∧ _ ∧ _ ∧ _) => hx9); refine and4 hx9 ?_; clear hx9; intro _ _ _ _) | ((with_reducible rename (_ ∧ _) => hx9); refine and2 hx9 ?_; clear hx9; intro _ _) | ((with_reducible rename True => hx9); clear hx9))); refine k9 ?_; clear k9 R9)); repeat ((with_reducible rename (@Ne Nat _ _) => hx9); (have hx8 := apart_of hx9); clear hx9)))) | (dsimp only; walk1) | (leave1; try dsimp only))
      refine ofGenF hRR1 ?_
      (rename Fr _ _ _ _ => F5); (rename News _ _ _ _ => N5)
      refine fgEnd ((vs3 ++ vs, ns3 ++ maskInts w0 w1 w2 mk, _), some (c', oc)) F5 N5 (by exact fmem (by exact List.Mem.tail _ (List.Mem.head _)) (by (simp only [tabL, List.cons_append, List.nil_append]); exact fmem (by k_mem) (fmem (by k_mem) (fmem (by k_mem) (fmem (by k_mem) (fmem (by k_mem) (fmem (by k_mem) (fmem (by k_mem) (fmem (by k_mem) (fmem (by k_mem) (List.forall_mem_nil _))))))))))) (fun p hp => by (first | exact hp | exact List.Mem.tail _ (hp) | exact List.Mem.tail _ (List.Mem.tail _ (hp)) | exact List.Mem.tail _ (List.Mem.tail _ (List.Mem.tail _ (hp))) | exact List.Mem.tail _ (List.Mem.tail _ (List.Mem.tail _ (List.Mem.tail _ (hp)))) | exact List.Mem.tail _ (List.Mem.tail _ (List.Mem.tail _ (List.Mem.tail _ (List.Mem.tail _ (hp))))) | exact List.Mem.tail _ (List.Mem.tail _ (List.Mem.tail _ (List.Mem.tail _ (List.Mem.tail _ (List.Mem.tail _ (hp)))))) | exact List.Mem.tail _ (List.Mem.tail _ (List.Mem.tail _ (List.Mem.tail _ (List.Mem.tail _ (List.Mem.tail _ (List.Mem.tail _ (hp))))))) | exact List.Mem.tail _ (List.Mem.tail _ (List.Mem.tail _ (List.Mem.tail _ (List.Mem.tail _ (List.Mem.tail _ (List.Mem.tail _ (List.Mem.tail _ (hp)))))))) | exact List.Mem.tail _ (List.Mem.tail _ (List.Mem.tail _ (List.Mem.tail _ (List.Mem.tail _ (List.Mem.tail _ (List.Mem.tail _ (List.Mem.tail _ (List.Mem.tail _ (hp))))))))) | exact List.Mem.tail _ (List.Mem.tail _ (List.Mem.tail _ (List.Mem.tail _ (List.Mem.tail _ (List.Mem.tail _ (List.Mem.tail _ (List.Mem.tail _ (List.Mem.tail _ (List.Mem.tail _ (hp)))))))))) | exact List.Mem.tail _ (List.Mem.tail _ (List.Mem.tail _ (List.Mem.tail _ (List.Mem.tail _ (List.Mem.tail _ (List.Mem.tail _ (List.Mem.tail _ (List.Mem.tail _ (List.Mem.tail _ (List.Mem.tail _ (hp))))))))))) | exact List.Mem.tail _ (List.Mem.tail _ (List.Mem.tail _ (List.Mem.tail _ (List.Mem.tail _ (List.Mem.tail _ (List.Mem.tail _ (List.Mem.tail _ (List.Mem.tail _ (List.Mem.tail _ (List.Mem.tail _ (List.Mem.tail _ (hp)))))))))))) | exact List.Mem.tail _ (List.Mem.tail _ (List.Mem.tail _ (List.Mem.tail _ (List.Mem.tail _ (List.Mem.tail _ (List.Mem.tail _ (List.Mem.tail _ (List.Mem.tail _ (List.Mem.tail _ (List.Mem.tail _ (List.Mem.tail _ (List.Mem.tail _ (hp))))))))))))) | exact List.Mem.tail _ (List.Mem.tail _ (List.Mem.tail _ (List.Mem.tail _ (List.Mem.tail _ (List.Mem.tail _ (List.Mem.tail _ (List.Mem.tail _ (List.Mem.tail _ (List.Mem.tail _ (List.Mem.tail _ (List.Mem.tail _ (List.Mem.tail _ (List.Mem.tail _ (hp)))))))))))))) | exact List.Mem.tail _ (List.Mem.tail _ (List.Mem.tail _ (List.Mem.tail _ (List.Mem.tail _ (List.Mem.tail _ (List.Mem.tail _ (List.Mem.tail _ (List.Mem.tail _ (List.Mem.tail _ (List.Mem.tail _ (List.Mem.tail _ (List.Mem.tail _ (List.Mem.tail _ (List.Mem.tail _ (hp))))))))))))))))) ?_ (fun p hp => nomatch hp) (by (intro z h2 h3; (have hs0 : z ≠ Str.ofString "mark" := by rintro rfl; exact absurd h3 (by decide)); simp only [kstB, h3, if_neg hs0, Bool.false_eq_true, if_false])) ⟨intsApp hP1 hi9, ?_, ⟨fv, tq, hoc, hfv⟩, ?_⟩
      · exact hoff
      · rw [hP2, masksI_snoc hpk]
      · dsimp only [AllNe]
        (repeat' (first | exact trivial | assumption | refine And.intro ?_ ?_))
  case done =>
  refine all_3_1 ?_; intro vs3 ns3 k3 tb u h tk hP F8 N8
  have hP1 := hP.1; have hP2 := hP.2.1; have hP3 := hP.2.2; clear hP
  dsimp only at hP1 hP2 F8 N8
  clear hP3
  have N9 : News _ _ _ ((aK, listOf vs3.toArray k3) :: [(s1.heap.objs.size + 1 + 1 + 1 + 1, oS), (s1.heap.objs.size + 1 + 1 + 1, oR), (s1.heap.objs.size + 1 + 1, oT), (s1.heap.objs.size + 1, oM2), (30, tabObj #[]), (81, tabObj #[])]) := cb_drop (news := (aK, listOf vs3.toArray k3) :: [(s1.heap.objs.size + 1 + 1 + 1 + 1, oS), (s1.heap.objs.size + 1 + 1 + 1, oR), (s1.heap.objs.size + 1 + 1, oT), (s1.heap.objs.size + 1, oM2), (30, tabObj #[]), (81, tabObj #[])]) N8 (fmem (List.Mem.head _) (fun p hp => List.Mem.tail _ (List.mem_append_right _ (List.Mem.tail _ hp))))
  refine exE (tabL_ps 37 68 4 tb) ?_; intro ps37 hps37
  have N90 := newsApp N9 (q := [(37, tabObj ps37)]) (fmem (N8 _ (List.Mem.tail _ (List.mem_append_left _ hps37))) (List.forall_mem_nil _))
  dsimp only [List.cons_append, List.nil_append] at N90
  clear N9
  rename News _ _ _ _ => N9
  clear hps37
  refine exE (fr_base (ps := [(Str.ofString "short", .str (S [cod w0, cod w1, cod w2]) t8), (Str.ofString "row", .str (S [cod o0, cod o1, cod o2, cod o3]) t9)]) F8 (by kst_all)) ?_; intro U4 F9
  subst hP2
  have hms : IntsAre vs3 (zs (msOf w0 w1 w2 [o0, o1, o2, o3])) := by
    have e := masksI_nat hw0 hw1 hw2 (os := [o0, o1, o2, o3]) (by simp only [List.forall_mem_cons]; exact ⟨ho0, ho1, ho2, ho3, List.forall_mem_nil _⟩)
    rw [← e]
    exact hP1
  have hlaw := law_of hw0 hw1 hw2 ho0 ho1 ho2 ho3
  generalize hmsd : msOf w0 w1 w2 [o0, o1, o2, o3] = ms at hms hlaw
  have hmsl : ms.length = 16 := by rw [← hmsd, msOf_len]; rfl
  have hfok := hlaw.fok
  have hvsl : vs3.length = 16 := by rw [hms.length, zs_len, hmsl]
  clear hP1
  have apK3 : Apart (s1.heap.objs.size + 1 + 1 + 1) aK := ⟨Nat.ne_of_lt lK.2.2.2.1⟩
  clear N8 F8 Nb Fb Nc hneA lK
  (try k_unfold); (try dsimp only)
  refine' stCut (σ := RunsS) F9 (fun c => (c.aR, LCg.lst [.ref c.u0, .ref c.u1, .ref c.u2, .ref c.u3]) :: (c.u3, tupOf #[.int (stN ms 3 : Nat) c.t3, .ref c.c3]) :: (c.c3, listOf c.v3.toArray c.k3) :: (c.u2, tupOf #[.int (stN ms 2 : Nat) c.t2, .ref c.c2]) :: (c.c2, listOf c.v2.toArray c.k2) :: (c.u1, tupOf #[.int (stN ms 1 : Nat) c.t1, .ref c.c1]) :: (c.c1, listOf c.v1.toArray c.k1) :: (c.u0, tupOf #[.int (stN ms 0 : Nat) c.t0, .ref c.c0]) :: (c.c0, listOf c.v0.toArray c.k0) :: [(s1.heap.objs.size + 1 + 1 + 1 + 1, oS), (s1.heap.objs.size + 1 + 1 + 1, c.oR), (s1.heap.objs.size + 1 + 1, oT), (s1.heap.objs.size + 1, oM2), (30, tabObj #[]), (81, tabObj #[]), (37, tabObj ps37)]) (fun _ => []) [] (fun c => c.oR.data = Data.cell (some (.ref c.aR)) ∧ (IntsAre c.v0 (zs (caN ms 0)) ∧ IntsAre c.v1 (zs (caN ms 1)) ∧ IntsAre c.v2 (zs (caN ms 2)) ∧ IntsAre c.v3 (zs (caN ms 3))) ∧ AllNe (s1.heap.objs.size + 1 + 1 + 1 + 1) ((c.aR, LCg.lst [.ref c.u0, .ref c.u1, .ref c.u2, .ref c.u3]) :: (c.u3, tupOf #[.int (stN ms 3 : Nat) c.t3, .ref c.c3]) :: (c.c3, listOf c.v3.toArray c.k3) :: (c.u2, tupOf #[.int (stN ms 2 : Nat) c.t2, .ref c.c2]) :: (c.c2, listOf c.v2.toArray c.k2) :: (c.u1, tupOf #[.int (stN ms 1 : Nat) c.t1, .ref c.c1]) :: (c.c1, listOf c.v1.toArray c.k1) :: (c.u0, tupOf #[.int (stN ms 0 : Nat) c.t0, .ref c.c0]) :: (c.c0, listOf c.v0.toArray c.k0) :: []) ∧ AllNe 81 ((c.aR, LCg.lst [.ref c.u0, .ref c.u1, .ref c.u2, .ref c.u3]) :: (c.u3, tupOf #[.int (stN ms 3 : Nat) c.t3, .ref c.c3]) :: (c.c3, listOf c.v3.toArray c.k3) :: (c.u2, tupOf #[.int (stN ms 2 : Nat) c.t2, .ref c.c2]) :: (c.c2, listOf c.v2.toArray c.k2) :: (c.u1, tupOf #[.int (stN ms 1 : Nat) c.t1, .ref c.c1]) :: (c.c1, listOf c.v1.toArray c.k1) :: (c.u0, tupOf #[.int (stN ms 0 : Nat) c.t0, .ref c.c0]) :: (c.c0, listOf c.v0.toArray c.k0) :: []) ∧ AllNe (s1.heap.objs.size + 1 + 1) ((c.aR, LCg.lst [.ref c.u0, .ref c.u1, .ref c.u2, .ref c.u3]) :: (c.u3, tupOf #[.int (stN ms 3 : Nat) c.t3, .ref c.c3]) :: (c.c3, listOf c.v3.toArray c.k3) :: (c.u2, tupOf #[.int (stN ms 2 : Nat) c.t2, .ref c.c2]) :: (c.c2, listOf c.v2.toArray c.k2) :: (c.u1, tupOf #[.int (stN ms 1 : Nat) c.t1, .ref c.c1]) :: (c.c1, listOf c.v1.toArray c.k1) :: (c.u0, tupOf #[.int (stN ms 0 : Nat) c.t0, .ref c.c0]) :: (c.c0, listOf c.v0.toArray c.k0) :: []) ∧ AllNe 30 ((c.aR, LCg.lst [.ref c.u0, .ref c.u1, .ref c.u2, .ref c.u3]) :: (c.u3, tupOf #[.int (stN ms 3 : Nat) c.t3, .ref c.c3]) :: (c.c3, listOf c.v3.toArray c.k3) :: (c.u2, tupOf #[.int (stN ms 2 : Nat) c.t2, .ref c.c2]) :: (c.c2, listOf c.v2.toArray c.k2) :: (c.u1, tupOf #[.int (stN ms 1 : Nat) c.t1, .ref c.c1]) :: (c.c1, listOf c.v1.toArray c.k1) :: (c.u0, tupOf #[.int (stN ms 0 : Nat) c.t0, .ref c.c0]) :: (c.c0, listOf c.v0.toArray c.k0) :: [])) ?h1 ?h2
  case h1 =>
    refine wpGen ?_; intro RR1 hRR1
    repeat' ((fail_if_success (with_reducible show wpAny _ _ (exec (Stmt.While _ _ _ _) _) _ _ _)); (fail_if_success (with_reducible show wpAny _ _ (exec (Stmt.For _ _ _ _ _) _) _ _ _)); (fail_if_success (with_reducible show wpAny _ _ (execs (Stmt.Assign [Expr.Name _ _] _ _ :: _) _) _ _ _)); (fail_if_success (with_reducible show FgEnd _ _ _ _ _ _ _ _ _ _)); (fail_if_success (with_reducible show KswEnd _ _ _ _ _ _ _ _ _ _ _ _)); (fail_if_success (with_reducible show FcEnd _ _ _ _ _ _ _ _ _ _)); (fail_if_success (with_reducible show CutEnd _ _ _ _ _ _ _ _ _)); first | (k_unfold; (try dsimp only)) | (k_end; wrow_close) | ((first | ((with_reducible show wpAny _ _ (subscriptTail _ _ _ _) _ _ _); first | (k_here; (with_reducible show wpAny _ _ (subscriptTail (PySem.Expr.Name _ _) (PySem.Expr.Name _ _) (Value.ref _) (Value.int (Nat.cast _) _)) _ _ _); (refine item_lst (by k_asm) (by k_mem) (by exact rfl) (by decide) ?_)) | (k_here; (with_reducible show wpAny _ _ (subscriptTail (PySem.Expr.Subscript (PySem.Expr.Name _ _) (PySem.Expr.Name _ _) _) (PySem.Expr.Constant _ _ _) (Value.ref _) (Value.int _ _)) _ _ _); (refine item_tup (by k_asm) (by k_mem) (by decide) (by decide) (by exact rfl) (by exact rfl) ?_)) | (k_here; (with_reducible show wpAny _ _ (subscriptTail (PySem.Expr.Subscript (PySem.Expr.Subscript _ _ _) (PySem.Expr.Constant _ _ _) _) (PySem.Expr.BinOp _ _ _ _) (Value.ref _) (Value.int (HSub.hSub _ _) _)) _ _ _); (refine item_ints (by k_asm) (by k_mem) (by with_reducible assumption) (by omega) (by omega) (by omega) ?_); intro _) | with_reducible (k_here; (with_reducible show wpAny _ _ (subscriptTail _ (PySem.Expr.Slice _ _ _ _) (Value.str _ _) (Value.ref _)) _ _ _); kxi_slice; intro _ _ _ _ _) | with_reducible (k_here; (with_reducible show wpAny _ _ (subscriptTail _ (PySem.Expr.Slice (some _) (some _) none _) (Value.ref _) (Value.ref _)) _ _ _); k_dflt (refine' sliceRun (s := ⟨_, _, _, _, _⟩) ?F ?N ?m ?x ?y ?z ?_; (case F => k_asm); (case N => k_asm); (case m => k_mem); (case z => assumption); (case x => first | decide | omega); (case y => first | decide | omega)); intro _ _ _ _ l1; (try dsimp only [AllLt] at l1); (try k_sweep)) | with_reducible (k_here; (with_reducible show wpAny _ _ (subscriptTail _ (PySem.Expr.Slice none (some _) none _) (Value.ref _) (Value.ref _)) _ _ _); k_dflt (refine' sliceUpto (s := ⟨_, _, _, _, _⟩) ?F ?N ?m ?x ?z ?_; (case F => k_asm); (case N => k_asm); (case m => k_mem); (case z => assumption); (case x => first | decide | omega)); intro _ _ _ _ l1; (try dsimp only [AllLt] at l1); (try k_sweep)) | with_reducible (k_here; (with_reducible show wpAny _ _ (subscriptTail _ (PySem.Expr.Slice (some _) none none _) (Value.ref _) (Value.ref _)) _ _ _); k_dflt (refine' sliceFrom (s := ⟨_, _, _, _, _⟩) ?F ?N ?m ?x ?z ?_; (case F => k_asm); (case N => k_asm); (case m => k_mem); (case z => first | assumption | exact Nat.le_trans (Nat.le_of_eq (by assumption)) (by decide)); (case x => first | decide | omega)); intro _ _ _ _ l1; (try dsimp only [AllLt] at l1); (try k_sweep)) | with_reducible (k_here; (with_reducible show wpAny _ _ (subscriptTail (Expr.Constant _ _ _) _ (Value.str _ _) (Value.int _ _)) _ _ _); (refine cod_tail (by assumption) ?_ (by with_unfolding_all rfl) (by intro _; with_unfolding_all rfl)))) | ((with_reducible show wpAny _ _ (call (Value.ref _) _ _) _ _ _); first | with_reducible (k_here; kn_here; (with_reducible show wpAny _ _ (call (Value.ref 72) _) _ _ _); k_dflt (refine' run_at (by k_asm) (by k_asm) (by k_asm) (by k_asm) (by k_asm) (by first | exact rfl | assumption) (by ktr_room) (by ktr_units) ?hms ?hlen ?hne ?_; (case hms => exact zs_ints_drop (by assumption) _); (case hlen => exact Nat.le_trans (Nat.le_of_eq List.length_drop) (by omega)); (case hne => (dsimp only [AllNe]; (repeat' (first | exact trivial | assumption | exact ⟨by assumption⟩ | exact ⟨Nat.ne_of_lt (by assumption)⟩ | exact ⟨by k_ne⟩ | refine And.intro ?_ ?_))))); intro _ _ _ _ _ _ _ _ _ l9 _ _; (dsimp only [AllLt] at l9); (try k_sweep); (try k_fold)) | with_reducible (k_here; kn_here; (with_reducible show wpAny _ _ (call (Value.ref 79) _) _ _ _); k_dflt (refine nought_ok (by k_asm) (by k_asm) (by k_asm) (by k_asm) (by k_asm) (by first | exact rfl | assumption) (by ktr_room) (by ktr_units) ?_); intro _ _ _ _ _; (try k_fold))) | ((with_reducible show LCg.CompSrc _ _ _ _ _ _ _ _ _ _ _ _ _ _); with_reducible (k_here; (fail_if_success (fail_if_success (rename IsRange _ _ _ _ _ _ _ _ => rgX))); k_dflt (refine LCg.CompSrc.range (by rfl) (by k_asm) (by k_asm) (by assumption) (by first | decide | rfl) (by first | rfl | decide) (by first | size_fits | exact Nat.le_of_ble_eq_true rfl) ?_; intro _; lcg_lit))) | ((with_reducible show wpAny _ _ (eval (Expr.ListComp _ _ _ _) _) _ _ _); with_reducible (k_here; (with_reducible show wpAny _ _ (eval (Expr.ListComp (Expr.Subscript (Expr.Constant _ _ _) _ _) _ _ _) _) _ _ _); lcg_calm; k_dflt (refine LCg.ListComp_U (F₀ := by k_asm) (by with_unfolding_all rfl) (by decide) (by rfl) (by decide) (by rfl) ?_); k_dflt lcg_toSrc)) | walk1); (all_goals ((try ((fail_if_success (fail_if_success (with_reducible rename (_ ∧ _) => hx9))); refine viaR ?_; intro R9 k9; (repeat (first | ((with_reducible rename (_ ∧ _ ∧ _ ∧ _ ∧ _ ∧ _ ∧ _ ∧ _) => hx9); refine and8 hx9 ?_; clear hx9; intro _ _ _ _ _ _ _ _) | ((with_reducible rename (_ ∧ _ ∧ _ ∧ _) => hx9); refine and4 hx9 ?_; clear hx9; intro _ _ _ _) | ((with_reducible rename (_ ∧ _) => hx9); refine and2 hx9 ?_; clear hx9; intro _ _) | ((with_reducible rename True => hx9); clear hx9))); refine k9 ?_; clear k9 R9)); repeat ((with_reducible rename (@Ne Nat _ _) => hx9); (have hx8 := apart_of hx9); clear hx9)))) | (dsimp only; walk1) | (leave1; try dsimp only))
    (rename Fr _ _ _ _ => Fx); (rename News _ _ _ _ => Nx); (rename _ = Data.cell (some _) => dx)
    refine ofGenC hRR1 ?_
    refine cutEnd ⟨_, _, _, _, _, _, _, _, _, _, _, _, _, _, _, _, _, _, _, _, _, _⟩ Fx Nx (by exact fmem (List.Mem.head _) (fmem (List.Mem.tail _ (List.Mem.head _)) (fmem (List.Mem.tail _ (List.Mem.tail _ (List.Mem.head _))) (fmem (List.Mem.tail _ (List.Mem.tail _ (List.Mem.tail _ (List.Mem.head _)))) (fmem (List.Mem.tail _ (List.Mem.tail _ (List.Mem.tail _ (List.Mem.tail _ (List.Mem.head _))))) (fmem (List.Mem.tail _ (List.Mem.tail _ (List.Mem.tail _ (List.Mem.tail _ (List.Mem.tail _ (List.Mem.head _)))))) (fmem (List.Mem.tail _ (List.Mem.tail _ (List.Mem.tail _ (List.Mem.tail _ (List.Mem.tail _ (List.Mem.tail _ (List.Mem.head _))))))) (fmem (List.Mem.tail _ (List.Mem.tail _ (List.Mem.tail _ (List.Mem.tail _ (List.Mem.tail _ (List.Mem.tail _ (List.Mem.tail _ (List.Mem.head _)))))))) (fmem (List.Mem.tail _ (List.Mem.tail _ (List.Mem.tail _ (List.Mem.tail _ (List.Mem.tail _ (List.Mem.tail _ (List.Mem.tail _ (List.Mem.tail _ (List.Mem.head _))))))))) (fun p hp => List.Mem.tail _ (List.Mem.tail _ (List.Mem.tail _ (List.Mem.tail _ (List.Mem.tail _ (List.Mem.tail _ (List.Mem.tail _ (List.Mem.tail _ (List.Mem.tail _ (List.Mem.tail _ hp))))))))))))))))))) (fun p hp => nomatch hp) (by intro z h2 h3; simp only [kstB, h3, Bool.false_eq_true, if_false]) ⟨dx, ⟨by assumption, by assumption, by assumption, by assumption⟩, ?_⟩
    (try ((fail_if_success (fail_if_success (with_reducible rename (_ ∧ _) => hx9))); refine viaR ?_; intro R9 k9; (repeat (first | ((with_reducible rename (_ ∧ _ ∧ _ ∧ _ ∧ _ ∧ _ ∧ _ ∧ _) => hx9); refine and8 hx9 ?_; clear hx9; intro _ _ _ _ _ _ _ _) | ((with_reducible rename (_ ∧ _ ∧ _ ∧ _) => hx9); refine and4 hx9 ?_; clear hx9; intro _ _ _ _) | ((with_reducible rename (_ ∧ _) => hx9); refine and2 hx9 ?_; clear hx9; intro _ _) | ((with_reducible rename True => hx9); clear hx9))); refine k9 ?_; clear k9 R9))
    dsimp only [AllNe]
    (repeat' (first | exact trivial | assumption | exact ⟨by assumption⟩ | exact ⟨Nat.ne_of_lt (by assumption)⟩ | exact ⟨by k_ne⟩ | refine And.intro ?_ ?_))
  case h2 =>
  refine allRuns ?_; intro aR u3 c3 u2 c2 u1 c1 u0 c0 t3r t2r t1r t0r v3 v2 v1 v0 k3r k2r k1r k0r oR2 ux hx tkx hP Fx Nx
  have dR2 := hP.1; have hv0 := hP.2.1.1; have hv1 := hP.2.1.2.1; have hv2 := hP.2.1.2.2.1; have hv3 := hP.2.1.2.2.2; have hn4 := hP.2.2.1; have hn81 := hP.2.2.2.1; have hn2 := hP.2.2.2.2.1; have hn30 := hP.2.2.2.2.2; clear hP
  dsimp only at dR2 hv0 hv1 hv2 hv3 hn4 hn81 hn2 hn30 Fx Nx
  clear N9 hms
  refine exE (fr_base (ps := [(Str.ofString "short", .str (S [cod w0, cod w1, cod w2]) t8), (Str.ofString "row", .str (S [cod o0, cod o1, cod o2, cod o3]) t9)]) Fx (by kst_all)) ?_; intro U5 Fy
  clear Fx F9 hneW hneO ap0 ap1 ap3 ap10 ap14 hvsl
  repeat' ((fail_if_success (with_reducible show wpAny _ _ (exec (Stmt.While _ _ _ _) _) _ _ _)); (fail_if_success (with_reducible show wpAny _ _ (exec (Stmt.For _ _ _ _ _) _) _ _ _)); (fail_if_success (with_reducible show KswEnd _ _ _ _ _ _ _ _ _ _ _ _)); (fail_if_success (with_reducible show FcEnd _ _ _ _ _ _ _ _ _ _)); (fail_if_success (with_reducible show CutEnd _ _ _ _ _ _ _ _ _)); first | (k_unfold; (try dsimp only)) | (k_end; wrow_close) | ((with_reducible show wpAny _ _ (subscriptTail _ _ _ _) _ _ _); first | (k_here; (with_reducible show wpAny _ _ (subscriptTail (PySem.Expr.Name _ _) (PySem.Expr.Name _ _) (Value.ref _) (Value.int (Nat.cast _) _)) _ _ _); (refine item_lst (by k_asm) (by k_mem) (by exact rfl) (by decide) ?_)) | (k_here; (with_reducible show wpAny _ _ (subscriptTail (PySem.Expr.Subscript (PySem.Expr.Name _ _) (PySem.Expr.Name _ _) _) (PySem.Expr.Constant _ _ _) (Value.ref _) (Value.int _ _)) _ _ _); (refine item_tup (by k_asm) (by k_mem) (by decide) (by decide) (by exact rfl) (by exact rfl) ?_)) | (k_here; (with_reducible show wpAny _ _ (subscriptTail (PySem.Expr.Subscript (PySem.Expr.Subscript _ _ _) (PySem.Expr.Constant _ _ _) _) (PySem.Expr.BinOp _ _ _ _) (Value.ref _) (Value.int (HSub.hSub _ _) _)) _ _ _); (refine item_ints (by k_asm) (by k_mem) (by with_reducible assumption) (by omega) (by omega) (by omega) ?_); intro _) | with_reducible (k_here; (with_reducible show wpAny _ _ (subscriptTail _ (PySem.Expr.Slice _ _ _ _) (Value.str _ _) (Value.ref _)) _ _ _); kxi_slice; intro _ _ _ _ _) | with_reducible (k_here; (with_reducible show wpAny _ _ (subscriptTail _ (PySem.Expr.Slice (some _) (some _) none _) (Value.ref _) (Value.ref _)) _ _ _); k_dflt (refine' sliceRun (s := ⟨_, _, _, _, _⟩) ?F ?N ?m ?x ?y ?z ?_; (case F => k_asm); (case N => k_asm); (case m => k_mem); (case z => assumption); (case x => first | decide | omega); (case y => first | decide | omega)); intro _ _ _ _ l1; (try dsimp only [AllLt] at l1); (try k_sweep)) | with_reducible (k_here; (with_reducible show wpAny _ _ (subscriptTail _ (PySem.Expr.Slice none (some _) none _) (Value.ref _) (Value.ref _)) _ _ _); k_dflt (refine' sliceUpto (s := ⟨_, _, _, _, _⟩) ?F ?N ?m ?x ?z ?_; (case F => k_asm); (case N => k_asm); (case m => k_mem); (case z => assumption); (case x => first | decide | omega)); intro _ _ _ _ l1; (try dsimp only [AllLt] at l1); (try k_sweep)) | with_reducible (k_here; (with_reducible show wpAny _ _ (subscriptTail _ (PySem.Expr.Slice (some _) none none _) (Value.ref _) (Value.ref _)) _ _ _); k_dflt (refine' sliceFrom (s := ⟨_, _, _, _, _⟩) ?F ?N ?m ?x ?z ?_; (case F => k_asm); (case N => k_asm); (case m => k_mem); (case z => first | assumption | exact Nat.le_trans (Nat.le_of_eq (by assumption)) (by decide)); (case x => first | decide | omega)); intro _ _ _ _ l1; (try dsimp only [AllLt] at l1); (try k_sweep)) | with_reducible (k_here; (with_reducible show wpAny _ _ (subscriptTail (Expr.Constant _ _ _) _ (Value.str _ _) (Value.int _ _)) _ _ _); (refine cod_tail (by assumption) ?_ (by with_unfolding_all rfl) (by intro _; with_unfolding_all rfl)))) | walk1 | (dsimp only; walk1) | (leave1; try dsimp only))
  rename_i aF _ _ _ lF _ Fz Nz
  with_unfolding_all refine' For_turns Fz ?_
  k_whole
  repeat' ((fail_if_success (with_reducible show wpAny _ _ (pyIter _) _ _ _)); (fail_if_success (with_reducible show KswEnd _ _ _ _ _ _ _ _ _ _ _ _)); (fail_if_success (with_reducible show FcEnd _ _ _ _ _ _ _ _ _ _)); (fail_if_success (with_reducible show CutEnd _ _ _ _ _ _ _ _ _)); first | (k_unfold; (try dsimp only)) | (k_end; wrow_close) | ((with_reducible show wpAny _ _ (subscriptTail _ _ _ _) _ _ _); first | (k_here; (with_reducible show wpAny _ _ (subscriptTail (PySem.Expr.Name _ _) (PySem.Expr.Name _ _) (Value.ref _) (Value.int (Nat.cast _) _)) _ _ _); (refine item_lst (by k_asm) (by k_mem) (by exact rfl) (by decide) ?_)) | (k_here; (with_reducible show wpAny _ _ (subscriptTail (PySem.Expr.Subscript (PySem.Expr.Name _ _) (PySem.Expr.Name _ _) _) (PySem.Expr.Constant _ _ _) (Value.ref _) (Value.int _ _)) _ _ _); (refine item_tup (by k_asm) (by k_mem) (by decide) (by decide) (by exact rfl) (by exact rfl) ?_)) | (k_here; (with_reducible show wpAny _ _ (subscriptTail (PySem.Expr.Subscript (PySem.Expr.Subscript _ _ _) (PySem.Expr.Constant _ _ _) _) (PySem.Expr.BinOp _ _ _ _) (Value.ref _) (Value.int (HSub.hSub _ _) _)) _ _ _); (refine item_ints (by k_asm) (by k_mem) (by with_reducible assumption) (by omega) (by omega) (by omega) ?_); intro _) | with_reducible (k_here; (with_reducible show wpAny _ _ (subscriptTail _ (PySem.Expr.Slice _ _ _ _) (Value.str _ _) (Value.ref _)) _ _ _); kxi_slice; intro _ _ _ _ _) | with_reducible (k_here; (with_reducible show wpAny _ _ (subscriptTail _ (PySem.Expr.Slice (some _) (some _) none _) (Value.ref _) (Value.ref _)) _ _ _); k_dflt (refine' sliceRun (s := ⟨_, _, _, _, _⟩) ?F ?N ?m ?x ?y ?z ?_; (case F => k_asm); (case N => k_asm); (case m => k_mem); (case z => assumption); (case x => first | decide | omega); (case y => first | decide | omega)); intro _ _ _ _ l1; (try dsimp only [AllLt] at l1); (try k_sweep)) | with_reducible (k_here; (with_reducible show wpAny _ _ (subscriptTail _ (PySem.Expr.Slice none (some _) none _) (Value.ref _) (Value.ref _)) _ _ _); k_dflt (refine' sliceUpto (s := ⟨_, _, _, _, _⟩) ?F ?N ?m ?x ?z ?_; (case F => k_asm); (case N => k_asm); (case m => k_mem); (case z => assumption); (case x => first | decide | omega)); intro _ _ _ _ l1; (try dsimp only [AllLt] at l1); (try k_sweep)) | with_reducible (k_here; (with_reducible show wpAny _ _ (subscriptTail _ (PySem.Expr.Slice (some _) none none _) (Value.ref _) (Value.ref _)) _ _ _); k_dflt (refine' sliceFrom (s := ⟨_, _, _, _, _⟩) ?F ?N ?m ?x ?z ?_; (case F => k_asm); (case N => k_asm); (case m => k_mem); (case z => first | assumption | exact Nat.le_trans (Nat.le_of_eq (by assumption)) (by decide)); (case x => first | decide | omega)); intro _ _ _ _ l1; (try dsimp only [AllLt] at l1); (try k_sweep)) | with_reducible (k_here; (with_reducible show wpAny _ _ (subscriptTail (Expr.Constant _ _ _) _ (Value.str _ _) (Value.int _ _)) _ _ _); (refine cod_tail (by assumption) ?_ (by with_unfolding_all rfl) (by intro _; with_unfolding_all rfl)))) | walk1 | (dsimp only; walk1) | (leave1; try dsimp only))
  (rename Fr _ _ _ _ => Fz); (rename News _ _ _ _ => Nz)
  have Nc := cb_drop (news := (aF, listOf #[] 0) :: (s1.heap.objs.size + 1 + 1 + 1 + 1, oS) :: (tabL 81 145 48 none ++ ((aR, LCg.lst [.ref u0, .ref u1, .ref u2, .ref u3]) :: (u3, tupOf #[.int (stN ms 3 : Nat) t3r, .ref c3]) :: (c3, listOf v3.toArray k3r) :: (u2, tupOf #[.int (stN ms 2 : Nat) t2r, .ref c2]) :: (c2, listOf v2.toArray k2r) :: (u1, tupOf #[.int (stN ms 1 : Nat) t1r, .ref c1]) :: (c1, listOf v1.toArray k1r) :: (u0, tupOf #[.int (stN ms 0 : Nat) t0r, .ref c0]) :: (c0, listOf v0.toArray k0r) :: [(s1.heap.objs.size + 1 + 1 + 1, oR2), (s1.heap.objs.size + 1 + 1, oT), (30, tabObj #[]), (37, tabObj ps37)]))) Nz (by exact fmem (by k_mem) (fmem (by k_mem) (fmem (by k_mem) (by (repeat (first | exact List.forall_mem_nil _ | refine fmem (by k_mem) ?_))))))
  refine' rangeTurns (σ := (List Value × List Nat × Nat) × (Option (Addr × Obj)) × (Obj × Option Value)) 16 (fun c => (aF, listOf c.1.1.toArray c.1.2.2) :: (s1.heap.objs.size + 1 + 1 + 1 + 1, c.2.2.1) :: (tabL 81 145 48 c.2.1 ++ ((aR, LCg.lst [.ref u0, .ref u1, .ref u2, .ref u3]) :: (u3, tupOf #[.int (stN ms 3 : Nat) t3r, .ref c3]) :: (c3, listOf v3.toArray k3r) :: (u2, tupOf #[.int (stN ms 2 : Nat) t2r, .ref c2]) :: (c2, listOf v2.toArray k2r) :: (u1, tupOf #[.int (stN ms 1 : Nat) t1r, .ref c1]) :: (c1, listOf v1.toArray k1r) :: (u0, tupOf #[.int (stN ms 0 : Nat) t0r, .ref c0]) :: (c0, listOf v0.toArray k0r) :: [(s1.heap.objs.size + 1 + 1 + 1, oR2), (s1.heap.objs.size + 1 + 1, oT), (30, tabObj #[]), (37, tabObj ps37)]))) (fun _ => []) [Str.ofString "starts"] (fun i c => IntsAre c.1.1 (zs c.1.2.1) ∧ c.1.2.1 = (List.range i).map (firstN ms) ∧ c.2.2.1.data = Data.cell c.2.2.2 ∧ TabOkS ((Str.ofString "law" ++ Str.ofString ".<locals>.") ++ Str.ofString "<lambda>") ((aF, listOf #[] 0) :: (s1.heap.objs.size + 1 + 1 + 1 + 1, oS) :: (81, tabObj #[]) :: ((aR, LCg.lst [.ref u0, .ref u1, .ref u2, .ref u3]) :: (u3, tupOf #[.int (stN ms 3 : Nat) t3r, .ref c3]) :: (c3, listOf v3.toArray k3r) :: (u2, tupOf #[.int (stN ms 2 : Nat) t2r, .ref c2]) :: (c2, listOf v2.toArray k2r) :: (u1, tupOf #[.int (stN ms 1 : Nat) t1r, .ref c1]) :: (c1, listOf v1.toArray k1r) :: (u0, tupOf #[.int (stN ms 0 : Nat) t0r, .ref c0]) :: (c0, listOf v0.toArray k0r) :: [(s1.heap.objs.size + 1 + 1 + 1, oR2), (s1.heap.objs.size + 1 + 1, oT), (30, tabObj #[]), (37, tabObj ps37)])) c.2.1) (([], [], 0), none, (oS, none)) rfl (by assumption) (by decide) (by decide) Fz Nc ?hk ?hp ?turn ?done
  case hk => intro p hp; cases hp
  case hp => exact ⟨.nil, rfl, dS, trivial⟩
  case turn =>
    intro i t; refine all_3_1_1_1 ?_; intro fs ns kf tb oS2 vS u h tk own hi hP hoff F8 N8
    refine turnGen ?_; intro RR1 hRR1
    have hP1 := hP.1; have hP2 := hP.2.1; have hP3 := hP.2.2.1; have hP4 := hP.2.2.2; clear hP
    dsimp only at hP1 hP2 hP3 F8 N8 hoff
    clear Nc Nz Fz
    dsimp only [AllNe] at hn4 hn81
    cases tb with
    | none =>
      clear hP4
      dsimp only [tabL, List.cons_append, List.nil_append] at N8 hoff
      have hfl : fs.length = i := by rw [hP1.length, zs_len, hP2, List.length_map, List.length_range]
      repeat' ((fail_if_success (with_reducible show wpAny _ _ (call (Value.type "list") _) _ _ _)); (fail_if_success (with_reducible show KswEnd _ _ _ _ _ _ _ _ _ _ _ _)); (fail_if_success (with_reducible show FcEnd _ _ _ _ _ _ _ _ _ _)); (fail_if_success (with_reducible show CutEnd _ _ _ _ _ _ _ _ _)); first | (k_unfold; (try dsimp only)) | (k_end; wrow_close) | ((first | ((with_reducible show wpAny _ _ (subscriptTail _ _ _ _) _ _ _); first | (k_here; (with_reducible show wpAny _ _ (subscriptTail (PySem.Expr.Name _ _) (PySem.Expr.Name _ _) (Value.ref _) (Value.int (Nat.cast _) _)) _ _ _); (refine item_lst (by k_asm) (by k_mem) (by exact rfl) (by decide) ?_)) | (k_here; (with_reducible show wpAny _ _ (subscriptTail (PySem.Expr.Subscript (PySem.Expr.Name _ _) (PySem.Expr.Name _ _) _) (PySem.Expr.Constant _ _ _) (Value.ref _) (Value.int _ _)) _ _ _); (refine item_tup (by k_asm) (by k_mem) (by decide) (by decide) (by exact rfl) (by exact rfl) ?_)) | (k_here; (with_reducible show wpAny _ _ (subscriptTail (PySem.Expr.Subscript (PySem.Expr.Subscript _ _ _) (PySem.Expr.Constant _ _ _) _) (PySem.Expr.BinOp _ _ _ _) (Value.ref _) (Value.int (HSub.hSub _ _) _)) _ _ _); (refine item_ints (by k_asm) (by k_mem) (by with_reducible assumption) (by omega) (by omega) (by omega) ?_); intro _) | with_reducible (k_here; (with_reducible show wpAny _ _ (subscriptTail _ (PySem.Expr.Slice _ _ _ _) (Value.str _ _) (Value.ref _)) _ _ _); kxi_slice; intro _ _ _ _ _) | with_reducible (k_here; (with_reducible show wpAny _ _ (subscriptTail _ (PySem.Expr.Slice (some _) (some _) none _) (Value.ref _) (Value.ref _)) _ _ _); k_dflt (refine' sliceRun (s := ⟨_, _, _, _, _⟩) ?F ?N ?m ?x ?y ?z ?_; (case F => k_asm); (case N => k_asm); (case m => k_mem); (case z => assumption); (case x => first | decide | omega); (case y => first | decide | omega)); intro _ _ _ _ l1; (try dsimp only [AllLt] at l1); (try k_sweep)) | with_reducible (k_here; (with_reducible show wpAny _ _ (subscriptTail _ (PySem.Expr.Slice none (some _) none _) (Value.ref _) (Value.ref _)) _ _ _); k_dflt (refine' sliceUpto (s := ⟨_, _, _, _, _⟩) ?F ?N ?m ?x ?z ?_; (case F => k_asm); (case N => k_asm); (case m => k_mem); (case z => assumption); (case x => first | decide | omega)); intro _ _ _ _ l1; (try dsimp only [AllLt] at l1); (try k_sweep)) | with_reducible (k_here; (with_reducible show wpAny _ _ (subscriptTail _ (PySem.Expr.Slice (some _) none none _) (Value.ref _) (Value.ref _)) _ _ _); k_dflt (refine' sliceFrom (s := ⟨_, _, _, _, _⟩) ?F ?N ?m ?x ?z ?_; (case F => k_asm); (case N => k_asm); (case m => k_mem); (case z => first | assumption | exact Nat.le_trans (Nat.le_of_eq (by assumption)) (by decide)); (case x => first | decide | omega)); intro _ _ _ _ l1; (try dsimp only [AllLt] at l1); (try k_sweep)) | with_reducible (k_here; (with_reducible show wpAny _ _ (subscriptTail (Expr.Constant _ _ _) _ (Value.str _ _) (Value.int _ _)) _ _ _); (refine cod_tail (by assumption) ?_ (by with_unfolding_all rfl) (by intro _; with_unfolding_all rfl)))) | walk1); (all_goals ((try ((fail_if_success (fail_if_success (with_reducible rename (_ ∧ _) => hx9))); refine viaR ?_; intro R9 k9; (repeat (first | ((with_reducible rename (_ ∧ _ ∧ _ ∧ _ ∧ _ ∧ _ ∧ _ ∧ _) => hx9); refine and8 hx9 ?_; clear hx9; intro _ _ _ _ _ _ _ _) | ((with_reducible rename (_ ∧ _ ∧ _ ∧ _) => hx9); refine and4 hx9 ?_; clear hx9; intro _ _ _ _) | ((with_reducible rename (_ ∧ _) => hx9); refine and2 hx9 ?_; clear hx9; intro _ _) | ((with_reducible rename True => hx9); clear hx9))); refine k9 ?_; clear k9 R9)); repeat ((with_reducible rename (@Ne Nat _ _) => hx9); (have hx8 := apart_of hx9); clear hx9)))) | (dsimp only; walk1) | (leave1; try dsimp only))
      (rename IsRange _ _ _ _ _ _ _ _ => rgX); (rename Fr _ _ _ _ => F9); (rename News _ _ _ _ => N9)
      have e1 : ((0 : Int) + (i : Int)).fdiv 4 + 1 = ((i / 4 + 1 : Nat) : Int) := by rw [Int.zero_add, Int.fdiv_eq_ediv_of_nonneg _ (by decide)]; omega
      rw [e1] at rgX
      refine list_range_K (n := i / 4 + 1) rfl F9 N9 rgX (small_one (by omega) (by omega) (by omega) (by omega)) (by rw [rangeSize_nat]; omega) (by omega) ?_
      intro aL hL tkL ys kL FL NL lL hys
      have lL2 := allLt_is lL
      dsimp only [AllLt] at lL2
      clear lL
      repeat' ((fail_if_success (with_reducible show wpAny _ _ (call (Value.ref 60) _ _) _ _ _)); (fail_if_success (with_reducible show KswEnd _ _ _ _ _ _ _ _ _ _ _ _)); (fail_if_success (with_reducible show FcEnd _ _ _ _ _ _ _ _ _ _)); (fail_if_success (with_reducible show CutEnd _ _ _ _ _ _ _ _ _)); first | (k_unfold; (try dsimp only)) | (k_end; wrow_close) | ((first | ((with_reducible show wpAny _ _ (subscriptTail _ _ _ _) _ _ _); first | (k_here; (with_reducible show wpAny _ _ (subscriptTail (PySem.Expr.Name _ _) (PySem.Expr.Name _ _) (Value.ref _) (Value.int (Nat.cast _) _)) _ _ _); (refine item_lst (by k_asm) (by k_mem) (by exact rfl) (by decide) ?_)) | (k_here; (with_reducible show wpAny _ _ (subscriptTail (PySem.Expr.Subscript (PySem.Expr.Name _ _) (PySem.Expr.Name _ _) _) (PySem.Expr.Constant _ _ _) (Value.ref _) (Value.int _ _)) _ _ _); (refine item_tup (by k_asm) (by k_mem) (by decide) (by decide) (by exact rfl) (by exact rfl) ?_)) | (k_here; (with_reducible show wpAny _ _ (subscriptTail (PySem.Expr.Subscript (PySem.Expr.Subscript _ _ _) (PySem.Expr.Constant _ _ _) _) (PySem.Expr.BinOp _ _ _ _) (Value.ref _) (Value.int (HSub.hSub _ _) _)) _ _ _); (refine item_ints (by k_asm) (by k_mem) (by with_reducible assumption) (by omega) (by omega) (by omega) ?_); intro _) | with_reducible (k_here; (with_reducible show wpAny _ _ (subscriptTail _ (PySem.Expr.Slice _ _ _ _) (Value.str _ _) (Value.ref _)) _ _ _); kxi_slice; intro _ _ _ _ _) | with_reducible (k_here; (with_reducible show wpAny _ _ (subscriptTail _ (PySem.Expr.Slice (some _) (some _) none _) (Value.ref _) (Value.ref _)) _ _ _); k_dflt (refine' sliceRun (s := ⟨_, _, _, _, _⟩) ?F ?N ?m ?x ?y ?z ?_; (case F => k_asm); (case N => k_asm); (case m => k_mem); (case z => assumption); (case x => first | decide | omega); (case y => first | decide | omega)); intro _ _ _ _ l1; (try dsimp only [AllLt] at l1); (try k_sweep)) | with_reducible (k_here; (with_reducible show wpAny _ _ (subscriptTail _ (PySem.Expr.Slice none (some _) none _) (Value.ref _) (Value.ref _)) _ _ _); k_dflt (refine' sliceUpto (s := ⟨_, _, _, _, _⟩) ?F ?N ?m ?x ?z ?_; (case F => k_asm); (case N => k_asm); (case m => k_mem); (case z => assumption); (case x => first | decide | omega)); intro _ _ _ _ l1; (try dsimp only [AllLt] at l1); (try k_sweep)) | with_reducible (k_here; (with_reducible show wpAny _ _ (subscriptTail _ (PySem.Expr.Slice (some _) none none _) (Value.ref _) (Value.ref _)) _ _ _); k_dflt (refine' sliceFrom (s := ⟨_, _, _, _, _⟩) ?F ?N ?m ?x ?z ?_; (case F => k_asm); (case N => k_asm); (case m => k_mem); (case z => first | assumption | exact Nat.le_trans (Nat.le_of_eq (by assumption)) (by decide)); (case x => first | decide | omega)); intro _ _ _ _ l1; (try dsimp only [AllLt] at l1); (try k_sweep)) | with_reducible (k_here; (with_reducible show wpAny _ _ (subscriptTail (Expr.Constant _ _ _) _ (Value.str _ _) (Value.int _ _)) _ _ _); (refine cod_tail (by assumption) ?_ (by with_unfolding_all rfl) (by intro _; with_unfolding_all rfl)))) | walk1); (all_goals ((try ((fail_if_success (fail_if_success (with_reducible rename (_ ∧ _) => hx9))); refine viaR ?_; intro R9 k9; (repeat (first | ((with_reducible rename (_ ∧ _ ∧ _ ∧ _ ∧ _ ∧ _ ∧ _ ∧ _) => hx9); refine and8 hx9 ?_; clear hx9; intro _ _ _ _ _ _ _ _) | ((with_reducible rename (_ ∧ _ ∧ _ ∧ _) => hx9); refine and4 hx9 ?_; clear hx9; intro _ _ _ _) | ((with_reducible rename (_ ∧ _) => hx9); refine and2 hx9 ?_; clear hx9; intro _ _) | ((with_reducible rename True => hx9); clear hx9))); refine k9 ?_; clear k9 R9)); repeat ((with_reducible rename (@Ne Nat _ _) => hx9); (have hx8 := apart_of hx9); clear hx9)))) | (dsimp only; walk1) | (leave1; try dsimp only))
      (rename Fr _ _ _ _ => F9); (rename News _ _ _ _ => N9)
      rename_i f9 c9 oc9 fv9 tq9 ct9 h9x tk9x d19 d29 l29 m1 m2 m3 m4 m5 m6 m7 m8 m9 m10 m11 m12 m13 m14 m15 m16 m17 m18
      have hys' : IntsAre ys (zs (List.range (i / 4 + 1))) := by simpa [zs] using hys
      (rename _ = Data.cell (some (Value.int _ _)) => dS9)
      rw [Int.zero_add] at dS9
      show wpAny _ _ (call (Value.ref 60) [Value.ref aL, Value.int 1 _] [(Str.ofString "key", Value.ref _)]) _ _ _
      refine' bisl_ok (l := aL) (P := (_, _) :: (c9, oc9) :: (s1.heap.objs.size + 1 + 1 + 1 + 1, _) :: (s1.heap.objs.size + 1 + 1 + 1, oR2) :: (aR, LCg.lst [.ref u0, .ref u1, .ref u2, .ref u3]) :: (u3, tupOf #[.int (stN ms 3 : Nat) t3r, .ref c3]) :: (c3, listOf v3.toArray k3r) :: (u2, tupOf #[.int (stN ms 2 : Nat) t2r, .ref c2]) :: (c2, listOf v2.toArray k2r) :: (u1, tupOf #[.int (stN ms 1 : Nat) t1r, .ref c1]) :: (c1, listOf v1.toArray k1r) :: (u0, tupOf #[.int (stN ms 0 : Nat) t0r, .ref c0]) :: (c0, listOf v0.toArray k0r) :: []) (n := i / 4 + 1) (r := firstN ms i) (key := bitN ms i) (by k_asm) (by k_asm) (by k_asm) (by k_asm) (by k_asm) (by first | exact rfl | assumption) (by ktr_room) (by ktr_units) (isListOf N9 (by k_mem)) hys' ?hlP ?hP (by omega) (firstN_le ms i) (fun k hk => hfok.lo i k hi hk) (fun k hk hk2 => hfok.hi i k hi hk hk2) (List.Mem.head _) ?hkey ?_
      case hP => exact fmem (by k_mem) (fmem (by k_mem) (by (repeat (first | exact List.forall_mem_nil _ | refine fmem (by k_mem) ?_))))
      case hlP =>
        simp only [List.map_cons, List.map_nil, List.mem_cons, List.not_mem_nil, or_false, not_or]
        (repeat' (first | k_ne | refine And.intro ?_ ?_))
      case hkey =>
        intro dp un gd cn cs a ccd cl outer A₀ base h₀ L m s Q E k tk hkn B F X N T hk hdp hun ret
        clear F9 N9 F8 N8 hoff
        have hik : i < 16 ∧ k < i / 4 + 1 := ⟨hi, hkn⟩
        have hroom9 : dp + 3 < recursionLimit ∧ un + 24 < cLine := ⟨hdp, hun⟩
        (repeat ((with_reducible rename (@LT.lt Nat _ _ _) => hx9); clear hx9)); (repeat ((with_reducible rename (Apart _ _) => hx9); clear hx9)); (repeat ((with_reducible rename (AllLt _ _) => hx9); clear hx9))
        have hdp := hroom9.1; have hun := hroom9.2; clear hroom9
        have l0 : (zs (caN ms 0)).length = 16 := by rw [zs_len, caN_len, hmsl]
        have l1 : (zs (caN ms 1)).length = 12 := by rw [zs_len, caN_len, hmsl]
        have l2 : (zs (caN ms 2)).length = 8 := by rw [zs_len, caN_len, hmsl]
        have l3 : (zs (caN ms 3)).length = 4 := by rw [zs_len, caN_len, hmsl]
        have hk4 : k < 4 := by omega
        rcases (show k = 0 ∨ k = 1 ∨ k = 2 ∨ k = 3 by omega) with rfl | rfl | rfl | rfl
        · (refine wpAny_call ?_; refine' kla_code ?k1 ?k2 ?k3 ?k4 ?k5 ?kA ?kF ?kK ?k6 ?k7 ?k8 ?k9 ?kB ?_ ?c2 ?c3 ?c4 ?c5; (case kA => exact rfl); (case kF => exact rfl); (case kK => assumption); (case k1 => k_asm); (case k2 => k_asm); (case k3 => k_asm); (case k4 => k_asm); (case k5 => k_asm); (case k6 => k_mem); (case k7 => exact codeRec_news (by k_asm) (by k_mem) (by assumption) (by assumption)); (case k8 => k_room); (case k9 => exact rfl); (case c5 => decide); (case kB => exact locs rfl); (case c2 => exact rfl); (case c3 => exact rfl); (case c4 => exact rfl); k_whole; intro g' L' h' FG' F' N' B' X' T'; (try dsimp only); (try k_lift B'); (try k_fold))
          repeat' ((fail_if_success (with_reducible show wpAny _ _ (exec (Stmt.While _ _ _ _) _) _ _ _)); (fail_if_success (with_reducible show wpAny _ _ (exec (Stmt.For _ _ _ _ _) _) _ _ _)); (fail_if_success (with_reducible show KswEnd _ _ _ _ _ _ _ _ _ _ _ _)); (fail_if_success (with_reducible show FcEnd _ _ _ _ _ _ _ _ _ _)); (fail_if_success (with_reducible show CutEnd _ _ _ _ _ _ _ _ _)); first | (k_unfold; (try dsimp only)) | (k_end; wrow_close) | ((with_reducible show wpAny _ _ (subscriptTail _ _ _ _) _ _ _); first | (k_here; (with_reducible show wpAny _ _ (subscriptTail (PySem.Expr.Name _ _) (PySem.Expr.Name _ _) (Value.ref _) (Value.int (Nat.cast _) _)) _ _ _); (refine item_lst (by k_asm) (by k_mem) (by exact rfl) (by decide) ?_)) | (k_here; (with_reducible show wpAny _ _ (subscriptTail (PySem.Expr.Subscript (PySem.Expr.Name _ _) (PySem.Expr.Name _ _) _) (PySem.Expr.Constant _ _ _) (Value.ref _) (Value.int _ _)) _ _ _); (refine item_tup (by k_asm) (by k_mem) (by decide) (by decide) (by exact rfl) (by exact rfl) ?_)) | (k_here; (with_reducible show wpAny _ _ (subscriptTail (PySem.Expr.Subscript (PySem.Expr.Subscript _ _ _) (PySem.Expr.Constant _ _ _) _) (PySem.Expr.BinOp _ _ _ _) (Value.ref _) (Value.int (HSub.hSub _ _) _)) _ _ _); (refine item_ints (by k_asm) (by k_mem) (by with_reducible assumption) (by omega) (by omega) (by omega) ?_); intro _) | with_reducible (k_here; (with_reducible show wpAny _ _ (subscriptTail _ (PySem.Expr.Slice _ _ _ _) (Value.str _ _) (Value.ref _)) _ _ _); kxi_slice; intro _ _ _ _ _) | with_reducible (k_here; (with_reducible show wpAny _ _ (subscriptTail _ (PySem.Expr.Slice (some _) (some _) none _) (Value.ref _) (Value.ref _)) _ _ _); k_dflt (refine' sliceRun (s := ⟨_, _, _, _, _⟩) ?F ?N ?m ?x ?y ?z ?_; (case F => k_asm); (case N => k_asm); (case m => k_mem); (case z => assumption); (case x => first | decide | omega); (case y => first | decide | omega)); intro _ _ _ _ l1; (try dsimp only [AllLt] at l1); (try k_sweep)) | with_reducible (k_here; (with_reducible show wpAny _ _ (subscriptTail _ (PySem.Expr.Slice none (some _) none _) (Value.ref _) (Value.ref _)) _ _ _); k_dflt (refine' sliceUpto (s := ⟨_, _, _, _, _⟩) ?F ?N ?m ?x ?z ?_; (case F => k_asm); (case N => k_asm); (case m => k_mem); (case z => assumption); (case x => first | decide | omega)); intro _ _ _ _ l1; (try dsimp only [AllLt] at l1); (try k_sweep)) | with_reducible (k_here; (with_reducible show wpAny _ _ (subscriptTail _ (PySem.Expr.Slice (some _) none none _) (Value.ref _) (Value.ref _)) _ _ _); k_dflt (refine' sliceFrom (s := ⟨_, _, _, _, _⟩) ?F ?N ?m ?x ?z ?_; (case F => k_asm); (case N => k_asm); (case m => k_mem); (case z => first | assumption | exact Nat.le_trans (Nat.le_of_eq (by assumption)) (by decide)); (case x => first | decide | omega)); intro _ _ _ _ l1; (try dsimp only [AllLt] at l1); (try k_sweep)) | with_reducible (k_here; (with_reducible show wpAny _ _ (subscriptTail (Expr.Constant _ _ _) _ (Value.str _ _) (Value.int _ _)) _ _ _); (refine cod_tail (by assumption) ?_ (by with_unfolding_all rfl) (by intro _; with_unfolding_all rfl)))) | walk1 | (dsimp only; walk1) | (leave1; try dsimp only))
          refine cb_retI ret ?_ (by assumption) (by assumption)
          exact zs_bit 0 (by omega)
        · (refine wpAny_call ?_; refine' kla_code ?k1 ?k2 ?k3 ?k4 ?k5 ?kA ?kF ?kK ?k6 ?k7 ?k8 ?k9 ?kB ?_ ?c2 ?c3 ?c4 ?c5; (case kA => exact rfl); (case kF => exact rfl); (case kK => assumption); (case k1 => k_asm); (case k2 => k_asm); (case k3 => k_asm); (case k4 => k_asm); (case k5 => k_asm); (case k6 => k_mem); (case k7 => exact codeRec_news (by k_asm) (by k_mem) (by assumption) (by assumption)); (case k8 => k_room); (case k9 => exact rfl); (case c5 => decide); (case kB => exact locs rfl); (case c2 => exact rfl); (case c3 => exact rfl); (case c4 => exact rfl); k_whole; intro g' L' h' FG' F' N' B' X' T'; (try dsimp only); (try k_lift B'); (try k_fold))
          repeat' ((fail_if_success (with_reducible show wpAny _ _ (exec (Stmt.While _ _ _ _) _) _ _ _)); (fail_if_success (with_reducible show wpAny _ _ (exec (Stmt.For _ _ _ _ _) _) _ _ _)); (fail_if_success (with_reducible show KswEnd _ _ _ _ _ _ _ _ _ _ _ _)); (fail_if_success (with_reducible show FcEnd _ _ _ _ _ _ _ _ _ _)); (fail_if_success (with_reducible show CutEnd _ _ _ _ _ _ _ _ _)); first | (k_unfold; (try dsimp only)) | (k_end; wrow_close) | ((with_reducible show wpAny _ _ (subscriptTail _ _ _ _) _ _ _); first | (k_here; (with_reducible show wpAny _ _ (subscriptTail (PySem.Expr.Name _ _) (PySem.Expr.Name _ _) (Value.ref _) (Value.int (Nat.cast _) _)) _ _ _); (refine item_lst (by k_asm) (by k_mem) (by exact rfl) (by decide) ?_)) | (k_here; (with_reducible show wpAny _ _ (subscriptTail (PySem.Expr.Subscript (PySem.Expr.Name _ _) (PySem.Expr.Name _ _) _) (PySem.Expr.Constant _ _ _) (Value.ref _) (Value.int _ _)) _ _ _); (refine item_tup (by k_asm) (by k_mem) (by decide) (by decide) (by exact rfl) (by exact rfl) ?_)) | (k_here; (with_reducible show wpAny _ _ (subscriptTail (PySem.Expr.Subscript (PySem.Expr.Subscript _ _ _) (PySem.Expr.Constant _ _ _) _) (PySem.Expr.BinOp _ _ _ _) (Value.ref _) (Value.int (HSub.hSub _ _) _)) _ _ _); (refine item_ints (by k_asm) (by k_mem) (by with_reducible assumption) (by omega) (by omega) (by omega) ?_); intro _) | with_reducible (k_here; (with_reducible show wpAny _ _ (subscriptTail _ (PySem.Expr.Slice _ _ _ _) (Value.str _ _) (Value.ref _)) _ _ _); kxi_slice; intro _ _ _ _ _) | with_reducible (k_here; (with_reducible show wpAny _ _ (subscriptTail _ (PySem.Expr.Slice (some _) (some _) none _) (Value.ref _) (Value.ref _)) _ _ _); k_dflt (refine' sliceRun (s := ⟨_, _, _, _, _⟩) ?F ?N ?m ?x ?y ?z ?_; (case F => k_asm); (case N => k_asm); (case m => k_mem); (case z => assumption); (case x => first | decide | omega); (case y => first | decide | omega)); intro _ _ _ _ l1; (try dsimp only [AllLt] at l1); (try k_sweep)) | with_reducible (k_here; (with_reducible show wpAny _ _ (subscriptTail _ (PySem.Expr.Slice none (some _) none _) (Value.ref _) (Value.ref _)) _ _ _); k_dflt (refine' sliceUpto (s := ⟨_, _, _, _, _⟩) ?F ?N ?m ?x ?z ?_; (case F => k_asm); (case N => k_asm); (case m => k_mem); (case z => assumption); (case x => first | decide | omega)); intro _ _ _ _ l1; (try dsimp only [AllLt] at l1); (try k_sweep)) | with_reducible (k_here; (with_reducible show wpAny _ _ (subscriptTail _ (PySem.Expr.Slice (some _) none none _) (Value.ref _) (Value.ref _)) _ _ _); k_dflt (refine' sliceFrom (s := ⟨_, _, _, _, _⟩) ?F ?N ?m ?x ?z ?_; (case F => k_asm); (case N => k_asm); (case m => k_mem); (case z => first | assumption | exact Nat.le_trans (Nat.le_of_eq (by assumption)) (by decide)); (case x => first | decide | omega)); intro _ _ _ _ l1; (try dsimp only [AllLt] at l1); (try k_sweep)) | with_reducible (k_here; (with_reducible show wpAny _ _ (subscriptTail (Expr.Constant _ _ _) _ (Value.str _ _) (Value.int _ _)) _ _ _); (refine cod_tail (by assumption) ?_ (by with_unfolding_all rfl) (by intro _; with_unfolding_all rfl)))) | walk1 | (dsimp only; walk1) | (leave1; try dsimp only))
          refine cb_retI ret ?_ (by assumption) (by assumption)
          exact zs_bit 1 (by omega)
        · (refine wpAny_call ?_; refine' kla_code ?k1 ?k2 ?k3 ?k4 ?k5 ?kA ?kF ?kK ?k6 ?k7 ?k8 ?k9 ?kB ?_ ?c2 ?c3 ?c4 ?c5; (case kA => exact rfl); (case kF => exact rfl); (case kK => assumption); (case k1 => k_asm); (case k2 => k_asm); (case k3 => k_asm); (case k4 => k_asm); (case k5 => k_asm); (case k6 => k_mem); (case k7 => exact codeRec_news (by k_asm) (by k_mem) (by assumption) (by assumption)); (case k8 => k_room); (case k9 => exact rfl); (case c5 => decide); (case kB => exact locs rfl); (case c2 => exact rfl); (case c3 => exact rfl); (case c4 => exact rfl); k_whole; intro g' L' h' FG' F' N' B' X' T'; (try dsimp only); (try k_lift B'); (try k_fold))
          repeat' ((fail_if_success (with_reducible show wpAny _ _ (exec (Stmt.While _ _ _ _) _) _ _ _)); (fail_if_success (with_reducible show wpAny _ _ (exec (Stmt.For _ _ _ _ _) _) _ _ _)); (fail_if_success (with_reducible show KswEnd _ _ _ _ _ _ _ _ _ _ _ _)); (fail_if_success (with_reducible show FcEnd _ _ _ _ _ _ _ _ _ _)); (fail_if_success (with_reducible show CutEnd _ _ _ _ _ _ _ _ _)); first | (k_unfold; (try dsimp only)) | (k_end; wrow_close) | ((with_reducible show wpAny _ _ (subscriptTail _ _ _ _) _ _ _); first | (k_here; (with_reducible show wpAny _ _ (subscriptTail (PySem.Expr.Name _ _) (PySem.Expr.Name _ _) (Value.ref _) (Value.int (Nat.cast _) _)) _ _ _); (refine item_lst (by k_asm) (by k_mem) (by exact rfl) (by decide) ?_)) | (k_here; (with_reducible show wpAny _ _ (subscriptTail (PySem.Expr.Subscript (PySem.Expr.Name _ _) (PySem.Expr.Name _ _) _) (PySem.Expr.Constant _ _ _) (Value.ref _) (Value.int _ _)) _ _ _); (refine item_tup (by k_asm) (by k_mem) (by decide) (by decide) (by exact rfl) (by exact rfl) ?_)) | (k_here; (with_reducible show wpAny _ _ (subscriptTail (PySem.Expr.Subscript (PySem.Expr.Subscript _ _ _) (PySem.Expr.Constant _ _ _) _) (PySem.Expr.BinOp _ _ _ _) (Value.ref _) (Value.int (HSub.hSub _ _) _)) _ _ _); (refine item_ints (by k_asm) (by k_mem) (by with_reducible assumption) (by omega) (by omega) (by omega) ?_); intro _) | with_reducible (k_here; (with_reducible show wpAny _ _ (subscriptTail _ (PySem.Expr.Slice _ _ _ _) (Value.str _ _) (Value.ref _)) _ _ _); kxi_slice; intro _ _ _ _ _) | with_reducible (k_here; (with_reducible show wpAny _ _ (subscriptTail _ (PySem.Expr.Slice (some _) (some _) none _) (Value.ref _) (Value.ref _)) _ _ _); k_dflt (refine' sliceRun (s := ⟨_, _, _, _, _⟩) ?F ?N ?m ?x ?y ?z ?_; (case F => k_asm); (case N => k_asm); (case m => k_mem); (case z => assumption); (case x => first | decide | omega); (case y => first | decide | omega)); intro _ _ _ _ l1; (try dsimp only [AllLt] at l1); (try k_sweep)) | with_reducible (k_here; (with_reducible show wpAny _ _ (subscriptTail _ (PySem.Expr.Slice none (some _) none _) (Value.ref _) (Value.ref _)) _ _ _); k_dflt (refine' sliceUpto (s := ⟨_, _, _, _, _⟩) ?F ?N ?m ?x ?z ?_; (case F => k_asm); (case N => k_asm); (case m => k_mem); (case z => assumption); (case x => first | decide | omega)); intro _ _ _ _ l1; (try dsimp only [AllLt] at l1); (try k_sweep)) | with_reducible (k_here; (with_reducible show wpAny _ _ (subscriptTail _ (PySem.Expr.Slice (some _) none none _) (Value.ref _) (Value.ref _)) _ _ _); k_dflt (refine' sliceFrom (s := ⟨_, _, _, _, _⟩) ?F ?N ?m ?x ?z ?_; (case F => k_asm); (case N => k_asm); (case m => k_mem); (case z => first | assumption | exact Nat.le_trans (Nat.le_of_eq (by assumption)) (by decide)); (case x => first | decide | omega)); intro _ _ _ _ l1; (try dsimp only [AllLt] at l1); (try k_sweep)) | with_reducible (k_here; (with_reducible show wpAny _ _ (subscriptTail (Expr.Constant _ _ _) _ (Value.str _ _) (Value.int _ _)) _ _ _); (refine cod_tail (by assumption) ?_ (by with_unfolding_all rfl) (by intro _; with_unfolding_all rfl)))) | walk1 | (dsimp only; walk1) | (leave1; try dsimp only))
          refine cb_retI ret ?_ (by assumption) (by assumption)
          exact zs_bit 2 (by omega)
        · (refine wpAny_call ?_; refine' kla_code ?k1 ?k2 ?k3 ?k4 ?k5 ?kA ?kF ?kK ?k6 ?k7 ?k8 ?k9 ?kB ?_ ?c2 ?c3 ?c4 ?c5; (case kA => exact rfl); (case kF => exact rfl); (case kK => assumption); (case k1 => k_asm); (case k2 => k_asm); (case k3 => k_asm); (case k4 => k_asm); (case k5 => k_asm); (case k6 => k_mem); (case k7 => exact codeRec_news (by k_asm) (by k_mem) (by assumption) (by assumption)); (case k8 => k_room); (case k9 => exact rfl); (case c5 => decide); (case kB => exact locs rfl); (case c2 => exact rfl); (case c3 => exact rfl); (case c4 => exact rfl); k_whole; intro g' L' h' FG' F' N' B' X' T'; (try dsimp only); (try k_lift B'); (try k_fold))
          repeat' ((fail_if_success (with_reducible show wpAny _ _ (exec (Stmt.While _ _ _ _) _) _ _ _)); (fail_if_success (with_reducible show wpAny _ _ (exec (Stmt.For _ _ _ _ _) _) _ _ _)); (fail_if_success (with_reducible show KswEnd _ _ _ _ _ _ _ _ _ _ _ _)); (fail_if_success (with_reducible show FcEnd _ _ _ _ _ _ _ _ _ _)); (fail_if_success (with_reducible show CutEnd _ _ _ _ _ _ _ _ _)); first | (k_unfold; (try dsimp only)) | (k_end; wrow_close) | ((with_reducible show wpAny _ _ (subscriptTail _ _ _ _) _ _ _); first | (k_here; (with_reducible show wpAny _ _ (subscriptTail (PySem.Expr.Name _ _) (PySem.Expr.Name _ _) (Value.ref _) (Value.int (Nat.cast _) _)) _ _ _); (refine item_lst (by k_asm) (by k_mem) (by exact rfl) (by decide) ?_)) | (k_here; (with_reducible show wpAny _ _ (subscriptTail (PySem.Expr.Subscript (PySem.Expr.Name _ _) (PySem.Expr.Name _ _) _) (PySem.Expr.Constant _ _ _) (Value.ref _) (Value.int _ _)) _ _ _); (refine item_tup (by k_asm) (by k_mem) (by decide) (by decide) (by exact rfl) (by exact rfl) ?_)) | (k_here; (with_reducible show wpAny _ _ (subscriptTail (PySem.Expr.Subscript (PySem.Expr.Subscript _ _ _) (PySem.Expr.Constant _ _ _) _) (PySem.Expr.BinOp _ _ _ _) (Value.ref _) (Value.int (HSub.hSub _ _) _)) _ _ _); (refine item_ints (by k_asm) (by k_mem) (by with_reducible assumption) (by omega) (by omega) (by omega) ?_); intro _) | with_reducible (k_here; (with_reducible show wpAny _ _ (subscriptTail _ (PySem.Expr.Slice _ _ _ _) (Value.str _ _) (Value.ref _)) _ _ _); kxi_slice; intro _ _ _ _ _) | with_reducible (k_here; (with_reducible show wpAny _ _ (subscriptTail _ (PySem.Expr.Slice (some _) (some _) none _) (Value.ref _) (Value.ref _)) _ _ _); k_dflt (refine' sliceRun (s := ⟨_, _, _, _, _⟩) ?F ?N ?m ?x ?y ?z ?_; (case F => k_asm); (case N => k_asm); (case m => k_mem); (case z => assumption); (case x => first | decide | omega); (case y => first | decide | omega)); intro _ _ _ _ l1; (try dsimp only [AllLt] at l1); (try k_sweep)) | with_reducible (k_here; (with_reducible show wpAny _ _ (subscriptTail _ (PySem.Expr.Slice none (some _) none _) (Value.ref _) (Value.ref _)) _ _ _); k_dflt (refine' sliceUpto (s := ⟨_, _, _, _, _⟩) ?F ?N ?m ?x ?z ?_; (case F => k_asm); (case N => k_asm); (case m => k_mem); (case z => assumption); (case x => first | decide | omega)); intro _ _ _ _ l1; (try dsimp only [AllLt] at l1); (try k_sweep)) | with_reducible (k_here; (with_reducible show wpAny _ _ (subscriptTail _ (PySem.Expr.Slice (some _) none none _) (Value.ref _) (Value.ref _)) _ _ _); k_dflt (refine' sliceFrom (s := ⟨_, _, _, _, _⟩) ?F ?N ?m ?x ?z ?_; (case F => k_asm); (case N => k_asm); (case m => k_mem); (case z => first | assumption | exact Nat.le_trans (Nat.le_of_eq (by assumption)) (by decide)); (case x => first | decide | omega)); intro _ _ _ _ l1; (try dsimp only [AllLt] at l1); (try k_sweep)) | with_reducible (k_here; (with_reducible show wpAny _ _ (subscriptTail (Expr.Constant _ _ _) _ (Value.str _ _) (Value.int _ _)) _ _ _); (refine cod_tail (by assumption) ?_ (by with_unfolding_all rfl) (by intro _; with_unfolding_all rfl)))) | walk1 | (dsimp only; walk1) | (leave1; try dsimp only))
          refine cb_retI ret ?_ (by assumption) (by assumption)
          exact zs_bit 3 (by omega)
      intro t10 h10 tk10 F10 N10
      clear F9 N9 F8 N8
      repeat' ((fail_if_success (with_reducible show FgPost _ _ _ _ _ _ _ _ _ _ _ _)); (fail_if_success (with_reducible show KswEnd _ _ _ _ _ _ _ _ _ _ _ _)); (fail_if_success (with_reducible show FcEnd _ _ _ _ _ _ _ _ _ _)); (fail_if_success (with_reducible show CutEnd _ _ _ _ _ _ _ _ _)); first | (k_unfold; (try dsimp only)) | (k_end; wrow_close) | ((first | ((with_reducible show wpAny _ _ (subscriptTail _ _ _ _) _ _ _); first | (k_here; (with_reducible show wpAny _ _ (subscriptTail (PySem.Expr.Name _ _) (PySem.Expr.Name _ _) (Value.ref _) (Value.int (Nat.cast _) _)) _ _ _); (refine item_lst (by k_asm) (by k_mem) (by exact rfl) (by decide) ?_)) | (k_here; (with_reducible show wpAny _ _ (subscriptTail (PySem.Expr.Subscript (PySem.Expr.Name _ _) (PySem.Expr.Name _ _) _) (PySem.Expr.Constant _ _ _) (Value.ref _) (Value.int _ _)) _ _ _); (refine item_tup (by k_asm) (by k_mem) (by decide) (by decide) (by exact rfl) (by exact rfl) ?_)) | (k_here; (with_reducible show wpAny _ _ (subscriptTail (PySem.Expr.Subscript (PySem.Expr.Subscript _ _ _) (PySem.Expr.Constant _ _ _) _) (PySem.Expr.BinOp _ _ _ _) (Value.ref _) (Value.int (HSub.hSub _ _) _)) _ _ _); (refine item_ints (by k_asm) (by k_mem) (by with_reducible assumption) (by omega) (by omega) (by omega) ?_); intro _) | with_reducible (k_here; (with_reducible show wpAny _ _ (subscriptTail _ (PySem.Expr.Slice _ _ _ _) (Value.str _ _) (Value.ref _)) _ _ _); kxi_slice; intro _ _ _ _ _) | with_reducible (k_here; (with_reducible show wpAny _ _ (subscriptTail _ (PySem.Expr.Slice (some _) (some _) none _) (Value.ref _) (Value.ref _)) _ _ _); k_dflt (refine' sliceRun (s := ⟨_, _, _, _, _⟩) ?F ?N ?m ?x ?y ?z ?_; (case F => k_asm); (case N => k_asm); (case m => k_mem); (case z => assumption); (case x => first | decide | omega); (case y => first | decide | omega)); intro _ _ _ _ l1; (try dsimp only [AllLt] at l1); (try k_sweep)) | with_reducible (k_here; (with_reducible show wpAny _ _ (subscriptTail _ (PySem.Expr.Slice none (some _) none _) (Value.ref _) (Value.ref _)) _ _ _); k_dflt (refine' sliceUpto (s := ⟨_, _, _, _, _⟩) ?F ?N ?m ?x ?z ?_; (case F => k_asm); (case N => k_asm); (case m => k_mem); (case z => assumption); (case x => first | decide | omega)); intro _ _ _ _ l1; (try dsimp only [AllLt] at l1); (try k_sweep)) | with_reducible (k_here; (with_reducible show wpAny _ _ (subscriptTail _ (PySem.Expr.Slice (some _) none none _) (Value.ref _) (Value.ref _)) _ _ _); k_dflt (refine' sliceFrom (s := ⟨_, _, _, _, _⟩) ?F ?N ?m ?x ?z ?_; (case F => k_asm); (case N => k_asm); (case m => k_mem); (case z => first | assumption | exact Nat.le_trans (Nat.le_of_eq (by assumption)) (by decide)); (case x => first | decide | omega)); intro _ _ _ _ l1; (try dsimp only [AllLt] at l1); (try k_sweep)) | with_reducible (k_here; (with_reducible show wpAny _ _ (subscriptTail (Expr.Constant _ _ _) _ (Value.str _ _) (Value.int _ _)) _ _ _); (refine cod_tail (by assumption) ?_ (by with_unfolding_all rfl) (by intro _; with_unfolding_all rfl)))) | walk1); (all_goals ((try ((fail_if_success (fail_if_success (with_reducible rename (_ ∧ _) => hx9))); refine viaR ?_; intro R9 k9; (repeat (first | ((with_reducible rename (_ ∧ _ ∧ _ ∧ _ ∧ _ ∧ _ ∧ _ ∧ _) => hx9); refine and8 hx9 ?_; clear hx9; intro _ _ _ _ _ _ _ _) | ((with_reducible rename (_ ∧ _ ∧ _ ∧ _) => hx9); refine and4 hx9 ?_; clear hx9; intro _ _ _ _) | ((with_reducible rename (_ ∧ _) => hx9); refine and2 hx9 ?_; clear hx9; intro _ _) | ((with_reducible rename True => hx9); clear hx9))); refine k9 ?_; clear k9 R9)); repeat ((with_reducible rename (@Ne Nat _ _) => hx9); (have hx8 := apart_of hx9); clear hx9)))) | (dsimp only; walk1) | (leave1; try dsimp only))
      refine ofGenF hRR1 ?_
      (rename Fr _ _ _ _ => F5); (rename News _ _ _ _ => N5)
      rw [List.push_toArray] at N5
      refine fgEnd ((fs ++ [_], ns ++ [firstN ms i], _), some (c9, oc9), (_, some (.int (i : Int) t))) F5 N5 (by exact fmem (by k_mem) (fmem (by k_mem) (by (simp only [tabL, List.cons_append, List.nil_append]); (repeat (first | exact List.forall_mem_nil _ | refine fmem (by k_mem) ?_))))) (fun p hp => by (first | exact hp | exact List.Mem.tail _ (hp) | exact List.Mem.tail _ (List.Mem.tail _ (hp)) | exact List.Mem.tail _ (List.Mem.tail _ (List.Mem.tail _ (hp))) | exact List.Mem.tail _ (List.Mem.tail _ (List.Mem.tail _ (List.Mem.tail _ (hp)))) | exact List.Mem.tail _ (List.Mem.tail _ (List.Mem.tail _ (List.Mem.tail _ (List.Mem.tail _ (hp))))) | exact List.Mem.tail _ (List.Mem.tail _ (List.Mem.tail _ (List.Mem.tail _ (List.Mem.tail _ (List.Mem.tail _ (hp)))))) | exact List.Mem.tail _ (List.Mem.tail _ (List.Mem.tail _ (List.Mem.tail _ (List.Mem.tail _ (List.Mem.tail _ (List.Mem.tail _ (hp))))))) | exact List.Mem.tail _ (List.Mem.tail _ (List.Mem.tail _ (List.Mem.tail _ (List.Mem.tail _ (List.Mem.tail _ (List.Mem.tail _ (List.Mem.tail _ (hp)))))))) | exact List.Mem.tail _ (List.Mem.tail _ (List.Mem.tail _ (List.Mem.tail _ (List.Mem.tail _ (List.Mem.tail _ (List.Mem.tail _ (List.Mem.tail _ (List.Mem.tail _ (hp))))))))) | exact List.Mem.tail _ (List.Mem.tail _ (List.Mem.tail _ (List.Mem.tail _ (List.Mem.tail _ (List.Mem.tail _ (List.Mem.tail _ (List.Mem.tail _ (List.Mem.tail _ (List.Mem.tail _ (hp)))))))))) | exact List.Mem.tail _ (List.Mem.tail _ (List.Mem.tail _ (List.Mem.tail _ (List.Mem.tail _ (List.Mem.tail _ (List.Mem.tail _ (List.Mem.tail _ (List.Mem.tail _ (List.Mem.tail _ (List.Mem.tail _ (hp))))))))))) | exact List.Mem.tail _ (List.Mem.tail _ (List.Mem.tail _ (List.Mem.tail _ (List.Mem.tail _ (List.Mem.tail _ (List.Mem.tail _ (List.Mem.tail _ (List.Mem.tail _ (List.Mem.tail _ (List.Mem.tail _ (List.Mem.tail _ (hp)))))))))))) | exact List.Mem.tail _ (List.Mem.tail _ (List.Mem.tail _ (List.Mem.tail _ (List.Mem.tail _ (List.Mem.tail _ (List.Mem.tail _ (List.Mem.tail _ (List.Mem.tail _ (List.Mem.tail _ (List.Mem.tail _ (List.Mem.tail _ (List.Mem.tail _ (hp))))))))))))) | exact List.Mem.tail _ (List.Mem.tail _ (List.Mem.tail _ (List.Mem.tail _ (List.Mem.tail _ (List.Mem.tail _ (List.Mem.tail _ (List.Mem.tail _ (List.Mem.tail _ (List.Mem.tail _ (List.Mem.tail _ (List.Mem.tail _ (List.Mem.tail _ (List.Mem.tail _ (hp)))))))))))))) | exact List.Mem.tail _ (List.Mem.tail _ (List.Mem.tail _ (List.Mem.tail _ (List.Mem.tail _ (List.Mem.tail _ (List.Mem.tail _ (List.Mem.tail _ (List.Mem.tail _ (List.Mem.tail _ (List.Mem.tail _ (List.Mem.tail _ (List.Mem.tail _ (List.Mem.tail _ (List.Mem.tail _ (hp))))))))))))))) | exact List.Mem.tail _ (List.Mem.tail _ (List.Mem.tail _ (List.Mem.tail _ (List.Mem.tail _ (List.Mem.tail _ (List.Mem.tail _ (List.Mem.tail _ (List.Mem.tail _ (List.Mem.tail _ (List.Mem.tail _ (List.Mem.tail _ (List.Mem.tail _ (List.Mem.tail _ (List.Mem.tail _ (List.Mem.tail _ (hp)))))))))))))))) | exact List.Mem.tail _ (List.Mem.tail _ (List.Mem.tail _ (List.Mem.tail _ (List.Mem.tail _ (List.Mem.tail _ (List.Mem.tail _ (List.Mem.tail _ (List.Mem.tail _ (List.Mem.tail _ (List.Mem.tail _ (List.Mem.tail _ (List.Mem.tail _ (List.Mem.tail _ (List.Mem.tail _ (List.Mem.tail _ (List.Mem.tail _ (hp))))))))))))))))) | exact List.Mem.tail _ (List.Mem.tail _ (List.Mem.tail _ (List.Mem.tail _ (List.Mem.tail _ (List.Mem.tail _ (List.Mem.tail _ (List.Mem.tail _ (List.Mem.tail _ (List.Mem.tail _ (List.Mem.tail _ (List.Mem.tail _ (List.Mem.tail _ (List.Mem.tail _ (List.Mem.tail _ (List.Mem.tail _ (List.Mem.tail _ (List.Mem.tail _ (hp)))))))))))))))))) | exact List.Mem.tail _ (List.Mem.tail _ (List.Mem.tail _ (List.Mem.tail _ (List.Mem.tail _ (List.Mem.tail _ (List.Mem.tail _ (List.Mem.tail _ (List.Mem.tail _ (List.Mem.tail _ (List.Mem.tail _ (List.Mem.tail _ (List.Mem.tail _ (List.Mem.tail _ (List.Mem.tail _ (List.Mem.tail _ (List.Mem.tail _ (List.Mem.tail _ (List.Mem.tail _ (hp))))))))))))))))))) | exact List.Mem.tail _ (List.Mem.tail _ (List.Mem.tail _ (List.Mem.tail _ (List.Mem.tail _ (List.Mem.tail _ (List.Mem.tail _ (List.Mem.tail _ (List.Mem.tail _ (List.Mem.tail _ (List.Mem.tail _ (List.Mem.tail _ (List.Mem.tail _ (List.Mem.tail _ (List.Mem.tail _ (List.Mem.tail _ (List.Mem.tail _ (List.Mem.tail _ (List.Mem.tail _ (List.Mem.tail _ (hp)))))))))))))))))))) | exact List.Mem.tail _ (List.Mem.tail _ (List.Mem.tail _ (List.Mem.tail _ (List.Mem.tail _ (List.Mem.tail _ (List.Mem.tail _ (List.Mem.tail _ (List.Mem.tail _ (List.Mem.tail _ (List.Mem.tail _ (List.Mem.tail _ (List.Mem.tail _ (List.Mem.tail _ (List.Mem.tail _ (List.Mem.tail _ (List.Mem.tail _ (List.Mem.tail _ (List.Mem.tail _ (List.Mem.tail _ (List.Mem.tail _ (hp))))))))))))))))))))) | exact List.Mem.tail _ (List.Mem.tail _ (List.Mem.tail _ (List.Mem.tail _ (List.Mem.tail _ (List.Mem.tail _ (List.Mem.tail _ (List.Mem.tail _ (List.Mem.tail _ (List.Mem.tail _ (List.Mem.tail _ (List.Mem.tail _ (List.Mem.tail _ (List.Mem.tail _ (List.Mem.tail _ (List.Mem.tail _ (List.Mem.tail _ (List.Mem.tail _ (List.Mem.tail _ (List.Mem.tail _ (List.Mem.tail _ (List.Mem.tail _ (hp)))))))))))))))))))))) | exact List.Mem.tail _ (List.Mem.tail _ (List.Mem.tail _ (List.Mem.tail _ (List.Mem.tail _ (List.Mem.tail _ (List.Mem.tail _ (List.Mem.tail _ (List.Mem.tail _ (List.Mem.tail _ (List.Mem.tail _ (List.Mem.tail _ (List.Mem.tail _ (List.Mem.tail _ (List.Mem.tail _ (List.Mem.tail _ (List.Mem.tail _ (List.Mem.tail _ (List.Mem.tail _ (List.Mem.tail _ (List.Mem.tail _ (List.Mem.tail _ (List.Mem.tail _ (hp))))))))))))))))))))))))) ?_ (fun p hp => nomatch hp) (by (intro z h2 h3; (have hs0 : z ≠ Str.ofString "starts" := by rintro rfl; exact absurd h3 (by decide)); simp only [kstB, h3, if_neg hs0, Bool.false_eq_true, if_false])) ⟨by rw [zs_app]; exact ints_push hP1, ?_, dS9, ⟨fv9, tq9, d19, d29⟩, ?_⟩
      · exact offSub (offOwn (allNe_of_lt (by assumption)) hoff) (by simp [tabL])
      · rw [hP2, List.range_succ, List.map_append]; rfl
      · (dsimp only [AllNe]; (repeat' (first | exact trivial | assumption | exact ⟨by assumption⟩ | exact ⟨Nat.ne_of_lt (by assumption)⟩ | exact ⟨by k_ne⟩ | refine And.intro ?_ ?_)))
    | some cc =>
      obtain ⟨c9, oc9⟩ := cc
      refine viaR ?_; intro R9 k9
      obtain ⟨⟨fv9, tq9, d19, d29⟩, hne⟩ := hP4
      refine k9 ?_; clear k9 R9
      have hne0 := hne
      dsimp only [tabL, List.cons_append, List.nil_append] at N8 hoff
      dsimp only [AllNe] at hne
      (try ((fail_if_success (fail_if_success (with_reducible rename (_ ∧ _) => hx9))); refine viaR ?_; intro R9 k9; (repeat (first | ((with_reducible rename (_ ∧ _ ∧ _ ∧ _ ∧ _ ∧ _ ∧ _ ∧ _) => hx9); refine and8 hx9 ?_; clear hx9; intro _ _ _ _ _ _ _ _) | ((with_reducible rename (_ ∧ _ ∧ _ ∧ _) => hx9); refine and4 hx9 ?_; clear hx9; intro _ _ _ _) | ((with_reducible rename (_ ∧ _) => hx9); refine and2 hx9 ?_; clear hx9; intro _ _) | ((with_reducible rename True => hx9); clear hx9))); refine k9 ?_; clear k9 R9))
      have hfl : fs.length = i := by rw [hP1.length, zs_len, hP2, List.length_map, List.length_range]
      repeat' ((fail_if_success (with_reducible show wpAny _ _ (call (Value.type "list") _) _ _ _)); (fail_if_success (with_reducible show KswEnd _ _ _ _ _ _ _ _ _ _ _ _)); (fail_if_success (with_reducible show FcEnd _ _ _ _ _ _ _ _ _ _)); (fail_if_success (with_reducible show CutEnd _ _ _ _ _ _ _ _ _)); first | (k_unfold; (try dsimp only)) | (k_end; wrow_close) | ((first | ((with_reducible show wpAny _ _ (subscriptTail _ _ _ _) _ _ _); first | (k_here; (with_reducible show wpAny _ _ (subscriptTail (PySem.Expr.Name _ _) (PySem.Expr.Name _ _) (Value.ref _) (Value.int (Nat.cast _) _)) _ _ _); (refine item_lst (by k_asm) (by k_mem) (by exact rfl) (by decide) ?_)) | (k_here; (with_reducible show wpAny _ _ (subscriptTail (PySem.Expr.Subscript (PySem.Expr.Name _ _) (PySem.Expr.Name _ _) _) (PySem.Expr.Constant _ _ _) (Value.ref _) (Value.int _ _)) _ _ _); (refine item_tup (by k_asm) (by k_mem) (by decide) (by decide) (by exact rfl) (by exact rfl) ?_)) | (k_here; (with_reducible show wpAny _ _ (subscriptTail (PySem.Expr.Subscript (PySem.Expr.Subscript _ _ _) (PySem.Expr.Constant _ _ _) _) (PySem.Expr.BinOp _ _ _ _) (Value.ref _) (Value.int (HSub.hSub _ _) _)) _ _ _); (refine item_ints (by k_asm) (by k_mem) (by with_reducible assumption) (by omega) (by omega) (by omega) ?_); intro _) | with_reducible (k_here; (with_reducible show wpAny _ _ (subscriptTail _ (PySem.Expr.Slice _ _ _ _) (Value.str _ _) (Value.ref _)) _ _ _); kxi_slice; intro _ _ _ _ _) | with_reducible (k_here; (with_reducible show wpAny _ _ (subscriptTail _ (PySem.Expr.Slice (some _) (some _) none _) (Value.ref _) (Value.ref _)) _ _ _); k_dflt (refine' sliceRun (s := ⟨_, _, _, _, _⟩) ?F ?N ?m ?x ?y ?z ?_; (case F => k_asm); (case N => k_asm); (case m => k_mem); (case z => assumption); (case x => first | decide | omega); (case y => first | decide | omega)); intro _ _ _ _ l1; (try dsimp only [AllLt] at l1); (try k_sweep)) | with_reducible (k_here; (with_reducible show wpAny _ _ (subscriptTail _ (PySem.Expr.Slice none (some _) none _) (Value.ref _) (Value.ref _)) _ _ _); k_dflt (refine' sliceUpto (s := ⟨_, _, _, _, _⟩) ?F ?N ?m ?x ?z ?_; (case F => k_asm); (case N => k_asm); (case m => k_mem); (case z => assumption); (case x => first | decide | omega)); intro _ _ _ _ l1; (try dsimp only [AllLt] at l1); (try k_sweep)) | with_reducible (k_here; (with_reducible show wpAny _ _ (subscriptTail _ (PySem.Expr.Slice (some _) none none _) (Value.ref _) (Value.ref _)) _ _ _); k_dflt (refine' sliceFrom (s := ⟨_, _, _, _, _⟩) ?F ?N ?m ?x ?z ?_; (case F => k_asm); (case N => k_asm); (case m => k_mem); (case z => first | assumption | exact Nat.le_trans (Nat.le_of_eq (by assumption)) (by decide)); (case x => first | decide | omega)); intro _ _ _ _ l1; (try dsimp only [AllLt] at l1); (try k_sweep)) | with_reducible (k_here; (with_reducible show wpAny _ _ (subscriptTail (Expr.Constant _ _ _) _ (Value.str _ _) (Value.int _ _)) _ _ _); (refine cod_tail (by assumption) ?_ (by with_unfolding_all rfl) (by intro _; with_unfolding_all rfl)))) | walk1); (all_goals ((try ((fail_if_success (fail_if_success (with_reducible rename (_ ∧ _) => hx9))); refine viaR ?_; intro R9 k9; (repeat (first | ((with_reducible rename (_ ∧ _ ∧ _ ∧ _ ∧ _ ∧ _ ∧ _ ∧ _) => hx9); refine and8 hx9 ?_; clear hx9; intro _ _ _ _ _ _ _ _) | ((with_reducible rename (_ ∧ _ ∧ _ ∧ _) => hx9); refine and4 hx9 ?_; clear hx9; intro _ _ _ _) | ((with_reducible rename (_ ∧ _) => hx9); refine and2 hx9 ?_; clear hx9; intro _ _) | ((with_reducible rename True => hx9); clear hx9))); refine k9 ?_; clear k9 R9)); repeat ((with_reducible rename (@Ne Nat _ _) => hx9); (have hx8 := apart_of hx9); clear hx9)))) | (dsimp only; walk1) | (leave1; try dsimp only))
      (rename IsRange _ _ _ _ _ _ _ _ => rgX); (rename Fr _ _ _ _ => F9); (rename News _ _ _ _ => N9)
      have e1 : ((0 : Int) + (i : Int)).fdiv 4 + 1 = ((i / 4 + 1 : Nat) : Int) := by rw [Int.zero_add, Int.fdiv_eq_ediv_of_nonneg _ (by decide)]; omega
      rw [e1] at rgX
      refine list_range_K (n := i / 4 + 1) rfl F9 N9 rgX (small_one (by omega) (by omega) (by omega) (by omega)) (by rw [rangeSize_nat]; omega) (by omega) ?_
      intro aL hL tkL ys kL FL NL lL hys
      have lL2 := allLt_is lL
      dsimp only [AllLt] at lL2
      clear lL
      repeat' ((fail_if_success (with_reducible show wpAny _ _ (call (Value.ref 60) _ _) _ _ _)); (fail_if_success (with_reducible show KswEnd _ _ _ _ _ _ _ _ _ _ _ _)); (fail_if_success (with_reducible show FcEnd _ _ _ _ _ _ _ _ _ _)); (fail_if_success (with_reducible show CutEnd _ _ _ _ _ _ _ _ _)); first | (k_unfold; (try dsimp only)) | (k_end; wrow_close) | ((first | ((with_reducible show wpAny _ _ (subscriptTail _ _ _ _) _ _ _); first | (k_here; (with_reducible show wpAny _ _ (subscriptTail (PySem.Expr.Name _ _) (PySem.Expr.Name _ _) (Value.ref _) (Value.int (Nat.cast _) _)) _ _ _); (refine item_lst (by k_asm) (by k_mem) (by exact rfl) (by decide) ?_)) | (k_here; (with_reducible show wpAny _ _ (subscriptTail (PySem.Expr.Subscript (PySem.Expr.Name _ _) (PySem.Expr.Name _ _) _) (PySem.Expr.Constant _ _ _) (Value.ref _) (Value.int _ _)) _ _ _); (refine item_tup (by k_asm) (by k_mem) (by decide) (by decide) (by exact rfl) (by exact rfl) ?_)) | (k_here; (with_reducible show wpAny _ _ (subscriptTail (PySem.Expr.Subscript (PySem.Expr.Subscript _ _ _) (PySem.Expr.Constant _ _ _) _) (PySem.Expr.BinOp _ _ _ _) (Value.ref _) (Value.int (HSub.hSub _ _) _)) _ _ _); (refine item_ints (by k_asm) (by k_mem) (by with_reducible assumption) (by omega) (by omega) (by omega) ?_); intro _) | with_reducible (k_here; (with_reducible show wpAny _ _ (subscriptTail _ (PySem.Expr.Slice _ _ _ _) (Value.str _ _) (Value.ref _)) _ _ _); kxi_slice; intro _ _ _ _ _) | with_reducible (k_here; (with_reducible show wpAny _ _ (subscriptTail _ (PySem.Expr.Slice (some _) (some _) none _) (Value.ref _) (Value.ref _)) _ _ _); k_dflt (refine' sliceRun (s := ⟨_, _, _, _, _⟩) ?F ?N ?m ?x ?y ?z ?_; (case F => k_asm); (case N => k_asm); (case m => k_mem); (case z => assumption); (case x => first | decide | omega); (case y => first | decide | omega)); intro _ _ _ _ l1; (try dsimp only [AllLt] at l1); (try k_sweep)) | with_reducible (k_here; (with_reducible show wpAny _ _ (subscriptTail _ (PySem.Expr.Slice none (some _) none _) (Value.ref _) (Value.ref _)) _ _ _); k_dflt (refine' sliceUpto (s := ⟨_, _, _, _, _⟩) ?F ?N ?m ?x ?z ?_; (case F => k_asm); (case N => k_asm); (case m => k_mem); (case z => assumption); (case x => first | decide | omega)); intro _ _ _ _ l1; (try dsimp only [AllLt] at l1); (try k_sweep)) | with_reducible (k_here; (with_reducible show wpAny _ _ (subscriptTail _ (PySem.Expr.Slice (some _) none none _) (Value.ref _) (Value.ref _)) _ _ _); k_dflt (refine' sliceFrom (s := ⟨_, _, _, _, _⟩) ?F ?N ?m ?x ?z ?_; (case F => k_asm); (case N => k_asm); (case m => k_mem); (case z => first | assumption | exact Nat.le_trans (Nat.le_of_eq (by assumption)) (by decide)); (case x => first | decide | omega)); intro _ _ _ _ l1; (try dsimp only [AllLt] at l1); (try k_sweep)) | with_reducible (k_here; (with_reducible show wpAny _ _ (subscriptTail (Expr.Constant _ _ _) _ (Value.str _ _) (Value.int _ _)) _ _ _); (refine cod_tail (by assumption) ?_ (by with_unfolding_all rfl) (by intro _; with_unfolding_all rfl)))) | walk1); (all_goals ((try ((fail_if_success (fail_if_success (with_reducible rename (_ ∧ _) => hx9))); refine viaR ?_; intro R9 k9; (repeat (first | ((with_reducible rename (_ ∧ _ ∧ _ ∧ _ ∧ _ ∧ _ ∧ _ ∧ _) => hx9); refine and8 hx9 ?_; clear hx9; intro _ _ _ _ _ _ _ _) | ((with_reducible rename (_ ∧ _ ∧ _ ∧ _) => hx9); refine and4 hx9 ?_; clear hx9; intro _ _ _ _) | ((with_reducible rename (_ ∧ _) => hx9); refine and2 hx9 ?_; clear hx9; intro _ _) | ((with_reducible rename True => hx9); clear hx9))); refine k9 ?_; clear k9 R9)); repeat ((with_reducible rename (@Ne Nat _ _) => hx9); (have hx8 := apart_of hx9); clear hx9)))) | (dsimp only; walk1) | (leave1; try dsimp only))
      (rename Fr _ _ _ _ => F9); (rename News _ _ _ _ => N9)
      skip
      have hys' : IntsAre ys (zs (List.range (i / 4 + 1))) := by simpa [zs] using hys
      (rename _ = Data.cell (some (Value.int _ _)) => dS9)
      rw [Int.zero_add] at dS9
      show wpAny _ _ (call (Value.ref 60) [Value.ref aL, Value.int 1 _] [(Str.ofString "key", Value.ref _)]) _ _ _
      refine' bisl_ok (l := aL) (P := (_, _) :: (c9, oc9) :: (s1.heap.objs.size + 1 + 1 + 1 + 1, _) :: (s1.heap.objs.size + 1 + 1 + 1, oR2) :: (aR, LCg.lst [.ref u0, .ref u1, .ref u2, .ref u3]) :: (u3, tupOf #[.int (stN ms 3 : Nat) t3r, .ref c3]) :: (c3, listOf v3.toArray k3r) :: (u2, tupOf #[.int (stN ms 2 : Nat) t2r, .ref c2]) :: (c2, listOf v2.toArray k2r) :: (u1, tupOf #[.int (stN ms 1 : Nat) t1r, .ref c1]) :: (c1, listOf v1.toArray k1r) :: (u0, tupOf #[.int (stN ms 0 : Nat) t0r, .ref c0]) :: (c0, listOf v0.toArray k0r) :: []) (n := i / 4 + 1) (r := firstN ms i) (key := bitN ms i) (by k_asm) (by k_asm) (by k_asm) (by k_asm) (by k_asm) (by first | exact rfl | assumption) (by ktr_room) (by ktr_units) (isListOf N9 (by k_mem)) hys' ?hlP ?hP (by omega) (firstN_le ms i) (fun k hk => hfok.lo i k hi hk) (fun k hk hk2 => hfok.hi i k hi hk hk2) (List.Mem.head _) ?hkey ?_
      case hP => exact fmem (by k_mem) (fmem (by k_mem) (by (repeat (first | exact List.forall_mem_nil _ | refine fmem (by k_mem) ?_))))
      case hlP =>
        simp only [List.map_cons, List.map_nil, List.mem_cons, List.not_mem_nil, or_false, not_or]
        (repeat' (first | k_ne | refine And.intro ?_ ?_))
      case hkey =>
        intro dp un gd cn cs a ccd cl outer A₀ base h₀ L m s Q E k tk hkn B F X N T hk hdp hun ret
        clear F9 N9 F8 N8 hoff
        have hik : i < 16 ∧ k < i / 4 + 1 := ⟨hi, hkn⟩
        have hroom9 : dp + 3 < recursionLimit ∧ un + 24 < cLine := ⟨hdp, hun⟩
        (repeat ((with_reducible rename (@LT.lt Nat _ _ _) => hx9); clear hx9)); (repeat ((with_reducible rename (Apart _ _) => hx9); clear hx9)); (repeat ((with_reducible rename (AllLt _ _) => hx9); clear hx9))
        have hdp := hroom9.1; have hun := hroom9.2; clear hroom9
        have l0 : (zs (caN ms 0)).length = 16 := by rw [zs_len, caN_len, hmsl]
        have l1 : (zs (caN ms 1)).length = 12 := by rw [zs_len, caN_len, hmsl]
        have l2 : (zs (caN ms 2)).length = 8 := by rw [zs_len, caN_len, hmsl]
        have l3 : (zs (caN ms 3)).length = 4 := by rw [zs_len, caN_len, hmsl]
        have hk4 : k < 4 := by omega
        rcases (show k = 0 ∨ k = 1 ∨ k = 2 ∨ k = 3 by omega) with rfl | rfl | rfl | rfl
        · (refine wpAny_call ?_; refine' kla_code ?k1 ?k2 ?k3 ?k4 ?k5 ?kA ?kF ?kK ?k6 ?k7 ?k8 ?k9 ?kB ?_ ?c2 ?c3 ?c4 ?c5; (case kA => exact rfl); (case kF => exact rfl); (case kK => assumption); (case k1 => k_asm); (case k2 => k_asm); (case k3 => k_asm); (case k4 => k_asm); (case k5 => k_asm); (case k6 => k_mem); (case k7 => exact codeRec_news (by k_asm) (by k_mem) (by assumption) (by assumption)); (case k8 => k_room); (case k9 => exact rfl); (case c5 => decide); (case kB => exact locs rfl); (case c2 => exact rfl); (case c3 => exact rfl); (case c4 => exact rfl); k_whole; intro g' L' h' FG' F' N' B' X' T'; (try dsimp only); (try k_lift B'); (try k_fold))
          repeat' ((fail_if_success (with_reducible show wpAny _ _ (exec (Stmt.While _ _ _ _) _) _ _ _)); (fail_if_success (with_reducible show wpAny _ _ (exec (Stmt.For _ _ _ _ _) _) _ _ _)); (fail_if_success (with_reducible show KswEnd _ _ _ _ _ _ _ _ _ _ _ _)); (fail_if_success (with_reducible show FcEnd _ _ _ _ _ _ _ _ _ _)); (fail_if_success (with_reducible show CutEnd _ _ _ _ _ _ _ _ _)); first | (k_unfold; (try dsimp only)) | (k_end; wrow_close) | ((with_reducible show wpAny _ _ (subscriptTail _ _ _ _) _ _ _); first | (k_here; (with_reducible show wpAny _ _ (subscriptTail (PySem.Expr.Name _ _) (PySem.Expr.Name _ _) (Value.ref _) (Value.int (Nat.cast _) _)) _ _ _); (refine item_lst (by k_asm) (by k_mem) (by exact rfl) (by decide) ?_)) | (k_here; (with_reducible show wpAny _ _ (subscriptTail (PySem.Expr.Subscript (PySem.Expr.Name _ _) (PySem.Expr.Name _ _) _) (PySem.Expr.Constant _ _ _) (Value.ref _) (Value.int _ _)) _ _ _); (refine item_tup (by k_asm) (by k_mem) (by decide) (by decide) (by exact rfl) (by exact rfl) ?_)) | (k_here; (with_reducible show wpAny _ _ (subscriptTail (PySem.Expr.Subscript (PySem.Expr.Subscript _ _ _) (PySem.Expr.Constant _ _ _) _) (PySem.Expr.BinOp _ _ _ _) (Value.ref _) (Value.int (HSub.hSub _ _) _)) _ _ _); (refine item_ints (by k_asm) (by k_mem) (by with_reducible assumption) (by omega) (by omega) (by omega) ?_); intro _) | with_reducible (k_here; (with_reducible show wpAny _ _ (subscriptTail _ (PySem.Expr.Slice _ _ _ _) (Value.str _ _) (Value.ref _)) _ _ _); kxi_slice; intro _ _ _ _ _) | with_reducible (k_here; (with_reducible show wpAny _ _ (subscriptTail _ (PySem.Expr.Slice (some _) (some _) none _) (Value.ref _) (Value.ref _)) _ _ _); k_dflt (refine' sliceRun (s := ⟨_, _, _, _, _⟩) ?F ?N ?m ?x ?y ?z ?_; (case F => k_asm); (case N => k_asm); (case m => k_mem); (case z => assumption); (case x => first | decide | omega); (case y => first | decide | omega)); intro _ _ _ _ l1; (try dsimp only [AllLt] at l1); (try k_sweep)) | with_reducible (k_here; (with_reducible show wpAny _ _ (subscriptTail _ (PySem.Expr.Slice none (some _) none _) (Value.ref _) (Value.ref _)) _ _ _); k_dflt (refine' sliceUpto (s := ⟨_, _, _, _, _⟩) ?F ?N ?m ?x ?z ?_; (case F => k_asm); (case N => k_asm); (case m => k_mem); (case z => assumption); (case x => first | decide | omega)); intro _ _ _ _ l1; (try dsimp only [AllLt] at l1); (try k_sweep)) | with_reducible (k_here; (with_reducible show wpAny _ _ (subscriptTail _ (PySem.Expr.Slice (some _) none none _) (Value.ref _) (Value.ref _)) _ _ _); k_dflt (refine' sliceFrom (s := ⟨_, _, _, _, _⟩) ?F ?N ?m ?x ?z ?_; (case F => k_asm); (case N => k_asm); (case m => k_mem); (case z => first | assumption | exact Nat.le_trans (Nat.le_of_eq (by assumption)) (by decide)); (case x => first | decide | omega)); intro _ _ _ _ l1; (try dsimp only [AllLt] at l1); (try k_sweep)) | with_reducible (k_here; (with_reducible show wpAny _ _ (subscriptTail (Expr.Constant _ _ _) _ (Value.str _ _) (Value.int _ _)) _ _ _); (refine cod_tail (by assumption) ?_ (by with_unfolding_all rfl) (by intro _; with_unfolding_all rfl)))) | walk1 | (dsimp only; walk1) | (leave1; try dsimp only))
          refine cb_retI ret ?_ (by assumption) (by assumption)
          exact zs_bit 0 (by omega)
        · (refine wpAny_call ?_; refine' kla_code ?k1 ?k2 ?k3 ?k4 ?k5 ?kA ?kF ?kK ?k6 ?k7 ?k8 ?k9 ?kB ?_ ?c2 ?c3 ?c4 ?c5; (case kA => exact rfl); (case kF => exact rfl); (case kK => assumption); (case k1 => k_asm); (case k2 => k_asm); (case k3 => k_asm); (case k4 => k_asm); (case k5 => k_asm); (case k6 => k_mem); (case k7 => exact codeRec_news (by k_asm) (by k_mem) (by assumption) (by assumption)); (case k8 => k_room); (case k9 => exact rfl); (case c5 => decide); (case kB => exact locs rfl); (case c2 => exact rfl); (case c3 => exact rfl); (case c4 => exact rfl); k_whole; intro g' L' h' FG' F' N' B' X' T'; (try dsimp only); (try k_lift B'); (try k_fold))
          repeat' ((fail_if_success (with_reducible show wpAny _ _ (exec (Stmt.While _ _ _ _) _) _ _ _)); (fail_if_success (with_reducible show wpAny _ _ (exec (Stmt.For _ _ _ _ _) _) _ _ _)); (fail_if_success (with_reducible show KswEnd _ _ _ _ _ _ _ _ _ _ _ _)); (fail_if_success (with_reducible show FcEnd _ _ _ _ _ _ _ _ _ _)); (fail_if_success (with_reducible show CutEnd _ _ _ _ _ _ _ _ _)); first | (k_unfold; (try dsimp only)) | (k_end; wrow_close) | ((with_reducible show wpAny _ _ (subscriptTail _ _ _ _) _ _ _); first | (k_here; (with_reducible show wpAny _ _ (subscriptTail (PySem.Expr.Name _ _) (PySem.Expr.Name _ _) (Value.ref _) (Value.int (Nat.cast _) _)) _ _ _); (refine item_lst (by k_asm) (by k_mem) (by exact rfl) (by decide) ?_)) | (k_here; (with_reducible show wpAny _ _ (subscriptTail (PySem.Expr.Subscript (PySem.Expr.Name _ _) (PySem.Expr.Name _ _) _) (PySem.Expr.Constant _ _ _) (Value.ref _) (Value.int _ _)) _ _ _); (refine item_tup (by k_asm) (by k_mem) (by decide) (by decide) (by exact rfl) (by exact rfl) ?_)) | (k_here; (with_reducible show wpAny _ _ (subscriptTail (PySem.Expr.Subscript (PySem.Expr.Subscript _ _ _) (PySem.Expr.Constant _ _ _) _) (PySem.Expr.BinOp _ _ _ _) (Value.ref _) (Value.int (HSub.hSub _ _) _)) _ _ _); (refine item_ints (by k_asm) (by k_mem) (by with_reducible assumption) (by omega) (by omega) (by omega) ?_); intro _) | with_reducible (k_here; (with_reducible show wpAny _ _ (subscriptTail _ (PySem.Expr.Slice _ _ _ _) (Value.str _ _) (Value.ref _)) _ _ _); kxi_slice; intro _ _ _ _ _) | with_reducible (k_here; (with_reducible show wpAny _ _ (subscriptTail _ (PySem.Expr.Slice (some _) (some _) none _) (Value.ref _) (Value.ref _)) _ _ _); k_dflt (refine' sliceRun (s := ⟨_, _, _, _, _⟩) ?F ?N ?m ?x ?y ?z ?_; (case F => k_asm); (case N => k_asm); (case m => k_mem); (case z => assumption); (case x => first | decide | omega); (case y => first | decide | omega)); intro _ _ _ _ l1; (try dsimp only [AllLt] at l1); (try k_sweep)) | with_reducible (k_here; (with_reducible show wpAny _ _ (subscriptTail _ (PySem.Expr.Slice none (some _) none _) (Value.ref _) (Value.ref _)) _ _ _); k_dflt (refine' sliceUpto (s := ⟨_, _, _, _, _⟩) ?F ?N ?m ?x ?z ?_; (case F => k_asm); (case N => k_asm); (case m => k_mem); (case z => assumption); (case x => first | decide | omega)); intro _ _ _ _ l1; (try dsimp only [AllLt] at l1); (try k_sweep)) | with_reducible (k_here; (with_reducible show wpAny _ _ (subscriptTail _ (PySem.Expr.Slice (some _) none none _) (Value.ref _) (Value.ref _)) _ _ _); k_dflt (refine' sliceFrom (s := ⟨_, _, _, _, _⟩) ?F ?N ?m ?x ?z ?_; (case F => k_asm); (case N => k_asm); (case m => k_mem); (case z => first | assumption | exact Nat.le_trans (Nat.le_of_eq (by assumption)) (by decide)); (case x => first | decide | omega)); intro _ _ _ _ l1; (try dsimp only [AllLt] at l1); (try k_sweep)) | with_reducible (k_here; (with_reducible show wpAny _ _ (subscriptTail (Expr.Constant _ _ _) _ (Value.str _ _) (Value.int _ _)) _ _ _); (refine cod_tail (by assumption) ?_ (by with_unfolding_all rfl) (by intro _; with_unfolding_all rfl)))) | walk1 | (dsimp only; walk1) | (leave1; try dsimp only))
          refine cb_retI ret ?_ (by assumption) (by assumption)
          exact zs_bit 1 (by omega)
        · (refine wpAny_call ?_; refine' kla_code ?k1 ?k2 ?k3 ?k4 ?k5 ?kA ?kF ?kK ?k6 ?k7 ?k8 ?k9 ?kB ?_ ?c2 ?c3 ?c4 ?c5; (case kA => exact rfl); (case kF => exact rfl); (case kK => assumption); (case k1 => k_asm); (case k2 => k_asm); (case k3 => k_asm); (case k4 => k_asm); (case k5 => k_asm); (case k6 => k_mem); (case k7 => exact codeRec_news (by k_asm) (by k_mem) (by assumption) (by assumption)); (case k8 => k_room); (case k9 => exact rfl); (case c5 => decide); (case kB => exact locs rfl); (case c2 => exact rfl); (case c3 => exact rfl); (case c4 => exact rfl); k_whole; intro g' L' h' FG' F' N' B' X' T'; (try dsimp only); (try k_lift B'); (try k_fold))
          repeat' ((fail_if_success (with_reducible show wpAny _ _ (exec (Stmt.While _ _ _ _) _) _ _ _)); (fail_if_success (with_reducible show wpAny _ _ (exec (Stmt.For _ _ _ _ _) _) _ _ _)); (fail_if_success (with_reducible show KswEnd _ _ _ _ _ _ _ _ _ _ _ _)); (fail_if_success (with_reducible show FcEnd _ _ _ _ _ _ _ _ _ _)); (fail_if_success (with_reducible show CutEnd _ _ _ _ _ _ _ _ _)); first | (k_unfold; (try dsimp only)) | (k_end; wrow_close) | ((with_reducible show wpAny _ _ (subscriptTail _ _ _ _) _ _ _); first | (k_here; (with_reducible show wpAny _ _ (subscriptTail (PySem.Expr.Name _ _) (PySem.Expr.Name _ _) (Value.ref _) (Value.int (Nat.cast _) _)) _ _ _); (refine item_lst (by k_asm) (by k_mem) (by exact rfl) (by decide) ?_)) | (k_here; (with_reducible show wpAny _ _ (subscriptTail (PySem.Expr.Subscript (PySem.Expr.Name _ _) (PySem.Expr.Name _ _) _) (PySem.Expr.Constant _ _ _) (Value.ref _) (Value.int _ _)) _ _ _); (refine item_tup (by k_asm) (by k_mem) (by decide) (by decide) (by exact rfl) (by exact rfl) ?_)) | (k_here; (with_reducible show wpAny _ _ (subscriptTail (PySem.Expr.Subscript (PySem.Expr.Subscript _ _ _) (PySem.Expr.Constant _ _ _) _) (PySem.Expr.BinOp _ _ _ _) (Value.ref _) (Value.int (HSub.hSub _ _) _)) _ _ _); (refine item_ints (by k_asm) (by k_mem) (by with_reducible assumption) (by omega) (by omega) (by omega) ?_); intro _) | with_reducible (k_here; (with_reducible show wpAny _ _ (subscriptTail _ (PySem.Expr.Slice _ _ _ _) (Value.str _ _) (Value.ref _)) _ _ _); kxi_slice; intro _ _ _ _ _) | with_reducible (k_here; (with_reducible show wpAny _ _ (subscriptTail _ (PySem.Expr.Slice (some _) (some _) none _) (Value.ref _) (Value.ref _)) _ _ _); k_dflt (refine' sliceRun (s := ⟨_, _, _, _, _⟩) ?F ?N ?m ?x ?y ?z ?_; (case F => k_asm); (case N => k_asm); (case m => k_mem); (case z => assumption); (case x => first | decide | omega); (case y => first | decide | omega)); intro _ _ _ _ l1; (try dsimp only [AllLt] at l1); (try k_sweep)) | with_reducible (k_here; (with_reducible show wpAny _ _ (subscriptTail _ (PySem.Expr.Slice none (some _) none _) (Value.ref _) (Value.ref _)) _ _ _); k_dflt (refine' sliceUpto (s := ⟨_, _, _, _, _⟩) ?F ?N ?m ?x ?z ?_; (case F => k_asm); (case N => k_asm); (case m => k_mem); (case z => assumption); (case x => first | decide | omega)); intro _ _ _ _ l1; (try dsimp only [AllLt] at l1); (try k_sweep)) | with_reducible (k_here; (with_reducible show wpAny _ _ (subscriptTail _ (PySem.Expr.Slice (some _) none none _) (Value.ref _) (Value.ref _)) _ _ _); k_dflt (refine' sliceFrom (s := ⟨_, _, _, _, _⟩) ?F ?N ?m ?x ?z ?_; (case F => k_asm); (case N => k_asm); (case m => k_mem); (case z => first | assumption | exact Nat.le_trans (Nat.le_of_eq (by assumption)) (by decide)); (case x => first | decide | omega)); intro _ _ _ _ l1; (try dsimp only [AllLt] at l1); (try k_sweep)) | with_reducible (k_here; (with_reducible show wpAny _ _ (subscriptTail (Expr.Constant _ _ _) _ (Value.str _ _) (Value.int _ _)) _ _ _); (refine cod_tail (by assumption) ?_ (by with_unfolding_all rfl) (by intro _; with_unfolding_all rfl)))) | walk1 | (dsimp only; walk1) | (leave1; try dsimp only))
          refine cb_retI ret ?_ (by assumption) (by assumption)
          exact zs_bit 2 (by omega)
        · (refine wpAny_call ?_; refine' kla_code ?k1 ?k2 ?k3 ?k4 ?k5 ?kA ?kF ?kK ?k6 ?k7 ?k8 ?k9 ?kB ?_ ?c2 ?c3 ?c4 ?c5; (case kA => exact rfl); (case kF => exact rfl); (case kK => assumption); (case k1 => k_asm); (case k2 => k_asm); (case k3 => k_asm); (case k4 => k_asm); (case k5 => k_asm); (case k6 => k_mem); (case k7 => exact codeRec_news (by k_asm) (by k_mem) (by assumption) (by assumption)); (case k8 => k_room); (case k9 => exact rfl); (case c5 => decide); (case kB => exact locs rfl); (case c2 => exact rfl); (case c3 => exact rfl); (case c4 => exact rfl); k_whole; intro g' L' h' FG' F' N' B' X' T'; (try dsimp only); (try k_lift B'); (try k_fold))
          repeat' ((fail_if_success (with_reducible show wpAny _ _ (exec (Stmt.While _ _ _ _) _) _ _ _)); (fail_if_success (with_reducible show wpAny _ _ (exec (Stmt.For _ _ _ _ _) _) _ _ _)); (fail_if_success (with_reducible show KswEnd _ _ _ _ _ _ _ _ _ _ _ _)); (fail_if_success (with_reducible show FcEnd _ _ _ _ _ _ _ _ _ _)); (fail_if_success (with_reducible show CutEnd _ _ _ _ _ _ _ _ _)); first | (k_unfold; (try dsimp only)) | (k_end; wrow_close) | ((with_reducible show wpAny _ _ (subscriptTail _ _ _ _) _ _ _); first | (k_here; (with_reducible show wpAny _ _ (subscriptTail (PySem.Expr.Name _ _) (PySem.Expr.Name _ _) (Value.ref _) (Value.int (Nat.cast _) _)) _ _ _); (refine item_lst (by k_asm) (by k_mem) (by exact rfl) (by decide) ?_)) | (k_here; (with_reducible show wpAny _ _ (subscriptTail (PySem.Expr.Subscript (PySem.Expr.Name _ _) (PySem.Expr.Name _ _) _) (PySem.Expr.Constant _ _ _) (Value.ref _) (Value.int _ _)) _ _ _); (refine item_tup (by k_asm) (by k_mem) (by decide) (by decide) (by exact rfl) (by exact rfl) ?_)) | (k_here; (with_reducible show wpAny _ _ (subscriptTail (PySem.Expr.Subscript (PySem.Expr.Subscript _ _ _) (PySem.Expr.Constant _ _ _) _) (PySem.Expr.BinOp _ _ _ _) (Value.ref _) (Value.int (HSub.hSub _ _) _)) _ _ _); (refine item_ints (by k_asm) (by k_mem) (by with_reducible assumption) (by omega) (by omega) (by omega) ?_); intro _) | with_reducible (k_here; (with_reducible show wpAny _ _ (subscriptTail _ (PySem.Expr.Slice _ _ _ _) (Value.str _ _) (Value.ref _)) _ _ _); kxi_slice; intro _ _ _ _ _) | with_reducible (k_here; (with_reducible show wpAny _ _ (subscriptTail _ (PySem.Expr.Slice (some _) (some _) none _) (Value.ref _) (Value.ref _)) _ _ _); k_dflt (refine' sliceRun (s := ⟨_, _, _, _, _⟩) ?F ?N ?m ?x ?y ?z ?_; (case F => k_asm); (case N => k_asm); (case m => k_mem); (case z => assumption); (case x => first | decide | omega); (case y => first | decide | omega)); intro _ _ _ _ l1; (try dsimp only [AllLt] at l1); (try k_sweep)) | with_reducible (k_here; (with_reducible show wpAny _ _ (subscriptTail _ (PySem.Expr.Slice none (some _) none _) (Value.ref _) (Value.ref _)) _ _ _); k_dflt (refine' sliceUpto (s := ⟨_, _, _, _, _⟩) ?F ?N ?m ?x ?z ?_; (case F => k_asm); (case N => k_asm); (case m => k_mem); (case z => assumption); (case x => first | decide | omega)); intro _ _ _ _ l1; (try dsimp only [AllLt] at l1); (try k_sweep)) | with_reducible (k_here; (with_reducible show wpAny _ _ (subscriptTail _ (PySem.Expr.Slice (some _) none none _) (Value.ref _) (Value.ref _)) _ _ _); k_dflt (refine' sliceFrom (s := ⟨_, _, _, _, _⟩) ?F ?N ?m ?x ?z ?_; (case F => k_asm); (case N => k_asm); (case m => k_mem); (case z => first | assumption | exact Nat.le_trans (Nat.le_of_eq (by assumption)) (by decide)); (case x => first | decide | omega)); intro _ _ _ _ l1; (try dsimp only [AllLt] at l1); (try k_sweep)) | with_reducible (k_here; (with_reducible show wpAny _ _ (subscriptTail (Expr.Constant _ _ _) _ (Value.str _ _) (Value.int _ _)) _ _ _); (refine cod_tail (by assumption) ?_ (by with_unfolding_all rfl) (by intro _; with_unfolding_all rfl)))) | walk1 | (dsimp only; walk1) | (leave1; try dsimp only))
          refine cb_retI ret ?_ (by assumption) (by assumption)
          exact zs_bit 3 (by omega)
      intro t10 h10 tk10 F10 N10
      clear F9 N9 F8 N8
      repeat' ((fail_if_success (with_reducible show FgPost _ _ _ _ _ _ _ _ _ _ _ _)); (fail_if_success (with_reducible show KswEnd _ _ _ _ _ _ _ _ _ _ _ _)); (fail_if_success (with_reducible show FcEnd _ _ _ _ _ _ _ _ _ _)); (fail_if_success (with_reducible show CutEnd _ _ _ _ _ _ _ _ _)); first | (k_unfold; (try dsimp only)) | (k_end; wrow_close) | ((first | ((with_reducible show wpAny _ _ (subscriptTail _ _ _ _) _ _ _); first | (k_here; (with_reducible show wpAny _ _ (subscriptTail (PySem.Expr.Name _ _) (PySem.Expr.Name _ _) (Value.ref _) (Value.int (Nat.cast _) _)) _ _ _); (refine item_lst (by k_asm) (by k_mem) (by exact rfl) (by decide) ?_)) | (k_here; (with_reducible show wpAny _ _ (subscriptTail (PySem.Expr.Subscript (PySem.Expr.Name _ _) (PySem.Expr.Name _ _) _) (PySem.Expr.Constant _ _ _) (Value.ref _) (Value.int _ _)) _ _ _); (refine item_tup (by k_asm) (by k_mem) (by decide) (by decide) (by exact rfl) (by exact rfl) ?_)) | (k_here; (with_reducible show wpAny _ _ (subscriptTail (PySem.Expr.Subscript (PySem.Expr.Subscript _ _ _) (PySem.Expr.Constant _ _ _) _) (PySem.Expr.BinOp _ _ _ _) (Value.ref _) (Value.int (HSub.hSub _ _) _)) _ _ _); (refine item_ints (by k_asm) (by k_mem) (by with_reducible assumption) (by omega) (by omega) (by omega) ?_); intro _) | with_reducible (k_here; (with_reducible show wpAny _ _ (subscriptTail _ (PySem.Expr.Slice _ _ _ _) (Value.str _ _) (Value.ref _)) _ _ _); kxi_slice; intro _ _ _ _ _) | with_reducible (k_here; (with_reducible show wpAny _ _ (subscriptTail _ (PySem.Expr.Slice (some _) (some _) none _) (Value.ref _) (Value.ref _)) _ _ _); k_dflt (refine' sliceRun (s := ⟨_, _, _, _, _⟩) ?F ?N ?m ?x ?y ?z ?_; (case F => k_asm); (case N => k_asm); (case m => k_mem); (case z => assumption); (case x => first | decide | omega); (case y => first | decide | omega)); intro _ _ _ _ l1; (try dsimp only [AllLt] at l1); (try k_sweep)) | with_reducible (k_here; (with_reducible show wpAny _ _ (subscriptTail _ (PySem.Expr.Slice none (some _) none _) (Value.ref _) (Value.ref _)) _ _ _); k_dflt (refine' sliceUpto (s := ⟨_, _, _, _, _⟩) ?F ?N ?m ?x ?z ?_; (case F => k_asm); (case N => k_asm); (case m => k_mem); (case z => assumption); (case x => first | decide | omega)); intro _ _ _ _ l1; (try dsimp only [AllLt] at l1); (try k_sweep)) | with_reducible (k_here; (with_reducible show wpAny _ _ (subscriptTail _ (PySem.Expr.Slice (some _) none none _) (Value.ref _) (Value.ref _)) _ _ _); k_dflt (refine' sliceFrom (s := ⟨_, _, _, _, _⟩) ?F ?N ?m ?x ?z ?_; (case F => k_asm); (case N => k_asm); (case m => k_mem); (case z => first | assumption | exact Nat.le_trans (Nat.le_of_eq (by assumption)) (by decide)); (case x => first | decide | omega)); intro _ _ _ _ l1; (try dsimp only [AllLt] at l1); (try k_sweep)) | with_reducible (k_here; (with_reducible show wpAny _ _ (subscriptTail (Expr.Constant _ _ _) _ (Value.str _ _) (Value.int _ _)) _ _ _); (refine cod_tail (by assumption) ?_ (by with_unfolding_all rfl) (by intro _; with_unfolding_all rfl)))) | walk1); (all_goals ((try ((fail_if_success (fail_if_success (with_reducible rename (_ ∧ _) => hx9))); refine viaR ?_; intro R9 k9; (repeat (first | ((with_reducible rename (_ ∧ _ ∧ _ ∧ _ ∧ _ ∧ _ ∧ _ ∧ _) => hx9); refine and8 hx9 ?_; clear hx9; intro _ _ _ _ _ _ _ _) | ((with_reducible rename (_ ∧ _ ∧ _ ∧ _) => hx9); refine and4 hx9 ?_; clear hx9; intro _ _ _ _) | ((with_reducible rename (_ ∧ _) => hx9); refine and2 hx9 ?_; clear hx9; intro _ _) | ((with_reducible rename True => hx9); clear hx9))); refine k9 ?_; clear k9 R9)); repeat ((with_reducible rename (@Ne Nat _ _) => hx9); (have hx8 := apart_of hx9); clear hx9)))) | (dsimp only; walk1) | (leave1; try dsimp only))
      refine ofGenF hRR1 ?_
      (rename Fr _ _ _ _ => F5); (rename News _ _ _ _ => N5)
      rw [List.push_toArray] at N5
      refine fgEnd ((fs ++ [_], ns ++ [firstN ms i], _), some (c9, oc9), (_, some (.int (i : Int) t))) F5 N5 (by exact fmem (by k_mem) (fmem (by k_mem) (by (simp only [tabL, List.cons_append, List.nil_append]); (repeat (first | exact List.forall_mem_nil _ | refine fmem (by k_mem) ?_))))) (fun p hp => by (first | exact hp | exact List.Mem.tail _ (hp) | exact List.Mem.tail _ (List.Mem.tail _ (hp)) | exact List.Mem.tail _ (List.Mem.tail _ (List.Mem.tail _ (hp))) | exact List.Mem.tail _ (List.Mem.tail _ (List.Mem.tail _ (List.Mem.tail _ (hp)))) | exact List.Mem.tail _ (List.Mem.tail _ (List.Mem.tail _ (List.Mem.tail _ (List.Mem.tail _ (hp))))) | exact List.Mem.tail _ (List.Mem.tail _ (List.Mem.tail _ (List.Mem.tail _ (List.Mem.tail _ (List.Mem.tail _ (hp)))))) | exact List.Mem.tail _ (List.Mem.tail _ (List.Mem.tail _ (List.Mem.tail _ (List.Mem.tail _ (List.Mem.tail _ (List.Mem.tail _ (hp))))))) | exact List.Mem.tail _ (List.Mem.tail _ (List.Mem.tail _ (List.Mem.tail _ (List.Mem.tail _ (List.Mem.tail _ (List.Mem.tail _ (List.Mem.tail _ (hp)))))))) | exact List.Mem.tail _ (List.Mem.tail _ (List.Mem.tail _ (List.Mem.tail _ (List.Mem.tail _ (List.Mem.tail _ (List.Mem.tail _ (List.Mem.tail _ (List.Mem.tail _ (hp))))))))) | exact List.Mem.tail _ (List.Mem.tail _ (List.Mem.tail _ (List.Mem.tail _ (List.Mem.tail _ (List.Mem.tail _ (List.Mem.tail _ (List.Mem.tail _ (List.Mem.tail _ (List.Mem.tail _ (hp)))))))))) | exact List.Mem.tail _ (List.Mem.tail _ (List.Mem.tail _ (List.Mem.tail _ (List.Mem.tail _ (List.Mem.tail _ (List.Mem.tail _ (List.Mem.tail _ (List.Mem.tail _ (List.Mem.tail _ (List.Mem.tail _ (hp))))))))))) | exact List.Mem.tail _ (List.Mem.tail _ (List.Mem.tail _ (List.Mem.tail _ (List.Mem.tail _ (List.Mem.tail _ (List.Mem.tail _ (List.Mem.tail _ (List.Mem.tail _ (List.Mem.tail _ (List.Mem.tail _ (List.Mem.tail _ (hp)))))))))))) | exact List.Mem.tail _ (List.Mem.tail _ (List.Mem.tail _ (List.Mem.tail _ (List.Mem.tail _ (List.Mem.tail _ (List.Mem.tail _ (List.Mem.tail _ (List.Mem.tail _ (List.Mem.tail _ (List.Mem.tail _ (List.Mem.tail _ (List.Mem.tail _ (hp))))))))))))) | exact List.Mem.tail _ (List.Mem.tail _ (List.Mem.tail _ (List.Mem.tail _ (List.Mem.tail _ (List.Mem.tail _ (List.Mem.tail _ (List.Mem.tail _ (List.Mem.tail _ (List.Mem.tail _ (List.Mem.tail _ (List.Mem.tail _ (List.Mem.tail _ (List.Mem.tail _ (hp)))))))))))))) | exact List.Mem.tail _ (List.Mem.tail _ (List.Mem.tail _ (List.Mem.tail _ (List.Mem.tail _ (List.Mem.tail _ (List.Mem.tail _ (List.Mem.tail _ (List.Mem.tail _ (List.Mem.tail _ (List.Mem.tail _ (List.Mem.tail _ (List.Mem.tail _ (List.Mem.tail _ (List.Mem.tail _ (hp))))))))))))))) | exact List.Mem.tail _ (List.Mem.tail _ (List.Mem.tail _ (List.Mem.tail _ (List.Mem.tail _ (List.Mem.tail _ (List.Mem.tail _ (List.Mem.tail _ (List.Mem.tail _ (List.Mem.tail _ (List.Mem.tail _ (List.Mem.tail _ (List.Mem.tail _ (List.Mem.tail _ (List.Mem.tail _ (List.Mem.tail _ (hp)))))))))))))))) | exact List.Mem.tail _ (List.Mem.tail _ (List.Mem.tail _ (List.Mem.tail _ (List.Mem.tail _ (List.Mem.tail _ (List.Mem.tail _ (List.Mem.tail _ (List.Mem.tail _ (List.Mem.tail _ (List.Mem.tail _ (List.Mem.tail _ (List.Mem.tail _ (List.Mem.tail _ (List.Mem.tail _ (List.Mem.tail _ (List.Mem.tail _ (hp))))))))))))))))) | exact List.Mem.tail _ (List.Mem.tail _ (List.Mem.tail _ (List.Mem.tail _ (List.Mem.tail _ (List.Mem.tail _ (List.Mem.tail _ (List.Mem.tail _ (List.Mem.tail _ (List.Mem.tail _ (List.Mem.tail _ (List.Mem.tail _ (List.Mem.tail _ (List.Mem.tail _ (List.Mem.tail _ (List.Mem.tail _ (List.Mem.tail _ (List.Mem.tail _ (hp)))))))))))))))))) | exact List.Mem.tail _ (List.Mem.tail _ (List.Mem.tail _ (List.Mem.tail _ (List.Mem.tail _ (List.Mem.tail _ (List.Mem.tail _ (List.Mem.tail _ (List.Mem.tail _ (List.Mem.tail _ (List.Mem.tail _ (List.Mem.tail _ (List.Mem.tail _ (List.Mem.tail _ (List.Mem.tail _ (List.Mem.tail _ (List.Mem.tail _ (List.Mem.tail _ (List.Mem.tail _ (hp))))))))))))))))))) | exact List.Mem.tail _ (List.Mem.tail _ (List.Mem.tail _ (List.Mem.tail _ (List.Mem.tail _ (List.Mem.tail _ (List.Mem.tail _ (List.Mem.tail _ (List.Mem.tail _ (List.Mem.tail _ (List.Mem.tail _ (List.Mem.tail _ (List.Mem.tail _ (List.Mem.tail _ (List.Mem.tail _ (List.Mem.tail _ (List.Mem.tail _ (List.Mem.tail _ (List.Mem.tail _ (List.Mem.tail _ (hp)))))))))))))))))))) | exact List.Mem.tail _ (List.Mem.tail _ (List.Mem.tail _ (List.Mem.tail _ (List.Mem.tail _ (List.Mem.tail _ (List.Mem.tail _ (List.Mem.tail _ (List.Mem.tail _ (List.Mem.tail _ (List.Mem.tail _ (List.Mem.tail _ (List.Mem.tail _ (List.Mem.tail _ (List.Mem.tail _ (List.Mem.tail _ (List.Mem.tail _ (List.Mem.tail _ (List.Mem.tail _ (List.Mem.tail _ (List.Mem.tail _ (hp))))))))))))))))))))) | exact List.Mem.tail _ (List.Mem.tail _ (List.Mem.tail _ (List.Mem.tail _ (List.Mem.tail _ (List.Mem.tail _ (List.Mem.tail _ (List.Mem.tail _ (List.Mem.tail _ (List.Mem.tail _ (List.Mem.tail _ (List.Mem.tail _ (List.Mem.tail _ (List.Mem.tail _ (List.Mem.tail _ (List.Mem.tail _ (List.Mem.tail _ (List.Mem.tail _ (List.Mem.tail _ (List.Mem.tail _ (List.Mem.tail _ (List.Mem.tail _ (hp)))))))))))))))))))))) | exact List.Mem.tail _ (List.Mem.tail _ (List.Mem.tail _ (List.Mem.tail _ (List.Mem.tail _ (List.Mem.tail _ (List.Mem.tail _ (List.Mem.tail _ (List.Mem.tail _ (List.Mem.tail _ (List.Mem.tail _ (List.Mem.tail _ (List.Mem.tail _ (List.Mem.tail _ (List.Mem.tail _ (List.Mem.tail _ (List.Mem.tail _ (List.Mem.tail _ (List.Mem.tail _ (List.Mem.tail _ (List.Mem.tail _ (List.Mem.tail _ (List.Mem.tail _ (hp))))))))))))))))))))))))) ?_ (fun p hp => nomatch hp) (by (intro z h2 h3; (have hs0 : z ≠ Str.ofString "starts" := by rintro rfl; exact absurd h3 (by decide)); simp only [kstB, h3, if_neg hs0, Bool.false_eq_true, if_false])) ⟨by rw [zs_app]; exact ints_push hP1, ?_, dS9, ⟨fv9, tq9, d19, d29⟩, ?_⟩
      · exact hoff
      · rw [hP2, List.range_succ, List.map_append]; rfl
      · assumption
  case done =>
  refine all_3_1_1_1 ?_; intro fs ns kf tb oS2 vS u h tk hP F8 N8
  have hP1 := hP.1; have hP2 := hP.2.1; have hP3 := hP.2.2.1; have hP4 := hP.2.2.2; clear hP
  dsimp only at hP1 hP2 hP3 F8 N8
  dsimp only [AllNe] at hn4 hn81 hn2 hn30
  have hnF : AllNe aF ((aR, LCg.lst [.ref u0, .ref u1, .ref u2, .ref u3]) :: (u3, tupOf #[.int (stN ms 3 : Nat) t3r, .ref c3]) :: (c3, listOf v3.toArray k3r) :: (u2, tupOf #[.int (stN ms 2 : Nat) t2r, .ref c2]) :: (c2, listOf v2.toArray k2r) :: (u1, tupOf #[.int (stN ms 1 : Nat) t1r, .ref c1]) :: (c1, listOf v1.toArray k1r) :: (u0, tupOf #[.int (stN ms 0 : Nat) t0r, .ref c0]) :: (c0, listOf v0.toArray k0r) :: [(s1.heap.objs.size + 1 + 1 + 1, oR2), (s1.heap.objs.size + 1 + 1, oT), (30, tabObj #[])]) := by
    dsimp only [AllNe]
    (repeat' (first | exact trivial | assumption | exact ⟨by assumption⟩ | exact ⟨Nat.ne_of_lt (by assumption)⟩ | exact ⟨by k_ne⟩ | refine And.intro ?_ ?_))
  refine exE (tabL_ps 81 145 48 tb) ?_; intro ps81 hps81
  have N91 := cb_drop (news := (s1.heap.objs.size + 1 + 1, oT) :: ((aR, LCg.lst [.ref u0, .ref u1, .ref u2, .ref u3]) :: (u3, tupOf #[.int (stN ms 3 : Nat) t3r, .ref c3]) :: (c3, listOf v3.toArray k3r) :: (u2, tupOf #[.int (stN ms 2 : Nat) t2r, .ref c2]) :: (c2, listOf v2.toArray k2r) :: (u1, tupOf #[.int (stN ms 1 : Nat) t1r, .ref c1]) :: (c1, listOf v1.toArray k1r) :: (u0, tupOf #[.int (stN ms 0 : Nat) t0r, .ref c0]) :: (c0, listOf v0.toArray k0r) :: [(s1.heap.objs.size + 1 + 1 + 1, oR2), (aF, listOf fs.toArray kf), (37, tabObj ps37), (30, tabObj #[])])) N8 (by simp only [tabL, List.cons_append, List.nil_append]; (repeat (first | exact List.forall_mem_nil _ | refine fmem (by first | k_mem | exact List.Mem.tail _ (List.Mem.tail _ (List.mem_append_right _ (by k_mem)))) ?_)))
  have N81 : News _ _ _ [(81, tabObj ps81)] := fmem (N8 _ (List.Mem.tail _ (List.Mem.tail _ (List.mem_append_left _ hps81)))) (List.forall_mem_nil _)
  have N92 := newsApp N81 N91
  clear N8 hps81
  have N9 := cb_drop (news := (s1.heap.objs.size + 1 + 1, oT) :: (((aF, listOf fs.toArray kf) :: (aR, LCg.lst [.ref u0, .ref u1, .ref u2, .ref u3]) :: (u3, tupOf #[.int (stN ms 3 : Nat) t3r, .ref c3]) :: (c3, listOf v3.toArray k3r) :: (u2, tupOf #[.int (stN ms 2 : Nat) t2r, .ref c2]) :: (c2, listOf v2.toArray k2r) :: (u1, tupOf #[.int (stN ms 1 : Nat) t1r, .ref c1]) :: (c1, listOf v1.toArray k1r) :: (u0, tupOf #[.int (stN ms 0 : Nat) t0r, .ref c0]) :: (c0, listOf v0.toArray k0r) :: [(s1.heap.objs.size + 1 + 1 + 1, oR2), (37, tabObj ps37), (81, tabObj ps81)]) ++ tabL 30 53 4 none)) N92 (by simp only [tabL, List.cons_append, List.nil_append]; (repeat (first | exact List.forall_mem_nil _ | refine fmem (by k_mem) ?_)))
  clear N91 N92 N81
  subst hP2
  clear hP4 hP3 Nc Nz Fz hn4 hn81
  (try k_unfold); (try dsimp only)
  repeat' ((fail_if_success (with_reducible show wpAny _ _ (exec (Stmt.While _ _ _ _) _) _ _ _)); (fail_if_success (with_reducible show wpAny _ _ (exec (Stmt.For _ _ _ _ _) _) _ _ _)); (fail_if_success (with_reducible show KswEnd _ _ _ _ _ _ _ _ _ _ _ _)); (fail_if_success (with_reducible show FcEnd _ _ _ _ _ _ _ _ _ _)); (fail_if_success (with_reducible show CutEnd _ _ _ _ _ _ _ _ _)); first | (k_unfold; (try dsimp only)) | (k_end; wrow_close) | ((with_reducible show wpAny _ _ (subscriptTail _ _ _ _) _ _ _); first | (k_here; (with_reducible show wpAny _ _ (subscriptTail (PySem.Expr.Name _ _) (PySem.Expr.Name _ _) (Value.ref _) (Value.int (Nat.cast _) _)) _ _ _); (refine item_lst (by k_asm) (by k_mem) (by exact rfl) (by decide) ?_)) | (k_here; (with_reducible show wpAny _ _ (subscriptTail (PySem.Expr.Subscript (PySem.Expr.Name _ _) (PySem.Expr.Name _ _) _) (PySem.Expr.Constant _ _ _) (Value.ref _) (Value.int _ _)) _ _ _); (refine item_tup (by k_asm) (by k_mem) (by decide) (by decide) (by exact rfl) (by exact rfl) ?_)) | (k_here; (with_reducible show wpAny _ _ (subscriptTail (PySem.Expr.Subscript (PySem.Expr.Subscript _ _ _) (PySem.Expr.Constant _ _ _) _) (PySem.Expr.BinOp _ _ _ _) (Value.ref _) (Value.int (HSub.hSub _ _) _)) _ _ _); (refine item_ints (by k_asm) (by k_mem) (by with_reducible assumption) (by omega) (by omega) (by omega) ?_); intro _) | with_reducible (k_here; (with_reducible show wpAny _ _ (subscriptTail _ (PySem.Expr.Slice _ _ _ _) (Value.str _ _) (Value.ref _)) _ _ _); kxi_slice; intro _ _ _ _ _) | with_reducible (k_here; (with_reducible show wpAny _ _ (subscriptTail _ (PySem.Expr.Slice (some _) (some _) none _) (Value.ref _) (Value.ref _)) _ _ _); k_dflt (refine' sliceRun (s := ⟨_, _, _, _, _⟩) ?F ?N ?m ?x ?y ?z ?_; (case F => k_asm); (case N => k_asm); (case m => k_mem); (case z => assumption); (case x => first | decide | omega); (case y => first | decide | omega)); intro _ _ _ _ l1; (try dsimp only [AllLt] at l1); (try k_sweep)) | with_reducible (k_here; (with_reducible show wpAny _ _ (subscriptTail _ (PySem.Expr.Slice none (some _) none _) (Value.ref _) (Value.ref _)) _ _ _); k_dflt (refine' sliceUpto (s := ⟨_, _, _, _, _⟩) ?F ?N ?m ?x ?z ?_; (case F => k_asm); (case N => k_asm); (case m => k_mem); (case z => assumption); (case x => first | decide | omega)); intro _ _ _ _ l1; (try dsimp only [AllLt] at l1); (try k_sweep)) | with_reducible (k_here; (with_reducible show wpAny _ _ (subscriptTail _ (PySem.Expr.Slice (some _) none none _) (Value.ref _) (Value.ref _)) _ _ _); k_dflt (refine' sliceFrom (s := ⟨_, _, _, _, _⟩) ?F ?N ?m ?x ?z ?_; (case F => k_asm); (case N => k_asm); (case m => k_mem); (case z => first | assumption | exact Nat.le_trans (Nat.le_of_eq (by assumption)) (by decide)); (case x => first | decide | omega)); intro _ _ _ _ l1; (try dsimp only [AllLt] at l1); (try k_sweep)) | with_reducible (k_here; (with_reducible show wpAny _ _ (subscriptTail (Expr.Constant _ _ _) _ (Value.str _ _) (Value.int _ _)) _ _ _); (refine cod_tail (by assumption) ?_ (by with_unfolding_all rfl) (by intro _; with_unfolding_all rfl)))) | walk1 | (dsimp only; walk1) | (leave1; try dsimp only))
  with_unfolding_all refine' For_turns F8 ?_
  k_whole
  repeat' ((fail_if_success (with_reducible show wpAny _ _ (pyIter _) _ _ _)); (fail_if_success (with_reducible show KswEnd _ _ _ _ _ _ _ _ _ _ _ _)); (fail_if_success (with_reducible show FcEnd _ _ _ _ _ _ _ _ _ _)); (fail_if_success (with_reducible show CutEnd _ _ _ _ _ _ _ _ _)); first | (k_unfold; (try dsimp only)) | (k_end; wrow_close) | ((with_reducible show wpAny _ _ (subscriptTail _ _ _ _) _ _ _); first | (k_here; (with_reducible show wpAny _ _ (subscriptTail (PySem.Expr.Name _ _) (PySem.Expr.Name _ _) (Value.ref _) (Value.int (Nat.cast _) _)) _ _ _); (refine item_lst (by k_asm) (by k_mem) (by exact rfl) (by decide) ?_)) | (k_here; (with_reducible show wpAny _ _ (subscriptTail (PySem.Expr.Subscript (PySem.Expr.Name _ _) (PySem.Expr.Name _ _) _) (PySem.Expr.Constant _ _ _) (Value.ref _) (Value.int _ _)) _ _ _); (refine item_tup (by k_asm) (by k_mem) (by decide) (by decide) (by exact rfl) (by exact rfl) ?_)) | (k_here; (with_reducible show wpAny _ _ (subscriptTail (PySem.Expr.Subscript (PySem.Expr.Subscript _ _ _) (PySem.Expr.Constant _ _ _) _) (PySem.Expr.BinOp _ _ _ _) (Value.ref _) (Value.int (HSub.hSub _ _) _)) _ _ _); (refine item_ints (by k_asm) (by k_mem) (by with_reducible assumption) (by omega) (by omega) (by omega) ?_); intro _) | with_reducible (k_here; (with_reducible show wpAny _ _ (subscriptTail _ (PySem.Expr.Slice _ _ _ _) (Value.str _ _) (Value.ref _)) _ _ _); kxi_slice; intro _ _ _ _ _) | with_reducible (k_here; (with_reducible show wpAny _ _ (subscriptTail _ (PySem.Expr.Slice (some _) (some _) none _) (Value.ref _) (Value.ref _)) _ _ _); k_dflt (refine' sliceRun (s := ⟨_, _, _, _, _⟩) ?F ?N ?m ?x ?y ?z ?_; (case F => k_asm); (case N => k_asm); (case m => k_mem); (case z => assumption); (case x => first | decide | omega); (case y => first | decide | omega)); intro _ _ _ _ l1; (try dsimp only [AllLt] at l1); (try k_sweep)) | with_reducible (k_here; (with_reducible show wpAny _ _ (subscriptTail _ (PySem.Expr.Slice none (some _) none _) (Value.ref _) (Value.ref _)) _ _ _); k_dflt (refine' sliceUpto (s := ⟨_, _, _, _, _⟩) ?F ?N ?m ?x ?z ?_; (case F => k_asm); (case N => k_asm); (case m => k_mem); (case z => assumption); (case x => first | decide | omega)); intro _ _ _ _ l1; (try dsimp only [AllLt] at l1); (try k_sweep)) | with_reducible (k_here; (with_reducible show wpAny _ _ (subscriptTail _ (PySem.Expr.Slice (some _) none none _) (Value.ref _) (Value.ref _)) _ _ _); k_dflt (refine' sliceFrom (s := ⟨_, _, _, _, _⟩) ?F ?N ?m ?x ?z ?_; (case F => k_asm); (case N => k_asm); (case m => k_mem); (case z => first | assumption | exact Nat.le_trans (Nat.le_of_eq (by assumption)) (by decide)); (case x => first | decide | omega)); intro _ _ _ _ l1; (try dsimp only [AllLt] at l1); (try k_sweep)) | with_reducible (k_here; (with_reducible show wpAny _ _ (subscriptTail (Expr.Constant _ _ _) _ (Value.str _ _) (Value.int _ _)) _ _ _); (refine cod_tail (by assumption) ?_ (by with_unfolding_all rfl) (by intro _; with_unfolding_all rfl)))) | walk1 | (dsimp only; walk1) | (leave1; try dsimp only))
  (rename Fr _ _ _ _ => Fz); (rename News _ _ _ _ => Nz)
  refine' rangeTurns (σ := Option (Addr × Obj) × Obj × Option Value) 4 (fun c => (s1.heap.objs.size + 1 + 1, c.2.1) :: (((aF, listOf fs.toArray kf) :: (aR, LCg.lst [.ref u0, .ref u1, .ref u2, .ref u3]) :: (u3, tupOf #[.int (stN ms 3 : Nat) t3r, .ref c3]) :: (c3, listOf v3.toArray k3r) :: (u2, tupOf #[.int (stN ms 2 : Nat) t2r, .ref c2]) :: (c2, listOf v2.toArray k2r) :: (u1, tupOf #[.int (stN ms 1 : Nat) t1r, .ref c1]) :: (c1, listOf v1.toArray k1r) :: (u0, tupOf #[.int (stN ms 0 : Nat) t0r, .ref c0]) :: (c0, listOf v0.toArray k0r) :: [(s1.heap.objs.size + 1 + 1 + 1, oR2), (37, tabObj ps37), (81, tabObj ps81)]) ++ tabL 30 53 4 c.1)) (fun _ => []) [Str.ofString "state", Str.ofString "carried", Str.ofString "digits", Str.ofString "noughts", Str.ofString "count", Str.ofString "ones", Str.ofString "end", Str.ofString "due", Str.ofString "size"] (fun _ c => c.2.1.data = Data.cell c.2.2 ∧ TabOkS (Str.ofString "_int2digits.<locals>.inner") ((s1.heap.objs.size + 1 + 1, oT) :: (30, tabObj #[]) :: ((aF, listOf fs.toArray kf) :: (aR, LCg.lst [.ref u0, .ref u1, .ref u2, .ref u3]) :: (u3, tupOf #[.int (stN ms 3 : Nat) t3r, .ref c3]) :: (c3, listOf v3.toArray k3r) :: (u2, tupOf #[.int (stN ms 2 : Nat) t2r, .ref c2]) :: (c2, listOf v2.toArray k2r) :: (u1, tupOf #[.int (stN ms 1 : Nat) t1r, .ref c1]) :: (c1, listOf v1.toArray k1r) :: (u0, tupOf #[.int (stN ms 0 : Nat) t0r, .ref c0]) :: (c0, listOf v0.toArray k0r) :: [(s1.heap.objs.size + 1 + 1 + 1, oR2), (37, tabObj ps37), (81, tabObj ps81)])) c.1) (none, oT, none) rfl (by assumption) (by decide) (by decide) Fz Nz ?hk ?hp ?turn ?done
  case hk => intro p hp; cases hp
  case hp => exact ⟨dT, trivial⟩
  case turn =>
    intro i t; refine all_1_1_1 ?_; intro tb oT2 vT u h tk own hi hP hoff Fa Na
    refine turnGen ?_; intro RR1 hRR1
    have hP3 := hP.1; have hP4 := hP.2; clear hP
    dsimp only at hP3 hP4 Fa Na hoff
    simp only [List.cons_append, List.append_assoc, List.nil_append] at Na
    dsimp only [AllNe] at hnF
    have hoff2 : OwnOff (tabL 30 53 4 tb ++ own) [s1.heap.objs.size + 1 + 1, aF, aR, u3, c3, u2, c2, u1, c1, u0, c0, s1.heap.objs.size + 1 + 1 + 1, 37, 81] := by
      refine offTab (l := ((s1.heap.objs.size + 1 + 1, oT) :: (30, tabObj #[]) :: ((aF, listOf fs.toArray kf) :: (aR, LCg.lst [.ref u0, .ref u1, .ref u2, .ref u3]) :: (u3, tupOf #[.int (stN ms 3 : Nat) t3r, .ref c3]) :: (c3, listOf v3.toArray k3r) :: (u2, tupOf #[.int (stN ms 2 : Nat) t2r, .ref c2]) :: (c2, listOf v2.toArray k2r) :: (u1, tupOf #[.int (stN ms 1 : Nat) t1r, .ref c1]) :: (c1, listOf v1.toArray k1r) :: (u0, tupOf #[.int (stN ms 0 : Nat) t0r, .ref c0]) :: (c0, listOf v0.toArray k0r) :: [(s1.heap.objs.size + 1 + 1 + 1, oR2), (37, tabObj ps37), (81, tabObj ps81)]))) hoff (by simp) ?_ (by simp) hP4
      simp only [List.forall_mem_cons]
      (try ((fail_if_success (fail_if_success (with_reducible rename (_ ∧ _) => hx9))); refine viaR ?_; intro R9 k9; (repeat (first | ((with_reducible rename (_ ∧ _ ∧ _ ∧ _ ∧ _ ∧ _ ∧ _ ∧ _) => hx9); refine and8 hx9 ?_; clear hx9; intro _ _ _ _ _ _ _ _) | ((with_reducible rename (_ ∧ _ ∧ _ ∧ _) => hx9); refine and4 hx9 ?_; clear hx9; intro _ _ _ _) | ((with_reducible rename (_ ∧ _) => hx9); refine and2 hx9 ?_; clear hx9; intro _ _) | ((with_reducible rename True => hx9); clear hx9))); refine k9 ?_; clear k9 R9))
      (repeat' (first | exact List.forall_mem_nil _ | k_ne | refine And.intro ?_ ?_))
    have hoffB : OwnOff own [s1.heap.objs.size + 1 + 1, aF, aR, u3, c3, u2, c2, u1, c1, u0, c0, s1.heap.objs.size + 1 + 1 + 1, 37, 81] := offSub hoff (by simp)
    generalize hown : tabL 30 53 4 tb ++ own = own2 at Na hoff2
    clear Fz Nz
    (try ((fail_if_success (fail_if_success (with_reducible rename (_ ∧ _) => hx9))); refine viaR ?_; intro R9 k9; (repeat (first | ((with_reducible rename (_ ∧ _ ∧ _ ∧ _ ∧ _ ∧ _ ∧ _ ∧ _) => hx9); refine and8 hx9 ?_; clear hx9; intro _ _ _ _ _ _ _ _) | ((with_reducible rename (_ ∧ _ ∧ _ ∧ _) => hx9); refine and4 hx9 ?_; clear hx9; intro _ _ _ _) | ((with_reducible rename (_ ∧ _) => hx9); refine and2 hx9 ?_; clear hx9; intro _ _) | ((with_reducible rename True => hx9); clear hx9))); refine k9 ?_; clear k9 R9))
    have hi4 : i < 4 ∧ True := ⟨hi, trivial⟩
    (repeat ((with_reducible rename (@LT.lt Nat _ _ _) => hx9); clear hx9))
    have hi : i < 4 := hi4.1
    clear hi4
    repeat' ((fail_if_success (with_reducible show wpAny _ _ (exec (Stmt.While _ _ _ _) _) _ _ _)); (fail_if_success (with_reducible show wpAny _ _ (exec (Stmt.For _ _ _ _ _) _) _ _ _)); (fail_if_success (with_reducible show wpAny _ _ (execs (Stmt.Assign _ _ _ :: _) _) _ _ _)); (fail_if_success (with_reducible show FgEnd _ _ _ _ _ _ _ _ _ _)); (fail_if_success (with_reducible show KswEnd _ _ _ _ _ _ _ _ _ _ _ _)); (fail_if_success (with_reducible show FcEnd _ _ _ _ _ _ _ _ _ _)); (fail_if_success (with_reducible show CutEnd _ _ _ _ _ _ _ _ _)); first | (k_unfold; (try dsimp only)) | (k_end; wrow_close) | ((first | ((with_reducible show wpAny _ _ (subscriptTail _ _ _ _) _ _ _); first | (k_here; (with_reducible show wpAny _ _ (subscriptTail (PySem.Expr.Name _ _) (PySem.Expr.Name _ _) (Value.ref _) (Value.int (Nat.cast _) _)) _ _ _); (refine item_lst (by k_asm) (by k_mem) (by exact rfl) (by decide) ?_)) | (k_here; (with_reducible show wpAny _ _ (subscriptTail (PySem.Expr.Subscript (PySem.Expr.Name _ _) (PySem.Expr.Name _ _) _) (PySem.Expr.Constant _ _ _) (Value.ref _) (Value.int _ _)) _ _ _); (refine item_tup (by k_asm) (by k_mem) (by decide) (by decide) (by exact rfl) (by exact rfl) ?_)) | (k_here; (with_reducible show wpAny _ _ (subscriptTail (PySem.Expr.Subscript (PySem.Expr.Subscript _ _ _) (PySem.Expr.Constant _ _ _) _) (PySem.Expr.BinOp _ _ _ _) (Value.ref _) (Value.int (HSub.hSub _ _) _)) _ _ _); (refine item_ints (by k_asm) (by k_mem) (by with_reducible assumption) (by omega) (by omega) (by omega) ?_); intro _) | with_reducible (k_here; (with_reducible show wpAny _ _ (subscriptTail _ (PySem.Expr.Slice _ _ _ _) (Value.str _ _) (Value.ref _)) _ _ _); kxi_slice; intro _ _ _ _ _) | with_reducible (k_here; (with_reducible show wpAny _ _ (subscriptTail _ (PySem.Expr.Slice (some _) (some _) none _) (Value.ref _) (Value.ref _)) _ _ _); k_dflt (refine' sliceRun (s := ⟨_, _, _, _, _⟩) ?F ?N ?m ?x ?y ?z ?_; (case F => k_asm); (case N => k_asm); (case m => k_mem); (case z => assumption); (case x => first | decide | omega); (case y => first | decide | omega)); intro _ _ _ _ l1; (try dsimp only [AllLt] at l1); (try k_sweep)) | with_reducible (k_here; (with_reducible show wpAny _ _ (subscriptTail _ (PySem.Expr.Slice none (some _) none _) (Value.ref _) (Value.ref _)) _ _ _); k_dflt (refine' sliceUpto (s := ⟨_, _, _, _, _⟩) ?F ?N ?m ?x ?z ?_; (case F => k_asm); (case N => k_asm); (case m => k_mem); (case z => assumption); (case x => first | decide | omega)); intro _ _ _ _ l1; (try dsimp only [AllLt] at l1); (try k_sweep)) | with_reducible (k_here; (with_reducible show wpAny _ _ (subscriptTail _ (PySem.Expr.Slice (some _) none none _) (Value.ref _) (Value.ref _)) _ _ _); k_dflt (refine' sliceFrom (s := ⟨_, _, _, _, _⟩) ?F ?N ?m ?x ?z ?_; (case F => k_asm); (case N => k_asm); (case m => k_mem); (case z => first | assumption | exact Nat.le_trans (Nat.le_of_eq (by assumption)) (by decide)); (case x => first | decide | omega)); intro _ _ _ _ l1; (try dsimp only [AllLt] at l1); (try k_sweep)) | with_reducible (k_here; (with_reducible show wpAny _ _ (subscriptTail (Expr.Constant _ _ _) _ (Value.str _ _) (Value.int _ _)) _ _ _); (refine cod_tail (by assumption) ?_ (by with_unfolding_all rfl) (by intro _; with_unfolding_all rfl)))) | walk1); (all_goals ((try ((fail_if_success (fail_if_success (with_reducible rename (_ ∧ _) => hx9))); refine viaR ?_; intro R9 k9; (repeat (first | ((with_reducible rename (_ ∧ _ ∧ _ ∧ _ ∧ _ ∧ _ ∧ _ ∧ _) => hx9); refine and8 hx9 ?_; clear hx9; intro _ _ _ _ _ _ _ _) | ((with_reducible rename (_ ∧ _ ∧ _ ∧ _) => hx9); refine and4 hx9 ?_; clear hx9; intro _ _ _ _) | ((with_reducible rename (_ ∧ _) => hx9); refine and2 hx9 ?_; clear hx9; intro _ _) | ((with_reducible rename True => hx9); clear hx9))); refine k9 ?_; clear k9 R9)); repeat ((with_reducible rename (@Ne Nat _ _) => hx9); (have hx8 := apart_of hx9); clear hx9)))) | (dsimp only; walk1) | (leave1; try dsimp only))
    (rename Fr _ _ _ _ => Fb); (rename News _ _ _ _ => Nb); (rename _ = Data.cell (some (Value.int _ _)) => dS9)
    rw [Int.zero_add] at dS9
    refine' stCut (σ := Obj × Addr × List Value × Nat × Tok × Tok) Fb (fun c => (s1.heap.objs.size + 1 + 1, c.1) :: (c.2.1, listOf c.2.2.1.toArray c.2.2.2.1) :: ((aF, listOf fs.toArray kf) :: ((aR, LCg.lst [.ref u0, .ref u1, .ref u2, .ref u3]) :: (u3, tupOf #[.int (stN ms 3 : Nat) t3r, .ref c3]) :: (c3, listOf v3.toArray k3r) :: (u2, tupOf #[.int (stN ms 2 : Nat) t2r, .ref c2]) :: (c2, listOf v2.toArray k2r) :: (u1, tupOf #[.int (stN ms 1 : Nat) t1r, .ref c1]) :: (c1, listOf v1.toArray k1r) :: (u0, tupOf #[.int (stN ms 0 : Nat) t0r, .ref c0]) :: (c0, listOf v0.toArray k0r) :: (s1.heap.objs.size + 1 + 1 + 1, oR2) :: (37, tabObj ps37) :: (81, tabObj ps81) :: own2))) (fun c => [(Str.ofString "state", .int (stN ms i : Nat) c.2.2.2.2.1), (Str.ofString "carried", .ref c.2.1)]) [] (fun c => c.1.data = Data.cell (some (.int (i : Int) c.2.2.2.2.2)) ∧ IntsAre c.2.2.1 (zs (caN ms i)) ∧ Apart c.2.1 30) ?h1 ?h2
    case h1 =>
      refine wpGen ?_; intro RR2 hRR2
      rcases (show i = 0 ∨ i = 1 ∨ i = 2 ∨ i = 3 by omega) with rfl | rfl | rfl | rfl
      · repeat' ((fail_if_success (with_reducible show CutPost _ _ _ _ _ _ _ _ _ _ _)); (fail_if_success (with_reducible show wpAny _ _ (exec (Stmt.For _ _ _ _ _) _) _ _ _)); (fail_if_success (with_reducible show KswEnd _ _ _ _ _ _ _ _ _ _ _ _)); (fail_if_success (with_reducible show FcEnd _ _ _ _ _ _ _ _ _ _)); (fail_if_success (with_reducible show CutEnd _ _ _ _ _ _ _ _ _)); first | (k_unfold; (try dsimp only)) | (k_end; wrow_close) | ((first | ((with_reducible show wpAny _ _ (subscriptTail _ _ _ _) _ _ _); first | (k_here; (with_reducible show wpAny _ _ (subscriptTail (PySem.Expr.Name _ _) (PySem.Expr.Name _ _) (Value.ref _) (Value.int (Nat.cast _) _)) _ _ _); (refine item_lst (by k_asm) (by k_mem) (by exact rfl) (by decide) ?_)) | (k_here; (with_reducible show wpAny _ _ (subscriptTail (PySem.Expr.Subscript (PySem.Expr.Name _ _) (PySem.Expr.Name _ _) _) (PySem.Expr.Constant _ _ _) (Value.ref _) (Value.int _ _)) _ _ _); (refine item_tup (by k_asm) (by k_mem) (by decide) (by decide) (by exact rfl) (by exact rfl) ?_)) | (k_here; (with_reducible show wpAny _ _ (subscriptTail (PySem.Expr.Subscript (PySem.Expr.Subscript _ _ _) (PySem.Expr.Constant _ _ _) _) (PySem.Expr.BinOp _ _ _ _) (Value.ref _) (Value.int (HSub.hSub _ _) _)) _ _ _); (refine item_ints (by k_asm) (by k_mem) (by with_reducible assumption) (by omega) (by omega) (by omega) ?_); intro _) | with_reducible (k_here; (with_reducible show wpAny _ _ (subscriptTail _ (PySem.Expr.Slice _ _ _ _) (Value.str _ _) (Value.ref _)) _ _ _); kxi_slice; intro _ _ _ _ _) | with_reducible (k_here; (with_reducible show wpAny _ _ (subscriptTail _ (PySem.Expr.Slice (some _) (some _) none _) (Value.ref _) (Value.ref _)) _ _ _); k_dflt (refine' sliceRun (s := ⟨_, _, _, _, _⟩) ?F ?N ?m ?x ?y ?z ?_; (case F => k_asm); (case N => k_asm); (case m => k_mem); (case z => assumption); (case x => first | decide | omega); (case y => first | decide | omega)); intro _ _ _ _ l1; (try dsimp only [AllLt] at l1); (try k_sweep)) | with_reducible (k_here; (with_reducible show wpAny _ _ (subscriptTail _ (PySem.Expr.Slice none (some _) none _) (Value.ref _) (Value.ref _)) _ _ _); k_dflt (refine' sliceUpto (s := ⟨_, _, _, _, _⟩) ?F ?N ?m ?x ?z ?_; (case F => k_asm); (case N => k_asm); (case m => k_mem); (case z => assumption); (case x => first | decide | omega)); intro _ _ _ _ l1; (try dsimp only [AllLt] at l1); (try k_sweep)) | with_reducible (k_here; (with_reducible show wpAny _ _ (subscriptTail _ (PySem.Expr.Slice (some _) none none _) (Value.ref _) (Value.ref _)) _ _ _); k_dflt (refine' sliceFrom (s := ⟨_, _, _, _, _⟩) ?F ?N ?m ?x ?z ?_; (case F => k_asm); (case N => k_asm); (case m => k_mem); (case z => first | assumption | exact Nat.le_trans (Nat.le_of_eq (by assumption)) (by decide)); (case x => first | decide | omega)); intro _ _ _ _ l1; (try dsimp only [AllLt] at l1); (try k_sweep)) | with_reducible (k_here; (with_reducible show wpAny _ _ (subscriptTail (Expr.Constant _ _ _) _ (Value.str _ _) (Value.int _ _)) _ _ _); (refine cod_tail (by assumption) ?_ (by with_unfolding_all rfl) (by intro _; with_unfolding_all rfl)))) | walk1); (all_goals ((try ((fail_if_success (fail_if_success (with_reducible rename (_ ∧ _) => hx9))); refine viaR ?_; intro R9 k9; (repeat (first | ((with_reducible rename (_ ∧ _ ∧ _ ∧ _ ∧ _ ∧ _ ∧ _ ∧ _) => hx9); refine and8 hx9 ?_; clear hx9; intro _ _ _ _ _ _ _ _) | ((with_reducible rename (_ ∧ _ ∧ _ ∧ _) => hx9); refine and4 hx9 ?_; clear hx9; intro _ _ _ _) | ((with_reducible rename (_ ∧ _) => hx9); refine and2 hx9 ?_; clear hx9; intro _ _) | ((with_reducible rename True => hx9); clear hx9))); refine k9 ?_; clear k9 R9)); repeat ((with_reducible rename (@Ne Nat _ _) => hx9); (have hx8 := apart_of hx9); clear hx9)))) | (dsimp only; walk1) | (leave1; try dsimp only))
        (rename Fr _ _ _ _ => F5); (rename News _ _ _ _ => N5)
        refine ofGenC hRR2 ?_
        exact cutEnd (_, c0, v0, k0r, t0r, _) F5 N5 (by exact fmem (by k_mem) (fmem (by k_mem) (fun p hp => List.Mem.tail _ hp))) (by kst_all) (by (intro z h2 h3; (have hz0 : z ≠ Str.ofString "state" := h2 _ (.head _)); (have hz1 : z ≠ Str.ofString "carried" := h2 _ (.tail _ (.head _))); simp only [kstB, h3, if_neg hz0, if_neg hz1, Bool.false_eq_true, if_false])) ⟨dS9, hv0, by assumption⟩
      · repeat' ((fail_if_success (with_reducible show CutPost _ _ _ _ _ _ _ _ _ _ _)); (fail_if_success (with_reducible show wpAny _ _ (exec (Stmt.For _ _ _ _ _) _) _ _ _)); (fail_if_success (with_reducible show KswEnd _ _ _ _ _ _ _ _ _ _ _ _)); (fail_if_success (with_reducible show FcEnd _ _ _ _ _ _ _ _ _ _)); (fail_if_success (with_reducible show CutEnd _ _ _ _ _ _ _ _ _)); first | (k_unfold; (try dsimp only)) | (k_end; wrow_close) | ((first | ((with_reducible show wpAny _ _ (subscriptTail _ _ _ _) _ _ _); first | (k_here; (with_reducible show wpAny _ _ (subscriptTail (PySem.Expr.Name _ _) (PySem.Expr.Name _ _) (Value.ref _) (Value.int (Nat.cast _) _)) _ _ _); (refine item_lst (by k_asm) (by k_mem) (by exact rfl) (by decide) ?_)) | (k_here; (with_reducible show wpAny _ _ (subscriptTail (PySem.Expr.Subscript (PySem.Expr.Name _ _) (PySem.Expr.Name _ _) _) (PySem.Expr.Constant _ _ _) (Value.ref _) (Value.int _ _)) _ _ _); (refine item_tup (by k_asm) (by k_mem) (by decide) (by decide) (by exact rfl) (by exact rfl) ?_)) | (k_here; (with_reducible show wpAny _ _ (subscriptTail (PySem.Expr.Subscript (PySem.Expr.Subscript _ _ _) (PySem.Expr.Constant _ _ _) _) (PySem.Expr.BinOp _ _ _ _) (Value.ref _) (Value.int (HSub.hSub _ _) _)) _ _ _); (refine item_ints (by k_asm) (by k_mem) (by with_reducible assumption) (by omega) (by omega) (by omega) ?_); intro _) | with_reducible (k_here; (with_reducible show wpAny _ _ (subscriptTail _ (PySem.Expr.Slice _ _ _ _) (Value.str _ _) (Value.ref _)) _ _ _); kxi_slice; intro _ _ _ _ _) | with_reducible (k_here; (with_reducible show wpAny _ _ (subscriptTail _ (PySem.Expr.Slice (some _) (some _) none _) (Value.ref _) (Value.ref _)) _ _ _); k_dflt (refine' sliceRun (s := ⟨_, _, _, _, _⟩) ?F ?N ?m ?x ?y ?z ?_; (case F => k_asm); (case N => k_asm); (case m => k_mem); (case z => assumption); (case x => first | decide | omega); (case y => first | decide | omega)); intro _ _ _ _ l1; (try dsimp only [AllLt] at l1); (try k_sweep)) | with_reducible (k_here; (with_reducible show wpAny _ _ (subscriptTail _ (PySem.Expr.Slice none (some _) none _) (Value.ref _) (Value.ref _)) _ _ _); k_dflt (refine' sliceUpto (s := ⟨_, _, _, _, _⟩) ?F ?N ?m ?x ?z ?_; (case F => k_asm); (case N => k_asm); (case m => k_mem); (case z => assumption); (case x => first | decide | omega)); intro _ _ _ _ l1; (try dsimp only [AllLt] at l1); (try k_sweep)) | with_reducible (k_here; (with_reducible show wpAny _ _ (subscriptTail _ (PySem.Expr.Slice (some _) none none _) (Value.ref _) (Value.ref _)) _ _ _); k_dflt (refine' sliceFrom (s := ⟨_, _, _, _, _⟩) ?F ?N ?m ?x ?z ?_; (case F => k_asm); (case N => k_asm); (case m => k_mem); (case z => first | assumption | exact Nat.le_trans (Nat.le_of_eq (by assumption)) (by decide)); (case x => first | decide | omega)); intro _ _ _ _ l1; (try dsimp only [AllLt] at l1); (try k_sweep)) | with_reducible (k_here; (with_reducible show wpAny _ _ (subscriptTail (Expr.Constant _ _ _) _ (Value.str _ _) (Value.int _ _)) _ _ _); (refine cod_tail (by assumption) ?_ (by with_unfolding_all rfl) (by intro _; with_unfolding_all rfl)))) | walk1); (all_goals ((try ((fail_if_success (fail_if_success (with_reducible rename (_ ∧ _) => hx9))); refine viaR ?_; intro R9 k9; (repeat (first | ((with_reducible rename (_ ∧ _ ∧ _ ∧ _ ∧ _ ∧ _ ∧ _ ∧ _) => hx9); refine and8 hx9 ?_; clear hx9; intro _ _ _ _ _ _ _ _) | ((with_reducible rename (_ ∧ _ ∧ _ ∧ _) => hx9); refine and4 hx9 ?_; clear hx9; intro _ _ _ _) | ((with_reducible rename (_ ∧ _) => hx9); refine and2 hx9 ?_; clear hx9; intro _ _) | ((with_reducible rename True => hx9); clear hx9))); refine k9 ?_; clear k9 R9)); repeat ((with_reducible rename (@Ne Nat _ _) => hx9); (have hx8 := apart_of hx9); clear hx9)))) | (dsimp only; walk1) | (leave1; try dsimp only))
        (rename Fr _ _ _ _ => F5); (rename News _ _ _ _ => N5)
        refine ofGenC hRR2 ?_
        exact cutEnd (_, c1, v1, k1r, t1r, _) F5 N5 (by exact fmem (by k_mem) (fmem (by k_mem) (fun p hp => List.Mem.tail _ hp))) (by kst_all) (by (intro z h2 h3; (have hz0 : z ≠ Str.ofString "state" := h2 _ (.head _)); (have hz1 : z ≠ Str.ofString "carried" := h2 _ (.tail _ (.head _))); simp only [kstB, h3, if_neg hz0, if_neg hz1, Bool.false_eq_true, if_false])) ⟨dS9, hv1, by assumption⟩
      · repeat' ((fail_if_success (with_reducible show CutPost _ _ _ _ _ _ _ _ _ _ _)); (fail_if_success (with_reducible show wpAny _ _ (exec (Stmt.For _ _ _ _ _) _) _ _ _)); (fail_if_success (with_reducible show KswEnd _ _ _ _ _ _ _ _ _ _ _ _)); (fail_if_success (with_reducible show FcEnd _ _ _ _ _ _ _ _ _ _)); (fail_if_success (with_reducible show CutEnd _ _ _ _ _ _ _ _ _)); first | (k_unfold; (try dsimp only)) | (k_end; wrow_close) | ((first | ((with_reducible show wpAny _ _ (subscriptTail _ _ _ _) _ _ _); first | (k_here; (with_reducible show wpAny _ _ (subscriptTail (PySem.Expr.Name _ _) (PySem.Expr.Name _ _) (Value.ref _) (Value.int (Nat.cast _) _)) _ _ _); (refine item_lst (by k_asm) (by k_mem) (by exact rfl) (by decide) ?_)) | (k_here; (with_reducible show wpAny _ _ (subscriptTail (PySem.Expr.Subscript (PySem.Expr.Name _ _) (PySem.Expr.Name _ _) _) (PySem.Expr.Constant _ _ _) (Value.ref _) (Value.int _ _)) _ _ _); (refine item_tup (by k_asm) (by k_mem) (by decide) (by decide) (by exact rfl) (by exact rfl) ?_)) | (k_here; (with_reducible show wpAny _ _ (subscriptTail (PySem.Expr.Subscript (PySem.Expr.Subscript _ _ _) (PySem.Expr.Constant _ _ _) _) (PySem.Expr.BinOp _ _ _ _) (Value.ref _) (Value.int (HSub.hSub _ _) _)) _ _ _); (refine item_ints (by k_asm) (by k_mem) (by with_reducible assumption) (by omega) (by omega) (by omega) ?_); intro _) | with_reducible (k_here; (with_reducible show wpAny _ _ (subscriptTail _ (PySem.Expr.Slice _ _ _ _) (Value.str _ _) (Value.ref _)) _ _ _); kxi_slice; intro _ _ _ _ _) | with_reducible (k_here; (with_reducible show wpAny _ _ (subscriptTail _ (PySem.Expr.Slice (some _) (some _) none _) (Value.ref _) (Value.ref _)) _ _ _); k_dflt (refine' sliceRun (s := ⟨_, _, _, _, _⟩) ?F ?N ?m ?x ?y ?z ?_; (case F => k_asm); (case N => k_asm); (case m => k_mem); (case z => assumption); (case x => first | decide | omega); (case y => first | decide | omega)); intro _ _ _ _ l1; (try dsimp only [AllLt] at l1); (try k_sweep)) | with_reducible (k_here; (with_reducible show wpAny _ _ (subscriptTail _ (PySem.Expr.Slice none (some _) none _) (Value.ref _) (Value.ref _)) _ _ _); k_dflt (refine' sliceUpto (s := ⟨_, _, _, _, _⟩) ?F ?N ?m ?x ?z ?_; (case F => k_asm); (case N => k_asm); (case m => k_mem); (case z => assumption); (case x => first | decide | omega)); intro _ _ _ _ l1; (try dsimp only [AllLt] at l1); (try k_sweep)) | with_reducible (k_here; (with_reducible show wpAny _ _ (subscriptTail _ (PySem.Expr.Slice (some _) none none _) (Value.ref _) (Value.ref _)) _ _ _); k_dflt (refine' sliceFrom (s := ⟨_, _, _, _, _⟩) ?F ?N ?m ?x ?z ?_; (case F => k_asm); (case N => k_asm); (case m => k_mem); (case z => first | assumption | exact Nat.le_trans (Nat.le_of_eq (by assumption)) (by decide)); (case x => first | decide | omega)); intro _ _ _ _ l1; (try dsimp only [AllLt] at l1); (try k_sweep)) | with_reducible (k_here; (with_reducible show wpAny _ _ (subscriptTail (Expr.Constant _ _ _) _ (Value.str _ _) (Value.int _ _)) _ _ _); (refine cod_tail (by assumption) ?_ (by with_unfolding_all rfl) (by intro _; with_unfolding_all rfl)))) | walk1); (all_goals ((try ((fail_if_success (fail_if_success (with_reducible rename (_ ∧ _) => hx9))); refine viaR ?_; intro R9 k9; (repeat (first | ((with_reducible rename (_ ∧ _ ∧ _ ∧ _ ∧ _ ∧ _ ∧ _ ∧ _) => hx9); refine and8 hx9 ?_; clear hx9; intro _ _ _ _ _ _ _ _) | ((with_reducible rename (_ ∧ _ ∧ _ ∧ _) => hx9); refine and4 hx9 ?_; clear hx9; intro _ _ _ _) | ((with_reducible rename (_ ∧ _) => hx9); refine and2 hx9 ?_; clear hx9; intro _ _) | ((with_reducible rename True => hx9); clear hx9))); refine k9 ?_; clear k9 R9)); repeat ((with_reducible rename (@Ne Nat _ _) => hx9); (have hx8 := apart_of hx9); clear hx9)))) | (dsimp only; walk1) | (leave1; try dsimp only))
        (rename Fr _ _ _ _ => F5); (rename News _ _ _ _ => N5)
        refine ofGenC hRR2 ?_
        exact cutEnd (_, c2, v2, k2r, t2r, _) F5 N5 (by exact fmem (by k_mem) (fmem (by k_mem) (fun p hp => List.Mem.tail _ hp))) (by kst_all) (by (intro z h2 h3; (have hz0 : z ≠ Str.ofString "state" := h2 _ (.head _)); (have hz1 : z ≠ Str.ofString "carried" := h2 _ (.tail _ (.head _))); simp only [kstB, h3, if_neg hz0, if_neg hz1, Bool.false_eq_true, if_false])) ⟨dS9, hv2, by assumption⟩
      · repeat' ((fail_if_success (with_reducible show CutPost _ _ _ _ _ _ _ _ _ _ _)); (fail_if_success (with_reducible show wpAny _ _ (exec (Stmt.For _ _ _ _ _) _) _ _ _)); (fail_if_success (with_reducible show KswEnd _ _ _ _ _ _ _ _ _ _ _ _)); (fail_if_success (with_reducible show FcEnd _ _ _ _ _ _ _ _ _ _)); (fail_if_success (with_reducible show CutEnd _ _ _ _ _ _ _ _ _)); first | (k_unfold; (try dsimp only)) | (k_end; wrow_close) | ((first | ((with_reducible show wpAny _ _ (subscriptTail _ _ _ _) _ _ _); first | (k_here; (with_reducible show wpAny _ _ (subscriptTail (PySem.Expr.Name _ _) (PySem.Expr.Name _ _) (Value.ref _) (Value.int (Nat.cast _) _)) _ _ _); (refine item_lst (by k_asm) (by k_mem) (by exact rfl) (by decide) ?_)) | (k_here; (with_reducible show wpAny _ _ (subscriptTail (PySem.Expr.Subscript (PySem.Expr.Name _ _) (PySem.Expr.Name _ _) _) (PySem.Expr.Constant _ _ _) (Value.ref _) (Value.int _ _)) _ _ _); (refine item_tup (by k_asm) (by k_mem) (by decide) (by decide) (by exact rfl) (by exact rfl) ?_)) | (k_here; (with_reducible show wpAny _ _ (subscriptTail (PySem.Expr.Subscript (PySem.Expr.Subscript _ _ _) (PySem.Expr.Constant _ _ _) _) (PySem.Expr.BinOp _ _ _ _) (Value.ref _) (Value.int (HSub.hSub _ _) _)) _ _ _); (refine item_ints (by k_asm) (by k_mem) (by with_reducible assumption) (by omega) (by omega) (by omega) ?_); intro _) | with_reducible (k_here; (with_reducible show wpAny _ _ (subscriptTail _ (PySem.Expr.Slice _ _ _ _) (Value.str _ _) (Value.ref _)) _ _ _); kxi_slice; intro _ _ _ _ _) | with_reducible (k_here; (with_reducible show wpAny _ _ (subscriptTail _ (PySem.Expr.Slice (some _) (some _) none _) (Value.ref _) (Value.ref _)) _ _ _); k_dflt (refine' sliceRun (s := ⟨_, _, _, _, _⟩) ?F ?N ?m ?x ?y ?z ?_; (case F => k_asm); (case N => k_asm); (case m => k_mem); (case z => assumption); (case x => first | decide | omega); (case y => first | decide | omega)); intro _ _ _ _ l1; (try dsimp only [AllLt] at l1); (try k_sweep)) | with_reducible (k_here; (with_reducible show wpAny _ _ (subscriptTail _ (PySem.Expr.Slice none (some _) none _) (Value.ref _) (Value.ref _)) _ _ _); k_dflt (refine' sliceUpto (s := ⟨_, _, _, _, _⟩) ?F ?N ?m ?x ?z ?_; (case F => k_asm); (case N => k_asm); (case m => k_mem); (case z => assumption); (case x => first | decide | omega)); intro _ _ _ _ l1; (try dsimp only [AllLt] at l1); (try k_sweep)) | with_reducible (k_here; (with_reducible show wpAny _ _ (subscriptTail _ (PySem.Expr.Slice (some _) none none _) (Value.ref _) (Value.ref _)) _ _ _); k_dflt (refine' sliceFrom (s := ⟨_, _, _, _, _⟩) ?F ?N ?m ?x ?z ?_; (case F => k_asm); (case N => k_asm); (case m => k_mem); (case z => first | assumption | exact Nat.le_trans (Nat.le_of_eq (by assumption)) (by decide)); (case x => first | decide | omega)); intro _ _ _ _ l1; (try dsimp only [AllLt] at l1); (try k_sweep)) | with_reducible (k_here; (with_reducible show wpAny _ _ (subscriptTail (Expr.Constant _ _ _) _ (Value.str _ _) (Value.int _ _)) _ _ _); (refine cod_tail (by assumption) ?_ (by with_unfolding_all rfl) (by intro _; with_unfolding_all rfl)))) | walk1); (all_goals ((try ((fail_if_success (fail_if_success (with_reducible rename (_ ∧ _) => hx9))); refine viaR ?_; intro R9 k9; (repeat (first | ((with_reducible rename (_ ∧ _ ∧ _ ∧ _ ∧ _ ∧ _ ∧ _ ∧ _) => hx9); refine and8 hx9 ?_; clear hx9; intro _ _ _ _ _ _ _ _) | ((with_reducible rename (_ ∧ _ ∧ _ ∧ _) => hx9); refine and4 hx9 ?_; clear hx9; intro _ _ _ _) | ((with_reducible rename (_ ∧ _) => hx9); refine and2 hx9 ?_; clear hx9; intro _ _) | ((with_reducible rename True => hx9); clear hx9))); refine k9 ?_; clear k9 R9)); repeat ((with_reducible rename (@Ne Nat _ _) => hx9); (have hx8 := apart_of hx9); clear hx9)))) | (dsimp only; walk1) | (leave1; try dsimp only))
        (rename Fr _ _ _ _ => F5); (rename News _ _ _ _ => N5)
        refine ofGenC hRR2 ?_
        exact cutEnd (_, c3, v3, k3r, t3r, _) F5 N5 (by exact fmem (by k_mem) (fmem (by k_mem) (fun p hp => List.Mem.tail _ hp))) (by kst_all) (by (intro z h2 h3; (have hz0 : z ≠ Str.ofString "state" := h2 _ (.head _)); (have hz1 : z ≠ Str.ofString "carried" := h2 _ (.tail _ (.head _))); simp only [kstB, h3, if_neg hz0, if_neg hz1, Bool.false_eq_true, if_false])) ⟨dS9, hv3, by assumption⟩
    case h2 =>
    refine all_1_1_1_1_1_1 ?_; intro oS aC vC kC tS tI uq hq tkq hP Fc Nc
    have dS := hP.1; have hvC := hP.2.1; have hC30 := hP.2.2; clear hP
    dsimp only at dS hvC hC30 Fc Nc
    clear Fb Nb dS9 Fa Na
    generalize hRX : ((aR, LCg.lst [.ref u0, .ref u1, .ref u2, .ref u3]) :: (u3, tupOf #[.int (stN ms 3 : Nat) t3r, .ref c3]) :: (c3, listOf v3.toArray k3r) :: (u2, tupOf #[.int (stN ms 2 : Nat) t2r, .ref c2]) :: (c2, listOf v2.toArray k2r) :: (u1, tupOf #[.int (stN ms 1 : Nat) t1r, .ref c1]) :: (c1, listOf v1.toArray k1r) :: (u0, tupOf #[.int (stN ms 0 : Nat) t0r, .ref c0]) :: (c0, listOf v0.toArray k0r) :: (s1.heap.objs.size + 1 + 1 + 1, oR2) :: (37, tabObj ps37) :: (81, tabObj ps81) :: own2) = ownX at Nc
    have lC : (zs (caN ms i)).length = 16 - 4 * i := by rw [zs_len, caN_len, hmsl]
    have hz16 : (zs ((List.range 16).map (firstN ms))).length = 16 := by rw [zs_len, List.length_map, List.length_range]
    have lF : fs.length = 16 := by rw [hP1.length, zs_len, List.length_map, List.length_range]
    (try k_unfold); (try dsimp only)
    have hfd : IntsAre (fs.drop (4 * (i : Int)).toNat) ((zs ((List.range 16).map (firstN ms))).drop (4 * (i : Int)).toNat) := hP1.drop _
    repeat' ((fail_if_success (with_reducible show wpAny _ _ (eval (Expr.ListComp _ _ _ _) _) _ _ _)); (fail_if_success (with_reducible show KswEnd _ _ _ _ _ _ _ _ _ _ _ _)); (fail_if_success (with_reducible show FcEnd _ _ _ _ _ _ _ _ _ _)); (fail_if_success (with_reducible show CutEnd _ _ _ _ _ _ _ _ _)); first | (k_unfold; (try dsimp only)) | (k_end; wrow_close) | ((first | ((with_reducible show wpAny _ _ (subscriptTail _ _ _ _) _ _ _); first | (k_here; (with_reducible show wpAny _ _ (subscriptTail (PySem.Expr.Name _ _) (PySem.Expr.Name _ _) (Value.ref _) (Value.int (Nat.cast _) _)) _ _ _); (refine item_lst (by k_asm) (by k_mem) (by exact rfl) (by decide) ?_)) | (k_here; (with_reducible show wpAny _ _ (subscriptTail (PySem.Expr.Subscript (PySem.Expr.Name _ _) (PySem.Expr.Name _ _) _) (PySem.Expr.Constant _ _ _) (Value.ref _) (Value.int _ _)) _ _ _); (refine item_tup (by k_asm) (by k_mem) (by decide) (by decide) (by exact rfl) (by exact rfl) ?_)) | (k_here; (with_reducible show wpAny _ _ (subscriptTail (PySem.Expr.Subscript (PySem.Expr.Subscript _ _ _) (PySem.Expr.Constant _ _ _) _) (PySem.Expr.BinOp _ _ _ _) (Value.ref _) (Value.int (HSub.hSub _ _) _)) _ _ _); (refine item_ints (by k_asm) (by k_mem) (by with_reducible assumption) (by omega) (by omega) (by omega) ?_); intro _) | with_reducible (k_here; (with_reducible show wpAny _ _ (subscriptTail _ (PySem.Expr.Slice _ _ _ _) (Value.str _ _) (Value.ref _)) _ _ _); kxi_slice; intro _ _ _ _ _) | with_reducible (k_here; (with_reducible show wpAny _ _ (subscriptTail _ (PySem.Expr.Slice (some _) (some _) none _) (Value.ref _) (Value.ref _)) _ _ _); k_dflt (refine' sliceRun (s := ⟨_, _, _, _, _⟩) ?F ?N ?m ?x ?y ?z ?_; (case F => k_asm); (case N => k_asm); (case m => k_mem); (case z => assumption); (case x => first | decide | omega); (case y => first | decide | omega)); intro _ _ _ _ l1; (try dsimp only [AllLt] at l1); (try k_sweep)) | with_reducible (k_here; (with_reducible show wpAny _ _ (subscriptTail _ (PySem.Expr.Slice none (some _) none _) (Value.ref _) (Value.ref _)) _ _ _); k_dflt (refine' sliceUpto (s := ⟨_, _, _, _, _⟩) ?F ?N ?m ?x ?z ?_; (case F => k_asm); (case N => k_asm); (case m => k_mem); (case z => assumption); (case x => first | decide | omega)); intro _ _ _ _ l1; (try dsimp only [AllLt] at l1); (try k_sweep)) | with_reducible (k_here; (with_reducible show wpAny _ _ (subscriptTail _ (PySem.Expr.Slice (some _) none none _) (Value.ref _) (Value.ref _)) _ _ _); k_dflt (refine' sliceFrom (s := ⟨_, _, _, _, _⟩) ?F ?N ?m ?x ?z ?_; (case F => k_asm); (case N => k_asm); (case m => k_mem); (case z => first | assumption | exact Nat.le_trans (Nat.le_of_eq (by assumption)) (by decide)); (case x => first | decide | omega)); intro _ _ _ _ l1; (try dsimp only [AllLt] at l1); (try k_sweep)) | with_reducible (k_here; (with_reducible show wpAny _ _ (subscriptTail (Expr.Constant _ _ _) _ (Value.str _ _) (Value.int _ _)) _ _ _); (refine cod_tail (by assumption) ?_ (by with_unfolding_all rfl) (by intro _; with_unfolding_all rfl)))) | walk1); (all_goals ((try ((fail_if_success (fail_if_success (with_reducible rename (_ ∧ _) => hx9))); refine viaR ?_; intro R9 k9; (repeat (first | ((with_reducible rename (_ ∧ _ ∧ _ ∧ _ ∧ _ ∧ _ ∧ _ ∧ _) => hx9); refine and8 hx9 ?_; clear hx9; intro _ _ _ _ _ _ _ _) | ((with_reducible rename (_ ∧ _ ∧ _ ∧ _) => hx9); refine and4 hx9 ?_; clear hx9; intro _ _ _ _) | ((with_reducible rename (_ ∧ _) => hx9); refine and2 hx9 ?_; clear hx9; intro _ _) | ((with_reducible rename True => hx9); clear hx9))); refine k9 ?_; clear k9 R9)); repeat ((with_reducible rename (@Ne Nat _ _) => hx9); (have hx8 := apart_of hx9); clear hx9)))) | (dsimp only; walk1) | (leave1; try dsimp only))
    k_dflt (refine LCg.ListComp_U (F₀ := by k_asm) (by with_unfolding_all rfl) (by decide) (by rfl) (by decide) (by rfl) ?_)
    repeat' ((fail_if_success (with_reducible show LCg.CompSrc _ _ _ _ _ _ _ _ _ _ _ _ _ _)); (fail_if_success (with_reducible show KswEnd _ _ _ _ _ _ _ _ _ _ _ _)); (fail_if_success (with_reducible show FcEnd _ _ _ _ _ _ _ _ _ _)); (fail_if_success (with_reducible show CutEnd _ _ _ _ _ _ _ _ _)); first | (k_unfold; (try dsimp only)) | (k_end; wrow_close) | ((first | ((with_reducible show wpAny _ _ (subscriptTail _ _ _ _) _ _ _); first | (k_here; (with_reducible show wpAny _ _ (subscriptTail (PySem.Expr.Name _ _) (PySem.Expr.Name _ _) (Value.ref _) (Value.int (Nat.cast _) _)) _ _ _); (refine item_lst (by k_asm) (by k_mem) (by exact rfl) (by decide) ?_)) | (k_here; (with_reducible show wpAny _ _ (subscriptTail (PySem.Expr.Subscript (PySem.Expr.Name _ _) (PySem.Expr.Name _ _) _) (PySem.Expr.Constant _ _ _) (Value.ref _) (Value.int _ _)) _ _ _); (refine item_tup (by k_asm) (by k_mem) (by decide) (by decide) (by exact rfl) (by exact rfl) ?_)) | (k_here; (with_reducible show wpAny _ _ (subscriptTail (PySem.Expr.Subscript (PySem.Expr.Subscript _ _ _) (PySem.Expr.Constant _ _ _) _) (PySem.Expr.BinOp _ _ _ _) (Value.ref _) (Value.int (HSub.hSub _ _) _)) _ _ _); (refine item_ints (by k_asm) (by k_mem) (by with_reducible assumption) (by omega) (by omega) (by omega) ?_); intro _) | with_reducible (k_here; (with_reducible show wpAny _ _ (subscriptTail _ (PySem.Expr.Slice _ _ _ _) (Value.str _ _) (Value.ref _)) _ _ _); kxi_slice; intro _ _ _ _ _) | with_reducible (k_here; (with_reducible show wpAny _ _ (subscriptTail _ (PySem.Expr.Slice (some _) (some _) none _) (Value.ref _) (Value.ref _)) _ _ _); k_dflt (refine' sliceRun (s := ⟨_, _, _, _, _⟩) ?F ?N ?m ?x ?y ?z ?_; (case F => k_asm); (case N => k_asm); (case m => k_mem); (case z => assumption); (case x => first | decide | omega); (case y => first | decide | omega)); intro _ _ _ _ l1; (try dsimp only [AllLt] at l1); (try k_sweep)) | with_reducible (k_here; (with_reducible show wpAny _ _ (subscriptTail _ (PySem.Expr.Slice none (some _) none _) (Value.ref _) (Value.ref _)) _ _ _); k_dflt (refine' sliceUpto (s := ⟨_, _, _, _, _⟩) ?F ?N ?m ?x ?z ?_; (case F => k_asm); (case N => k_asm); (case m => k_mem); (case z => assumption); (case x => first | decide | omega)); intro _ _ _ _ l1; (try dsimp only [AllLt] at l1); (try k_sweep)) | with_reducible (k_here; (with_reducible show wpAny _ _ (subscriptTail _ (PySem.Expr.Slice (some _) none none _) (Value.ref _) (Value.ref _)) _ _ _); k_dflt (refine' sliceFrom (s := ⟨_, _, _, _, _⟩) ?F ?N ?m ?x ?z ?_; (case F => k_asm); (case N => k_asm); (case m => k_mem); (case z => first | assumption | exact Nat.le_trans (Nat.le_of_eq (by assumption)) (by decide)); (case x => first | decide | omega)); intro _ _ _ _ l1; (try dsimp only [AllLt] at l1); (try k_sweep)) | with_reducible (k_here; (with_reducible show wpAny _ _ (subscriptTail (Expr.Constant _ _ _) _ (Value.str _ _) (Value.int _ _)) _ _ _); (refine cod_tail (by assumption) ?_ (by with_unfolding_all rfl) (by intro _; with_unfolding_all rfl)))) | walk1); (all_goals ((try ((fail_if_success (fail_if_success (with_reducible rename (_ ∧ _) => hx9))); refine viaR ?_; intro R9 k9; (repeat (first | ((with_reducible rename (_ ∧ _ ∧ _ ∧ _ ∧ _ ∧ _ ∧ _ ∧ _) => hx9); refine and8 hx9 ?_; clear hx9; intro _ _ _ _ _ _ _ _) | ((with_reducible rename (_ ∧ _ ∧ _ ∧ _) => hx9); refine and4 hx9 ?_; clear hx9; intro _ _ _ _) | ((with_reducible rename (_ ∧ _) => hx9); refine and2 hx9 ?_; clear hx9; intro _ _) | ((with_reducible rename True => hx9); clear hx9))); refine k9 ?_; clear k9 R9)); repeat ((with_reducible rename (@Ne Nat _ _) => hx9); (have hx8 := apart_of hx9); clear hx9)))) | (dsimp only; walk1) | (leave1; try dsimp only))
    (rename Fr _ _ _ _ => Fd); (rename News _ _ _ _ => Nd)
    refine LCg.CompSrc.ledger (by rfl) Fd Nd (by k_mem) (by rw [sizeLine_eq, List.size_toArray, List.length_drop]; omega) ?_
    intro g'
    refine' kcf_list (fun k => if k ≤ (i : Int) then 1 else 0) hfd (fun k' t' I' oI' C' oC' D' m' ys' h' tk' E' hk' hC' hx' F' N' off' ne' hMark' => ?_) ?_
    · repeat' ((fail_if_success (with_reducible show wpAny _ _ (exec (Stmt.While _ _ _ _) _) _ _ _)); (fail_if_success (with_reducible show wpAny _ _ (exec (Stmt.For _ _ _ _ _) _) _ _ _)); (fail_if_success (with_reducible show KswEnd _ _ _ _ _ _ _ _ _ _ _ _)); (fail_if_success (with_reducible show FcEnd _ _ _ _ _ _ _ _ _ _)); (fail_if_success (with_reducible show CutEnd _ _ _ _ _ _ _ _ _)); first | (k_unfold; (try dsimp only)) | (k_end; wrow_close) | ((with_reducible show wpAny _ _ (subscriptTail _ _ _ _) _ _ _); first | (k_here; (with_reducible show wpAny _ _ (subscriptTail (PySem.Expr.Name _ _) (PySem.Expr.Name _ _) (Value.ref _) (Value.int (Nat.cast _) _)) _ _ _); (refine item_lst (by k_asm) (by k_mem) (by exact rfl) (by decide) ?_)) | (k_here; (with_reducible show wpAny _ _ (subscriptTail (PySem.Expr.Subscript (PySem.Expr.Name _ _) (PySem.Expr.Name _ _) _) (PySem.Expr.Constant _ _ _) (Value.ref _) (Value.int _ _)) _ _ _); (refine item_tup (by k_asm) (by k_mem) (by decide) (by decide) (by exact rfl) (by exact rfl) ?_)) | (k_here; (with_reducible show wpAny _ _ (subscriptTail (PySem.Expr.Subscript (PySem.Expr.Subscript _ _ _) (PySem.Expr.Constant _ _ _) _) (PySem.Expr.BinOp _ _ _ _) (Value.ref _) (Value.int (HSub.hSub _ _) _)) _ _ _); (refine item_ints (by k_asm) (by k_mem) (by with_reducible assumption) (by omega) (by omega) (by omega) ?_); intro _) | with_reducible (k_here; (with_reducible show wpAny _ _ (subscriptTail _ (PySem.Expr.Slice _ _ _ _) (Value.str _ _) (Value.ref _)) _ _ _); kxi_slice; intro _ _ _ _ _) | with_reducible (k_here; (with_reducible show wpAny _ _ (subscriptTail _ (PySem.Expr.Slice (some _) (some _) none _) (Value.ref _) (Value.ref _)) _ _ _); k_dflt (refine' sliceRun (s := ⟨_, _, _, _, _⟩) ?F ?N ?m ?x ?y ?z ?_; (case F => k_asm); (case N => k_asm); (case m => k_mem); (case z => assumption); (case x => first | decide | omega); (case y => first | decide | omega)); intro _ _ _ _ l1; (try dsimp only [AllLt] at l1); (try k_sweep)) | with_reducible (k_here; (with_reducible show wpAny _ _ (subscriptTail _ (PySem.Expr.Slice none (some _) none _) (Value.ref _) (Value.ref _)) _ _ _); k_dflt (refine' sliceUpto (s := ⟨_, _, _, _, _⟩) ?F ?N ?m ?x ?z ?_; (case F => k_asm); (case N => k_asm); (case m => k_mem); (case z => assumption); (case x => first | decide | omega)); intro _ _ _ _ l1; (try dsimp only [AllLt] at l1); (try k_sweep)) | with_reducible (k_here; (with_reducible show wpAny _ _ (subscriptTail _ (PySem.Expr.Slice (some _) none none _) (Value.ref _) (Value.ref _)) _ _ _); k_dflt (refine' sliceFrom (s := ⟨_, _, _, _, _⟩) ?F ?N ?m ?x ?z ?_; (case F => k_asm); (case N => k_asm); (case m => k_mem); (case z => first | assumption | exact Nat.le_trans (Nat.le_of_eq (by assumption)) (by decide)); (case x => first | decide | omega)); intro _ _ _ _ l1; (try dsimp only [AllLt] at l1); (try k_sweep)) | with_reducible (k_here; (with_reducible show wpAny _ _ (subscriptTail (Expr.Constant _ _ _) _ (Value.str _ _) (Value.int _ _)) _ _ _); (refine cod_tail (by assumption) ?_ (by with_unfolding_all rfl) (by intro _; with_unfolding_all rfl)))) | walk1 | (dsimp only; walk1) | (leave1; try dsimp only))
      refine kcf_el (r' := if decide (k' ≤ (i : Int)) = true then 1 else 0) ?_ rfl rfl
      simp only [decide_eq_true_eq]
    · intro ys hys
      rw [hlaw.car i hi] at hys
      have hbq : (zs (caN ms i) == zs (caN ms i)) = true := beq_self_eq_true _
      have hlc := hvC.length
      have hly := hys.length
      repeat' ((fail_if_success (with_reducible show wpAny _ _ (exec (Stmt.While _ _ _ _) _) _ _ _)); (fail_if_success (with_reducible show wpAny _ _ (exec (Stmt.For _ _ _ _ _) _) _ _ _)); (fail_if_success (with_reducible show wpAny _ _ (execs (Stmt.Assign _ _ _ :: _) _) _ _ _)); (fail_if_success (with_reducible show FgEnd _ _ _ _ _ _ _ _ _ _)); (fail_if_success (with_reducible show KswEnd _ _ _ _ _ _ _ _ _ _ _ _)); (fail_if_success (with_reducible show FcEnd _ _ _ _ _ _ _ _ _ _)); (fail_if_success (with_reducible show CutEnd _ _ _ _ _ _ _ _ _)); first | (k_unfold; (try dsimp only)) | (k_end; wrow_close) | ((first | ((with_reducible show wpAny _ _ (subscriptTail _ _ _ _) _ _ _); first | (k_here; (with_reducible show wpAny _ _ (subscriptTail (PySem.Expr.Name _ _) (PySem.Expr.Name _ _) (Value.ref _) (Value.int (Nat.cast _) _)) _ _ _); (refine item_lst (by k_asm) (by k_mem) (by exact rfl) (by decide) ?_)) | (k_here; (with_reducible show wpAny _ _ (subscriptTail (PySem.Expr.Subscript (PySem.Expr.Name _ _) (PySem.Expr.Name _ _) _) (PySem.Expr.Constant _ _ _) (Value.ref _) (Value.int _ _)) _ _ _); (refine item_tup (by k_asm) (by k_mem) (by decide) (by decide) (by exact rfl) (by exact rfl) ?_)) | (k_here; (with_reducible show wpAny _ _ (subscriptTail (PySem.Expr.Subscript (PySem.Expr.Subscript _ _ _) (PySem.Expr.Constant _ _ _) _) (PySem.Expr.BinOp _ _ _ _) (Value.ref _) (Value.int (HSub.hSub _ _) _)) _ _ _); (refine item_ints (by k_asm) (by k_mem) (by with_reducible assumption) (by omega) (by omega) (by omega) ?_); intro _) | with_reducible (k_here; (with_reducible show wpAny _ _ (subscriptTail _ (PySem.Expr.Slice _ _ _ _) (Value.str _ _) (Value.ref _)) _ _ _); kxi_slice; intro _ _ _ _ _) | with_reducible (k_here; (with_reducible show wpAny _ _ (subscriptTail _ (PySem.Expr.Slice (some _) (some _) none _) (Value.ref _) (Value.ref _)) _ _ _); k_dflt (refine' sliceRun (s := ⟨_, _, _, _, _⟩) ?F ?N ?m ?x ?y ?z ?_; (case F => k_asm); (case N => k_asm); (case m => k_mem); (case z => assumption); (case x => first | decide | omega); (case y => first | decide | omega)); intro _ _ _ _ l1; (try dsimp only [AllLt] at l1); (try k_sweep)) | with_reducible (k_here; (with_reducible show wpAny _ _ (subscriptTail _ (PySem.Expr.Slice none (some _) none _) (Value.ref _) (Value.ref _)) _ _ _); k_dflt (refine' sliceUpto (s := ⟨_, _, _, _, _⟩) ?F ?N ?m ?x ?z ?_; (case F => k_asm); (case N => k_asm); (case m => k_mem); (case z => assumption); (case x => first | decide | omega)); intro _ _ _ _ l1; (try dsimp only [AllLt] at l1); (try k_sweep)) | with_reducible (k_here; (with_reducible show wpAny _ _ (subscriptTail _ (PySem.Expr.Slice (some _) none none _) (Value.ref _) (Value.ref _)) _ _ _); k_dflt (refine' sliceFrom (s := ⟨_, _, _, _, _⟩) ?F ?N ?m ?x ?z ?_; (case F => k_asm); (case N => k_asm); (case m => k_mem); (case z => first | assumption | exact Nat.le_trans (Nat.le_of_eq (by assumption)) (by decide)); (case x => first | decide | omega)); intro _ _ _ _ l1; (try dsimp only [AllLt] at l1); (try k_sweep)) | with_reducible (k_here; (with_reducible show wpAny _ _ (subscriptTail (Expr.Constant _ _ _) _ (Value.str _ _) (Value.int _ _)) _ _ _); (refine cod_tail (by assumption) ?_ (by with_unfolding_all rfl) (by intro _; with_unfolding_all rfl)))) | walk1); (all_goals ((try ((fail_if_success (fail_if_success (with_reducible rename (_ ∧ _) => hx9))); refine viaR ?_; intro R9 k9; (repeat (first | ((with_reducible rename (_ ∧ _ ∧ _ ∧ _ ∧ _ ∧ _ ∧ _ ∧ _) => hx9); refine and8 hx9 ?_; clear hx9; intro _ _ _ _ _ _ _ _) | ((with_reducible rename (_ ∧ _ ∧ _ ∧ _) => hx9); refine and4 hx9 ?_; clear hx9; intro _ _ _ _) | ((with_reducible rename (_ ∧ _) => hx9); refine and2 hx9 ?_; clear hx9; intro _ _) | ((with_reducible rename True => hx9); clear hx9))); refine k9 ?_; clear k9 R9)); repeat ((with_reducible rename (@Ne Nat _ _) => hx9); (have hx8 := apart_of hx9); clear hx9)))) | (dsimp only; walk1) | (leave1; try dsimp only))
      (rename Fr _ _ _ _ => Fd); (rename News _ _ _ _ => Nd)
      have Nd0 : News _ _ _ ((s1.heap.objs.size + 1 + 1, oS) :: (aC, listOf vC.toArray kC) :: ((aF, listOf fs.toArray kf) :: ownX)) := cb_drop Nd (by (repeat (first | exact (fun p hp => by (first | exact hp | exact List.Mem.tail _ (hp) | exact List.Mem.tail _ (List.Mem.tail _ (hp)) | exact List.Mem.tail _ (List.Mem.tail _ (List.Mem.tail _ (hp))) | exact List.Mem.tail _ (List.Mem.tail _ (List.Mem.tail _ (List.Mem.tail _ (hp)))) | exact List.Mem.tail _ (List.Mem.tail _ (List.Mem.tail _ (List.Mem.tail _ (List.Mem.tail _ (hp))))) | exact List.Mem.tail _ (List.Mem.tail _ (List.Mem.tail _ (List.Mem.tail _ (List.Mem.tail _ (List.Mem.tail _ (hp)))))) | exact List.Mem.tail _ (List.Mem.tail _ (List.Mem.tail _ (List.Mem.tail _ (List.Mem.tail _ (List.Mem.tail _ (List.Mem.tail _ (hp))))))) | exact List.Mem.tail _ (List.Mem.tail _ (List.Mem.tail _ (List.Mem.tail _ (List.Mem.tail _ (List.Mem.tail _ (List.Mem.tail _ (List.Mem.tail _ (hp)))))))) | exact List.Mem.tail _ (List.Mem.tail _ (List.Mem.tail _ (List.Mem.tail _ (List.Mem.tail _ (List.Mem.tail _ (List.Mem.tail _ (List.Mem.tail _ (List.Mem.tail _ (hp))))))))) | exact List.Mem.tail _ (List.Mem.tail _ (List.Mem.tail _ (List.Mem.tail _ (List.Mem.tail _ (List.Mem.tail _ (List.Mem.tail _ (List.Mem.tail _ (List.Mem.tail _ (List.Mem.tail _ (hp)))))))))) | exact List.Mem.tail _ (List.Mem.tail _ (List.Mem.tail _ (List.Mem.tail _ (List.Mem.tail _ (List.Mem.tail _ (List.Mem.tail _ (List.Mem.tail _ (List.Mem.tail _ (List.Mem.tail _ (List.Mem.tail _ (hp))))))))))) | exact List.Mem.tail _ (List.Mem.tail _ (List.Mem.tail _ (List.Mem.tail _ (List.Mem.tail _ (List.Mem.tail _ (List.Mem.tail _ (List.Mem.tail _ (List.Mem.tail _ (List.Mem.tail _ (List.Mem.tail _ (List.Mem.tail _ (hp)))))))))))) | exact List.Mem.tail _ (List.Mem.tail _ (List.Mem.tail _ (List.Mem.tail _ (List.Mem.tail _ (List.Mem.tail _ (List.Mem.tail _ (List.Mem.tail _ (List.Mem.tail _ (List.Mem.tail _ (List.Mem.tail _ (List.Mem.tail _ (List.Mem.tail _ (hp))))))))))))) | exact List.Mem.tail _ (List.Mem.tail _ (List.Mem.tail _ (List.Mem.tail _ (List.Mem.tail _ (List.Mem.tail _ (List.Mem.tail _ (List.Mem.tail _ (List.Mem.tail _ (List.Mem.tail _ (List.Mem.tail _ (List.Mem.tail _ (List.Mem.tail _ (List.Mem.tail _ (hp)))))))))))))) | exact List.Mem.tail _ (List.Mem.tail _ (List.Mem.tail _ (List.Mem.tail _ (List.Mem.tail _ (List.Mem.tail _ (List.Mem.tail _ (List.Mem.tail _ (List.Mem.tail _ (List.Mem.tail _ (List.Mem.tail _ (List.Mem.tail _ (List.Mem.tail _ (List.Mem.tail _ (List.Mem.tail _ (hp))))))))))))))) | exact List.Mem.tail _ (List.Mem.tail _ (List.Mem.tail _ (List.Mem.tail _ (List.Mem.tail _ (List.Mem.tail _ (List.Mem.tail _ (List.Mem.tail _ (List.Mem.tail _ (List.Mem.tail _ (List.Mem.tail _ (List.Mem.tail _ (List.Mem.tail _ (List.Mem.tail _ (List.Mem.tail _ (List.Mem.tail _ (hp)))))))))))))))) | exact List.Mem.tail _ (List.Mem.tail _ (List.Mem.tail _ (List.Mem.tail _ (List.Mem.tail _ (List.Mem.tail _ (List.Mem.tail _ (List.Mem.tail _ (List.Mem.tail _ (List.Mem.tail _ (List.Mem.tail _ (List.Mem.tail _ (List.Mem.tail _ (List.Mem.tail _ (List.Mem.tail _ (List.Mem.tail _ (List.Mem.tail _ (hp))))))))))))))))) | exact List.Mem.tail _ (List.Mem.tail _ (List.Mem.tail _ (List.Mem.tail _ (List.Mem.tail _ (List.Mem.tail _ (List.Mem.tail _ (List.Mem.tail _ (List.Mem.tail _ (List.Mem.tail _ (List.Mem.tail _ (List.Mem.tail _ (List.Mem.tail _ (List.Mem.tail _ (List.Mem.tail _ (List.Mem.tail _ (List.Mem.tail _ (List.Mem.tail _ (hp)))))))))))))))))) | exact List.Mem.tail _ (List.Mem.tail _ (List.Mem.tail _ (List.Mem.tail _ (List.Mem.tail _ (List.Mem.tail _ (List.Mem.tail _ (List.Mem.tail _ (List.Mem.tail _ (List.Mem.tail _ (List.Mem.tail _ (List.Mem.tail _ (List.Mem.tail _ (List.Mem.tail _ (List.Mem.tail _ (List.Mem.tail _ (List.Mem.tail _ (List.Mem.tail _ (List.Mem.tail _ (hp))))))))))))))))))) | exact List.Mem.tail _ (List.Mem.tail _ (List.Mem.tail _ (List.Mem.tail _ (List.Mem.tail _ (List.Mem.tail _ (List.Mem.tail _ (List.Mem.tail _ (List.Mem.tail _ (List.Mem.tail _ (List.Mem.tail _ (List.Mem.tail _ (List.Mem.tail _ (List.Mem.tail _ (List.Mem.tail _ (List.Mem.tail _ (List.Mem.tail _ (List.Mem.tail _ (List.Mem.tail _ (List.Mem.tail _ (hp)))))))))))))))))))) | exact List.Mem.tail _ (List.Mem.tail _ (List.Mem.tail _ (List.Mem.tail _ (List.Mem.tail _ (List.Mem.tail _ (List.Mem.tail _ (List.Mem.tail _ (List.Mem.tail _ (List.Mem.tail _ (List.Mem.tail _ (List.Mem.tail _ (List.Mem.tail _ (List.Mem.tail _ (List.Mem.tail _ (List.Mem.tail _ (List.Mem.tail _ (List.Mem.tail _ (List.Mem.tail _ (List.Mem.tail _ (List.Mem.tail _ (hp))))))))))))))))))))) | exact List.Mem.tail _ (List.Mem.tail _ (List.Mem.tail _ (List.Mem.tail _ (List.Mem.tail _ (List.Mem.tail _ (List.Mem.tail _ (List.Mem.tail _ (List.Mem.tail _ (List.Mem.tail _ (List.Mem.tail _ (List.Mem.tail _ (List.Mem.tail _ (List.Mem.tail _ (List.Mem.tail _ (List.Mem.tail _ (List.Mem.tail _ (List.Mem.tail _ (List.Mem.tail _ (List.Mem.tail _ (List.Mem.tail _ (List.Mem.tail _ (hp)))))))))))))))))))))) | exact List.Mem.tail _ (List.Mem.tail _ (List.Mem.tail _ (List.Mem.tail _ (List.Mem.tail _ (List.Mem.tail _ (List.Mem.tail _ (List.Mem.tail _ (List.Mem.tail _ (List.Mem.tail _ (List.Mem.tail _ (List.Mem.tail _ (List.Mem.tail _ (List.Mem.tail _ (List.Mem.tail _ (List.Mem.tail _ (List.Mem.tail _ (List.Mem.tail _ (List.Mem.tail _ (List.Mem.tail _ (List.Mem.tail _ (List.Mem.tail _ (List.Mem.tail _ (hp))))))))))))))))))))))))) | refine fmem (by k_mem) ?_)))
      clear Nd
      rename News _ _ _ _ => Nd
      refine viaR ?_; intro R9 k9
      obtain ⟨cnt, d0, d1, d2, D, hsum, hcnt, hD, hst1, hst2, hdig, hd0, hd1, hd2, hzer, hsz1, hsz2⟩ := hlaw.dig i hi
      refine k9 ?_; clear k9 R9
      subst hRX
      refine' stCut (σ := Addr × (Tok × Tok × Tok) × List Value × Nat × Option (Addr × Obj)) Fd (fun c => (s1.heap.objs.size + 1 + 1, oS) :: (aC, listOf vC.toArray kC) :: (c.1, listOf (.int (d0 : Int) c.2.1.1 :: .int (d1 : Int) c.2.1.2.1 :: .int (d2 : Int) c.2.1.2.2 :: c.2.2.1).toArray c.2.2.2.1) :: (((aF, listOf fs.toArray kf) :: (aR, LCg.lst [.ref u0, .ref u1, .ref u2, .ref u3]) :: (u3, tupOf #[.int (stN ms 3 : Nat) t3r, .ref c3]) :: (c3, listOf v3.toArray k3r) :: (u2, tupOf #[.int (stN ms 2 : Nat) t2r, .ref c2]) :: (c2, listOf v2.toArray k2r) :: (u1, tupOf #[.int (stN ms 1 : Nat) t1r, .ref c1]) :: (c1, listOf v1.toArray k1r) :: (u0, tupOf #[.int (stN ms 0 : Nat) t0r, .ref c0]) :: (c0, listOf v0.toArray k0r) :: [(s1.heap.objs.size + 1 + 1 + 1, oR2), (37, tabObj ps37), (81, tabObj ps81)]) ++ (tabL 30 53 4 c.2.2.2.2 ++ own))) (fun c => [(Str.ofString "digits", .ref c.1)]) [] (fun c => IntsAre c.2.2.1 (zs (onesL cnt)) ∧ TabOkS (Str.ofString "_int2digits.<locals>.inner") ((s1.heap.objs.size + 1 + 1, oT) :: (30, tabObj #[]) :: ((aF, listOf fs.toArray kf) :: (aR, LCg.lst [.ref u0, .ref u1, .ref u2, .ref u3]) :: (u3, tupOf #[.int (stN ms 3 : Nat) t3r, .ref c3]) :: (c3, listOf v3.toArray k3r) :: (u2, tupOf #[.int (stN ms 2 : Nat) t2r, .ref c2]) :: (c2, listOf v2.toArray k2r) :: (u1, tupOf #[.int (stN ms 1 : Nat) t1r, .ref c1]) :: (c1, listOf v1.toArray k1r) :: (u0, tupOf #[.int (stN ms 0 : Nat) t0r, .ref c0]) :: (c0, listOf v0.toArray k0r) :: [(s1.heap.objs.size + 1 + 1 + 1, oR2), (37, tabObj ps37), (81, tabObj ps81)])) c.2.2.2.2 ∧ OwnOff own ((tabL 30 53 4 c.2.2.2.2).map (·.1))) ?h1 ?h2
      case h1 =>
        refine wpGen ?_; intro RR2 hRR2
        subst hown
        cases tb with
        | none =>
          clear hP4
          dsimp only [tabL, List.cons_append, List.nil_append] at Nd hoff
          repeat' ((fail_if_success (with_reducible show wpAny _ _ (call (Value.ref 35) _) _ _ _)); (fail_if_success (with_reducible show KswEnd _ _ _ _ _ _ _ _ _ _ _ _)); (fail_if_success (with_reducible show FcEnd _ _ _ _ _ _ _ _ _ _)); (fail_if_success (with_reducible show CutEnd _ _ _ _ _ _ _ _ _)); first | (k_unfold; (try dsimp only)) | (k_end; wrow_close) | ((first | ((with_reducible show wpAny _ _ (subscriptTail _ _ _ _) _ _ _); first | (k_here; (with_reducible show wpAny _ _ (subscriptTail (PySem.Expr.Name _ _) (PySem.Expr.Name _ _) (Value.ref _) (Value.int (Nat.cast _) _)) _ _ _); (refine item_lst (by k_asm) (by k_mem) (by exact rfl) (by decide) ?_)) | (k_here; (with_reducible show wpAny _ _ (subscriptTail (PySem.Expr.Subscript (PySem.Expr.Name _ _) (PySem.Expr.Name _ _) _) (PySem.Expr.Constant _ _ _) (Value.ref _) (Value.int _ _)) _ _ _); (refine item_tup (by k_asm) (by k_mem) (by decide) (by decide) (by exact rfl) (by exact rfl) ?_)) | (k_here; (with_reducible show wpAny _ _ (subscriptTail (PySem.Expr.Subscript (PySem.Expr.Subscript _ _ _) (PySem.Expr.Constant _ _ _) _) (PySem.Expr.BinOp _ _ _ _) (Value.ref _) (Value.int (HSub.hSub _ _) _)) _ _ _); (refine item_ints (by k_asm) (by k_mem) (by with_reducible assumption) (by omega) (by omega) (by omega) ?_); intro _) | with_reducible (k_here; (with_reducible show wpAny _ _ (subscriptTail _ (PySem.Expr.Slice _ _ _ _) (Value.str _ _) (Value.ref _)) _ _ _); kxi_slice; intro _ _ _ _ _) | with_reducible (k_here; (with_reducible show wpAny _ _ (subscriptTail _ (PySem.Expr.Slice (some _) (some _) none _) (Value.ref _) (Value.ref _)) _ _ _); k_dflt (refine' sliceRun (s := ⟨_, _, _, _, _⟩) ?F ?N ?m ?x ?y ?z ?_; (case F => k_asm); (case N => k_asm); (case m => k_mem); (case z => assumption); (case x => first | decide | omega); (case y => first | decide | omega)); intro _ _ _ _ l1; (try dsimp only [AllLt] at l1); (try k_sweep)) | with_reducible (k_here; (with_reducible show wpAny _ _ (subscriptTail _ (PySem.Expr.Slice none (some _) none _) (Value.ref _) (Value.ref _)) _ _ _); k_dflt (refine' sliceUpto (s := ⟨_, _, _, _, _⟩) ?F ?N ?m ?x ?z ?_; (case F => k_asm); (case N => k_asm); (case m => k_mem); (case z => assumption); (case x => first | decide | omega)); intro _ _ _ _ l1; (try dsimp only [AllLt] at l1); (try k_sweep)) | with_reducible (k_here; (with_reducible show wpAny _ _ (subscriptTail _ (PySem.Expr.Slice (some _) none none _) (Value.ref _) (Value.ref _)) _ _ _); k_dflt (refine' sliceFrom (s := ⟨_, _, _, _, _⟩) ?F ?N ?m ?x ?z ?_; (case F => k_asm); (case N => k_asm); (case m => k_mem); (case z => first | assumption | exact Nat.le_trans (Nat.le_of_eq (by assumption)) (by decide)); (case x => first | decide | omega)); intro _ _ _ _ l1; (try dsimp only [AllLt] at l1); (try k_sweep)) | with_reducible (k_here; (with_reducible show wpAny _ _ (subscriptTail (Expr.Constant _ _ _) _ (Value.str _ _) (Value.int _ _)) _ _ _); (refine cod_tail (by assumption) ?_ (by with_unfolding_all rfl) (by intro _; with_unfolding_all rfl)))) | walk1); (all_goals ((try ((fail_if_success (fail_if_success (with_reducible rename (_ ∧ _) => hx9))); refine viaR ?_; intro R9 k9; (repeat (first | ((with_reducible rename (_ ∧ _ ∧ _ ∧ _ ∧ _ ∧ _ ∧ _ ∧ _) => hx9); refine and8 hx9 ?_; clear hx9; intro _ _ _ _ _ _ _ _) | ((with_reducible rename (_ ∧ _ ∧ _ ∧ _) => hx9); refine and4 hx9 ?_; clear hx9; intro _ _ _ _) | ((with_reducible rename (_ ∧ _) => hx9); refine and2 hx9 ?_; clear hx9; intro _ _) | ((with_reducible rename True => hx9); clear hx9))); refine k9 ?_; clear k9 R9)); repeat ((with_reducible rename (@Ne Nat _ _) => hx9); (have hx8 := apart_of hx9); clear hx9)))) | (dsimp only; walk1) | (leave1; try dsimp only))
          (rename Fr _ _ _ _ => F9); (rename News _ _ _ _ => N9)
          refine' i2dF (x := stN ms i) (D := D) (by k_asm) (by k_asm) (by k_asm) (by k_asm) (by k_asm) (by first | exact rfl | assumption) (by ktr_room) (by ktr_units) hst1 hst2 (by omega) (by kn_code) ?U ?_
          case U => k_updF
          intro ad vs k c' oc fv tq h9 tk9 F8 N8 hi9 hoc hfv hne9 hcm
          (try dsimp only at N8)
          clear F9 N9 Nd Fd
          rw [hdig] at hi9
          refine viaR ?_; intro R9 k9; refine ints_three (G := fun v => vs = v → R9) hi9 ?_ rfl; intro t0 t1 t2 vr hvr e9; refine k9 ?_; clear k9 R9; clear hi9; subst e9
          have hcc := allNe_of fun q hq => (hne9 q hq).1
          clear hne9
          repeat' ((fail_if_success (with_reducible show CutPost _ _ _ _ _ _ _ _ _ _ _)); (fail_if_success (with_reducible show wpAny _ _ (exec (Stmt.For _ _ _ _ _) _) _ _ _)); (fail_if_success (with_reducible show KswEnd _ _ _ _ _ _ _ _ _ _ _ _)); (fail_if_success (with_reducible show FcEnd _ _ _ _ _ _ _ _ _ _)); (fail_if_success (with_reducible show CutEnd _ _ _ _ _ _ _ _ _)); first | (k_unfold; (try dsimp only)) | (k_end; wrow_close) | ((first | ((with_reducible show wpAny _ _ (subscriptTail _ _ _ _) _ _ _); first | (k_here; (with_reducible show wpAny _ _ (subscriptTail (PySem.Expr.Name _ _) (PySem.Expr.Name _ _) (Value.ref _) (Value.int (Nat.cast _) _)) _ _ _); (refine item_lst (by k_asm) (by k_mem) (by exact rfl) (by decide) ?_)) | (k_here; (with_reducible show wpAny _ _ (subscriptTail (PySem.Expr.Subscript (PySem.Expr.Name _ _) (PySem.Expr.Name _ _) _) (PySem.Expr.Constant _ _ _) (Value.ref _) (Value.int _ _)) _ _ _); (refine item_tup (by k_asm) (by k_mem) (by decide) (by decide) (by exact rfl) (by exact rfl) ?_)) | (k_here; (with_reducible show wpAny _ _ (subscriptTail (PySem.Expr.Subscript (PySem.Expr.Subscript _ _ _) (PySem.Expr.Constant _ _ _) _) (PySem.Expr.BinOp _ _ _ _) (Value.ref _) (Value.int (HSub.hSub _ _) _)) _ _ _); (refine item_ints (by k_asm) (by k_mem) (by with_reducible assumption) (by omega) (by omega) (by omega) ?_); intro _) | with_reducible (k_here; (with_reducible show wpAny _ _ (subscriptTail _ (PySem.Expr.Slice _ _ _ _) (Value.str _ _) (Value.ref _)) _ _ _); kxi_slice; intro _ _ _ _ _) | with_reducible (k_here; (with_reducible show wpAny _ _ (subscriptTail _ (PySem.Expr.Slice (some _) (some _) none _) (Value.ref _) (Value.ref _)) _ _ _); k_dflt (refine' sliceRun (s := ⟨_, _, _, _, _⟩) ?F ?N ?m ?x ?y ?z ?_; (case F => k_asm); (case N => k_asm); (case m => k_mem); (case z => assumption); (case x => first | decide | omega); (case y => first | decide | omega)); intro _ _ _ _ l1; (try dsimp only [AllLt] at l1); (try k_sweep)) | with_reducible (k_here; (with_reducible show wpAny _ _ (subscriptTail _ (PySem.Expr.Slice none (some _) none _) (Value.ref _) (Value.ref _)) _ _ _); k_dflt (refine' sliceUpto (s := ⟨_, _, _, _, _⟩) ?F ?N ?m ?x ?z ?_; (case F => k_asm); (case N => k_asm); (case m => k_mem); (case z => assumption); (case x => first | decide | omega)); intro _ _ _ _ l1; (try dsimp only [AllLt] at l1); (try k_sweep)) | with_reducible (k_here; (with_reducible show wpAny _ _ (subscriptTail _ (PySem.Expr.Slice (some _) none none _) (Value.ref _) (Value.ref _)) _ _ _); k_dflt (refine' sliceFrom (s := ⟨_, _, _, _, _⟩) ?F ?N ?m ?x ?z ?_; (case F => k_asm); (case N => k_asm); (case m => k_mem); (case z => first | assumption | exact Nat.le_trans (Nat.le_of_eq (by assumption)) (by decide)); (case x => first | decide | omega)); intro _ _ _ _ l1; (try dsimp only [AllLt] at l1); (try k_sweep)) | with_reducible (k_here; (with_reducible show wpAny _ _ (subscriptTail (Expr.Constant _ _ _) _ (Value.str _ _) (Value.int _ _)) _ _ _); (refine cod_tail (by assumption) ?_ (by with_unfolding_all rfl) (by intro _; with_unfolding_all rfl)))) | walk1); (all_goals ((try ((fail_if_success (fail_if_success (with_reducible rename (_ ∧ _) => hx9))); refine viaR ?_; intro R9 k9; (repeat (first | ((with_reducible rename (_ ∧ _ ∧ _ ∧ _ ∧ _ ∧ _ ∧ _ ∧ _) => hx9); refine and8 hx9 ?_; clear hx9; intro _ _ _ _ _ _ _ _) | ((with_reducible rename (_ ∧ _ ∧ _ ∧ _) => hx9); refine and4 hx9 ?_; clear hx9; intro _ _ _ _) | ((with_reducible rename (_ ∧ _) => hx9); refine and2 hx9 ?_; clear hx9; intro _ _) | ((with_reducible rename True => hx9); clear hx9))); refine k9 ?_; clear k9 R9)); repeat ((with_reducible rename (@Ne Nat _ _) => hx9); (have hx8 := apart_of hx9); clear hx9)))) | (dsimp only; walk1) | (leave1; try dsimp only))
          (rename Fr _ _ _ _ => F5); (rename News _ _ _ _ => N5)
          dsimp only [AllNe] at hcc
          (try ((fail_if_success (fail_if_success (with_reducible rename (_ ∧ _) => hx9))); refine viaR ?_; intro R9 k9; (repeat (first | ((with_reducible rename (_ ∧ _ ∧ _ ∧ _ ∧ _ ∧ _ ∧ _ ∧ _) => hx9); refine and8 hx9 ?_; clear hx9; intro _ _ _ _ _ _ _ _) | ((with_reducible rename (_ ∧ _ ∧ _ ∧ _) => hx9); refine and4 hx9 ?_; clear hx9; intro _ _ _ _) | ((with_reducible rename (_ ∧ _) => hx9); refine and2 hx9 ?_; clear hx9; intro _ _) | ((with_reducible rename True => hx9); clear hx9))); refine k9 ?_; clear k9 R9))
          refine ofGenC hRR2 ?_
          refine cutEnd (ad, (t0, t1, t2), vr, k, some (c', oc)) F5 N5 (by (try simp only [tabL, List.cons_append, List.nil_append]); (repeat (first | exact (fun p hp => by (first | exact hp | exact List.Mem.tail _ (hp) | exact List.Mem.tail _ (List.Mem.tail _ (hp)) | exact List.Mem.tail _ (List.Mem.tail _ (List.Mem.tail _ (hp))) | exact List.Mem.tail _ (List.Mem.tail _ (List.Mem.tail _ (List.Mem.tail _ (hp)))) | exact List.Mem.tail _ (List.Mem.tail _ (List.Mem.tail _ (List.Mem.tail _ (List.Mem.tail _ (hp))))) | exact List.Mem.tail _ (List.Mem.tail _ (List.Mem.tail _ (List.Mem.tail _ (List.Mem.tail _ (List.Mem.tail _ (hp)))))) | exact List.Mem.tail _ (List.Mem.tail _ (List.Mem.tail _ (List.Mem.tail _ (List.Mem.tail _ (List.Mem.tail _ (List.Mem.tail _ (hp))))))) | exact List.Mem.tail _ (List.Mem.tail _ (List.Mem.tail _ (List.Mem.tail _ (List.Mem.tail _ (List.Mem.tail _ (List.Mem.tail _ (List.Mem.tail _ (hp)))))))) | exact List.Mem.tail _ (List.Mem.tail _ (List.Mem.tail _ (List.Mem.tail _ (List.Mem.tail _ (List.Mem.tail _ (List.Mem.tail _ (List.Mem.tail _ (List.Mem.tail _ (hp))))))))) | exact List.Mem.tail _ (List.Mem.tail _ (List.Mem.tail _ (List.Mem.tail _ (List.Mem.tail _ (List.Mem.tail _ (List.Mem.tail _ (List.Mem.tail _ (List.Mem.tail _ (List.Mem.tail _ (hp)))))))))) | exact List.Mem.tail _ (List.Mem.tail _ (List.Mem.tail _ (List.Mem.tail _ (List.Mem.tail _ (List.Mem.tail _ (List.Mem.tail _ (List.Mem.tail _ (List.Mem.tail _ (List.Mem.tail _ (List.Mem.tail _ (hp))))))))))) | exact List.Mem.tail _ (List.Mem.tail _ (List.Mem.tail _ (List.Mem.tail _ (List.Mem.tail _ (List.Mem.tail _ (List.Mem.tail _ (List.Mem.tail _ (List.Mem.tail _ (List.Mem.tail _ (List.Mem.tail _ (List.Mem.tail _ (hp)))))))))))) | exact List.Mem.tail _ (List.Mem.tail _ (List.Mem.tail _ (List.Mem.tail _ (List.Mem.tail _ (List.Mem.tail _ (List.Mem.tail _ (List.Mem.tail _ (List.Mem.tail _ (List.Mem.tail _ (List.Mem.tail _ (List.Mem.tail _ (List.Mem.tail _ (hp))))))))))))) | exact List.Mem.tail _ (List.Mem.tail _ (List.Mem.tail _ (List.Mem.tail _ (List.Mem.tail _ (List.Mem.tail _ (List.Mem.tail _ (List.Mem.tail _ (List.Mem.tail _ (List.Mem.tail _ (List.Mem.tail _ (List.Mem.tail _ (List.Mem.tail _ (List.Mem.tail _ (hp)))))))))))))) | exact List.Mem.tail _ (List.Mem.tail _ (List.Mem.tail _ (List.Mem.tail _ (List.Mem.tail _ (List.Mem.tail _ (List.Mem.tail _ (List.Mem.tail _ (List.Mem.tail _ (List.Mem.tail _ (List.Mem.tail _ (List.Mem.tail _ (List.Mem.tail _ (List.Mem.tail _ (List.Mem.tail _ (hp))))))))))))))) | exact List.Mem.tail _ (List.Mem.tail _ (List.Mem.tail _ (List.Mem.tail _ (List.Mem.tail _ (List.Mem.tail _ (List.Mem.tail _ (List.Mem.tail _ (List.Mem.tail _ (List.Mem.tail _ (List.Mem.tail _ (List.Mem.tail _ (List.Mem.tail _ (List.Mem.tail _ (List.Mem.tail _ (List.Mem.tail _ (hp)))))))))))))))) | exact List.Mem.tail _ (List.Mem.tail _ (List.Mem.tail _ (List.Mem.tail _ (List.Mem.tail _ (List.Mem.tail _ (List.Mem.tail _ (List.Mem.tail _ (List.Mem.tail _ (List.Mem.tail _ (List.Mem.tail _ (List.Mem.tail _ (List.Mem.tail _ (List.Mem.tail _ (List.Mem.tail _ (List.Mem.tail _ (List.Mem.tail _ (hp))))))))))))))))) | exact List.Mem.tail _ (List.Mem.tail _ (List.Mem.tail _ (List.Mem.tail _ (List.Mem.tail _ (List.Mem.tail _ (List.Mem.tail _ (List.Mem.tail _ (List.Mem.tail _ (List.Mem.tail _ (List.Mem.tail _ (List.Mem.tail _ (List.Mem.tail _ (List.Mem.tail _ (List.Mem.tail _ (List.Mem.tail _ (List.Mem.tail _ (List.Mem.tail _ (hp)))))))))))))))))) | exact List.Mem.tail _ (List.Mem.tail _ (List.Mem.tail _ (List.Mem.tail _ (List.Mem.tail _ (List.Mem.tail _ (List.Mem.tail _ (List.Mem.tail _ (List.Mem.tail _ (List.Mem.tail _ (List.Mem.tail _ (List.Mem.tail _ (List.Mem.tail _ (List.Mem.tail _ (List.Mem.tail _ (List.Mem.tail _ (List.Mem.tail _ (List.Mem.tail _ (List.Mem.tail _ (hp))))))))))))))))))) | exact List.Mem.tail _ (List.Mem.tail _ (List.Mem.tail _ (List.Mem.tail _ (List.Mem.tail _ (List.Mem.tail _ (List.Mem.tail _ (List.Mem.tail _ (List.Mem.tail _ (List.Mem.tail _ (List.Mem.tail _ (List.Mem.tail _ (List.Mem.tail _ (List.Mem.tail _ (List.Mem.tail _ (List.Mem.tail _ (List.Mem.tail _ (List.Mem.tail _ (List.Mem.tail _ (List.Mem.tail _ (hp)))))))))))))))))))) | exact List.Mem.tail _ (List.Mem.tail _ (List.Mem.tail _ (List.Mem.tail _ (List.Mem.tail _ (List.Mem.tail _ (List.Mem.tail _ (List.Mem.tail _ (List.Mem.tail _ (List.Mem.tail _ (List.Mem.tail _ (List.Mem.tail _ (List.Mem.tail _ (List.Mem.tail _ (List.Mem.tail _ (List.Mem.tail _ (List.Mem.tail _ (List.Mem.tail _ (List.Mem.tail _ (List.Mem.tail _ (List.Mem.tail _ (hp))))))))))))))))))))) | exact List.Mem.tail _ (List.Mem.tail _ (List.Mem.tail _ (List.Mem.tail _ (List.Mem.tail _ (List.Mem.tail _ (List.Mem.tail _ (List.Mem.tail _ (List.Mem.tail _ (List.Mem.tail _ (List.Mem.tail _ (List.Mem.tail _ (List.Mem.tail _ (List.Mem.tail _ (List.Mem.tail _ (List.Mem.tail _ (List.Mem.tail _ (List.Mem.tail _ (List.Mem.tail _ (List.Mem.tail _ (List.Mem.tail _ (List.Mem.tail _ (hp)))))))))))))))))))))) | exact List.Mem.tail _ (List.Mem.tail _ (List.Mem.tail _ (List.Mem.tail _ (List.Mem.tail _ (List.Mem.tail _ (List.Mem.tail _ (List.Mem.tail _ (List.Mem.tail _ (List.Mem.tail _ (List.Mem.tail _ (List.Mem.tail _ (List.Mem.tail _ (List.Mem.tail _ (List.Mem.tail _ (List.Mem.tail _ (List.Mem.tail _ (List.Mem.tail _ (List.Mem.tail _ (List.Mem.tail _ (List.Mem.tail _ (List.Mem.tail _ (List.Mem.tail _ (hp))))))))))))))))))))))))) | refine fmem (by k_mem) ?_))) (by kst_all) (by (intro z h2 h3; (have hz0 : z ≠ Str.ofString "digits" := h2 _ (.head _)); simp only [kstB, h3, if_neg hz0, Bool.false_eq_true, if_false])) ⟨hvr, ⟨⟨fv, tq, hoc, hfv⟩, ?_⟩, ?_⟩
          · dsimp only [AllNe]
            (repeat' (first | exact trivial | assumption | exact ⟨by assumption⟩ | exact ⟨Nat.ne_of_lt (by assumption)⟩ | exact ⟨by k_ne⟩ | refine And.intro ?_ ?_))
          · exact offSub (offOwn (by assumption) hoff) (by simp [tabL])
        | some cc =>
          obtain ⟨c9, oc9⟩ := cc
          have hP4' := hP4
          refine viaR ?_; intro R9 k9
          obtain ⟨⟨fv9, tq9, d19, d29⟩, hne⟩ := hP4'
          refine k9 ?_; clear k9 R9
          dsimp only [AllNe] at hne
          dsimp only [tabL, List.cons_append, List.nil_append] at Nd hoff
          (try ((fail_if_success (fail_if_success (with_reducible rename (_ ∧ _) => hx9))); refine viaR ?_; intro R9 k9; (repeat (first | ((with_reducible rename (_ ∧ _ ∧ _ ∧ _ ∧ _ ∧ _ ∧ _ ∧ _) => hx9); refine and8 hx9 ?_; clear hx9; intro _ _ _ _ _ _ _ _) | ((with_reducible rename (_ ∧ _ ∧ _ ∧ _) => hx9); refine and4 hx9 ?_; clear hx9; intro _ _ _ _) | ((with_reducible rename (_ ∧ _) => hx9); refine and2 hx9 ?_; clear hx9; intro _ _) | ((with_reducible rename True => hx9); clear hx9))); refine k9 ?_; clear k9 R9))
          repeat' ((fail_if_success (with_reducible show wpAny _ _ (call (Value.ref 35) _) _ _ _)); (fail_if_success (with_reducible show KswEnd _ _ _ _ _ _ _ _ _ _ _ _)); (fail_if_success (with_reducible show FcEnd _ _ _ _ _ _ _ _ _ _)); (fail_if_success (with_reducible show CutEnd _ _ _ _ _ _ _ _ _)); first | (k_unfold; (try dsimp only)) | (k_end; wrow_close) | ((first | ((with_reducible show wpAny _ _ (subscriptTail _ _ _ _) _ _ _); first | (k_here; (with_reducible show wpAny _ _ (subscriptTail (PySem.Expr.Name _ _) (PySem.Expr.Name _ _) (Value.ref _) (Value.int (Nat.cast _) _)) _ _ _); (refine item_lst (by k_asm) (by k_mem) (by exact rfl) (by decide) ?_)) | (k_here; (with_reducible show wpAny _ _ (subscriptTail (PySem.Expr.Subscript (PySem.Expr.Name _ _) (PySem.Expr.Name _ _) _) (PySem.Expr.Constant _ _ _) (Value.ref _) (Value.int _ _)) _ _ _); (refine item_tup (by k_asm) (by k_mem) (by decide) (by decide) (by exact rfl) (by exact rfl) ?_)) | (k_here; (with_reducible show wpAny _ _ (subscriptTail (PySem.Expr.Subscript (PySem.Expr.Subscript _ _ _) (PySem.Expr.Constant _ _ _) _) (PySem.Expr.BinOp _ _ _ _) (Value.ref _) (Value.int (HSub.hSub _ _) _)) _ _ _); (refine item_ints (by k_asm) (by k_mem) (by with_reducible assumption) (by omega) (by omega) (by omega) ?_); intro _) | with_reducible (k_here; (with_reducible show wpAny _ _ (subscriptTail _ (PySem.Expr.Slice _ _ _ _) (Value.str _ _) (Value.ref _)) _ _ _); kxi_slice; intro _ _ _ _ _) | with_reducible (k_here; (with_reducible show wpAny _ _ (subscriptTail _ (PySem.Expr.Slice (some _) (some _) none _) (Value.ref _) (Value.ref _)) _ _ _); k_dflt (refine' sliceRun (s := ⟨_, _, _, _, _⟩) ?F ?N ?m ?x ?y ?z ?_; (case F => k_asm); (case N => k_asm); (case m => k_mem); (case z => assumption); (case x => first | decide | omega); (case y => first | decide | omega)); intro _ _ _ _ l1; (try dsimp only [AllLt] at l1); (try k_sweep)) | with_reducible (k_here; (with_reducible show wpAny _ _ (subscriptTail _ (PySem.Expr.Slice none (some _) none _) (Value.ref _) (Value.ref _)) _ _ _); k_dflt (refine' sliceUpto (s := ⟨_, _, _, _, _⟩) ?F ?N ?m ?x ?z ?_; (case F => k_asm); (case N => k_asm); (case m => k_mem); (case z => assumption); (case x => first | decide | omega)); intro _ _ _ _ l1; (try dsimp only [AllLt] at l1); (try k_sweep)) | with_reducible (k_here; (with_reducible show wpAny _ _ (subscriptTail _ (PySem.Expr.Slice (some _) none none _) (Value.ref _) (Value.ref _)) _ _ _); k_dflt (refine' sliceFrom (s := ⟨_, _, _, _, _⟩) ?F ?N ?m ?x ?z ?_; (case F => k_asm); (case N => k_asm); (case m => k_mem); (case z => first | assumption | exact Nat.le_trans (Nat.le_of_eq (by assumption)) (by decide)); (case x => first | decide | omega)); intro _ _ _ _ l1; (try dsimp only [AllLt] at l1); (try k_sweep)) | with_reducible (k_here; (with_reducible show wpAny _ _ (subscriptTail (Expr.Constant _ _ _) _ (Value.str _ _) (Value.int _ _)) _ _ _); (refine cod_tail (by assumption) ?_ (by with_unfolding_all rfl) (by intro _; with_unfolding_all rfl)))) | walk1); (all_goals ((try ((fail_if_success (fail_if_success (with_reducible rename (_ ∧ _) => hx9))); refine viaR ?_; intro R9 k9; (repeat (first | ((with_reducible rename (_ ∧ _ ∧ _ ∧ _ ∧ _ ∧ _ ∧ _ ∧ _) => hx9); refine and8 hx9 ?_; clear hx9; intro _ _ _ _ _ _ _ _) | ((with_reducible rename (_ ∧ _ ∧ _ ∧ _) => hx9); refine and4 hx9 ?_; clear hx9; intro _ _ _ _) | ((with_reducible rename (_ ∧ _) => hx9); refine and2 hx9 ?_; clear hx9; intro _ _) | ((with_reducible rename True => hx9); clear hx9))); refine k9 ?_; clear k9 R9)); repeat ((with_reducible rename (@Ne Nat _ _) => hx9); (have hx8 := apart_of hx9); clear hx9)))) | (dsimp only; walk1) | (leave1; try dsimp only))
          (rename Fr _ _ _ _ => F9); (rename News _ _ _ _ => N9)
          refine i2d_hit (x := stN ms i) (D := D) (c' := c9) (oc := oc9) (by k_asm) (by k_asm) (by k_asm) (by k_asm) (by k_asm) (by first | exact rfl | assumption) (by ktr_room) (by ktr_units) hst1 hst2 (by omega) (by kn_code) (by k_mem) (by k_mem) d19 d29 (by k_ne) ?_
          intro ad vs k h9 tk9 F8 N8 hi9 hne9
          (try dsimp only at N8)
          clear F9 N9 Nd Fd hne9
          rw [hdig] at hi9
          refine viaR ?_; intro R9 k9; refine ints_three (G := fun v => vs = v → R9) hi9 ?_ rfl; intro t0 t1 t2 vr hvr e9; refine k9 ?_; clear k9 R9; clear hi9; subst e9
          repeat' ((fail_if_success (with_reducible show CutPost _ _ _ _ _ _ _ _ _ _ _)); (fail_if_success (with_reducible show wpAny _ _ (exec (Stmt.For _ _ _ _ _) _) _ _ _)); (fail_if_success (with_reducible show KswEnd _ _ _ _ _ _ _ _ _ _ _ _)); (fail_if_success (with_reducible show FcEnd _ _ _ _ _ _ _ _ _ _)); (fail_if_success (with_reducible show CutEnd _ _ _ _ _ _ _ _ _)); first | (k_unfold; (try dsimp only)) | (k_end; wrow_close) | ((first | ((with_reducible show wpAny _ _ (subscriptTail _ _ _ _) _ _ _); first | (k_here; (with_reducible show wpAny _ _ (subscriptTail (PySem.Expr.Name _ _) (PySem.Expr.Name _ _) (Value.ref _) (Value.int (Nat.cast _) _)) _ _ _); (refine item_lst (by k_asm) (by k_mem) (by exact rfl) (by decide) ?_)) | (k_here; (with_reducible show wpAny _ _ (subscriptTail (PySem.Expr.Subscript (PySem.Expr.Name _ _) (PySem.Expr.Name _ _) _) (PySem.Expr.Constant _ _ _) (Value.ref _) (Value.int _ _)) _ _ _); (refine item_tup (by k_asm) (by k_mem) (by decide) (by decide) (by exact rfl) (by exact rfl) ?_)) | (k_here; (with_reducible show wpAny _ _ (subscriptTail (PySem.Expr.Subscript (PySem.Expr.Subscript _ _ _) (PySem.Expr.Constant _ _ _) _) (PySem.Expr.BinOp _ _ _ _) (Value.ref _) (Value.int (HSub.hSub _ _) _)) _ _ _); (refine item_ints (by k_asm) (by k_mem) (by with_reducible assumption) (by omega) (by omega) (by omega) ?_); intro _) | with_reducible (k_here; (with_reducible show wpAny _ _ (subscriptTail _ (PySem.Expr.Slice _ _ _ _) (Value.str _ _) (Value.ref _)) _ _ _); kxi_slice; intro _ _ _ _ _) | with_reducible (k_here; (with_reducible show wpAny _ _ (subscriptTail _ (PySem.Expr.Slice (some _) (some _) none _) (Value.ref _) (Value.ref _)) _ _ _); k_dflt (refine' sliceRun (s := ⟨_, _, _, _, _⟩) ?F ?N ?m ?x ?y ?z ?_; (case F => k_asm); (case N => k_asm); (case m => k_mem); (case z => assumption); (case x => first | decide | omega); (case y => first | decide | omega)); intro _ _ _ _ l1; (try dsimp only [AllLt] at l1); (try k_sweep)) | with_reducible (k_here; (with_reducible show wpAny _ _ (subscriptTail _ (PySem.Expr.Slice none (some _) none _) (Value.ref _) (Value.ref _)) _ _ _); k_dflt (refine' sliceUpto (s := ⟨_, _, _, _, _⟩) ?F ?N ?m ?x ?z ?_; (case F => k_asm); (case N => k_asm); (case m => k_mem); (case z => assumption); (case x => first | decide | omega)); intro _ _ _ _ l1; (try dsimp only [AllLt] at l1); (try k_sweep)) | with_reducible (k_here; (with_reducible show wpAny _ _ (subscriptTail _ (PySem.Expr.Slice (some _) none none _) (Value.ref _) (Value.ref _)) _ _ _); k_dflt (refine' sliceFrom (s := ⟨_, _, _, _, _⟩) ?F ?N ?m ?x ?z ?_; (case F => k_asm); (case N => k_asm); (case m => k_mem); (case z => first | assumption | exact Nat.le_trans (Nat.le_of_eq (by assumption)) (by decide)); (case x => first | decide | omega)); intro _ _ _ _ l1; (try dsimp only [AllLt] at l1); (try k_sweep)) | with_reducible (k_here; (with_reducible show wpAny _ _ (subscriptTail (Expr.Constant _ _ _) _ (Value.str _ _) (Value.int _ _)) _ _ _); (refine cod_tail (by assumption) ?_ (by with_unfolding_all rfl) (by intro _; with_unfolding_all rfl)))) | walk1); (all_goals ((try ((fail_if_success (fail_if_success (with_reducible rename (_ ∧ _) => hx9))); refine viaR ?_; intro R9 k9; (repeat (first | ((with_reducible rename (_ ∧ _ ∧ _ ∧ _ ∧ _ ∧ _ ∧ _ ∧ _) => hx9); refine and8 hx9 ?_; clear hx9; intro _ _ _ _ _ _ _ _) | ((with_reducible rename (_ ∧ _ ∧ _ ∧ _) => hx9); refine and4 hx9 ?_; clear hx9; intro _ _ _ _) | ((with_reducible rename (_ ∧ _) => hx9); refine and2 hx9 ?_; clear hx9; intro _ _) | ((with_reducible rename True => hx9); clear hx9))); refine k9 ?_; clear k9 R9)); repeat ((with_reducible rename (@Ne Nat _ _) => hx9); (have hx8 := apart_of hx9); clear hx9)))) | (dsimp only; walk1) | (leave1; try dsimp only))
          (rename Fr _ _ _ _ => F5); (rename News _ _ _ _ => N5)
          refine ofGenC hRR2 ?_
          refine cutEnd (ad, (t0, t1, t2), vr, k, some (c9, oc9)) F5 N5 (by (try simp only [tabL, List.cons_append, List.nil_append]); (repeat (first | exact (fun p hp => by (first | exact hp | exact List.Mem.tail _ (hp) | exact List.Mem.tail _ (List.Mem.tail _ (hp)) | exact List.Mem.tail _ (List.Mem.tail _ (List.Mem.tail _ (hp))) | exact List.Mem.tail _ (List.Mem.tail _ (List.Mem.tail _ (List.Mem.tail _ (hp)))) | exact List.Mem.tail _ (List.Mem.tail _ (List.Mem.tail _ (List.Mem.tail _ (List.Mem.tail _ (hp))))) | exact List.Mem.tail _ (List.Mem.tail _ (List.Mem.tail _ (List.Mem.tail _ (List.Mem.tail _ (List.Mem.tail _ (hp)))))) | exact List.Mem.tail _ (List.Mem.tail _ (List.Mem.tail _ (List.Mem.tail _ (List.Mem.tail _ (List.Mem.tail _ (List.Mem.tail _ (hp))))))) | exact List.Mem.tail _ (List.Mem.tail _ (List.Mem.tail _ (List.Mem.tail _ (List.Mem.tail _ (List.Mem.tail _ (List.Mem.tail _ (List.Mem.tail _ (hp)))))))) | exact List.Mem.tail _ (List.Mem.tail _ (List.Mem.tail _ (List.Mem.tail _ (List.Mem.tail _ (List.Mem.tail _ (List.Mem.tail _ (List.Mem.tail _ (List.Mem.tail _ (hp))))))))) | exact List.Mem.tail _ (List.Mem.tail _ (List.Mem.tail _ (List.Mem.tail _ (List.Mem.tail _ (List.Mem.tail _ (List.Mem.tail _ (List.Mem.tail _ (List.Mem.tail _ (List.Mem.tail _ (hp)))))))))) | exact List.Mem.tail _ (List.Mem.tail _ (List.Mem.tail _ (List.Mem.tail _ (List.Mem.tail _ (List.Mem.tail _ (List.Mem.tail _ (List.Mem.tail _ (List.Mem.tail _ (List.Mem.tail _ (List.Mem.tail _ (hp))))))))))) | exact List.Mem.tail _ (List.Mem.tail _ (List.Mem.tail _ (List.Mem.tail _ (List.Mem.tail _ (List.Mem.tail _ (List.Mem.tail _ (List.Mem.tail _ (List.Mem.tail _ (List.Mem.tail _ (List.Mem.tail _ (List.Mem.tail _ (hp)))))))))))) | exact List.Mem.tail _ (List.Mem.tail _ (List.Mem.tail _ (List.Mem.tail _ (List.Mem.tail _ (List.Mem.tail _ (List.Mem.tail _ (List.Mem.tail _ (List.Mem.tail _ (List.Mem.tail _ (List.Mem.tail _ (List.Mem.tail _ (List.Mem.tail _ (hp))))))))))))) | exact List.Mem.tail _ (List.Mem.tail _ (List.Mem.tail _ (List.Mem.tail _ (List.Mem.tail _ (List.Mem.tail _ (List.Mem.tail _ (List.Mem.tail _ (List.Mem.tail _ (List.Mem.tail _ (List.Mem.tail _ (List.Mem.tail _ (List.Mem.tail _ (List.Mem.tail _ (hp)))))))))))))) | exact List.Mem.tail _ (List.Mem.tail _ (List.Mem.tail _ (List.Mem.tail _ (List.Mem.tail _ (List.Mem.tail _ (List.Mem.tail _ (List.Mem.tail _ (List.Mem.tail _ (List.Mem.tail _ (List.Mem.tail _ (List.Mem.tail _ (List.Mem.tail _ (List.Mem.tail _ (List.Mem.tail _ (hp))))))))))))))) | exact List.Mem.tail _ (List.Mem.tail _ (List.Mem.tail _ (List.Mem.tail _ (List.Mem.tail _ (List.Mem.tail _ (List.Mem.tail _ (List.Mem.tail _ (List.Mem.tail _ (List.Mem.tail _ (List.Mem.tail _ (List.Mem.tail _ (List.Mem.tail _ (List.Mem.tail _ (List.Mem.tail _ (List.Mem.tail _ (hp)))))))))))))))) | exact List.Mem.tail _ (List.Mem.tail _ (List.Mem.tail _ (List.Mem.tail _ (List.Mem.tail _ (List.Mem.tail _ (List.Mem.tail _ (List.Mem.tail _ (List.Mem.tail _ (List.Mem.tail _ (List.Mem.tail _ (List.Mem.tail _ (List.Mem.tail _ (List.Mem.tail _ (List.Mem.tail _ (List.Mem.tail _ (List.Mem.tail _ (hp))))))))))))))))) | exact List.Mem.tail _ (List.Mem.tail _ (List.Mem.tail _ (List.Mem.tail _ (List.Mem.tail _ (List.Mem.tail _ (List.Mem.tail _ (List.Mem.tail _ (List.Mem.tail _ (List.Mem.tail _ (List.Mem.tail _ (List.Mem.tail _ (List.Mem.tail _ (List.Mem.tail _ (List.Mem.tail _ (List.Mem.tail _ (List.Mem.tail _ (List.Mem.tail _ (hp)))))))))))))))))) | exact List.Mem.tail _ (List.Mem.tail _ (List.Mem.tail _ (List.Mem.tail _ (List.Mem.tail _ (List.Mem.tail _ (List.Mem.tail _ (List.Mem.tail _ (List.Mem.tail _ (List.Mem.tail _ (List.Mem.tail _ (List.Mem.tail _ (List.Mem.tail _ (List.Mem.tail _ (List.Mem.tail _ (List.Mem.tail _ (List.Mem.tail _ (List.Mem.tail _ (List.Mem.tail _ (hp))))))))))))))))))) | exact List.Mem.tail _ (List.Mem.tail _ (List.Mem.tail _ (List.Mem.tail _ (List.Mem.tail _ (List.Mem.tail _ (List.Mem.tail _ (List.Mem.tail _ (List.Mem.tail _ (List.Mem.tail _ (List.Mem.tail _ (List.Mem.tail _ (List.Mem.tail _ (List.Mem.tail _ (List.Mem.tail _ (List.Mem.tail _ (List.Mem.tail _ (List.Mem.tail _ (List.Mem.tail _ (List.Mem.tail _ (hp)))))))))))))))))))) | exact List.Mem.tail _ (List.Mem.tail _ (List.Mem.tail _ (List.Mem.tail _ (List.Mem.tail _ (List.Mem.tail _ (List.Mem.tail _ (List.Mem.tail _ (List.Mem.tail _ (List.Mem.tail _ (List.Mem.tail _ (List.Mem.tail _ (List.Mem.tail _ (List.Mem.tail _ (List.Mem.tail _ (List.Mem.tail _ (List.Mem.tail _ (List.Mem.tail _ (List.Mem.tail _ (List.Mem.tail _ (List.Mem.tail _ (hp))))))))))))))))))))) | exact List.Mem.tail _ (List.Mem.tail _ (List.Mem.tail _ (List.Mem.tail _ (List.Mem.tail _ (List.Mem.tail _ (List.Mem.tail _ (List.Mem.tail _ (List.Mem.tail _ (List.Mem.tail _ (List.Mem.tail _ (List.Mem.tail _ (List.Mem.tail _ (List.Mem.tail _ (List.Mem.tail _ (List.Mem.tail _ (List.Mem.tail _ (List.Mem.tail _ (List.Mem.tail _ (List.Mem.tail _ (List.Mem.tail _ (List.Mem.tail _ (hp)))))))))))))))))))))) | exact List.Mem.tail _ (List.Mem.tail _ (List.Mem.tail _ (List.Mem.tail _ (List.Mem.tail _ (List.Mem.tail _ (List.Mem.tail _ (List.Mem.tail _ (List.Mem.tail _ (List.Mem.tail _ (List.Mem.tail _ (List.Mem.tail _ (List.Mem.tail _ (List.Mem.tail _ (List.Mem.tail _ (List.Mem.tail _ (List.Mem.tail _ (List.Mem.tail _ (List.Mem.tail _ (List.Mem.tail _ (List.Mem.tail _ (List.Mem.tail _ (List.Mem.tail _ (hp))))))))))))))))))))))))) | refine fmem (by k_mem) ?_))) (by kst_all) (by (intro z h2 h3; (have hz0 : z ≠ Str.ofString "digits" := h2 _ (.head _)); simp only [kstB, h3, if_neg hz0, Bool.false_eq_true, if_false])) ⟨hvr, hP4, offSub hoff (by simp [tabL])⟩
      case h2 =>
      refine all_1_3_1_1_1 ?_; intro ad td0 td1 td2 vr kd tb2 uq2 hq2 tkq2 hP Fe Ne
      have hvr := hP.1; have hT2 := hP.2.1; have hO2 := hP.2.2; clear hP
      dsimp only at hvr hT2 hO2 Fe Ne
      clear Fd Nd
      simp only [List.cons_append, List.append_assoc, List.nil_append] at Ne
      clear hoff2 hown
      generalize hown : tabL 30 53 4 tb2 ++ own = own2 at Ne
      generalize hRX : ((aR, LCg.lst [.ref u0, .ref u1, .ref u2, .ref u3]) :: (u3, tupOf #[.int (stN ms 3 : Nat) t3r, .ref c3]) :: (c3, listOf v3.toArray k3r) :: (u2, tupOf #[.int (stN ms 2 : Nat) t2r, .ref c2]) :: (c2, listOf v2.toArray k2r) :: (u1, tupOf #[.int (stN ms 1 : Nat) t1r, .ref c1]) :: (c1, listOf v1.toArray k1r) :: (u0, tupOf #[.int (stN ms 0 : Nat) t0r, .ref c0]) :: (c0, listOf v0.toArray k0r) :: (s1.heap.objs.size + 1 + 1 + 1, oR2) :: (37, tabObj ps37) :: (81, tabObj ps81) :: own2) = ownX at Ne
      have hvl : vr.length = (zs (onesL cnt)).length := hvr.length
      have hol : (zs (onesL cnt)).length ≤ 4 := by rw [zs_len]; exact onesL_len hcnt
      have hdl : (Value.int (d0 : Int) td0 :: Value.int (d1 : Int) td1 :: Value.int (d2 : Int) td2 :: vr).length ≤ 1000 := by simp only [List.length_cons]; omega
      (try k_unfold); (try dsimp only)
      refine' stCut (σ := Addr × (Tok × Tok × Tok)) Fe (fun c => (s1.heap.objs.size + 1 + 1, oS) :: (aC, listOf vC.toArray kC) :: (ad, listOf (Value.int (d0 : Int) td0 :: Value.int (d1 : Int) td1 :: Value.int (d2 : Int) td2 :: vr).toArray kd) :: (c.1, LCg.lst [.int (zer d0) c.2.1, .int (zer d1) c.2.2.1, .int (zer d2) c.2.2.2]) :: ((aF, listOf fs.toArray kf) :: ownX)) (fun c => [(Str.ofString "noughts", .ref c.1)]) [] (fun c => True) ?h1 ?h2
      case h1 =>
        refine wpGen ?_; intro RR2 hRR2
        k_dflt (refine LCg.Assign_ListComp_U (F₀ := by k_asm) (by rfl) (by with_unfolding_all rfl) (by with_unfolding_all rfl) (by decide) (by rfl) (by decide) (by rfl) (by rfl) (by rfl) ?_)
        repeat' ((fail_if_success (with_reducible show LCg.CompSrc _ _ _ _ _ _ _ _ _ _ _ _ _ _)); (fail_if_success (with_reducible show KswEnd _ _ _ _ _ _ _ _ _ _ _ _)); (fail_if_success (with_reducible show FcEnd _ _ _ _ _ _ _ _ _ _)); (fail_if_success (with_reducible show CutEnd _ _ _ _ _ _ _ _ _)); first | (k_unfold; (try dsimp only)) | (k_end; wrow_close) | ((first | ((with_reducible show wpAny _ _ (subscriptTail _ _ _ _) _ _ _); first | (k_here; (with_reducible show wpAny _ _ (subscriptTail (PySem.Expr.Name _ _) (PySem.Expr.Name _ _) (Value.ref _) (Value.int (Nat.cast _) _)) _ _ _); (refine item_lst (by k_asm) (by k_mem) (by exact rfl) (by decide) ?_)) | (k_here; (with_reducible show wpAny _ _ (subscriptTail (PySem.Expr.Subscript (PySem.Expr.Name _ _) (PySem.Expr.Name _ _) _) (PySem.Expr.Constant _ _ _) (Value.ref _) (Value.int _ _)) _ _ _); (refine item_tup (by k_asm) (by k_mem) (by decide) (by decide) (by exact rfl) (by exact rfl) ?_)) | (k_here; (with_reducible show wpAny _ _ (subscriptTail (PySem.Expr.Subscript (PySem.Expr.Subscript _ _ _) (PySem.Expr.Constant _ _ _) _) (PySem.Expr.BinOp _ _ _ _) (Value.ref _) (Value.int (HSub.hSub _ _) _)) _ _ _); (refine item_ints (by k_asm) (by k_mem) (by with_reducible assumption) (by omega) (by omega) (by omega) ?_); intro _) | with_reducible (k_here; (with_reducible show wpAny _ _ (subscriptTail _ (PySem.Expr.Slice _ _ _ _) (Value.str _ _) (Value.ref _)) _ _ _); kxi_slice; intro _ _ _ _ _) | with_reducible (k_here; (with_reducible show wpAny _ _ (subscriptTail _ (PySem.Expr.Slice (some _) (some _) none _) (Value.ref _) (Value.ref _)) _ _ _); k_dflt (refine' sliceRun (s := ⟨_, _, _, _, _⟩) ?F ?N ?m ?x ?y ?z ?_; (case F => k_asm); (case N => k_asm); (case m => k_mem); (case z => assumption); (case x => first | decide | omega); (case y => first | decide | omega)); intro _ _ _ _ l1; (try dsimp only [AllLt] at l1); (try k_sweep)) | with_reducible (k_here; (with_reducible show wpAny _ _ (subscriptTail _ (PySem.Expr.Slice none (some _) none _) (Value.ref _) (Value.ref _)) _ _ _); k_dflt (refine' sliceUpto (s := ⟨_, _, _, _, _⟩) ?F ?N ?m ?x ?z ?_; (case F => k_asm); (case N => k_asm); (case m => k_mem); (case z => assumption); (case x => first | decide | omega)); intro _ _ _ _ l1; (try dsimp only [AllLt] at l1); (try k_sweep)) | with_reducible (k_here; (with_reducible show wpAny _ _ (subscriptTail _ (PySem.Expr.Slice (some _) none none _) (Value.ref _) (Value.ref _)) _ _ _); k_dflt (refine' sliceFrom (s := ⟨_, _, _, _, _⟩) ?F ?N ?m ?x ?z ?_; (case F => k_asm); (case N => k_asm); (case m => k_mem); (case z => first | assumption | exact Nat.le_trans (Nat.le_of_eq (by assumption)) (by decide)); (case x => first | decide | omega)); intro _ _ _ _ l1; (try dsimp only [AllLt] at l1); (try k_sweep)) | with_reducible (k_here; (with_reducible show wpAny _ _ (subscriptTail (Expr.Constant _ _ _) _ (Value.str _ _) (Value.int _ _)) _ _ _); (refine cod_tail (by assumption) ?_ (by with_unfolding_all rfl) (by intro _; with_unfolding_all rfl)))) | ((with_reducible show wpAny _ _ (call (Value.ref _) _ _) _ _ _); first | with_reducible (k_here; kn_here; (with_reducible show wpAny _ _ (call (Value.ref 72) _) _ _ _); k_dflt (refine' run_at (by k_asm) (by k_asm) (by k_asm) (by k_asm) (by k_asm) (by first | exact rfl | assumption) (by ktr_room) (by ktr_units) ?hms ?hlen ?hne ?_; (case hms => exact zs_ints_drop (by assumption) _); (case hlen => exact Nat.le_trans (Nat.le_of_eq List.length_drop) (by omega)); (case hne => (dsimp only [AllNe]; (repeat' (first | exact trivial | assumption | exact ⟨by assumption⟩ | exact ⟨Nat.ne_of_lt (by assumption)⟩ | exact ⟨by k_ne⟩ | refine And.intro ?_ ?_))))); intro _ _ _ _ _ _ _ _ _ l9 _ _; (dsimp only [AllLt] at l9); (try k_sweep); (try k_fold)) | with_reducible (k_here; kn_here; (with_reducible show wpAny _ _ (call (Value.ref 79) _) _ _ _); k_dflt (refine nought_ok (by k_asm) (by k_asm) (by k_asm) (by k_asm) (by k_asm) (by first | exact rfl | assumption) (by ktr_room) (by ktr_units) ?_); intro _ _ _ _ _; (try k_fold))) | walk1); (all_goals ((try ((fail_if_success (fail_if_success (with_reducible rename (_ ∧ _) => hx9))); refine viaR ?_; intro R9 k9; (repeat (first | ((with_reducible rename (_ ∧ _ ∧ _ ∧ _ ∧ _ ∧ _ ∧ _ ∧ _) => hx9); refine and8 hx9 ?_; clear hx9; intro _ _ _ _ _ _ _ _) | ((with_reducible rename (_ ∧ _ ∧ _ ∧ _) => hx9); refine and4 hx9 ?_; clear hx9; intro _ _ _ _) | ((with_reducible rename (_ ∧ _) => hx9); refine and2 hx9 ?_; clear hx9; intro _ _) | ((with_reducible rename True => hx9); clear hx9))); refine k9 ?_; clear k9 R9)); repeat ((with_reducible rename (@Ne Nat _ _) => hx9); (have hx8 := apart_of hx9); clear hx9)))) | (dsimp only; walk1) | (leave1; try dsimp only))
        (rename Fr _ _ _ _ => Fd); (rename News _ _ _ _ => Nd)
        have e3 : List.take (3 : Int).toNat (Value.int (d0 : Int) td0 :: Value.int (d1 : Int) td1 :: Value.int (d2 : Int) td2 :: vr) = [Value.int (d0 : Int) td0, Value.int (d1 : Int) td1, Value.int (d2 : Int) td2] := rfl
        rw [e3] at Nd
        refine LCg.CompSrc.ledger (its := #[Value.int (d0 : Int) td0, Value.int (d1 : Int) td1, Value.int (d2 : Int) td2]) (by rfl) Fd Nd (by k_mem) (by first | size_fits | exact Nat.le_of_ble_eq_true rfl) ?_
        intro g'
        refine' kcf_list (vs := [Value.int (d0 : Int) td0, Value.int (d1 : Int) td1, Value.int (d2 : Int) td2]) (ns := [(d0 : Int), (d1 : Int), (d2 : Int)]) (fun k => 4 - k % 2 - k / 2 % 2 - k / 4 % 2 - k / 8 % 2) (.cons _ _ (.cons _ _ (.cons _ _ .nil))) (fun k' t' I' oI' C' oC' D' m' ys' h' tk' E' hk' hC' hx' F' N' off' ne' hMark' => ?_) ?_
        · repeat' ((fail_if_success (with_reducible show wpAny _ _ (exec (Stmt.While _ _ _ _) _) _ _ _)); (fail_if_success (with_reducible show wpAny _ _ (exec (Stmt.For _ _ _ _ _) _) _ _ _)); (fail_if_success (with_reducible show KswEnd _ _ _ _ _ _ _ _ _ _ _ _)); (fail_if_success (with_reducible show FcEnd _ _ _ _ _ _ _ _ _ _)); (fail_if_success (with_reducible show CutEnd _ _ _ _ _ _ _ _ _)); first | (k_unfold; (try dsimp only)) | (k_end; wrow_close) | ((with_reducible show wpAny _ _ (subscriptTail _ _ _ _) _ _ _); first | (k_here; (with_reducible show wpAny _ _ (subscriptTail (PySem.Expr.Name _ _) (PySem.Expr.Name _ _) (Value.ref _) (Value.int (Nat.cast _) _)) _ _ _); (refine item_lst (by k_asm) (by k_mem) (by exact rfl) (by decide) ?_)) | (k_here; (with_reducible show wpAny _ _ (subscriptTail (PySem.Expr.Subscript (PySem.Expr.Name _ _) (PySem.Expr.Name _ _) _) (PySem.Expr.Constant _ _ _) (Value.ref _) (Value.int _ _)) _ _ _); (refine item_tup (by k_asm) (by k_mem) (by decide) (by decide) (by exact rfl) (by exact rfl) ?_)) | (k_here; (with_reducible show wpAny _ _ (subscriptTail (PySem.Expr.Subscript (PySem.Expr.Subscript _ _ _) (PySem.Expr.Constant _ _ _) _) (PySem.Expr.BinOp _ _ _ _) (Value.ref _) (Value.int (HSub.hSub _ _) _)) _ _ _); (refine item_ints (by k_asm) (by k_mem) (by with_reducible assumption) (by omega) (by omega) (by omega) ?_); intro _) | with_reducible (k_here; (with_reducible show wpAny _ _ (subscriptTail _ (PySem.Expr.Slice _ _ _ _) (Value.str _ _) (Value.ref _)) _ _ _); kxi_slice; intro _ _ _ _ _) | with_reducible (k_here; (with_reducible show wpAny _ _ (subscriptTail _ (PySem.Expr.Slice (some _) (some _) none _) (Value.ref _) (Value.ref _)) _ _ _); k_dflt (refine' sliceRun (s := ⟨_, _, _, _, _⟩) ?F ?N ?m ?x ?y ?z ?_; (case F => k_asm); (case N => k_asm); (case m => k_mem); (case z => assumption); (case x => first | decide | omega); (case y => first | decide | omega)); intro _ _ _ _ l1; (try dsimp only [AllLt] at l1); (try k_sweep)) | with_reducible (k_here; (with_reducible show wpAny _ _ (subscriptTail _ (PySem.Expr.Slice none (some _) none _) (Value.ref _) (Value.ref _)) _ _ _); k_dflt (refine' sliceUpto (s := ⟨_, _, _, _, _⟩) ?F ?N ?m ?x ?z ?_; (case F => k_asm); (case N => k_asm); (case m => k_mem); (case z => assumption); (case x => first | decide | omega)); intro _ _ _ _ l1; (try dsimp only [AllLt] at l1); (try k_sweep)) | with_reducible (k_here; (with_reducible show wpAny _ _ (subscriptTail _ (PySem.Expr.Slice (some _) none none _) (Value.ref _) (Value.ref _)) _ _ _); k_dflt (refine' sliceFrom (s := ⟨_, _, _, _, _⟩) ?F ?N ?m ?x ?z ?_; (case F => k_asm); (case N => k_asm); (case m => k_mem); (case z => first | assumption | exact Nat.le_trans (Nat.le_of_eq (by assumption)) (by decide)); (case x => first | decide | omega)); intro _ _ _ _ l1; (try dsimp only [AllLt] at l1); (try k_sweep)) | with_reducible (k_here; (with_reducible show wpAny _ _ (subscriptTail (Expr.Constant _ _ _) _ (Value.str _ _) (Value.int _ _)) _ _ _); (refine cod_tail (by assumption) ?_ (by with_unfolding_all rfl) (by intro _; with_unfolding_all rfl)))) | ((with_reducible show wpAny _ _ (call (Value.ref _) _ _) _ _ _); first | with_reducible (k_here; kn_here; (with_reducible show wpAny _ _ (call (Value.ref 72) _) _ _ _); k_dflt (refine' run_at (by k_asm) (by k_asm) (by k_asm) (by k_asm) (by k_asm) (by first | exact rfl | assumption) (by ktr_room) (by ktr_units) ?hms ?hlen ?hne ?_; (case hms => exact zs_ints_drop (by assumption) _); (case hlen => exact Nat.le_trans (Nat.le_of_eq List.length_drop) (by omega)); (case hne => (dsimp only [AllNe]; (repeat' (first | exact trivial | assumption | exact ⟨by assumption⟩ | exact ⟨Nat.ne_of_lt (by assumption)⟩ | exact ⟨by k_ne⟩ | refine And.intro ?_ ?_))))); intro _ _ _ _ _ _ _ _ _ l9 _ _; (dsimp only [AllLt] at l9); (try k_sweep); (try k_fold)) | with_reducible (k_here; kn_here; (with_reducible show wpAny _ _ (call (Value.ref 79) _) _ _ _); k_dflt (refine nought_ok (by k_asm) (by k_asm) (by k_asm) (by k_asm) (by k_asm) (by first | exact rfl | assumption) (by ktr_room) (by ktr_units) ?_); intro _ _ _ _ _; (try k_fold))) | walk1 | (dsimp only; walk1) | (leave1; try dsimp only))
        · intro ys hys
          refine viaR ?_; intro R9 k9; refine ints_zer (G := fun v => ys = v → R9) hys ?_ rfl; intro tz0 tz1 tz2 e9; refine k9 ?_; clear k9 R9; clear hys; subst e9
          repeat' ((fail_if_success (with_reducible show CutPost _ _ _ _ _ _ _ _ _ _ _)); (fail_if_success (with_reducible show wpAny _ _ (exec (Stmt.For _ _ _ _ _) _) _ _ _)); (fail_if_success (with_reducible show KswEnd _ _ _ _ _ _ _ _ _ _ _ _)); (fail_if_success (with_reducible show FcEnd _ _ _ _ _ _ _ _ _ _)); (fail_if_success (with_reducible show CutEnd _ _ _ _ _ _ _ _ _)); first | (k_unfold; (try dsimp only)) | (k_end; wrow_close) | ((first | ((with_reducible show wpAny _ _ (subscriptTail _ _ _ _) _ _ _); first | (k_here; (with_reducible show wpAny _ _ (subscriptTail (PySem.Expr.Name _ _) (PySem.Expr.Name _ _) (Value.ref _) (Value.int (Nat.cast _) _)) _ _ _); (refine item_lst (by k_asm) (by k_mem) (by exact rfl) (by decide) ?_)) | (k_here; (with_reducible show wpAny _ _ (subscriptTail (PySem.Expr.Subscript (PySem.Expr.Name _ _) (PySem.Expr.Name _ _) _) (PySem.Expr.Constant _ _ _) (Value.ref _) (Value.int _ _)) _ _ _); (refine item_tup (by k_asm) (by k_mem) (by decide) (by decide) (by exact rfl) (by exact rfl) ?_)) | (k_here; (with_reducible show wpAny _ _ (subscriptTail (PySem.Expr.Subscript (PySem.Expr.Subscript _ _ _) (PySem.Expr.Constant _ _ _) _) (PySem.Expr.BinOp _ _ _ _) (Value.ref _) (Value.int (HSub.hSub _ _) _)) _ _ _); (refine item_ints (by k_asm) (by k_mem) (by with_reducible assumption) (by omega) (by omega) (by omega) ?_); intro _) | with_reducible (k_here; (with_reducible show wpAny _ _ (subscriptTail _ (PySem.Expr.Slice _ _ _ _) (Value.str _ _) (Value.ref _)) _ _ _); kxi_slice; intro _ _ _ _ _) | with_reducible (k_here; (with_reducible show wpAny _ _ (subscriptTail _ (PySem.Expr.Slice (some _) (some _) none _) (Value.ref _) (Value.ref _)) _ _ _); k_dflt (refine' sliceRun (s := ⟨_, _, _, _, _⟩) ?F ?N ?m ?x ?y ?z ?_; (case F => k_asm); (case N => k_asm); (case m => k_mem); (case z => assumption); (case x => first | decide | omega); (case y => first | decide | omega)); intro _ _ _ _ l1; (try dsimp only [AllLt] at l1); (try k_sweep)) | with_reducible (k_here; (with_reducible show wpAny _ _ (subscriptTail _ (PySem.Expr.Slice none (some _) none _) (Value.ref _) (Value.ref _)) _ _ _); k_dflt (refine' sliceUpto (s := ⟨_, _, _, _, _⟩) ?F ?N ?m ?x ?z ?_; (case F => k_asm); (case N => k_asm); (case m => k_mem); (case z => assumption); (case x => first | decide | omega)); intro _ _ _ _ l1; (try dsimp only [AllLt] at l1); (try k_sweep)) | with_reducible (k_here; (with_reducible show wpAny _ _ (subscriptTail _ (PySem.Expr.Slice (some _) none none _) (Value.ref _) (Value.ref _)) _ _ _); k_dflt (refine' sliceFrom (s := ⟨_, _, _, _, _⟩) ?F ?N ?m ?x ?z ?_; (case F => k_asm); (case N => k_asm); (case m => k_mem); (case z => first | assumption | exact Nat.le_trans (Nat.le_of_eq (by assumption)) (by decide)); (case x => first | decide | omega)); intro _ _ _ _ l1; (try dsimp only [AllLt] at l1); (try k_sweep)) | with_reducible (k_here; (with_reducible show wpAny _ _ (subscriptTail (Expr.Constant _ _ _) _ (Value.str _ _) (Value.int _ _)) _ _ _); (refine cod_tail (by assumption) ?_ (by with_unfolding_all rfl) (by intro _; with_unfolding_all rfl)))) | ((with_reducible show wpAny _ _ (call (Value.ref _) _ _) _ _ _); first | with_reducible (k_here; kn_here; (with_reducible show wpAny _ _ (call (Value.ref 72) _) _ _ _); k_dflt (refine' run_at (by k_asm) (by k_asm) (by k_asm) (by k_asm) (by k_asm) (by first | exact rfl | assumption) (by ktr_room) (by ktr_units) ?hms ?hlen ?hne ?_; (case hms => exact zs_ints_drop (by assumption) _); (case hlen => exact Nat.le_trans (Nat.le_of_eq List.length_drop) (by omega)); (case hne => (dsimp only [AllNe]; (repeat' (first | exact trivial | assumption | exact ⟨by assumption⟩ | exact ⟨Nat.ne_of_lt (by assumption)⟩ | exact ⟨by k_ne⟩ | refine And.intro ?_ ?_))))); intro _ _ _ _ _ _ _ _ _ l9 _ _; (dsimp only [AllLt] at l9); (try k_sweep); (try k_fold)) | with_reducible (k_here; kn_here; (with_reducible show wpAny _ _ (call (Value.ref 79) _) _ _ _); k_dflt (refine nought_ok (by k_asm) (by k_asm) (by k_asm) (by k_asm) (by k_asm) (by first | exact rfl | assumption) (by ktr_room) (by ktr_units) ?_); intro _ _ _ _ _; (try k_fold))) | walk1); (all_goals ((try ((fail_if_success (fail_if_success (with_reducible rename (_ ∧ _) => hx9))); refine viaR ?_; intro R9 k9; (repeat (first | ((with_reducible rename (_ ∧ _ ∧ _ ∧ _ ∧ _ ∧ _ ∧ _ ∧ _) => hx9); refine and8 hx9 ?_; clear hx9; intro _ _ _ _ _ _ _ _) | ((with_reducible rename (_ ∧ _ ∧ _ ∧ _) => hx9); refine and4 hx9 ?_; clear hx9; intro _ _ _ _) | ((with_reducible rename (_ ∧ _) => hx9); refine and2 hx9 ?_; clear hx9; intro _ _) | ((with_reducible rename True => hx9); clear hx9))); refine k9 ?_; clear k9 R9)); repeat ((with_reducible rename (@Ne Nat _ _) => hx9); (have hx8 := apart_of hx9); clear hx9)))) | (dsimp only; walk1) | (leave1; try dsimp only))
          (rename Fr _ _ _ _ => F5); (rename News _ _ _ _ => N5)
          refine ofGenC hRR2 ?_
          exact cutEnd (_, (tz0, tz1, tz2)) F5 N5 (by (try simp only [tabL, List.cons_append, List.nil_append]); (repeat (first | exact (fun p hp => by (first | exact hp | exact List.Mem.tail _ (hp) | exact List.Mem.tail _ (List.Mem.tail _ (hp)) | exact List.Mem.tail _ (List.Mem.tail _ (List.Mem.tail _ (hp))) | exact List.Mem.tail _ (List.Mem.tail _ (List.Mem.tail _ (List.Mem.tail _ (hp)))) | exact List.Mem.tail _ (List.Mem.tail _ (List.Mem.tail _ (List.Mem.tail _ (List.Mem.tail _ (hp))))) | exact List.Mem.tail _ (List.Mem.tail _ (List.Mem.tail _ (List.Mem.tail _ (List.Mem.tail _ (List.Mem.tail _ (hp)))))) | exact List.Mem.tail _ (List.Mem.tail _ (List.Mem.tail _ (List.Mem.tail _ (List.Mem.tail _ (List.Mem.tail _ (List.Mem.tail _ (hp))))))) | exact List.Mem.tail _ (List.Mem.tail _ (List.Mem.tail _ (List.Mem.tail _ (List.Mem.tail _ (List.Mem.tail _ (List.Mem.tail _ (List.Mem.tail _ (hp)))))))) | exact List.Mem.tail _ (List.Mem.tail _ (List.Mem.tail _ (List.Mem.tail _ (List.Mem.tail _ (List.Mem.tail _ (List.Mem.tail _ (List.Mem.tail _ (List.Mem.tail _ (hp))))))))) | exact List.Mem.tail _ (List.Mem.tail _ (List.Mem.tail _ (List.Mem.tail _ (List.Mem.tail _ (List.Mem.tail _ (List.Mem.tail _ (List.Mem.tail _ (List.Mem.tail _ (List.Mem.tail _ (hp)))))))))) | exact List.Mem.tail _ (List.Mem.tail _ (List.Mem.tail _ (List.Mem.tail _ (List.Mem.tail _ (List.Mem.tail _ (List.Mem.tail _ (List.Mem.tail _ (List.Mem.tail _ (List.Mem.tail _ (List.Mem.tail _ (hp))))))))))) | exact List.Mem.tail _ (List.Mem.tail _ (List.Mem.tail _ (List.Mem.tail _ (List.Mem.tail _ (List.Mem.tail _ (List.Mem.tail _ (List.Mem.tail _ (List.Mem.tail _ (List.Mem.tail _ (List.Mem.tail _ (List.Mem.tail _ (hp)))))))))))) | exact List.Mem.tail _ (List.Mem.tail _ (List.Mem.tail _ (List.Mem.tail _ (List.Mem.tail _ (List.Mem.tail _ (List.Mem.tail _ (List.Mem.tail _ (List.Mem.tail _ (List.Mem.tail _ (List.Mem.tail _ (List.Mem.tail _ (List.Mem.tail _ (hp))))))))))))) | exact List.Mem.tail _ (List.Mem.tail _ (List.Mem.tail _ (List.Mem.tail _ (List.Mem.tail _ (List.Mem.tail _ (List.Mem.tail _ (List.Mem.tail _ (List.Mem.tail _ (List.Mem.tail _ (List.Mem.tail _ (List.Mem.tail _ (List.Mem.tail _ (List.Mem.tail _ (hp)))))))))))))) | exact List.Mem.tail _ (List.Mem.tail _ (List.Mem.tail _ (List.Mem.tail _ (List.Mem.tail _ (List.Mem.tail _ (List.Mem.tail _ (List.Mem.tail _ (List.Mem.tail _ (List.Mem.tail _ (List.Mem.tail _ (List.Mem.tail _ (List.Mem.tail _ (List.Mem.tail _ (List.Mem.tail _ (hp))))))))))))))) | exact List.Mem.tail _ (List.Mem.tail _ (List.Mem.tail _ (List.Mem.tail _ (List.Mem.tail _ (List.Mem.tail _ (List.Mem.tail _ (List.Mem.tail _ (List.Mem.tail _ (List.Mem.tail _ (List.Mem.tail _ (List.Mem.tail _ (List.Mem.tail _ (List.Mem.tail _ (List.Mem.tail _ (List.Mem.tail _ (hp)))))))))))))))) | exact List.Mem.tail _ (List.Mem.tail _ (List.Mem.tail _ (List.Mem.tail _ (List.Mem.tail _ (List.Mem.tail _ (List.Mem.tail _ (List.Mem.tail _ (List.Mem.tail _ (List.Mem.tail _ (List.Mem.tail _ (List.Mem.tail _ (List.Mem.tail _ (List.Mem.tail _ (List.Mem.tail _ (List.Mem.tail _ (List.Mem.tail _ (hp))))))))))))))))) | exact List.Mem.tail _ (List.Mem.tail _ (List.Mem.tail _ (List.Mem.tail _ (List.Mem.tail _ (List.Mem.tail _ (List.Mem.tail _ (List.Mem.tail _ (List.Mem.tail _ (List.Mem.tail _ (List.Mem.tail _ (List.Mem.tail _ (List.Mem.tail _ (List.Mem.tail _ (List.Mem.tail _ (List.Mem.tail _ (List.Mem.tail _ (List.Mem.tail _ (hp)))))))))))))))))) | exact List.Mem.tail _ (List.Mem.tail _ (List.Mem.tail _ (List.Mem.tail _ (List.Mem.tail _ (List.Mem.tail _ (List.Mem.tail _ (List.Mem.tail _ (List.Mem.tail _ (List.Mem.tail _ (List.Mem.tail _ (List.Mem.tail _ (List.Mem.tail _ (List.Mem.tail _ (List.Mem.tail _ (List.Mem.tail _ (List.Mem.tail _ (List.Mem.tail _ (List.Mem.tail _ (hp))))))))))))))))))) | exact List.Mem.tail _ (List.Mem.tail _ (List.Mem.tail _ (List.Mem.tail _ (List.Mem.tail _ (List.Mem.tail _ (List.Mem.tail _ (List.Mem.tail _ (List.Mem.tail _ (List.Mem.tail _ (List.Mem.tail _ (List.Mem.tail _ (List.Mem.tail _ (List.Mem.tail _ (List.Mem.tail _ (List.Mem.tail _ (List.Mem.tail _ (List.Mem.tail _ (List.Mem.tail _ (List.Mem.tail _ (hp)))))))))))))))))))) | exact List.Mem.tail _ (List.Mem.tail _ (List.Mem.tail _ (List.Mem.tail _ (List.Mem.tail _ (List.Mem.tail _ (List.Mem.tail _ (List.Mem.tail _ (List.Mem.tail _ (List.Mem.tail _ (List.Mem.tail _ (List.Mem.tail _ (List.Mem.tail _ (List.Mem.tail _ (List.Mem.tail _ (List.Mem.tail _ (List.Mem.tail _ (List.Mem.tail _ (List.Mem.tail _ (List.Mem.tail _ (List.Mem.tail _ (hp))))))))))))))))))))) | exact List.Mem.tail _ (List.Mem.tail _ (List.Mem.tail _ (List.Mem.tail _ (List.Mem.tail _ (List.Mem.tail _ (List.Mem.tail _ (List.Mem.tail _ (List.Mem.tail _ (List.Mem.tail _ (List.Mem.tail _ (List.Mem.tail _ (List.Mem.tail _ (List.Mem.tail _ (List.Mem.tail _ (List.Mem.tail _ (List.Mem.tail _ (List.Mem.tail _ (List.Mem.tail _ (List.Mem.tail _ (List.Mem.tail _ (List.Mem.tail _ (hp)))))))))))))))))))))) | exact List.Mem.tail _ (List.Mem.tail _ (List.Mem.tail _ (List.Mem.tail _ (List.Mem.tail _ (List.Mem.tail _ (List.Mem.tail _ (List.Mem.tail _ (List.Mem.tail _ (List.Mem.tail _ (List.Mem.tail _ (List.Mem.tail _ (List.Mem.tail _ (List.Mem.tail _ (List.Mem.tail _ (List.Mem.tail _ (List.Mem.tail _ (List.Mem.tail _ (List.Mem.tail _ (List.Mem.tail _ (List.Mem.tail _ (List.Mem.tail _ (List.Mem.tail _ (hp))))))))))))))))))))))))) | refine fmem (by k_mem) ?_))) (by kst_all) (by (intro z h2 h3; (have hz0 : z ≠ Str.ofString "noughts" := h2 _ (.head _)); simp only [kstB, h3, if_neg hz0, Bool.false_eq_true, if_false])) trivial
      case h2 =>
      refine all_1_1_1_1 ?_; intro an tz0 tz1 tz2 uq3 hq3 tkq3 _ Ff Nf
      (try dsimp only at Ff Nf)
      clear Fe Ne
      refine' stCut (σ := Tok) Ff (fun _ => ((s1.heap.objs.size + 1 + 1, oS) :: (aC, listOf vC.toArray kC) :: (ad, listOf (Value.int (d0 : Int) td0 :: Value.int (d1 : Int) td1 :: Value.int (d2 : Int) td2 :: vr).toArray kd) :: (an, LCg.lst [.int (zer d0) tz0, .int (zer d1) tz1, .int (zer d2) tz2]) :: ((aF, listOf fs.toArray kf) :: ownX))) (fun c => [(Str.ofString "count", .int (cnt : Int) c)]) [] (fun c => True) ?h1 ?h2
      case h1 =>
        refine wpGen ?_; intro RR2 hRR2
        repeat' ((fail_if_success (with_reducible show CutPost _ _ _ _ _ _ _ _ _ _ _)); (fail_if_success (with_reducible show wpAny _ _ (exec (Stmt.For _ _ _ _ _) _) _ _ _)); (fail_if_success (with_reducible show KswEnd _ _ _ _ _ _ _ _ _ _ _ _)); (fail_if_success (with_reducible show FcEnd _ _ _ _ _ _ _ _ _ _)); (fail_if_success (with_reducible show CutEnd _ _ _ _ _ _ _ _ _)); first | (k_unfold; (try dsimp only)) | (k_end; wrow_close) | ((first | ((with_reducible show wpAny _ _ (subscriptTail _ _ _ _) _ _ _); first | (k_here; (with_reducible show wpAny _ _ (subscriptTail (PySem.Expr.Name _ _) (PySem.Expr.Name _ _) (Value.ref _) (Value.int (Nat.cast _) _)) _ _ _); (refine item_lst (by k_asm) (by k_mem) (by exact rfl) (by decide) ?_)) | (k_here; (with_reducible show wpAny _ _ (subscriptTail (PySem.Expr.Subscript (PySem.Expr.Name _ _) (PySem.Expr.Name _ _) _) (PySem.Expr.Constant _ _ _) (Value.ref _) (Value.int _ _)) _ _ _); (refine item_tup (by k_asm) (by k_mem) (by decide) (by decide) (by exact rfl) (by exact rfl) ?_)) | (k_here; (with_reducible show wpAny _ _ (subscriptTail (PySem.Expr.Subscript (PySem.Expr.Subscript _ _ _) (PySem.Expr.Constant _ _ _) _) (PySem.Expr.BinOp _ _ _ _) (Value.ref _) (Value.int (HSub.hSub _ _) _)) _ _ _); (refine item_ints (by k_asm) (by k_mem) (by with_reducible assumption) (by omega) (by omega) (by omega) ?_); intro _) | with_reducible (k_here; (with_reducible show wpAny _ _ (subscriptTail _ (PySem.Expr.Slice _ _ _ _) (Value.str _ _) (Value.ref _)) _ _ _); kxi_slice; intro _ _ _ _ _) | with_reducible (k_here; (with_reducible show wpAny _ _ (subscriptTail _ (PySem.Expr.Slice (some _) (some _) none _) (Value.ref _) (Value.ref _)) _ _ _); k_dflt (refine' sliceRun (s := ⟨_, _, _, _, _⟩) ?F ?N ?m ?x ?y ?z ?_; (case F => k_asm); (case N => k_asm); (case m => k_mem); (case z => assumption); (case x => first | decide | omega); (case y => first | decide | omega)); intro _ _ _ _ l1; (try dsimp only [AllLt] at l1); (try k_sweep)) | with_reducible (k_here; (with_reducible show wpAny _ _ (subscriptTail _ (PySem.Expr.Slice none (some _) none _) (Value.ref _) (Value.ref _)) _ _ _); k_dflt (refine' sliceUpto (s := ⟨_, _, _, _, _⟩) ?F ?N ?m ?x ?z ?_; (case F => k_asm); (case N => k_asm); (case m => k_mem); (case z => assumption); (case x => first | decide | omega)); intro _ _ _ _ l1; (try dsimp only [AllLt] at l1); (try k_sweep)) | with_reducible (k_here; (with_reducible show wpAny _ _ (subscriptTail _ (PySem.Expr.Slice (some _) none none _) (Value.ref _) (Value.ref _)) _ _ _); k_dflt (refine' sliceFrom (s := ⟨_, _, _, _, _⟩) ?F ?N ?m ?x ?z ?_; (case F => k_asm); (case N => k_asm); (case m => k_mem); (case z => first | assumption | exact Nat.le_trans (Nat.le_of_eq (by assumption)) (by decide)); (case x => first | decide | omega)); intro _ _ _ _ l1; (try dsimp only [AllLt] at l1); (try k_sweep)) | with_reducible (k_here; (with_reducible show wpAny _ _ (subscriptTail (Expr.Constant _ _ _) _ (Value.str _ _) (Value.int _ _)) _ _ _); (refine cod_tail (by assumption) ?_ (by with_unfolding_all rfl) (by intro _; with_unfolding_all rfl)))) | walk1); (all_goals ((try ((fail_if_success (fail_if_success (with_reducible rename (_ ∧ _) => hx9))); refine viaR ?_; intro R9 k9; (repeat (first | ((with_reducible rename (_ ∧ _ ∧ _ ∧ _ ∧ _ ∧ _ ∧ _ ∧ _) => hx9); refine and8 hx9 ?_; clear hx9; intro _ _ _ _ _ _ _ _) | ((with_reducible rename (_ ∧ _ ∧ _ ∧ _) => hx9); refine and4 hx9 ?_; clear hx9; intro _ _ _ _) | ((with_reducible rename (_ ∧ _) => hx9); refine and2 hx9 ?_; clear hx9; intro _ _) | ((with_reducible rename True => hx9); clear hx9))); refine k9 ?_; clear k9 R9)); repeat ((with_reducible rename (@Ne Nat _ _) => hx9); (have hx8 := apart_of hx9); clear hx9)))) | (dsimp only; walk1) | (leave1; try dsimp only))
        (rename Fr _ _ _ _ => F5); (rename News _ _ _ _ => N5)
        rw [hsum] at F5
        refine ofGenC hRR2 ?_
        exact cutEnd _ F5 N5 (by (try simp only [tabL, List.cons_append, List.nil_append]); (repeat (first | exact (fun p hp => by (first | exact hp | exact List.Mem.tail _ (hp) | exact List.Mem.tail _ (List.Mem.tail _ (hp)) | exact List.Mem.tail _ (List.Mem.tail _ (List.Mem.tail _ (hp))) | exact List.Mem.tail _ (List.Mem.tail _ (List.Mem.tail _ (List.Mem.tail _ (hp)))) | exact List.Mem.tail _ (List.Mem.tail _ (List.Mem.tail _ (List.Mem.tail _ (List.Mem.tail _ (hp))))) | exact List.Mem.tail _ (List.Mem.tail _ (List.Mem.tail _ (List.Mem.tail _ (List.Mem.tail _ (List.Mem.tail _ (hp)))))) | exact List.Mem.tail _ (List.Mem.tail _ (List.Mem.tail _ (List.Mem.tail _ (List.Mem.tail _ (List.Mem.tail _ (List.Mem.tail _ (hp))))))) | exact List.Mem.tail _ (List.Mem.tail _ (List.Mem.tail _ (List.Mem.tail _ (List.Mem.tail _ (List.Mem.tail _ (List.Mem.tail _ (List.Mem.tail _ (hp)))))))) | exact List.Mem.tail _ (List.Mem.tail _ (List.Mem.tail _ (List.Mem.tail _ (List.Mem.tail _ (List.Mem.tail _ (List.Mem.tail _ (List.Mem.tail _ (List.Mem.tail _ (hp))))))))) | exact List.Mem.tail _ (List.Mem.tail _ (List.Mem.tail _ (List.Mem.tail _ (List.Mem.tail _ (List.Mem.tail _ (List.Mem.tail _ (List.Mem.tail _ (List.Mem.tail _ (List.Mem.tail _ (hp)))))))))) | exact List.Mem.tail _ (List.Mem.tail _ (List.Mem.tail _ (List.Mem.tail _ (List.Mem.tail _ (List.Mem.tail _ (List.Mem.tail _ (List.Mem.tail _ (List.Mem.tail _ (List.Mem.tail _ (List.Mem.tail _ (hp))))))))))) | exact List.Mem.tail _ (List.Mem.tail _ (List.Mem.tail _ (List.Mem.tail _ (List.Mem.tail _ (List.Mem.tail _ (List.Mem.tail _ (List.Mem.tail _ (List.Mem.tail _ (List.Mem.tail _ (List.Mem.tail _ (List.Mem.tail _ (hp)))))))))))) | exact List.Mem.tail _ (List.Mem.tail _ (List.Mem.tail _ (List.Mem.tail _ (List.Mem.tail _ (List.Mem.tail _ (List.Mem.tail _ (List.Mem.tail _ (List.Mem.tail _ (List.Mem.tail _ (List.Mem.tail _ (List.Mem.tail _ (List.Mem.tail _ (hp))))))))))))) | exact List.Mem.tail _ (List.Mem.tail _ (List.Mem.tail _ (List.Mem.tail _ (List.Mem.tail _ (List.Mem.tail _ (List.Mem.tail _ (List.Mem.tail _ (List.Mem.tail _ (List.Mem.tail _ (List.Mem.tail _ (List.Mem.tail _ (List.Mem.tail _ (List.Mem.tail _ (hp)))))))))))))) | exact List.Mem.tail _ (List.Mem.tail _ (List.Mem.tail _ (List.Mem.tail _ (List.Mem.tail _ (List.Mem.tail _ (List.Mem.tail _ (List.Mem.tail _ (List.Mem.tail _ (List.Mem.tail _ (List.Mem.tail _ (List.Mem.tail _ (List.Mem.tail _ (List.Mem.tail _ (List.Mem.tail _ (hp))))))))))))))) | exact List.Mem.tail _ (List.Mem.tail _ (List.Mem.tail _ (List.Mem.tail _ (List.Mem.tail _ (List.Mem.tail _ (List.Mem.tail _ (List.Mem.tail _ (List.Mem.tail _ (List.Mem.tail _ (List.Mem.tail _ (List.Mem.tail _ (List.Mem.tail _ (List.Mem.tail _ (List.Mem.tail _ (List.Mem.tail _ (hp)))))))))))))))) | exact List.Mem.tail _ (List.Mem.tail _ (List.Mem.tail _ (List.Mem.tail _ (List.Mem.tail _ (List.Mem.tail _ (List.Mem.tail _ (List.Mem.tail _ (List.Mem.tail _ (List.Mem.tail _ (List.Mem.tail _ (List.Mem.tail _ (List.Mem.tail _ (List.Mem.tail _ (List.Mem.tail _ (List.Mem.tail _ (List.Mem.tail _ (hp))))))))))))))))) | exact List.Mem.tail _ (List.Mem.tail _ (List.Mem.tail _ (List.Mem.tail _ (List.Mem.tail _ (List.Mem.tail _ (List.Mem.tail _ (List.Mem.tail _ (List.Mem.tail _ (List.Mem.tail _ (List.Mem.tail _ (List.Mem.tail _ (List.Mem.tail _ (List.Mem.tail _ (List.Mem.tail _ (List.Mem.tail _ (List.Mem.tail _ (List.Mem.tail _ (hp)))))))))))))))))) | exact List.Mem.tail _ (List.Mem.tail _ (List.Mem.tail _ (List.Mem.tail _ (List.Mem.tail _ (List.Mem.tail _ (List.Mem.tail _ (List.Mem.tail _ (List.Mem.tail _ (List.Mem.tail _ (List.Mem.tail _ (List.Mem.tail _ (List.Mem.tail _ (List.Mem.tail _ (List.Mem.tail _ (List.Mem.tail _ (List.Mem.tail _ (List.Mem.tail _ (List.Mem.tail _ (hp))))))))))))))))))) | exact List.Mem.tail _ (List.Mem.tail _ (List.Mem.tail _ (List.Mem.tail _ (List.Mem.tail _ (List.Mem.tail _ (List.Mem.tail _ (List.Mem.tail _ (List.Mem.tail _ (List.Mem.tail _ (List.Mem.tail _ (List.Mem.tail _ (List.Mem.tail _ (List.Mem.tail _ (List.Mem.tail _ (List.Mem.tail _ (List.Mem.tail _ (List.Mem.tail _ (List.Mem.tail _ (List.Mem.tail _ (hp)))))))))))))))))))) | exact List.Mem.tail _ (List.Mem.tail _ (List.Mem.tail _ (List.Mem.tail _ (List.Mem.tail _ (List.Mem.tail _ (List.Mem.tail _ (List.Mem.tail _ (List.Mem.tail _ (List.Mem.tail _ (List.Mem.tail _ (List.Mem.tail _ (List.Mem.tail _ (List.Mem.tail _ (List.Mem.tail _ (List.Mem.tail _ (List.Mem.tail _ (List.Mem.tail _ (List.Mem.tail _ (List.Mem.tail _ (List.Mem.tail _ (hp))))))))))))))))))))) | exact List.Mem.tail _ (List.Mem.tail _ (List.Mem.tail _ (List.Mem.tail _ (List.Mem.tail _ (List.Mem.tail _ (List.Mem.tail _ (List.Mem.tail _ (List.Mem.tail _ (List.Mem.tail _ (List.Mem.tail _ (List.Mem.tail _ (List.Mem.tail _ (List.Mem.tail _ (List.Mem.tail _ (List.Mem.tail _ (List.Mem.tail _ (List.Mem.tail _ (List.Mem.tail _ (List.Mem.tail _ (List.Mem.tail _ (List.Mem.tail _ (hp)))))))))))))))))))))) | exact List.Mem.tail _ (List.Mem.tail _ (List.Mem.tail _ (List.Mem.tail _ (List.Mem.tail _ (List.Mem.tail _ (List.Mem.tail _ (List.Mem.tail _ (List.Mem.tail _ (List.Mem.tail _ (List.Mem.tail _ (List.Mem.tail _ (List.Mem.tail _ (List.Mem.tail _ (List.Mem.tail _ (List.Mem.tail _ (List.Mem.tail _ (List.Mem.tail _ (List.Mem.tail _ (List.Mem.tail _ (List.Mem.tail _ (List.Mem.tail _ (List.Mem.tail _ (hp))))))))))))))))))))))))) | refine fmem (by k_mem) ?_))) (by kst_all) (by (intro z h2 h3; (have hz0 : z ≠ Str.ofString "count" := h2 _ (.head _)); simp only [kstB, h3, if_neg hz0, Bool.false_eq_true, if_false])) trivial
      case h2 =>
      intro tc uq4 hq4 tkq4 _ Fg Ng
      (try dsimp only at Fg Ng)
      clear Ff Nf
      refine' stCut (σ := Addr × List Value × Nat) Fg (fun c => (c.1, listOf c.2.1.toArray c.2.2) :: ((s1.heap.objs.size + 1 + 1, oS) :: (aC, listOf vC.toArray kC) :: (ad, listOf (Value.int (d0 : Int) td0 :: Value.int (d1 : Int) td1 :: Value.int (d2 : Int) td2 :: vr).toArray kd) :: (an, LCg.lst [.int (zer d0) tz0, .int (zer d1) tz1, .int (zer d2) tz2]) :: ((aF, listOf fs.toArray kf) :: ownX))) (fun c => [(Str.ofString "ones", .ref c.1)]) [] (fun c => IntsAre c.2.1 (zs (onesL cnt))) ?h1 ?h2
      case h1 =>
        refine wpGen ?_; intro RR2 hRR2
        repeat' ((fail_if_success (with_reducible show CutPost _ _ _ _ _ _ _ _ _ _ _)); (fail_if_success (with_reducible show wpAny _ _ (exec (Stmt.For _ _ _ _ _) _) _ _ _)); (fail_if_success (with_reducible show KswEnd _ _ _ _ _ _ _ _ _ _ _ _)); (fail_if_success (with_reducible show FcEnd _ _ _ _ _ _ _ _ _ _)); (fail_if_success (with_reducible show CutEnd _ _ _ _ _ _ _ _ _)); first | (k_unfold; (try dsimp only)) | (k_end; wrow_close) | ((first | ((with_reducible show wpAny _ _ (subscriptTail _ _ _ _) _ _ _); first | (k_here; (with_reducible show wpAny _ _ (subscriptTail (PySem.Expr.Name _ _) (PySem.Expr.Name _ _) (Value.ref _) (Value.int (Nat.cast _) _)) _ _ _); (refine item_lst (by k_asm) (by k_mem) (by exact rfl) (by decide) ?_)) | (k_here; (with_reducible show wpAny _ _ (subscriptTail (PySem.Expr.Subscript (PySem.Expr.Name _ _) (PySem.Expr.Name _ _) _) (PySem.Expr.Constant _ _ _) (Value.ref _) (Value.int _ _)) _ _ _); (refine item_tup (by k_asm) (by k_mem) (by decide) (by decide) (by exact rfl) (by exact rfl) ?_)) | (k_here; (with_reducible show wpAny _ _ (subscriptTail (PySem.Expr.Subscript (PySem.Expr.Subscript _ _ _) (PySem.Expr.Constant _ _ _) _) (PySem.Expr.BinOp _ _ _ _) (Value.ref _) (Value.int (HSub.hSub _ _) _)) _ _ _); (refine item_ints (by k_asm) (by k_mem) (by with_reducible assumption) (by omega) (by omega) (by omega) ?_); intro _) | with_reducible (k_here; (with_reducible show wpAny _ _ (subscriptTail _ (PySem.Expr.Slice _ _ _ _) (Value.str _ _) (Value.ref _)) _ _ _); kxi_slice; intro _ _ _ _ _) | with_reducible (k_here; (with_reducible show wpAny _ _ (subscriptTail _ (PySem.Expr.Slice (some _) (some _) none _) (Value.ref _) (Value.ref _)) _ _ _); k_dflt (refine' sliceRun (s := ⟨_, _, _, _, _⟩) ?F ?N ?m ?x ?y ?z ?_; (case F => k_asm); (case N => k_asm); (case m => k_mem); (case z => assumption); (case x => first | decide | omega); (case y => first | decide | omega)); intro _ _ _ _ l1; (try dsimp only [AllLt] at l1); (try k_sweep)) | with_reducible (k_here; (with_reducible show wpAny _ _ (subscriptTail _ (PySem.Expr.Slice none (some _) none _) (Value.ref _) (Value.ref _)) _ _ _); k_dflt (refine' sliceUpto (s := ⟨_, _, _, _, _⟩) ?F ?N ?m ?x ?z ?_; (case F => k_asm); (case N => k_asm); (case m => k_mem); (case z => assumption); (case x => first | decide | omega)); intro _ _ _ _ l1; (try dsimp only [AllLt] at l1); (try k_sweep)) | with_reducible (k_here; (with_reducible show wpAny _ _ (subscriptTail _ (PySem.Expr.Slice (some _) none none _) (Value.ref _) (Value.ref _)) _ _ _); k_dflt (refine' sliceFrom (s := ⟨_, _, _, _, _⟩) ?F ?N ?m ?x ?z ?_; (case F => k_asm); (case N => k_asm); (case m => k_mem); (case z => first | assumption | exact Nat.le_trans (Nat.le_of_eq (by assumption)) (by decide)); (case x => first | decide | omega)); intro _ _ _ _ l1; (try dsimp only [AllLt] at l1); (try k_sweep)) | with_reducible (k_here; (with_reducible show wpAny _ _ (subscriptTail (Expr.Constant _ _ _) _ (Value.str _ _) (Value.int _ _)) _ _ _); (refine cod_tail (by assumption) ?_ (by with_unfolding_all rfl) (by intro _; with_unfolding_all rfl)))) | walk1); (all_goals ((try ((fail_if_success (fail_if_success (with_reducible rename (_ ∧ _) => hx9))); refine viaR ?_; intro R9 k9; (repeat (first | ((with_reducible rename (_ ∧ _ ∧ _ ∧ _ ∧ _ ∧ _ ∧ _ ∧ _) => hx9); refine and8 hx9 ?_; clear hx9; intro _ _ _ _ _ _ _ _) | ((with_reducible rename (_ ∧ _ ∧ _ ∧ _) => hx9); refine and4 hx9 ?_; clear hx9; intro _ _ _ _) | ((with_reducible rename (_ ∧ _) => hx9); refine and2 hx9 ?_; clear hx9; intro _ _) | ((with_reducible rename True => hx9); clear hx9))); refine k9 ?_; clear k9 R9)); repeat ((with_reducible rename (@Ne Nat _ _) => hx9); (have hx8 := apart_of hx9); clear hx9)))) | (dsimp only; walk1) | (leave1; try dsimp only))
        (rename Fr _ _ _ _ => F5); (rename News _ _ _ _ => N5); (rename IntsAre _ (_ ++ _) => i5)
        rw [ones_is hcnt] at i5
        refine ofGenC hRR2 ?_
        exact cutEnd (_, _, 0) F5 N5 (by (try simp only [tabL, List.cons_append, List.nil_append]); (repeat (first | exact (fun p hp => by (first | exact hp | exact List.Mem.tail _ (hp) | exact List.Mem.tail _ (List.Mem.tail _ (hp)) | exact List.Mem.tail _ (List.Mem.tail _ (List.Mem.tail _ (hp))) | exact List.Mem.tail _ (List.Mem.tail _ (List.Mem.tail _ (List.Mem.tail _ (hp)))) | exact List.Mem.tail _ (List.Mem.tail _ (List.Mem.tail _ (List.Mem.tail _ (List.Mem.tail _ (hp))))) | exact List.Mem.tail _ (List.Mem.tail _ (List.Mem.tail _ (List.Mem.tail _ (List.Mem.tail _ (List.Mem.tail _ (hp)))))) | exact List.Mem.tail _ (List.Mem.tail _ (List.Mem.tail _ (List.Mem.tail _ (List.Mem.tail _ (List.Mem.tail _ (List.Mem.tail _ (hp))))))) | exact List.Mem.tail _ (List.Mem.tail _ (List.Mem.tail _ (List.Mem.tail _ (List.Mem.tail _ (List.Mem.tail _ (List.Mem.tail _ (List.Mem.tail _ (hp)))))))) | exact List.Mem.tail _ (List.Mem.tail _ (List.Mem.tail _ (List.Mem.tail _ (List.Mem.tail _ (List.Mem.tail _ (List.Mem.tail _ (List.Mem.tail _ (List.Mem.tail _ (hp))))))))) | exact List.Mem.tail _ (List.Mem.tail _ (List.Mem.tail _ (List.Mem.tail _ (List.Mem.tail _ (List.Mem.tail _ (List.Mem.tail _ (List.Mem.tail _ (List.Mem.tail _ (List.Mem.tail _ (hp)))))))))) | exact List.Mem.tail _ (List.Mem.tail _ (List.Mem.tail _ (List.Mem.tail _ (List.Mem.tail _ (List.Mem.tail _ (List.Mem.tail _ (List.Mem.tail _ (List.Mem.tail _ (List.Mem.tail _ (List.Mem.tail _ (hp))))))))))) | exact List.Mem.tail _ (List.Mem.tail _ (List.Mem.tail _ (List.Mem.tail _ (List.Mem.tail _ (List.Mem.tail _ (List.Mem.tail _ (List.Mem.tail _ (List.Mem.tail _ (List.Mem.tail _ (List.Mem.tail _ (List.Mem.tail _ (hp)))))))))))) | exact List.Mem.tail _ (List.Mem.tail _ (List.Mem.tail _ (List.Mem.tail _ (List.Mem.tail _ (List.Mem.tail _ (List.Mem.tail _ (List.Mem.tail _ (List.Mem.tail _ (List.Mem.tail _ (List.Mem.tail _ (List.Mem.tail _ (List.Mem.tail _ (hp))))))))))))) | exact List.Mem.tail _ (List.Mem.tail _ (List.Mem.tail _ (List.Mem.tail _ (List.Mem.tail _ (List.Mem.tail _ (List.Mem.tail _ (List.Mem.tail _ (List.Mem.tail _ (List.Mem.tail _ (List.Mem.tail _ (List.Mem.tail _ (List.Mem.tail _ (List.Mem.tail _ (hp)))))))))))))) | exact List.Mem.tail _ (List.Mem.tail _ (List.Mem.tail _ (List.Mem.tail _ (List.Mem.tail _ (List.Mem.tail _ (List.Mem.tail _ (List.Mem.tail _ (List.Mem.tail _ (List.Mem.tail _ (List.Mem.tail _ (List.Mem.tail _ (List.Mem.tail _ (List.Mem.tail _ (List.Mem.tail _ (hp))))))))))))))) | exact List.Mem.tail _ (List.Mem.tail _ (List.Mem.tail _ (List.Mem.tail _ (List.Mem.tail _ (List.Mem.tail _ (List.Mem.tail _ (List.Mem.tail _ (List.Mem.tail _ (List.Mem.tail _ (List.Mem.tail _ (List.Mem.tail _ (List.Mem.tail _ (List.Mem.tail _ (List.Mem.tail _ (List.Mem.tail _ (hp)))))))))))))))) | exact List.Mem.tail _ (List.Mem.tail _ (List.Mem.tail _ (List.Mem.tail _ (List.Mem.tail _ (List.Mem.tail _ (List.Mem.tail _ (List.Mem.tail _ (List.Mem.tail _ (List.Mem.tail _ (List.Mem.tail _ (List.Mem.tail _ (List.Mem.tail _ (List.Mem.tail _ (List.Mem.tail _ (List.Mem.tail _ (List.Mem.tail _ (hp))))))))))))))))) | exact List.Mem.tail _ (List.Mem.tail _ (List.Mem.tail _ (List.Mem.tail _ (List.Mem.tail _ (List.Mem.tail _ (List.Mem.tail _ (List.Mem.tail _ (List.Mem.tail _ (List.Mem.tail _ (List.Mem.tail _ (List.Mem.tail _ (List.Mem.tail _ (List.Mem.tail _ (List.Mem.tail _ (List.Mem.tail _ (List.Mem.tail _ (List.Mem.tail _ (hp)))))))))))))))))) | exact List.Mem.tail _ (List.Mem.tail _ (List.Mem.tail _ (List.Mem.tail _ (List.Mem.tail _ (List.Mem.tail _ (List.Mem.tail _ (List.Mem.tail _ (List.Mem.tail _ (List.Mem.tail _ (List.Mem.tail _ (List.Mem.tail _ (List.Mem.tail _ (List.Mem.tail _ (List.Mem.tail _ (List.Mem.tail _ (List.Mem.tail _ (List.Mem.tail _ (List.Mem.tail _ (hp))))))))))))))))))) | exact List.Mem.tail _ (List.Mem.tail _ (List.Mem.tail _ (List.Mem.tail _ (List.Mem.tail _ (List.Mem.tail _ (List.Mem.tail _ (List.Mem.tail _ (List.Mem.tail _ (List.Mem.tail _ (List.Mem.tail _ (List.Mem.tail _ (List.Mem.tail _ (List.Mem.tail _ (List.Mem.tail _ (List.Mem.tail _ (List.Mem.tail _ (List.Mem.tail _ (List.Mem.tail _ (List.Mem.tail _ (hp)))))))))))))))))))) | exact List.Mem.tail _ (List.Mem.tail _ (List.Mem.tail _ (List.Mem.tail _ (List.Mem.tail _ (List.Mem.tail _ (List.Mem.tail _ (List.Mem.tail _ (List.Mem.tail _ (List.Mem.tail _ (List.Mem.tail _ (List.Mem.tail _ (List.Mem.tail _ (List.Mem.tail _ (List.Mem.tail _ (List.Mem.tail _ (List.Mem.tail _ (List.Mem.tail _ (List.Mem.tail _ (List.Mem.tail _ (List.Mem.tail _ (hp))))))))))))))))))))) | exact List.Mem.tail _ (List.Mem.tail _ (List.Mem.tail _ (List.Mem.tail _ (List.Mem.tail _ (List.Mem.tail _ (List.Mem.tail _ (List.Mem.tail _ (List.Mem.tail _ (List.Mem.tail _ (List.Mem.tail _ (List.Mem.tail _ (List.Mem.tail _ (List.Mem.tail _ (List.Mem.tail _ (List.Mem.tail _ (List.Mem.tail _ (List.Mem.tail _ (List.Mem.tail _ (List.Mem.tail _ (List.Mem.tail _ (List.Mem.tail _ (hp)))))))))))))))))))))) | exact List.Mem.tail _ (List.Mem.tail _ (List.Mem.tail _ (List.Mem.tail _ (List.Mem.tail _ (List.Mem.tail _ (List.Mem.tail _ (List.Mem.tail _ (List.Mem.tail _ (List.Mem.tail _ (List.Mem.tail _ (List.Mem.tail _ (List.Mem.tail _ (List.Mem.tail _ (List.Mem.tail _ (List.Mem.tail _ (List.Mem.tail _ (List.Mem.tail _ (List.Mem.tail _ (List.Mem.tail _ (List.Mem.tail _ (List.Mem.tail _ (List.Mem.tail _ (hp))))))))))))))))))))))))) | refine fmem (by k_mem) ?_))) (by kst_all) (by (intro z h2 h3; (have hz0 : z ≠ Str.ofString "ones" := h2 _ (.head _)); simp only [kstB, h3, if_neg hz0, Bool.false_eq_true, if_false])) i5
      case h2 =>
      refine all_1_1_1 ?_; intro ao vo ko uq5 hq5 tkq5 hvo Fh Nh
      (try dsimp only at hvo Fh Nh)
      clear Fg Ng
      have hvd : IntsAre (List.drop (3 : Int).toNat (Value.int (d0 : Int) td0 :: Value.int (d1 : Int) td1 :: Value.int (d2 : Int) td2 :: vr)) (zs (onesL cnt)) := hvr
      have hbo : (zs (onesL cnt) == zs (onesL cnt)) = true := beq_self_eq_true _
      have hvol := hvo.length
      have hvdl := hvd.length
      have hzb : zer d0 + (zer d1 + (zer d2 + 0)) = (cnt : Int) := by omega
      (try k_unfold); (try dsimp only)
      repeat' ((fail_if_success (with_reducible show wpAny _ _ (exec (Stmt.While _ _ _ _) _) _ _ _)); (fail_if_success (with_reducible show wpAny _ _ (exec (Stmt.For _ _ _ _ _) _) _ _ _)); (fail_if_success (with_reducible show KswEnd _ _ _ _ _ _ _ _ _ _ _ _)); (fail_if_success (with_reducible show FcEnd _ _ _ _ _ _ _ _ _ _)); (fail_if_success (with_reducible show CutEnd _ _ _ _ _ _ _ _ _)); first | (k_unfold; (try dsimp only)) | (k_end; wrow_close) | ((with_reducible show wpAny _ _ (subscriptTail _ _ _ _) _ _ _); first | (k_here; (with_reducible show wpAny _ _ (subscriptTail (PySem.Expr.Name _ _) (PySem.Expr.Name _ _) (Value.ref _) (Value.int (Nat.cast _) _)) _ _ _); (refine item_lst (by k_asm) (by k_mem) (by exact rfl) (by decide) ?_)) | (k_here; (with_reducible show wpAny _ _ (subscriptTail (PySem.Expr.Subscript (PySem.Expr.Name _ _) (PySem.Expr.Name _ _) _) (PySem.Expr.Constant _ _ _) (Value.ref _) (Value.int _ _)) _ _ _); (refine item_tup (by k_asm) (by k_mem) (by decide) (by decide) (by exact rfl) (by exact rfl) ?_)) | (k_here; (with_reducible show wpAny _ _ (subscriptTail (PySem.Expr.Subscript (PySem.Expr.Subscript _ _ _) (PySem.Expr.Constant _ _ _) _) (PySem.Expr.BinOp _ _ _ _) (Value.ref _) (Value.int (HSub.hSub _ _) _)) _ _ _); (refine item_ints (by k_asm) (by k_mem) (by with_reducible assumption) (by omega) (by omega) (by omega) ?_); intro _) | with_reducible (k_here; (with_reducible show wpAny _ _ (subscriptTail _ (PySem.Expr.Slice _ _ _ _) (Value.str _ _) (Value.ref _)) _ _ _); kxi_slice; intro _ _ _ _ _) | with_reducible (k_here; (with_reducible show wpAny _ _ (subscriptTail _ (PySem.Expr.Slice (some _) (some _) none _) (Value.ref _) (Value.ref _)) _ _ _); k_dflt (refine' sliceRun (s := ⟨_, _, _, _, _⟩) ?F ?N ?m ?x ?y ?z ?_; (case F => k_asm); (case N => k_asm); (case m => k_mem); (case z => assumption); (case x => first | decide | omega); (case y => first | decide | omega)); intro _ _ _ _ l1; (try dsimp only [AllLt] at l1); (try k_sweep)) | with_reducible (k_here; (with_reducible show wpAny _ _ (subscriptTail _ (PySem.Expr.Slice none (some _) none _) (Value.ref _) (Value.ref _)) _ _ _); k_dflt (refine' sliceUpto (s := ⟨_, _, _, _, _⟩) ?F ?N ?m ?x ?z ?_; (case F => k_asm); (case N => k_asm); (case m => k_mem); (case z => assumption); (case x => first | decide | omega)); intro _ _ _ _ l1; (try dsimp only [AllLt] at l1); (try k_sweep)) | with_reducible (k_here; (with_reducible show wpAny _ _ (subscriptTail _ (PySem.Expr.Slice (some _) none none _) (Value.ref _) (Value.ref _)) _ _ _); k_dflt (refine' sliceFrom (s := ⟨_, _, _, _, _⟩) ?F ?N ?m ?x ?z ?_; (case F => k_asm); (case N => k_asm); (case m => k_mem); (case z => first | assumption | exact Nat.le_trans (Nat.le_of_eq (by assumption)) (by decide)); (case x => first | decide | omega)); intro _ _ _ _ l1; (try dsimp only [AllLt] at l1); (try k_sweep)) | with_reducible (k_here; (with_reducible show wpAny _ _ (subscriptTail (Expr.Constant _ _ _) _ (Value.str _ _) (Value.int _ _)) _ _ _); (refine cod_tail (by assumption) ?_ (by with_unfolding_all rfl) (by intro _; with_unfolding_all rfl)))) | walk1 | (dsimp only; walk1) | (leave1; try dsimp only))
      all_goals (try contradiction)
      (rename Fr _ _ _ _ => Fj); (rename News _ _ _ _ => Nj)
      have Nj0 : News _ _ _ ((s1.heap.objs.size + 1 + 1, oS) :: (an, LCg.lst [.int (zer d0) tz0, .int (zer d1) tz1, .int (zer d2) tz2]) :: ((aF, listOf fs.toArray kf) :: ownX)) := cb_drop Nj (by (repeat (first | exact (fun p hp => by (first | exact hp | exact List.Mem.tail _ (hp) | exact List.Mem.tail _ (List.Mem.tail _ (hp)) | exact List.Mem.tail _ (List.Mem.tail _ (List.Mem.tail _ (hp))) | exact List.Mem.tail _ (List.Mem.tail _ (List.Mem.tail _ (List.Mem.tail _ (hp)))) | exact List.Mem.tail _ (List.Mem.tail _ (List.Mem.tail _ (List.Mem.tail _ (List.Mem.tail _ (hp))))) | exact List.Mem.tail _ (List.Mem.tail _ (List.Mem.tail _ (List.Mem.tail _ (List.Mem.tail _ (List.Mem.tail _ (hp)))))) | exact List.Mem.tail _ (List.Mem.tail _ (List.Mem.tail _ (List.Mem.tail _ (List.Mem.tail _ (List.Mem.tail _ (List.Mem.tail _ (hp))))))) | exact List.Mem.tail _ (List.Mem.tail _ (List.Mem.tail _ (List.Mem.tail _ (List.Mem.tail _ (List.Mem.tail _ (List.Mem.tail _ (List.Mem.tail _ (hp)))))))) | exact List.Mem.tail _ (List.Mem.tail _ (List.Mem.tail _ (List.Mem.tail _ (List.Mem.tail _ (List.Mem.tail _ (List.Mem.tail _ (List.Mem.tail _ (List.Mem.tail _ (hp))))))))) | exact List.Mem.tail _ (List.Mem.tail _ (List.Mem.tail _ (List.Mem.tail _ (List.Mem.tail _ (List.Mem.tail _ (List.Mem.tail _ (List.Mem.tail _ (List.Mem.tail _ (List.Mem.tail _ (hp)))))))))) | exact List.Mem.tail _ (List.Mem.tail _ (List.Mem.tail _ (List.Mem.tail _ (List.Mem.tail _ (List.Mem.tail _ (List.Mem.tail _ (List.Mem.tail _ (List.Mem.tail _ (List.Mem.tail _ (List.Mem.tail _ (hp))))))))))) | exact List.Mem.tail _ (List.Mem.tail _ (List.Mem.tail _ (List.Mem.tail _ (List.Mem.tail _ (List.Mem.tail _ (List.Mem.tail _ (List.Mem.tail _ (List.Mem.tail _ (List.Mem.tail _ (List.Mem.tail _ (List.Mem.tail _ (hp)))))))))))) | exact List.Mem.tail _ (List.Mem.tail _ (List.Mem.tail _ (List.Mem.tail _ (List.Mem.tail _ (List.Mem.tail _ (List.Mem.tail _ (List.Mem.tail _ (List.Mem.tail _ (List.Mem.tail _ (List.Mem.tail _ (List.Mem.tail _ (List.Mem.tail _ (hp))))))))))))) | exact List.Mem.tail _ (List.Mem.tail _ (List.Mem.tail _ (List.Mem.tail _ (List.Mem.tail _ (List.Mem.tail _ (List.Mem.tail _ (List.Mem.tail _ (List.Mem.tail _ (List.Mem.tail _ (List.Mem.tail _ (List.Mem.tail _ (List.Mem.tail _ (List.Mem.tail _ (hp)))))))))))))) | exact List.Mem.tail _ (List.Mem.tail _ (List.Mem.tail _ (List.Mem.tail _ (List.Mem.tail _ (List.Mem.tail _ (List.Mem.tail _ (List.Mem.tail _ (List.Mem.tail _ (List.Mem.tail _ (List.Mem.tail _ (List.Mem.tail _ (List.Mem.tail _ (List.Mem.tail _ (List.Mem.tail _ (hp))))))))))))))) | exact List.Mem.tail _ (List.Mem.tail _ (List.Mem.tail _ (List.Mem.tail _ (List.Mem.tail _ (List.Mem.tail _ (List.Mem.tail _ (List.Mem.tail _ (List.Mem.tail _ (List.Mem.tail _ (List.Mem.tail _ (List.Mem.tail _ (List.Mem.tail _ (List.Mem.tail _ (List.Mem.tail _ (List.Mem.tail _ (hp)))))))))))))))) | exact List.Mem.tail _ (List.Mem.tail _ (List.Mem.tail _ (List.Mem.tail _ (List.Mem.tail _ (List.Mem.tail _ (List.Mem.tail _ (List.Mem.tail _ (List.Mem.tail _ (List.Mem.tail _ (List.Mem.tail _ (List.Mem.tail _ (List.Mem.tail _ (List.Mem.tail _ (List.Mem.tail _ (List.Mem.tail _ (List.Mem.tail _ (hp))))))))))))))))) | exact List.Mem.tail _ (List.Mem.tail _ (List.Mem.tail _ (List.Mem.tail _ (List.Mem.tail _ (List.Mem.tail _ (List.Mem.tail _ (List.Mem.tail _ (List.Mem.tail _ (List.Mem.tail _ (List.Mem.tail _ (List.Mem.tail _ (List.Mem.tail _ (List.Mem.tail _ (List.Mem.tail _ (List.Mem.tail _ (List.Mem.tail _ (List.Mem.tail _ (hp)))))))))))))))))) | exact List.Mem.tail _ (List.Mem.tail _ (List.Mem.tail _ (List.Mem.tail _ (List.Mem.tail _ (List.Mem.tail _ (List.Mem.tail _ (List.Mem.tail _ (List.Mem.tail _ (List.Mem.tail _ (List.Mem.tail _ (List.Mem.tail _ (List.Mem.tail _ (List.Mem.tail _ (List.Mem.tail _ (List.Mem.tail _ (List.Mem.tail _ (List.Mem.tail _ (List.Mem.tail _ (hp))))))))))))))))))) | exact List.Mem.tail _ (List.Mem.tail _ (List.Mem.tail _ (List.Mem.tail _ (List.Mem.tail _ (List.Mem.tail _ (List.Mem.tail _ (List.Mem.tail _ (List.Mem.tail _ (List.Mem.tail _ (List.Mem.tail _ (List.Mem.tail _ (List.Mem.tail _ (List.Mem.tail _ (List.Mem.tail _ (List.Mem.tail _ (List.Mem.tail _ (List.Mem.tail _ (List.Mem.tail _ (List.Mem.tail _ (hp)))))))))))))))))))) | exact List.Mem.tail _ (List.Mem.tail _ (List.Mem.tail _ (List.Mem.tail _ (List.Mem.tail _ (List.Mem.tail _ (List.Mem.tail _ (List.Mem.tail _ (List.Mem.tail _ (List.Mem.tail _ (List.Mem.tail _ (List.Mem.tail _ (List.Mem.tail _ (List.Mem.tail _ (List.Mem.tail _ (List.Mem.tail _ (List.Mem.tail _ (List.Mem.tail _ (List.Mem.tail _ (List.Mem.tail _ (List.Mem.tail _ (hp))))))))))))))))))))) | exact List.Mem.tail _ (List.Mem.tail _ (List.Mem.tail _ (List.Mem.tail _ (List.Mem.tail _ (List.Mem.tail _ (List.Mem.tail _ (List.Mem.tail _ (List.Mem.tail _ (List.Mem.tail _ (List.Mem.tail _ (List.Mem.tail _ (List.Mem.tail _ (List.Mem.tail _ (List.Mem.tail _ (List.Mem.tail _ (List.Mem.tail _ (List.Mem.tail _ (List.Mem.tail _ (List.Mem.tail _ (List.Mem.tail _ (List.Mem.tail _ (hp)))))))))))))))))))))) | exact List.Mem.tail _ (List.Mem.tail _ (List.Mem.tail _ (List.Mem.tail _ (List.Mem.tail _ (List.Mem.tail _ (List.Mem.tail _ (List.Mem.tail _ (List.Mem.tail _ (List.Mem.tail _ (List.Mem.tail _ (List.Mem.tail _ (List.Mem.tail _ (List.Mem.tail _ (List.Mem.tail _ (List.Mem.tail _ (List.Mem.tail _ (List.Mem.tail _ (List.Mem.tail _ (List.Mem.tail _ (List.Mem.tail _ (List.Mem.tail _ (List.Mem.tail _ (hp))))))))))))))))))))))))) | refine fmem (by k_mem) ?_)))
      clear Nj hvd hvdl
      rename News _ _ _ _ => Nj
      with_unfolding_all refine' For_turns Fj ?_
      k_whole
      repeat' ((fail_if_success (with_reducible show wpAny _ _ (pyIter _) _ _ _)); (fail_if_success (with_reducible show KswEnd _ _ _ _ _ _ _ _ _ _ _ _)); (fail_if_success (with_reducible show FcEnd _ _ _ _ _ _ _ _ _ _)); (fail_if_success (with_reducible show CutEnd _ _ _ _ _ _ _ _ _)); first | (k_unfold; (try dsimp only)) | (k_end; wrow_close) | ((with_reducible show wpAny _ _ (subscriptTail _ _ _ _) _ _ _); first | (k_here; (with_reducible show wpAny _ _ (subscriptTail (PySem.Expr.Name _ _) (PySem.Expr.Name _ _) (Value.ref _) (Value.int (Nat.cast _) _)) _ _ _); (refine item_lst (by k_asm) (by k_mem) (by exact rfl) (by decide) ?_)) | (k_here; (with_reducible show wpAny _ _ (subscriptTail (PySem.Expr.Subscript (PySem.Expr.Name _ _) (PySem.Expr.Name _ _) _) (PySem.Expr.Constant _ _ _) (Value.ref _) (Value.int _ _)) _ _ _); (refine item_tup (by k_asm) (by k_mem) (by decide) (by decide) (by exact rfl) (by exact rfl) ?_)) | (k_here; (with_reducible show wpAny _ _ (subscriptTail (PySem.Expr.Subscript (PySem.Expr.Subscript _ _ _) (PySem.Expr.Constant _ _ _) _) (PySem.Expr.BinOp _ _ _ _) (Value.ref _) (Value.int (HSub.hSub _ _) _)) _ _ _); (refine item_ints (by k_asm) (by k_mem) (by with_reducible assumption) (by omega) (by omega) (by omega) ?_); intro _) | with_reducible (k_here; (with_reducible show wpAny _ _ (subscriptTail _ (PySem.Expr.Slice _ _ _ _) (Value.str _ _) (Value.ref _)) _ _ _); kxi_slice; intro _ _ _ _ _) | with_reducible (k_here; (with_reducible show wpAny _ _ (subscriptTail _ (PySem.Expr.Slice (some _) (some _) none _) (Value.ref _) (Value.ref _)) _ _ _); k_dflt (refine' sliceRun (s := ⟨_, _, _, _, _⟩) ?F ?N ?m ?x ?y ?z ?_; (case F => k_asm); (case N => k_asm); (case m => k_mem); (case z => assumption); (case x => first | decide | omega); (case y => first | decide | omega)); intro _ _ _ _ l1; (try dsimp only [AllLt] at l1); (try k_sweep)) | with_reducible (k_here; (with_reducible show wpAny _ _ (subscriptTail _ (PySem.Expr.Slice none (some _) none _) (Value.ref _) (Value.ref _)) _ _ _); k_dflt (refine' sliceUpto (s := ⟨_, _, _, _, _⟩) ?F ?N ?m ?x ?z ?_; (case F => k_asm); (case N => k_asm); (case m => k_mem); (case z => assumption); (case x => first | decide | omega)); intro _ _ _ _ l1; (try dsimp only [AllLt] at l1); (try k_sweep)) | with_reducible (k_here; (with_reducible show wpAny _ _ (subscriptTail _ (PySem.Expr.Slice (some _) none none _) (Value.ref _) (Value.ref _)) _ _ _); k_dflt (refine' sliceFrom (s := ⟨_, _, _, _, _⟩) ?F ?N ?m ?x ?z ?_; (case F => k_asm); (case N => k_asm); (case m => k_mem); (case z => first | assumption | exact Nat.le_trans (Nat.le_of_eq (by assumption)) (by decide)); (case x => first | decide | omega)); intro _ _ _ _ l1; (try dsimp only [AllLt] at l1); (try k_sweep)) | with_reducible (k_here; (with_reducible show wpAny _ _ (subscriptTail (Expr.Constant _ _ _) _ (Value.str _ _) (Value.int _ _)) _ _ _); (refine cod_tail (by assumption) ?_ (by with_unfolding_all rfl) (by intro _; with_unfolding_all rfl)))) | walk1 | (dsimp only; walk1) | (leave1; try dsimp only))
      (rename Fr _ _ _ _ => Fj); (rename News _ _ _ _ => Nj); (rename IsRange _ _ _ _ _ _ _ _ => rgX)
      refine' rangeTurns (σ := Unit) (4 - i) (fun _ => ((s1.heap.objs.size + 1 + 1, oS) :: (an, LCg.lst [.int (zer d0) tz0, .int (zer d1) tz1, .int (zer d2) tz2]) :: ((aF, listOf fs.toArray kf) :: ownX))) (fun _ => []) [Str.ofString "end", Str.ofString "due"] (fun _ _ => True) () rfl rgX (small_one (by omega) (by omega) (by omega) (by omega)) (by rw [range_sz]; omega) Fj Nj ?hk2 ?hp2 ?turn2 ?done2
      case hk2 => intro p hp; cases hp
      case hp2 => trivial
      case turn2 =>
        intro j te c u6 h6 tk6 own6 hj _ hoff6 F6 N6
        refine turnGen ?_; intro RR2 hRR2
        dsimp only [List.cons_append, List.nil_append] at N6
        clear Fj Nj rgX
        obtain ⟨e, he⟩ : ∃ e : Nat, e = i + 1 + j := ⟨_, rfl⟩
        have hie : i < e := by omega
        have he4 : e ≤ 4 := by omega
        rw [show ((i : Int) + 1 + (j : Int)) = (e : Int) by omega]
        clear he hj
        repeat' ((fail_if_success (with_reducible show wpAny _ _ (call (Value.ref 51) _) _ _ _)); (fail_if_success (with_reducible show KswEnd _ _ _ _ _ _ _ _ _ _ _ _)); (fail_if_success (with_reducible show FcEnd _ _ _ _ _ _ _ _ _ _)); (fail_if_success (with_reducible show CutEnd _ _ _ _ _ _ _ _ _)); first | (k_unfold; (try dsimp only)) | (k_end; wrow_close) | ((first | ((with_reducible show wpAny _ _ (subscriptTail _ _ _ _) _ _ _); first | (k_here; (with_reducible show wpAny _ _ (subscriptTail (PySem.Expr.Name _ _) (PySem.Expr.Name _ _) (Value.ref _) (Value.int (Nat.cast _) _)) _ _ _); (refine item_lst (by k_asm) (by k_mem) (by exact rfl) (by decide) ?_)) | (k_here; (with_reducible show wpAny _ _ (subscriptTail (PySem.Expr.Subscript (PySem.Expr.Name _ _) (PySem.Expr.Name _ _) _) (PySem.Expr.Constant _ _ _) (Value.ref _) (Value.int _ _)) _ _ _); (refine item_tup (by k_asm) (by k_mem) (by decide) (by decide) (by exact rfl) (by exact rfl) ?_)) | (k_here; (with_reducible show wpAny _ _ (subscriptTail (PySem.Expr.Subscript (PySem.Expr.Subscript _ _ _) (PySem.Expr.Constant _ _ _) _) (PySem.Expr.BinOp _ _ _ _) (Value.ref _) (Value.int (HSub.hSub _ _) _)) _ _ _); (refine item_ints (by k_asm) (by k_mem) (by with_reducible assumption) (by omega) (by omega) (by omega) ?_); intro _) | with_reducible (k_here; (with_reducible show wpAny _ _ (subscriptTail _ (PySem.Expr.Slice _ _ _ _) (Value.str _ _) (Value.ref _)) _ _ _); kxi_slice; intro _ _ _ _ _) | with_reducible (k_here; (with_reducible show wpAny _ _ (subscriptTail _ (PySem.Expr.Slice (some _) (some _) none _) (Value.ref _) (Value.ref _)) _ _ _); k_dflt (refine' sliceRun (s := ⟨_, _, _, _, _⟩) ?F ?N ?m ?x ?y ?z ?_; (case F => k_asm); (case N => k_asm); (case m => k_mem); (case z => assumption); (case x => first | decide | omega); (case y => first | decide | omega)); intro _ _ _ _ l1; (try dsimp only [AllLt] at l1); (try k_sweep)) | with_reducible (k_here; (with_reducible show wpAny _ _ (subscriptTail _ (PySem.Expr.Slice none (some _) none _) (Value.ref _) (Value.ref _)) _ _ _); k_dflt (refine' sliceUpto (s := ⟨_, _, _, _, _⟩) ?F ?N ?m ?x ?z ?_; (case F => k_asm); (case N => k_asm); (case m => k_mem); (case z => assumption); (case x => first | decide | omega)); intro _ _ _ _ l1; (try dsimp only [AllLt] at l1); (try k_sweep)) | with_reducible (k_here; (with_reducible show wpAny _ _ (subscriptTail _ (PySem.Expr.Slice (some _) none none _) (Value.ref _) (Value.ref _)) _ _ _); k_dflt (refine' sliceFrom (s := ⟨_, _, _, _, _⟩) ?F ?N ?m ?x ?z ?_; (case F => k_asm); (case N => k_asm); (case m => k_mem); (case z => first | assumption | exact Nat.le_trans (Nat.le_of_eq (by assumption)) (by decide)); (case x => first | decide | omega)); intro _ _ _ _ l1; (try dsimp only [AllLt] at l1); (try k_sweep)) | with_reducible (k_here; (with_reducible show wpAny _ _ (subscriptTail (Expr.Constant _ _ _) _ (Value.str _ _) (Value.int _ _)) _ _ _); (refine cod_tail (by assumption) ?_ (by with_unfolding_all rfl) (by intro _; with_unfolding_all rfl)))) | walk1); (all_goals ((try ((fail_if_success (fail_if_success (with_reducible rename (_ ∧ _) => hx9))); refine viaR ?_; intro R9 k9; (repeat (first | ((with_reducible rename (_ ∧ _ ∧ _ ∧ _ ∧ _ ∧ _ ∧ _ ∧ _) => hx9); refine and8 hx9 ?_; clear hx9; intro _ _ _ _ _ _ _ _) | ((with_reducible rename (_ ∧ _ ∧ _ ∧ _) => hx9); refine and4 hx9 ?_; clear hx9; intro _ _ _ _) | ((with_reducible rename (_ ∧ _) => hx9); refine and2 hx9 ?_; clear hx9; intro _ _) | ((with_reducible rename True => hx9); clear hx9))); refine k9 ?_; clear k9 R9)); repeat ((with_reducible rename (@Ne Nat _ _) => hx9); (have hx8 := apart_of hx9); clear hx9)))) | (dsimp only; walk1) | (leave1; try dsimp only))
        (rename Fr _ _ _ _ => F7); (rename News _ _ _ _ => N7); (rename List.Pairwise _ _ => hpw); (rename IntsAre _ _ => hiS); (rename List.Perm _ _ => hpm)
        rw [show (4 * (e : Int)).toNat = 4 * e by omega, show (4 * (i : Int)).toNat = 4 * i by omega, hz16, Nat.min_eq_left (by omega)] at hpm
        have hbel := below_perm hpm (i : Int)
        have hdue := hlaw.due i e hie he4
        rw [← hbel] at hdue
        have hpl := hpm.length_eq
        rw [List.length_take] at hpl
        refine bisr_ok (by k_asm) (by k_asm) (by k_asm) (by k_asm) (by k_asm) (by first | exact rfl | assumption) (by ktr_room) (by ktr_units) (isListOf N7 (by k_mem)) hiS (by omega) hpw ?_
        intro tb9 hb9 tkb9 F8 N8
        clear F7 N7
        repeat' ((fail_if_success (with_reducible show wpAny _ _ (call (Value.ref 28) _) _ _ _)); (fail_if_success (with_reducible show FgEnd _ _ _ _ _ _ _ _ _ _)); (fail_if_success (with_reducible show KswEnd _ _ _ _ _ _ _ _ _ _ _ _)); (fail_if_success (with_reducible show FcEnd _ _ _ _ _ _ _ _ _ _)); (fail_if_success (with_reducible show CutEnd _ _ _ _ _ _ _ _ _)); first | (k_unfold; (try dsimp only)) | (k_end; wrow_close) | ((first | ((with_reducible show wpAny _ _ (subscriptTail _ _ _ _) _ _ _); first | (k_here; (with_reducible show wpAny _ _ (subscriptTail (PySem.Expr.Name _ _) (PySem.Expr.Name _ _) (Value.ref _) (Value.int (Nat.cast _) _)) _ _ _); (refine item_lst (by k_asm) (by k_mem) (by exact rfl) (by decide) ?_)) | (k_here; (with_reducible show wpAny _ _ (subscriptTail (PySem.Expr.Subscript (PySem.Expr.Name _ _) (PySem.Expr.Name _ _) _) (PySem.Expr.Constant _ _ _) (Value.ref _) (Value.int _ _)) _ _ _); (refine item_tup (by k_asm) (by k_mem) (by decide) (by decide) (by exact rfl) (by exact rfl) ?_)) | (k_here; (with_reducible show wpAny _ _ (subscriptTail (PySem.Expr.Subscript (PySem.Expr.Subscript _ _ _) (PySem.Expr.Constant _ _ _) _) (PySem.Expr.BinOp _ _ _ _) (Value.ref _) (Value.int (HSub.hSub _ _) _)) _ _ _); (refine item_ints (by k_asm) (by k_mem) (by with_reducible assumption) (by omega) (by omega) (by omega) ?_); intro _) | with_reducible (k_here; (with_reducible show wpAny _ _ (subscriptTail _ (PySem.Expr.Slice _ _ _ _) (Value.str _ _) (Value.ref _)) _ _ _); kxi_slice; intro _ _ _ _ _) | with_reducible (k_here; (with_reducible show wpAny _ _ (subscriptTail _ (PySem.Expr.Slice (some _) (some _) none _) (Value.ref _) (Value.ref _)) _ _ _); k_dflt (refine' sliceRun (s := ⟨_, _, _, _, _⟩) ?F ?N ?m ?x ?y ?z ?_; (case F => k_asm); (case N => k_asm); (case m => k_mem); (case z => assumption); (case x => first | decide | omega); (case y => first | decide | omega)); intro _ _ _ _ l1; (try dsimp only [AllLt] at l1); (try k_sweep)) | with_reducible (k_here; (with_reducible show wpAny _ _ (subscriptTail _ (PySem.Expr.Slice none (some _) none _) (Value.ref _) (Value.ref _)) _ _ _); k_dflt (refine' sliceUpto (s := ⟨_, _, _, _, _⟩) ?F ?N ?m ?x ?z ?_; (case F => k_asm); (case N => k_asm); (case m => k_mem); (case z => assumption); (case x => first | decide | omega)); intro _ _ _ _ l1; (try dsimp only [AllLt] at l1); (try k_sweep)) | with_reducible (k_here; (with_reducible show wpAny _ _ (subscriptTail _ (PySem.Expr.Slice (some _) none none _) (Value.ref _) (Value.ref _)) _ _ _); k_dflt (refine' sliceFrom (s := ⟨_, _, _, _, _⟩) ?F ?N ?m ?x ?z ?_; (case F => k_asm); (case N => k_asm); (case m => k_mem); (case z => first | assumption | exact Nat.le_trans (Nat.le_of_eq (by assumption)) (by decide)); (case x => first | decide | omega)); intro _ _ _ _ l1; (try dsimp only [AllLt] at l1); (try k_sweep)) | with_reducible (k_here; (with_reducible show wpAny _ _ (subscriptTail (Expr.Constant _ _ _) _ (Value.str _ _) (Value.int _ _)) _ _ _); (refine cod_tail (by assumption) ?_ (by with_unfolding_all rfl) (by intro _; with_unfolding_all rfl)))) | walk1); (all_goals ((try ((fail_if_success (fail_if_success (with_reducible rename (_ ∧ _) => hx9))); refine viaR ?_; intro R9 k9; (repeat (first | ((with_reducible rename (_ ∧ _ ∧ _ ∧ _ ∧ _ ∧ _ ∧ _ ∧ _) => hx9); refine and8 hx9 ?_; clear hx9; intro _ _ _ _ _ _ _ _) | ((with_reducible rename (_ ∧ _ ∧ _ ∧ _) => hx9); refine and4 hx9 ?_; clear hx9; intro _ _ _ _) | ((with_reducible rename (_ ∧ _) => hx9); refine and2 hx9 ?_; clear hx9; intro _ _) | ((with_reducible rename True => hx9); clear hx9))); refine k9 ?_; clear k9 R9)); repeat ((with_reducible rename (@Ne Nat _ _) => hx9); (have hx8 := apart_of hx9); clear hx9)))) | (dsimp only; walk1) | (leave1; try dsimp only))
        rw [slice_mid (by omega) (by simp; omega)]
        (rename Fr _ _ _ _ => F9); (rename News _ _ _ _ => N9)
        refine lev_ok (by k_asm) (by k_asm) (by k_asm) (by k_asm) (by k_asm) (by first | exact rfl | assumption) (by ktr_room) (by ktr_units) (by simp) (by simp; omega) ?_
        intro tl9 hl9 tkl9 FA NA
        (try clear F9); (try clear N9); (try clear F8); (try clear N8)
        rw [fm (show (0 : Int) ≤ 3 by decide), hdue]
        repeat' ((fail_if_success (with_reducible show wpAny _ _ (exec (Stmt.While _ _ _ _) _) _ _ _)); (fail_if_success (with_reducible show wpAny _ _ (exec (Stmt.For _ _ _ _ _) _) _ _ _)); (fail_if_success (with_reducible show KswEnd _ _ _ _ _ _ _ _ _ _ _ _)); (fail_if_success (with_reducible show FcEnd _ _ _ _ _ _ _ _ _ _)); (fail_if_success (with_reducible show CutEnd _ _ _ _ _ _ _ _ _)); first | (k_unfold; (try dsimp only)) | (k_end; wrow_close) | ((with_reducible show wpAny _ _ (subscriptTail _ _ _ _) _ _ _); first | (k_here; (with_reducible show wpAny _ _ (subscriptTail (PySem.Expr.Name _ _) (PySem.Expr.Name _ _) (Value.ref _) (Value.int (Nat.cast _) _)) _ _ _); (refine item_lst (by k_asm) (by k_mem) (by exact rfl) (by decide) ?_)) | (k_here; (with_reducible show wpAny _ _ (subscriptTail (PySem.Expr.Subscript (PySem.Expr.Name _ _) (PySem.Expr.Name _ _) _) (PySem.Expr.Constant _ _ _) (Value.ref _) (Value.int _ _)) _ _ _); (refine item_tup (by k_asm) (by k_mem) (by decide) (by decide) (by exact rfl) (by exact rfl) ?_)) | (k_here; (with_reducible show wpAny _ _ (subscriptTail (PySem.Expr.Subscript (PySem.Expr.Subscript _ _ _) (PySem.Expr.Constant _ _ _) _) (PySem.Expr.BinOp _ _ _ _) (Value.ref _) (Value.int (HSub.hSub _ _) _)) _ _ _); (refine item_ints (by k_asm) (by k_mem) (by with_reducible assumption) (by omega) (by omega) (by omega) ?_); intro _) | with_reducible (k_here; (with_reducible show wpAny _ _ (subscriptTail _ (PySem.Expr.Slice _ _ _ _) (Value.str _ _) (Value.ref _)) _ _ _); kxi_slice; intro _ _ _ _ _) | with_reducible (k_here; (with_reducible show wpAny _ _ (subscriptTail _ (PySem.Expr.Slice (some _) (some _) none _) (Value.ref _) (Value.ref _)) _ _ _); k_dflt (refine' sliceRun (s := ⟨_, _, _, _, _⟩) ?F ?N ?m ?x ?y ?z ?_; (case F => k_asm); (case N => k_asm); (case m => k_mem); (case z => assumption); (case x => first | decide | omega); (case y => first | decide | omega)); intro _ _ _ _ l1; (try dsimp only [AllLt] at l1); (try k_sweep)) | with_reducible (k_here; (with_reducible show wpAny _ _ (subscriptTail _ (PySem.Expr.Slice none (some _) none _) (Value.ref _) (Value.ref _)) _ _ _); k_dflt (refine' sliceUpto (s := ⟨_, _, _, _, _⟩) ?F ?N ?m ?x ?z ?_; (case F => k_asm); (case N => k_asm); (case m => k_mem); (case z => assumption); (case x => first | decide | omega)); intro _ _ _ _ l1; (try dsimp only [AllLt] at l1); (try k_sweep)) | with_reducible (k_here; (with_reducible show wpAny _ _ (subscriptTail _ (PySem.Expr.Slice (some _) none none _) (Value.ref _) (Value.ref _)) _ _ _); k_dflt (refine' sliceFrom (s := ⟨_, _, _, _, _⟩) ?F ?N ?m ?x ?z ?_; (case F => k_asm); (case N => k_asm); (case m => k_mem); (case z => first | assumption | exact Nat.le_trans (Nat.le_of_eq (by assumption)) (by decide)); (case x => first | decide | omega)); intro _ _ _ _ l1; (try dsimp only [AllLt] at l1); (try k_sweep)) | with_reducible (k_here; (with_reducible show wpAny _ _ (subscriptTail (Expr.Constant _ _ _) _ (Value.str _ _) (Value.int _ _)) _ _ _); (refine cod_tail (by assumption) ?_ (by with_unfolding_all rfl) (by intro _; with_unfolding_all rfl)))) | walk1 | (dsimp only; walk1) | (leave1; try dsimp only))
        all_goals (try contradiction)
        refine ofGenF hRR2 ?_
        (rename Fr _ _ _ _ => F5); (rename News _ _ _ _ => N5)
        exact fgEnd () F5 N5 (by (repeat (first | exact (fun p hp => by (first | exact (List.mem_append_left _ hp) | exact List.Mem.tail _ ((List.mem_append_left _ hp)) | exact List.Mem.tail _ (List.Mem.tail _ ((List.mem_append_left _ hp))) | exact List.Mem.tail _ (List.Mem.tail _ (List.Mem.tail _ ((List.mem_append_left _ hp)))) | exact List.Mem.tail _ (List.Mem.tail _ (List.Mem.tail _ (List.Mem.tail _ ((List.mem_append_left _ hp))))) | exact List.Mem.tail _ (List.Mem.tail _ (List.Mem.tail _ (List.Mem.tail _ (List.Mem.tail _ ((List.mem_append_left _ hp)))))) | exact List.Mem.tail _ (List.Mem.tail _ (List.Mem.tail _ (List.Mem.tail _ (List.Mem.tail _ (List.Mem.tail _ ((List.mem_append_left _ hp))))))) | exact List.Mem.tail _ (List.Mem.tail _ (List.Mem.tail _ (List.Mem.tail _ (List.Mem.tail _ (List.Mem.tail _ (List.Mem.tail _ ((List.mem_append_left _ hp)))))))) | exact List.Mem.tail _ (List.Mem.tail _ (List.Mem.tail _ (List.Mem.tail _ (List.Mem.tail _ (List.Mem.tail _ (List.Mem.tail _ (List.Mem.tail _ ((List.mem_append_left _ hp))))))))) | exact List.Mem.tail _ (List.Mem.tail _ (List.Mem.tail _ (List.Mem.tail _ (List.Mem.tail _ (List.Mem.tail _ (List.Mem.tail _ (List.Mem.tail _ (List.Mem.tail _ ((List.mem_append_left _ hp)))))))))) | exact List.Mem.tail _ (List.Mem.tail _ (List.Mem.tail _ (List.Mem.tail _ (List.Mem.tail _ (List.Mem.tail _ (List.Mem.tail _ (List.Mem.tail _ (List.Mem.tail _ (List.Mem.tail _ ((List.mem_append_left _ hp))))))))))) | exact List.Mem.tail _ (List.Mem.tail _ (List.Mem.tail _ (List.Mem.tail _ (List.Mem.tail _ (List.Mem.tail _ (List.Mem.tail _ (List.Mem.tail _ (List.Mem.tail _ (List.Mem.tail _ (List.Mem.tail _ ((List.mem_append_left _ hp)))))))))))) | exact List.Mem.tail _ (List.Mem.tail _ (List.Mem.tail _ (List.Mem.tail _ (List.Mem.tail _ (List.Mem.tail _ (List.Mem.tail _ (List.Mem.tail _ (List.Mem.tail _ (List.Mem.tail _ (List.Mem.tail _ (List.Mem.tail _ ((List.mem_append_left _ hp))))))))))))) | exact List.Mem.tail _ (List.Mem.tail _ (List.Mem.tail _ (List.Mem.tail _ (List.Mem.tail _ (List.Mem.tail _ (List.Mem.tail _ (List.Mem.tail _ (List.Mem.tail _ (List.Mem.tail _ (List.Mem.tail _ (List.Mem.tail _ (List.Mem.tail _ ((List.mem_append_left _ hp)))))))))))))) | exact List.Mem.tail _ (List.Mem.tail _ (List.Mem.tail _ (List.Mem.tail _ (List.Mem.tail _ (List.Mem.tail _ (List.Mem.tail _ (List.Mem.tail _ (List.Mem.tail _ (List.Mem.tail _ (List.Mem.tail _ (List.Mem.tail _ (List.Mem.tail _ (List.Mem.tail _ ((List.mem_append_left _ hp))))))))))))))) | exact List.Mem.tail _ (List.Mem.tail _ (List.Mem.tail _ (List.Mem.tail _ (List.Mem.tail _ (List.Mem.tail _ (List.Mem.tail _ (List.Mem.tail _ (List.Mem.tail _ (List.Mem.tail _ (List.Mem.tail _ (List.Mem.tail _ (List.Mem.tail _ (List.Mem.tail _ (List.Mem.tail _ ((List.mem_append_left _ hp)))))))))))))))) | exact List.Mem.tail _ (List.Mem.tail _ (List.Mem.tail _ (List.Mem.tail _ (List.Mem.tail _ (List.Mem.tail _ (List.Mem.tail _ (List.Mem.tail _ (List.Mem.tail _ (List.Mem.tail _ (List.Mem.tail _ (List.Mem.tail _ (List.Mem.tail _ (List.Mem.tail _ (List.Mem.tail _ (List.Mem.tail _ ((List.mem_append_left _ hp))))))))))))))))) | exact List.Mem.tail _ (List.Mem.tail _ (List.Mem.tail _ (List.Mem.tail _ (List.Mem.tail _ (List.Mem.tail _ (List.Mem.tail _ (List.Mem.tail _ (List.Mem.tail _ (List.Mem.tail _ (List.Mem.tail _ (List.Mem.tail _ (List.Mem.tail _ (List.Mem.tail _ (List.Mem.tail _ (List.Mem.tail _ (List.Mem.tail _ ((List.mem_append_left _ hp)))))))))))))))))) | exact List.Mem.tail _ (List.Mem.tail _ (List.Mem.tail _ (List.Mem.tail _ (List.Mem.tail _ (List.Mem.tail _ (List.Mem.tail _ (List.Mem.tail _ (List.Mem.tail _ (List.Mem.tail _ (List.Mem.tail _ (List.Mem.tail _ (List.Mem.tail _ (List.Mem.tail _ (List.Mem.tail _ (List.Mem.tail _ (List.Mem.tail _ (List.Mem.tail _ ((List.mem_append_left _ hp))))))))))))))))))) | exact List.Mem.tail _ (List.Mem.tail _ (List.Mem.tail _ (List.Mem.tail _ (List.Mem.tail _ (List.Mem.tail _ (List.Mem.tail _ (List.Mem.tail _ (List.Mem.tail _ (List.Mem.tail _ (List.Mem.tail _ (List.Mem.tail _ (List.Mem.tail _ (List.Mem.tail _ (List.Mem.tail _ (List.Mem.tail _ (List.Mem.tail _ (List.Mem.tail _ (List.Mem.tail _ ((List.mem_append_left _ hp)))))))))))))))))))) | exact List.Mem.tail _ (List.Mem.tail _ (List.Mem.tail _ (List.Mem.tail _ (List.Mem.tail _ (List.Mem.tail _ (List.Mem.tail _ (List.Mem.tail _ (List.Mem.tail _ (List.Mem.tail _ (List.Mem.tail _ (List.Mem.tail _ (List.Mem.tail _ (List.Mem.tail _ (List.Mem.tail _ (List.Mem.tail _ (List.Mem.tail _ (List.Mem.tail _ (List.Mem.tail _ (List.Mem.tail _ ((List.mem_append_left _ hp))))))))))))))))))))) | exact List.Mem.tail _ (List.Mem.tail _ (List.Mem.tail _ (List.Mem.tail _ (List.Mem.tail _ (List.Mem.tail _ (List.Mem.tail _ (List.Mem.tail _ (List.Mem.tail _ (List.Mem.tail _ (List.Mem.tail _ (List.Mem.tail _ (List.Mem.tail _ (List.Mem.tail _ (List.Mem.tail _ (List.Mem.tail _ (List.Mem.tail _ (List.Mem.tail _ (List.Mem.tail _ (List.Mem.tail _ (List.Mem.tail _ ((List.mem_append_left _ hp)))))))))))))))))))))) | exact List.Mem.tail _ (List.Mem.tail _ (List.Mem.tail _ (List.Mem.tail _ (List.Mem.tail _ (List.Mem.tail _ (List.Mem.tail _ (List.Mem.tail _ (List.Mem.tail _ (List.Mem.tail _ (List.Mem.tail _ (List.Mem.tail _ (List.Mem.tail _ (List.Mem.tail _ (List.Mem.tail _ (List.Mem.tail _ (List.Mem.tail _ (List.Mem.tail _ (List.Mem.tail _ (List.Mem.tail _ (List.Mem.tail _ (List.Mem.tail _ ((List.mem_append_left _ hp))))))))))))))))))))))) | exact List.Mem.tail _ (List.Mem.tail _ (List.Mem.tail _ (List.Mem.tail _ (List.Mem.tail _ (List.Mem.tail _ (List.Mem.tail _ (List.Mem.tail _ (List.Mem.tail _ (List.Mem.tail _ (List.Mem.tail _ (List.Mem.tail _ (List.Mem.tail _ (List.Mem.tail _ (List.Mem.tail _ (List.Mem.tail _ (List.Mem.tail _ (List.Mem.tail _ (List.Mem.tail _ (List.Mem.tail _ (List.Mem.tail _ (List.Mem.tail _ (List.Mem.tail _ ((List.mem_append_left _ hp)))))))))))))))))))))))))) | refine fmem (by k_mem) ?_))) (fun p hp => by (first | exact (List.mem_append_right _ hp) | exact List.Mem.tail _ ((List.mem_append_right _ hp)) | exact List.Mem.tail _ (List.Mem.tail _ ((List.mem_append_right _ hp))) | exact List.Mem.tail _ (List.Mem.tail _ (List.Mem.tail _ ((List.mem_append_right _ hp)))) | exact List.Mem.tail _ (List.Mem.tail _ (List.Mem.tail _ (List.Mem.tail _ ((List.mem_append_right _ hp))))) | exact List.Mem.tail _ (List.Mem.tail _ (List.Mem.tail _ (List.Mem.tail _ (List.Mem.tail _ ((List.mem_append_right _ hp)))))) | exact List.Mem.tail _ (List.Mem.tail _ (List.Mem.tail _ (List.Mem.tail _ (List.Mem.tail _ (List.Mem.tail _ ((List.mem_append_right _ hp))))))) | exact List.Mem.tail _ (List.Mem.tail _ (List.Mem.tail _ (List.Mem.tail _ (List.Mem.tail _ (List.Mem.tail _ (List.Mem.tail _ ((List.mem_append_right _ hp)))))))) | exact List.Mem.tail _ (List.Mem.tail _ (List.Mem.tail _ (List.Mem.tail _ (List.Mem.tail _ (List.Mem.tail _ (List.Mem.tail _ (List.Mem.tail _ ((List.mem_append_right _ hp))))))))) | exact List.Mem.tail _ (List.Mem.tail _ (List.Mem.tail _ (List.Mem.tail _ (List.Mem.tail _ (List.Mem.tail _ (List.Mem.tail _ (List.Mem.tail _ (List.Mem.tail _ ((List.mem_append_right _ hp)))))))))) | exact List.Mem.tail _ (List.Mem.tail _ (List.Mem.tail _ (List.Mem.tail _ (List.Mem.tail _ (List.Mem.tail _ (List.Mem.tail _ (List.Mem.tail _ (List.Mem.tail _ (List.Mem.tail _ ((List.mem_append_right _ hp))))))))))) | exact List.Mem.tail _ (List.Mem.tail _ (List.Mem.tail _ (List.Mem.tail _ (List.Mem.tail _ (List.Mem.tail _ (List.Mem.tail _ (List.Mem.tail _ (List.Mem.tail _ (List.Mem.tail _ (List.Mem.tail _ ((List.mem_append_right _ hp)))))))))))) | exact List.Mem.tail _ (List.Mem.tail _ (List.Mem.tail _ (List.Mem.tail _ (List.Mem.tail _ (List.Mem.tail _ (List.Mem.tail _ (List.Mem.tail _ (List.Mem.tail _ (List.Mem.tail _ (List.Mem.tail _ (List.Mem.tail _ ((List.mem_append_right _ hp))))))))))))) | exact List.Mem.tail _ (List.Mem.tail _ (List.Mem.tail _ (List.Mem.tail _ (List.Mem.tail _ (List.Mem.tail _ (List.Mem.tail _ (List.Mem.tail _ (List.Mem.tail _ (List.Mem.tail _ (List.Mem.tail _ (List.Mem.tail _ (List.Mem.tail _ ((List.mem_append_right _ hp)))))))))))))) | exact List.Mem.tail _ (List.Mem.tail _ (List.Mem.tail _ (List.Mem.tail _ (List.Mem.tail _ (List.Mem.tail _ (List.Mem.tail _ (List.Mem.tail _ (List.Mem.tail _ (List.Mem.tail _ (List.Mem.tail _ (List.Mem.tail _ (List.Mem.tail _ (List.Mem.tail _ ((List.mem_append_right _ hp))))))))))))))) | exact List.Mem.tail _ (List.Mem.tail _ (List.Mem.tail _ (List.Mem.tail _ (List.Mem.tail _ (List.Mem.tail _ (List.Mem.tail _ (List.Mem.tail _ (List.Mem.tail _ (List.Mem.tail _ (List.Mem.tail _ (List.Mem.tail _ (List.Mem.tail _ (List.Mem.tail _ (List.Mem.tail _ ((List.mem_append_right _ hp)))))))))))))))) | exact List.Mem.tail _ (List.Mem.tail _ (List.Mem.tail _ (List.Mem.tail _ (List.Mem.tail _ (List.Mem.tail _ (List.Mem.tail _ (List.Mem.tail _ (List.Mem.tail _ (List.Mem.tail _ (List.Mem.tail _ (List.Mem.tail _ (List.Mem.tail _ (List.Mem.tail _ (List.Mem.tail _ (List.Mem.tail _ ((List.mem_append_right _ hp))))))))))))))))) | exact List.Mem.tail _ (List.Mem.tail _ (List.Mem.tail _ (List.Mem.tail _ (List.Mem.tail _ (List.Mem.tail _ (List.Mem.tail _ (List.Mem.tail _ (List.Mem.tail _ (List.Mem.tail _ (List.Mem.tail _ (List.Mem.tail _ (List.Mem.tail _ (List.Mem.tail _ (List.Mem.tail _ (List.Mem.tail _ (List.Mem.tail _ ((List.mem_append_right _ hp)))))))))))))))))) | exact List.Mem.tail _ (List.Mem.tail _ (List.Mem.tail _ (List.Mem.tail _ (List.Mem.tail _ (List.Mem.tail _ (List.Mem.tail _ (List.Mem.tail _ (List.Mem.tail _ (List.Mem.tail _ (List.Mem.tail _ (List.Mem.tail _ (List.Mem.tail _ (List.Mem.tail _ (List.Mem.tail _ (List.Mem.tail _ (List.Mem.tail _ (List.Mem.tail _ ((List.mem_append_right _ hp))))))))))))))))))) | exact List.Mem.tail _ (List.Mem.tail _ (List.Mem.tail _ (List.Mem.tail _ (List.Mem.tail _ (List.Mem.tail _ (List.Mem.tail _ (List.Mem.tail _ (List.Mem.tail _ (List.Mem.tail _ (List.Mem.tail _ (List.Mem.tail _ (List.Mem.tail _ (List.Mem.tail _ (List.Mem.tail _ (List.Mem.tail _ (List.Mem.tail _ (List.Mem.tail _ (List.Mem.tail _ ((List.mem_append_right _ hp)))))))))))))))))))) | exact List.Mem.tail _ (List.Mem.tail _ (List.Mem.tail _ (List.Mem.tail _ (List.Mem.tail _ (List.Mem.tail _ (List.Mem.tail _ (List.Mem.tail _ (List.Mem.tail _ (List.Mem.tail _ (List.Mem.tail _ (List.Mem.tail _ (List.Mem.tail _ (List.Mem.tail _ (List.Mem.tail _ (List.Mem.tail _ (List.Mem.tail _ (List.Mem.tail _ (List.Mem.tail _ (List.Mem.tail _ ((List.mem_append_right _ hp))))))))))))))))))))) | exact List.Mem.tail _ (List.Mem.tail _ (List.Mem.tail _ (List.Mem.tail _ (List.Mem.tail _ (List.Mem.tail _ (List.Mem.tail _ (List.Mem.tail _ (List.Mem.tail _ (List.Mem.tail _ (List.Mem.tail _ (List.Mem.tail _ (List.Mem.tail _ (List.Mem.tail _ (List.Mem.tail _ (List.Mem.tail _ (List.Mem.tail _ (List.Mem.tail _ (List.Mem.tail _ (List.Mem.tail _ (List.Mem.tail _ ((List.mem_append_right _ hp)))))))))))))))))))))) | exact List.Mem.tail _ (List.Mem.tail _ (List.Mem.tail _ (List.Mem.tail _ (List.Mem.tail _ (List.Mem.tail _ (List.Mem.tail _ (List.Mem.tail _ (List.Mem.tail _ (List.Mem.tail _ (List.Mem.tail _ (List.Mem.tail _ (List.Mem.tail _ (List.Mem.tail _ (List.Mem.tail _ (List.Mem.tail _ (List.Mem.tail _ (List.Mem.tail _ (List.Mem.tail _ (List.Mem.tail _ (List.Mem.tail _ (List.Mem.tail _ ((List.mem_append_right _ hp))))))))))))))))))))))) | exact List.Mem.tail _ (List.Mem.tail _ (List.Mem.tail _ (List.Mem.tail _ (List.Mem.tail _ (List.Mem.tail _ (List.Mem.tail _ (List.Mem.tail _ (List.Mem.tail _ (List.Mem.tail _ (List.Mem.tail _ (List.Mem.tail _ (List.Mem.tail _ (List.Mem.tail _ (List.Mem.tail _ (List.Mem.tail _ (List.Mem.tail _ (List.Mem.tail _ (List.Mem.tail _ (List.Mem.tail _ (List.Mem.tail _ (List.Mem.tail _ (List.Mem.tail _ ((List.mem_append_right _ hp)))))))))))))))))))))))) | exact List.Mem.tail _ (List.Mem.tail _ (List.Mem.tail _ (List.Mem.tail _ (List.Mem.tail _ (List.Mem.tail _ (List.Mem.tail _ (List.Mem.tail _ (List.Mem.tail _ (List.Mem.tail _ (List.Mem.tail _ (List.Mem.tail _ (List.Mem.tail _ (List.Mem.tail _ (List.Mem.tail _ (List.Mem.tail _ (List.Mem.tail _ (List.Mem.tail _ (List.Mem.tail _ (List.Mem.tail _ (List.Mem.tail _ (List.Mem.tail _ (List.Mem.tail _ (List.Mem.tail _ ((List.mem_append_right _ hp))))))))))))))))))))))))) | exact List.Mem.tail _ (List.Mem.tail _ (List.Mem.tail _ (List.Mem.tail _ (List.Mem.tail _ (List.Mem.tail _ (List.Mem.tail _ (List.Mem.tail _ (List.Mem.tail _ (List.Mem.tail _ (List.Mem.tail _ (List.Mem.tail _ (List.Mem.tail _ (List.Mem.tail _ (List.Mem.tail _ (List.Mem.tail _ (List.Mem.tail _ (List.Mem.tail _ (List.Mem.tail _ (List.Mem.tail _ (List.Mem.tail _ (List.Mem.tail _ (List.Mem.tail _ (List.Mem.tail _ (List.Mem.tail _ ((List.mem_append_right _ hp)))))))))))))))))))))))))) | exact List.Mem.tail _ (List.Mem.tail _ (List.Mem.tail _ (List.Mem.tail _ (List.Mem.tail _ (List.Mem.tail _ (List.Mem.tail _ (List.Mem.tail _ (List.Mem.tail _ (List.Mem.tail _ (List.Mem.tail _ (List.Mem.tail _ (List.Mem.tail _ (List.Mem.tail _ (List.Mem.tail _ (List.Mem.tail _ (List.Mem.tail _ (List.Mem.tail _ (List.Mem.tail _ (List.Mem.tail _ (List.Mem.tail _ (List.Mem.tail _ (List.Mem.tail _ (List.Mem.tail _ (List.Mem.tail _ (List.Mem.tail _ ((List.mem_append_right _ hp))))))))))))))))))))))))))) | exact List.Mem.tail _ (List.Mem.tail _ (List.Mem.tail _ (List.Mem.tail _ (List.Mem.tail _ (List.Mem.tail _ (List.Mem.tail _ (List.Mem.tail _ (List.Mem.tail _ (List.Mem.tail _ (List.Mem.tail _ (List.Mem.tail _ (List.Mem.tail _ (List.Mem.tail _ (List.Mem.tail _ (List.Mem.tail _ (List.Mem.tail _ (List.Mem.tail _ (List.Mem.tail _ (List.Mem.tail _ (List.Mem.tail _ (List.Mem.tail _ (List.Mem.tail _ (List.Mem.tail _ (List.Mem.tail _ (List.Mem.tail _ (List.Mem.tail _ ((List.mem_append_right _ hp)))))))))))))))))))))))))))))) hoff6 (fun p hp => nomatch hp) (by (intro z h2 h3; (have hs0 : z ≠ Str.ofString "end" := by rintro rfl; exact absurd h3 (by decide)); (have hs1 : z ≠ Str.ofString "due" := by rintro rfl; exact absurd h3 (by decide)); simp only [kstB, h3, if_neg hs0, if_neg hs1, Bool.false_eq_true, if_false])) trivial
      case done2 =>
      intro c uq7 hq7 tkq7 _ Fk Nk
      clear Fj Nj rgX
      (try k_unfold); (try dsimp only)
      repeat' ((fail_if_success (with_reducible show wpAny _ _ (exec (Stmt.While _ _ _ _) _) _ _ _)); (fail_if_success (with_reducible show wpAny _ _ (exec (Stmt.For _ _ _ _ _) _) _ _ _)); (fail_if_success (with_reducible show KswEnd _ _ _ _ _ _ _ _ _ _ _ _)); (fail_if_success (with_reducible show FcEnd _ _ _ _ _ _ _ _ _ _)); (fail_if_success (with_reducible show CutEnd _ _ _ _ _ _ _ _ _)); first | (k_unfold; (try dsimp only)) | (k_end; wrow_close) | ((with_reducible show wpAny _ _ (subscriptTail _ _ _ _) _ _ _); first | (k_here; (with_reducible show wpAny _ _ (subscriptTail (PySem.Expr.Name _ _) (PySem.Expr.Name _ _) (Value.ref _) (Value.int (Nat.cast _) _)) _ _ _); (refine item_lst (by k_asm) (by k_mem) (by exact rfl) (by decide) ?_)) | (k_here; (with_reducible show wpAny _ _ (subscriptTail (PySem.Expr.Subscript (PySem.Expr.Name _ _) (PySem.Expr.Name _ _) _) (PySem.Expr.Constant _ _ _) (Value.ref _) (Value.int _ _)) _ _ _); (refine item_tup (by k_asm) (by k_mem) (by decide) (by decide) (by exact rfl) (by exact rfl) ?_)) | (k_here; (with_reducible show wpAny _ _ (subscriptTail (PySem.Expr.Subscript (PySem.Expr.Subscript _ _ _) (PySem.Expr.Constant _ _ _) _) (PySem.Expr.BinOp _ _ _ _) (Value.ref _) (Value.int (HSub.hSub _ _) _)) _ _ _); (refine item_ints (by k_asm) (by k_mem) (by with_reducible assumption) (by omega) (by omega) (by omega) ?_); intro _) | with_reducible (k_here; (with_reducible show wpAny _ _ (subscriptTail _ (PySem.Expr.Slice _ _ _ _) (Value.str _ _) (Value.ref _)) _ _ _); kxi_slice; intro _ _ _ _ _) | with_reducible (k_here; (with_reducible show wpAny _ _ (subscriptTail _ (PySem.Expr.Slice (some _) (some _) none _) (Value.ref _) (Value.ref _)) _ _ _); k_dflt (refine' sliceRun (s := ⟨_, _, _, _, _⟩) ?F ?N ?m ?x ?y ?z ?_; (case F => k_asm); (case N => k_asm); (case m => k_mem); (case z => assumption); (case x => first | decide | omega); (case y => first | decide | omega)); intro _ _ _ _ l1; (try dsimp only [AllLt] at l1); (try k_sweep)) | with_reducible (k_here; (with_reducible show wpAny _ _ (subscriptTail _ (PySem.Expr.Slice none (some _) none _) (Value.ref _) (Value.ref _)) _ _ _); k_dflt (refine' sliceUpto (s := ⟨_, _, _, _, _⟩) ?F ?N ?m ?x ?z ?_; (case F => k_asm); (case N => k_asm); (case m => k_mem); (case z => assumption); (case x => first | decide | omega)); intro _ _ _ _ l1; (try dsimp only [AllLt] at l1); (try k_sweep)) | with_reducible (k_here; (with_reducible show wpAny _ _ (subscriptTail _ (PySem.Expr.Slice (some _) none none _) (Value.ref _) (Value.ref _)) _ _ _); k_dflt (refine' sliceFrom (s := ⟨_, _, _, _, _⟩) ?F ?N ?m ?x ?z ?_; (case F => k_asm); (case N => k_asm); (case m => k_mem); (case z => first | assumption | exact Nat.le_trans (Nat.le_of_eq (by assumption)) (by decide)); (case x => first | decide | omega)); intro _ _ _ _ l1; (try dsimp only [AllLt] at l1); (try k_sweep)) | with_reducible (k_here; (with_reducible show wpAny _ _ (subscriptTail (Expr.Constant _ _ _) _ (Value.str _ _) (Value.int _ _)) _ _ _); (refine cod_tail (by assumption) ?_ (by with_unfolding_all rfl) (by intro _; with_unfolding_all rfl)))) | walk1 | (dsimp only; walk1) | (leave1; try dsimp only))
      with_unfolding_all refine' For_turns Fk ?_
      k_whole
      repeat' ((fail_if_success (with_reducible show wpAny _ _ (pyIter _) _ _ _)); (fail_if_success (with_reducible show KswEnd _ _ _ _ _ _ _ _ _ _ _ _)); (fail_if_success (with_reducible show FcEnd _ _ _ _ _ _ _ _ _ _)); (fail_if_success (with_reducible show CutEnd _ _ _ _ _ _ _ _ _)); first | (k_unfold; (try dsimp only)) | (k_end; wrow_close) | ((with_reducible show wpAny _ _ (subscriptTail _ _ _ _) _ _ _); first | (k_here; (with_reducible show wpAny _ _ (subscriptTail (PySem.Expr.Name _ _) (PySem.Expr.Name _ _) (Value.ref _) (Value.int (Nat.cast _) _)) _ _ _); (refine item_lst (by k_asm) (by k_mem) (by exact rfl) (by decide) ?_)) | (k_here; (with_reducible show wpAny _ _ (subscriptTail (PySem.Expr.Subscript (PySem.Expr.Name _ _) (PySem.Expr.Name _ _) _) (PySem.Expr.Constant _ _ _) (Value.ref _) (Value.int _ _)) _ _ _); (refine item_tup (by k_asm) (by k_mem) (by decide) (by decide) (by exact rfl) (by exact rfl) ?_)) | (k_here; (with_reducible show wpAny _ _ (subscriptTail (PySem.Expr.Subscript (PySem.Expr.Subscript _ _ _) (PySem.Expr.Constant _ _ _) _) (PySem.Expr.BinOp _ _ _ _) (Value.ref _) (Value.int (HSub.hSub _ _) _)) _ _ _); (refine item_ints (by k_asm) (by k_mem) (by with_reducible assumption) (by omega) (by omega) (by omega) ?_); intro _) | with_reducible (k_here; (with_reducible show wpAny _ _ (subscriptTail _ (PySem.Expr.Slice _ _ _ _) (Value.str _ _) (Value.ref _)) _ _ _); kxi_slice; intro _ _ _ _ _) | with_reducible (k_here; (with_reducible show wpAny _ _ (subscriptTail _ (PySem.Expr.Slice (some _) (some _) none _) (Value.ref _) (Value.ref _)) _ _ _); k_dflt (refine' sliceRun (s := ⟨_, _, _, _, _⟩) ?F ?N ?m ?x ?y ?z ?_; (case F => k_asm); (case N => k_asm); (case m => k_mem); (case z => assumption); (case x => first | decide | omega); (case y => first | decide | omega)); intro _ _ _ _ l1; (try dsimp only [AllLt] at l1); (try k_sweep)) | with_reducible (k_here; (with_reducible show wpAny _ _ (subscriptTail _ (PySem.Expr.Slice none (some _) none _) (Value.ref _) (Value.ref _)) _ _ _); k_dflt (refine' sliceUpto (s := ⟨_, _, _, _, _⟩) ?F ?N ?m ?x ?z ?_; (case F => k_asm); (case N => k_asm); (case m => k_mem); (case z => assumption); (case x => first | decide | omega)); intro _ _ _ _ l1; (try dsimp only [AllLt] at l1); (try k_sweep)) | with_reducible (k_here; (with_reducible show wpAny _ _ (subscriptTail _ (PySem.Expr.Slice (some _) none none _) (Value.ref _) (Value.ref _)) _ _ _); k_dflt (refine' sliceFrom (s := ⟨_, _, _, _, _⟩) ?F ?N ?m ?x ?z ?_; (case F => k_asm); (case N => k_asm); (case m => k_mem); (case z => first | assumption | exact Nat.le_trans (Nat.le_of_eq (by assumption)) (by decide)); (case x => first | decide | omega)); intro _ _ _ _ l1; (try dsimp only [AllLt] at l1); (try k_sweep)) | with_reducible (k_here; (with_reducible show wpAny _ _ (subscriptTail (Expr.Constant _ _ _) _ (Value.str _ _) (Value.int _ _)) _ _ _); (refine cod_tail (by assumption) ?_ (by with_unfolding_all rfl) (by intro _; with_unfolding_all rfl)))) | walk1 | (dsimp only; walk1) | (leave1; try dsimp only))
      (rename Fr _ _ _ _ => Fl); (rename News _ _ _ _ => Nl)
      (try ((fail_if_success (fail_if_success (with_reducible rename (_ ∧ _) => hx9))); refine viaR ?_; intro R9 k9; (repeat (first | ((with_reducible rename (_ ∧ _ ∧ _ ∧ _ ∧ _ ∧ _ ∧ _ ∧ _) => hx9); refine and8 hx9 ?_; clear hx9; intro _ _ _ _ _ _ _ _) | ((with_reducible rename (_ ∧ _ ∧ _ ∧ _) => hx9); refine and4 hx9 ?_; clear hx9; intro _ _ _ _) | ((with_reducible rename (_ ∧ _) => hx9); refine and2 hx9 ?_; clear hx9; intro _ _) | ((with_reducible rename True => hx9); clear hx9))); refine k9 ?_; clear k9 R9))
      refine' listTurns (σ := Unit) (vs := [.int 1 _, .int 2 _]) (fun _ => ((s1.heap.objs.size + 1 + 1, oS) :: (an, LCg.lst [.int (zer d0) tz0, .int (zer d1) tz1, .int (zer d2) tz2]) :: ((aF, listOf fs.toArray kf) :: ownX))) (fun _ => []) [Str.ofString "size", Str.ofString "due"] (fun _ _ => True) () rfl Fl Nl (allNe_mem (by (dsimp only [AllNe]; (repeat' (first | exact trivial | assumption | exact ⟨by assumption⟩ | exact ⟨Nat.ne_of_lt (by assumption)⟩ | exact allNe_of_lt (by assumption) | exact ⟨by k_ne⟩ | refine And.intro ?_ ?_))))) ?hk3 ?hp3 ?turn3 ?done3
      case hk3 => intro p hp; cases hp
      case hp3 => trivial
      case turn3 =>
        intro j v c u7 h7 tk7 own7 hj hv _ hoff7 F6 N6
        refine turnGen ?_; intro RR2 hRR2
        dsimp only [List.cons_append, List.nil_append] at N6
        clear Fl Nl
        match j, hj, hv with
        | 0, _, hv =>
          cases hv
          have hs9 : Txt.slice (S [cod w0, cod w1, cod w2]) none (some 1) = S [cod w0] := slice_upto (k := 1) (by simp)
          have hz9 : lev cost1 ([cod o0, cod o1, cod o2, cod o3].drop i) [cod w0] (2 * (1 + 4 - (i : Int)) - (zer d0 + 0) + ((i : Int) + 1) % 3 - 1) = 2 * (1 + 4 - (i : Int)) - (zer d0 + 0) := by
            rw [Int.add_zero]
            exact hsz1
          repeat' ((fail_if_success (with_reducible show wpAny _ _ (call (Value.ref 28) _) _ _ _)); (fail_if_success (with_reducible show FgEnd _ _ _ _ _ _ _ _ _ _)); (fail_if_success (with_reducible show KswEnd _ _ _ _ _ _ _ _ _ _ _ _)); (fail_if_success (with_reducible show FcEnd _ _ _ _ _ _ _ _ _ _)); (fail_if_success (with_reducible show CutEnd _ _ _ _ _ _ _ _ _)); first | (k_unfold; (try dsimp only)) | (k_end; wrow_close) | ((first | ((with_reducible show wpAny _ _ (subscriptTail _ _ _ _) _ _ _); first | (k_here; (with_reducible show wpAny _ _ (subscriptTail (PySem.Expr.Name _ _) (PySem.Expr.Name _ _) (Value.ref _) (Value.int (Nat.cast _) _)) _ _ _); (refine item_lst (by k_asm) (by k_mem) (by exact rfl) (by decide) ?_)) | (k_here; (with_reducible show wpAny _ _ (subscriptTail (PySem.Expr.Subscript (PySem.Expr.Name _ _) (PySem.Expr.Name _ _) _) (PySem.Expr.Constant _ _ _) (Value.ref _) (Value.int _ _)) _ _ _); (refine item_tup (by k_asm) (by k_mem) (by decide) (by decide) (by exact rfl) (by exact rfl) ?_)) | (k_here; (with_reducible show wpAny _ _ (subscriptTail (PySem.Expr.Subscript (PySem.Expr.Subscript _ _ _) (PySem.Expr.Constant _ _ _) _) (PySem.Expr.BinOp _ _ _ _) (Value.ref _) (Value.int (HSub.hSub _ _) _)) _ _ _); (refine item_ints (by k_asm) (by k_mem) (by with_reducible assumption) (by omega) (by omega) (by omega) ?_); intro _) | with_reducible (k_here; (with_reducible show wpAny _ _ (subscriptTail _ (PySem.Expr.Slice _ _ _ _) (Value.str _ _) (Value.ref _)) _ _ _); kxi_slice; intro _ _ _ _ _) | with_reducible (k_here; (with_reducible show wpAny _ _ (subscriptTail _ (PySem.Expr.Slice (some _) (some _) none _) (Value.ref _) (Value.ref _)) _ _ _); k_dflt (refine' sliceRun (s := ⟨_, _, _, _, _⟩) ?F ?N ?m ?x ?y ?z ?_; (case F => k_asm); (case N => k_asm); (case m => k_mem); (case z => assumption); (case x => first | decide | omega); (case y => first | decide | omega)); intro _ _ _ _ l1; (try dsimp only [AllLt] at l1); (try k_sweep)) | with_reducible (k_here; (with_reducible show wpAny _ _ (subscriptTail _ (PySem.Expr.Slice none (some _) none _) (Value.ref _) (Value.ref _)) _ _ _); k_dflt (refine' sliceUpto (s := ⟨_, _, _, _, _⟩) ?F ?N ?m ?x ?z ?_; (case F => k_asm); (case N => k_asm); (case m => k_mem); (case z => assumption); (case x => first | decide | omega)); intro _ _ _ _ l1; (try dsimp only [AllLt] at l1); (try k_sweep)) | with_reducible (k_here; (with_reducible show wpAny _ _ (subscriptTail _ (PySem.Expr.Slice (some _) none none _) (Value.ref _) (Value.ref _)) _ _ _); k_dflt (refine' sliceFrom (s := ⟨_, _, _, _, _⟩) ?F ?N ?m ?x ?z ?_; (case F => k_asm); (case N => k_asm); (case m => k_mem); (case z => first | assumption | exact Nat.le_trans (Nat.le_of_eq (by assumption)) (by decide)); (case x => first | decide | omega)); intro _ _ _ _ l1; (try dsimp only [AllLt] at l1); (try k_sweep)) | with_reducible (k_here; (with_reducible show wpAny _ _ (subscriptTail (Expr.Constant _ _ _) _ (Value.str _ _) (Value.int _ _)) _ _ _); (refine cod_tail (by assumption) ?_ (by with_unfolding_all rfl) (by intro _; with_unfolding_all rfl)))) | walk1); (all_goals ((try ((fail_if_success (fail_if_success (with_reducible rename (_ ∧ _) => hx9))); refine viaR ?_; intro R9 k9; (repeat (first | ((with_reducible rename (_ ∧ _ ∧ _ ∧ _ ∧ _ ∧ _ ∧ _ ∧ _) => hx9); refine and8 hx9 ?_; clear hx9; intro _ _ _ _ _ _ _ _) | ((with_reducible rename (_ ∧ _ ∧ _ ∧ _) => hx9); refine and4 hx9 ?_; clear hx9; intro _ _ _ _) | ((with_reducible rename (_ ∧ _) => hx9); refine and2 hx9 ?_; clear hx9; intro _ _) | ((with_reducible rename True => hx9); clear hx9))); refine k9 ?_; clear k9 R9)); repeat ((with_reducible rename (@Ne Nat _ _) => hx9); (have hx8 := apart_of hx9); clear hx9)))) | (dsimp only; walk1) | (leave1; try dsimp only))
          rw [slice_from (by simp; omega), hs9]
          (rename Fr _ _ _ _ => F9); (rename News _ _ _ _ => N9)
          refine lev_ok (by k_asm) (by k_asm) (by k_asm) (by k_asm) (by k_asm) (by first | exact rfl | assumption) (by ktr_room) (by ktr_units) (by simp; omega) (by simp) ?_
          intro tl9 hl9 tkl9 FA NA
          (try clear F9); (try clear N9)
          rw [fm (show (0 : Int) ≤ 3 by decide), hz9]
          repeat' ((fail_if_success (with_reducible show wpAny _ _ (exec (Stmt.While _ _ _ _) _) _ _ _)); (fail_if_success (with_reducible show wpAny _ _ (exec (Stmt.For _ _ _ _ _) _) _ _ _)); (fail_if_success (with_reducible show KswEnd _ _ _ _ _ _ _ _ _ _ _ _)); (fail_if_success (with_reducible show FcEnd _ _ _ _ _ _ _ _ _ _)); (fail_if_success (with_reducible show CutEnd _ _ _ _ _ _ _ _ _)); first | (k_unfold; (try dsimp only)) | (k_end; wrow_close) | ((with_reducible show wpAny _ _ (subscriptTail _ _ _ _) _ _ _); first | (k_here; (with_reducible show wpAny _ _ (subscriptTail (PySem.Expr.Name _ _) (PySem.Expr.Name _ _) (Value.ref _) (Value.int (Nat.cast _) _)) _ _ _); (refine item_lst (by k_asm) (by k_mem) (by exact rfl) (by decide) ?_)) | (k_here; (with_reducible show wpAny _ _ (subscriptTail (PySem.Expr.Subscript (PySem.Expr.Name _ _) (PySem.Expr.Name _ _) _) (PySem.Expr.Constant _ _ _) (Value.ref _) (Value.int _ _)) _ _ _); (refine item_tup (by k_asm) (by k_mem) (by decide) (by decide) (by exact rfl) (by exact rfl) ?_)) | (k_here; (with_reducible show wpAny _ _ (subscriptTail (PySem.Expr.Subscript (PySem.Expr.Subscript _ _ _) (PySem.Expr.Constant _ _ _) _) (PySem.Expr.BinOp _ _ _ _) (Value.ref _) (Value.int (HSub.hSub _ _) _)) _ _ _); (refine item_ints (by k_asm) (by k_mem) (by with_reducible assumption) (by omega) (by omega) (by omega) ?_); intro _) | with_reducible (k_here; (with_reducible show wpAny _ _ (subscriptTail _ (PySem.Expr.Slice _ _ _ _) (Value.str _ _) (Value.ref _)) _ _ _); kxi_slice; intro _ _ _ _ _) | with_reducible (k_here; (with_reducible show wpAny _ _ (subscriptTail _ (PySem.Expr.Slice (some _) (some _) none _) (Value.ref _) (Value.ref _)) _ _ _); k_dflt (refine' sliceRun (s := ⟨_, _, _, _, _⟩) ?F ?N ?m ?x ?y ?z ?_; (case F => k_asm); (case N => k_asm); (case m => k_mem); (case z => assumption); (case x => first | decide | omega); (case y => first | decide | omega)); intro _ _ _ _ l1; (try dsimp only [AllLt] at l1); (try k_sweep)) | with_reducible (k_here; (with_reducible show wpAny _ _ (subscriptTail _ (PySem.Expr.Slice none (some _) none _) (Value.ref _) (Value.ref _)) _ _ _); k_dflt (refine' sliceUpto (s := ⟨_, _, _, _, _⟩) ?F ?N ?m ?x ?z ?_; (case F => k_asm); (case N => k_asm); (case m => k_mem); (case z => assumption); (case x => first | decide | omega)); intro _ _ _ _ l1; (try dsimp only [AllLt] at l1); (try k_sweep)) | with_reducible (k_here; (with_reducible show wpAny _ _ (subscriptTail _ (PySem.Expr.Slice (some _) none none _) (Value.ref _) (Value.ref _)) _ _ _); k_dflt (refine' sliceFrom (s := ⟨_, _, _, _, _⟩) ?F ?N ?m ?x ?z ?_; (case F => k_asm); (case N => k_asm); (case m => k_mem); (case z => first | assumption | exact Nat.le_trans (Nat.le_of_eq (by assumption)) (by decide)); (case x => first | decide | omega)); intro _ _ _ _ l1; (try dsimp only [AllLt] at l1); (try k_sweep)) | with_reducible (k_here; (with_reducible show wpAny _ _ (subscriptTail (Expr.Constant _ _ _) _ (Value.str _ _) (Value.int _ _)) _ _ _); (refine cod_tail (by assumption) ?_ (by with_unfolding_all rfl) (by intro _; with_unfolding_all rfl)))) | walk1 | (dsimp only; walk1) | (leave1; try dsimp only))
          all_goals (try contradiction)
          refine ofGenF hRR2 ?_
          (rename Fr _ _ _ _ => F5); (rename News _ _ _ _ => N5)
          exact fgEnd () F5 N5 (by (repeat (first | exact (fun p hp => by (first | exact (List.mem_append_left _ hp) | exact List.Mem.tail _ ((List.mem_append_left _ hp)) | exact List.Mem.tail _ (List.Mem.tail _ ((List.mem_append_left _ hp))) | exact List.Mem.tail _ (List.Mem.tail _ (List.Mem.tail _ ((List.mem_append_left _ hp)))) | exact List.Mem.tail _ (List.Mem.tail _ (List.Mem.tail _ (List.Mem.tail _ ((List.mem_append_left _ hp))))) | exact List.Mem.tail _ (List.Mem.tail _ (List.Mem.tail _ (List.Mem.tail _ (List.Mem.tail _ ((List.mem_append_left _ hp)))))) | exact List.Mem.tail _ (List.Mem.tail _ (List.Mem.tail _ (List.Mem.tail _ (List.Mem.tail _ (List.Mem.tail _ ((List.mem_append_left _ hp))))))) | exact List.Mem.tail _ (List.Mem.tail _ (List.Mem.tail _ (List.Mem.tail _ (List.Mem.tail _ (List.Mem.tail _ (List.Mem.tail _ ((List.mem_append_left _ hp)))))))) | exact List.Mem.tail _ (List.Mem.tail _ (List.Mem.tail _ (List.Mem.tail _ (List.Mem.tail _ (List.Mem.tail _ (List.Mem.tail _ (List.Mem.tail _ ((List.mem_append_left _ hp))))))))) | exact List.Mem.tail _ (List.Mem.tail _ (List.Mem.tail _ (List.Mem.tail _ (List.Mem.tail _ (List.Mem.tail _ (List.Mem.tail _ (List.Mem.tail _ (List.Mem.tail _ ((List.mem_append_left _ hp)))))))))) | exact List.Mem.tail _ (List.Mem.tail _ (List.Mem.tail _ (List.Mem.tail _ (List.Mem.tail _ (List.Mem.tail _ (List.Mem.tail _ (List.Mem.tail _ (List.Mem.tail _ (List.Mem.tail _ ((List.mem_append_left _ hp))))))))))) | exact List.Mem.tail _ (List.Mem.tail _ (List.Mem.tail _ (List.Mem.tail _ (List.Mem.tail _ (List.Mem.tail _ (List.Mem.tail _ (List.Mem.tail _ (List.Mem.tail _ (List.Mem.tail _ (List.Mem.tail _ ((List.mem_append_left _ hp)))))))))))) | exact List.Mem.tail _ (List.Mem.tail _ (List.Mem.tail _ (List.Mem.tail _ (List.Mem.tail _ (List.Mem.tail _ (List.Mem.tail _ (List.Mem.tail _ (List.Mem.tail _ (List.Mem.tail _ (List.Mem.tail _ (List.Mem.tail _ ((List.mem_append_left _ hp))))))))))))) | exact List.Mem.tail _ (List.Mem.tail _ (List.Mem.tail _ (List.Mem.tail _ (List.Mem.tail _ (List.Mem.tail _ (List.Mem.tail _ (List.Mem.tail _ (List.Mem.tail _ (List.Mem.tail _ (List.Mem.tail _ (List.Mem.tail _ (List.Mem.tail _ ((List.mem_append_left _ hp)))))))))))))) | exact List.Mem.tail _ (List.Mem.tail _ (List.Mem.tail _ (List.Mem.tail _ (List.Mem.tail _ (List.Mem.tail _ (List.Mem.tail _ (List.Mem.tail _ (List.Mem.tail _ (List.Mem.tail _ (List.Mem.tail _ (List.Mem.tail _ (List.Mem.tail _ (List.Mem.tail _ ((List.mem_append_left _ hp))))))))))))))) | exact List.Mem.tail _ (List.Mem.tail _ (List.Mem.tail _ (List.Mem.tail _ (List.Mem.tail _ (List.Mem.tail _ (List.Mem.tail _ (List.Mem.tail _ (List.Mem.tail _ (List.Mem.tail _ (List.Mem.tail _ (List.Mem.tail _ (List.Mem.tail _ (List.Mem.tail _ (List.Mem.tail _ ((List.mem_append_left _ hp)))))))))))))))) | exact List.Mem.tail _ (List.Mem.tail _ (List.Mem.tail _ (List.Mem.tail _ (List.Mem.tail _ (List.Mem.tail _ (List.Mem.tail _ (List.Mem.tail _ (List.Mem.tail _ (List.Mem.tail _ (List.Mem.tail _ (List.Mem.tail _ (List.Mem.tail _ (List.Mem.tail _ (List.Mem.tail _ (List.Mem.tail _ ((List.mem_append_left _ hp))))))))))))))))) | exact List.Mem.tail _ (List.Mem.tail _ (List.Mem.tail _ (List.Mem.tail _ (List.Mem.tail _ (List.Mem.tail _ (List.Mem.tail _ (List.Mem.tail _ (List.Mem.tail _ (List.Mem.tail _ (List.Mem.tail _ (List.Mem.tail _ (List.Mem.tail _ (List.Mem.tail _ (List.Mem.tail _ (List.Mem.tail _ (List.Mem.tail _ ((List.mem_append_left _ hp)))))))))))))))))) | exact List.Mem.tail _ (List.Mem.tail _ (List.Mem.tail _ (List.Mem.tail _ (List.Mem.tail _ (List.Mem.tail _ (List.Mem.tail _ (List.Mem.tail _ (List.Mem.tail _ (List.Mem.tail _ (List.Mem.tail _ (List.Mem.tail _ (List.Mem.tail _ (List.Mem.tail _ (List.Mem.tail _ (List.Mem.tail _ (List.Mem.tail _ (List.Mem.tail _ ((List.mem_append_left _ hp))))))))))))))))))) | exact List.Mem.tail _ (List.Mem.tail _ (List.Mem.tail _ (List.Mem.tail _ (List.Mem.tail _ (List.Mem.tail _ (List.Mem.tail _ (List.Mem.tail _ (List.Mem.tail _ (List.Mem.tail _ (List.Mem.tail _ (List.Mem.tail _ (List.Mem.tail _ (List.Mem.tail _ (List.Mem.tail _ (List.Mem.tail _ (List.Mem.tail _ (List.Mem.tail _ (List.Mem.tail _ ((List.mem_append_left _ hp)))))))))))))))))))) | exact List.Mem.tail _ (List.Mem.tail _ (List.Mem.tail _ (List.Mem.tail _ (List.Mem.tail _ (List.Mem.tail _ (List.Mem.tail _ (List.Mem.tail _ (List.Mem.tail _ (List.Mem.tail _ (List.Mem.tail _ (List.Mem.tail _ (List.Mem.tail _ (List.Mem.tail _ (List.Mem.tail _ (List.Mem.tail _ (List.Mem.tail _ (List.Mem.tail _ (List.Mem.tail _ (List.Mem.tail _ ((List.mem_append_left _ hp))))))))))))))))))))) | exact List.Mem.tail _ (List.Mem.tail _ (List.Mem.tail _ (List.Mem.tail _ (List.Mem.tail _ (List.Mem.tail _ (List.Mem.tail _ (List.Mem.tail _ (List.Mem.tail _ (List.Mem.tail _ (List.Mem.tail _ (List.Mem.tail _ (List.Mem.tail _ (List.Mem.tail _ (List.Mem.tail _ (List.Mem.tail _ (List.Mem.tail _ (List.Mem.tail _ (List.Mem.tail _ (List.Mem.tail _ (List.Mem.tail _ ((List.mem_append_left _ hp)))))))))))))))))))))) | exact List.Mem.tail _ (List.Mem.tail _ (List.Mem.tail _ (List.Mem.tail _ (List.Mem.tail _ (List.Mem.tail _ (List.Mem.tail _ (List.Mem.tail _ (List.Mem.tail _ (List.Mem.tail _ (List.Mem.tail _ (List.Mem.tail _ (List.Mem.tail _ (List.Mem.tail _ (List.Mem.tail _ (List.Mem.tail _ (List.Mem.tail _ (List.Mem.tail _ (List.Mem.tail _ (List.Mem.tail _ (List.Mem.tail _ (List.Mem.tail _ ((List.mem_append_left _ hp))))))))))))))))))))))) | exact List.Mem.tail _ (List.Mem.tail _ (List.Mem.tail _ (List.Mem.tail _ (List.Mem.tail _ (List.Mem.tail _ (List.Mem.tail _ (List.Mem.tail _ (List.Mem.tail _ (List.Mem.tail _ (List.Mem.tail _ (List.Mem.tail _ (List.Mem.tail _ (List.Mem.tail _ (List.Mem.tail _ (List.Mem.tail _ (List.Mem.tail _ (List.Mem.tail _ (List.Mem.tail _ (List.Mem.tail _ (List.Mem.tail _ (List.Mem.tail _ (List.Mem.tail _ ((List.mem_append_left _ hp)))))))))))))))))))))))))) | refine fmem (by k_mem) ?_))) (fun p hp => by (first | exact (List.mem_append_right _ hp) | exact List.Mem.tail _ ((List.mem_append_right _ hp)) | exact List.Mem.tail _ (List.Mem.tail _ ((List.mem_append_right _ hp))) | exact List.Mem.tail _ (List.Mem.tail _ (List.Mem.tail _ ((List.mem_append_right _ hp)))) | exact List.Mem.tail _ (List.Mem.tail _ (List.Mem.tail _ (List.Mem.tail _ ((List.mem_append_right _ hp))))) | exact List.Mem.tail _ (List.Mem.tail _ (List.Mem.tail _ (List.Mem.tail _ (List.Mem.tail _ ((List.mem_append_right _ hp)))))) | exact List.Mem.tail _ (List.Mem.tail _ (List.Mem.tail _ (List.Mem.tail _ (List.Mem.tail _ (List.Mem.tail _ ((List.mem_append_right _ hp))))))) | exact List.Mem.tail _ (List.Mem.tail _ (List.Mem.tail _ (List.Mem.tail _ (List.Mem.tail _ (List.Mem.tail _ (List.Mem.tail _ ((List.mem_append_right _ hp)))))))) | exact List.Mem.tail _ (List.Mem.tail _ (List.Mem.tail _ (List.Mem.tail _ (List.Mem.tail _ (List.Mem.tail _ (List.Mem.tail _ (List.Mem.tail _ ((List.mem_append_right _ hp))))))))) | exact List.Mem.tail _ (List.Mem.tail _ (List.Mem.tail _ (List.Mem.tail _ (List.Mem.tail _ (List.Mem.tail _ (List.Mem.tail _ (List.Mem.tail _ (List.Mem.tail _ ((List.mem_append_right _ hp)))))))))) | exact List.Mem.tail _ (List.Mem.tail _ (List.Mem.tail _ (List.Mem.tail _ (List.Mem.tail _ (List.Mem.tail _ (List.Mem.tail _ (List.Mem.tail _ (List.Mem.tail _ (List.Mem.tail _ ((List.mem_append_right _ hp))))))))))) | exact List.Mem.tail _ (List.Mem.tail _ (List.Mem.tail _ (List.Mem.tail _ (List.Mem.tail _ (List.Mem.tail _ (List.Mem.tail _ (List.Mem.tail _ (List.Mem.tail _ (List.Mem.tail _ (List.Mem.tail _ ((List.mem_append_right _ hp)))))))))))) | exact List.Mem.tail _ (List.Mem.tail _ (List.Mem.tail _ (List.Mem.tail _ (List.Mem.tail _ (List.Mem.tail _ (List.Mem.tail _ (List.Mem.tail _ (List.Mem.tail _ (List.Mem.tail _ (List.Mem.tail _ (List.Mem.tail _ ((List.mem_append_right _ hp))))))))))))) | exact List.Mem.tail _ (List.Mem.tail _ (List.Mem.tail _ (List.Mem.tail _ (List.Mem.tail _ (List.Mem.tail _ (List.Mem.tail _ (List.Mem.tail _ (List.Mem.tail _ (List.Mem.tail _ (List.Mem.tail _ (List.Mem.tail _ (List.Mem.tail _ ((List.mem_append_right _ hp)))))))))))))) | exact List.Mem.tail _ (List.Mem.tail _ (List.Mem.tail _ (List.Mem.tail _ (List.Mem.tail _ (List.Mem.tail _ (List.Mem.tail _ (List.Mem.tail _ (List.Mem.tail _ (List.Mem.tail _ (List.Mem.tail _ (List.Mem.tail _ (List.Mem.tail _ (List.Mem.tail _ ((List.mem_append_right _ hp))))))))))))))) | exact List.Mem.tail _ (List.Mem.tail _ (List.Mem.tail _ (List.Mem.tail _ (List.Mem.tail _ (List.Mem.tail _ (List.Mem.tail _ (List.Mem.tail _ (List.Mem.tail _ (List.Mem.tail _ (List.Mem.tail _ (List.Mem.tail _ (List.Mem.tail _ (List.Mem.tail _ (List.Mem.tail _ ((List.mem_append_right _ hp)))))))))))))))) | exact List.Mem.tail _ (List.Mem.tail _ (List.Mem.tail _ (List.Mem.tail _ (List.Mem.tail _ (List.Mem.tail _ (List.Mem.tail _ (List.Mem.tail _ (List.Mem.tail _ (List.Mem.tail _ (List.Mem.tail _ (List.Mem.tail _ (List.Mem.tail _ (List.Mem.tail _ (List.Mem.tail _ (List.Mem.tail _ ((List.mem_append_right _ hp))))))))))))))))) | exact List.Mem.tail _ (List.Mem.tail _ (List.Mem.tail _ (List.Mem.tail _ (List.Mem.tail _ (List.Mem.tail _ (List.Mem.tail _ (List.Mem.tail _ (List.Mem.tail _ (List.Mem.tail _ (List.Mem.tail _ (List.Mem.tail _ (List.Mem.tail _ (List.Mem.tail _ (List.Mem.tail _ (List.Mem.tail _ (List.Mem.tail _ ((List.mem_append_right _ hp)))))))))))))))))) | exact List.Mem.tail _ (List.Mem.tail _ (List.Mem.tail _ (List.Mem.tail _ (List.Mem.tail _ (List.Mem.tail _ (List.Mem.tail _ (List.Mem.tail _ (List.Mem.tail _ (List.Mem.tail _ (List.Mem.tail _ (List.Mem.tail _ (List.Mem.tail _ (List.Mem.tail _ (List.Mem.tail _ (List.Mem.tail _ (List.Mem.tail _ (List.Mem.tail _ ((List.mem_append_right _ hp))))))))))))))))))) | exact List.Mem.tail _ (List.Mem.tail _ (List.Mem.tail _ (List.Mem.tail _ (List.Mem.tail _ (List.Mem.tail _ (List.Mem.tail _ (List.Mem.tail _ (List.Mem.tail _ (List.Mem.tail _ (List.Mem.tail _ (List.Mem.tail _ (List.Mem.tail _ (List.Mem.tail _ (List.Mem.tail _ (List.Mem.tail _ (List.Mem.tail _ (List.Mem.tail _ (List.Mem.tail _ ((List.mem_append_right _ hp)))))))))))))))))))) | exact List.Mem.tail _ (List.Mem.tail _ (List.Mem.tail _ (List.Mem.tail _ (List.Mem.tail _ (List.Mem.tail _ (List.Mem.tail _ (List.Mem.tail _ (List.Mem.tail _ (List.Mem.tail _ (List.Mem.tail _ (List.Mem.tail _ (List.Mem.tail _ (List.Mem.tail _ (List.Mem.tail _ (List.Mem.tail _ (List.Mem.tail _ (List.Mem.tail _ (List.Mem.tail _ (List.Mem.tail _ ((List.mem_append_right _ hp))))))))))))))))))))) | exact List.Mem.tail _ (List.Mem.tail _ (List.Mem.tail _ (List.Mem.tail _ (List.Mem.tail _ (List.Mem.tail _ (List.Mem.tail _ (List.Mem.tail _ (List.Mem.tail _ (List.Mem.tail _ (List.Mem.tail _ (List.Mem.tail _ (List.Mem.tail _ (List.Mem.tail _ (List.Mem.tail _ (List.Mem.tail _ (List.Mem.tail _ (List.Mem.tail _ (List.Mem.tail _ (List.Mem.tail _ (List.Mem.tail _ ((List.mem_append_right _ hp)))))))))))))))))))))) | exact List.Mem.tail _ (List.Mem.tail _ (List.Mem.tail _ (List.Mem.tail _ (List.Mem.tail _ (List.Mem.tail _ (List.Mem.tail _ (List.Mem.tail _ (List.Mem.tail _ (List.Mem.tail _ (List.Mem.tail _ (List.Mem.tail _ (List.Mem.tail _ (List.Mem.tail _ (List.Mem.tail _ (List.Mem.tail _ (List.Mem.tail _ (List.Mem.tail _ (List.Mem.tail _ (List.Mem.tail _ (List.Mem.tail _ (List.Mem.tail _ ((List.mem_append_right _ hp))))))))))))))))))))))) | exact List.Mem.tail _ (List.Mem.tail _ (List.Mem.tail _ (List.Mem.tail _ (List.Mem.tail _ (List.Mem.tail _ (List.Mem.tail _ (List.Mem.tail _ (List.Mem.tail _ (List.Mem.tail _ (List.Mem.tail _ (List.Mem.tail _ (List.Mem.tail _ (List.Mem.tail _ (List.Mem.tail _ (List.Mem.tail _ (List.Mem.tail _ (List.Mem.tail _ (List.Mem.tail _ (List.Mem.tail _ (List.Mem.tail _ (List.Mem.tail _ (List.Mem.tail _ ((List.mem_append_right _ hp)))))))))))))))))))))))) | exact List.Mem.tail _ (List.Mem.tail _ (List.Mem.tail _ (List.Mem.tail _ (List.Mem.tail _ (List.Mem.tail _ (List.Mem.tail _ (List.Mem.tail _ (List.Mem.tail _ (List.Mem.tail _ (List.Mem.tail _ (List.Mem.tail _ (List.Mem.tail _ (List.Mem.tail _ (List.Mem.tail _ (List.Mem.tail _ (List.Mem.tail _ (List.Mem.tail _ (List.Mem.tail _ (List.Mem.tail _ (List.Mem.tail _ (List.Mem.tail _ (List.Mem.tail _ (List.Mem.tail _ ((List.mem_append_right _ hp))))))))))))))))))))))))) | exact List.Mem.tail _ (List.Mem.tail _ (List.Mem.tail _ (List.Mem.tail _ (List.Mem.tail _ (List.Mem.tail _ (List.Mem.tail _ (List.Mem.tail _ (List.Mem.tail _ (List.Mem.tail _ (List.Mem.tail _ (List.Mem.tail _ (List.Mem.tail _ (List.Mem.tail _ (List.Mem.tail _ (List.Mem.tail _ (List.Mem.tail _ (List.Mem.tail _ (List.Mem.tail _ (List.Mem.tail _ (List.Mem.tail _ (List.Mem.tail _ (List.Mem.tail _ (List.Mem.tail _ (List.Mem.tail _ ((List.mem_append_right _ hp)))))))))))))))))))))))))) | exact List.Mem.tail _ (List.Mem.tail _ (List.Mem.tail _ (List.Mem.tail _ (List.Mem.tail _ (List.Mem.tail _ (List.Mem.tail _ (List.Mem.tail _ (List.Mem.tail _ (List.Mem.tail _ (List.Mem.tail _ (List.Mem.tail _ (List.Mem.tail _ (List.Mem.tail _ (List.Mem.tail _ (List.Mem.tail _ (List.Mem.tail _ (List.Mem.tail _ (List.Mem.tail _ (List.Mem.tail _ (List.Mem.tail _ (List.Mem.tail _ (List.Mem.tail _ (List.Mem.tail _ (List.Mem.tail _ (List.Mem.tail _ ((List.mem_append_right _ hp))))))))))))))))))))))))))) | exact List.Mem.tail _ (List.Mem.tail _ (List.Mem.tail _ (List.Mem.tail _ (List.Mem.tail _ (List.Mem.tail _ (List.Mem.tail _ (List.Mem.tail _ (List.Mem.tail _ (List.Mem.tail _ (List.Mem.tail _ (List.Mem.tail _ (List.Mem.tail _ (List.Mem.tail _ (List.Mem.tail _ (List.Mem.tail _ (List.Mem.tail _ (List.Mem.tail _ (List.Mem.tail _ (List.Mem.tail _ (List.Mem.tail _ (List.Mem.tail _ (List.Mem.tail _ (List.Mem.tail _ (List.Mem.tail _ (List.Mem.tail _ (List.Mem.tail _ ((List.mem_append_right _ hp)))))))))))))))))))))))))))))) hoff7 (fun p hp => nomatch hp) (by (intro z h2 h3; (have hs0 : z ≠ Str.ofString "size" := by rintro rfl; exact absurd h3 (by decide)); (have hs1 : z ≠ Str.ofString "due" := by rintro rfl; exact absurd h3 (by decide)); simp only [kstB, h3, if_neg hs0, if_neg hs1, Bool.false_eq_true, if_false])) trivial
        | 1, _, hv =>
          cases hv
          have hs9 : Txt.slice (S [cod w0, cod w1, cod w2]) none (some 2) = S [cod w0, cod w1] := slice_upto (k := 2) (by simp)
          have hz9 : lev cost1 ([cod o0, cod o1, cod o2, cod o3].drop i) [cod w0, cod w1] (2 * (2 + 4 - (i : Int)) - (zer d0 + (zer d1 + 0)) + ((i : Int) + 2) % 3 - 1) = 2 * (2 + 4 - (i : Int)) - (zer d0 + (zer d1 + 0)) := by
            rw [Int.add_zero]
            exact hsz2
          repeat' ((fail_if_success (with_reducible show wpAny _ _ (call (Value.ref 28) _) _ _ _)); (fail_if_success (with_reducible show FgEnd _ _ _ _ _ _ _ _ _ _)); (fail_if_success (with_reducible show KswEnd _ _ _ _ _ _ _ _ _ _ _ _)); (fail_if_success (with_reducible show FcEnd _ _ _ _ _ _ _ _ _ _)); (fail_if_success (with_reducible show CutEnd _ _ _ _ _ _ _ _ _)); first | (k_unfold; (try dsimp only)) | (k_end; wrow_close) | ((first | ((with_reducible show wpAny _ _ (subscriptTail _ _ _ _) _ _ _); first | (k_here; (with_reducible show wpAny _ _ (subscriptTail (PySem.Expr.Name _ _) (PySem.Expr.Name _ _) (Value.ref _) (Value.int (Nat.cast _) _)) _ _ _); (refine item_lst (by k_asm) (by k_mem) (by exact rfl) (by decide) ?_)) | (k_here; (with_reducible show wpAny _ _ (subscriptTail (PySem.Expr.Subscript (PySem.Expr.Name _ _) (PySem.Expr.Name _ _) _) (PySem.Expr.Constant _ _ _) (Value.ref _) (Value.int _ _)) _ _ _); (refine item_tup (by k_asm) (by k_mem) (by decide) (by decide) (by exact rfl) (by exact rfl) ?_)) | (k_here; (with_reducible show wpAny _ _ (subscriptTail (PySem.Expr.Subscript (PySem.Expr.Subscript _ _ _) (PySem.Expr.Constant _ _ _) _) (PySem.Expr.BinOp _ _ _ _) (Value.ref _) (Value.int (HSub.hSub _ _) _)) _ _ _); (refine item_ints (by k_asm) (by k_mem) (by with_reducible assumption) (by omega) (by omega) (by omega) ?_); intro _) | with_reducible (k_here; (with_reducible show wpAny _ _ (subscriptTail _ (PySem.Expr.Slice _ _ _ _) (Value.str _ _) (Value.ref _)) _ _ _); kxi_slice; intro _ _ _ _ _) | with_reducible (k_here; (with_reducible show wpAny _ _ (subscriptTail _ (PySem.Expr.Slice (some _) (some _) none _) (Value.ref _) (Value.ref _)) _ _ _); k_dflt (refine' sliceRun (s := ⟨_, _, _, _, _⟩) ?F ?N ?m ?x ?y ?z ?_; (case F => k_asm); (case N => k_asm); (case m => k_mem); (case z => assumption); (case x => first | decide | omega); (case y => first | decide | omega)); intro _ _ _ _ l1; (try dsimp only [AllLt] at l1); (try k_sweep)) | with_reducible (k_here; (with_reducible show wpAny _ _ (subscriptTail _ (PySem.Expr.Slice none (some _) none _) (Value.ref _) (Value.ref _)) _ _ _); k_dflt (refine' sliceUpto (s := ⟨_, _, _, _, _⟩) ?F ?N ?m ?x ?z ?_; (case F => k_asm); (case N => k_asm); (case m => k_mem); (case z => assumption); (case x => first | decide | omega)); intro _ _ _ _ l1; (try dsimp only [AllLt] at l1); (try k_sweep)) | with_reducible (k_here; (with_reducible show wpAny _ _ (subscriptTail _ (PySem.Expr.Slice (some _) none none _) (Value.ref _) (Value.ref _)) _ _ _); k_dflt (refine' sliceFrom (s := ⟨_, _, _, _, _⟩) ?F ?N ?m ?x ?z ?_; (case F => k_asm); (case N => k_asm); (case m => k_mem); (case z => first | assumption | exact Nat.le_trans (Nat.le_of_eq (by assumption)) (by decide)); (case x => first | decide | omega)); intro _ _ _ _ l1; (try dsimp only [AllLt] at l1); (try k_sweep)) | with_reducible (k_here; (with_reducible show wpAny _ _ (subscriptTail (Expr.Constant _ _ _) _ (Value.str _ _) (Value.int _ _)) _ _ _); (refine cod_tail (by assumption) ?_ (by with_unfolding_all rfl) (by intro _; with_unfolding_all rfl)))) | walk1); (all_goals ((try ((fail_if_success (fail_if_success (with_reducible rename (_ ∧ _) => hx9))); refine viaR ?_; intro R9 k9; (repeat (first | ((with_reducible rename (_ ∧ _ ∧ _ ∧ _ ∧ _ ∧ _ ∧ _ ∧ _) => hx9); refine and8 hx9 ?_; clear hx9; intro _ _ _ _ _ _ _ _) | ((with_reducible rename (_ ∧ _ ∧ _ ∧ _) => hx9); refine and4 hx9 ?_; clear hx9; intro _ _ _ _) | ((with_reducible rename (_ ∧ _) => hx9); refine and2 hx9 ?_; clear hx9; intro _ _) | ((with_reducible rename True => hx9); clear hx9))); refine k9 ?_; clear k9 R9)); repeat ((with_reducible rename (@Ne Nat _ _) => hx9); (have hx8 := apart_of hx9); clear hx9)))) | (dsimp only; walk1) | (leave1; try dsimp only))
          rw [slice_from (by simp; omega), hs9]
          (rename Fr _ _ _ _ => F9); (rename News _ _ _ _ => N9)
          refine lev_ok (by k_asm) (by k_asm) (by k_asm) (by k_asm) (by k_asm) (by first | exact rfl | assumption) (by ktr_room) (by ktr_units) (by simp; omega) (by simp) ?_
          intro tl9 hl9 tkl9 FA NA
          (try clear F9); (try clear N9)
          rw [fm (show (0 : Int) ≤ 3 by decide), hz9]
          repeat' ((fail_if_success (with_reducible show wpAny _ _ (exec (Stmt.While _ _ _ _) _) _ _ _)); (fail_if_success (with_reducible show wpAny _ _ (exec (Stmt.For _ _ _ _ _) _) _ _ _)); (fail_if_success (with_reducible show KswEnd _ _ _ _ _ _ _ _ _ _ _ _)); (fail_if_success (with_reducible show FcEnd _ _ _ _ _ _ _ _ _ _)); (fail_if_success (with_reducible show CutEnd _ _ _ _ _ _ _ _ _)); first | (k_unfold; (try dsimp only)) | (k_end; wrow_close) | ((with_reducible show wpAny _ _ (subscriptTail _ _ _ _) _ _ _); first | (k_here; (with_reducible show wpAny _ _ (subscriptTail (PySem.Expr.Name _ _) (PySem.Expr.Name _ _) (Value.ref _) (Value.int (Nat.cast _) _)) _ _ _); (refine item_lst (by k_asm) (by k_mem) (by exact rfl) (by decide) ?_)) | (k_here; (with_reducible show wpAny _ _ (subscriptTail (PySem.Expr.Subscript (PySem.Expr.Name _ _) (PySem.Expr.Name _ _) _) (PySem.Expr.Constant _ _ _) (Value.ref _) (Value.int _ _)) _ _ _); (refine item_tup (by k_asm) (by k_mem) (by decide) (by decide) (by exact rfl) (by exact rfl) ?_)) | (k_here; (with_reducible show wpAny _ _ (subscriptTail (PySem.Expr.Subscript (PySem.Expr.Subscript _ _ _) (PySem.Expr.Constant _ _ _) _) (PySem.Expr.BinOp _ _ _ _) (Value.ref _) (Value.int (HSub.hSub _ _) _)) _ _ _); (refine item_ints (by k_asm) (by k_mem) (by with_reducible assumption) (by omega) (by omega) (by omega) ?_); intro _) | with_reducible (k_here; (with_reducible show wpAny _ _ (subscriptTail _ (PySem.Expr.Slice _ _ _ _) (Value.str _ _) (Value.ref _)) _ _ _); kxi_slice; intro _ _ _ _ _) | with_reducible (k_here; (with_reducible show wpAny _ _ (subscriptTail _ (PySem.Expr.Slice (some _) (some _) none _) (Value.ref _) (Value.ref _)) _ _ _); k_dflt (refine' sliceRun (s := ⟨_, _, _, _, _⟩) ?F ?N ?m ?x ?y ?z ?_; (case F => k_asm); (case N => k_asm); (case m => k_mem); (case z => assumption); (case x => first | decide | omega); (case y => first | decide | omega)); intro _ _ _ _ l1; (try dsimp only [AllLt] at l1); (try k_sweep)) | with_reducible (k_here; (with_reducible show wpAny _ _ (subscriptTail _ (PySem.Expr.Slice none (some _) none _) (Value.ref _) (Value.ref _)) _ _ _); k_dflt (refine' sliceUpto (s := ⟨_, _, _, _, _⟩) ?F ?N ?m ?x ?z ?_; (case F => k_asm); (case N => k_asm); (case m => k_mem); (case z => assumption); (case x => first | decide | omega)); intro _ _ _ _ l1; (try dsimp only [AllLt] at l1); (try k_sweep)) | with_reducible (k_here; (with_reducible show wpAny _ _ (subscriptTail _ (PySem.Expr.Slice (some _) none none _) (Value.ref _) (Value.ref _)) _ _ _); k_dflt (refine' sliceFrom (s := ⟨_, _, _, _, _⟩) ?F ?N ?m ?x ?z ?_; (case F => k_asm); (case N => k_asm); (case m => k_mem); (case z => first | assumption | exact Nat.le_trans (Nat.le_of_eq (by assumption)) (by decide)); (case x => first | decide | omega)); intro _ _ _ _ l1; (try dsimp only [AllLt] at l1); (try k_sweep)) | with_reducible (k_here; (with_reducible show wpAny _ _ (subscriptTail (Expr.Constant _ _ _) _ (Value.str _ _) (Value.int _ _)) _ _ _); (refine cod_tail (by assumption) ?_ (by with_unfolding_all rfl) (by intro _; with_unfolding_all rfl)))) | walk1 | (dsimp only; walk1) | (leave1; try dsimp only))
          all_goals (try contradiction)
          refine ofGenF hRR2 ?_
          (rename Fr _ _ _ _ => F5); (rename News _ _ _ _ => N5)
          exact fgEnd () F5 N5 (by (repeat (first | exact (fun p hp => by (first | exact (List.mem_append_left _ hp) | exact List.Mem.tail _ ((List.mem_append_left _ hp)) | exact List.Mem.tail _ (List.Mem.tail _ ((List.mem_append_left _ hp))) | exact List.Mem.tail _ (List.Mem.tail _ (List.Mem.tail _ ((List.mem_append_left _ hp)))) | exact List.Mem.tail _ (List.Mem.tail _ (List.Mem.tail _ (List.Mem.tail _ ((List.mem_append_left _ hp))))) | exact List.Mem.tail _ (List.Mem.tail _ (List.Mem.tail _ (List.Mem.tail _ (List.Mem.tail _ ((List.mem_append_left _ hp)))))) | exact List.Mem.tail _ (List.Mem.tail _ (List.Mem.tail _ (List.Mem.tail _ (List.Mem.tail _ (List.Mem.tail _ ((List.mem_append_left _ hp))))))) | exact List.Mem.tail _ (List.Mem.tail _ (List.Mem.tail _ (List.Mem.tail _ (List.Mem.tail _ (List.Mem.tail _ (List.Mem.tail _ ((List.mem_append_left _ hp)))))))) | exact List.Mem.tail _ (List.Mem.tail _ (List.Mem.tail _ (List.Mem.tail _ (List.Mem.tail _ (List.Mem.tail _ (List.Mem.tail _ (List.Mem.tail _ ((List.mem_append_left _ hp))))))))) | exact List.Mem.tail _ (List.Mem.tail _ (List.Mem.tail _ (List.Mem.tail _ (List.Mem.tail _ (List.Mem.tail _ (List.Mem.tail _ (List.Mem.tail _ (List.Mem.tail _ ((List.mem_append_left _ hp)))))))))) | exact List.Mem.tail _ (List.Mem.tail _ (List.Mem.tail _ (List.Mem.tail _ (List.Mem.tail _ (List.Mem.tail _ (List.Mem.tail _ (List.Mem.tail _ (List.Mem.tail _ (List.Mem.tail _ ((List.mem_append_left _ hp))))))))))) | exact List.Mem.tail _ (List.Mem.tail _ (List.Mem.tail _ (List.Mem.tail _ (List.Mem.tail _ (List.Mem.tail _ (List.Mem.tail _ (List.Mem.tail _ (List.Mem.tail _ (List.Mem.tail _ (List.Mem.tail _ ((List.mem_append_left _ hp)))))))))))) | exact List.Mem.tail _ (List.Mem.tail _ (List.Mem.tail _ (List.Mem.tail _ (List.Mem.tail _ (List.Mem.tail _ (List.Mem.tail _ (List.Mem.tail _ (List.Mem.tail _ (List.Mem.tail _ (List.Mem.tail _ (List.Mem.tail _ ((List.mem_append_left _ hp))))))))))))) | exact List.Mem.tail _ (List.Mem.tail _ (List.Mem.tail _ (List.Mem.tail _ (List.Mem.tail _ (List.Mem.tail _ (List.Mem.tail _ (List.Mem.tail _ (List.Mem.tail _ (List.Mem.tail _ (List.Mem.tail _ (List.Mem.tail _ (List.Mem.tail _ ((List.mem_append_left _ hp)))))))))))))) | exact List.Mem.tail _ (List.Mem.tail _ (List.Mem.tail _ (List.Mem.tail _ (List.Mem.tail _ (List.Mem.tail _ (List.Mem.tail _ (List.Mem.tail _ (List.Mem.tail _ (List.Mem.tail _ (List.Mem.tail _ (List.Mem.tail _ (List.Mem.tail _ (List.Mem.tail _ ((List.mem_append_left _ hp))))))))))))))) | exact List.Mem.tail _ (List.Mem.tail _ (List.Mem.tail _ (List.Mem.tail _ (List.Mem.tail _ (List.Mem.tail _ (List.Mem.tail _ (List.Mem.tail _ (List.Mem.tail _ (List.Mem.tail _ (List.Mem.tail _ (List.Mem.tail _ (List.Mem.tail _ (List.Mem.tail _ (List.Mem.tail _ ((List.mem_append_left _ hp)))))))))))))))) | exact List.Mem.tail _ (List.Mem.tail _ (List.Mem.tail _ (List.Mem.tail _ (List.Mem.tail _ (List.Mem.tail _ (List.Mem.tail _ (List.Mem.tail _ (List.Mem.tail _ (List.Mem.tail _ (List.Mem.tail _ (List.Mem.tail _ (List.Mem.tail _ (List.Mem.tail _ (List.Mem.tail _ (List.Mem.tail _ ((List.mem_append_left _ hp))))))))))))))))) | exact List.Mem.tail _ (List.Mem.tail _ (List.Mem.tail _ (List.Mem.tail _ (List.Mem.tail _ (List.Mem.tail _ (List.Mem.tail _ (List.Mem.tail _ (List.Mem.tail _ (List.Mem.tail _ (List.Mem.tail _ (List.Mem.tail _ (List.Mem.tail _ (List.Mem.tail _ (List.Mem.tail _ (List.Mem.tail _ (List.Mem.tail _ ((List.mem_append_left _ hp)))))))))))))))))) | exact List.Mem.tail _ (List.Mem.tail _ (List.Mem.tail _ (List.Mem.tail _ (List.Mem.tail _ (List.Mem.tail _ (List.Mem.tail _ (List.Mem.tail _ (List.Mem.tail _ (List.Mem.tail _ (List.Mem.tail _ (List.Mem.tail _ (List.Mem.tail _ (List.Mem.tail _ (List.Mem.tail _ (List.Mem.tail _ (List.Mem.tail _ (List.Mem.tail _ ((List.mem_append_left _ hp))))))))))))))))))) | exact List.Mem.tail _ (List.Mem.tail _ (List.Mem.tail _ (List.Mem.tail _ (List.Mem.tail _ (List.Mem.tail _ (List.Mem.tail _ (List.Mem.tail _ (List.Mem.tail _ (List.Mem.tail _ (List.Mem.tail _ (List.Mem.tail _ (List.Mem.tail _ (List.Mem.tail _ (List.Mem.tail _ (List.Mem.tail _ (List.Mem.tail _ (List.Mem.tail _ (List.Mem.tail _ ((List.mem_append_left _ hp)))))))))))))))))))) | exact List.Mem.tail _ (List.Mem.tail _ (List.Mem.tail _ (List.Mem.tail _ (List.Mem.tail _ (List.Mem.tail _ (List.Mem.tail _ (List.Mem.tail _ (List.Mem.tail _ (List.Mem.tail _ (List.Mem.tail _ (List.Mem.tail _ (List.Mem.tail _ (List.Mem.tail _ (List.Mem.tail _ (List.Mem.tail _ (List.Mem.tail _ (List.Mem.tail _ (List.Mem.tail _ (List.Mem.tail _ ((List.mem_append_left _ hp))))))))))))))))))))) | exact List.Mem.tail _ (List.Mem.tail _ (List.Mem.tail _ (List.Mem.tail _ (List.Mem.tail _ (List.Mem.tail _ (List.Mem.tail _ (List.Mem.tail _ (List.Mem.tail _ (List.Mem.tail _ (List.Mem.tail _ (List.Mem.tail _ (List.Mem.tail _ (List.Mem.tail _ (List.Mem.tail _ (List.Mem.tail _ (List.Mem.tail _ (List.Mem.tail _ (List.Mem.tail _ (List.Mem.tail _ (List.Mem.tail _ ((List.mem_append_left _ hp)))))))))))))))))))))) | exact List.Mem.tail _ (List.Mem.tail _ (List.Mem.tail _ (List.Mem.tail _ (List.Mem.tail _ (List.Mem.tail _ (List.Mem.tail _ (List.Mem.tail _ (List.Mem.tail _ (List.Mem.tail _ (List.Mem.tail _ (List.Mem.tail _ (List.Mem.tail _ (List.Mem.tail _ (List.Mem.tail _ (List.Mem.tail _ (List.Mem.tail _ (List.Mem.tail _ (List.Mem.tail _ (List.Mem.tail _ (List.Mem.tail _ (List.Mem.tail _ ((List.mem_append_left _ hp))))))))))))))))))))))) | exact List.Mem.tail _ (List.Mem.tail _ (List.Mem.tail _ (List.Mem.tail _ (List.Mem.tail _ (List.Mem.tail _ (List.Mem.tail _ (List.Mem.tail _ (List.Mem.tail _ (List.Mem.tail _ (List.Mem.tail _ (List.Mem.tail _ (List.Mem.tail _ (List.Mem.tail _ (List.Mem.tail _ (List.Mem.tail _ (List.Mem.tail _ (List.Mem.tail _ (List.Mem.tail _ (List.Mem.tail _ (List.Mem.tail _ (List.Mem.tail _ (List.Mem.tail _ ((List.mem_append_left _ hp)))))))))))))))))))))))))) | refine fmem (by k_mem) ?_))) (fun p hp => by (first | exact (List.mem_append_right _ hp) | exact List.Mem.tail _ ((List.mem_append_right _ hp)) | exact List.Mem.tail _ (List.Mem.tail _ ((List.mem_append_right _ hp))) | exact List.Mem.tail _ (List.Mem.tail _ (List.Mem.tail _ ((List.mem_append_right _ hp)))) | exact List.Mem.tail _ (List.Mem.tail _ (List.Mem.tail _ (List.Mem.tail _ ((List.mem_append_right _ hp))))) | exact List.Mem.tail _ (List.Mem.tail _ (List.Mem.tail _ (List.Mem.tail _ (List.Mem.tail _ ((List.mem_append_right _ hp)))))) | exact List.Mem.tail _ (List.Mem.tail _ (List.Mem.tail _ (List.Mem.tail _ (List.Mem.tail _ (List.Mem.tail _ ((List.mem_append_right _ hp))))))) | exact List.Mem.tail _ (List.Mem.tail _ (List.Mem.tail _ (List.Mem.tail _ (List.Mem.tail _ (List.Mem.tail _ (List.Mem.tail _ ((List.mem_append_right _ hp)))))))) | exact List.Mem.tail _ (List.Mem.tail _ (List.Mem.tail _ (List.Mem.tail _ (List.Mem.tail _ (List.Mem.tail _ (List.Mem.tail _ (List.Mem.tail _ ((List.mem_append_right _ hp))))))))) | exact List.Mem.tail _ (List.Mem.tail _ (List.Mem.tail _ (List.Mem.tail _ (List.Mem.tail _ (List.Mem.tail _ (List.Mem.tail _ (List.Mem.tail _ (List.Mem.tail _ ((List.mem_append_right _ hp)))))))))) | exact List.Mem.tail _ (List.Mem.tail _ (List.Mem.tail _ (List.Mem.tail _ (List.Mem.tail _ (List.Mem.tail _ (List.Mem.tail _ (List.Mem.tail _ (List.Mem.tail _ (List.Mem.tail _ ((List.mem_append_right _ hp))))))))))) | exact List.Mem.tail _ (List.Mem.tail _ (List.Mem.tail _ (List.Mem.tail _ (List.Mem.tail _ (List.Mem.tail _ (List.Mem.tail _ (List.Mem.tail _ (List.Mem.tail _ (List.Mem.tail _ (List.Mem.tail _ ((List.mem_append_right _ hp)))))))))))) | exact List.Mem.tail _ (List.Mem.tail _ (List.Mem.tail _ (List.Mem.tail _ (List.Mem.tail _ (List.Mem.tail _ (List.Mem.tail _ (List.Mem.tail _ (List.Mem.tail _ (List.Mem.tail _ (List.Mem.tail _ (List.Mem.tail _ ((List.mem_append_right _ hp))))))))))))) | exact List.Mem.tail _ (List.Mem.tail _ (List.Mem.tail _ (List.Mem.tail _ (List.Mem.tail _ (List.Mem.tail _ (List.Mem.tail _ (List.Mem.tail _ (List.Mem.tail _ (List.Mem.tail _ (List.Mem.tail _ (List.Mem.tail _ (List.Mem.tail _ ((List.mem_append_right _ hp)))))))))))))) | exact List.Mem.tail _ (List.Mem.tail _ (List.Mem.tail _ (List.Mem.tail _ (List.Mem.tail _ (List.Mem.tail _ (List.Mem.tail _ (List.Mem.tail _ (List.Mem.tail _ (List.Mem.tail _ (List.Mem.tail _ (List.Mem.tail _ (List.Mem.tail _ (List.Mem.tail _ ((List.mem_append_right _ hp))))))))))))))) | exact List.Mem.tail _ (List.Mem.tail _ (List.Mem.tail _ (List.Mem.tail _ (List.Mem.tail _ (List.Mem.tail _ (List.Mem.tail _ (List.Mem.tail _ (List.Mem.tail _ (List.Mem.tail _ (List.Mem.tail _ (List.Mem.tail _ (List.Mem.tail _ (List.Mem.tail _ (List.Mem.tail _ ((List.mem_append_right _ hp)))))))))))))))) | exact List.Mem.tail _ (List.Mem.tail _ (List.Mem.tail _ (List.Mem.tail _ (List.Mem.tail _ (List.Mem.tail _ (List.Mem.tail _ (List.Mem.tail _ (List.Mem.tail _ (List.Mem.tail _ (List.Mem.tail _ (List.Mem.tail _ (List.Mem.tail _ (List.Mem.tail _ (List.Mem.tail _ (List.Mem.tail _ ((List.mem_append_right _ hp))))))))))))))))) | exact List.Mem.tail _ (List.Mem.tail _ (List.Mem.tail _ (List.Mem.tail _ (List.Mem.tail _ (List.Mem.tail _ (List.Mem.tail _ (List.Mem.tail _ (List.Mem.tail _ (List.Mem.tail _ (List.Mem.tail _ (List.Mem.tail _ (List.Mem.tail _ (List.Mem.tail _ (List.Mem.tail _ (List.Mem.tail _ (List.Mem.tail _ ((List.mem_append_right _ hp)))))))))))))))))) | exact List.Mem.tail _ (List.Mem.tail _ (List.Mem.tail _ (List.Mem.tail _ (List.Mem.tail _ (List.Mem.tail _ (List.Mem.tail _ (List.Mem.tail _ (List.Mem.tail _ (List.Mem.tail _ (List.Mem.tail _ (List.Mem.tail _ (List.Mem.tail _ (List.Mem.tail _ (List.Mem.tail _ (List.Mem.tail _ (List.Mem.tail _ (List.Mem.tail _ ((List.mem_append_right _ hp))))))))))))))))))) | exact List.Mem.tail _ (List.Mem.tail _ (List.Mem.tail _ (List.Mem.tail _ (List.Mem.tail _ (List.Mem.tail _ (List.Mem.tail _ (List.Mem.tail _ (List.Mem.tail _ (List.Mem.tail _ (List.Mem.tail _ (List.Mem.tail _ (List.Mem.tail _ (List.Mem.tail _ (List.Mem.tail _ (List.Mem.tail _ (List.Mem.tail _ (List.Mem.tail _ (List.Mem.tail _ ((List.mem_append_right _ hp)))))))))))))))))))) | exact List.Mem.tail _ (List.Mem.tail _ (List.Mem.tail _ (List.Mem.tail _ (List.Mem.tail _ (List.Mem.tail _ (List.Mem.tail _ (List.Mem.tail _ (List.Mem.tail _ (List.Mem.tail _ (List.Mem.tail _ (List.Mem.tail _ (List.Mem.tail _ (List.Mem.tail _ (List.Mem.tail _ (List.Mem.tail _ (List.Mem.tail _ (List.Mem.tail _ (List.Mem.tail _ (List.Mem.tail _ ((List.mem_append_right _ hp))))))))))))))))))))) | exact List.Mem.tail _ (List.Mem.tail _ (List.Mem.tail _ (List.Mem.tail _ (List.Mem.tail _ (List.Mem.tail _ (List.Mem.tail _ (List.Mem.tail _ (List.Mem.tail _ (List.Mem.tail _ (List.Mem.tail _ (List.Mem.tail _ (List.Mem.tail _ (List.Mem.tail _ (List.Mem.tail _ (List.Mem.tail _ (List.Mem.tail _ (List.Mem.tail _ (List.Mem.tail _ (List.Mem.tail _ (List.Mem.tail _ ((List.mem_append_right _ hp)))))))))))))))))))))) | exact List.Mem.tail _ (List.Mem.tail _ (List.Mem.tail _ (List.Mem.tail _ (List.Mem.tail _ (List.Mem.tail _ (List.Mem.tail _ (List.Mem.tail _ (List.Mem.tail _ (List.Mem.tail _ (List.Mem.tail _ (List.Mem.tail _ (List.Mem.tail _ (List.Mem.tail _ (List.Mem.tail _ (List.Mem.tail _ (List.Mem.tail _ (List.Mem.tail _ (List.Mem.tail _ (List.Mem.tail _ (List.Mem.tail _ (List.Mem.tail _ ((List.mem_append_right _ hp))))))))))))))))))))))) | exact List.Mem.tail _ (List.Mem.tail _ (List.Mem.tail _ (List.Mem.tail _ (List.Mem.tail _ (List.Mem.tail _ (List.Mem.tail _ (List.Mem.tail _ (List.Mem.tail _ (List.Mem.tail _ (List.Mem.tail _ (List.Mem.tail _ (List.Mem.tail _ (List.Mem.tail _ (List.Mem.tail _ (List.Mem.tail _ (List.Mem.tail _ (List.Mem.tail _ (List.Mem.tail _ (List.Mem.tail _ (List.Mem.tail _ (List.Mem.tail _ (List.Mem.tail _ ((List.mem_append_right _ hp)))))))))))))))))))))))) | exact List.Mem.tail _ (List.Mem.tail _ (List.Mem.tail _ (List.Mem.tail _ (List.Mem.tail _ (List.Mem.tail _ (List.Mem.tail _ (List.Mem.tail _ (List.Mem.tail _ (List.Mem.tail _ (List.Mem.tail _ (List.Mem.tail _ (List.Mem.tail _ (List.Mem.tail _ (List.Mem.tail _ (List.Mem.tail _ (List.Mem.tail _ (List.Mem.tail _ (List.Mem.tail _ (List.Mem.tail _ (List.Mem.tail _ (List.Mem.tail _ (List.Mem.tail _ (List.Mem.tail _ ((List.mem_append_right _ hp))))))))))))))))))))))))) | exact List.Mem.tail _ (List.Mem.tail _ (List.Mem.tail _ (List.Mem.tail _ (List.Mem.tail _ (List.Mem.tail _ (List.Mem.tail _ (List.Mem.tail _ (List.Mem.tail _ (List.Mem.tail _ (List.Mem.tail _ (List.Mem.tail _ (List.Mem.tail _ (List.Mem.tail _ (List.Mem.tail _ (List.Mem.tail _ (List.Mem.tail _ (List.Mem.tail _ (List.Mem.tail _ (List.Mem.tail _ (List.Mem.tail _ (List.Mem.tail _ (List.Mem.tail _ (List.Mem.tail _ (List.Mem.tail _ ((List.mem_append_right _ hp)))))))))))))))))))))))))) | exact List.Mem.tail _ (List.Mem.tail _ (List.Mem.tail _ (List.Mem.tail _ (List.Mem.tail _ (List.Mem.tail _ (List.Mem.tail _ (List.Mem.tail _ (List.Mem.tail _ (List.Mem.tail _ (List.Mem.tail _ (List.Mem.tail _ (List.Mem.tail _ (List.Mem.tail _ (List.Mem.tail _ (List.Mem.tail _ (List.Mem.tail _ (List.Mem.tail _ (List.Mem.tail _ (List.Mem.tail _ (List.Mem.tail _ (List.Mem.tail _ (List.Mem.tail _ (List.Mem.tail _ (List.Mem.tail _ (List.Mem.tail _ ((List.mem_append_right _ hp))))))))))))))))))))))))))) | exact List.Mem.tail _ (List.Mem.tail _ (List.Mem.tail _ (List.Mem.tail _ (List.Mem.tail _ (List.Mem.tail _ (List.Mem.tail _ (List.Mem.tail _ (List.Mem.tail _ (List.Mem.tail _ (List.Mem.tail _ (List.Mem.tail _ (List.Mem.tail _ (List.Mem.tail _ (List.Mem.tail _ (List.Mem.tail _ (List.Mem.tail _ (List.Mem.tail _ (List.Mem.tail _ (List.Mem.tail _ (List.Mem.tail _ (List.Mem.tail _ (List.Mem.tail _ (List.Mem.tail _ (List.Mem.tail _ (List.Mem.tail _ (List.Mem.tail _ ((List.mem_append_right _ hp)))))))))))))))))))))))))))))) hoff7 (fun p hp => nomatch hp) (by (intro z h2 h3; (have hs0 : z ≠ Str.ofString "size" := by rintro rfl; exact absurd h3 (by decide)); (have hs1 : z ≠ Str.ofString "due" := by rintro rfl; exact absurd h3 (by decide)); simp only [kstB, h3, if_neg hs0, if_neg hs1, Bool.false_eq_true, if_false])) trivial
      case done3 =>
      intro c uq8 hq8 tkq8 _ Fm Nm
      (try k_unfold); (try dsimp only)
      repeat' ((fail_if_success (with_reducible show wpAny _ _ (exec (Stmt.While _ _ _ _) _) _ _ _)); (fail_if_success (with_reducible show wpAny _ _ (exec (Stmt.For _ _ _ _ _) _) _ _ _)); (fail_if_success (with_reducible show KswEnd _ _ _ _ _ _ _ _ _ _ _ _)); (fail_if_success (with_reducible show FcEnd _ _ _ _ _ _ _ _ _ _)); (fail_if_success (with_reducible show CutEnd _ _ _ _ _ _ _ _ _)); first | (k_unfold; (try dsimp only)) | (k_end; wrow_close) | ((with_reducible show wpAny _ _ (subscriptTail _ _ _ _) _ _ _); first | (k_here; (with_reducible show wpAny _ _ (subscriptTail (PySem.Expr.Name _ _) (PySem.Expr.Name _ _) (Value.ref _) (Value.int (Nat.cast _) _)) _ _ _); (refine item_lst (by k_asm) (by k_mem) (by exact rfl) (by decide) ?_)) | (k_here; (with_reducible show wpAny _ _ (subscriptTail (PySem.Expr.Subscript (PySem.Expr.Name _ _) (PySem.Expr.Name _ _) _) (PySem.Expr.Constant _ _ _) (Value.ref _) (Value.int _ _)) _ _ _); (refine item_tup (by k_asm) (by k_mem) (by decide) (by decide) (by exact rfl) (by exact rfl) ?_)) | (k_here; (with_reducible show wpAny _ _ (subscriptTail (PySem.Expr.Subscript (PySem.Expr.Subscript _ _ _) (PySem.Expr.Constant _ _ _) _) (PySem.Expr.BinOp _ _ _ _) (Value.ref _) (Value.int (HSub.hSub _ _) _)) _ _ _); (refine item_ints (by k_asm) (by k_mem) (by with_reducible assumption) (by omega) (by omega) (by omega) ?_); intro _) | with_reducible (k_here; (with_reducible show wpAny _ _ (subscriptTail _ (PySem.Expr.Slice _ _ _ _) (Value.str _ _) (Value.ref _)) _ _ _); kxi_slice; intro _ _ _ _ _) | with_reducible (k_here; (with_reducible show wpAny _ _ (subscriptTail _ (PySem.Expr.Slice (some _) (some _) none _) (Value.ref _) (Value.ref _)) _ _ _); k_dflt (refine' sliceRun (s := ⟨_, _, _, _, _⟩) ?F ?N ?m ?x ?y ?z ?_; (case F => k_asm); (case N => k_asm); (case m => k_mem); (case z => assumption); (case x => first | decide | omega); (case y => first | decide | omega)); intro _ _ _ _ l1; (try dsimp only [AllLt] at l1); (try k_sweep)) | with_reducible (k_here; (with_reducible show wpAny _ _ (subscriptTail _ (PySem.Expr.Slice none (some _) none _) (Value.ref _) (Value.ref _)) _ _ _); k_dflt (refine' sliceUpto (s := ⟨_, _, _, _, _⟩) ?F ?N ?m ?x ?z ?_; (case F => k_asm); (case N => k_asm); (case m => k_mem); (case z => assumption); (case x => first | decide | omega)); intro _ _ _ _ l1; (try dsimp only [AllLt] at l1); (try k_sweep)) | with_reducible (k_here; (with_reducible show wpAny _ _ (subscriptTail _ (PySem.Expr.Slice (some _) none none _) (Value.ref _) (Value.ref _)) _ _ _); k_dflt (refine' sliceFrom (s := ⟨_, _, _, _, _⟩) ?F ?N ?m ?x ?z ?_; (case F => k_asm); (case N => k_asm); (case m => k_mem); (case z => first | assumption | exact Nat.le_trans (Nat.le_of_eq (by assumption)) (by decide)); (case x => first | decide | omega)); intro _ _ _ _ l1; (try dsimp only [AllLt] at l1); (try k_sweep)) | with_reducible (k_here; (with_reducible show wpAny _ _ (subscriptTail (Expr.Constant _ _ _) _ (Value.str _ _) (Value.int _ _)) _ _ _); (refine cod_tail (by assumption) ?_ (by with_unfolding_all rfl) (by intro _; with_unfolding_all rfl)))) | walk1 | (dsimp only; walk1) | (leave1; try dsimp only))
      refine ofGenF hRR1 ?_
      (rename Fr _ _ _ _ => F5); (rename News _ _ _ _ => N5)
      subst hRX
      subst hown
      refine fgEnd (tb2, oS, some (.int (i : Int) tI)) F5 N5 (by (try simp only [List.cons_append, List.nil_append]); (repeat (first | exact (fun p hp => by (first | exact (List.mem_append_left _ hp) | exact List.Mem.tail _ ((List.mem_append_left _ hp)) | exact List.Mem.tail _ (List.Mem.tail _ ((List.mem_append_left _ hp))) | exact List.Mem.tail _ (List.Mem.tail _ (List.Mem.tail _ ((List.mem_append_left _ hp)))) | exact List.Mem.tail _ (List.Mem.tail _ (List.Mem.tail _ (List.Mem.tail _ ((List.mem_append_left _ hp))))) | exact List.Mem.tail _ (List.Mem.tail _ (List.Mem.tail _ (List.Mem.tail _ (List.Mem.tail _ ((List.mem_append_left _ hp)))))) | exact List.Mem.tail _ (List.Mem.tail _ (List.Mem.tail _ (List.Mem.tail _ (List.Mem.tail _ (List.Mem.tail _ ((List.mem_append_left _ hp))))))) | exact List.Mem.tail _ (List.Mem.tail _ (List.Mem.tail _ (List.Mem.tail _ (List.Mem.tail _ (List.Mem.tail _ (List.Mem.tail _ ((List.mem_append_left _ hp)))))))) | exact List.Mem.tail _ (List.Mem.tail _ (List.Mem.tail _ (List.Mem.tail _ (List.Mem.tail _ (List.Mem.tail _ (List.Mem.tail _ (List.Mem.tail _ ((List.mem_append_left _ hp))))))))) | exact List.Mem.tail _ (List.Mem.tail _ (List.Mem.tail _ (List.Mem.tail _ (List.Mem.tail _ (List.Mem.tail _ (List.Mem.tail _ (List.Mem.tail _ (List.Mem.tail _ ((List.mem_append_left _ hp)))))))))) | exact List.Mem.tail _ (List.Mem.tail _ (List.Mem.tail _ (List.Mem.tail _ (List.Mem.tail _ (List.Mem.tail _ (List.Mem.tail _ (List.Mem.tail _ (List.Mem.tail _ (List.Mem.tail _ ((List.mem_append_left _ hp))))))))))) | exact List.Mem.tail _ (List.Mem.tail _ (List.Mem.tail _ (List.Mem.tail _ (List.Mem.tail _ (List.Mem.tail _ (List.Mem.tail _ (List.Mem.tail _ (List.Mem.tail _ (List.Mem.tail _ (List.Mem.tail _ ((List.mem_append_left _ hp)))))))))))) | exact List.Mem.tail _ (List.Mem.tail _ (List.Mem.tail _ (List.Mem.tail _ (List.Mem.tail _ (List.Mem.tail _ (List.Mem.tail _ (List.Mem.tail _ (List.Mem.tail _ (List.Mem.tail _ (List.Mem.tail _ (List.Mem.tail _ ((List.mem_append_left _ hp))))))))))))) | exact List.Mem.tail _ (List.Mem.tail _ (List.Mem.tail _ (List.Mem.tail _ (List.Mem.tail _ (List.Mem.tail _ (List.Mem.tail _ (List.Mem.tail _ (List.Mem.tail _ (List.Mem.tail _ (List.Mem.tail _ (List.Mem.tail _ (List.Mem.tail _ ((List.mem_append_left _ hp)))))))))))))) | exact List.Mem.tail _ (List.Mem.tail _ (List.Mem.tail _ (List.Mem.tail _ (List.Mem.tail _ (List.Mem.tail _ (List.Mem.tail _ (List.Mem.tail _ (List.Mem.tail _ (List.Mem.tail _ (List.Mem.tail _ (List.Mem.tail _ (List.Mem.tail _ (List.Mem.tail _ ((List.mem_append_left _ hp))))))))))))))) | exact List.Mem.tail _ (List.Mem.tail _ (List.Mem.tail _ (List.Mem.tail _ (List.Mem.tail _ (List.Mem.tail _ (List.Mem.tail _ (List.Mem.tail _ (List.Mem.tail _ (List.Mem.tail _ (List.Mem.tail _ (List.Mem.tail _ (List.Mem.tail _ (List.Mem.tail _ (List.Mem.tail _ ((List.mem_append_left _ hp)))))))))))))))) | exact List.Mem.tail _ (List.Mem.tail _ (List.Mem.tail _ (List.Mem.tail _ (List.Mem.tail _ (List.Mem.tail _ (List.Mem.tail _ (List.Mem.tail _ (List.Mem.tail _ (List.Mem.tail _ (List.Mem.tail _ (List.Mem.tail _ (List.Mem.tail _ (List.Mem.tail _ (List.Mem.tail _ (List.Mem.tail _ ((List.mem_append_left _ hp))))))))))))))))) | exact List.Mem.tail _ (List.Mem.tail _ (List.Mem.tail _ (List.Mem.tail _ (List.Mem.tail _ (List.Mem.tail _ (List.Mem.tail _ (List.Mem.tail _ (List.Mem.tail _ (List.Mem.tail _ (List.Mem.tail _ (List.Mem.tail _ (List.Mem.tail _ (List.Mem.tail _ (List.Mem.tail _ (List.Mem.tail _ (List.Mem.tail _ ((List.mem_append_left _ hp)))))))))))))))))) | exact List.Mem.tail _ (List.Mem.tail _ (List.Mem.tail _ (List.Mem.tail _ (List.Mem.tail _ (List.Mem.tail _ (List.Mem.tail _ (List.Mem.tail _ (List.Mem.tail _ (List.Mem.tail _ (List.Mem.tail _ (List.Mem.tail _ (List.Mem.tail _ (List.Mem.tail _ (List.Mem.tail _ (List.Mem.tail _ (List.Mem.tail _ (List.Mem.tail _ ((List.mem_append_left _ hp))))))))))))))))))) | exact List.Mem.tail _ (List.Mem.tail _ (List.Mem.tail _ (List.Mem.tail _ (List.Mem.tail _ (List.Mem.tail _ (List.Mem.tail _ (List.Mem.tail _ (List.Mem.tail _ (List.Mem.tail _ (List.Mem.tail _ (List.Mem.tail _ (List.Mem.tail _ (List.Mem.tail _ (List.Mem.tail _ (List.Mem.tail _ (List.Mem.tail _ (List.Mem.tail _ (List.Mem.tail _ ((List.mem_append_left _ hp)))))))))))))))))))) | exact List.Mem.tail _ (List.Mem.tail _ (List.Mem.tail _ (List.Mem.tail _ (List.Mem.tail _ (List.Mem.tail _ (List.Mem.tail _ (List.Mem.tail _ (List.Mem.tail _ (List.Mem.tail _ (List.Mem.tail _ (List.Mem.tail _ (List.Mem.tail _ (List.Mem.tail _ (List.Mem.tail _ (List.Mem.tail _ (List.Mem.tail _ (List.Mem.tail _ (List.Mem.tail _ (List.Mem.tail _ ((List.mem_append_left _ hp))))))))))))))))))))) | exact List.Mem.tail _ (List.Mem.tail _ (List.Mem.tail _ (List.Mem.tail _ (List.Mem.tail _ (List.Mem.tail _ (List.Mem.tail _ (List.Mem.tail _ (List.Mem.tail _ (List.Mem.tail _ (List.Mem.tail _ (List.Mem.tail _ (List.Mem.tail _ (List.Mem.tail _ (List.Mem.tail _ (List.Mem.tail _ (List.Mem.tail _ (List.Mem.tail _ (List.Mem.tail _ (List.Mem.tail _ (List.Mem.tail _ ((List.mem_append_left _ hp)))))))))))))))))))))) | exact List.Mem.tail _ (List.Mem.tail _ (List.Mem.tail _ (List.Mem.tail _ (List.Mem.tail _ (List.Mem.tail _ (List.Mem.tail _ (List.Mem.tail _ (List.Mem.tail _ (List.Mem.tail _ (List.Mem.tail _ (List.Mem.tail _ (List.Mem.tail _ (List.Mem.tail _ (List.Mem.tail _ (List.Mem.tail _ (List.Mem.tail _ (List.Mem.tail _ (List.Mem.tail _ (List.Mem.tail _ (List.Mem.tail _ (List.Mem.tail _ ((List.mem_append_left _ hp))))))))))))))))))))))) | exact List.Mem.tail _ (List.Mem.tail _ (List.Mem.tail _ (List.Mem.tail _ (List.Mem.tail _ (List.Mem.tail _ (List.Mem.tail _ (List.Mem.tail _ (List.Mem.tail _ (List.Mem.tail _ (List.Mem.tail _ (List.Mem.tail _ (List.Mem.tail _ (List.Mem.tail _ (List.Mem.tail _ (List.Mem.tail _ (List.Mem.tail _ (List.Mem.tail _ (List.Mem.tail _ (List.Mem.tail _ (List.Mem.tail _ (List.Mem.tail _ (List.Mem.tail _ ((List.mem_append_left _ hp)))))))))))))))))))))))))) | refine fmem (by k_mem) ?_))) (fun p hp => by (first | exact (List.mem_append_right _ hp) | exact List.Mem.tail _ ((List.mem_append_right _ hp)) | exact List.Mem.tail _ (List.Mem.tail _ ((List.mem_append_right _ hp))) | exact List.Mem.tail _ (List.Mem.tail _ (List.Mem.tail _ ((List.mem_append_right _ hp)))) | exact List.Mem.tail _ (List.Mem.tail _ (List.Mem.tail _ (List.Mem.tail _ ((List.mem_append_right _ hp))))) | exact List.Mem.tail _ (List.Mem.tail _ (List.Mem.tail _ (List.Mem.tail _ (List.Mem.tail _ ((List.mem_append_right _ hp)))))) | exact List.Mem.tail _ (List.Mem.tail _ (List.Mem.tail _ (List.Mem.tail _ (List.Mem.tail _ (List.Mem.tail _ ((List.mem_append_right _ hp))))))) | exact List.Mem.tail _ (List.Mem.tail _ (List.Mem.tail _ (List.Mem.tail _ (List.Mem.tail _ (List.Mem.tail _ (List.Mem.tail _ ((List.mem_append_right _ hp)))))))) | exact List.Mem.tail _ (List.Mem.tail _ (List.Mem.tail _ (List.Mem.tail _ (List.Mem.tail _ (List.Mem.tail _ (List.Mem.tail _ (List.Mem.tail _ ((List.mem_append_right _ hp))))))))) | exact List.Mem.tail _ (List.Mem.tail _ (List.Mem.tail _ (List.Mem.tail _ (List.Mem.tail _ (List.Mem.tail _ (List.Mem.tail _ (List.Mem.tail _ (List.Mem.tail _ ((List.mem_append_right _ hp)))))))))) | exact List.Mem.tail _ (List.Mem.tail _ (List.Mem.tail _ (List.Mem.tail _ (List.Mem.tail _ (List.Mem.tail _ (List.Mem.tail _ (List.Mem.tail _ (List.Mem.tail _ (List.Mem.tail _ ((List.mem_append_right _ hp))))))))))) | exact List.Mem.tail _ (List.Mem.tail _ (List.Mem.tail _ (List.Mem.tail _ (List.Mem.tail _ (List.Mem.tail _ (List.Mem.tail _ (List.Mem.tail _ (List.Mem.tail _ (List.Mem.tail _ (List.Mem.tail _ ((List.mem_append_right _ hp)))))))))))) | exact List.Mem.tail _ (List.Mem.tail _ (List.Mem.tail _ (List.Mem.tail _ (List.Mem.tail _ (List.Mem.tail _ (List.Mem.tail _ (List.Mem.tail _ (List.Mem.tail _ (List.Mem.tail _ (List.Mem.tail _ (List.Mem.tail _ ((List.mem_append_right _ hp))))))))))))) | exact List.Mem.tail _ (List.Mem.tail _ (List.Mem.tail _ (List.Mem.tail _ (List.Mem.tail _ (List.Mem.tail _ (List.Mem.tail _ (List.Mem.tail _ (List.Mem.tail _ (List.Mem.tail _ (List.Mem.tail _ (List.Mem.tail _ (List.Mem.tail _ ((List.mem_append_right _ hp)))))))))))))) | exact List.Mem.tail _ (List.Mem.tail _ (List.Mem.tail _ (List.Mem.tail _ (List.Mem.tail _ (List.Mem.tail _ (List.Mem.tail _ (List.Mem.tail _ (List.Mem.tail _ (List.Mem.tail _ (List.Mem.tail _ (List.Mem.tail _ (List.Mem.tail _ (List.Mem.tail _ ((List.mem_append_right _ hp))))))))))))))) | exact List.Mem.tail _ (List.Mem.tail _ (List.Mem.tail _ (List.Mem.tail _ (List.Mem.tail _ (List.Mem.tail _ (List.Mem.tail _ (List.Mem.tail _ (List.Mem.tail _ (List.Mem.tail _ (List.Mem.tail _ (List.Mem.tail _ (List.Mem.tail _ (List.Mem.tail _ (List.Mem.tail _ ((List.mem_append_right _ hp)))))))))))))))) | exact List.Mem.tail _ (List.Mem.tail _ (List.Mem.tail _ (List.Mem.tail _ (List.Mem.tail _ (List.Mem.tail _ (List.Mem.tail _ (List.Mem.tail _ (List.Mem.tail _ (List.Mem.tail _ (List.Mem.tail _ (List.Mem.tail _ (List.Mem.tail _ (List.Mem.tail _ (List.Mem.tail _ (List.Mem.tail _ ((List.mem_append_right _ hp))))))))))))))))) | exact List.Mem.tail _ (List.Mem.tail _ (List.Mem.tail _ (List.Mem.tail _ (List.Mem.tail _ (List.Mem.tail _ (List.Mem.tail _ (List.Mem.tail _ (List.Mem.tail _ (List.Mem.tail _ (List.Mem.tail _ (List.Mem.tail _ (List.Mem.tail _ (List.Mem.tail _ (List.Mem.tail _ (List.Mem.tail _ (List.Mem.tail _ ((List.mem_append_right _ hp)))))))))))))))))) | exact List.Mem.tail _ (List.Mem.tail _ (List.Mem.tail _ (List.Mem.tail _ (List.Mem.tail _ (List.Mem.tail _ (List.Mem.tail _ (List.Mem.tail _ (List.Mem.tail _ (List.Mem.tail _ (List.Mem.tail _ (List.Mem.tail _ (List.Mem.tail _ (List.Mem.tail _ (List.Mem.tail _ (List.Mem.tail _ (List.Mem.tail _ (List.Mem.tail _ ((List.mem_append_right _ hp))))))))))))))))))) | exact List.Mem.tail _ (List.Mem.tail _ (List.Mem.tail _ (List.Mem.tail _ (List.Mem.tail _ (List.Mem.tail _ (List.Mem.tail _ (List.Mem.tail _ (List.Mem.tail _ (List.Mem.tail _ (List.Mem.tail _ (List.Mem.tail _ (List.Mem.tail _ (List.Mem.tail _ (List.Mem.tail _ (List.Mem.tail _ (List.Mem.tail _ (List.Mem.tail _ (List.Mem.tail _ ((List.mem_append_right _ hp)))))))))))))))))))) | exact List.Mem.tail _ (List.Mem.tail _ (List.Mem.tail _ (List.Mem.tail _ (List.Mem.tail _ (List.Mem.tail _ (List.Mem.tail _ (List.Mem.tail _ (List.Mem.tail _ (List.Mem.tail _ (List.Mem.tail _ (List.Mem.tail _ (List.Mem.tail _ (List.Mem.tail _ (List.Mem.tail _ (List.Mem.tail _ (List.Mem.tail _ (List.Mem.tail _ (List.Mem.tail _ (List.Mem.tail _ ((List.mem_append_right _ hp))))))))))))))))))))) | exact List.Mem.tail _ (List.Mem.tail _ (List.Mem.tail _ (List.Mem.tail _ (List.Mem.tail _ (List.Mem.tail _ (List.Mem.tail _ (List.Mem.tail _ (List.Mem.tail _ (List.Mem.tail _ (List.Mem.tail _ (List.Mem.tail _ (List.Mem.tail _ (List.Mem.tail _ (List.Mem.tail _ (List.Mem.tail _ (List.Mem.tail _ (List.Mem.tail _ (List.Mem.tail _ (List.Mem.tail _ (List.Mem.tail _ ((List.mem_append_right _ hp)))))))))))))))))))))) | exact List.Mem.tail _ (List.Mem.tail _ (List.Mem.tail _ (List.Mem.tail _ (List.Mem.tail _ (List.Mem.tail _ (List.Mem.tail _ (List.Mem.tail _ (List.Mem.tail _ (List.Mem.tail _ (List.Mem.tail _ (List.Mem.tail _ (List.Mem.tail _ (List.Mem.tail _ (List.Mem.tail _ (List.Mem.tail _ (List.Mem.tail _ (List.Mem.tail _ (List.Mem.tail _ (List.Mem.tail _ (List.Mem.tail _ (List.Mem.tail _ ((List.mem_append_right _ hp))))))))))))))))))))))) | exact List.Mem.tail _ (List.Mem.tail _ (List.Mem.tail _ (List.Mem.tail _ (List.Mem.tail _ (List.Mem.tail _ (List.Mem.tail _ (List.Mem.tail _ (List.Mem.tail _ (List.Mem.tail _ (List.Mem.tail _ (List.Mem.tail _ (List.Mem.tail _ (List.Mem.tail _ (List.Mem.tail _ (List.Mem.tail _ (List.Mem.tail _ (List.Mem.tail _ (List.Mem.tail _ (List.Mem.tail _ (List.Mem.tail _ (List.Mem.tail _ (List.Mem.tail _ ((List.mem_append_right _ hp)))))))))))))))))))))))) | exact List.Mem.tail _ (List.Mem.tail _ (List.Mem.tail _ (List.Mem.tail _ (List.Mem.tail _ (List.Mem.tail _ (List.Mem.tail _ (List.Mem.tail _ (List.Mem.tail _ (List.Mem.tail _ (List.Mem.tail _ (List.Mem.tail _ (List.Mem.tail _ (List.Mem.tail _ (List.Mem.tail _ (List.Mem.tail _ (List.Mem.tail _ (List.Mem.tail _ (List.Mem.tail _ (List.Mem.tail _ (List.Mem.tail _ (List.Mem.tail _ (List.Mem.tail _ (List.Mem.tail _ ((List.mem_append_right _ hp))))))))))))))))))))))))) | exact List.Mem.tail _ (List.Mem.tail _ (List.Mem.tail _ (List.Mem.tail _ (List.Mem.tail _ (List.Mem.tail _ (List.Mem.tail _ (List.Mem.tail _ (List.Mem.tail _ (List.Mem.tail _ (List.Mem.tail _ (List.Mem.tail _ (List.Mem.tail _ (List.Mem.tail _ (List.Mem.tail _ (List.Mem.tail _ (List.Mem.tail _ (List.Mem.tail _ (List.Mem.tail _ (List.Mem.tail _ (List.Mem.tail _ (List.Mem.tail _ (List.Mem.tail _ (List.Mem.tail _ (List.Mem.tail _ ((List.mem_append_right _ hp)))))))))))))))))))))))))) | exact List.Mem.tail _ (List.Mem.tail _ (List.Mem.tail _ (List.Mem.tail _ (List.Mem.tail _ (List.Mem.tail _ (List.Mem.tail _ (List.Mem.tail _ (List.Mem.tail _ (List.Mem.tail _ (List.Mem.tail _ (List.Mem.tail _ (List.Mem.tail _ (List.Mem.tail _ (List.Mem.tail _ (List.Mem.tail _ (List.Mem.tail _ (List.Mem.tail _ (List.Mem.tail _ (List.Mem.tail _ (List.Mem.tail _ (List.Mem.tail _ (List.Mem.tail _ (List.Mem.tail _ (List.Mem.tail _ (List.Mem.tail _ ((List.mem_append_right _ hp))))))))))))))))))))))))))) | exact List.Mem.tail _ (List.Mem.tail _ (List.Mem.tail _ (List.Mem.tail _ (List.Mem.tail _ (List.Mem.tail _ (List.Mem.tail _ (List.Mem.tail _ (List.Mem.tail _ (List.Mem.tail _ (List.Mem.tail _ (List.Mem.tail _ (List.Mem.tail _ (List.Mem.tail _ (List.Mem.tail _ (List.Mem.tail _ (List.Mem.tail _ (List.Mem.tail _ (List.Mem.tail _ (List.Mem.tail _ (List.Mem.tail _ (List.Mem.tail _ (List.Mem.tail _ (List.Mem.tail _ (List.Mem.tail _ (List.Mem.tail _ (List.Mem.tail _ ((List.mem_append_right _ hp)))))))))))))))))))))))))))))) (offApp hoffB hO2) (fun p hp => nomatch hp) (by (intro z h2 h3; (have hs0 : z ≠ Str.ofString "state" := by rintro rfl; exact absurd h3 (by decide)); (have hs1 : z ≠ Str.ofString "carried" := by rintro rfl; exact absurd h3 (by decide)); (have hs2 : z ≠ Str.ofString "digits" := by rintro rfl; exact absurd h3 (by decide)); (have hs3 : z ≠ Str.ofString "noughts" := by rintro rfl; exact absurd h3 (by decide)); (have hs4 : z ≠ Str.ofString "count" := by rintro rfl; exact absurd h3 (by decide)); (have hs5 : z ≠ Str.ofString "ones" := by rintro rfl; exact absurd h3 (by decide)); (have hs6 : z ≠ Str.ofString "end" := by rintro rfl; exact absurd h3 (by decide)); (have hs7 : z ≠ Str.ofString "due" := by rintro rfl; exact absurd h3 (by decide)); (have hs8 : z ≠ Str.ofString "size" := by rintro rfl; exact absurd h3 (by decide)); (have hc0 : [Str.ofString "end", Str.ofString "due"].contains z = false := by simp only [List.contains_cons, List.contains_nil, beq_eq_false_iff_ne.mpr hs6, beq_eq_false_iff_ne.mpr hs7, Bool.or_false]); (have hc1 : [Str.ofString "size", Str.ofString "due"].contains z = false := by simp only [List.contains_cons, List.contains_nil, beq_eq_false_iff_ne.mpr hs8, beq_eq_false_iff_ne.mpr hs7, Bool.or_false]); simp only [kstB, h3, List.contains_nil, hc0, hc1, if_neg hs0, if_neg hs1, if_neg hs2, if_neg hs3, if_neg hs4, if_neg hs5, if_neg hs6, if_neg hs7, if_neg hs8, Bool.false_eq_true, if_false])) ⟨dS, hT2⟩
  case done =>
  refine all_1_1_1 ?_; intro tb oT2 vT u h tk hP F8 N8
  refine exE (tabL_ps 30 53 4 tb) ?_; intro ps30 hps30
  have N95 : News _ _ _ [(37, tabObj ps37), (30, tabObj ps30), (81, tabObj ps81)] := fmem (N8 _ (by k_mem)) (fmem (N8 _ (List.Mem.tail _ (List.mem_append_right _ hps30))) (fmem (N8 _ (by k_mem)) (List.forall_mem_nil _)))
  clear N8 hps30 hP
  repeat' ((fail_if_success (with_reducible show wpAny _ _ (exec (Stmt.While _ _ _ _) _) _ _ _)); (fail_if_success (with_reducible show wpAny _ _ (exec (Stmt.For _ _ _ _ _) _) _ _ _)); (fail_if_success (with_reducible show KswEnd _ _ _ _ _ _ _ _ _ _ _ _)); (fail_if_success (with_reducible show FcEnd _ _ _ _ _ _ _ _ _ _)); (fail_if_success (with_reducible show CutEnd _ _ _ _ _ _ _ _ _)); first | (k_unfold; (try dsimp only)) | (k_end; wrow_close) | ((with_reducible show wpAny _ _ (subscriptTail _ _ _ _) _ _ _); first | (k_here; (with_reducible show wpAny _ _ (subscriptTail (PySem.Expr.Name _ _) (PySem.Expr.Name _ _) (Value.ref _) (Value.int (Nat.cast _) _)) _ _ _); (refine item_lst (by k_asm) (by k_mem) (by exact rfl) (by decide) ?_)) | (k_here; (with_reducible show wpAny _ _ (subscriptTail (PySem.Expr.Subscript (PySem.Expr.Name _ _) (PySem.Expr.Name _ _) _) (PySem.Expr.Constant _ _ _) (Value.ref _) (Value.int _ _)) _ _ _); (refine item_tup (by k_asm) (by k_mem) (by decide) (by decide) (by exact rfl) (by exact rfl) ?_)) | (k_here; (with_reducible show wpAny _ _ (subscriptTail (PySem.Expr.Subscript (PySem.Expr.Subscript _ _ _) (PySem.Expr.Constant _ _ _) _) (PySem.Expr.BinOp _ _ _ _) (Value.ref _) (Value.int (HSub.hSub _ _) _)) _ _ _); (refine item_ints (by k_asm) (by k_mem) (by with_reducible assumption) (by omega) (by omega) (by omega) ?_); intro _) | with_reducible (k_here; (with_reducible show wpAny _ _ (subscriptTail _ (PySem.Expr.Slice _ _ _ _) (Value.str _ _) (Value.ref _)) _ _ _); kxi_slice; intro _ _ _ _ _) | with_reducible (k_here; (with_reducible show wpAny _ _ (subscriptTail _ (PySem.Expr.Slice (some _) (some _) none _) (Value.ref _) (Value.ref _)) _ _ _); k_dflt (refine' sliceRun (s := ⟨_, _, _, _, _⟩) ?F ?N ?m ?x ?y ?z ?_; (case F => k_asm); (case N => k_asm); (case m => k_mem); (case z => assumption); (case x => first | decide | omega); (case y => first | decide | omega)); intro _ _ _ _ l1; (try dsimp only [AllLt] at l1); (try k_sweep)) | with_reducible (k_here; (with_reducible show wpAny _ _ (subscriptTail _ (PySem.Expr.Slice none (some _) none _) (Value.ref _) (Value.ref _)) _ _ _); k_dflt (refine' sliceUpto (s := ⟨_, _, _, _, _⟩) ?F ?N ?m ?x ?z ?_; (case F => k_asm); (case N => k_asm); (case m => k_mem); (case z => assumption); (case x => first | decide | omega)); intro _ _ _ _ l1; (try dsimp only [AllLt] at l1); (try k_sweep)) | with_reducible (k_here; (with_reducible show wpAny _ _ (subscriptTail _ (PySem.Expr.Slice (some _) none none _) (Value.ref _) (Value.ref _)) _ _ _); k_dflt (refine' sliceFrom (s := ⟨_, _, _, _, _⟩) ?F ?N ?m ?x ?z ?_; (case F => k_asm); (case N => k_asm); (case m => k_mem); (case z => first | assumption | exact Nat.le_trans (Nat.le_of_eq (by assumption)) (by decide)); (case x => first | decide | omega)); intro _ _ _ _ l1; (try dsimp only [AllLt] at l1); (try k_sweep)) | with_reducible (k_here; (with_reducible show wpAny _ _ (subscriptTail (Expr.Constant _ _ _) _ (Value.str _ _) (Value.int _ _)) _ _ _); (refine cod_tail (by assumption) ?_ (by with_unfolding_all rfl) (by intro _; with_unfolding_all rfl)))) | walk1 | (dsimp only; walk1) | (leave1; try dsimp only))
  refine ofGen hRR0 ?_
  refine ⟨?_, ?_⟩
  · kc_bool
    refine goodW_bool (by with_reducible assumption) (by with_reducible assumption) (raisesW_false ?_) ?_
    · wrow_none_raised
    · refine postW_of (by wrow_shape) (w_eq_bool (w_res rfl) w_lit) ?_
      first | rfl | decide
  · repeat' ((fail_if_success (with_reducible show wpAny _ _ (exec (Stmt.While _ _ _ _) _) _ _ _)); (fail_if_success (with_reducible show wpAny _ _ (exec (Stmt.For _ _ _ _ _) _) _ _ _)); (fail_if_success (with_reducible show KswEnd _ _ _ _ _ _ _ _ _ _ _ _)); (fail_if_success (with_reducible show FcEnd _ _ _ _ _ _ _ _ _ _)); (fail_if_success (with_reducible show CutEnd _ _ _ _ _ _ _ _ _)); first | (k_unfold; (try dsimp only)) | (k_end; wrow_close) | ((with_reducible show wpAny _ _ (subscriptTail _ _ _ _) _ _ _); first | (k_here; (with_reducible show wpAny _ _ (subscriptTail (PySem.Expr.Name _ _) (PySem.Expr.Name _ _) (Value.ref _) (Value.int (Nat.cast _) _)) _ _ _); (refine item_lst (by k_asm) (by k_mem) (by exact rfl) (by decide) ?_)) | (k_here; (with_reducible show wpAny _ _ (subscriptTail (PySem.Expr.Subscript (PySem.Expr.Name _ _) (PySem.Expr.Name _ _) _) (PySem.Expr.Constant _ _ _) (Value.ref _) (Value.int _ _)) _ _ _); (refine item_tup (by k_asm) (by k_mem) (by decide) (by decide) (by exact rfl) (by exact rfl) ?_)) | (k_here; (with_reducible show wpAny _ _ (subscriptTail (PySem.Expr.Subscript (PySem.Expr.Subscript _ _ _) (PySem.Expr.Constant _ _ _) _) (PySem.Expr.BinOp _ _ _ _) (Value.ref _) (Value.int (HSub.hSub _ _) _)) _ _ _); (refine item_ints (by k_asm) (by k_mem) (by with_reducible assumption) (by omega) (by omega) (by omega) ?_); intro _) | with_reducible (k_here; (with_reducible show wpAny _ _ (subscriptTail _ (PySem.Expr.Slice _ _ _ _) (Value.str _ _) (Value.ref _)) _ _ _); kxi_slice; intro _ _ _ _ _) | with_reducible (k_here; (with_reducible show wpAny _ _ (subscriptTail _ (PySem.Expr.Slice (some _) (some _) none _) (Value.ref _) (Value.ref _)) _ _ _); k_dflt (refine' sliceRun (s := ⟨_, _, _, _, _⟩) ?F ?N ?m ?x ?y ?z ?_; (case F => k_asm); (case N => k_asm); (case m => k_mem); (case z => assumption); (case x => first | decide | omega); (case y => first | decide | omega)); intro _ _ _ _ l1; (try dsimp only [AllLt] at l1); (try k_sweep)) | with_reducible (k_here; (with_reducible show wpAny _ _ (subscriptTail _ (PySem.Expr.Slice none (some _) none _) (Value.ref _) (Value.ref _)) _ _ _); k_dflt (refine' sliceUpto (s := ⟨_, _, _, _, _⟩) ?F ?N ?m ?x ?z ?_; (case F => k_asm); (case N => k_asm); (case m => k_mem); (case z => assumption); (case x => first | decide | omega)); intro _ _ _ _ l1; (try dsimp only [AllLt] at l1); (try k_sweep)) | with_reducible (k_here; (with_reducible show wpAny _ _ (subscriptTail _ (PySem.Expr.Slice (some _) none none _) (Value.ref _) (Value.ref _)) _ _ _); k_dflt (refine' sliceFrom (s := ⟨_, _, _, _, _⟩) ?F ?N ?m ?x ?z ?_; (case F => k_asm); (case N => k_asm); (case m => k_mem); (case z => first | assumption | exact Nat.le_trans (Nat.le_of_eq (by assumption)) (by decide)); (case x => first | decide | omega)); intro _ _ _ _ l1; (try dsimp only [AllLt] at l1); (try k_sweep)) | with_reducible (k_here; (with_reducible show wpAny _ _ (subscriptTail (Expr.Constant _ _ _) _ (Value.str _ _) (Value.int _ _)) _ _ _); (refine cod_tail (by assumption) ?_ (by with_unfolding_all rfl) (by intro _; with_unfolding_all rfl)))) | walk1 | (dsimp only; walk1) | (leave1; try dsimp only))
  )
end Mine
end PartLawM
end Ov
theorem PySem.Challenge.cw_pu0036_01_holds : PySem.Challenge.rw_pu0036_01.Holds :=
  Mine.lawX
