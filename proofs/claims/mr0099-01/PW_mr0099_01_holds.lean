import PyProof.Rows.All
import Wide.All
import OpenK.AllK
import Wide.FinOn
import PySem.Challenge.RW_mr0099_01
open PySem PySem.W PyProof.Rows
set_option Elab.async false
set_option maxRecDepth 100000
set_option compiler.extract_closed false
section
open PySem PySem.W PyProof.Rows
namespace Mine
set_option maxHeartbeats 8000000 in
open_top hd for PySem.Challenge.rw_mr0099_01
end Mine
end
section
open PySem PySem.W PyProof.Rows PySem.Spec PySem.Calls
namespace Mine
theorem fac {α : Type} {P : α → Prop} {a : α} {l : List α} (h : P a) (t : ∀ x ∈ l, P x) : ∀ x ∈ a :: l, P x := List.forall_mem_cons.mpr ⟨h, t⟩
theorem off_addr {D : Addr} {l l' : List (Addr × Obj)} (h : ∀ p ∈ l, p.1 ≠ D) (e : l'.map (·.1) = l.map (·.1)) : ∀ p ∈ l', p.1 ≠ D := fun p hp q => by
  have hm : p.1 ∈ l.map (·.1) := e ▸ List.mem_map_of_mem hp
  obtain ⟨r, hr, he⟩ := List.mem_map.mp hm
  exact h r hr (he.trans q)
theorem and2 {a0 a1 g : Prop} (h : a0 ∧ a1) (k : a0 → a1 → g) : g := k h.1 h.2
theorem and3 {a0 a1 a2 g : Prop} (h : a0 ∧ a1 ∧ a2) (k : a0 → a1 → a2 → g) : g := k h.1 h.2.1 h.2.2
theorem and4 {a0 a1 a2 a3 g : Prop} (h : a0 ∧ a1 ∧ a2 ∧ a3) (k : a0 → a1 → a2 → a3 → g) : g := k h.1 h.2.1 h.2.2.1 h.2.2.2
theorem and5 {a0 a1 a2 a3 a4 g : Prop} (h : a0 ∧ a1 ∧ a2 ∧ a3 ∧ a4) (k : a0 → a1 → a2 → a3 → a4 → g) : g := k h.1 h.2.1 h.2.2.1 h.2.2.2.1 h.2.2.2.2
theorem and6 {a0 a1 a2 a3 a4 a5 g : Prop} (h : a0 ∧ a1 ∧ a2 ∧ a3 ∧ a4 ∧ a5) (k : a0 → a1 → a2 → a3 → a4 → a5 → g) : g := k h.1 h.2.1 h.2.2.1 h.2.2.2.1 h.2.2.2.2.1 h.2.2.2.2.2
theorem and7 {a0 a1 a2 a3 a4 a5 a6 g : Prop} (h : a0 ∧ a1 ∧ a2 ∧ a3 ∧ a4 ∧ a5 ∧ a6) (k : a0 → a1 → a2 → a3 → a4 → a5 → a6 → g) : g := k h.1 h.2.1 h.2.2.1 h.2.2.2.1 h.2.2.2.2.1 h.2.2.2.2.2.1 h.2.2.2.2.2.2
theorem and8 {a0 a1 a2 a3 a4 a5 a6 a7 g : Prop} (h : a0 ∧ a1 ∧ a2 ∧ a3 ∧ a4 ∧ a5 ∧ a6 ∧ a7) (k : a0 → a1 → a2 → a3 → a4 → a5 → a6 → a7 → g) : g := k h.1 h.2.1 h.2.2.1 h.2.2.2.1 h.2.2.2.2.1 h.2.2.2.2.2.1 h.2.2.2.2.2.2.1 h.2.2.2.2.2.2.2
theorem and9 {a0 a1 a2 a3 a4 a5 a6 a7 a8 g : Prop} (h : a0 ∧ a1 ∧ a2 ∧ a3 ∧ a4 ∧ a5 ∧ a6 ∧ a7 ∧ a8) (k : a0 → a1 → a2 → a3 → a4 → a5 → a6 → a7 → a8 → g) : g := k h.1 h.2.1 h.2.2.1 h.2.2.2.1 h.2.2.2.2.1 h.2.2.2.2.2.1 h.2.2.2.2.2.2.1 h.2.2.2.2.2.2.2.1 h.2.2.2.2.2.2.2.2
theorem p0 {a r : Prop} (h : a ∧ r) : a := h.1
theorem p1 {a0 a1 r : Prop} (h : a0 ∧ a1 ∧ r) : a1 := h.2.1
theorem p2 {a0 a1 a2 r : Prop} (h : a0 ∧ a1 ∧ a2 ∧ r) : a2 := h.2.2.1
theorem p3 {a0 a1 a2 a3 r : Prop} (h : a0 ∧ a1 ∧ a2 ∧ a3 ∧ r) : a3 := h.2.2.2.1
theorem p4 {a0 a1 a2 a3 a4 r : Prop} (h : a0 ∧ a1 ∧ a2 ∧ a3 ∧ a4 ∧ r) : a4 := h.2.2.2.2.1
theorem p5 {a0 a1 a2 a3 a4 a5 r : Prop} (h : a0 ∧ a1 ∧ a2 ∧ a3 ∧ a4 ∧ a5 ∧ r) : a5 := h.2.2.2.2.2.1
theorem p6 {a0 a1 a2 a3 a4 a5 a6 r : Prop} (h : a0 ∧ a1 ∧ a2 ∧ a3 ∧ a4 ∧ a5 ∧ a6 ∧ r) : a6 := h.2.2.2.2.2.2.1
theorem p7 {a0 a1 a2 a3 a4 a5 a6 a7 r : Prop} (h : a0 ∧ a1 ∧ a2 ∧ a3 ∧ a4 ∧ a5 ∧ a6 ∧ a7 ∧ r) : a7 := h.2.2.2.2.2.2.2.1
theorem p8 {a0 a1 a2 a3 a4 a5 a6 a7 a8 r : Prop} (h : a0 ∧ a1 ∧ a2 ∧ a3 ∧ a4 ∧ a5 ∧ a6 ∧ a7 ∧ a8 ∧ r) : a8 := h.2.2.2.2.2.2.2.2.1
theorem p9 {a0 a1 a2 a3 a4 a5 a6 a7 a8 a9 r : Prop} (h : a0 ∧ a1 ∧ a2 ∧ a3 ∧ a4 ∧ a5 ∧ a6 ∧ a7 ∧ a8 ∧ a9 ∧ r) : a9 := h.2.2.2.2.2.2.2.2.2.1
theorem p10 {a0 a1 a2 a3 a4 a5 a6 a7 a8 a9 a10 r : Prop} (h : a0 ∧ a1 ∧ a2 ∧ a3 ∧ a4 ∧ a5 ∧ a6 ∧ a7 ∧ a8 ∧ a9 ∧ a10 ∧ r) : a10 := h.2.2.2.2.2.2.2.2.2.2.1
theorem p11 {a0 a1 a2 a3 a4 a5 a6 a7 a8 a9 a10 a11 r : Prop} (h : a0 ∧ a1 ∧ a2 ∧ a3 ∧ a4 ∧ a5 ∧ a6 ∧ a7 ∧ a8 ∧ a9 ∧ a10 ∧ a11 ∧ r) : a11 := h.2.2.2.2.2.2.2.2.2.2.2.1
theorem p12 {a0 a1 a2 a3 a4 a5 a6 a7 a8 a9 a10 a11 a12 r : Prop} (h : a0 ∧ a1 ∧ a2 ∧ a3 ∧ a4 ∧ a5 ∧ a6 ∧ a7 ∧ a8 ∧ a9 ∧ a10 ∧ a11 ∧ a12 ∧ r) : a12 := h.2.2.2.2.2.2.2.2.2.2.2.2.1
theorem p13 {a0 a1 a2 a3 a4 a5 a6 a7 a8 a9 a10 a11 a12 a13 r : Prop} (h : a0 ∧ a1 ∧ a2 ∧ a3 ∧ a4 ∧ a5 ∧ a6 ∧ a7 ∧ a8 ∧ a9 ∧ a10 ∧ a11 ∧ a12 ∧ a13 ∧ r) : a13 := h.2.2.2.2.2.2.2.2.2.2.2.2.2.1
theorem p14 {a0 a1 a2 a3 a4 a5 a6 a7 a8 a9 a10 a11 a12 a13 a14 r : Prop} (h : a0 ∧ a1 ∧ a2 ∧ a3 ∧ a4 ∧ a5 ∧ a6 ∧ a7 ∧ a8 ∧ a9 ∧ a10 ∧ a11 ∧ a12 ∧ a13 ∧ a14 ∧ r) : a14 := h.2.2.2.2.2.2.2.2.2.2.2.2.2.2.1
theorem p15 {a0 a1 a2 a3 a4 a5 a6 a7 a8 a9 a10 a11 a12 a13 a14 a15 r : Prop} (h : a0 ∧ a1 ∧ a2 ∧ a3 ∧ a4 ∧ a5 ∧ a6 ∧ a7 ∧ a8 ∧ a9 ∧ a10 ∧ a11 ∧ a12 ∧ a13 ∧ a14 ∧ a15 ∧ r) : a15 := h.2.2.2.2.2.2.2.2.2.2.2.2.2.2.2.1
theorem ne_lt {a d : Nat} (h : a < d) : a ≠ d := Nat.ne_of_lt h
theorem ne_gt {a d : Nat} (h : a < d) : d ≠ a := Nat.ne_of_gt h
theorem ne_lt2 {a d e : Nat} (h1 : d < e) (h : a < d) : a ≠ e := Nat.ne_of_lt (Nat.lt_trans h h1)
theorem ne_gt2 {a d e : Nat} (h1 : d < e) (h : a < d) : e ≠ a := Nat.ne_of_gt (Nat.lt_trans h h1)
/-- a walk with its end as a name: the end is not copied at each step -/
theorem wp_gen {M : Model} {A : Around} {α : Type} {t : Sem α} {Q : α → Shared → Prop} {E : Value → Shared → Prop} {s : Shared} (h : ∀ Q' : α → Shared → Prop, (∀ r s', Q r s' → Q' r s') → wpAny M A t Q' E s) : wpAny M A t Q E s := h Q fun _ _ h => h
theorem wp_gen_in {M : Model} {A : Around} {α β : Type} {t : Sem β} {t2 : Sem α} {Q : α → Shared → Prop} {E : Value → Shared → Prop} {s : Shared} (h : ∀ Q' : α → Shared → Prop, (∀ r s', Q r s' → Q' r s') → wpAny M A t (fun _ s₁ => wpAny M A t2 Q' E s₁) E s) : wpAny M A t (fun _ s₁ => wpAny M A t2 Q E s₁) E s := h Q fun _ _ h => h
theorem wp_gen2 {M : Model} {A : Around} {env : Env} {body : List Stmt} {Q : Flow → Shared → Prop} {E : Value → Shared → Prop} {s : Shared} (hp : PassesOwn M A env E) (h : ∀ (Q' : Flow → Shared → Prop) (E' : Value → Shared → Prop), (∀ r s', Q r s' → Q' r s') → PassesOwn M A env E' → wpAny M A (execs body env) Q' E' s) : wpAny M A (execs body env) Q E s := h Q E (fun _ _ h => h) hp
noncomputable def Tell (w : World) (mean : ExcName → Option Value) (mg mb : Str → Option Value) (f : Addr) (vs : List Value) (pre : List (Addr × Obj) → Prop) (post : List (Addr × Obj) → Value → Prop) : Prop :=
  ∀ (dp un : Nat) (gd : Option (List Code)) (cn : Str) (cs : Scope) (a : Addr) (ccd : Value) (cl : List (Str × Addr)) (outer : List Env) (A₀ : Around) (base h₀ : Heap) (L : Addr) (m : Str → Option Value) (news : List (Addr × Obj)) (s : Shared)
    (Q E : Value → Shared → Prop),
    Below A₀ base outer h₀ → Fr h₀ L s.heap m → (hd.heap_39 (World.params w)).In h₀ → News h₀ L s.heap news → Top topProg (looseW hd.view_39 [] ++ List.map (fun x => DefRec.name x) (recsOf hd.view_39) ++
        List.map (fun x => Prod.fst x) (litsOf hd.view_39) ++
      List.map (fun x => ClsRec.name x) (clssOf hd.view_39 (looseW hd.view_39 []))) mean mg mb h₀ → cs.kind = .function → dp + 20 < recursionLimit → un + 100 < cLine → pre news →
    (∀ r tl h' tk', Fr h₀ L h' m → News h₀ L h' (news ++ tl) → (∀ q ∈ news, ∀ p ∈ tl, q.1 ≠ p.1) → post tl r → Q r { s with heap := h', toks := tk' }) →
    wpAny (model (RowW.prog (OpenRow.toRowW (OpenLaw.row Challenge.rw_mr0099_01))) w) (ktrTop dp un gd cn cs L a ccd cl outer) (call (.ref f) vs) Q E s
end Mine
end
open PySem PySem.W PyProof.Rows PySem.Spec PySem.Calls
local macro_rules | `(tactic| walk_at "LT_IN") => `(tactic| with_reducible first | assumption | exact Mine.p0 ‹_› | exact Mine.p1 ‹_› | exact Mine.p2 ‹_› | exact Mine.p3 ‹_› | exact Mine.p4 ‹_› | exact Mine.p5 ‹_› | exact Mine.p6 ‹_› | exact Mine.p7 ‹_› | exact Mine.p8 ‹_› | exact Mine.p9 ‹_› | exact Mine.p10 ‹_› | exact Mine.p11 ‹_› | exact Mine.p12 ‹_› | exact Mine.p13 ‹_› | exact Mine.p14 ‹_› | exact Mine.p15 ‹_›)
local macro_rules | `(tactic| k_ne) => `(tactic| (refine neN ?_; (try dsimp only); first | (refine Mine.ne_lt ?_; walk_at "LT_IN") | (refine Mine.ne_gt ?_; walk_at "LT_IN") | (refine Mine.ne_lt2 (by with_reducible assumption) ?_; walk_at "LT_IN") | (refine Mine.ne_gt2 (by with_reducible assumption) ?_; walk_at "LT_IN")))
section
open PySem PySem.W PyProof.Rows PySem.Spec PySem.Calls
namespace Mine
/-- what a called def's body leaves: only fresh objects beside what stood -/
noncomputable def Done (g : Heap) (L : Addr) (post : List (Addr × Obj) → Value → Prop) (s : Shared) (fl : Flow) (s' : Shared) : Prop :=
  ∃ h' tk' m' tl, s' = { s with heap := h', toks := tk' } ∧ Fr g L h' m' ∧ News g L h' tl ∧ post tl (match fl with | .ret v => v | _ => .none)
theorem tell_enter {w : World} {mean : ExcName → Option Value} {mg mb : Str → Option Value} {f : Addr} {vs : List Value} {pre : List (Addr × Obj) → Prop} {post : List (Addr × Obj) → Value → Prop}
    {name qual : Str} {params : Arguments} {body : List Stmt} {scope : Scope} {dV kV doc pm cdv ct oc : Value} {an od : Option Addr} {osl : Array (Option Value)} {binds : List (Str × Value)}
    (ho : (hd.heap_39 (World.params w)).lookup f = some ⟨oc, od, .func (fnOf name qual params body scope dV kV doc pm an cdv ct), osl⟩) (hcd : codeIn (hd.heap_39 (World.params w)) cdv qual = true)
    (hbind : ∀ s, BindsTo s (fnOf name qual params body scope dV kV doc pm an cdv ct) ⟨vs, []⟩ binds) (hloc : ∀ y ∈ binds, scope.names.lookup y.1 = some .local)
    (hco : scope.isCoroutine = false) (hgen : scope.isGenerator = false) (hk : scope.kind = .function) (hcell : ∀ x ∈ scope.names, x.2 ≠ .cell)
    (walk : ∀ (dp un : Nat) (gd : Option (List Code)) (cn : Str) (cs : Scope) (L a : Addr) (ccd : Value) (cl : List (Str × Addr)) (outer : List Env) (base g : Heap) (L' : Addr) (news : List (Addr × Obj)) (s : Shared),
      Below (ktrTop dp un gd cn cs L a ccd cl outer) base (envX cn cs L a ccd cl :: outer) g → Fr g L' s.heap (fun y => binds.reverse.lookup y) → (hd.heap_39 (World.params w)).In g → News g L' s.heap [] → Top topProg (looseW hd.view_39 [] ++ List.map (fun x => DefRec.name x) (recsOf hd.view_39) ++
        List.map (fun x => Prod.fst x) (litsOf hd.view_39) ++ List.map (fun x => ClsRec.name x) (clssOf hd.view_39 (looseW hd.view_39 []))) mean mg mb g → dp + 20 < recursionLimit → un + 100 < cLine → pre news → (∀ p ∈ news, g.get? p.1 = some p.2) →
      wpAny (model (RowW.prog (OpenRow.toRowW (OpenLaw.row Challenge.rw_mr0099_01))) w) ((ktrTop dp un gd cn cs L a ccd cl outer).deeper (envOf qual scope L' f cdv)) (execs body (envOf qual scope L' f cdv)) (Done g L' post s) (fun _ _ => False) s) :
    Tell w mean mg mb f vs pre post := by
  intro dp un gd cn cs a ccd cl outer A₀ base h₀ L m news s Q E B F X N T hks hd hu hpre hret
  refine wpAny_call ?_
  refine code_defG (news := []) B F X (fun _ hp => nomatch hp) T rfl rfl hks ho hcd (by show dp < recursionLimit; omega) (hbind s) hloc (fun g L' h₁ FG F' N' B' X' T' hG => ?_) hco hgen hk hcell
  have hg : ∀ p ∈ news, g.get? p.1 = some p.2 := fun p hp => hG _ _ (N p hp).1 (fun h => nomatch h)
  refine wpAny_mono (walk dp un gd cn cs L a ccd cl outer base g L' news _ B' F' X' N' T' hd hu hpre hg) (fun fl s' hdn => ?_) (fun _ _ h => h.elim)
  obtain ⟨h', tk', m', tl, rfl, F2, N2, hp⟩ := hdn
  refine ⟨L', m', tl, F2, N2, fun F3 N3 => ?_⟩
  refine hret _ tl h' tk' F3 (fun p hp => ?_) (fun q hq p hp => ?_) ?_
  · rcases List.mem_append.mp hp with hp | hp
    · exact ⟨F2.keep _ _ (hg p hp), (N p hp).2.1, (N p hp).2.2⟩
    · exact N3 p hp
  · intro e
    have e2 := hg q hq
    rw [e, (N2 p hp).2.2] at e2
    cases e2
  · exact hp
theorem kstB_same {m : Str → Option Value} {ps : List (Str × Value)} (h : ∀ p ∈ ps, m p.1 = some p.2) : kstB m ps = m := funext fun _ => kstB_eq h fun _ => rfl
section
variable {prog : Program} {w : World} {A : Around} {E : Value → Shared → Prop} {s : Shared} {env : Env} {h₀ : Heap} {x : Str} {body : List Stmt} {Q : Flow → Shared → Prop}
/-- a turn's end: the new letters, what was made, all else as it stood -/
noncomputable def LEnd {σ : Type} (h₀ : Heap) (L : Addr) (ps : σ → List (Str × Value)) (front : σ → List (Addr × Obj)) (Facts : List (Addr × Obj) → σ → Prop) (Inv : σ → Prop) (tl own : List (Addr × Obj)) (s₁ s₂ : Shared) : Prop :=
  ∃ h' tk m' c' add news', s₂ = { s₁ with heap := h', toks := tk } ∧ Fr h₀ L h' m' ∧ News h₀ L h' news' ∧ (∀ p ∈ front c' ++ (add ++ (tl ++ own)), p ∈ news') ∧ (∀ q ∈ add, ∀ p ∈ front c' ++ (tl ++ own), p.1 ≠ q.1) ∧ Facts (add ++ tl) c' ∧ (∀ p ∈ ps c', m' p.1 = some p.2) ∧ Inv c'
noncomputable def LPost {σ : Type} (h₀ : Heap) (L : Addr) (ps : σ → List (Str × Value)) (front : σ → List (Addr × Obj)) (Facts : List (Addr × Obj) → σ → Prop) (Inv : σ → Prop) (tl own : List (Addr × Obj)) (s₁ : Shared) (Q : Flow → Shared → Prop) (f : Flow) (s₂ : Shared) : Prop :=
  match f with
  | .ret v => Q (.ret v) s₂
  | .brk => Q .next s₂
  | _ => LEnd h₀ L ps front Facts Inv tl own s₁ s₂
theorem lend {σ : Type} {h₀ h' : Heap} {L : Addr} {ps : σ → List (Str × Value)} {front : σ → List (Addr × Obj)} {Facts : List (Addr × Obj) → σ → Prop} {Inv : σ → Prop} {tl own news' : List (Addr × Obj)} {s₁ : Shared} {tk : Tok} {m' : Str → Option Value} {Q : Flow → Shared → Prop} (c' : σ) (add : List (Addr × Obj))
    (F : Fr h₀ L h' m') (N : News h₀ L h' news') (hin : ∀ p ∈ front c' ++ (add ++ (tl ++ own)), p ∈ news') (hadd : ∀ q ∈ add, ∀ p ∈ front c' ++ (tl ++ own), p.1 ≠ q.1) (hf : Facts (add ++ tl) c') (hk : ∀ p ∈ ps c', m' p.1 = some p.2) (hI : Inv c') :
    LPost h₀ L ps front Facts Inv tl own s₁ Q .next { s₁ with heap := h', toks := tk } := ⟨_, _, _, c', add, _, rfl, F, N, hin, hadd, hf, hk, hI⟩
theorem loop_inv {σ : Type} {I : Addr} {fp wr : List Addr} {n : Nat} {P : Nat → Value → Prop} {St : Nat → Heap → Prop} {m₀ : Str → Option Value} {news : List (Addr × Obj)}
    (ps : σ → List (Str × Value)) (front : σ → List (Addr × Obj)) (Facts : List (Addr × Obj) → σ → Prop) (Inv : Nat → σ → Prop) (adr : List Addr)
    (W : Walks prog w A I fp wr n P St) (hLf : env.locals ∉ fp) (hwr : ∀ b ∈ wr, h₀.get? b = none) (hwl : ∀ i h, St i h → ∀ b ∈ wr, ∃ o, h.get? b = some o)
    (hadr : ∀ c, (front c).map (·.1) = adr) (hfa : ∀ a ∈ adr, a ∉ fp)
    (hst : St 0 s.heap) (F : Fr h₀ env.locals s.heap m₀) (N : News h₀ env.locals s.heap news)
    (c₀ : σ) (tl₀ : List (Addr × Obj)) (hn : ∀ p ∈ front c₀ ++ tl₀, p ∈ news) (ht : ∀ p ∈ tl₀, p.1 ∉ wr) (ht' : OwnOff tl₀ adr) (hf : Facts tl₀ c₀) (hk : ∀ p ∈ ps c₀, m₀ p.1 = some p.2) (h0 : Inv 0 c₀)
    (turn : ∀ i v c tl own u h tk, i < n → P i v → OwnOff (tl ++ own) adr → Facts tl c → Inv i c → Fr h₀ env.locals h (fun y => if y = x then some v else kstB u (ps c) y) → News h₀ env.locals h (front c ++ (tl ++ own)) →
      wpAny (model prog w) A (execs body env) (LPost h₀ env.locals ps front Facts (Inv (i + 1)) tl own { s with heap := h, toks := tk } Q) E { s with heap := h, toks := tk })
    (done : ∀ c tl u h tk, OwnOff tl adr → Facts tl c → Inv n c → Fr h₀ env.locals h (kstB u (ps c)) → News h₀ env.locals h (front c ++ tl) → Q .next { s with heap := h, toks := tk }) :
    LoopAtV prog w A h₀ env x body Q E (.ref I) s := by
  obtain ⟨J, mk, un⟩ : ∃ J : Nat → (Str → Option Value) → List (Addr × Obj) → Prop, (∀ i m nx, (∃ c tl, nx = front c ++ tl ∧ OwnOff tl adr ∧ Facts tl c ∧ (∀ p ∈ ps c, m p.1 = some p.2) ∧ Inv i c) → J i m nx) ∧ (∀ i m nx, J i m nx → ∃ c tl, nx = front c ++ tl ∧ OwnOff tl adr ∧ Facts tl c ∧ (∀ p ∈ ps c, m p.1 = some p.2) ∧ Inv i c) := ⟨_, fun _ _ _ h => h, fun _ _ _ h => h⟩
  refine ⟨I, fp, wr, n, P, St, m₀, front c₀ ++ tl₀, J, rfl, W, hLf, hwr, ?_, hst, F, (fun p hp => N p (hn p hp)), mk _ _ _ ⟨c₀, tl₀, rfl, ht', hf, hk, h0⟩, ?_, ?_⟩
  · intro p hp hb
    rcases List.mem_append.mp hp with hp | hp
    · exact hfa p.1 (hadr c₀ ▸ List.mem_map.mpr ⟨p, hp, rfl⟩) (W.sub _ hb)
    · exact ht p hp hb
  · rintro i v m₁ nx s₁ own ⟨h, tk, rfl⟩ hi hP hJ hoff hsub hget hall hst' F₁ N₁
    obtain ⟨c, tl, rfl, ho, hf', hk', hI⟩ := un _ _ _ hJ
    clear hJ
    have o1 : OwnOff own adr := fun p hp b hb e => hfa b hb (e ▸ hsub p hp)
    have o2 : OwnOff (tl ++ own) adr := kd_off o1 ho
    have N₂ : News h₀ env.locals h (front c ++ (tl ++ own)) := fun p hp => N₁ p (by
      rcases List.mem_append.mp hp with hp | hp
      · exact List.mem_append_right _ (List.mem_append_left _ hp)
      · rcases List.mem_append.mp hp with hp | hp
        · exact List.mem_append_right _ (List.mem_append_right _ hp)
        · exact List.mem_append_left _ hp)
    have F₂ : Fr h₀ env.locals h (fun y => if y = x then some v else kstB m₁ (ps c) y) := by rw [kstB_same hk']; exact F₁
    refine wpAny_mono (turn i v c tl own m₁ h tk hi hP o2 hf' hI F₂ N₂) (fun f s₂ p => ?_) fun _ _ e => e
    have fin : LEnd h₀ env.locals ps front Facts (Inv (i + 1)) tl own { s with heap := h, toks := tk } s₂ → LoopStepU h₀ env.locals wr own (J (i + 1)) { s with heap := h, toks := tk } .next s₂ := by
      rintro ⟨h', tk', m', c', add, news', rfl, F', N', hin, hadd, hf2, hk2, hI2⟩
      refine ⟨rfl, h', tk', m', front c' ++ (add ++ tl), rfl, F', fun p hp => N' p (hin p ?_), ?_, mk _ _ _ ⟨c', add ++ tl, rfl, ?_, hf2, hk2, hI2⟩⟩
      · rcases List.mem_append.mp hp with hp | hp
        · exact List.mem_append_right _ (List.mem_append_right _ (List.mem_append_right _ hp))
        · rcases List.mem_append.mp hp with hp | hp
          · exact List.mem_append_left _ hp
          · rcases List.mem_append.mp hp with hp | hp
            · exact List.mem_append_right _ (List.mem_append_left _ hp)
            · exact List.mem_append_right _ (List.mem_append_right _ (List.mem_append_left _ hp))
      · intro p hp hb
        rcases List.mem_append.mp hp with hp | hp
        · exact hfa p.1 (hadr c' ▸ List.mem_map.mpr ⟨p, hp, rfl⟩) (W.sub _ hb)
        · rcases List.mem_append.mp hp with hp | hp
          · obtain ⟨o, hbo⟩ := hwl _ _ hst' _ hb
            exact hadd p hp _ (List.mem_append_right _ (List.mem_append_right _ (hall _ (W.sub _ hb) (hwr _ hb) o hbo))) rfl
          · exact hoff p (List.mem_append_right _ hp) hb
      · intro p hp b hb e
        rcases List.mem_append.mp hp with hp | hp
        · rw [← hadr c'] at hb
          obtain ⟨q, hq, rfl⟩ := List.mem_map.mp hb
          exact hadd p hp q (List.mem_append_left _ hq) e.symm
        · exact ho p hp b hb e
    cases f with
    | ret v => exact .ret p
    | brk => exact .brk p
    | next => exact .next (fin p)
    | cont => exact .cont (fin p)
  · rintro h' tk m' nx F' N' hoff hJ
    obtain ⟨c, tl, rfl, ho, hf', hk', hI⟩ := un _ _ _ hJ
    exact done c tl m' h' tk ho hf' hI (by rw [kstB_same hk']; exact F') N'
/-- a loop over a range by ones -/
theorem loop_range {σ : Type} {r : Addr} {a₀ b₀ : Int} {t₀ u₀ v₀ : Tok} {n : Nat} {m₀ : Str → Option Value} {news : List (Addr × Obj)}
    (ps : σ → List (Str × Value)) (front : σ → List (Addr × Obj)) (Facts : List (Addr × Obj) → σ → Prop) (Inv : Nat → σ → Prop) (adr : List Addr)
    (hh : A.handled = none) (hr : IsRange s.heap r a₀ b₀ 1 t₀ u₀ v₀) (hsmall : Builtin.Range.small a₀ b₀ 1 = true) (hsz : Builtin.Range.rangeSize a₀ b₀ 1 = (n : Int))
    (hadr : ∀ c, (front c).map (·.1) = adr) (F : Fr h₀ env.locals s.heap m₀) (N : News h₀ env.locals s.heap news)
    (c₀ : σ) (tl₀ : List (Addr × Obj)) (hn : ∀ p ∈ front c₀ ++ tl₀, p ∈ news) (ht' : OwnOff tl₀ adr) (hf : Facts tl₀ c₀) (hk : ∀ p ∈ ps c₀, m₀ p.1 = some p.2) (h0 : Inv 0 c₀)
    (turn : ∀ (i : Nat) t c tl own u h tk, i < n → OwnOff (tl ++ own) adr → Facts tl c → Inv i c → Fr h₀ env.locals h (fun y => if y = x then some (.int (a₀ + (i : Int)) t) else kstB u (ps c) y) → News h₀ env.locals h (front c ++ (tl ++ own)) →
      wpAny (model prog w) A (execs body env) (LPost h₀ env.locals ps front Facts (Inv (i + 1)) tl own { s with heap := h, toks := tk } Q) E { s with heap := h, toks := tk })
    (done : ∀ c tl u h tk, OwnOff tl adr → Facts tl c → Inv n c → Fr h₀ env.locals h (kstB u (ps c)) → News h₀ env.locals h (front c ++ tl) → Q .next { s with heap := h, toks := tk }) :
    wpAny (model prog w) A (pyIter (.ref r)) (fun it s₂ => LoopAtV prog w A h₀ env x body Q E it s₂) E s := by
  refine wpAny_pyIter_range hr hsmall ?_
  have W := Walks.range (prog := prog) (w := w) hh s.heap.objs.size a₀ 1 n
  have hnew : ∀ p ∈ news, p.1 ≠ s.heap.objs.size := fun p hp e => absurd (Heap.lt_size (N p hp).1) (e ▸ Nat.lt_irrefl _)
  refine loop_inv ps front Facts Inv adr W ?_ ?_ ?_ hadr ?_ (by show IsRangeIter _ _ _ _ _; rw [hsz]; simpa using Heap.get?_push_size _ rfl) (F.push _) (fun p hp => ⟨Heap.get?_push_of_some _ (N p hp).1, (N p hp).2⟩) c₀ tl₀ hn ?_ ht' hf hk h0 ?_ ?_
  · intro hm
    exact absurd F.ns.lt ((List.mem_singleton.mp hm) ▸ Nat.lt_irrefl _)
  · intro b hb
    rw [List.mem_singleton.mp hb]
    exact next_is_new F
  · intro i h hi b hb
    rw [List.mem_singleton.mp hb]
    exact ⟨_, hi⟩
  · intro a ha hI
    rw [← hadr c₀] at ha
    obtain ⟨q, hq, rfl⟩ := List.mem_map.mp ha
    exact hnew q (hn q (List.mem_append_left _ hq)) (List.mem_singleton.mp hI)
  · intro p hp hI
    exact hnew p (hn p (List.mem_append_right _ hp)) (List.mem_singleton.mp hI)
  · rintro i v c tl own u h tk hi ⟨t, rfl⟩ ho hf' hI F₁ N₁
    have e1 : a₀ + (i : Int) * 1 = a₀ + (i : Int) := by omega
    rw [e1] at F₁
    exact turn i t c tl own u h tk hi ho hf' hI F₁ N₁
  · intro c tl u h tk ho hf' hI F₁ N₁
    exact done c tl u h tk ho hf' hI F₁ N₁
/-- a loop over a list, in the base or among the made objects, that no turn changes -/
theorem loop_list {σ : Type} {l : Addr} {vs : List Value} {m₀ : Str → Option Value} {news : List (Addr × Obj)}
    (ps : σ → List (Str × Value)) (front : σ → List (Addr × Obj)) (Facts : List (Addr × Obj) → σ → Prop) (Inv : Nat → σ → Prop) (adr : List Addr)
    (hh : A.handled = none) (hl : s.heap.IsList l vs.toArray) (hlL : l ≠ env.locals) (hla : l ∉ adr)
    (hadr : ∀ c, (front c).map (·.1) = adr) (F : Fr h₀ env.locals s.heap m₀) (N : News h₀ env.locals s.heap news)
    (c₀ : σ) (tl₀ : List (Addr × Obj)) (hn : ∀ p ∈ front c₀ ++ tl₀, p ∈ news) (ht' : OwnOff tl₀ adr) (hf : Facts tl₀ c₀) (hk : ∀ p ∈ ps c₀, m₀ p.1 = some p.2) (h0 : Inv 0 c₀)
    (turn : ∀ (i : Nat) v c tl own u h tk, i < vs.length → vs[i]? = some v → OwnOff (tl ++ own) adr → Facts tl c → Inv i c → Fr h₀ env.locals h (fun y => if y = x then some v else kstB u (ps c) y) → News h₀ env.locals h (front c ++ (tl ++ own)) →
      wpAny (model prog w) A (execs body env) (LPost h₀ env.locals ps front Facts (Inv (i + 1)) tl own { s with heap := h, toks := tk } Q) E { s with heap := h, toks := tk })
    (done : ∀ c tl u h tk, OwnOff tl adr → Facts tl c → Inv vs.length c → Fr h₀ env.locals h (kstB u (ps c)) → News h₀ env.locals h (front c ++ tl) → Q .next { s with heap := h, toks := tk }) :
    wpAny (model prog w) A (pyIter (.ref l)) (fun it s₂ => LoopAtV prog w A h₀ env x body Q E it s₂) E s := by
  obtain ⟨ol, hol, _⟩ := id hl
  have hne : l ≠ s.heap.objs.size := Nat.ne_of_lt (Heap.lt_size hol)
  refine wpAny_pyIter_list hl ?_
  have W := Walks.list (prog := prog) (w := w) hh s.heap.objs.size l hne vs.toArray
  have hlen : vs.toArray.size = vs.length := by simp
  rw [hlen] at W
  have hnew : ∀ p ∈ news, p.1 ≠ s.heap.objs.size := fun p hp e => absurd (Heap.lt_size (N p hp).1) (e ▸ Nat.lt_irrefl _)
  refine loop_inv ps front Facts Inv adr W ?_ ?_ ?_ hadr ?_ ⟨⟨_, Heap.get?_push_size _ rfl, rfl, rfl⟩, hl.at fun o e => Heap.get?_push_of_some _ e⟩ (F.push _) (fun p hp => ⟨Heap.get?_push_of_some _ (N p hp).1, (N p hp).2⟩) c₀ tl₀ hn ?_ ht' hf hk h0 ?_ done
  · intro hm
    rcases List.mem_cons.mp hm with e | hm
    · exact absurd F.ns.lt (e ▸ Nat.lt_irrefl _)
    · exact hlL (List.mem_singleton.mp hm).symm
  · intro b hb
    rw [List.mem_singleton.mp hb]
    exact next_is_new F
  · intro i h hi b hb
    rw [List.mem_singleton.mp hb]
    obtain ⟨⟨o, ho, _⟩, _⟩ := hi
    exact ⟨o, ho⟩
  · intro a ha hI
    rcases List.mem_cons.mp hI with e | hI
    · rw [← hadr c₀] at ha
      obtain ⟨q, hq, rfl⟩ := List.mem_map.mp ha
      exact hnew q (hn q (List.mem_append_left _ hq)) e
    · exact hla ((List.mem_singleton.mp hI) ▸ ha)
  · intro p hp hI
    exact hnew p (hn p (List.mem_append_right _ hp)) (List.mem_singleton.mp hI)
  · intro i v c tl own u h tk hi hv ho hf' hI F₁ N₁
    exact turn i v c tl own u h tk hi (by simpa using hv) ho hf' hI F₁ N₁
end
section
variable {prog : Program} {w : World} {A : Around} {E : Value → Shared → Prop} {s : Shared} {env : Env} {h₀ : Heap} {Q : Flow → Shared → Prop}
/-- a place between two statements, told by its letters -/
noncomputable def Mid {σ : Type} (h₀ : Heap) (L : Addr) (ps : σ → List (Str × Value)) (front : σ → List (Addr × Obj)) (Inv : σ → Prop) (s₁ s₂ : Shared) : Prop :=
  ∃ h tk m c news', s₂ = { s₁ with heap := h, toks := tk } ∧ Fr h₀ L h m ∧ News h₀ L h news' ∧ (∀ p ∈ front c, p ∈ news') ∧ (∀ p ∈ ps c, m p.1 = some p.2) ∧ Inv c
noncomputable def MidPost {σ : Type} (h₀ : Heap) (L : Addr) (ps : σ → List (Str × Value)) (front : σ → List (Addr × Obj)) (Inv : σ → Prop) (s₁ : Shared) (Q : Flow → Shared → Prop) (f : Flow) (s₂ : Shared) : Prop :=
  match f with
  | .next => Mid h₀ L ps front Inv s₁ s₂
  | f => Q f s₂
theorem lmid {σ : Type} {h₀ h : Heap} {L : Addr} {ps : σ → List (Str × Value)} {front : σ → List (Addr × Obj)} {Inv : σ → Prop} {news' : List (Addr × Obj)} {s₁ : Shared} {tk : Tok} {m : Str → Option Value} {Q : Flow → Shared → Prop} (c : σ)
    (F : Fr h₀ L h m) (N : News h₀ L h news') (hin : ∀ p ∈ front c, p ∈ news') (hk : ∀ p ∈ ps c, m p.1 = some p.2) (hI : Inv c) : MidPost h₀ L ps front Inv s₁ Q .next { s₁ with heap := h, toks := tk } := ⟨_, _, _, c, _, rfl, F, N, hin, hk, hI⟩
theorem cut_mid {σ : Type} {L : Addr} {st : Stmt} {rest : List Stmt} (ps : σ → List (Str × Value)) (front : σ → List (Addr × Obj)) (Inv : σ → Prop)
    (one : wpAny (model prog w) A (exec st env) (MidPost h₀ L ps front Inv s Q) E s)
    (two : ∀ c u h tk, Inv c → Fr h₀ L h (kstB u (ps c)) → News h₀ L h (front c) → wpAny (model prog w) A (execs rest env) Q E { s with heap := h, toks := tk }) :
    wpAny (model prog w) A (execs (st :: rest) env) Q E s := by
  refine wpAny_execs_cons (wpAny_mono one (fun f s' h => ?_) fun _ _ e => e)
  cases f with
  | next =>
    obtain ⟨h, tk, m, c, news', rfl, F, N, hn, hk, hI⟩ := h
    exact two c m h tk hI (by rw [kstB_same hk]; exact F) fun p hp => N p (hn p hp)
  | ret v => exact h
  | brk => exact h
  | cont => exact h
end
section
variable {prog : Program} {w : World} {A : Around} {E : Value → Shared → Prop} {s : Shared} {value slice : PySem.Expr} {l : Addr} {vs : List Value} {k : Int} {u : Tok} {v : Value} {Q : Value → Shared → Prop}
theorem item_at (hl : s.heap.IsList l vs.toArray) (h0 : 0 ≤ k) (hfit : k < 2 ^ 63) (hx : vs[k.toNat]? = some v) (h : Q v s)
    (hs : subscripted slice false (.ref l) (.int k u) = operate [.ref l, .int k u] (getItem (.ref l) (.int k u))) :
    wpAny (model prog w) A (subscriptTail value slice (.ref l) (.int k u)) Q E s :=
  tail_any hl.typeIs slot_list_getitem.lookup (wpAny_getItem_list hl h0 hfit (by simpa using hx) h) hs
theorem item_last (hl : s.heap.IsList l (vs ++ [v]).toArray) (h : Q v s)
    (hs : subscripted slice false (.ref l) (.int (-1) u) = operate [.ref l, .int (-1) u] (getItem (.ref l) (.int (-1) u))) :
    wpAny (model prog w) A (subscriptTail value slice (.ref l) (.int (-1) u)) Q E s := by
  refine tail_any hl.typeIs slot_list_getitem.lookup (wpAny_getItem_list_neg hl (by omega) ?_ (by omega) ?_ h) hs
  · simp; omega
  · have e : ((-1 : Int) + ((vs ++ [v]).toArray.size : Nat)).toNat = vs.length := by simp; omega
    rw [e]
    simp
theorem item_lastS {ws : List (Str × Tok)} {p : Str × Tok} (hl : s.heap.IsList l (strValues (ws ++ [p])).toArray) (h : Q (.str p.1 p.2) s)
    (hs : subscripted slice false (.ref l) (.int (-1) u) = operate [.ref l, .int (-1) u] (getItem (.ref l) (.int (-1) u))) :
    wpAny (model prog w) A (subscriptTail value slice (.ref l) (.int (-1) u)) Q E s := by
  have e : strValues (ws ++ [p]) = strValues ws ++ [.str p.1 p.2] := by simp [strValues]
  rw [e] at hl
  exact item_last hl h hs
end
end Mine
end
section
open PySem PySem.W PyProof.Rows PySem.Spec PySem.Calls
set_option genInjectivity false
set_option genSizeOf false
namespace Mine
theorem fillK (w : World) (h : Heap) : (hd.heap_39 (World.params w)).In h → (RowW.prog (OpenRow.toRowW (OpenLaw.row Challenge.rw_mr0099_01))) = (RowW.prog (OpenRow.toRowW (OpenLaw.row Challenge.rw_mr0099_01))) := by
  w_top off
  k_fill
  intro _
  rfl
noncomputable def restAt (r : Int) : Nat → Int
  | 0 => r
  | n + 1 => (restAt r n).fdiv 10
noncomputable def patRow (x : Int) (n : Nat) : List Int := (List.range n).map fun i => (restAt ((x.fdiv 25).fdiv 2) i).fmod 5
noncomputable def patDots (x : Int) (n : Nat) : List Bool := ((x.fdiv 25).fmod 2 == 1) :: (List.range n).map fun i => (((restAt ((x.fdiv 25).fdiv 2) i).fdiv 5).fmod 2 == 1)
theorem datLift {news : List (Addr × Obj)} {vs : List Value} {ds : List Dat} (h : DatAll [] vs ds) : DatAll news vs ds := h.mono fun _ hp => absurd hp List.not_mem_nil
theorem pat_turn {x : Int} {i : Nat} {row dots : List Value} {rest : Int} {tk : Tok} (hr : DatAll [] row ((patRow x i).map .int)) (hd : DatAll [] dots ((patDots x i).map .bool)) (hrest : rest = restAt ((x.fdiv 25).fdiv 2) i) :
    DatAll [] (row ++ [.int (rest.fmod 5) tk]) ((patRow x (i + 1)).map .int) ∧ DatAll [] (dots ++ [.bool ((rest.fdiv 5).fmod 2 == 1)]) ((patDots x (i + 1)).map .bool) ∧ rest.fdiv 10 = restAt ((x.fdiv 25).fdiv 2) (i + 1) := by
  subst hrest
  refine ⟨?_, ?_, rfl⟩
  · simp only [patRow, List.range_succ, List.map_append, List.map_cons, List.map_nil]
    exact hr.append (.one (.int _ _))
  · simp only [patDots, List.range_succ, List.map_append, List.map_cons, List.map_nil]
    exact hd.append (.one (.bool _))
structure PatSt where
  row : List Value
  nr : Nat
  dots : List Value
  nd : Nat
  rest : Int
  tr : Tok
local macro_rules | `(tactic| walk_at "call type:range") => `(tactic| ((rename Fr _ _ _ _ => F'); (rename News _ _ _ _ => N'); (with_unfolding_all refine range1_rows F' N' ?_; intro _ _ _ _ _ _ _ _ _)))
set_option maxHeartbeats 8000000 in
theorem pat_tell (w : World) (mean : ExcName → Option Value) (mg mb : Str → Option Value) (x : Int) (t : Tok) :
   Tell w mean mg mb 109 [.int x t] (fun _ => True) (fun tl r => DatIn tl r (.tuple [.list ((patRow x ((x.fdiv 5).fmod 5).toNat).map .int), .list ((patDots x ((x.fdiv 5).fmod 5).toNat).map .bool)])) := by
  refine' tell_enter (binds := [(Str.ofString "x", .int x t)]) ?ho ?hcd ?hb ?hl ?co ?ge ?kk ?ce ?walk
  case ho => k_is
  case hcd => k_is
  case hb => exact fun s => BindsTo.of_eq rfl
  case hl => exact locs rfl
  case co => rfl
  case ge => rfl
  case kk => rfl
  case ce => decide
  intro dp un gd cn cs L a ccd cl outer base g L' news s B F X N T hd hu hpre hnews
  refine wp_gen fun QF hQF => ?_
  (repeat' (first | ((fail_if_success (with_reducible show wpAny _ _ (pyIter (Value.ref _)) _ _ _)); first | (k_unfold; (try dsimp only)) | (k_end; wrow_close) | walk1 | (dsimp only; walk1) | (leave1; walk_say "STEP leave1"; try dsimp only) | fail "no step")))
  rename_i lr _ e1 ld _ e2 dd _ e3 _ _ _ _ F0 N0 h2 tk2 t1 u1 v1 hR F1 N1 hkeep
  have hb : (0 : Int) ≤ (x.fdiv 5).fmod 5 ∧ (x.fdiv 5).fmod 5 < 5 := ⟨Int.fmod_nonneg_of_pos _ (by omega), Int.fmod_lt_of_pos _ (by omega)⟩
  refine' loop_range (σ := PatSt) (fun c => [(Str.ofString "row", .ref lr), (Str.ofString "dots", .ref ld), (Str.ofString "rest", .int c.rest c.tr)])
    (fun c => [(lr, listOf c.row.toArray c.nr), (ld, listOf c.dots.toArray c.nd)]) (fun _ _ => True)
    (fun i c => DatAll [] c.row ((patRow x i).map .int) ∧ DatAll [] c.dots ((patDots x i).map .bool) ∧ c.rest = restAt ((x.fdiv 25).fdiv 2) i) [lr, ld]
    rfl hR (small_one (by omega) (by omega) (by omega) (by omega)) (rangeSize_nat _ _) (fun _ => rfl) F1 N1 ⟨[], 0, [_], 0, _, _⟩ [] ?hn ?ht ?hf ?hk ?h0 ?turn ?done
  case hn => (((try simp only [List.append_nil, List.nil_append, List.cons_append]); k_allIn))
  case ht => exact fun _ hp => nomatch hp
  case hf => trivial
  case hk => ((repeat' (first | exact List.forall_mem_nil _ | refine Mine.fac (by with_unfolding_all rfl) ?_)))
  case h0 => exact ⟨.nil, .cons (.bool _) .nil, rfl⟩
  case turn =>
    intro i t c tl own u h tk hi ho _ hI F2 N2
    refine wp_gen fun QT hQT => ?_
    dsimp only [List.nil_append, List.cons_append] at N2
    refine and3 hI fun hr hd' hrest => ?_
    clear hI
    have e1' := hr.length
    have e2' := hd'.length
    simp only [patRow, patDots, List.length_map, List.length_cons, List.length_range] at e1' e2'
    (repeat' (first | ((fail_if_success (with_reducible show wpAny _ _ (pyIter (Value.ref _)) _ _ _)); first | (k_unfold; (try dsimp only)) | (k_end; wrow_close) | walk1 | (dsimp only; walk1) | (leave1; walk_say "STEP leave1"; try dsimp only) | fail "no step")))
    (rename Fr _ _ _ _ => FE); (rename News _ _ _ _ => NE)
    simp only [List.push_toArray] at NE
    exact hQT _ _ (lend ⟨_, _, _, _, _, _⟩ [] FE NE (fun p hp => hp) (fun _ h => nomatch h) trivial (by ((repeat' (first | exact List.forall_mem_nil _ | refine Mine.fac (by with_unfolding_all rfl) ?_)))) (pat_turn hr hd' hrest))
  case done =>
    intro c tl u h tk ho _ hI F2 N2
    dsimp only [List.nil_append, List.cons_append] at N2
    try dsimp only
    (repeat' (first | ((fail_if_success (with_reducible show wpAny _ _ (pyIter (Value.ref _)) _ _ _)); first | (k_unfold; (try dsimp only)) | (k_end; wrow_close) | walk1 | (dsimp only; walk1) | (leave1; walk_say "STEP leave1"; try dsimp only) | fail "no step")))
    (rename Fr _ _ _ _ => FE); (rename News _ _ _ _ => NE)
    refine' hQF _ _ ⟨_, _, _, _, rfl, FE, NE, ?_⟩
    refine and3 hI fun hr hd' hrest => ?_
    clear hI
    rw [Int.sub_zero] at hr hd'
    exact .tuple (.head _) (.cons (.list (.tail _ (.head _)) (datLift hr)) (.cons (.list (.tail _ (.tail _ (.head _))) (datLift hd')) .nil))
end Mine
end
section
open PySem PySem.W PyProof.Rows PySem.Spec PySem.Calls
namespace Mine
open PySem.Builtin PySem.Builtin.Str in
noncomputable def find4 (x y : Str) (i j : Int) : Int := match occurrences x y (fromIndex x.length i) (min x.length (fromIndex x.length j)) 1 with | k :: _ => (k : Int) | [] => -1
open PySem.Builtin PySem.Builtin.Str in
theorem gives_find4 (x y : Str) (i j : Int) (t u v v' : Tok) : Gives (Builtin.«str.find» ⟨[.str x t, .str y u, .int i v, .int j v'], []⟩) (.int (find4 x y i j)) := by
  show Gives (match occurrences x y (fromIndex x.length i) (min (fromIndex x.length j) x.length) 1 with | k :: _ => retInt k | [] => (do rule "str.find.not-found"; retInt (-1))) _
  rw [Nat.min_comm]
  unfold find4
  cases occurrences x y (fromIndex x.length i) (min x.length (fromIndex x.length j)) 1 with
  | nil => exact .rule (.of_eq rfl)
  | cons k _ => exact .of_eq rfl
theorem call_find4 {prog : Program} {w : World} {A : Around} {E : Value → Shared → Prop} {s : Shared} {x y : Str} {t u v v' : Tok} {i j : Int} {Q : Value → Shared → Prop}
    (hq : Q (.int (find4 x y i j) s.toks) { s with toks := s.toks + 1 }) : wpAny (model prog w) A (call (.builtin "str.find") [.str x t, .str y u, .int i v, .int j v']) Q E s :=
  call_gives F.slot_str_find (typeIs_str _ _ _) F.entry_str_find (F.args_str_find_4 _ _ _ _) (gives_find4 x y i j t u v v') hq
noncomputable def eFind (y : Str) (e : Int) : List Str → Int → Bool
  | [], _ => true
  | w :: r, p => if find4 y w p e < 0 then false else eFind y e r (find4 y w p e + w.length)
noncomputable def stA (y : Str) (ws : List Str) : Option (Int × List Str) :=
  if (ws.headD Str.empty).length = 0 then some (0, ws) else if Txt.startswith y (ws.headD Str.empty) then some ((ws.headD Str.empty).length, ws.tail) else none
noncomputable def stB (y : Str) (ws : List Str) : Option (Int × List Str) :=
  if (ws.getLastD Str.empty).length = 0 then some ((y.length : Int), ws) else if Txt.endswith y (ws.getLastD Str.empty) then some ((y.length : Int) - (ws.getLastD Str.empty).length, ws.dropLast) else none
noncomputable def ematch (x y : Str) : Bool :=
  if (Builtin.Str.occurrences x (Str.ofString "...") 0 x.length 1).isEmpty then x == y
  else match stA y (Txt.split x (Str.ofString "...")) with
    | none => false
    | some (p, ws) => match stB y ws with
      | none => false
      | some (e, ws) => if p > e then false else eFind y e ws p
end Mine
end
section
open PySem PySem.W PyProof.Rows PySem.Spec PySem.Calls
namespace Mine
open PySem.Builtin PySem.Builtin.Str PySem.StrLaws
theorem partsFrom_length (x : Str) (w : Nat) : ∀ (cuts : List Nat) (a : Nat), (partsFrom x w a cuts).length = cuts.length + 1
  | [], _ => rfl
  | c :: r, a => by simp [partsFrom, partsFrom_length x w r]
theorem strKind_pos (x : Str) : 1 ≤ Builtin.Str.strKind x := by
  unfold Builtin.Str.strKind
  split
  · omega
  · split <;> omega
theorem dots_kind : Builtin.Str.strKind (Str.ofString "...") = 1 := by decide +kernel
theorem dots_len : (Str.ofString "...").length = 3 := by decide +kernel
theorem split_at {x : Str} {i : Nat} (h : At x (Str.ofString "...") x.length i) :
    ∃ cuts f, cuts ≠ [] ∧ ChainG x (Str.ofString "...") x.length 0 cuts f ∧ (∀ k, f ≤ k → ¬ At x (Str.ofString "...") x.length k) ∧ Txt.split x (Str.ofString "...") = partsFrom x 3 0 cuts := by
  obtain ⟨f, hc, hn⟩ := occ_tight x (Str.ofString "...") (by rw [dots_len]; omega)
  refine ⟨_, f, ?_, hc, hn, ?_⟩
  · intro e
    rw [e] at hc
    exact hn i (by rw [show f = 0 from hc]; omega) h
  · unfold Txt.split
    have h1 : (decide (x.length < (Str.ofString "...").length) || decide (Builtin.Str.strKind x < Builtin.Str.strKind (Str.ofString "..."))) = false := by
      have := strKind_pos x
      have := h.1
      rw [dots_kind]
      simp
      omega
    rw [h1]
    have h2 : (occurrences x (Str.ofString "...") 0 x.length (x.length + 1)).isEmpty = false := by
      cases e : occurrences x (Str.ofString "...") 0 x.length (x.length + 1) with
      | nil =>
        rw [e] at hc
        exact absurd h (hn i (by rw [show f = 0 from hc]; omega))
      | cons _ _ => rfl
    rw [h2, partsBetween_eq, dots_len]
    rfl
theorem occ_at {x : Str} (h : (occurrences x (Str.ofString "...") 0 x.length 1).isEmpty = false) : ∃ i, At x (Str.ofString "...") x.length i := (found_iff x _).mp (by rw [h]; rfl)
theorem split_two {x : Str} (h : (occurrences x (Str.ofString "...") 0 x.length 1).isEmpty = false) : 2 ≤ (Txt.split x (Str.ofString "...")).length := by
  obtain ⟨i, hi⟩ := occ_at h
  obtain ⟨cuts, f, hne, _, _, e⟩ := split_at hi
  rw [e, partsFrom_length]
  cases cuts with
  | nil => exact absurd rfl hne
  | cons _ _ => simp
theorem join_len_ge (sep : Str) : ∀ texts : List Str, texts.length * sep.length ≤ (Str.join sep texts).length + sep.length
  | [] => by simp
  | [x] => by show 1 * sep.length ≤ x.length + sep.length; omega
  | x :: y :: r => by
    have h := join_len_ge sep (y :: r)
    show _ ≤ (x ++ sep ++ Str.join sep (y :: r)).length + _
    rw [Str.length_append, Str.length_append]
    simp only [List.length_cons, Nat.succ_mul] at h ⊢
    omega
theorem split_count (x : Str) : (Txt.split x (Str.ofString "...")).length ≤ x.length + 1 := by
  have h := join_len_ge (Str.ofString "...") (Txt.split x (Str.ofString "..."))
  rw [join_split, dots_len] at h
  omega
end Mine
end
section
open PySem PySem.W PyProof.Rows PySem.Spec PySem.Calls
set_option genInjectivity false
set_option genSizeOf false
namespace Mine
theorem fillK2 (w : World) (h : Heap) : (hd.heap_39 (World.params w)).In h → (RowW.prog (OpenRow.toRowW (OpenLaw.row Challenge.rw_mr0099_01))) = (RowW.prog (OpenRow.toRowW (OpenLaw.row Challenge.rw_mr0099_01))) := by
  w_top off
  k_fill
  intro _
  rfl
theorem len_at {l : List Str} {n i : Nat} {y : Str} (h : ∀ a ∈ l, a.length ≤ n) (e : l[i]? = some y) : y.length ≤ n := h _ (List.mem_of_getElem? e)
section
variable {x y w0 : Str} {r : List Str} {p e : Int}
theorem stA_yes (h : (w0.length : Int) ≠ 0) (hs : Txt.startswith y w0 = true) : stA y (w0 :: r) = some ((w0.length : Int), r) := by
  have h' : w0.length ≠ 0 := by omega
  simp [stA, h', hs]
theorem stA_no (h : (w0.length : Int) ≠ 0) (hs : Txt.startswith y w0 = false) : stA y (w0 :: r) = none := by
  have h' : w0.length ≠ 0 := by omega
  simp [stA, h', hs]
theorem stA_nil (h : ¬ (w0.length : Int) ≠ 0) : stA y (w0 :: r) = some (0, w0 :: r) := by
  have h' : w0.length = 0 := by omega
  simp [stA, h']
theorem stB_yes (h : (w0.length : Int) ≠ 0) (hs : Txt.endswith y w0 = true) : stB y (r ++ [w0]) = some ((y.length : Int) - w0.length, r) := by
  have h' : w0.length ≠ 0 := by omega
  simp [stB, h', hs]
theorem stB_no (h : (w0.length : Int) ≠ 0) (hs : Txt.endswith y w0 = false) : stB y (r ++ [w0]) = none := by
  have h' : w0.length ≠ 0 := by omega
  simp [stB, h', hs]
theorem stB_nil (h : ¬ (w0.length : Int) ≠ 0) : stB y (r ++ [w0]) = some ((y.length : Int), r ++ [w0]) := by
  have h' : w0.length = 0 := by omega
  simp [stB, h']
theorem ematch_A (ho : (Builtin.Str.occurrences x (Str.ofString "...") 0 x.length 1).isEmpty = false) (h : stA y (Txt.split x (Str.ofString "...")) = none) : ematch x y = false := by
  simp [ematch, ho, h]
theorem ematch_B {ws : List Str} (ho : (Builtin.Str.occurrences x (Str.ofString "...") 0 x.length 1).isEmpty = false) (h : stA y (Txt.split x (Str.ofString "...")) = some (p, ws)) (h2 : stB y ws = none) : ematch x y = false := by
  simp [ematch, ho, h, h2]
theorem ematch_C {ws ws' : List Str} (ho : (Builtin.Str.occurrences x (Str.ofString "...") 0 x.length 1).isEmpty = false) (h : stA y (Txt.split x (Str.ofString "...")) = some (p, ws)) (h2 : stB y ws = some (e, ws')) : ematch x y = if p > e then false else eFind y e ws' p := by
  simp only [ematch, ho, h, h2]
  rfl
end
structure EllA where
  ws : List (Str × Tok)
  n : Nat
  p : Int
  tp : Tok
  te : Tok
section
variable {prog : Program} {w : World} {A : Around} {E : Value → Shared → Prop} {s : Shared} {h₀ : Heap} {L D : Addr} {m : Str → Option Value} {news news' : List (Addr × Obj)} {n : Nat} {u : Tok} {Q : Unit → Shared → Prop}
theorem delL_last : ∀ (r : List Value) (v : Value), ki_delL (r ++ [v]) r.length = some r
  | [], _ => rfl
  | a :: r, v => by show (match ki_delL (r ++ [v]) r.length with | some q => some (a :: q) | none => none) = _; rw [delL_last r v]
theorem del_first {p : Str × Tok} {r : List (Str × Tok)} (F : Fr h₀ L s.heap m) (N : News h₀ L s.heap news) (U : Upd D (listOf (strValues (p :: r)).toArray n) (listOf (strValues r).toArray (n + 1)) news news') (hz : (p :: r).length ≤ 2000)
    (h : ∀ h', Fr h₀ L h' m → News h₀ L h' news' → Q () { s with heap := h' }) : wpAny (model prog w) A (delItem (.ref D) (.int 0 u)) Q E s :=
  ki_del (k := 0) F N rfl (by simp [seqIndex?, strValues]) rfl U (by simp only [strValues, List.length_map]; rw [sizeLine_eq]; omega) h
theorem del_last {p : Str × Tok} {r : List (Str × Tok)} (F : Fr h₀ L s.heap m) (N : News h₀ L s.heap news) (U : Upd D (listOf (strValues (r ++ [p])).toArray n) (listOf (strValues r).toArray (n + 1)) news news') (hz : (r ++ [p]).length ≤ 2000)
    (h : ∀ h', Fr h₀ L h' m → News h₀ L h' news' → Q () { s with heap := h' }) : wpAny (model prog w) A (delItem (.ref D) (.int (-1) u)) Q E s :=
  ki_del (k := r.length) F N rfl (by simp [seqIndex?, strValues]; omega) (by
    have := delL_last (strValues r) (.str p.1 p.2)
    simpa [strValues] using this) U (by simp only [strValues, List.length_map]; rw [sizeLine_eq]; omega) h
end
structure EllB where
  ws : List (Str × Tok)
  n : Nat
  e : Int
  te : Tok
theorem strValues_at {ws : List (Str × Tok)} {i : Nat} {v : Value} (h : (strValues ws)[i]? = some v) : ∃ q, ws[i]? = some q ∧ v = .str q.1 q.2 := by
  simp only [strValues, List.getElem?_map, Option.map_eq_some_iff] at h
  obtain ⟨q, h1, h2⟩ := h
  exact ⟨q, h1, h2.symm⟩
set_option maxHeartbeats 8000000 in
theorem ell_tell (w : World) (mean : ExcName → Option Value) (mg mb : Str → Option Value) (x y : Str) (t u : Tok) :
   Tell w mean mg mb 21 [.str x t, .str y u] (fun _ => x.length ≤ 1000 ∧ y.length ≤ 1000) (fun tl r => r = .bool (ematch x y)) := by
  refine' tell_enter (binds := [(Str.ofString "want", .str x t), (Str.ofString "got", .str y u)]) ?ho ?hcd ?hb ?hl ?co ?ge ?kk ?ce ?walk
  case ho => k_is
  case hcd => k_is
  case hb => exact fun s => BindsTo.of_eq rfl
  case hl => exact locs rfl
  case co => rfl
  case ge => rfl
  case kk => rfl
  case ce => decide
  intro dp un gd cn cs L a ccd cl outer base g L' news s B F X N T hd hu hpre hnews
  refine wp_gen fun QF hQF => ?_
  (repeat' (first | ((fail_if_success (with_reducible show wpAny _ _ (pyIter (Value.ref _)) _ _ _)); (fail_if_success (with_reducible show wpAny _ _ (execs (Stmt.If (Expr.Name _ _) _ _ _ :: _) _) _ _ _)); (fail_if_success (with_reducible show wpAny _ _ (execs (Stmt.Assign [Expr.Name (Str.ofString "w") _] _ _ :: _) _) _ _ _)); first | ((with_reducible show wpAny _ _ (PySem.truthy (Value.str _ _)) _ _ _); (refine PySem.P.truthy_str (by omega) ?_)) | ((with_reducible show wpAny _ _ (call (Value.builtin "len") [Value.str _ _]) _ _ _); (refine SBL.len (by omega) ?_)) | ((with_reducible show wpAny _ _ (delItem (Value.ref _) (Value.int 0 _)) _ _ _); k_here; k_dflt (refine' del_first ?F ?N ?U ?z ?_; (case F => k_asm); (case N => k_asm); (case U => k_upd); (case z => (simp only [List.length_cons]; omega))); intro _ _ _) | ((with_reducible show wpAny _ _ (subscriptTail _ _ (Value.ref _) (Value.int (-1) _)) _ _ _); (refine' item_lastS ?hl ?_ ?hs; (case hl => exact News.isList (by assumption) (.head _)); (case hs => with_unfolding_all rfl))) | ((with_reducible show wpAny _ _ (delItem (Value.ref _) (Value.int (-1) _)) _ _ _); (refine' del_last ?F ?N ?U ?z ?_; (case F => assumption); (case N => assumption); (case U => exact .head (List.forall_mem_nil _)); (case z => omega)); intro _ _ _) | ((with_reducible show wpAny _ _ (call (Value.builtin _) [Value.str _ _, Value.str _ _, Value.int _ _, Value.int _ _]) _ _ _); (refine call_find4 ?_)) | (k_unfold; (try dsimp only)) | (k_end; wrow_close) | walk1 | (dsimp only; walk1) | (leave1; walk_say "STEP leave1"; try dsimp only) | fail "no step")))
  · refine hQF _ _ ⟨_, _, _, _, rfl, by assumption, by assumption, ?_⟩
    clear hQF
    simp [ematch, *]
  · (rename List.isEmpty _ = false => hocc); (rename List (Str × Tok) => l); (rename List.map _ l = _ => hsp); (rename StrsAre _ _ => hS); (rename (∀ a, a ∈ _ → Str.length a ≤ _) => hlen); (rename (2 : Int) ≤ _ => h2); (rename Fr _ _ _ _ => F1); (rename News _ _ _ _ => N1); (rename Array.size _ < _ => e1); (rename Heap.IsList _ _ _ => hL0); clear hL0
    generalize (Shared.heap s).objs.size = lw at e1 F1 N1 ⊢
    obtain ⟨⟨w0, t0⟩, ⟨w1, t1⟩, l, rfl⟩ : ∃ p q r, l = p :: q :: r := by
      rcases l with _ | ⟨p, _ | ⟨q, r⟩⟩
      · simp at h2
      · simp at h2
      · exact ⟨p, q, r, rfl⟩
    refine wpAny_execs_cons ?_
    dsimp only
    (repeat' (first | ((fail_if_success (with_reducible show wpAny _ _ (pyIter (Value.ref _)) _ _ _)); (fail_if_success (with_reducible show wpAny _ _ (execs (Stmt.If (Expr.Name _ _) _ _ _ :: _) _) _ _ _)); (fail_if_success (with_reducible show wpAny _ _ (execs (Stmt.Assign [Expr.Name (Str.ofString "w") _] _ _ :: _) _) _ _ _)); first | ((with_reducible show wpAny _ _ (PySem.truthy (Value.str _ _)) _ _ _); (refine PySem.P.truthy_str (by omega) ?_)) | ((with_reducible show wpAny _ _ (call (Value.builtin "len") [Value.str _ _]) _ _ _); (refine SBL.len (by omega) ?_)) | ((with_reducible show wpAny _ _ (delItem (Value.ref _) (Value.int 0 _)) _ _ _); k_here; k_dflt (refine' del_first ?F ?N ?U ?z ?_; (case F => k_asm); (case N => k_asm); (case U => k_upd); (case z => (simp only [List.length_cons]; omega))); intro _ _ _) | ((with_reducible show wpAny _ _ (subscriptTail _ _ (Value.ref _) (Value.int (-1) _)) _ _ _); (refine' item_lastS ?hl ?_ ?hs; (case hl => exact News.isList (by assumption) (.head _)); (case hs => with_unfolding_all rfl))) | ((with_reducible show wpAny _ _ (delItem (Value.ref _) (Value.int (-1) _)) _ _ _); (refine' del_last ?F ?N ?U ?z ?_; (case F => assumption); (case N => assumption); (case U => exact .head (List.forall_mem_nil _)); (case z => omega)); intro _ _ _) | ((with_reducible show wpAny _ _ (call (Value.builtin _) [Value.str _ _, Value.str _ _, Value.int _ _, Value.int _ _]) _ _ _); (refine call_find4 ?_)) | (k_unfold; (try dsimp only)) | (k_end; wrow_close) | walk1 | (dsimp only; walk1) | (leave1; walk_say "STEP leave1"; try dsimp only) | fail "no step")))
    dsimp only
    (rename List.map _ _ = Txt.split _ _ => hsp); (rename (_[_]? = some _) => hw0); (rename Fr _ _ _ _ => F1); (rename News _ _ _ _ => N1)
    have hcnt := split_count x
    rw [← hsp] at hcnt
    simp only [List.length_map, List.length_cons] at hcnt
    simp only [List.map_cons, Int.toNat_zero, List.getElem?_cons_zero, Option.some.injEq] at hw0
    subst hw0
    have hl0 : w0.length ≤ x.length := hlen _ (by simp)
    refine cut_mid (σ := EllA) (h₀ := g) (L := L') (fun c => [(Str.ofString "ws", .ref lw), (Str.ofString "got", .str y u), (Str.ofString "startpos", .int c.p c.tp), (Str.ofString "endpos", .int (y.length : Int) c.te)])
      (fun c => [(lw, listOf (strValues c.ws).toArray c.n)]) (fun c => c.ws ≠ [] ∧ c.ws.length ≤ 1001 ∧ (∀ a ∈ c.ws.map (·.1), a.length ≤ x.length) ∧ stA y (Txt.split x (Str.ofString "...")) = some (c.p, c.ws.map (·.1))) ?one ?two
    case one =>
      refine wp_gen fun QM hQM => ?_
      (repeat' (first | ((fail_if_success (with_reducible show wpAny _ _ (pyIter (Value.ref _)) _ _ _)); (fail_if_success (with_reducible show wpAny _ _ (execs (Stmt.If (Expr.Name _ _) _ _ _ :: _) _) _ _ _)); (fail_if_success (with_reducible show wpAny _ _ (execs (Stmt.Assign [Expr.Name (Str.ofString "w") _] _ _ :: _) _) _ _ _)); first | ((with_reducible show wpAny _ _ (PySem.truthy (Value.str _ _)) _ _ _); (refine PySem.P.truthy_str (by omega) ?_)) | ((with_reducible show wpAny _ _ (call (Value.builtin "len") [Value.str _ _]) _ _ _); (refine SBL.len (by omega) ?_)) | ((with_reducible show wpAny _ _ (delItem (Value.ref _) (Value.int 0 _)) _ _ _); k_here; k_dflt (refine' del_first ?F ?N ?U ?z ?_; (case F => k_asm); (case N => k_asm); (case U => k_upd); (case z => (simp only [List.length_cons]; omega))); intro _ _ _) | ((with_reducible show wpAny _ _ (subscriptTail _ _ (Value.ref _) (Value.int (-1) _)) _ _ _); (refine' item_lastS ?hl ?_ ?hs; (case hl => exact News.isList (by assumption) (.head _)); (case hs => with_unfolding_all rfl))) | ((with_reducible show wpAny _ _ (delItem (Value.ref _) (Value.int (-1) _)) _ _ _); (refine' del_last ?F ?N ?U ?z ?_; (case F => assumption); (case N => assumption); (case U => exact .head (List.forall_mem_nil _)); (case z => omega)); intro _ _ _) | ((with_reducible show wpAny _ _ (call (Value.builtin _) [Value.str _ _, Value.str _ _, Value.int _ _, Value.int _ _]) _ _ _); (refine call_find4 ?_)) | (k_unfold; (try dsimp only)) | (k_end; wrow_close) | walk1 | (dsimp only; walk1) | (leave1; walk_say "STEP leave1"; try dsimp only) | fail "no step")))
      · (rename Fr _ _ _ _ => FE); (rename News _ _ _ _ => NE)
        exact hQM _ _ (lmid ⟨(w1, t1) :: l, _, _, _, _⟩ FE NE (Mine.fac (.tail _ (.head _)) (List.forall_mem_nil _)) (by ((repeat' (first | exact List.forall_mem_nil _ | refine Mine.fac (by with_unfolding_all rfl) ?_)))) ⟨by simp, (by simp only [List.length_cons]; omega), (fun a ha => hlen a (by simp only [List.map_cons]; exact .tail _ ha)), by rw [← hsp]; exact stA_yes (by assumption) (by assumption)⟩)
      · (rename Fr _ _ _ _ => FE); (rename News _ _ _ _ => NE)
        exact hQM _ _ (hQF _ _ ⟨_, _, _, _, rfl, FE, NE, by rw [ematch_A hocc (by rw [← hsp]; exact stA_no (by assumption) (by assumption))]⟩)
      · (rename Fr _ _ _ _ => FE); (rename News _ _ _ _ => NE)
        exact hQM _ _ (lmid ⟨(w0, t0) :: (w1, t1) :: l, _, _, _, _⟩ FE NE (Mine.fac (.tail _ (.head _)) (List.forall_mem_nil _)) (by ((repeat' (first | exact List.forall_mem_nil _ | refine Mine.fac (by with_unfolding_all rfl) ?_)))) ⟨by simp, (by simp only [List.length_cons]; omega), hlen, by rw [← hsp]; exact stA_nil (by (try dsimp only); omega)⟩)
    case two =>
      clear F1 N1 hS hlen h2 hcnt hl0
      intro c u9 h9 tk9 hI F2 N2
      refine and4 hI fun hne hcnt hlen hA => ?_
      clear hI
      obtain ⟨ws, n, p, tp, te⟩ := c
      (try dsimp only at hne hcnt hlen hA F2 N2 ⊢)
      obtain ⟨ws, ⟨wl, tl⟩, rfl⟩ : ∃ r q, ws = r ++ [q] := ⟨ws.dropLast, ws.getLast hne, (List.dropLast_concat_getLast hne).symm⟩
      refine wpAny_execs_cons ?_
      (try dsimp only)
      (repeat' (first | ((fail_if_success (with_reducible show wpAny _ _ (pyIter (Value.ref _)) _ _ _)); (fail_if_success (with_reducible show wpAny _ _ (execs (Stmt.If (Expr.Name _ _) _ _ _ :: _) _) _ _ _)); (fail_if_success (with_reducible show wpAny _ _ (execs (Stmt.Assign [Expr.Name (Str.ofString "w") _] _ _ :: _) _) _ _ _)); first | ((with_reducible show wpAny _ _ (PySem.truthy (Value.str _ _)) _ _ _); (refine PySem.P.truthy_str (by omega) ?_)) | ((with_reducible show wpAny _ _ (call (Value.builtin "len") [Value.str _ _]) _ _ _); (refine SBL.len (by omega) ?_)) | ((with_reducible show wpAny _ _ (delItem (Value.ref _) (Value.int 0 _)) _ _ _); k_here; k_dflt (refine' del_first ?F ?N ?U ?z ?_; (case F => k_asm); (case N => k_asm); (case U => k_upd); (case z => (simp only [List.length_cons]; omega))); intro _ _ _) | ((with_reducible show wpAny _ _ (subscriptTail _ _ (Value.ref _) (Value.int (-1) _)) _ _ _); (refine' item_lastS ?hl ?_ ?hs; (case hl => exact News.isList (by assumption) (.head _)); (case hs => with_unfolding_all rfl))) | ((with_reducible show wpAny _ _ (delItem (Value.ref _) (Value.int (-1) _)) _ _ _); (refine' del_last ?F ?N ?U ?z ?_; (case F => assumption); (case N => assumption); (case U => exact .head (List.forall_mem_nil _)); (case z => omega)); intro _ _ _) | ((with_reducible show wpAny _ _ (call (Value.builtin _) [Value.str _ _, Value.str _ _, Value.int _ _, Value.int _ _]) _ _ _); (refine call_find4 ?_)) | (k_unfold; (try dsimp only)) | (k_end; wrow_close) | walk1 | (dsimp only; walk1) | (leave1; walk_say "STEP leave1"; try dsimp only) | fail "no step")))
      (try dsimp only)
      (rename Fr _ _ _ _ => F1); (rename News _ _ _ _ => N1)
      have hl1 : wl.length ≤ x.length := hlen _ (by simp)
      refine cut_mid (σ := EllB) (h₀ := g) (L := L') (fun c => [(Str.ofString "ws", .ref lw), (Str.ofString "got", .str y u), (Str.ofString "startpos", .int p tp), (Str.ofString "endpos", .int c.e c.te)])
        (fun c => [(lw, listOf (strValues c.ws).toArray c.n)]) (fun c => (∀ a ∈ c.ws.map (·.1), a.length ≤ x.length) ∧ stB y ((ws ++ [(wl, tl)]).map (·.1)) = some (c.e, c.ws.map (·.1))) ?one2 ?two2
      case one2 =>
        refine wp_gen fun QM hQM => ?_
        (repeat' (first | ((fail_if_success (with_reducible show wpAny _ _ (pyIter (Value.ref _)) _ _ _)); (fail_if_success (with_reducible show wpAny _ _ (execs (Stmt.If (Expr.Name _ _) _ _ _ :: _) _) _ _ _)); (fail_if_success (with_reducible show wpAny _ _ (execs (Stmt.Assign [Expr.Name (Str.ofString "w") _] _ _ :: _) _) _ _ _)); first | ((with_reducible show wpAny _ _ (PySem.truthy (Value.str _ _)) _ _ _); (refine PySem.P.truthy_str (by omega) ?_)) | ((with_reducible show wpAny _ _ (call (Value.builtin "len") [Value.str _ _]) _ _ _); (refine SBL.len (by omega) ?_)) | ((with_reducible show wpAny _ _ (delItem (Value.ref _) (Value.int 0 _)) _ _ _); k_here; k_dflt (refine' del_first ?F ?N ?U ?z ?_; (case F => k_asm); (case N => k_asm); (case U => k_upd); (case z => (simp only [List.length_cons]; omega))); intro _ _ _) | ((with_reducible show wpAny _ _ (subscriptTail _ _ (Value.ref _) (Value.int (-1) _)) _ _ _); (refine' item_lastS ?hl ?_ ?hs; (case hl => exact News.isList (by assumption) (.head _)); (case hs => with_unfolding_all rfl))) | ((with_reducible show wpAny _ _ (delItem (Value.ref _) (Value.int (-1) _)) _ _ _); (refine' del_last ?F ?N ?U ?z ?_; (case F => assumption); (case N => assumption); (case U => exact .head (List.forall_mem_nil _)); (case z => omega)); intro _ _ _) | ((with_reducible show wpAny _ _ (call (Value.builtin _) [Value.str _ _, Value.str _ _, Value.int _ _, Value.int _ _]) _ _ _); (refine call_find4 ?_)) | (k_unfold; (try dsimp only)) | (k_end; wrow_close) | walk1 | (dsimp only; walk1) | (leave1; walk_say "STEP leave1"; try dsimp only) | fail "no step")))
        · (rename Fr _ _ _ _ => FE); (rename News _ _ _ _ => NE)
          exact hQM _ _ (lmid ⟨ws, _, _, _⟩ FE NE (Mine.fac (.head _) (List.forall_mem_nil _)) (by ((repeat' (first | exact List.forall_mem_nil _ | refine Mine.fac (by with_unfolding_all rfl) ?_)))) ⟨(fun a ha => hlen a (by rw [List.map_append]; exact List.mem_append_left _ ha)), by rw [List.map_append]; exact stB_yes (by assumption) (by assumption)⟩)
        · (rename Fr _ _ _ _ => FE); (rename News _ _ _ _ => NE)
          exact hQM _ _ (hQF _ _ ⟨_, _, _, _, rfl, FE, NE, by rw [ematch_B hocc hA (by rw [List.map_append]; exact stB_no (by assumption) (by assumption))]⟩)
        · (rename Fr _ _ _ _ => FE); (rename News _ _ _ _ => NE)
          exact hQM _ _ (lmid ⟨ws ++ [(wl, tl)], _, _, _⟩ FE NE (Mine.fac (.head _) (List.forall_mem_nil _)) (by ((repeat' (first | exact List.forall_mem_nil _ | refine Mine.fac (by with_unfolding_all rfl) ?_)))) ⟨hlen, by rw [List.map_append]; exact stB_nil (by (try dsimp only); omega)⟩)
      case two2 =>
        clear F1 N1 hl1
        intro c u8 h8 tk8 hI F2 N2
        refine and2 hI fun hlen2 hB => ?_
        clear hI
        obtain ⟨ws2, n2, e, te2⟩ := c
        (try dsimp only at hlen2 hB F2 N2 ⊢)
        have hC := ematch_C hocc hA hB
        (repeat' (first | ((fail_if_success (with_reducible show wpAny _ _ (pyIter (Value.ref _)) _ _ _)); (fail_if_success (with_reducible show wpAny _ _ (execs (Stmt.If (Expr.Name _ _) _ _ _ :: _) _) _ _ _)); (fail_if_success (with_reducible show wpAny _ _ (execs (Stmt.Assign [Expr.Name (Str.ofString "w") _] _ _ :: _) _) _ _ _)); first | ((with_reducible show wpAny _ _ (PySem.truthy (Value.str _ _)) _ _ _); (refine PySem.P.truthy_str (by omega) ?_)) | ((with_reducible show wpAny _ _ (call (Value.builtin "len") [Value.str _ _]) _ _ _); (refine SBL.len (by omega) ?_)) | ((with_reducible show wpAny _ _ (delItem (Value.ref _) (Value.int 0 _)) _ _ _); k_here; k_dflt (refine' del_first ?F ?N ?U ?z ?_; (case F => k_asm); (case N => k_asm); (case U => k_upd); (case z => (simp only [List.length_cons]; omega))); intro _ _ _) | ((with_reducible show wpAny _ _ (subscriptTail _ _ (Value.ref _) (Value.int (-1) _)) _ _ _); (refine' item_lastS ?hl ?_ ?hs; (case hl => exact News.isList (by assumption) (.head _)); (case hs => with_unfolding_all rfl))) | ((with_reducible show wpAny _ _ (delItem (Value.ref _) (Value.int (-1) _)) _ _ _); (refine' del_last ?F ?N ?U ?z ?_; (case F => assumption); (case N => assumption); (case U => exact .head (List.forall_mem_nil _)); (case z => omega)); intro _ _ _) | ((with_reducible show wpAny _ _ (call (Value.builtin _) [Value.str _ _, Value.str _ _, Value.int _ _, Value.int _ _]) _ _ _); (refine call_find4 ?_)) | (k_unfold; (try dsimp only)) | (k_end; wrow_close) | walk1 | (dsimp only; walk1) | (leave1; walk_say "STEP leave1"; try dsimp only) | fail "no step")))
        · (rename Fr _ _ _ _ => FE); (rename News _ _ _ _ => NE)
          exact hQF _ _ ⟨_, _, _, _, rfl, FE, NE, by rw [hC, if_pos (by first | assumption | omega)]⟩
        · have hp : ¬ p > e := by first | assumption | omega
          rw [if_neg hp] at hC
          (rename Fr _ _ _ _ => F2); (rename News _ _ _ _ => N2)
          refine' loop_list (σ := Int × Tok) (fun c => [(Str.ofString "got", .str y u), (Str.ofString "startpos", .int c.1 c.2), (Str.ofString "endpos", .int e te2)]) (fun _ => []) (fun _ _ => True)
            (fun i c => eFind y e ((ws2.map (·.1)).drop i) c.1 = eFind y e (ws2.map (·.1)) p) [] rfl (News.isList N2 (.head _)) (N2 _ (.head _)).2.1 (List.not_mem_nil) (fun _ => rfl) F2 N2 ⟨p, tp⟩ [] (fun _ h => nomatch h) (fun _ h => nomatch h) trivial ?hk rfl ?turn ?done
          case hk => ((repeat' (first | exact List.forall_mem_nil _ | refine Mine.fac (by with_unfolding_all rfl) ?_)))
          case turn =>
            intro i v c tl own u7 h tk hi hv ho _ hI F3 N3
            refine wp_gen fun QT hQT => ?_
            dsimp only [List.nil_append] at N3
            obtain ⟨⟨wi, ti⟩, hq, rfl⟩ := strValues_at hv
            obtain ⟨pc, tc⟩ := c
            (try dsimp only at F3 hI)
            have hli : wi.length ≤ x.length := hlen2 _ (List.mem_map.mpr ⟨_, List.mem_of_getElem? hq, rfl⟩)
            have hdrop : (ws2.map (·.1)).drop i = wi :: (ws2.map (·.1)).drop (i + 1) := by
              rw [List.drop_eq_getElem_cons (h := by rw [List.length_map]; simpa [strValues] using hi)]
              congr 1
              simp only [List.getElem_map]
              rw [List.getElem?_eq_some_iff] at hq
              obtain ⟨_, hq⟩ := hq
              rw [hq]
            rw [hdrop] at hI
            simp only [eFind] at hI
            (repeat' (first | ((fail_if_success (with_reducible show wpAny _ _ (pyIter (Value.ref _)) _ _ _)); (fail_if_success (with_reducible show wpAny _ _ (execs (Stmt.If (Expr.Name _ _) _ _ _ :: _) _) _ _ _)); (fail_if_success (with_reducible show wpAny _ _ (execs (Stmt.Assign [Expr.Name (Str.ofString "w") _] _ _ :: _) _) _ _ _)); first | ((with_reducible show wpAny _ _ (PySem.truthy (Value.str _ _)) _ _ _); (refine PySem.P.truthy_str (by omega) ?_)) | ((with_reducible show wpAny _ _ (call (Value.builtin "len") [Value.str _ _]) _ _ _); (refine SBL.len (by omega) ?_)) | ((with_reducible show wpAny _ _ (delItem (Value.ref _) (Value.int 0 _)) _ _ _); k_here; k_dflt (refine' del_first ?F ?N ?U ?z ?_; (case F => k_asm); (case N => k_asm); (case U => k_upd); (case z => (simp only [List.length_cons]; omega))); intro _ _ _) | ((with_reducible show wpAny _ _ (subscriptTail _ _ (Value.ref _) (Value.int (-1) _)) _ _ _); (refine' item_lastS ?hl ?_ ?hs; (case hl => exact News.isList (by assumption) (.head _)); (case hs => with_unfolding_all rfl))) | ((with_reducible show wpAny _ _ (delItem (Value.ref _) (Value.int (-1) _)) _ _ _); (refine' del_last ?F ?N ?U ?z ?_; (case F => assumption); (case N => assumption); (case U => exact .head (List.forall_mem_nil _)); (case z => omega)); intro _ _ _) | ((with_reducible show wpAny _ _ (call (Value.builtin _) [Value.str _ _, Value.str _ _, Value.int _ _, Value.int _ _]) _ _ _); (refine call_find4 ?_)) | (k_unfold; (try dsimp only)) | (k_end; wrow_close) | walk1 | (dsimp only; walk1) | (leave1; walk_say "STEP leave1"; try dsimp only) | fail "no step")))
            · (rename Fr _ _ _ _ => FE); (rename News _ _ _ _ => NE)
              rw [if_pos (by first | assumption | omega)] at hI
              exact hQT _ _ (hQF _ _ ⟨_, _, _, _, rfl, FE, NE, by rw [hC, ← hI]⟩)
            · (rename Fr _ _ _ _ => FE); (rename News _ _ _ _ => NE)
              rw [if_neg (by first | assumption | omega)] at hI
              exact hQT _ _ (lend (_, _) [] FE NE (fun p hp => hp) (fun _ h => nomatch h) trivial (by ((repeat' (first | exact List.forall_mem_nil _ | refine Mine.fac (by with_unfolding_all rfl) ?_)))) hI)
          case done =>
            intro c tl u7 h tk ho _ hI F3 N3
            dsimp only [List.nil_append] at N3
            (repeat' (first | ((fail_if_success (with_reducible show wpAny _ _ (pyIter (Value.ref _)) _ _ _)); (fail_if_success (with_reducible show wpAny _ _ (execs (Stmt.If (Expr.Name _ _) _ _ _ :: _) _) _ _ _)); (fail_if_success (with_reducible show wpAny _ _ (execs (Stmt.Assign [Expr.Name (Str.ofString "w") _] _ _ :: _) _) _ _ _)); first | ((with_reducible show wpAny _ _ (PySem.truthy (Value.str _ _)) _ _ _); (refine PySem.P.truthy_str (by omega) ?_)) | ((with_reducible show wpAny _ _ (call (Value.builtin "len") [Value.str _ _]) _ _ _); (refine SBL.len (by omega) ?_)) | ((with_reducible show wpAny _ _ (delItem (Value.ref _) (Value.int 0 _)) _ _ _); k_here; k_dflt (refine' del_first ?F ?N ?U ?z ?_; (case F => k_asm); (case N => k_asm); (case U => k_upd); (case z => (simp only [List.length_cons]; omega))); intro _ _ _) | ((with_reducible show wpAny _ _ (subscriptTail _ _ (Value.ref _) (Value.int (-1) _)) _ _ _); (refine' item_lastS ?hl ?_ ?hs; (case hl => exact News.isList (by assumption) (.head _)); (case hs => with_unfolding_all rfl))) | ((with_reducible show wpAny _ _ (delItem (Value.ref _) (Value.int (-1) _)) _ _ _); (refine' del_last ?F ?N ?U ?z ?_; (case F => assumption); (case N => assumption); (case U => exact .head (List.forall_mem_nil _)); (case z => omega)); intro _ _ _) | ((with_reducible show wpAny _ _ (call (Value.builtin _) [Value.str _ _, Value.str _ _, Value.int _ _, Value.int _ _]) _ _ _); (refine call_find4 ?_)) | (k_unfold; (try dsimp only)) | (k_end; wrow_close) | walk1 | (dsimp only; walk1) | (leave1; walk_say "STEP leave1"; try dsimp only) | fail "no step")))
            (rename Fr _ _ _ _ => FE); (rename News _ _ _ _ => NE)
            refine hQF _ _ ⟨_, _, _, _, rfl, FE, NE, ?_⟩
            rw [hC, ← hI, List.drop_of_length_le (by simp [strValues])]
            rfl
  · (rename List.isEmpty _ = false => hocc); (rename List.map _ _ = Txt.split _ _ => hsp); (rename ¬ (2 : Int) ≤ _ => h2)
    have h3 := split_two hocc
    rw [← hsp, List.length_map] at h3
    exact h2 (by omega)
end Mine
end
section
open PySem PySem.W PyProof.Rows PySem.Spec PySem.Calls
namespace Mine
theorem sz_ne {n a b : Nat} (h : (a == b) = false) : n + a ≠ n + b := fun e => by
  have := Nat.add_left_cancel e
  subst this
  rw [beq_self_eq_true] at h
  cases h
theorem sz_lt {a n k : Nat} (h : a < n) : a ≠ n + k := Nat.ne_of_lt (Nat.lt_of_lt_of_le h (Nat.le_add_right n k))
section
variable {prog : Program} {w : World} {A : Around} {E : Value → Shared → Prop} {s : Shared} {env : Env} {h₀ : Heap} {elts : List Expr} {body : List Stmt} {Q : Flow → Shared → Prop}
/-- the loop over pairs from here on -/
noncomputable def PAt (prog : Program) (w : World) (A : Around) (env : Env) (elts : List Expr) (body : List Stmt) (Q : Flow → Shared → Prop) (E : Value → Shared → Prop) (it : Value) (s₂ : Shared) : Prop :=
  ∀ pt x1, codeAny (model prog w) A (.forLoop (.Tuple elts x1 pt) it body [] env) (fun r s' => match r with | .ok f => Q f s' | .error e => cameBackBy (model prog w) A env E e s') s₂
theorem For_pairs {pt pos : Pos} {x1 : Nat} {iter : Expr}
    (h : wpAny (model prog w) A (eval iter env) (fun xv s₁ => wpAny (model prog w) A (pyIter xv) (fun it s₂ => PAt prog w A env elts body Q E it s₂) E s₁) E s)
    (hs : ∀ x, foldedSetIterable iter env x = pure x := by intro _; rfl) :
    wpAny (model prog w) A (exec (.For (.Tuple elts x1 pt) iter body [] pos) env) Q E s :=
  wpAny_For (wpAny_mono h (fun _ _ h₁ => wpAny_mono h₁ (fun _ _ h₂ => h₂ _ _) fun _ _ e => e) fun _ _ e => e) hs
theorem pairs_inv {σ : Type} {I : Addr} {fp wr : List Addr} {n : Nat} {Pt : Nat → Array Value → Prop} {St : Nat → Heap → Prop} {MidW : Nat → Addr → Heap → Prop} {m₀ : Str → Option Value} {news : List (Addr × Obj)}
    (ps : σ → List (Str × Value)) (front : σ → List (Addr × Obj)) (Facts : List (Addr × Obj) → σ → Prop) (Inv : Nat → σ → Prop) (adr : List Addr)
    (hh : A.handled = none) (W : WalksT prog w A I fp wr n Pt St MidW)
    (hels : ∀ i vals, Pt i vals → (assignEach elts env).length = vals.size) (hstar : (assignEach elts env).findIdx? (·.1) = none) (hE : PassesOwn (model prog w) A env E)
    (hLf : env.locals ∉ fp) (hwr : ∀ b ∈ wr, h₀.get? b = none) (hwl : ∀ i h, St i h → ∀ b ∈ wr, ∃ o, h.get? b = some o)
    (hadr : ∀ c, (front c).map (·.1) = adr) (hfa : ∀ a ∈ adr, a ∉ fp)
    (hst : St 0 s.heap) (F : Fr h₀ env.locals s.heap m₀) (N : News h₀ env.locals s.heap news)
    (c₀ : σ) (tl₀ : List (Addr × Obj)) (hn : ∀ p ∈ front c₀ ++ tl₀, p ∈ news) (ht : ∀ p ∈ tl₀, p.1 ∉ wr) (ht' : OwnOff tl₀ adr) (hf : Facts tl₀ c₀) (hk : ∀ p ∈ ps c₀, m₀ p.1 = some p.2) (h0 : Inv 0 c₀)
    (turn : ∀ i (vals : Array Value) c tl own u h tk, i < n → Pt i vals → OwnOff (tl ++ own) adr → Facts tl c → Inv i c → Fr h₀ env.locals h (kstB u (ps c)) → News h₀ env.locals h (front c ++ (tl ++ own)) →
      wpAny (model prog w) A (assignInOrder ((assignEach elts env).map (·.2)) vals.toList) (fun _ s₁ => wpAny (model prog w) A (execs body env) (LPost h₀ env.locals ps front Facts (Inv (i + 1)) tl own { s with heap := h, toks := tk } Q) E s₁) E { s with heap := h, toks := tk })
    (done : ∀ c tl u h tk, OwnOff tl adr → Facts tl c → Inv n c → Fr h₀ env.locals h (kstB u (ps c)) → News h₀ env.locals h (front c ++ tl) → Q .next { s with heap := h, toks := tk }) :
    PAt prog w A env elts body Q E (.ref I) s := by
  intro pt x1
  have hLw : env.locals ∉ wr := fun h => hLf (W.sub _ h)
  have old : ∀ b o, h₀.get? b = some o → b ∉ wr := fun b o e hb => by rw [hwr b hb] at e; cases e
  obtain ⟨J, mk, un⟩ : ∃ J : Nat → Shared → Prop, (∀ k s', (∃ h' tk m' c tl i, s' = { s with heap := h', toks := tk } ∧ St i h' ∧ Fr h₀ env.locals h' m' ∧ News h₀ env.locals h' (front c ++ tl) ∧ (∀ p ∈ front c ++ tl, p.1 ∉ wr) ∧ OwnOff tl adr ∧ Facts tl c ∧ (∀ p ∈ ps c, m' p.1 = some p.2) ∧ Inv i c ∧ i ≤ n ∧ k = n + 1 - i) → J k s') ∧ (∀ k s', J k s' → ∃ h' tk m' c tl i, s' = { s with heap := h', toks := tk } ∧ St i h' ∧ Fr h₀ env.locals h' m' ∧ News h₀ env.locals h' (front c ++ tl) ∧ (∀ p ∈ front c ++ tl, p.1 ∉ wr) ∧ OwnOff tl adr ∧ Facts tl c ∧ (∀ p ∈ ps c, m' p.1 = some p.2) ∧ Inv i c ∧ i ≤ n ∧ k = n + 1 - i) := ⟨_, fun _ _ h => h, fun _ _ h => h⟩
  refine codeAny_forLoop_any J ?_ (n + 1) (mk _ _
    ⟨s.heap, s.toks, m₀, c₀, tl₀, 0, rfl, hst, F, fun p hp => N p (hn p hp), ?_, ht', hf, hk, h0, Nat.zero_le _, rfl⟩)
  · intro k s' hJ
    obtain ⟨H, tk, m', c, tl, i, rfl, hst', F', N', hoff, ho, hf', hk', hI, hi, rfl⟩ := un _ _ hJ
    clear hJ
    have next : ∀ h₁ : Heap, (∀ b o, b ∉ wr → H.get? b = some o → h₁.get? b = some o) → Fr h₀ env.locals h₁ m' ∧ News h₀ env.locals h₁ (front c ++ tl) := fun h₁ hk₁ =>
      ⟨⟨F'.ns.at' fun o e => hk₁ _ o hLw e, fun b o e => hk₁ b o (old b o e) (F'.keep b o e), F'.above⟩, fun p hp => ⟨hk₁ _ _ (hoff p hp) (N' p hp).1, (N' p hp).2⟩⟩
    by_cases hlt : i < n
    · refine W.item i _ _ _ hlt hst' fun T vals h₁ tk₁ hPt _ hT hMid hk₁ => ?_
      refine W.go _ x1 pt i T _ _ _ hMid fun h₂ hst₂ hk₂ => ?_
      have ht₂ : h₂.IsTuple T vals := hT.at fun o e => hk₂ T o (W.apart i T h₁ hMid) e
      refine wpAny_assign_Tuple hh ht₂ (hels i vals hPt) hstar fun h₃ hx₃ => ?_
      replace hx₃ : Heap.ExtBut h₂.objs.size h₂ h₃ := hx₃
      have up₃ : ∀ b o, h₂.get? b = some o → h₃.get? b = some o := fun b o x => hx₃ b o (Nat.ne_of_lt (Heap.lt_size x)) x
      obtain ⟨F₅, N₅⟩ := next h₃ fun b o hb x => up₃ b o (hk₂ b o hb (hk₁ b o hb x))
      have hst₅ : St (i + 1) h₃ := W.frame _ _ _ hst₂ fun b _ o e => up₃ b o e
      have Nown : News h₀ env.locals h₃ (ownOf h₀ fp h₃) := news_ownOf hLf
      have o1 : OwnOff (ownOf h₀ fp h₃) adr := fun p hp b hb e => hfa b hb (e ▸ ownOf_sub p hp)
      have o2 : OwnOff (tl ++ ownOf h₀ fp h₃) adr := kd_off o1 ho
      have N₆ : News h₀ env.locals h₃ (front c ++ (tl ++ ownOf h₀ fp h₃)) := fun p hp => by
        rcases List.mem_append.mp hp with hp | hp
        · exact N₅ p (List.mem_append_left _ hp)
        · rcases List.mem_append.mp hp with hp | hp
          · exact N₅ p (List.mem_append_right _ hp)
          · exact Nown p hp
      have F₆ : Fr h₀ env.locals h₃ (kstB m' (ps c)) := by rw [kstB_same hk']; exact F₅
      refine wpAny_passesOwn hE (wpAny_mono (turn i vals c tl (ownOf h₀ fp h₃) m' h₃ _ hlt hPt o2 hf' hI F₆ N₆) (fun _ s₂ h₂ => wpAny_passesOwn hE (wpAny_mono h₂ (fun f s₃ p => ?_) fun _ _ e => e)) fun _ _ e => e)
      have fin : ∀ tk9, LEnd h₀ env.locals ps front Facts (Inv (i + 1)) tl (ownOf h₀ fp h₃) { s with heap := h₃, toks := tk9 } s₃ → ∃ mm, mm < n + 1 - i ∧ J mm s₃ := by
        rintro tk9 ⟨h', tk', m2, c', add, news', rfl, F7, N7, hin, hadd, hf2, hk2, hI2⟩
        refine ⟨n + 1 - (i + 1), by omega, mk _ _ ⟨h', tk', m2, c', add ++ tl, i + 1, rfl, ?_, F7, fun p hp => N7 p (hin p ?_), ?_, ?_, hf2, hk2, hI2, hlt, rfl⟩⟩
        · refine W.frame _ _ _ hst₅ fun b hb o e => ?_
          cases hn : h₀.get? b with
          | some o₀ =>
            have : o₀ = o := by have q := F₅.keep b o₀ hn; rw [e] at q; exact (Option.some.inj q).symm
            exact this ▸ F7.keep b o₀ hn
          | none => exact (N7 _ (hin _ (List.mem_append_right _ (List.mem_append_right _ (List.mem_append_right _ (mem_ownOf hb hn e)))))).1
        · rcases List.mem_append.mp hp with hp | hp
          · exact List.mem_append_left _ hp
          · rcases List.mem_append.mp hp with hp | hp
            · exact List.mem_append_right _ (List.mem_append_left _ hp)
            · exact List.mem_append_right _ (List.mem_append_right _ (List.mem_append_left _ hp))
        · intro p hp hb
          rcases List.mem_append.mp hp with hp | hp
          · exact hfa p.1 (hadr c' ▸ List.mem_map.mpr ⟨p, hp, rfl⟩) (W.sub _ hb)
          · rcases List.mem_append.mp hp with hp | hp
            · obtain ⟨o, hbo⟩ := hwl _ _ hst₅ _ hb
              exact hadd p hp _ (List.mem_append_right _ (List.mem_append_right _ (mem_ownOf (W.sub _ hb) (hwr _ hb) hbo))) rfl
            · exact hoff p (List.mem_append_right _ hp) hb
        · intro p hp b hb e
          rcases List.mem_append.mp hp with hp | hp
          · rw [← hadr c'] at hb
            obtain ⟨q, hq, rfl⟩ := List.mem_map.mp hb
            exact hadd p hp q (List.mem_append_left _ hq) e.symm
          · exact ho p hp b hb e
      cases f with
      | ret v => exact p
      | brk => exact p
      | next => exact fin _ p
      | cont => exact fin _ p
    · have hin : i = n := by omega
      subst hin
      refine W.done _ _ _ hst' fun h₁ tk₁ hk₁ => wpAny_execs_nil ?_
      obtain ⟨F₁, N₁⟩ := next h₁ hk₁
      exact done c tl m' h₁ tk₁ ho hf' hI (by rw [kstB_same hk']; exact F₁) N₁
  · intro p hp hb
    rcases List.mem_append.mp hp with hp | hp
    · exact hfa p.1 (hadr c₀ ▸ List.mem_map.mpr ⟨p, hp, rfl⟩) (W.sub _ hb)
    · exact ht p hp hb
/-- zip of two lists that no turn changes -/
theorem loop_zip {σ : Type} {l1 l2 : Addr} {vs1 vs2 : List Value} {m₀ : Str → Option Value} {news : List (Addr × Obj)}
    (ps : σ → List (Str × Value)) (front : σ → List (Addr × Obj)) (Facts : List (Addr × Obj) → σ → Prop) (Inv : Nat → σ → Prop) (adr : List Addr)
    (hh : A.handled = none) (hl1 : s.heap.IsList l1 vs1.toArray) (hl2 : s.heap.IsList l2 vs2.toArray) (hlL1 : l1 ≠ env.locals) (hlL2 : l2 ≠ env.locals) (hla1 : l1 ∉ adr) (hla2 : l2 ∉ adr)
    (hels : (assignEach elts env).length = 2) (hstar : (assignEach elts env).findIdx? (·.1) = none) (hE : PassesOwn (model prog w) A env E)
    (hadr : ∀ c, (front c).map (·.1) = adr) (F : Fr h₀ env.locals s.heap m₀) (N : News h₀ env.locals s.heap news)
    (c₀ : σ) (tl₀ : List (Addr × Obj)) (hn : ∀ p ∈ front c₀ ++ tl₀, p ∈ news) (ht' : OwnOff tl₀ adr) (hf : Facts tl₀ c₀) (hk : ∀ p ∈ ps c₀, m₀ p.1 = some p.2) (h0 : Inv 0 c₀)
    (turn : ∀ (i : Nat) v0 v1 c tl own u h tk, i < min vs1.length vs2.length → vs1[i]? = some v0 → vs2[i]? = some v1 → OwnOff (tl ++ own) adr → Facts tl c → Inv i c → Fr h₀ env.locals h (kstB u (ps c)) → News h₀ env.locals h (front c ++ (tl ++ own)) →
      wpAny (model prog w) A (assignInOrder ((assignEach elts env).map (·.2)) [v0, v1]) (fun _ s₁ => wpAny (model prog w) A (execs body env) (LPost h₀ env.locals ps front Facts (Inv (i + 1)) tl own { s with heap := h, toks := tk } Q) E s₁) E { s with heap := h, toks := tk })
    (done : ∀ c tl u h tk, OwnOff tl adr → Facts tl c → Inv (min vs1.length vs2.length) c → Fr h₀ env.locals h (kstB u (ps c)) → News h₀ env.locals h (front c ++ tl) → Q .next { s with heap := h, toks := tk }) :
    wpAny (model prog w) A (call (.type "zip") [.ref l1, .ref l2]) (fun xv s₁ => wpAny (model prog w) A (pyIter xv) (fun it s₂ => PAt prog w A env elts body Q E it s₂) E s₁) E s := by
  have lt1 : @LT.lt Nat instLTNat l1 s.heap.objs.size := by obtain ⟨o, ho, _⟩ := id hl1; exact Heap.lt_size ho
  have lt2 : @LT.lt Nat instLTNat l2 s.heap.objs.size := by obtain ⟨o, ho, _⟩ := id hl2; exact Heap.lt_size ho
  have ltL : @LT.lt Nat instLTNat env.locals s.heap.objs.size := F.ns.lt
  refine call_zip_2 hl1 hl2 fun h' hz hTI hTO hi1 hi2 hsz hkp => ?_
  have D : ZipApart (s.heap.objs.size + 4) (s.heap.objs.size + 2) (s.heap.objs.size + 3) s.heap.objs.size (s.heap.objs.size + 1) l1 l2 := by
    constructor <;> first | exact sz_ne (n := s.heap.objs.size) rfl | exact sz_ne (n := s.heap.objs.size) (b := 0) rfl | exact sz_ne (n := s.heap.objs.size) (a := 0) rfl | exact sz_lt lt1 | exact sz_lt lt2 | exact sz_lt (k := 0) lt1 | exact sz_lt (k := 0) lt2
  have hlen : min vs1.toArray.size vs2.toArray.size = min vs1.length vs2.length := by simp
  have W := WalksT.zip2 (prog := prog) (w := w) hh _ _ _ _ _ _ _ D vs1.toArray vs2.toArray
  rw [hlen] at W
  have F' : Fr h₀ env.locals h' m₀ := ⟨F.ns.at' fun o e => hkp _ o e, fun b o e => hkp b o (F.keep b o e), F.above⟩
  have N' : News h₀ env.locals h' news := fun p hp => ⟨hkp _ _ (N p hp).1, (N p hp).2⟩
  have hlt : ∀ p ∈ news, @LT.lt Nat instLTNat p.1 s.heap.objs.size := fun p hp => Heap.lt_size (N p hp).1
  have hst : (IsZip h' (s.heap.objs.size + 4) (s.heap.objs.size + 2) (s.heap.objs.size + 3) .none ∧ IsPair h' (s.heap.objs.size + 2) (.ref s.heap.objs.size) (.ref (s.heap.objs.size + 1)) ∧ (∃ a b, IsPair h' (s.heap.objs.size + 3) a b) ∧ h'.IsListIter s.heap.objs.size l1 0 ∧ h'.IsListIter (s.heap.objs.size + 1) l2 0 ∧ h'.IsList l1 vs1.toArray ∧ h'.IsList l2 vs2.toArray) :=
    ⟨hz, hTI, ⟨_, _, hTO⟩, hi1, hi2, hl1.at fun o e => hkp _ o e, hl2.at fun o e => hkp _ o e⟩
  have fresh : ∀ b : Nat, s.heap.objs.size ≤ b → h₀.get? b = none := fun b hb => by
    cases e : h₀.get? b with
    | none => rfl
    | some o => exact absurd (Heap.lt_size (F.keep b o e)) (Nat.not_lt.mpr hb)
  have hadr' : ∀ a ∈ adr, @LT.lt Nat instLTNat a s.heap.objs.size := fun a ha => by
    rw [← hadr c₀] at ha
    obtain ⟨q, hq, rfl⟩ := List.mem_map.mp ha
    exact hlt q (hn q (List.mem_append_left _ hq))
  refine W.self 0 _ _ _ hst ?_
  refine pairs_inv ps front Facts Inv adr hh W ?_ hstar hE ?_ ?_ ?_ hadr ?_ hst F' N' c₀ tl₀ hn ?_ ht' hf hk h0 ?_ done
  · rintro i vals ⟨x, y, hx, hy, rfl⟩
    exact hels
  · intro hm
    simp only [List.mem_cons, List.not_mem_nil, or_false] at hm
    rcases hm with e | e | e | e | e | e | e
    iterate 5 (· first | exact absurd e (sz_lt ltL) | exact absurd e (sz_lt (k := 0) ltL))
    · exact hlL1 e.symm
    · exact hlL2 e.symm
  · intro b hb
    simp only [List.mem_cons, List.not_mem_nil, or_false] at hb
    rcases hb with rfl | rfl | rfl | rfl <;> first | exact fresh _ (Nat.le_add_right _ _) | exact fresh _ (Nat.le_refl _)
  · rintro i h ⟨g1, g2, ⟨a, b, g3⟩, ⟨o4, g4, _⟩, ⟨o5, g5, _⟩, g6, g7⟩ b hb
    simp only [List.mem_cons, List.not_mem_nil, or_false] at hb
    rcases hb with rfl | rfl | rfl | rfl
    · exact ⟨_, g1⟩
    · exact ⟨_, g3⟩
    · exact ⟨_, g4⟩
    · exact ⟨_, g5⟩
  · intro a ha hm
    have := hadr' a ha
    simp only [List.mem_cons, List.not_mem_nil, or_false] at hm
    rcases hm with e | e | e | e | e | e | e
    iterate 5 (· first | exact absurd e (sz_lt this) | exact absurd e (sz_lt (k := 0) this))
    · exact hla1 (e ▸ ha)
    · exact hla2 (e ▸ ha)
  · intro p hp hm
    have := hlt p (hn p (List.mem_append_right _ hp))
    simp only [List.mem_cons, List.not_mem_nil, or_false] at hm
    rcases hm with e | e | e | e <;> first | exact absurd e (sz_lt this) | exact absurd e (sz_lt (k := 0) this)
  · rintro i vals c tl own u h tk hi ⟨x, y, hx, hy, rfl⟩ ho hf' hI F₁ N₁
    exact turn i x y c tl own u h tk hi (by simpa using hx) (by simpa using hy) ho hf' hI F₁ N₁
end
end Mine
end
section
open PySem PySem.W PyProof.Rows PySem.Spec PySem.Calls
namespace Mine
/-- the end of a body whose frame has cells: what the caller had made stands, some is new -/
noncomputable def DoneC (g : Heap) (L : Addr) (post : List (Addr × Obj) → Value → Prop) (news : List (Addr × Obj)) (s : Shared) (fl : Flow) (s' : Shared) : Prop :=
  ∃ h' tk' m' tl news', s' = { s with heap := h', toks := tk' } ∧ Fr g L h' m' ∧ News g L h' news' ∧ (∀ p ∈ news, p ∈ news') ∧ (∀ p ∈ tl, p ∈ news') ∧ (∀ q ∈ news, ∀ p ∈ tl, q.1 ≠ p.1) ∧ post tl (match fl with | .ret v => v | _ => .none)
theorem tellC_enter {w : World} {mean : ExcName → Option Value} {mg mb : Str → Option Value} {f : Addr} {vs : List Value} {pre : List (Addr × Obj) → Prop} {post : List (Addr × Obj) → Value → Prop}
    {name qual : Str} {params : Arguments} {body : List Stmt} {scope : Scope} {dV kV doc pm cdv ct oc : Value} {an od : Option Addr} {osl : Array (Option Value)} {binds : List (Str × Value)}
    (ho : (hd.heap_39 (World.params w)).lookup f = some ⟨oc, od, .func (fnOf name qual params body scope dV kV doc pm an cdv ct), osl⟩) (hcd : codeIn (hd.heap_39 (World.params w)) cdv qual = true)
    (hbind : ∀ s, BindsTo s (fnOf name qual params body scope dV kV doc pm an cdv ct) ⟨vs, []⟩ binds) (hkind : (binds.all fun y => scope.names.lookup y.1 == some .local || scope.names.lookup y.1 == some .cell) = true)
    (hnd : ((cellsFrom 0 scope.names []).map (·.1)).Nodup) (hco : scope.isCoroutine = false) (hgen : scope.isGenerator = false) (hk : scope.kind = .function)
    (walk : ∀ (dp un : Nat) (gd : Option (List Code)) (cn : Str) (cs : Scope) (L a : Addr) (ccd : Value) (cl : List (Str × Addr)) (outer : List Env) (base g : Heap) (L' : Addr) (news cells : List (Addr × Obj)) (s : Shared),
      Below (ktrTop dp un gd cn cs L a ccd cl outer) base (envX cn cs L a ccd cl :: outer) g → Fr g L' s.heap (bindL (envOfC qual scope L' f cdv).kindOf binds fun _ => none) → News g L' s.heap (cells ++ news) →
      CellsAre (bindC (envOfC qual scope L' f cdv).kindOf binds fun _ => none) (cellsFrom (L' + 1) scope.names []) cells → (hd.heap_39 (World.params w)).In g → Top topProg (looseW hd.view_39 [] ++ List.map (fun x => DefRec.name x) (recsOf hd.view_39) ++
        List.map (fun x => Prod.fst x) (litsOf hd.view_39) ++ List.map (fun x => ClsRec.name x) (clssOf hd.view_39 (looseW hd.view_39 []))) mean mg mb g → (∀ p ∈ news, p.1 < L') → dp + 20 < recursionLimit → un + 100 < cLine → pre news →
      wpAny (model (RowW.prog (OpenRow.toRowW (OpenLaw.row Challenge.rw_mr0099_01))) w) ((ktrTop dp un gd cn cs L a ccd cl outer).deeper (envOfC qual scope L' f cdv)) (execs body (envOfC qual scope L' f cdv)) (DoneC g L' post news s) (fun _ _ => False) s) :
    Tell w mean mg mb f vs pre post := by
  intro dp un gd cn cs a ccd cl outer A₀ base h₀ L m news s Q E B F X N T hks hd hu hpre hret
  refine wpAny_call ?_
  refine code_defC B F X N T rfl rfl hks ho hcd (by show dp < recursionLimit; omega) (hbind s) hkind hnd (fun g L' h₁ tk cells FG F' N' Y B' X' T' l1 => ?_) hco hgen hk
  refine wpAny_mono (walk dp un gd cn cs L a ccd cl outer base g L' news cells _ B' F' N' Y X' T' l1 hd hu hpre) (fun fl s' hdn => ?_) (fun _ _ h => h.elim)
  obtain ⟨h', tk', m', tl, news', rfl, F2, N2, hn1, hn2, hne, hp⟩ := hdn
  refine ⟨L', m', news', F2, N2, fun F3 N3 => ?_⟩
  refine hret _ tl h' tk' F3 (fun p hp => ?_) hne hp
  rcases List.mem_append.mp hp with hp | hp
  · exact N3 p (hn1 p hp)
  · exact N3 p (hn2 p hp)
end Mine
end
section
open PySem PySem.W PyProof.Rows PySem.Spec PySem.Calls
namespace Mine
open PyProof.Rows.LCg
/-- what a list comprehension has built behind i items -/
inductive Built (tb : Nat → Bool) (El : Nat → Value → Prop) : Nat → List Value → Prop
  | zero : Built tb El 0 []
  | yes {i : Nat} {ys : List Value} {y : Value} : Built tb El i ys → tb i = true → El i y → Built tb El (i + 1) (ys ++ [y])
  | no {i : Nat} {ys : List Value} : Built tb El i ys → tb i = false → Built tb El (i + 1) ys
section
variable {prog : Program} {w : World} {A : Around} {E : Value → Shared → Prop} {s : Shared} {h₀ : Heap} {L : Addr} {m : Str → Option Value} {env : Env}
theorem compLoop_tupT {elt iter ct : Expr} {elts : List Expr} {x1} {tp : Pos} {scope : Scope} {pos : Pos} {it acc : Value} {cenv : Env} {R : Result → Shared → Prop} (I : Nat → Shared → Prop)
    (turn : ∀ n s, I n s → wpAny (model prog w) A (pyNext it) (fun r s₁ => match r with
      | none => R (.ok .next) s₁
      | some v => wpAny (model prog w) A (letOwnedTupleGo (.Tuple elts x1 tp) it v) (fun _ s₁' => wpAny (model prog w) A (assign (.Tuple elts x1 tp) cenv v) (fun _ s₂ =>
          wpAny (model prog w) A (isTrue ct cenv (eval ct cenv)) (fun ok s₃ =>
            if ok = true then wpAny (model prog w) A (eval elt cenv) (fun x s₄ =>
              wpAny (model prog w) A (call (.builtin "list.append") [acc, x]) (fun _ s₅ => ∃ m, m < n ∧ I m s₅) (fun _ _ => False) s₄) (fun _ _ => False) s₃
            else ∃ m, m < n ∧ I m s₃) (fun _ _ => False) s₂) (fun _ _ => False) s₁') (fun _ _ => False) s₁) (fun _ _ => False) s)
    (n : Nat) (h : I n s) : codeAny (model prog w) A (.compLoop (.ListComp elt [⟨.Tuple elts x1 tp, iter, [ct], 0⟩] scope pos) 0 it acc cenv) R s := by
  refine codeAny_loop rfl I (fun n s hI => ?_) n h
  show wpAny _ A ((compTurn (.ListComp elt [⟨.Tuple elts x1 tp, iter, [ct], 0⟩] scope pos) 0 it acc cenv).onRaise (fun x => do noteFrame x cenv; theTreesLotGoes x)) _ _ s
  refine wpAny_noted ?_
  rw [compTurn_list]
  refine wpAny_bind (wpAny_standAt (wpAny_bind (wpAny_mono (turn n s hI) (fun r s₁ h₁ => ?_) fun _ _ h' => h'.elim)))
  cases r with
  | none => exact wpAny_pure h₁
  | some v =>
    refine wpAny_bind (wpAny_mono h₁ (fun _ s₁' h₁' => ?_) fun _ _ h' => h'.elim)
    refine wpAny_bind (wpAny_mono h₁' (fun _ s₂ h₂ => wpAny_bind (wpAny_tests_one (wpAny_mono h₂ (fun ok s₃ h₃ => ?_) fun _ _ h' => h'.elim))) fun _ _ h' => h'.elim)
    cases ok with
    | false => exact wpAny_pure ⟨rfl, h₃⟩
    | true =>
      exact wpAny_bind (wpAny_bind (wpAny_mono h₃ (fun x s₄ h₄ => wpAny_bind (wpAny_mono h₄ (fun _ s₅ h₅ => wpAny_pure (wpAny_pure ⟨rfl, h₅⟩)) fun _ _ h' => h'.elim)) fun _ _ h' => h'.elim))
/-- where a test or an element leaves the block: nothing has changed -/
noncomputable def CKeep (h₀ : Heap) (L : Addr) (m : Str → Option Value) (led : List (Addr × Obj)) (s₁ s₂ : Shared) : Prop :=
  ∃ h' tk', s₂ = { s₁ with heap := h', toks := tk' } ∧ Fr h₀ L h' m ∧ News h₀ L h' led
noncomputable def CTurn (prog : Program) (w : World) (A : Around) (h₀ : Heap) (L : Addr) (m : Str → Option Value) (env : Env) (ct elt : Expr) (xa xb xc : Str) (scope : Scope) (cl : List (Str × Addr)) (its : Array Value) (news : List (Addr × Obj)) (tb : Nat → Bool) (El : Nat → Value → Prop) (s₁ : Shared) : Prop :=
  ∀ i v, its[i]? = some v → ∃ (t : Addr) (ot : Obj) (va vb vc : Value) (nt : Nat), v = .ref t ∧ (t, ot) ∈ news ∧ ot.cls = .type "tuple" ∧ ot.data = .seq #[va, vb, vc] nt ∧
    ∀ I oI C oC D ys m₂ h tk, NsObj oC m₂ → m₂ xa = some va → m₂ xb = some vb → m₂ xc = some vc → Fr h₀ L h m → News h₀ L h ((I, oI) :: (C, oC) :: (D, lst ys) :: news) → Off3 I C D news → ((@Ne Nat I C) ∧ (@Ne Nat I D) ∧ (@Ne Nat C D)) →
      wpAny (model prog w) A (isTrue ct (compEnvC scope cl C env) (eval ct (compEnvC scope cl C env)))
        (fun ok s' => ok = tb i ∧ CKeep h₀ L m ((I, oI) :: (C, oC) :: (D, lst ys) :: news) { s₁ with heap := h, toks := tk } s' ∧
          (ok = true → wpAny (model prog w) A (eval elt (compEnvC scope cl C env)) (fun y s'' => El i y ∧ CKeep h₀ L m ((I, oI) :: (C, oC) :: (D, lst ys) :: news) { s₁ with heap := h, toks := tk } s'') (fun _ _ => False) s'))
        (fun _ _ => False) { s₁ with heap := h, toks := tk }
noncomputable def CSrc (prog : Program) (w : World) (A : Around) (h₀ : Heap) (L : Addr) (m : Str → Option Value) (env : Env) (ct elt : Expr) (xa xb xc : Str) (scope : Scope) (cl : List (Str × Addr)) (Q : Value → Shared → Prop) (xv : Value) (s₁ : Shared) : Prop :=
  ∃ ax its news tb El, xv = .ref ax ∧ A.handled = none ∧ Fr h₀ L s₁.heap m ∧ News h₀ L s₁.heap news ∧ SrcAt h₀ ax its news ∧ its.size ≤ sizeLine ∧
    (∀ g, CTurn prog w A h₀ L m env ct elt xa xb xc scope cl its news tb El { s₁ with heap := g }) ∧
    ∀ D ys h tk, Built tb El its.size ys → Fr h₀ L h m → News h₀ L h ((D, lst ys) :: news) → Off1 D news → Q (.ref D) { s₁ with heap := h, toks := tk }
theorem comp3 {ct elt iter : Expr} {xa xb xc : Str} {pa pb pc tp pos : Pos} {k : Nat} {scope : Scope} {cl : List (Str × Addr)} {Q : Value → Shared → Prop}
    (_F : Fr h₀ L s.heap m) (hclos : closureFor scope env = pure cl) (hcell : ∀ y ∈ scope.names, y.2 ≠ .cell) (hkind : scope.kind = .function) (hnames : ∀ y ∈ scope.names, y.2 = .local → scope.names.lookup y.1 = some .local)
    (hxa : scope.names.lookup xa = some .local) (hxb : scope.names.lookup xb = some .local) (hxc : scope.names.lookup xc = some .local) (hab : xa ≠ xb) (hac : xa ≠ xc) (hbc : xb ≠ xc)
    (h : wpAny (model prog w) A (eval iter env) (CSrc prog w A h₀ L m env ct elt xa xb xc scope cl Q) E s) (hs : ∀ x, foldedSetIterable iter env x = pure x := by intro _; rfl) :
    wpAny (model prog w) A (eval (.ListComp elt [⟨.Tuple [.Name xa pa, .Name xb pb, .Name xc pc] k tp, iter, [ct], 0⟩] scope pos) env) Q E s := by
  rw [eval_ListComp]
  refine wpAny_comprehension_free (use := none) rfl hs hclos hkind hnames (wpAny_mono h (fun xv s₁ h₁ => ?_) fun _ _ e => e)
  obtain ⟨ax, its, news, tb, El, rfl, hh, F, N, S, hsz, turn, fin⟩ := h₁
  have hl := S.list F.keep N
  have hlt : ax < s₁.heap.objs.size := by obtain ⟨_, e, _⟩ := hl; exact Heap.lt_size e
  have hne : ax ≠ s₁.heap.objs.size := Nat.ne_of_lt hlt
  refine wpAny_pyIter_list hl ?_
  refine wpAny_newObj_type (wpAny_newFunctionEnv hcell (by intro y hy; simp at hy) (fun h₁ hns₁ hsb₁ => ?_) hkind)
  dsimp only at hns₁ hsb₁ ⊢
  have hltL : L < s₁.heap.objs.size := F.ns.lt
  have hltN : ∀ p ∈ news, p.1 < s₁.heap.objs.size := fun p hp => Heap.lt_size (N p hp).1
  generalize hI : s₁.heap.objs.size = I at *
  generalize hH1 : s₁.heap.push { cls := .type "list_iterator", data := .fields #[.ref ax, .int 0 0] } = H1 at *
  have z1 : H1.objs.size = I + 1 := by rw [← hH1, Heap.size_push, hI]
  generalize hD : H1.objs.size = D at *
  generalize hH2 : H1.push { cls := .type "list", dict := none, data := .seq ([] : List Value).toArray } = H2 at *
  have z2 : H2.objs.size = D + 1 := by rw [← hH2, Heap.size_push, hD]
  generalize hC : H2.objs.size = C at *
  have up1 : ∀ b o, s₁.heap.get? b = some o → H1.get? b = some o := fun b o e => hH1 ▸ Heap.get?_push_of_some _ e
  have up2 : ∀ b o, H1.get? b = some o → H2.get? b = some o := fun b o e => hH2 ▸ Heap.get?_push_of_some _ e
  have lID : @LT.lt Nat instLTNat I D := by omega
  have lDC : @LT.lt Nat instLTNat D C := by omega
  have lIC : @LT.lt Nat instLTNat I C := Nat.lt_trans lID lDC
  have nIC : @Ne Nat I C := Nat.ne_of_lt lIC
  have nID : @Ne Nat I D := Nat.ne_of_lt lID
  have nCD : @Ne Nat C D := Nat.ne_of_gt lDC
  have nLI : @Ne Nat L I := Nat.ne_of_lt hltL
  have nLC : @Ne Nat L C := Nat.ne_of_lt (Nat.lt_trans hltL lIC)
  have nLD : @Ne Nat L D := Nat.ne_of_lt (Nat.lt_trans hltL lID)
  have nAI : ax ≠ I := hne
  have nAC : @Ne Nat ax C := Nat.ne_of_lt (Nat.lt_trans hlt lIC)
  have nAD : @Ne Nat ax D := Nat.ne_of_lt (Nat.lt_trans hlt lID)
  have off : Off3 I C D news := Off3.of fun p hp => by
    have h9 : @LT.lt Nat instLTNat p.1 I := hltN p hp
    exact ⟨Nat.ne_of_lt h9, Nat.ne_of_lt (Nat.lt_trans h9 lIC), Nat.ne_of_lt (Nat.lt_trans h9 lID)⟩
  have offm := off.mem
  have up3 : ∀ b o, b ≠ C → H2.get? b = some o → h₁.get? b = some o := fun b o hb e => hsb₁.extBut b o hb (Heap.get?_push_of_some _ e)
  have fresh : ∀ b : Nat, I ≤ b → h₀.get? b = none := fun b hb => by
    cases e : h₀.get? b with
    | none => rfl
    | some o' => exact absurd (Heap.lt_size (F.keep b o' e)) (by rw [hI]; exact Nat.not_lt.mpr hb)
  have fI := fresh I (Nat.le_refl _)
  have fD := fresh D (Nat.le_of_lt lID)
  have fC := fresh C (Nat.le_of_lt lIC)
  have old : ∀ b o, s₁.heap.get? b = some o → h₁.get? b = some o := fun b o e => up3 b o (fun q => by
    have h9 : @LT.lt Nat instLTNat b I := hI ▸ Heap.lt_size e
    exact absurd q (Nat.ne_of_lt (Nat.lt_trans h9 lIC))) (up2 b o (up1 b o e))
  have W := Walks.list (prog := prog) (w := w) hh I ax nAI its
  have gI : h₁.IsListIter I ax 0 := ⟨_, up3 _ _ nIC (up2 _ _ (hH1 ▸ hI ▸ Heap.get?_push_size _ rfl)), rfl, rfl⟩
  have gA : h₁.IsList ax its := hl.at fun o e => old _ o e
  have gD : h₁.get? D = some (lst []) := up3 _ _ (Ne.symm nCD) (hH2 ▸ hD ▸ Heap.get?_push_size _ rfl)
  have F1 : Fr h₀ L h₁ m := F.keeps old
  have N1 : News h₀ L h₁ ((D, lst []) :: news) := fun p hp => by
    rcases List.mem_cons.mp hp with rfl | hp
    · exact ⟨gD, Ne.symm nLD, fD⟩
    · exact ⟨old _ _ (N p hp).1, (N p hp).2⟩
  have loop : ∀ s₃ : Shared, s₃ = { s₁ with heap := h₁, toks := s₁.toks + ([] : List (Str × Value)).length } →
      codeAny (model prog w) A (.compLoop (.ListComp elt [⟨.Tuple [.Name xa pa, .Name xb pb, .Name xc pc] k tp, iter, [ct], 0⟩] scope pos) 0 (.ref I) (.ref D) (compEnvC scope cl C env))
        (compPost (model prog w) A E none Q (.ref D) C) s₃ := by
    rintro s₃ rfl
    obtain ⟨J, mk, un⟩ : ∃ J : Nat → Shared → Prop, (∀ kk s', (∃ h' tk i ys m', s' = { s₁ with heap := h', toks := tk } ∧ i ≤ its.size ∧ kk = its.size + 1 - i ∧ Built tb El i ys ∧ ys.length ≤ i ∧ (h'.IsListIter I ax i ∧ h'.IsList ax its) ∧ Fr h₀ L h' m ∧ h'.Ns C m' ∧ News h₀ L h' ((D, lst ys) :: news)) → J kk s') ∧ (∀ kk s', J kk s' → ∃ h' tk i ys m', s' = { s₁ with heap := h', toks := tk } ∧ i ≤ its.size ∧ kk = its.size + 1 - i ∧ Built tb El i ys ∧ ys.length ≤ i ∧ (h'.IsListIter I ax i ∧ h'.IsList ax its) ∧ Fr h₀ L h' m ∧ h'.Ns C m' ∧ News h₀ L h' ((D, lst ys) :: news)) := ⟨_, fun _ _ h => h, fun _ _ h => h⟩
    refine compLoop_tupT J ?_ (its.size + 1) (mk _ _
      ⟨h₁, _, 0, [], _, rfl, Nat.zero_le _, rfl, .zero, Nat.le_refl _, ⟨gI, gA⟩, F1, hns₁, N1⟩)
    intro kk s' hJ
    obtain ⟨h', tk, i, ys, m', rfl, hi, rfl, hb, hyl, hst', F', hn', N'⟩ := un _ _ hJ
    clear hJ
    by_cases hlt' : i < its.size
    · refine W.item i _ _ _ hlt' hst' fun v h₂ tk₂ hPv hst₂ hk₂ => ?_
      obtain ⟨t, ot, va, vb, vc, nt, rfl, hmt, hct, hdt, R⟩ := turn h' i v hPv
      have N₂ : News h₀ L h₂ ((D, lst ys) :: news) := news_but N' hk₂ fun p hp => by
        rcases List.mem_cons.mp hp with rfl | hp
        · exact Ne.symm nID
        · exact (offm p hp).1
      have ht : IsTup h₂ t #[va, vb, vc] := ⟨ot, (N₂ _ (List.mem_cons_of_mem _ hmt)).1, hct, nt, hdt⟩
      refine wpAny_letOwnedTupleGo_listiter hst₂.1 ?_
      refine assign_Tuple_tuple hh ht rfl rfl fun h₅ he => ?_
      have he' : ∀ b o, h₂.get? b = some o → h₅.get? b = some o := fun b o e => he b o (Nat.ne_of_lt (Heap.lt_size e)) e
      have hn₂ : h₅.Ns C m' := (hn'.at' fun o e => hk₂ _ o (by simpa using Ne.symm nIC) e).at' fun o e => he' _ o e
      refine assignInOrder_cons (wpAny_assign_Name (wpAny_storeName_local (lookup_relabel_local hxa) hn₂ (fun h₆ hn₆ hs₆ => ?_) (by simp [compEnvC, relabel, hkind])))
      refine assignInOrder_cons (wpAny_assign_Name (wpAny_storeName_local (lookup_relabel_local hxb) hn₆ (fun h₇ hn₇ hs₇ => ?_) (by simp [compEnvC, relabel, hkind])))
      refine assignInOrder_cons (wpAny_assign_Name (wpAny_storeName_local (lookup_relabel_local hxc) hn₇ (fun h₃ hn₃ hs₃ => ?_) (by simp [compEnvC, relabel, hkind])))
      refine assignInOrder_nil ?_
      have old3 : ∀ b o, b ≠ C → h₂.get? b = some o → h₃.get? b = some o := fun b o hb e => hs₃.extBut b o hb (hs₇.extBut b o hb (hs₆.extBut b o hb (he' b o e)))
      have gI3 : h₃.IsListIter I ax (i + 1) := hst₂.1.at fun o e => old3 _ o nIC e
      have gA3 : h₃.IsList ax its := hst₂.2.at fun o e => old3 _ o nAC e
      obtain ⟨oI, heI, hIr⟩ := id gI3
      obtain ⟨oC, heC, hoC⟩ := ns_obj hn₃
      have F₃ : Fr h₀ L h₃ m := ((((fr_but F' hk₂ nLI fI).keeps he').change hs₆ (Ne.symm nLC) fC).change hs₇ (Ne.symm nLC) fC).change hs₃ (Ne.symm nLC) fC
      have N₃ : News h₀ L h₃ ((I, oI) :: (C, oC) :: (D, lst ys) :: news) := fun p hp => by
        rcases List.mem_cons.mp hp with rfl | hp
        · exact ⟨heI, Ne.symm nLI, fI⟩
        · rcases List.mem_cons.mp hp with rfl | hp
          · exact ⟨heC, Ne.symm nLC, fC⟩
          · have z := N₂ p hp
            refine ⟨old3 _ _ ?_ z.1, z.2⟩
            rcases List.mem_cons.mp hp with rfl | hp
            · exact Ne.symm nCD
            · exact (offm p hp).2.1
      refine wpAny_mono (R I oI C oC D ys _ h₃ _ hoC (by simp [hab, hac]) (by simp [hbc]) (by simp) F₃ N₃ off ⟨nIC, nID, nCD⟩) (fun ok s₄ h₄ => ?_) fun _ _ e => e
      obtain ⟨hok, ⟨h₈, tk₈, rfl, F₈, N₈⟩, hel⟩ := h₄
      have st : ∀ hh9 : Heap, News h₀ L hh9 ((I, oI) :: (C, oC) :: (D, lst ys) :: news) → Fr h₀ L hh9 m → (hh9.IsListIter I ax (i + 1) ∧ hh9.IsList ax its) := fun hh9 N9 F9 =>
        ⟨⟨oI, (N9 _ (.head _)).1, hIr⟩, S.list F9.keep fun p hp => N9 p (.tail _ (.tail _ (.tail _ hp)))⟩
      cases ok with
      | true =>
        simp only [if_true]
        refine wpAny_mono (hel rfl) (fun y s₅ h₅ => ?_) fun _ _ e => e
        obtain ⟨hy, h₉, tk₉, rfl, F₉, N₉⟩ := h₅
        have zC := (N₉ (C, oC) (.tail _ (.head _))).1
        have zD := (N₉ (D, lst ys) (.tail _ (.tail _ (.head _)))).1
        obtain ⟨s1, s2⟩ := st h₉ N₉ F₉
        refine append_at (hsz := by show ys.toArray.size ≤ sizeLine; rw [List.size_toArray]; exact Nat.le_trans (Nat.le_trans hyl hi) hsz) zD fun h10 hs10 hD10 => ?_
        refine ⟨its.size + 1 - (i + 1), by omega, mk _ _ ⟨h10, _, i + 1, ys ++ [y], _, rfl, hlt', rfl, .yes hb hok.symm hy, by rw [List.length_append, List.length_singleton]; exact Nat.succ_le_succ hyl, ⟨s1.at fun o e => hs10.extBut _ o nID e, s2.at fun o e => hs10.extBut _ o nAD e⟩, F₉.change hs10 (Ne.symm nLD) fD, (hoC.ns zC).sameBut hs10 nCD, fun p hp => ?_⟩⟩
        rcases List.mem_cons.mp hp with rfl | hp
        · exact ⟨hD10.trans (congrArg some (lst_snoc ys y)), Ne.symm nLD, fD⟩
        · exact ⟨hs10.extBut _ _ (offm p hp).2.2 (N₉ p (.tail _ (.tail _ (.tail _ hp)))).1, (N₉ p (.tail _ (.tail _ (.tail _ hp)))).2⟩
      | false =>
        simp only [Bool.false_eq_true, if_false]
        have zC := (N₈ (C, oC) (.tail _ (.head _))).1
        exact ⟨its.size + 1 - (i + 1), by omega, mk _ _ ⟨h₈, tk₈, i + 1, ys, _, rfl, hlt', rfl, .no hb hok.symm, Nat.le_succ_of_le hyl, st h₈ N₈ F₈, F₈, hoC.ns zC, fun p hp => N₈ p (.tail _ (.tail _ hp))⟩⟩
    · obtain rfl : i = its.size := Nat.le_antisymm hi (Nat.not_lt.mp hlt')
      refine W.done _ _ _ hst' fun h₂ tk₂ hk₂ => ?_
      refine ⟨m', hn'.at' fun o e => hk₂ _ o (by simpa using Ne.symm nIC) e, fun h'' hs'' => ?_⟩
      refine fin D ys h'' tk₂ hb ((fr_but F' hk₂ nLI fI).change hs'' (Ne.symm nLC) fC) (fun p hp => ?_) off.one
      have z : h₂.get? p.1 = some p.2 := hk₂ _ _ (by
        rcases List.mem_cons.mp hp with rfl | hp
        · simpa using Ne.symm nID
        · simpa using (offm p hp).1) (N' p hp).1
      refine ⟨hs''.extBut _ _ ?_ z, (N' p hp).2⟩
      rcases List.mem_cons.mp hp with rfl | hp
      · exact Ne.symm nCD
      · exact (offm p hp).2.1
  exact codeAny_compStart_list (loop _ rfl) (W.self 0 _ _ _ ⟨gI, gA⟩ (loop _ rfl))
end
end Mine
end
local macro_rules | `(tactic| walk_at "PAD 0") => `(tactic| skip)
local macro_rules | `(tactic| walk_at "PAD 1") => `(tactic| skip)
section
open PySem PySem.W PyProof.Rows PySem.Spec PySem.Calls
set_option genInjectivity false
set_option genSizeOf false
namespace Mine
theorem fillK3 (w : World) (h : Heap) : (hd.heap_39 (World.params w)).In h → (RowW.prog (OpenRow.toRowW (OpenLaw.row Challenge.rw_mr0099_01))) = (RowW.prog (OpenRow.toRowW (OpenLaw.row Challenge.rw_mr0099_01))) := by
  w_top off
  k_fill
  intro _
  rfl
abbrev Told := Int × Int × Int
noncomputable def toldDat (p : Told) : Dat := .tuple [.int p.1, .int p.2.1, .int p.2.2]
noncomputable def minL (l : List Int) : Int := l.min?.getD 0
theorem minL_is {l : List Int} {M : Int} (h : M ∈ l) (hm : ∀ a ∈ l, M ≤ a) : minL l = M := by
  rw [minL, List.min?_eq_some_iff.mpr ⟨h, hm⟩]
  rfl
noncomputable def fitTest (which : Int) (free : Bool) (ends : List Int) (least : Int) (p : Told) : Bool :=
  p.1 == which && (decide (0 < p.2.2) && ((ends.any fun x => x == p.2.1) || (free && decide (least ≤ p.2.1))))
section
variable {k least : Int} {fr : Bool} {ends : List Int} {q : Told}
theorem ft1 (h1 : q.1 = k) (h2 : 0 < q.2.2) (h3 : (ends.any fun x => x == q.2.1) = true) : true = fitTest k fr ends least q := by rw [fitTest, h3]; simp [h1, h2]
theorem ft2 (h1 : q.1 = k) (h2 : 0 < q.2.2) (h4 : fr = true) (h5 : least ≤ q.2.1) : true = fitTest k fr ends least q := by rw [fitTest, h4]; simp [h1, h2, h5]
theorem ft3 (h3 : (ends.any fun x => x == q.2.1) = false) (h5 : ¬ least ≤ q.2.1) : false = fitTest k fr ends least q := by rw [fitTest, h3]; simp [h5]
theorem ft4 (h3 : (ends.any fun x => x == q.2.1) = false) (h4 : fr = false) : false = fitTest k fr ends least q := by rw [fitTest, h3, h4]; simp
theorem ft5 (h2 : ¬ 0 < q.2.2) : false = fitTest k fr ends least q := by rw [fitTest]; simp [h2]
theorem ft6 (h1 : q.1 ≠ k) : false = fitTest k fr ends least q := by rw [fitTest]; simp [h1]
end
noncomputable def fitStep (told : List Told) (size : Int) (ends : List Int) (p : Int × Bool) : List Int :=
  (told.filter (fitTest p.1 p.2 ends (minL (ends ++ [size])))).map fun t => t.2.1 + t.2.2
noncomputable def endsOf (told : List Told) (size : Int) (l : List (Int × Bool)) : List Int := l.foldl (fitStep told size) [0]
theorem endsOf_len (told : List Told) (size : Int) (l : List (Int × Bool)) : (endsOf told size l).length ≤ told.length + 1 := by
  unfold endsOf
  suffices h : ∀ e : List Int, e.length ≤ told.length + 1 → (l.foldl (fitStep told size) e).length ≤ told.length + 1 from h [0] (by simp)
  induction l with
  | nil => exact fun e h => h
  | cons p r ih =>
    intro e _
    refine ih _ ?_
    simp only [fitStep, List.length_map]
    exact Nat.le_succ_of_le (List.length_filter_le _ _)
theorem off1_mem {D : Addr} : ∀ {l : List (Addr × Obj)}, LCg.Off1 D l → ∀ p ∈ l, p.1 ≠ D
  | [], _, _, h => nomatch h
  | _ :: _, x, p, h => by
    rcases List.mem_cons.mp h with rfl | h
    · exact x.1
    · exact off1_mem x.2 p h
theorem datInts {news : List (Addr × Obj)} : ∀ {vs : List Value} {ns : List Int}, DatAll news vs (ns.map .int) → IntsAre vs ns
  | [], [], _ => .nil
  | [], _ :: _, h => by cases h
  | _ :: _, [], h => by cases h
  | v :: vs, n :: ns, h => by
    cases h with
    | cons h r => cases h; exact .cons _ _ (datInts r)
theorem datGet {news : List (Addr × Obj)} {vs : List Value} {ds : List Dat} {i : Nat} {v : Value} (h : DatAll news vs ds) (e : vs[i]? = some v) : ∃ d, ds[i]? = some d ∧ DatIn news v d := by
  have hlt : i < ds.length := by
    rw [← h.length]
    exact (List.getElem?_eq_some_iff.mp e).1
  obtain ⟨v', e', hD⟩ := h.get hlt
  rw [e] at e'
  cases e'
  exact ⟨_, List.getElem?_eq_getElem hlt, hD⟩
theorem datBoolAt {news : List (Addr × Obj)} {vs : List Value} {bs : List Bool} {i : Nat} {v : Value} (h : DatAll news vs (bs.map .bool)) (e : vs[i]? = some v) : ∃ b, v = .bool b ∧ bs[i]? = some b := by
  obtain ⟨d, hd, hD⟩ := datGet h e
  rw [List.getElem?_map, Option.map_eq_some_iff] at hd
  obtain ⟨b, hb, rfl⟩ := hd
  cases hD
  exact ⟨b, rfl, hb⟩
theorem da_cons {news : List (Addr × Obj)} {vs : List Value} {d : Dat} {ds : List Dat} (h : DatAll news vs (d :: ds)) : ∃ v vs', vs = v :: vs' ∧ DatIn news v d ∧ DatAll news vs' ds := by
  cases h with
  | cons h r => exact ⟨_, _, rfl, h, r⟩
theorem da_nil {news : List (Addr × Obj)} {vs : List Value} (h : DatAll news vs []) : vs = [] := by cases h; rfl
theorem di_tup {news : List (Addr × Obj)} {v : Value} {ds : List Dat} (h : DatIn news v (.tuple ds)) : ∃ a vs n, v = .ref a ∧ (a, ({ cls := .type "tuple", data := .seq (List.toArray vs) n } : Obj)) ∈ news ∧ DatAll news vs ds := by
  cases h with
  | tuple m r => exact ⟨_, _, _, rfl, m, r⟩
theorem di_list {news : List (Addr × Obj)} {v : Value} {ds : List Dat} (h : DatIn news v (.list ds)) : ∃ a vs n, v = .ref a ∧ (a, listOf (List.toArray vs) n) ∈ news ∧ DatAll news vs ds := by
  cases h with
  | list m r => exact ⟨_, _, _, rfl, m, r⟩
theorem di_int {news : List (Addr × Obj)} {v : Value} {i : Int} (h : DatIn news v (.int i)) : ∃ t, v = .int i t := by cases h; exact ⟨_, rfl⟩
theorem di_str {news : List (Addr × Obj)} {v : Value} {x : Str} (h : DatIn news v (.str x)) : ∃ t, v = .str x t := by cases h; exact ⟨_, rfl⟩
theorem datToldAt {news : List (Addr × Obj)} {vs : List Value} {ts : List Told} {i : Nat} {v : Value} (h : DatAll news vs (ts.map toldDat)) (e : vs[i]? = some v) :
    ∃ (t : Addr) (ot : Obj) (va vb vc : Value) (nt' : Nat), v = .ref t ∧ (t, ot) ∈ news ∧ ot.cls = .type "tuple" ∧ ot.data = .seq #[va, vb, vc] nt' ∧ (∃ t, va = .int (ts.getD i (0, 0, 0)).1 t) ∧ (∃ t, vb = .int (ts.getD i (0, 0, 0)).2.1 t) ∧ (∃ t, vc = .int (ts.getD i (0, 0, 0)).2.2 t) := by
  obtain ⟨d, hd, hD⟩ := datGet h e
  rw [List.getElem?_map, Option.map_eq_some_iff] at hd
  obtain ⟨q, hq, rfl⟩ := hd
  have hg : ts.getD i (0, 0, 0) = q := by simp [List.getD, hq]
  rw [hg]
  obtain ⟨a, vs, n, rfl, m, r⟩ := di_tup hD
  obtain ⟨v1, vs1, rfl, h1, r1⟩ := da_cons r
  obtain ⟨v2, vs2, rfl, h2, r2⟩ := da_cons r1
  obtain ⟨v3, vs3, rfl, h3, r3⟩ := da_cons r2
  obtain rfl := da_nil r3
  exact ⟨a, _, v1, v2, v3, n, rfl, m, rfl, rfl, di_int h1, di_int h2, di_int h3⟩
theorem builtInts {ts : List Told} {f : Told → Bool} {g : Told → Int} : ∀ {n : Nat} {ys : List Value}, n ≤ ts.length → Built (fun j => f (ts.getD j (0, 0, 0))) (fun j y => ∃ t, y = .int (g (ts.getD j (0, 0, 0))) t) n ys → IntsAre ys (((ts.take n).filter f).map g)
  | 0, _, _, h => by cases h; exact .nil
  | n + 1, ys, hn, h => by
    have hq : ts[n]? = some (ts.getD n (0, 0, 0)) := by
      rw [List.getElem?_eq_getElem (by omega), List.getD, List.getElem?_eq_getElem (by omega)]
      rfl
    have e : ts.take (n + 1) = ts.take n ++ [ts.getD n (0, 0, 0)] := by rw [List.take_add_one, hq]; rfl
    cases h with
    | yes hb ht hy =>
      obtain ⟨t, rfl⟩ := hy
      rw [e, List.filter_append, List.filter_cons, if_pos ht, List.filter_nil, List.map_append]
      exact (builtInts (by omega) hb).append (.cons _ _ .nil)
    | no hb ht =>
      rw [e, List.filter_append, List.filter_cons, if_neg (by rw [ht]; exact Bool.false_ne_true), List.filter_nil, List.append_nil]
      exact builtInts (by omega) hb
theorem endsOf_succ {told : List Told} {size : Int} {l : List (Int × Bool)} {i : Nat} {p : Int × Bool} (h : l[i]? = some p) : endsOf told size (l.take (i + 1)) = fitStep told size (endsOf told size (l.take i)) p := by
  rw [List.take_add_one, h, endsOf, List.foldl_append]
  rfl
theorem datLastBool {news : List (Addr × Obj)} {vs : List Value} {bs : List Bool} (h : DatAll news vs (bs.map .bool)) (hne : bs ≠ []) : ∃ vs0 bs0 b, vs = vs0 ++ [.bool b] ∧ bs = bs0 ++ [b] := by
  have hv : vs ≠ [] := by
    intro e
    have h1 := h.length
    rw [e, List.length_map] at h1
    exact hne (List.length_eq_zero_iff.mp h1.symm)
  have e1 := (List.dropLast_concat_getLast hv).symm
  rw [e1] at h
  obtain ⟨es, d, e2, _, hd⟩ := h.snoc
  have e3 := (List.dropLast_concat_getLast hne).symm
  rw [e3, List.map_append, List.map_cons, List.map_nil] at e2
  obtain ⟨_, e4⟩ := List.append_inj' e2 rfl
  simp only [List.cons.injEq, and_true] at e4
  rw [← e4] at hd
  generalize hl : vs.getLast hv = lv at *
  cases hd
  exact ⟨_, _, _, e1, e3⟩
noncomputable def fits (row : List Int) (dots : List Bool) (told : List Told) (size : Int) : Bool :=
  if dots.getLastD false then !(endsOf told size (row.zip dots)).isEmpty else (endsOf told size (row.zip dots)).any fun x => x == size
structure FitSt where
  o1 : Obj
  o2 : Obj
  o3 : Obj
  o4 : Obj
  x1 : Option Value
  x2 : Option Value
  x3 : Option Value
  le : Addr
  evs : List Value
  ne : Nat
set_option maxHeartbeats 8000000 in
theorem fit_tell (w : World) (mean : ExcName → Option Value) (mg mb : Str → Option Value) (row : List Int) (dots : List Bool) (told : List Told) (size : Int) (vr vd vt : Value) (ts : Tok) :
   Tell w mean mg mb 114 [vr, vd, vt, .int size ts] (fun news => DatIn news vr (.list (row.map .int)) ∧ DatIn news vd (.list (dots.map .bool)) ∧ DatIn news vt (.list (told.map toldDat)) ∧ told.length ≤ 100 ∧ dots ≠ []) (fun tl r => r = .bool (fits row dots told size)) := by
  refine' tellC_enter (binds := [(Str.ofString "row", vr), (Str.ofString "dots", vd), (Str.ofString "told", vt), (Str.ofString "size", .int size ts)]) ?ho ?hcd ?hb ?hl ?hnd ?co ?ge ?kk ?walk
  case ho => k_is
  case hcd => k_is
  case hb => exact fun s => BindsTo.of_eq rfl
  case hl => rfl
  case hnd => decide +kernel
  case co => rfl
  case ge => rfl
  case kk => rfl
  intro dp un gd cn cs L a ccd cl outer base g L' news cells s B F N Y X T l1 hd hu hpre
  refine wp_gen fun QF hQF => ?_
  refine and5 hpre fun hr hd' ht hlen hne => ?_
  clear hpre
  cases hr with
  | list mr dr =>
  cases hd' with
  | list md dd =>
  cases ht with
  | list mt dt =>
  k_cells Y
  dsimp only [List.cons_append, List.nil_append] at N
  have hoff : OwnOff news [L' + 1 + 1 + 1 + 1, L' + 1 + 1 + 1, L' + 1 + 1, L' + 1] := fun p hp b hb e => by
    have h1 : @LT.lt Nat instLTNat p.1 L' := l1 p hp
    simp only [List.mem_cons, List.not_mem_nil, or_false] at hb
    subst e
    rcases hb with e | e | e | e <;> (replace e : (_ : Nat) = (_ : Nat) := e; omega)
  rename_i lr rvs nr ld dvs nd lt tvs nt o1 o2 o3 o4 d1 d2 d3 d4
  (repeat' (first | ((fail_if_success (with_reducible show wpAny _ _ (pyIter (Value.ref _)) _ _ _)); (fail_if_success (with_reducible show _ ∧ _)); (fail_if_success (with_reducible show wpAny _ _ (call (Value.type "zip") _) _ _ _)); (fail_if_success (with_reducible show wpAny _ _ (call (Value.builtin "min") _) _ _ _)); (fail_if_success (with_reducible show wpAny _ _ (binaryOp Operator.Add (Value.ref _) (Value.ref _)) _ _ _)); (fail_if_success (with_reducible show wpAny _ _ (exec (Stmt.Assign [Expr.Name (Str.ofString "ends") _] (Expr.ListComp _ _ _ _) _) _) _ _ _)); first | ((with_reducible show wpAny _ _ (compareOp CmpOp.In (Value.int _ _) (Value.ref _)) _ _ _); (refine' in_list_ints ?hl ?hi ?_; (case hl => assumption); (case hi => assumption))) | ((with_reducible show wpAny _ _ (exec (Stmt.For (Expr.Tuple _ _ _) _ _ _ _) _) _ _ _); refine For_pairs ?_) | (k_unfold; (try dsimp only)) | (k_end; wrow_close) | walk1 | (dsimp only; walk1) | (leave1; walk_say "STEP leave1"; try dsimp only) | fail "no step")))
  (rename Fr _ _ _ _ => F1); (rename News _ _ _ _ => N1); (rename Obj.data _ = Data.cell (some _) => d5)
  rename_i le _ l1b _ oe
  have l1n : ∀ p ∈ news, p.1 ≠ L' := fun p hp => Nat.ne_of_lt (l1 p hp)
  have leo : ∀ b ∈ [L' + 1 + 1 + 1 + 1, L' + 1 + 1 + 1, L' + 1 + 1, L' + 1], le ≠ b := fun b hb e => by
    simp only [List.mem_cons, List.not_mem_nil, or_false] at hb
    obtain ⟨a1, a2, a3, a4, _⟩ := l1b
    subst e
    rcases hb with e | e | e | e <;> (replace e : (_ : Nat) = (_ : Nat) := e; omega)
  refine' loop_zip (σ := FitSt) (h₀ := g) (vs1 := rvs) (vs2 := dvs) (fun c => [(Str.ofString "row", .ref lr), (Str.ofString "dots", .ref ld), (Str.ofString "told", .ref lt), (Str.ofString "size", .int size ts)])
    (fun c => [(L' + 1 + 1 + 1 + 1, c.o1), (L' + 1 + 1 + 1, c.o2), (L' + 1 + 1, c.o3), (L' + 1, c.o4)]) (fun tl c => (∀ p ∈ news, p ∈ tl) ∧ (c.le, listOf c.evs.toArray c.ne) ∈ tl)
    (fun i c => c.o1.data = .cell c.x1 ∧ c.o2.data = .cell c.x2 ∧ c.o3.data = .cell c.x3 ∧ c.o4.data = .cell (some (.ref c.le)) ∧ IntsAre c.evs (endsOf told size ((row.zip dots).take i)))
    [L' + 1 + 1 + 1 + 1, L' + 1 + 1 + 1, L' + 1 + 1, L' + 1] rfl (News.isList N1 (.tail _ (.tail _ (.tail _ (.tail _ (.tail _ mr)))))) (News.isList N1 (.tail _ (.tail _ (.tail _ (.tail _ (.tail _ md)))))) (l1n _ mr) (l1n _ md) (fun hm => hoff _ mr _ hm rfl) (fun hm => hoff _ md _ hm rfl) rfl rfl PassesOwn.never (fun _ => rfl) F1 N1
    ⟨o1, o2, o3, oe, none, none, none, le, [.int 0 (Shared.toks s)], 0⟩ ((le, listOf [.int 0 (Shared.toks s)].toArray 0) :: news) ?hn ?ht ⟨fun p hp => .tail _ hp, .head _⟩ ?hk ⟨d1, d2, d3, d5, .cons 0 _ .nil⟩ ?turn ?done
  case hn =>
    intro p hp
    simp only [List.cons_append, List.nil_append, List.mem_cons] at hp ⊢
    rcases hp with h | h | h | h | h | h <;> simp [h]
  case ht =>
    intro p hp b hb
    rcases List.mem_cons.mp hp with rfl | hp
    · exact leo b hb
    · exact hoff p hp b hb
  case hk => ((repeat' (first | exact List.forall_mem_nil _ | refine Mine.fac (by with_unfolding_all rfl) ?_)))
  case turn =>
    clear F1 N1 d5 d1 d2 d3 d4 leo l1b
    intro i v0 v1 c tl own u h tk hi hv0 hv1 ho hF hI F2 N2
    refine wp_gen_in fun QT hQT => ?_
    refine and2 hF fun hF1 hF2 => ?_
    clear hF
    refine and5 hI fun c1 c2 c3 c4 hev => ?_
    clear hI
    dsimp only [List.nil_append, List.cons_append] at N2
    obtain ⟨p1, p2, p3, p4, x1, x2, x3, lc, evs, ne⟩ := c
    dsimp only at c1 c2 c3 c4 hev hF2 N2
    have hmt := hF1 _ mt
    obtain ⟨k, t0, rfl, hk⟩ : ∃ k t0, v0 = .int k t0 ∧ row[i]? = some k := by
      obtain ⟨k, t0, e, h⟩ := (datInts dr).at i v0 hv0
      exact ⟨k, t0, e, h⟩
    obtain ⟨fr, rfl, hfr⟩ : ∃ fr, v1 = .bool fr ∧ dots[i]? = some fr := datBoolAt dd hv1
    (repeat' (first | ((fail_if_success (with_reducible show wpAny _ _ (pyIter (Value.ref _)) _ _ _)); (fail_if_success (with_reducible show _ ∧ _)); (fail_if_success (with_reducible show wpAny _ _ (call (Value.type "zip") _) _ _ _)); (fail_if_success (with_reducible show wpAny _ _ (call (Value.builtin "min") _) _ _ _)); (fail_if_success (with_reducible show wpAny _ _ (binaryOp Operator.Add (Value.ref _) (Value.ref _)) _ _ _)); (fail_if_success (with_reducible show wpAny _ _ (exec (Stmt.Assign [Expr.Name (Str.ofString "ends") _] (Expr.ListComp _ _ _ _) _) _) _ _ _)); first | ((with_reducible show wpAny _ _ (compareOp CmpOp.In (Value.int _ _) (Value.ref _)) _ _ _); (refine' in_list_ints ?hl ?hi ?_; (case hl => assumption); (case hi => assumption))) | ((with_reducible show wpAny _ _ (exec (Stmt.For (Expr.Tuple _ _ _) _ _ _ _) _) _ _ _); refine For_pairs ?_) | (k_unfold; (try dsimp only)) | (k_end; wrow_close) | walk1 | (dsimp only; walk1) | (leave1; walk_say "STEP leave1"; try dsimp only) | fail "no step")))
    (rename Fr _ _ _ _ => F3); (rename News _ _ _ _ => N3)
    have hel := endsOf_len told size ((row.zip dots).take i)
    refine add_lists_ints F3 N3 (News.isList N3 (.tail _ (.tail _ (.tail _ (.tail _ (.tail _ (List.mem_append_left _ hF2))))))) (News.isList N3 (.head _)) hev (.cons _ _ .nil) ?_ (by simp only [List.length_cons, List.length_nil]; rw [sizeLine_eq]; omega)
    intro h4 F4 N4 hi4
    dsimp only at F4 N4 ⊢
    (repeat' (first | ((fail_if_success (with_reducible show wpAny _ _ (pyIter (Value.ref _)) _ _ _)); (fail_if_success (with_reducible show _ ∧ _)); (fail_if_success (with_reducible show wpAny _ _ (call (Value.type "zip") _) _ _ _)); (fail_if_success (with_reducible show wpAny _ _ (call (Value.builtin "min") _) _ _ _)); (fail_if_success (with_reducible show wpAny _ _ (binaryOp Operator.Add (Value.ref _) (Value.ref _)) _ _ _)); (fail_if_success (with_reducible show wpAny _ _ (exec (Stmt.Assign [Expr.Name (Str.ofString "ends") _] (Expr.ListComp _ _ _ _) _) _) _ _ _)); first | ((with_reducible show wpAny _ _ (compareOp CmpOp.In (Value.int _ _) (Value.ref _)) _ _ _); (refine' in_list_ints ?hl ?hi ?_; (case hl => assumption); (case hi => assumption))) | ((with_reducible show wpAny _ _ (exec (Stmt.For (Expr.Tuple _ _ _) _ _ _ _) _) _ _ _); refine For_pairs ?_) | (k_unfold; (try dsimp only)) | (k_end; wrow_close) | walk1 | (dsimp only; walk1) | (leave1; walk_say "STEP leave1"; try dsimp only) | fail "no step")))
    (rename Fr _ _ _ _ => F4); (rename News _ _ _ _ => N4)
    refine kso_min F4 N4 (News.isList N4 (.head _)) hi4 (by simp) rfl ?_
    intro h5 M tM tk5 F5 N5 hM1 hM2
    have hM := minL_is hM1 hM2
    subst hM
    replace N5 := fun p hp => N5 p (.tail _ (.tail _ hp))
    replace N5 : News g L' h5 _ := N5
    clear F2 N2 F3 N3 F4 N4 hi4
    dsimp only at F5 ⊢
    (repeat' (first | ((fail_if_success (with_reducible show wpAny _ _ (pyIter (Value.ref _)) _ _ _)); (fail_if_success (with_reducible show _ ∧ _)); (fail_if_success (with_reducible show wpAny _ _ (call (Value.type "zip") _) _ _ _)); (fail_if_success (with_reducible show wpAny _ _ (call (Value.builtin "min") _) _ _ _)); (fail_if_success (with_reducible show wpAny _ _ (binaryOp Operator.Add (Value.ref _) (Value.ref _)) _ _ _)); (fail_if_success (with_reducible show wpAny _ _ (exec (Stmt.Assign [Expr.Name (Str.ofString "ends") _] (Expr.ListComp _ _ _ _) _) _) _ _ _)); first | ((with_reducible show wpAny _ _ (compareOp CmpOp.In (Value.int _ _) (Value.ref _)) _ _ _); (refine' in_list_ints ?hl ?hi ?_; (case hl => assumption); (case hi => assumption))) | ((with_reducible show wpAny _ _ (exec (Stmt.For (Expr.Tuple _ _ _) _ _ _ _) _) _ _ _); refine For_pairs ?_) | (k_unfold; (try dsimp only)) | (k_end; wrow_close) | walk1 | (dsimp only; walk1) | (leave1; walk_say "STEP leave1"; try dsimp only) | fail "no step")))
    (rename Fr _ _ _ _ => F6); (rename News _ _ _ _ => N6)
    refine wpAny_Assign_Name ?_ rfl
    refine comp3 F6 rfl ?_ rfl ?_ rfl rfl rfl ?_ ?_ ?_ ?_
    · decide
    · decide
    · decide
    · decide
    · decide
    (repeat' (first | ((fail_if_success (with_reducible show wpAny _ _ (pyIter (Value.ref _)) _ _ _)); (fail_if_success (with_reducible show _ ∧ _)); (fail_if_success (with_reducible show wpAny _ _ (call (Value.type "zip") _) _ _ _)); (fail_if_success (with_reducible show wpAny _ _ (call (Value.builtin "min") _) _ _ _)); (fail_if_success (with_reducible show wpAny _ _ (binaryOp Operator.Add (Value.ref _) (Value.ref _)) _ _ _)); (fail_if_success (with_reducible show wpAny _ _ (exec (Stmt.Assign [Expr.Name (Str.ofString "ends") _] (Expr.ListComp _ _ _ _) _) _) _ _ _)); first | ((with_reducible show wpAny _ _ (compareOp CmpOp.In (Value.int _ _) (Value.ref _)) _ _ _); (refine' in_list_ints ?hl ?hi ?_; (case hl => assumption); (case hi => assumption))) | ((with_reducible show wpAny _ _ (exec (Stmt.For (Expr.Tuple _ _ _) _ _ _ _) _) _ _ _); refine For_pairs ?_) | (k_unfold; (try dsimp only)) | (k_end; wrow_close) | walk1 | (dsimp only; walk1) | (leave1; walk_say "STEP leave1"; try dsimp only) | fail "no step")))
    refine ⟨lt, tvs.toArray, _, (fun j => fitTest k fr (endsOf told size ((row.zip dots).take i)) (minL (endsOf told size ((row.zip dots).take i) ++ [size])) (told.getD j (0, 0, 0))), (fun j y => ∃ t, y = .int ((told.getD j (0, 0, 0)).2.1 + (told.getD j (0, 0, 0)).2.2) t), rfl, rfl, F6, N6, .inr ⟨_, .tail _ (.tail _ (.tail _ (.tail _ (List.mem_append_left _ hmt)))), rfl, _, rfl⟩, ?sz, ?ct, ?fin⟩
    case sz => (rw [List.size_toArray, dt.length, List.length_map, sizeLine_eq]; omega)
    case ct =>
      intro gg j v hj
      obtain ⟨t, ot, va, vb, vc, nt', rfl, hm, hcl, hdat, e1, e2, e3⟩ := datToldAt dt (by simpa using hj)
      obtain ⟨ta, rfl⟩ := e1
      obtain ⟨tb, rfl⟩ := e2
      obtain ⟨tc, rfl⟩ := e3
      refine ⟨t, ot, _, _, _, nt', rfl, .tail _ (.tail _ (.tail _ (.tail _ (List.mem_append_left _ (hF1 _ hm))))), hcl, hdat, ?_⟩
      dsimp only
      generalize told.getD j (0, 0, 0) = q
      intro I oI C oC D ys m2 h7 tk7 hoC ha hb hc F7 N7 off7 ne7
      refine wp_gen fun QC hQC => ?_
      have hlcL : h7.IsList lc evs.toArray := News.isList N7 (.tail _ (.tail _ (.tail _ (.tail _ (.tail _ (.tail _ (.tail _ (List.mem_append_left _ hF2))))))))
      (repeat' (first | ((fail_if_success (with_reducible show wpAny _ _ (pyIter (Value.ref _)) _ _ _)); (fail_if_success (with_reducible show _ ∧ _)); (fail_if_success (with_reducible show wpAny _ _ (call (Value.type "zip") _) _ _ _)); (fail_if_success (with_reducible show wpAny _ _ (call (Value.builtin "min") _) _ _ _)); (fail_if_success (with_reducible show wpAny _ _ (binaryOp Operator.Add (Value.ref _) (Value.ref _)) _ _ _)); (fail_if_success (with_reducible show wpAny _ _ (exec (Stmt.Assign [Expr.Name (Str.ofString "ends") _] (Expr.ListComp _ _ _ _) _) _) _ _ _)); first | ((with_reducible show wpAny _ _ (compareOp CmpOp.In (Value.int _ _) (Value.ref _)) _ _ _); (refine' in_list_ints ?hl ?hi ?_; (case hl => assumption); (case hi => assumption))) | ((with_reducible show wpAny _ _ (exec (Stmt.For (Expr.Tuple _ _ _) _ _ _ _) _) _ _ _); refine For_pairs ?_) | (k_unfold; (try dsimp only)) | (k_end; wrow_close) | walk1 | (dsimp only; walk1) | (leave1; walk_say "STEP leave1"; try dsimp only) | fail "no step")))
      · refine hQC _ _ ⟨ft1 (by assumption) (by assumption) (by assumption), ⟨_, _, rfl, by assumption, by assumption⟩, fun _ => ?_⟩
        (repeat' (first | ((fail_if_success (with_reducible show wpAny _ _ (pyIter (Value.ref _)) _ _ _)); (fail_if_success (with_reducible show _ ∧ _)); (fail_if_success (with_reducible show wpAny _ _ (call (Value.type "zip") _) _ _ _)); (fail_if_success (with_reducible show wpAny _ _ (call (Value.builtin "min") _) _ _ _)); (fail_if_success (with_reducible show wpAny _ _ (binaryOp Operator.Add (Value.ref _) (Value.ref _)) _ _ _)); (fail_if_success (with_reducible show wpAny _ _ (exec (Stmt.Assign [Expr.Name (Str.ofString "ends") _] (Expr.ListComp _ _ _ _) _) _) _ _ _)); first | ((with_reducible show wpAny _ _ (compareOp CmpOp.In (Value.int _ _) (Value.ref _)) _ _ _); (refine' in_list_ints ?hl ?hi ?_; (case hl => assumption); (case hi => assumption))) | ((with_reducible show wpAny _ _ (exec (Stmt.For (Expr.Tuple _ _ _) _ _ _ _) _) _ _ _); refine For_pairs ?_) | (k_unfold; (try dsimp only)) | (k_end; wrow_close) | walk1 | (dsimp only; walk1) | (leave1; walk_say "STEP leave1"; try dsimp only) | fail "no step")))
        exact ⟨⟨_, rfl⟩, _, _, rfl, by assumption, by assumption⟩
      · refine hQC _ _ ⟨ft2 (by assumption) (by assumption) (by assumption) (by assumption), ⟨_, _, rfl, by assumption, by assumption⟩, fun _ => ?_⟩
        (repeat' (first | ((fail_if_success (with_reducible show wpAny _ _ (pyIter (Value.ref _)) _ _ _)); (fail_if_success (with_reducible show _ ∧ _)); (fail_if_success (with_reducible show wpAny _ _ (call (Value.type "zip") _) _ _ _)); (fail_if_success (with_reducible show wpAny _ _ (call (Value.builtin "min") _) _ _ _)); (fail_if_success (with_reducible show wpAny _ _ (binaryOp Operator.Add (Value.ref _) (Value.ref _)) _ _ _)); (fail_if_success (with_reducible show wpAny _ _ (exec (Stmt.Assign [Expr.Name (Str.ofString "ends") _] (Expr.ListComp _ _ _ _) _) _) _ _ _)); first | ((with_reducible show wpAny _ _ (compareOp CmpOp.In (Value.int _ _) (Value.ref _)) _ _ _); (refine' in_list_ints ?hl ?hi ?_; (case hl => assumption); (case hi => assumption))) | ((with_reducible show wpAny _ _ (exec (Stmt.For (Expr.Tuple _ _ _) _ _ _ _) _) _ _ _); refine For_pairs ?_) | (k_unfold; (try dsimp only)) | (k_end; wrow_close) | walk1 | (dsimp only; walk1) | (leave1; walk_say "STEP leave1"; try dsimp only) | fail "no step")))
        exact ⟨⟨_, rfl⟩, _, _, rfl, by assumption, by assumption⟩
      · exact hQC _ _ ⟨ft3 (by assumption) (by assumption), ⟨_, _, rfl, by assumption, by assumption⟩, fun e => nomatch e⟩
      · exact hQC _ _ ⟨ft4 (by assumption) (by assumption), ⟨_, _, rfl, by assumption, by assumption⟩, fun e => nomatch e⟩
      · exact hQC _ _ ⟨ft5 (by assumption), ⟨_, _, rfl, by assumption, by assumption⟩, fun e => nomatch e⟩
      · exact hQC _ _ ⟨ft6 (by assumption), ⟨_, _, rfl, by assumption, by assumption⟩, fun e => nomatch e⟩
    case fin =>
      intro D ys h8 tk8 hB F8 N8 o8
      dsimp only at F8 N8 ⊢
      have o9 := off1_mem o8
      obtain ⟨q1, q2, q3, q4, _⟩ := o8
      (repeat' (first | ((fail_if_success (with_reducible show wpAny _ _ (pyIter (Value.ref _)) _ _ _)); (fail_if_success (with_reducible show _ ∧ _)); (fail_if_success (with_reducible show wpAny _ _ (call (Value.type "zip") _) _ _ _)); (fail_if_success (with_reducible show wpAny _ _ (call (Value.builtin "min") _) _ _ _)); (fail_if_success (with_reducible show wpAny _ _ (binaryOp Operator.Add (Value.ref _) (Value.ref _)) _ _ _)); (fail_if_success (with_reducible show wpAny _ _ (exec (Stmt.Assign [Expr.Name (Str.ofString "ends") _] (Expr.ListComp _ _ _ _) _) _) _ _ _)); first | ((with_reducible show wpAny _ _ (compareOp CmpOp.In (Value.int _ _) (Value.ref _)) _ _ _); (refine' in_list_ints ?hl ?hi ?_; (case hl => assumption); (case hi => assumption))) | ((with_reducible show wpAny _ _ (exec (Stmt.For (Expr.Tuple _ _ _) _ _ _ _) _) _ _ _); refine For_pairs ?_) | (k_unfold; (try dsimp only)) | (k_end; wrow_close) | walk1 | (dsimp only; walk1) | (leave1; walk_say "STEP leave1"; try dsimp only) | fail "no step")))
      (rename Fr _ _ _ _ => FE); (rename News _ _ _ _ => NE); (rename Obj.data _ = Data.cell (some (Value.int k t0)) => dW); (rename Obj.data _ = Data.cell (some (Value.bool fr)) => dF); (rename Obj.data _ = Data.cell (some (Value.int (minL _) _)) => dL); (rename Obj.data _ = Data.cell (some (Value.ref D)) => dE)
      have hys : IntsAre ys (endsOf told size ((row.zip dots).take (i + 1))) := by
        rw [endsOf_succ (zip_get hk hfr)]
        have hh9 := builtInts (f := fitTest k fr (endsOf told size ((row.zip dots).take i)) (minL (endsOf told size ((row.zip dots).take i) ++ [size]))) (g := fun t => t.2.1 + t.2.2) (by rw [List.size_toArray, dt.length, List.length_map]; exact Nat.le_refl _) hB
        rwa [List.size_toArray, dt.length, List.length_map, List.take_length] at hh9
      refine hQT _ _ (lend ⟨_, _, _, _, _, _, _, D, ys, ys.length⟩ [(D, listOf ys.toArray ys.length)] FE NE ?_ ?_ ⟨fun p hp => .tail _ (hF1 p hp), .head _⟩ (by ((repeat' (first | exact List.forall_mem_nil _ | refine Mine.fac (by with_unfolding_all rfl) ?_)))) ⟨dL, dF, dW, dE, hys⟩)
      · intro p hp
        simp only [List.cons_append, List.nil_append, List.mem_cons] at hp ⊢
        rcases hp with h | h | h | h | h | h <;> simp [h]
      · intro q hq p hp
        rw [List.mem_singleton.mp hq]
        rcases List.mem_append.mp hp with hp | hp
        · simp only [List.mem_cons, List.not_mem_nil, or_false] at hp
          rcases hp with h | h | h | h <;> rw [h] <;> assumption
        · exact o9 p (.tail _ (.tail _ (.tail _ (.tail _ hp))))
  case done =>
    clear F1 N1 d5 d1 d2 d3 d4 leo l1b
    intro c tl u h tk ho hF hI F2 N2
    refine and2 hF fun hF1 hF2 => ?_
    clear hF
    refine and5 hI fun c1 c2 c3 c4 hev => ?_
    clear hI
    dsimp only [List.nil_append, List.cons_append] at N2
    obtain ⟨p1, p2, p3, p4, x1, x2, x3, lc, evs, ne⟩ := c
    dsimp only at c1 c2 c3 c4 hev hF2 N2
    have hmd := hF1 _ md
    have hmin : min rvs.length dvs.length = (row.zip dots).length := by rw [(datInts dr).length, dd.length, List.length_map, List.length_zip]
    rw [hmin, List.take_length] at hev
    obtain ⟨dv0, ds0, b, rfl, rfl⟩ := datLastBool dd hne
    (repeat' (first | ((fail_if_success (with_reducible show wpAny _ _ (pyIter (Value.ref _)) _ _ _)); (fail_if_success (with_reducible show _ ∧ _)); (fail_if_success (with_reducible show wpAny _ _ (call (Value.type "zip") _) _ _ _)); (fail_if_success (with_reducible show wpAny _ _ (call (Value.builtin "min") _) _ _ _)); (fail_if_success (with_reducible show wpAny _ _ (binaryOp Operator.Add (Value.ref _) (Value.ref _)) _ _ _)); (fail_if_success (with_reducible show wpAny _ _ (exec (Stmt.Assign [Expr.Name (Str.ofString "ends") _] (Expr.ListComp _ _ _ _) _) _) _ _ _)); first | ((with_reducible show wpAny _ _ (compareOp CmpOp.In (Value.int _ _) (Value.ref _)) _ _ _); (refine' in_list_ints ?hl ?hi ?_; (case hl => assumption); (case hi => assumption))) | ((with_reducible show wpAny _ _ (exec (Stmt.For (Expr.Tuple _ _ _) _ _ _ _) _) _ _ _); refine For_pairs ?_) | (k_unfold; (try dsimp only)) | (k_end; wrow_close) | walk1 | (dsimp only; walk1) | (leave1; walk_say "STEP leave1"; try dsimp only) | fail "no step")))
    (rename Fr _ _ _ _ => F3); (rename News _ _ _ _ => N3)
    refine item_last (News.isList N3 (.tail _ (.tail _ (.tail _ (.tail _ hmd))))) ?_ (by with_unfolding_all rfl)
    have hlcL : h.IsList lc evs.toArray := News.isList N3 (.tail _ (.tail _ (.tail _ (.tail _ hF2))))
    (repeat' (first | ((fail_if_success (with_reducible show wpAny _ _ (pyIter (Value.ref _)) _ _ _)); (fail_if_success (with_reducible show _ ∧ _)); (fail_if_success (with_reducible show wpAny _ _ (call (Value.type "zip") _) _ _ _)); (fail_if_success (with_reducible show wpAny _ _ (call (Value.builtin "min") _) _ _ _)); (fail_if_success (with_reducible show wpAny _ _ (binaryOp Operator.Add (Value.ref _) (Value.ref _)) _ _ _)); (fail_if_success (with_reducible show wpAny _ _ (exec (Stmt.Assign [Expr.Name (Str.ofString "ends") _] (Expr.ListComp _ _ _ _) _) _) _ _ _)); first | ((with_reducible show wpAny _ _ (compareOp CmpOp.In (Value.int _ _) (Value.ref _)) _ _ _); (refine' in_list_ints ?hl ?hi ?_; (case hl => assumption); (case hi => assumption))) | ((with_reducible show wpAny _ _ (exec (Stmt.For (Expr.Tuple _ _ _) _ _ _ _) _) _ _ _); refine For_pairs ?_) | (k_unfold; (try dsimp only)) | (k_end; wrow_close) | walk1 | (dsimp only; walk1) | (leave1; walk_say "STEP leave1"; try dsimp only) | fail "no step")))
    · (rename Fr _ _ _ _ => FE); (rename News _ _ _ _ => NE)
      refine ke_ne_ints (ns := endsOf told size (row.zip (ds0 ++ [b]))) (ms := []) (News.isList NE (.tail _ (.tail _ (.tail _ (.tail _ (.tail _ hF2)))))) (News.isList NE (.head _)) hev .nil (by simp only [Around.deeper]; omega) ?_
      refine hQF _ _ ⟨_, _, _, [], _, rfl, FE, NE, (fun p hp => .tail _ (.tail _ (.tail _ (.tail _ (.tail _ (hF1 p hp)))))), (fun _ h => nomatch h), (fun _ _ _ h => nomatch h), ?_⟩
      (rename b = true => hb)
      subst hb
      simp only [fits, List.getLastD_concat, if_true]
      congr 1
      cases endsOf told size (row.zip (ds0 ++ [true])) <;> simp
    · (rename Fr _ _ _ _ => FE); (rename News _ _ _ _ => NE)
      dsimp only
      refine hQF _ _ ⟨_, _, _, [], _, rfl, FE, NE, (fun p hp => .tail _ (.tail _ (.tail _ (.tail _ (hF1 p hp))))), (fun _ h => nomatch h), (fun _ _ _ h => nomatch h), ?_⟩
      (rename b = false => hb)
      subst hb
      simp only [fits, List.getLastD_concat, Bool.false_eq_true, if_false]
end Mine
end
section
open PySem PySem.W PyProof.Rows PySem.Spec PySem.Calls
set_option genInjectivity false
set_option genSizeOf false
namespace Mine
/-- the piece that a number names -/
noncomputable def pieceOf (pieces : List Str) (x : Int) : Str := pieces.getD (x.fmod 5).toNat Str.empty
/-- what is left of a piece, what was handed down, what came back, the cuts so far -/
structure Inn where
  left : Str
  handed : List Str
  ans : List Dat
  cuts : Nat
noncomputable def Inn.n (q : Inn) : Nat := min (1 + q.cuts % 3) q.left.length
noncomputable def dropS (x : Str) (n : Nat) : Str := ⟨(x.cps.toList.drop n).toArray⟩
noncomputable def takeS (x : Str) (n : Nat) : Str := ⟨(x.cps.toList.take n).toArray⟩
noncomputable def innTurn (q : Inn) : Inn := if q.left.length = 0 then q else ⟨dropS q.left q.n, q.handed ++ [q.left], q.ans ++ [.int q.n], q.cuts + 1⟩
noncomputable def innTurns : Nat → Inn → Inn
  | 0, q => q
  | n + 1, q => innTurn (innTurns n q)
structure St where
  text : Str
  told : List Told
  handed : List Str
  ans : List Dat
  cuts : Nat
noncomputable def St.zero : St := ⟨Str.ofString "", [], [], [], 0⟩
noncomputable def stStep (pieces refused : List Str) (st : St) (x : Int) : St :=
  let left := pieceOf pieces x
  if (refused.any fun y => y == left) = true then ⟨st.text, st.told ++ [(x.fmod 5, (st.text.length : Int), 0)], st.handed ++ [left], st.ans ++ [.str left], st.cuts⟩
  else
    let q := innTurns left.length ⟨left, st.handed, st.ans, st.cuts⟩
    ⟨st.text ++ left, st.told ++ [(x.fmod 5, (st.text.length : Int), (left.length : Int))], q.handed, q.ans, q.cuts⟩
noncomputable def stOf (pieces refused : List Str) (l : List Int) : St := l.foldl (stStep pieces refused) St.zero
noncomputable def stDat (st : St) : Dat := .tuple [.str st.text, .list (st.told.map toldDat), .int (st.text.length : Int), .list (st.handed.map .str), .list st.ans]
theorem datStrs {news : List (Addr × Obj)} : ∀ {vs : List Value} {ns : List Str}, DatAll news vs (ns.map .str) → StrsAre vs ns
  | [], [], _ => .nil
  | [], _ :: _, h => by cases h
  | _ :: _, [], h => by cases h
  | v :: vs, n :: ns, h => by
    cases h with
    | cons h r => cases h; exact .cons _ _ (datStrs r)
theorem strsDat {news : List (Addr × Obj)} : ∀ {vs : List Value} {ns : List Str}, StrsAre vs ns → DatAll news vs (ns.map .str)
  | _, _, .nil => .nil
  | _, _, .cons _ _ h => .cons (.str _ _) (strsDat h)
theorem strs_snoc : ∀ {vs : List Value} {ns : List Str} {x : Str} {t : Tok}, StrsAre vs ns → StrsAre (vs ++ [.str x t]) (ns ++ [x])
  | _, _, _, _, .nil => .cons _ _ .nil
  | _, _, _, _, .cons _ _ h => .cons _ _ (strs_snoc h)
theorem strs_len : ∀ {vs : List Value} {ns : List Str}, StrsAre vs ns → vs.length = ns.length
  | _, _, .nil => rfl
  | _, _, .cons _ _ h => by simp [strs_len h]
theorem strs_get : ∀ {vs : List Value} {ns : List Str} {i : Nat} {x : Str}, StrsAre vs ns → ns[i]? = some x → ∃ t, vs[i]? = some (.str x t)
  | _, _, i, _, .nil, e => by simp at e
  | _, _, 0, _, .cons y t _, e => by
    simp at e
    subst e
    exact ⟨t, rfl⟩
  | _, _, i + 1, _, .cons y t h, e => by
    simp at e
    obtain ⟨t', h'⟩ := strs_get h e
    exact ⟨t', by simpa using h'⟩
theorem piece_at {pieces : List Str} (h : pieces.length = 5) (x : Int) : pieces[(x.fmod 5).toNat]? = some (pieceOf pieces x) := by
  have h1 := Int.fmod_lt_of_pos x (show (0 : Int) < 5 by omega)
  have h2 := Int.fmod_nonneg_of_pos x (show (0 : Int) < 5 by omega)
  have h3 : (x.fmod 5).toNat < pieces.length := by omega
  rw [pieceOf, List.getD, List.getElem?_eq_getElem h3]
  rfl
theorem piece_len {pieces : List Str} (h : pieces.length = 5) (hl : ∀ p ∈ pieces, p.length ≤ 4) (x : Int) : (pieceOf pieces x).length ≤ 4 := hl _ (List.mem_of_getElem? (piece_at h x))
theorem inn_len (q : Inn) : ∀ n, (innTurns n q).handed.length ≤ q.handed.length + n ∧ (innTurns n q).ans.length ≤ q.ans.length + n
  | 0 => ⟨Nat.le_refl _, Nat.le_refl _⟩
  | n + 1 => by
    have h := inn_len q n
    show (innTurn (innTurns n q)).handed.length ≤ _ ∧ (innTurn (innTurns n q)).ans.length ≤ _
    unfold innTurn
    split
    · omega
    · simp only [List.length_append, List.length_cons, List.length_nil]
      omega
theorem dropS_len (x : Str) (n : Nat) : (dropS x n).length = x.length - n := by
  show (x.cps.toList.drop n).toArray.size = x.cps.size - n
  simp
theorem inn_left (q : Inn) : ∀ n, (innTurns n q).left.length ≤ q.left.length
  | 0 => Nat.le_refl _
  | n + 1 => by
    have h := inn_left q n
    show (innTurn (innTurns n q)).left.length ≤ _
    unfold innTurn
    split
    · exact h
    · rw [dropS_len]
      omega
structure StB (n : Nat) (st : St) : Prop where
  text : st.text.length ≤ 4 * n
  told : st.told.length = n
  handed : st.handed.length ≤ 4 * n
  ans : st.ans.length ≤ 4 * n
theorem stBstep {pieces refused : List Str} (h : pieces.length = 5) (hl : ∀ p ∈ pieces, p.length ≤ 4) {n : Nat} {st : St} {x : Int} (b : StB n st) : StB (n + 1) (stStep pieces refused st x) := by
  have hp := piece_len h hl x
  obtain ⟨b1, b2, b3, b4⟩ := b
  unfold stStep
  dsimp only
  split
  · constructor <;> simp only [List.length_append, List.length_cons, List.length_nil] <;> omega
  · have hi := inn_len ⟨pieceOf pieces x, st.handed, st.ans, st.cuts⟩ (pieceOf pieces x).length
    dsimp only at hi
    constructor <;> simp only [List.length_append, List.length_cons, List.length_nil, Str.length_append] <;> omega
theorem stStep_yes {pieces refused : List Str} {st : St} {x : Int} {left : Str} (hl : pieceOf pieces x = left) (h : (refused.any fun y => y == left) = true) : stStep pieces refused st x = ⟨st.text, st.told ++ [(x.fmod 5, (st.text.length : Int), 0)], st.handed ++ [left], st.ans ++ [.str left], st.cuts⟩ := by
  unfold stStep
  dsimp only
  rw [hl, if_pos h]
theorem stStep_no {pieces refused : List Str} {st : St} {x : Int} {left : Str} (hl : pieceOf pieces x = left) (h : (refused.any fun y => y == left) = false) : stStep pieces refused st x =
    ⟨st.text ++ left, st.told ++ [(x.fmod 5, (st.text.length : Int), (left.length : Int))], (innTurns left.length ⟨left, st.handed, st.ans, st.cuts⟩).handed, (innTurns left.length ⟨left, st.handed, st.ans, st.cuts⟩).ans, (innTurns left.length ⟨left, st.handed, st.ans, st.cuts⟩).cuts⟩ := by
  unfold stStep
  dsimp only
  rw [hl, if_neg (by rw [h]; exact Bool.false_ne_true)]
theorem told_snoc {tl : List (Addr × Obj)} {D : Addr} {tvs : List Value} {told : List Told} {a b c : Int} {t1 t2 t3 : Tok} {n : Nat} (h : DatAll tl tvs (told.map toldDat)) :
    DatAll ([(D, ({ cls := .type "tuple", data := .seq #[.int a t1, .int b t2, .int c t3] n } : Obj))] ++ tl) (tvs ++ [.ref D]) ((told ++ [(a, b, c)]).map toldDat) := by
  rw [List.map_append]
  exact (h.mono fun p hp => .tail _ hp).append (.one (.tuple (vs := [.int a t1, .int b t2, .int c t3]) (.head _) (.cons (.int _ _) (.cons (.int _ _) (.cons (.int _ _) .nil)))))
theorem ltOff {D : Nat} {l : List (Addr × Obj)} (h : AllLt D l) : ∀ p ∈ l, p.1 ≠ D := fun p hp => Nat.ne_of_lt (ktn_ltOf h p hp)
theorem stOf_succ {pieces refused : List Str} {l : List Int} {i : Nat} {x : Int} (h : l[i]? = some x) : stOf pieces refused (l.take (i + 1)) = stStep pieces refused (stOf pieces refused (l.take i)) x := by
  rw [List.take_add_one, h, stOf, List.foldl_append]
  rfl
theorem stOf_B {pieces refused : List Str} (h : pieces.length = 5) (hl : ∀ p ∈ pieces, p.length ≤ 4) (l : List Int) : ∀ i, i ≤ l.length → StB i (stOf pieces refused (l.take i))
  | 0, _ => ⟨by show (Str.ofString "").length ≤ 0; decide +kernel, rfl, Nat.le_refl _, Nat.le_refl _⟩
  | i + 1, hi => by
    have e : l[i]? = some l[i] := List.getElem?_eq_getElem (by omega)
    rw [stOf_succ e]
    exact stBstep h hl (stOf_B h hl l i (by omega))
open PySem.StrLaws in
theorem slice_drop (x : Str) {n : Nat} (h : n ≤ x.length) : Txt.slice x (some (n : Int)) none = dropS x n := by
  have e : Txt.slice x (some (n : Int)) none = sliceText x (some (n : Int)) none := rfl
  rw [e, sliceText_from ⟨by omega, by simpa [Str.length] using h⟩]
  unfold dropS
  congr 2
  have e1 : ((n : Nat) : Int).toNat = n := by omega
  rw [e1]
  apply List.take_of_length_le
  simp only [List.length_drop]
  omega
theorem str_ne_iff (x : Str) : (x != Str.ofString "") = true ↔ x.length ≠ 0 := by
  have e : Str.ofString "" = ⟨#[]⟩ := by decide +kernel
  rw [e, bne_iff_ne]
  constructor
  · intro h h0
    refine h (Str.ext' ?_)
    exact Array.eq_empty_of_size_eq_zero h0
  · intro h e
    rw [e] at h
    exact h rfl
theorem innTurn_yes {q : Inn} (h : (q.left != Str.ofString "") = true) : innTurn q = ⟨dropS q.left q.n, q.handed ++ [q.left], q.ans ++ [.int q.n], q.cuts + 1⟩ := if_neg ((str_ne_iff _).mp h)
theorem innTurn_no {q : Inn} (h : (q.left != Str.ofString "") = false) : innTurn q = q := by
  refine if_pos ?_
  by_cases h0 : q.left.length = 0
  · exact h0
  · rw [(str_ne_iff _).mpr h0] at h
    cases h
theorem inn_n (q : Inn) : (if (q.left.length : Int) < 1 + Int.fmod (q.cuts : Int) 3 then (q.left.length : Int) else 1 + Int.fmod (q.cuts : Int) 3) = (q.n : Int) := by
  have e : Int.fmod (q.cuts : Int) 3 = ((q.cuts % 3 : Nat) : Int) := by rw [Int.fmod_eq_emod_of_nonneg _ (by omega)]; rfl
  rw [e]
  unfold Inn.n
  split <;> omega
theorem inn_n_le (q : Inn) : q.n ≤ q.left.length := Nat.min_le_right _ _
end Mine
end
section
open PySem PySem.W PyProof.Rows PySem.Spec PySem.Calls
set_option genInjectivity false
set_option genSizeOf false
namespace Mine
theorem fillK4 (w : World) (h : Heap) : (hd.heap_39 (World.params w)).In h → (RowW.prog (OpenRow.toRowW (OpenLaw.row Challenge.rw_mr0099_01))) = (RowW.prog (OpenRow.toRowW (OpenLaw.row Challenge.rw_mr0099_01))) := by
  w_top off
  k_fill
  intro _
  rfl
local macro_rules | `(tactic| walk_at "exec For Name") => `(tactic| ((rename Fr _ _ _ _ => lF'); (with_unfolding_all refine' For_invVF lF' ?k1 ?k2 ?_; (case k1 => exact rfl); (case k2 => exact rfl))))
local macro_rules | `(tactic| walk_at "call type:range") => `(tactic| ((rename Fr _ _ _ _ => F'); (rename News _ _ _ _ => N'); (with_unfolding_all refine range1_rows F' N' ?_; intro _ _ _ _ _ _ _ _ _)))
structure DueSt where
  st : St
  tt : Tok
  tc : Tok
  tvs : List Value
  nt : Nat
  hvs : List Value
  nh : Nat
  avs : List Value
  na : Nat
structure DueIn where
  q : Inn
  tl : Tok
  tc : Tok
  hvs : List Value
  nh : Nat
  avs : List Value
  na : Nat
set_option maxHeartbeats 8000000 in
theorem due_tell (w : World) (mean : ExcName → Option Value) (mg mb : Str → Option Value) (numbers : List Int) (pieces refused : List Str) (vn vp vr : Value) :
   Tell w mean mg mb 102 [vn, vp, vr] (fun news => DatIn news vn (.list (numbers.map .int)) ∧ DatIn news vp (.list (pieces.map .str)) ∧ DatIn news vr (.list (refused.map .str)) ∧ numbers.length ≤ 20 ∧ pieces.length = 5 ∧ ∀ p ∈ pieces, p.length ≤ 4) (fun tl r => DatIn tl r (stDat (stOf pieces refused numbers))) := by
  refine' tell_enter (binds := [(Str.ofString "numbers", vn), (Str.ofString "pieces", vp), (Str.ofString "refused", vr)]) ?ho ?hcd ?hb ?hl ?co ?ge ?kk ?ce ?walk
  case ho => k_is
  case hcd => k_is
  case hb => exact fun s => BindsTo.of_eq rfl
  case hl => exact locs rfl
  case co => rfl
  case ge => rfl
  case kk => rfl
  case ce => decide
  intro dp un gd cn cs L a ccd cl outer base g L' news s B F X N T hd hu hpre hnews
  refine wp_gen fun QF hQF => ?_
  refine and6 hpre fun hn hp hr hl1 hl2 hl3 => ?_
  clear hpre
  cases hn with
  | list mn dn =>
  cases hp with
  | list mp dp' =>
  cases hr with
  | list mr dr =>
  rename_i ln nvs nn lp pvs np lr rvs nr
  have gln : g.IsList ln nvs.toArray := ⟨_, hnews _ mn, rfl, _, rfl⟩
  have glp : g.IsList lp pvs.toArray := ⟨_, hnews _ mp, rfl, _, rfl⟩
  have glr : g.IsList lr rvs.toArray := ⟨_, hnews _ mr, rfl, _, rfl⟩
  (repeat' (first | ((fail_if_success (with_reducible show wpAny _ _ (pyIter (Value.ref _)) _ _ _)); (fail_if_success (with_reducible show _ ∧ _)); (fail_if_success (with_reducible show wpAny _ _ (subscriptTail _ _ (Value.ref _) (Value.int _ _)) _ _ _)); (fail_if_success (with_reducible show wpAny _ _ (compareOp CmpOp.In _ _) _ _ _)); first | ((with_reducible show wpAny _ _ (call (Value.builtin "len") [Value.str _ _]) _ _ _); (refine SBL.len (by omega) ?_)) | (k_unfold; (try dsimp only)) | (k_end; wrow_close) | walk1 | (dsimp only; walk1) | (leave1; walk_say "STEP leave1"; try dsimp only) | fail "no step")))
  (rename Fr _ _ _ _ => F1); (rename News _ _ _ _ => N1)
  rename_i lt _ _ lh _ e1 la _ e2 dd _ e3 _ _ _ _ _ _
  have hIn := datInts dn
  have hlen : nvs.length = numbers.length := hIn.length
  have lnL : ln ≠ L' := fun e => by
    have := Heap.lt_size (hnews _ mn)
    have h2 : g.objs.size ≤ L' := F1.above
    rw [e] at this
    exact absurd this (Nat.not_lt.mpr h2)
  have lnA : ln ∉ [la, lh, lt] := fun hm => by
    have hg := hnews _ mn
    simp only [List.mem_cons, List.not_mem_nil, or_false] at hm
    rcases hm with e | e | e
    · have := (N1 _ (.tail _ (.head _))).2.2
      rw [← e, hg] at this
      cases this
    · have := (N1 _ (.tail _ (.tail _ (.head _)))).2.2
      rw [← e, hg] at this
      cases this
    · have := (N1 _ (.tail _ (.tail _ (.tail _ (.head _))))).2.2
      rw [← e, hg] at this
      cases this
  refine' loop_list (σ := DueSt) (vs := nvs) (fun c => [(Str.ofString "pieces", .ref lp), (Str.ofString "refused", .ref lr), (Str.ofString "text", .str c.st.text c.tt), (Str.ofString "told", .ref lt), (Str.ofString "handed", .ref lh), (Str.ofString "answers", .ref la), (Str.ofString "cuts", .int (c.st.cuts : Int) c.tc)])
    (fun c => [(la, listOf c.avs.toArray c.na), (lh, listOf c.hvs.toArray c.nh), (lt, listOf c.tvs.toArray c.nt)]) (fun tl c => DatAll tl c.tvs (c.st.told.map toldDat))
    (fun i c => c.st = stOf pieces refused (numbers.take i) ∧ StrsAre c.hvs c.st.handed ∧ DatAll [] c.avs c.st.ans) [la, lh, lt] rfl (gln.at fun o e => F1.keep _ o e) lnL lnA (fun _ => rfl) F1 N1
    ⟨St.zero, _, _, [], 0, [], 0, [], 0⟩ [] ?hn (fun _ h => nomatch h) .nil ?hk ⟨rfl, .nil, .nil⟩ ?turn ?done
  case hn => (((try simp only [List.append_nil, List.nil_append, List.cons_append]); k_allIn))
  case hk => ((repeat' (first | exact List.forall_mem_nil _ | refine Mine.fac (by with_unfolding_all rfl) ?_)))
  case turn =>
    clear F1 N1
    intro i v c tl own u h tk hi hv ho hF hI F2 N2
    refine wp_gen fun QT hQT => ?_
    dsimp only [List.nil_append, List.cons_append] at N2
    obtain ⟨st, tt, tc, tvs, nt, hvs, nh, avs, na⟩ := c
    refine and3 hI fun hst hhs has => ?_
    clear hI
    (try dsimp only at hst hhs has hF F2 N2)
    obtain ⟨x, tx, rfl, hx⟩ := hIn.at i v hv
    have hB := stOf_B (refused := refused) hl2 hl3 numbers i (by omega)
    rw [← hst] at hB
    obtain ⟨b1, b2, b3, b4⟩ := hB
    have c1 : tvs.length = st.told.length := by rw [hF.length, List.length_map]
    have c2 := strs_len hhs
    have c3 := has.length
    have gp : h.IsList lp pvs.toArray := glp.at fun o e => F2.keep _ o e
    have gr : h.IsList lr rvs.toArray := glr.at fun o e => F2.keep _ o e
    have hpl := piece_len hl2 hl3 x
    obtain ⟨tp, hpa⟩ := strs_get (datStrs dp') (piece_at hl2 x)
    have hsu := stOf_succ (pieces := pieces) (refused := refused) hx
    rw [← hst] at hsu
    clear hIn
    (repeat' (first | ((fail_if_success (with_reducible show wpAny _ _ (pyIter (Value.ref _)) _ _ _)); (fail_if_success (with_reducible show _ ∧ _)); (fail_if_success (with_reducible show wpAny _ _ (subscriptTail _ _ (Value.ref _) (Value.int _ _)) _ _ _)); (fail_if_success (with_reducible show wpAny _ _ (compareOp CmpOp.In _ _) _ _ _)); first | ((with_reducible show wpAny _ _ (call (Value.builtin "len") [Value.str _ _]) _ _ _); (refine SBL.len (by omega) ?_)) | (k_unfold; (try dsimp only)) | (k_end; wrow_close) | walk1 | (dsimp only; walk1) | (leave1; walk_say "STEP leave1"; try dsimp only) | fail "no step")))
    (rename Fr _ _ _ _ => F2); (rename News _ _ _ _ => N2)
    refine item_at gp (Int.fmod_nonneg_of_pos x (by omega)) (by have := Int.fmod_lt_of_pos x (show (0 : Int) < 5 by omega); omega) hpa ?_ (by with_unfolding_all rfl)
    generalize hle : pieceOf pieces x = left at *
    (repeat' (first | ((fail_if_success (with_reducible show wpAny _ _ (pyIter (Value.ref _)) _ _ _)); (fail_if_success (with_reducible show _ ∧ _)); (fail_if_success (with_reducible show wpAny _ _ (subscriptTail _ _ (Value.ref _) (Value.int _ _)) _ _ _)); (fail_if_success (with_reducible show wpAny _ _ (compareOp CmpOp.In _ _) _ _ _)); first | ((with_reducible show wpAny _ _ (call (Value.builtin "len") [Value.str _ _]) _ _ _); (refine SBL.len (by omega) ?_)) | (k_unfold; (try dsimp only)) | (k_end; wrow_close) | walk1 | (dsimp only; walk1) | (leave1; walk_say "STEP leave1"; try dsimp only) | fail "no step")))
    (rename Fr _ _ _ _ => F3); (rename News _ _ _ _ => N3)
    refine in_list_strs (glr.at fun o e => F3.keep _ o e) (datStrs dr) ?_
    (repeat' (first | ((fail_if_success (with_reducible show wpAny _ _ (pyIter (Value.ref _)) _ _ _)); (fail_if_success (with_reducible show _ ∧ _)); (fail_if_success (with_reducible show wpAny _ _ (subscriptTail _ _ (Value.ref _) (Value.int _ _)) _ _ _)); (fail_if_success (with_reducible show wpAny _ _ (compareOp CmpOp.In _ _) _ _ _)); first | ((with_reducible show wpAny _ _ (call (Value.builtin "len") [Value.str _ _]) _ _ _); (refine SBL.len (by omega) ?_)) | (k_unfold; (try dsimp only)) | (k_end; wrow_close) | walk1 | (dsimp only; walk1) | (leave1; walk_say "STEP leave1"; try dsimp only) | fail "no step")))
    · rename_i hany _ D _ l9 _ _ _ _ _ FE NE
      simp only [List.push_toArray] at NE
      have o9 := ltOff (l := (la, default) :: (lh, default) :: (lt, default) :: (tl ++ own)) l9
      rw [stStep_yes hle hany] at hsu
      refine hQT _ _ (lend ⟨⟨st.text, st.told ++ [(x.fmod 5, (st.text.length : Int), 0)], st.handed ++ [left], st.ans ++ [.str left], st.cuts⟩, _, _, tvs ++ [.ref D], nt + 1, hvs ++ [.str left tp], nh + 1, avs ++ [.str left tp], na + 1⟩ [(D, _)] FE NE (Mine.fac (.tail _ (.head _)) (Mine.fac (.tail _ (.tail _ (.head _))) (Mine.fac (.tail _ (.tail _ (.tail _ (.head _)))) (Mine.fac (.head _) (fun p hp => .tail _ (.tail _ (.tail _ (.tail _ hp)))))))) ?_ (told_snoc hF) (by ((repeat' (first | exact List.forall_mem_nil _ | refine Mine.fac (by with_unfolding_all rfl) ?_)))) ⟨hsu.symm, strs_snoc hhs, has.append (.one (.str _ _))⟩)
      · intro q hq p hp
        rw [List.mem_singleton.mp hq]
        simp only [List.cons_append, List.nil_append, List.mem_cons] at hp
        rcases hp with h | h | h | h
        · rw [h]; exact o9 (la, default) (.head _)
        · rw [h]; exact o9 (lh, default) (.tail _ (.head _))
        · rw [h]; exact o9 (lt, default) (.tail _ (.tail _ (.head _)))
        · exact o9 p (.tail _ (.tail _ (.tail _ h)))
    · rename_i hany _ D _ l9 _ tt2 _ _ _ _ _ h2 _ _ _ _ hR FE NE hkeep
      simp only [List.push_toArray] at NE
      have o9 := ltOff (l := (la, default) :: (lh, default) :: (lt, default) :: (tl ++ own)) l9
      rw [stStep_no hle hany] at hsu
      have oin : ∀ oD oT, OwnOff ((D, oD) :: (lt, oT) :: (tl ++ own)) [la, lh] := by
        intro oD oT p hp b hb e
        simp only [List.mem_cons, List.not_mem_nil, or_false] at hb
        obtain ⟨e2a, e2b⟩ := e2
        rcases List.mem_cons.mp hp with hp | hp
        · rw [hp] at e
          rcases hb with h | h
          · exact o9 (la, default) (.head _) (h ▸ e.symm)
          · exact o9 (lh, default) (.tail _ (.head _)) (h ▸ e.symm)
        · rcases List.mem_cons.mp hp with hp | hp
          · rw [hp] at e
            rcases hb with h | h
            · exact absurd (h ▸ e) (Nat.ne_of_lt e2b)
            · exact absurd (h ▸ e) (Nat.ne_of_lt e1)
          · exact ho p hp b (by rcases hb with h | h <;> simp [h]) e
      obtain ⟨oD, hDt, NE⟩ : ∃ oD : Obj, DatAll ([(D, oD)] ++ tl) (tvs ++ [.ref D]) ((st.told ++ [(x.fmod 5, (st.text.length : Int), (left.length : Int))]).map toldDat) ∧ News g L' h2 ((D, oD) :: (la, listOf avs.toArray na) :: (lh, listOf hvs.toArray nh) :: (lt, listOf (tvs ++ [Value.ref D]).toArray (nt + 1)) :: (tl ++ own)) := ⟨_, told_snoc hF, NE⟩
      refine' loop_range (σ := DueIn) (n := left.length) (fun c => [(Str.ofString "pieces", .ref lp), (Str.ofString "refused", .ref lr), (Str.ofString "text", .str (st.text ++ left) tt2), (Str.ofString "told", .ref lt), (Str.ofString "handed", .ref lh), (Str.ofString "answers", .ref la), (Str.ofString "cuts", .int (c.q.cuts : Int) c.tc), (Str.ofString "left", .str c.q.left c.tl)])
        (fun c => [(la, listOf c.avs.toArray c.na), (lh, listOf c.hvs.toArray c.nh)]) (fun tl' _ => ∀ p ∈ (D, oD) :: (lt, listOf (tvs ++ [Value.ref D]).toArray (nt + 1)) :: (tl ++ own), p ∈ tl')
        (fun j c => c.q = innTurns j ⟨left, st.handed, st.ans, st.cuts⟩ ∧ StrsAre c.hvs c.q.handed ∧ DatAll [] c.avs c.q.ans) [la, lh] rfl hR (small_one (by omega) (by omega) (by omega) (by omega)) (by rw [rangeSize_nat]; congr 1) (fun _ => rfl) FE NE
        ⟨⟨left, st.handed, st.ans, st.cuts⟩, _, _, hvs, nh, avs, na⟩ ((D, oD) :: (lt, listOf (tvs ++ [Value.ref D]).toArray (nt + 1)) :: (tl ++ own)) ?hn2 (oin _ _) (fun _ h => h) ?hk2 ⟨rfl, hhs, has⟩ ?turn2 ?done2
      case hn2 => exact Mine.fac (.tail _ (.head _)) (Mine.fac (.tail _ (.tail _ (.head _))) (Mine.fac (.head _) (Mine.fac (.tail _ (.tail _ (.tail _ (.head _)))) (fun p hp => .tail _ (.tail _ (.tail _ (.tail _ hp)))))))
      case hk2 => ((repeat' (first | exact List.forall_mem_nil _ | refine Mine.fac (by with_unfolding_all rfl) ?_)))
      case turn2 =>
        clear FE NE hkeep hR
        intro j tj c tl' own' u' h' tk' hj ho' hF' hI' F4 N4
        refine wp_gen fun QU hQU => ?_
        dsimp only [List.nil_append, List.cons_append] at N4
        obtain ⟨q, tlq, tcq, hvs', nh', avs', na'⟩ := c
        refine and3 hI' fun hq hhs' has' => ?_
        clear hI'
        (try dsimp only at hq hhs' has' F4 N4)
        have hil := inn_len ⟨left, st.handed, st.ans, st.cuts⟩ j
        rw [← hq] at hil
        (try dsimp only at hil)
        have hll := inn_left ⟨left, st.handed, st.ans, st.cuts⟩ j
        rw [← hq] at hll
        (try dsimp only at hll)
        have c2' := strs_len hhs'
        have c3' := has'.length
        (repeat' (first | ((fail_if_success (with_reducible show wpAny _ _ (pyIter (Value.ref _)) _ _ _)); (fail_if_success (with_reducible show _ ∧ _)); (fail_if_success (with_reducible show wpAny _ _ (subscriptTail _ _ (Value.ref _) (Value.int _ _)) _ _ _)); (fail_if_success (with_reducible show wpAny _ _ (compareOp CmpOp.In _ _) _ _ _)); first | ((with_reducible show wpAny _ _ (call (Value.builtin "len") [Value.str _ _]) _ _ _); (refine SBL.len (by omega) ?_)) | (k_unfold; (try dsimp only)) | (k_end; wrow_close) | walk1 | (dsimp only; walk1) | (leave1; walk_say "STEP leave1"; try dsimp only) | fail "no step")))
        · (rename Fr _ _ _ _ => F5); (rename News _ _ _ _ => N5)
          simp only [List.push_toArray] at N5
          refine item_last (News.isList N5 (.head _)) ?_ (by with_unfolding_all rfl)
          (repeat' (first | ((fail_if_success (with_reducible show wpAny _ _ (pyIter (Value.ref _)) _ _ _)); (fail_if_success (with_reducible show _ ∧ _)); (fail_if_success (with_reducible show wpAny _ _ (subscriptTail _ _ (Value.ref _) (Value.int _ _)) _ _ _)); (fail_if_success (with_reducible show wpAny _ _ (compareOp CmpOp.In _ _) _ _ _)); first | ((with_reducible show wpAny _ _ (call (Value.builtin "len") [Value.str _ _]) _ _ _); (refine SBL.len (by omega) ?_)) | (k_unfold; (try dsimp only)) | (k_end; wrow_close) | walk1 | (dsimp only; walk1) | (leave1; walk_say "STEP leave1"; try dsimp only) | fail "no step")))
          (rename Fr _ _ _ _ => FE); (rename News _ _ _ _ => NE); (rename (q.left != _) = true => hne)
          have hqn : innTurns (j + 1) ⟨left, st.handed, st.ans, st.cuts⟩ = innTurn q := by rw [hq]; rfl
          rw [innTurn_yes hne] at hqn
          simp only [inn_n, slice_drop _ (inn_n_le q)] at FE NE
          exact hQU _ _ (lend ⟨⟨dropS q.left q.n, q.handed ++ [q.left], q.ans ++ [.int q.n], q.cuts + 1⟩, _, _, hvs' ++ [_], _, avs' ++ [_], _⟩ [] FE NE (Mine.fac (.tail _ (.head _)) (Mine.fac (.tail _ (.tail _ (.head _))) (fun p hp => .tail _ (.tail _ (.tail _ hp))))) (fun _ h => nomatch h) hF' (by ((repeat' (first | exact List.forall_mem_nil _ | refine Mine.fac (by with_unfolding_all rfl) ?_)))) ⟨hqn.symm, strs_snoc hhs', has'.append (.one (.int _ _))⟩)
        · (rename Fr _ _ _ _ => FE); (rename News _ _ _ _ => NE); (rename (q.left != _) = false => hne)
          have hqn : innTurns (j + 1) ⟨left, st.handed, st.ans, st.cuts⟩ = innTurn q := by rw [hq]; rfl
          rw [innTurn_no hne] at hqn
          exact hQU _ _ (lend ⟨q, _, _, hvs', _, avs', _⟩ [] FE NE (fun p hp => hp) (fun _ h => nomatch h) hF' (by ((repeat' (first | exact List.forall_mem_nil _ | refine Mine.fac (by with_unfolding_all rfl) ?_)))) ⟨hqn.symm, hhs', has'⟩)
      case done2 =>
        intro c tl' u' h' tk' ho' hF' hI' F4 N4
        dsimp only [List.nil_append, List.cons_append] at N4
        obtain ⟨q, tlq, tcq, hvs', nh', avs', na'⟩ := c
        refine and3 hI' fun hq hhs' has' => ?_
        clear hI'
        (try dsimp only at hq hhs' has' F4 N4 hF')
        (repeat' (first | ((fail_if_success (with_reducible show wpAny _ _ (pyIter (Value.ref _)) _ _ _)); (fail_if_success (with_reducible show _ ∧ _)); (fail_if_success (with_reducible show wpAny _ _ (subscriptTail _ _ (Value.ref _) (Value.int _ _)) _ _ _)); (fail_if_success (with_reducible show wpAny _ _ (compareOp CmpOp.In _ _) _ _ _)); first | ((with_reducible show wpAny _ _ (call (Value.builtin "len") [Value.str _ _]) _ _ _); (refine SBL.len (by omega) ?_)) | (k_unfold; (try dsimp only)) | (k_end; wrow_close) | walk1 | (dsimp only; walk1) | (leave1; walk_say "STEP leave1"; try dsimp only) | fail "no step")))
        (rename Fr _ _ _ _ => FE); (rename News _ _ _ _ => NE)
        rw [← hq] at hsu
        refine hQT _ _ (lend ⟨⟨st.text ++ left, st.told ++ [(x.fmod 5, (st.text.length : Int), (left.length : Int))], q.handed, q.ans, q.cuts⟩, _, _, tvs ++ [.ref D], nt + 1, hvs', nh', avs', na'⟩ [(D, oD)] FE NE (Mine.fac (.head _) (Mine.fac (.tail _ (.head _)) (Mine.fac (.tail _ (.tail _ (hF' _ (.tail _ (.head _))))) (Mine.fac (.tail _ (.tail _ (hF' _ (.head _)))) (fun p hp => .tail _ (.tail _ (hF' p (.tail _ (.tail _ hp))))))))) ?_ hDt (by ((repeat' (first | exact List.forall_mem_nil _ | refine Mine.fac (by with_unfolding_all rfl) ?_)))) ⟨hsu.symm, hhs', has'⟩)
        intro q hq p hp
        rw [List.mem_singleton.mp hq]
        simp only [List.cons_append, List.nil_append, List.mem_cons] at hp
        rcases hp with h | h | h | h
        · rw [h]; exact o9 (la, default) (.head _)
        · rw [h]; exact o9 (lh, default) (.tail _ (.head _))
        · rw [h]; exact o9 (lt, default) (.tail _ (.tail _ (.head _)))
        · exact o9 p (.tail _ (.tail _ (.tail _ h)))
  case done =>
    intro c tl u h tk ho hF hI F2 N2
    dsimp only [List.nil_append, List.cons_append] at N2
    obtain ⟨st, tt, tc, tvs, nt, hvs, nh, avs, na⟩ := c
    refine and3 hI fun hst hhs has => ?_
    clear hI
    (try dsimp only at hst hhs has hF F2 N2)
    rw [hlen, List.take_length] at hst
    have hB := stOf_B (refused := refused) hl2 hl3 numbers numbers.length (Nat.le_refl _)
    rw [List.take_length, ← hst] at hB
    obtain ⟨b1, b2, b3, b4⟩ := hB
    subst hst
    (repeat' (first | ((fail_if_success (with_reducible show wpAny _ _ (pyIter (Value.ref _)) _ _ _)); (fail_if_success (with_reducible show _ ∧ _)); (fail_if_success (with_reducible show wpAny _ _ (subscriptTail _ _ (Value.ref _) (Value.int _ _)) _ _ _)); (fail_if_success (with_reducible show wpAny _ _ (compareOp CmpOp.In _ _) _ _ _)); first | ((with_reducible show wpAny _ _ (call (Value.builtin "len") [Value.str _ _]) _ _ _); (refine SBL.len (by omega) ?_)) | (k_unfold; (try dsimp only)) | (k_end; wrow_close) | walk1 | (dsimp only; walk1) | (leave1; walk_say "STEP leave1"; try dsimp only) | fail "no step")))
    (rename Fr _ _ _ _ => FE); (rename News _ _ _ _ => NE)
    refine hQF _ _ ⟨_, _, _, _, rfl, FE, NE, ?_⟩
    exact .tuple (vs := [_, _, _, _, _]) (.head _) (.cons (.str _ _) (.cons (.list (.tail _ (.tail _ (.tail _ (.head _)))) (hF.mono fun p hp => .tail _ (.tail _ (.tail _ (.tail _ hp))))) (.cons (.int _ _) (.cons (.list (.tail _ (.tail _ (.head _))) (strsDat hhs)) (.cons (.list (.tail _ (.head _)) (datLift has)) .nil)))))
end Mine
end
section
open PySem PySem.W PyProof.Rows PySem.Spec PySem.Calls
namespace Mine
/-- a contract of a def that reads one list of the caller's base -/
noncomputable def TellL (w : World) (mean : ExcName → Option Value) (mg mb : Str → Option Value) (f l : Addr) (vs : List Value) (post : List (Addr × Obj) → Value → Prop) : Prop :=
  ∀ (dp un : Nat) (gd : Option (List Code)) (cn : Str) (cs : Scope) (a : Addr) (ccd : Value) (cl : List (Str × Addr)) (outer : List Env) (A₀ : Around) (base h₀ : Heap) (L : Addr) (m : Str → Option Value) (news : List (Addr × Obj)) (s : Shared)
    (Q E : Value → Shared → Prop),
    Below A₀ base outer h₀ → Fr h₀ L s.heap m → (hd.heap_39 (World.params w)).In h₀ → News h₀ L s.heap news → Top topProg (looseW hd.view_39 [] ++ List.map (fun x => DefRec.name x) (recsOf hd.view_39) ++
        List.map (fun x => Prod.fst x) (litsOf hd.view_39) ++
      List.map (fun x => ClsRec.name x) (clssOf hd.view_39 (looseW hd.view_39 []))) mean mg mb h₀ → cs.kind = .function → dp + 20 < recursionLimit → un + 100 < cLine → h₀.IsList l vs.toArray →
    (∀ r tl h' tk', Fr h₀ L h' m → News h₀ L h' (news ++ tl) → (∀ q ∈ news, ∀ p ∈ tl, q.1 ≠ p.1) → post tl r → Q r { s with heap := h', toks := tk' }) →
    wpAny (model (RowW.prog (OpenRow.toRowW (OpenLaw.row Challenge.rw_mr0099_01))) w) (ktrTop dp un gd cn cs L a ccd cl outer) (call (.ref f) [.ref l]) Q E s
theorem tellL_enter {w : World} {mean : ExcName → Option Value} {mg mb : Str → Option Value} {f l : Addr} {vs : List Value} {post : List (Addr × Obj) → Value → Prop}
    {name qual : Str} {params : Arguments} {body : List Stmt} {scope : Scope} {dV kV doc pm cdv ct oc : Value} {an od : Option Addr} {osl : Array (Option Value)} {binds : List (Str × Value)}
    (ho : (hd.heap_39 (World.params w)).lookup f = some ⟨oc, od, .func (fnOf name qual params body scope dV kV doc pm an cdv ct), osl⟩) (hcd : codeIn (hd.heap_39 (World.params w)) cdv qual = true)
    (hbind : ∀ s, BindsTo s (fnOf name qual params body scope dV kV doc pm an cdv ct) ⟨[.ref l], []⟩ binds) (hkind : (binds.all fun y => scope.names.lookup y.1 == some .local || scope.names.lookup y.1 == some .cell) = true)
    (hnd : ((cellsFrom 0 scope.names []).map (·.1)).Nodup) (hco : scope.isCoroutine = false) (hgen : scope.isGenerator = false) (hk : scope.kind = .function)
    (walk : ∀ (dp un : Nat) (gd : Option (List Code)) (cn : Str) (cs : Scope) (L a : Addr) (ccd : Value) (cl : List (Str × Addr)) (outer : List Env) (base g : Heap) (L' : Addr) (news cells : List (Addr × Obj)) (s : Shared),
      Below (ktrTop dp un gd cn cs L a ccd cl outer) base (envX cn cs L a ccd cl :: outer) g → Fr g L' s.heap (bindL (envOfC qual scope L' f cdv).kindOf binds fun _ => none) → News g L' s.heap (cells ++ news) →
      CellsAre (bindC (envOfC qual scope L' f cdv).kindOf binds fun _ => none) (cellsFrom (L' + 1) scope.names []) cells → (hd.heap_39 (World.params w)).In g → Top topProg (looseW hd.view_39 [] ++ List.map (fun x => DefRec.name x) (recsOf hd.view_39) ++
        List.map (fun x => Prod.fst x) (litsOf hd.view_39) ++ List.map (fun x => ClsRec.name x) (clssOf hd.view_39 (looseW hd.view_39 []))) mean mg mb g → (∀ p ∈ news, p.1 < L') → dp + 20 < recursionLimit → un + 100 < cLine → g.IsList l vs.toArray →
      wpAny (model (RowW.prog (OpenRow.toRowW (OpenLaw.row Challenge.rw_mr0099_01))) w) ((ktrTop dp un gd cn cs L a ccd cl outer).deeper (envOfC qual scope L' f cdv)) (execs body (envOfC qual scope L' f cdv)) (DoneC g L' post news s) (fun _ _ => False) s) :
    TellL w mean mg mb f l vs post := by
  intro dp un gd cn cs a ccd cl outer A₀ base h₀ L m news s Q E B F X N T hks hd hu hl hret
  refine wpAny_call ?_
  refine code_defC B F X N T rfl rfl hks ho hcd (by show dp < recursionLimit; omega) (hbind s) hkind hnd (fun g L' h₁ tk cells FG F' N' Y B' X' T' l1 => ?_) hco hgen hk
  refine wpAny_mono (walk dp un gd cn cs L a ccd cl outer base g L' news cells _ B' F' N' Y X' T' l1 hd hu (hl.at fun o e => FG.keep _ o e)) (fun fl s' hdn => ?_) (fun _ _ h => h.elim)
  obtain ⟨h', tk', m', tl, news', rfl, F2, N2, hn1, hn2, hne, hp⟩ := hdn
  refine ⟨L', m', news', F2, N2, fun F3 N3 => ?_⟩
  refine hret _ tl h' tk' F3 (fun p hp => ?_) hne hp
  rcases List.mem_append.mp hp with hp | hp
  · exact N3 p (hn1 p hp)
  · exact N3 p (hn2 p hp)
section
variable {prog : Program} {w : World} {A : Around} {E : Value → Shared → Prop} {s : Shared} {env : Env} {h₀ : Heap} {elts : List Expr} {body : List Stmt} {Q : Flow → Shared → Prop}
/-- enumerate of a list that no turn changes -/
theorem loop_enum {σ : Type} {l : Addr} {vs : List Value} {m₀ : Str → Option Value} {news : List (Addr × Obj)}
    (ps : σ → List (Str × Value)) (front : σ → List (Addr × Obj)) (Facts : List (Addr × Obj) → σ → Prop) (Inv : Nat → σ → Prop) (adr : List Addr)
    (hh : A.handled = none) (hl : s.heap.IsList l vs.toArray) (hlL : l ≠ env.locals) (hla : l ∉ adr)
    (hels : (assignEach elts env).length = 2) (hstar : (assignEach elts env).findIdx? (·.1) = none) (hE : PassesOwn (model prog w) A env E)
    (hadr : ∀ c, (front c).map (·.1) = adr) (F : Fr h₀ env.locals s.heap m₀) (N : News h₀ env.locals s.heap news)
    (c₀ : σ) (tl₀ : List (Addr × Obj)) (hn : ∀ p ∈ front c₀ ++ tl₀, p ∈ news) (ht' : OwnOff tl₀ adr) (hf : Facts tl₀ c₀) (hk : ∀ p ∈ ps c₀, m₀ p.1 = some p.2) (h0 : Inv 0 c₀)
    (turn : ∀ (i : Nat) t v c tl own u h tk, i < vs.length → vs[i]? = some v → OwnOff (tl ++ own) adr → Facts tl c → Inv i c → Fr h₀ env.locals h (kstB u (ps c)) → News h₀ env.locals h (front c ++ (tl ++ own)) →
      wpAny (model prog w) A (assignInOrder ((assignEach elts env).map (·.2)) [.int (i : Int) t, v]) (fun _ s₁ => wpAny (model prog w) A (execs body env) (LPost h₀ env.locals ps front Facts (Inv (i + 1)) tl own { s with heap := h, toks := tk } Q) E s₁) E { s with heap := h, toks := tk })
    (done : ∀ c tl u h tk, OwnOff tl adr → Facts tl c → Inv vs.length c → Fr h₀ env.locals h (kstB u (ps c)) → News h₀ env.locals h (front c ++ tl) → Q .next { s with heap := h, toks := tk }) :
    wpAny (model prog w) A (call (.type "enumerate") [.ref l]) (fun xv s₁ => wpAny (model prog w) A (pyIter xv) (fun it s₂ => PAt prog w A env elts body Q E it s₂) E s₁) E s := by
  have lt1 : @LT.lt Nat instLTNat l s.heap.objs.size := by obtain ⟨o, ho, _⟩ := id hl; exact Heap.lt_size ho
  have ltL : @LT.lt Nat instLTNat env.locals s.heap.objs.size := F.ns.lt
  refine call_enumerate_list hl fun h' he hi1 hsz hkp => ?_
  have hlen : vs.toArray.size = vs.length := by simp
  have W := WalksT.enumerate (prog := prog) (w := w) hh (s.heap.objs.size + 1) s.heap.objs.size l (fun e => by (replace e : (_ : Nat) = (_ : Nat) := e); omega) (fun e => by (replace e : (_ : Nat) = (_ : Nat) := e); omega) (fun e => by (replace e : (_ : Nat) = (_ : Nat) := e); omega) vs.toArray
  rw [hlen] at W
  have F' : Fr h₀ env.locals h' m₀ := ⟨F.ns.at' fun o e => hkp _ o e, fun b o e => hkp b o (F.keep b o e), F.above⟩
  have N' : News h₀ env.locals h' news := fun p hp => ⟨hkp _ _ (N p hp).1, (N p hp).2⟩
  have hlt : ∀ p ∈ news, @LT.lt Nat instLTNat p.1 s.heap.objs.size := fun p hp => Heap.lt_size (N p hp).1
  have hst : (∃ old, IsEnum h' (s.heap.objs.size + 1) s.heap.objs.size ((0 : Nat) : Int) old) ∧ h'.IsListIter s.heap.objs.size l 0 ∧ h'.IsList l vs.toArray :=
    ⟨⟨_, he⟩, hi1, hl.at fun o e => hkp _ o e⟩
  have fresh : ∀ b : Nat, s.heap.objs.size ≤ b → h₀.get? b = none := fun b hb => by
    cases e : h₀.get? b with
    | none => rfl
    | some o => exact absurd (Heap.lt_size (F.keep b o e)) (Nat.not_lt.mpr hb)
  have hadr' : ∀ a ∈ adr, @LT.lt Nat instLTNat a s.heap.objs.size := fun a ha => by
    rw [← hadr c₀] at ha
    obtain ⟨q, hq, rfl⟩ := List.mem_map.mp ha
    exact hlt q (hn q (List.mem_append_left _ hq))
  refine W.self 0 _ _ _ hst ?_
  refine pairs_inv ps front Facts Inv adr hh W ?_ hstar hE ?_ ?_ ?_ hadr ?_ hst F' N' c₀ tl₀ hn ?_ ht' hf hk h0 ?_ done
  · rintro i vals ⟨t, x, hx, rfl⟩
    exact hels
  · intro hm
    simp only [List.mem_cons, List.not_mem_nil, or_false] at hm
    rcases hm with e | e | e
    · replace e : (_ : Nat) = (_ : Nat) := e
      omega
    · replace e : (_ : Nat) = (_ : Nat) := e
      omega
    · exact hlL e.symm
  · intro b hb
    simp only [List.mem_cons, List.not_mem_nil, or_false] at hb
    rcases hb with rfl | rfl <;> exact fresh _ (by omega)
  · rintro i h ⟨⟨old, g1⟩, ⟨o4, g4, _⟩, g6⟩ b hb
    simp only [List.mem_cons, List.not_mem_nil, or_false] at hb
    rcases hb with rfl | rfl
    · exact ⟨_, g1⟩
    · exact ⟨_, g4⟩
  · intro a ha hm
    have := hadr' a ha
    simp only [List.mem_cons, List.not_mem_nil, or_false] at hm
    rcases hm with e | e | e
    · replace e : (_ : Nat) = (_ : Nat) := e
      omega
    · replace e : (_ : Nat) = (_ : Nat) := e
      omega
    · exact hla (e ▸ ha)
  · intro p hp hm
    have := hlt p (hn p (List.mem_append_right _ hp))
    simp only [List.mem_cons, List.not_mem_nil, or_false] at hm
    rcases hm with e | e <;> (replace e : (_ : Nat) = (_ : Nat) := e; omega)
  · rintro i vals c tl own u h tk hi ⟨t, x, hx, rfl⟩ ho hf' hI F₁ N₁
    exact turn i t x c tl own u h tk hi (by simpa using hx) ho hf' hI F₁ N₁
end
end Mine
end
local macro_rules | `(tactic| walk_at "PAD 2") => `(tactic| skip)
section
open PySem PySem.W PyProof.Rows PySem.Spec PySem.Calls
set_option genInjectivity false
set_option genSizeOf false
namespace Mine
theorem fillK5 (w : World) (h : Heap) : (hd.heap_39 (World.params w)).In h → (RowW.prog (OpenRow.toRowW (OpenLaw.row Challenge.rw_mr0099_01))) = (RowW.prog (OpenRow.toRowW (OpenLaw.row Challenge.rw_mr0099_01))) := by
  w_top off
  k_fill
  intro _
  rfl
noncomputable def moreOf (k : Nat) : Int := [1, 4, 14, 3, 0].getD k 0
theorem ints_filterMap {vs : List Value} {ns : List Int} (h : IntsAre vs ns) (js : List Nat) : ∃ ms, IntsAre (js.filterMap fun j => vs.toArray[j]?) ms := by
  induction js with
  | nil => exact ⟨[], .nil⟩
  | cons j r ih =>
    obtain ⟨ms, hm⟩ := ih
    cases e : vs.toArray[j]? with
    | none => exact ⟨ms, by rw [List.filterMap_cons, e]; exact hm⟩
    | some v =>
      obtain ⟨n, t, rfl, _⟩ := h.at j v (by simpa using e)
      exact ⟨n :: ms, by rw [List.filterMap_cons, e]; exact .cons n t hm⟩
theorem rest_prop {prog : Program} {w : World} {A : Around} {h₀ : Heap} {L : Addr} {m : Str → Option Value} {env : Env} {elt : Expr} {x : Str} {scope : Scope} {cl : List (Str × Addr)} {s : Shared} {S : List (Addr × Obj) → Prop} {P : Nat → Value → Prop} {Fin : List Value → List (Addr × Obj) → Prop} {news : List (Addr × Obj)} {n : Nat} (El : Value → Prop)
    (turn : ∀ i v I oI C oC D m₂ ys h tk (E' : Value → Shared → Prop), i < n → P i v → LCg.NsObj oC m₂ → m₂ x = some v → Fr h₀ L h m → News h₀ L h ((I, oI) :: (C, oC) :: (D, LCg.lst ys) :: news) → LCg.Off3 I C D news → ((@Ne Nat I C) ∧ (@Ne Nat I D) ∧ (@Ne Nat C D)) →
      wpAny (model prog w) A (eval elt (compEnvC scope cl C env)) (fun y s' => S news ∧ El y ∧ ∃ h' tk', s' = { s with heap := h', toks := tk' } ∧ Fr h₀ L h' m ∧ News h₀ L h' ((I, oI) :: (C, oC) :: (D, LCg.lst ys) :: news)) E' { s with heap := h, toks := tk })
    (fin : ∀ ys, ys.length = n → (∀ y ∈ ys, El y) → Fin ys news) : LCg.CompRest prog w A h₀ L m env elt x scope cl s S P Fin n 0 [] news := by
  have key : ∀ (j i : Nat) (ys : List Value), i + j = n → ys.length = i → (∀ y ∈ ys, El y) → LCg.CompRest prog w A h₀ L m env elt x scope cl s S P Fin j i ys news := by
    intro j
    induction j with
    | zero =>
      intro i ys hi hl hy
      exact LCg.CompRest.zero (fin ys (by omega) hy)
    | succ j ih =>
      intro i ys hi hl hy
      refine LCg.CompRest.succ ?_
      intro v I oI C oC D m₂ h tk E' hv hC hx F N off ne
      refine wpAny_mono (turn i v I oI C oC D m₂ ys h tk E' (by omega) hv hC hx F N off ne) (fun y s₂ hq => ?_) fun _ _ e => e
      obtain ⟨hS, hel, h', tk', rfl, F', N'⟩ := hq
      exact ⟨h', tk', news, rfl, F', N', off, hS, ih (i + 1) _ (by omega) (by simp [hl]) (fun z hz => by
        rcases List.mem_append.mp hz with hz | hz
        · exact hy z hz
        · rw [List.mem_singleton.mp hz]; exact hel)⟩
  exact key n 0 [] (by omega) rfl (fun _ h => nomatch h)
noncomputable def FreeC (y : Value) : Prop := ∃ (c : Nat) (t : Tok), y = .str ⟨#[c]⟩ t ∧ 200 ≤ c ∧ c < 50200
theorem pow_nz (j : Nat) (h : j < 3) : ¬(((50000 : Int) ^ Int.toNat (0 + ↑j)) == 0) = true := by
  rcases j with _ | _ | _ | j
  all_goals first | decide | omega
theorem pow_short (a : Int) (j : Nat) (h : j < 3) : ¬Builtin.divisionGoesByPylong a ((50000 : Int) ^ Int.toNat (0 + ↑j)) = true := by
  unfold Builtin.divisionGoesByPylong
  intro e
  rw [Bool.and_eq_true] at e
  have e1 := e.1
  rcases j with _ | _ | _ | j
  · revert e1; decide +kernel
  · revert e1; decide +kernel
  · revert e1; decide +kernel
  · omega
noncomputable def FreeS (f : Str) : Prop := ∀ c ∈ f.cps.toList, 200 ≤ c ∧ c < 50200
theorem free_strs : ∀ ys : List Value, (∀ y ∈ ys, FreeC y) → ∃ fs : List Str, StrsAre ys fs ∧ ∀ f ∈ fs, ∃ c : Nat, f = ⟨#[c]⟩ ∧ 200 ≤ c ∧ c < 50200
  | [], _ => ⟨[], .nil, fun _ h => nomatch h⟩
  | y :: r, h => by
    obtain ⟨fs, h1, h2⟩ := free_strs r fun z hz => h z (.tail _ hz)
    obtain ⟨c, t, rfl, hc⟩ := h y (.head _)
    exact ⟨⟨#[c]⟩ :: fs, .cons _ _ h1, (Mine.fac ⟨c, rfl, hc⟩ h2)⟩
theorem sum_free : ∀ fs : List Str, (∀ f ∈ fs, ∃ c : Nat, f = ⟨#[c]⟩ ∧ 200 ≤ c ∧ c < 50200) → (fs.map (·.length)).sum = fs.length
  | [], _ => rfl
  | f :: r, h => by
    have h1 := sum_free r fun z hz => h z (.tail _ hz)
    obtain ⟨c, rfl, _⟩ := h f (.head _)
    rw [List.map_cons, List.sum_cons, h1, List.length_cons, Nat.add_comm]
    rfl
theorem join_free : ∀ fs : List Str, (∀ f ∈ fs, ∃ c : Nat, f = ⟨#[c]⟩ ∧ 200 ≤ c ∧ c < 50200) → (Str.join (Str.ofString "") fs).length = fs.length ∧ FreeS (Str.join (Str.ofString "") fs)
  | [], _ => ⟨rfl, fun _ h => nomatch h⟩
  | [f], h => by
    obtain ⟨c, rfl, hc⟩ := h f (.head _)
    exact ⟨rfl, fun d hd => by
      have : d = c := by simpa [Str.join] using hd
      subst this; exact hc⟩
  | f :: g :: r, h => by
    obtain ⟨h1, h2⟩ := join_free (g :: r) fun z hz => h z (.tail _ hz)
    obtain ⟨c, rfl, hc⟩ := h f (.head _)
    have e : (Str.join (Str.ofString "") (⟨#[c]⟩ :: g :: r)) = (⟨#[c] ++ #[] ++ (Str.join (Str.ofString "") (g :: r)).cps⟩ : Str) := rfl
    constructor
    · rw [e, List.length_cons, ← h1]
      show Array.size _ = Array.size _ + 1
      simp [Nat.add_comm]
    · intro d hd
      rw [e] at hd
      simp at hd
      rcases hd with rfl | hd
      · exact hc
      · exact h2 d (by simpa using hd)
noncomputable def PieceS (k : Nat) (p : Str) : Prop := ∃ f : Str, f.length ≤ 3 ∧ FreeS f ∧ p = (⟨#[65 + k]⟩ : Str) ++ f
theorem letter_at (i : Nat) (h : i < 5) : Txt.item (Str.ofString "ABCDE") (i : Int) = (⟨#[65 + i]⟩ : Str) := by
  rcases i with _ | _ | _ | _ | _ | i
  all_goals first | (with_unfolding_all rfl) | omega
theorem pieces_snoc {ps : List Str} {p : Str} (h : ∀ k q, ps[k]? = some q → PieceS k q) (hp : PieceS ps.length p) : ∀ k q, (ps ++ [p])[k]? = some q → PieceS k q := by
  intro k q e
  rcases Nat.lt_trichotomy k ps.length with hk | hk | hk
  · rw [List.getElem?_append_left hk] at e; exact h k q e
  · subst hk
    rw [List.getElem?_append_right (Nat.le_refl _), Nat.sub_self] at e
    cases e; exact hp
  · rw [List.getElem?_eq_none (by rw [List.length_append, List.length_singleton]; omega)] at e
    cases e
theorem last_at (ps : List Str) (p : Str) : List.getD (ps ++ [p]) (Int.toNat (-1 + ↑(List.length (ps ++ [p])))) Str.empty = p := by
  have : Int.toNat (-1 + ↑(List.length (ps ++ [p]))) = ps.length := by rw [List.length_append, List.length_singleton]; omega
  rw [this]
  simp
structure KinSt where
  od : Obj
  xd : Option Value
  pvs : List Value
  np : Nat
  rvs : List Value
  nr : Nat
  ps : List Str
  rs : List Str
set_option maxHeartbeats 8000000 in
theorem kin_tell (w : World) (mean : ExcName → Option Value) (mg mb : Str → Option Value) (l : Addr) (vs : List Value) (ns : List Int) (hI : IntsAre vs ns) (hlen : ns.length ≤ 63) :
   TellL w mean mg mb 88 l vs (fun tl r => ∃ ps rs : List Str, ps.length = 5 ∧ rs.length ≤ 5 ∧ (∀ k p, ps[k]? = some p → PieceS k p) ∧ (∀ r ∈ rs, ∃ k, k < 5 ∧ PieceS k r) ∧ DatIn tl r (.tuple [.list (ps.map .str), .list (rs.map .str)])) := by
  refine' tellL_enter (binds := [(Str.ofString "script", .ref l)]) ?ho ?hcd ?hb ?hl ?hnd ?co ?ge ?kk ?walk
  case ho => k_is
  case hcd => k_is
  case hb => exact fun s => BindsTo.of_eq rfl
  case hl => rfl
  case hnd => decide +kernel
  case co => rfl
  case ge => rfl
  case kk => rfl
  intro dp un gd cn cs L a ccd cl outer base g L' news cells s B F N Y X T l1 hd hu hgl
  refine wp_gen fun QF hQF => ?_
  k_cells Y
  dsimp only [List.cons_append, List.nil_append] at N
  have hoff : OwnOff news [L' + 1] := fun p hp b hb e => by
    have h1 : @LT.lt Nat instLTNat p.1 L' := l1 p hp
    simp only [List.mem_cons, List.not_mem_nil, or_false] at hb
    subst e
    (replace hb : (_ : Nat) = (_ : Nat) := hb); omega
  rename_i o1 d1
  (repeat' (first | ((fail_if_success (with_reducible show wpAny _ _ (pyIter (Value.ref _)) _ _ _)); (fail_if_success (with_reducible show _ ∧ _)); (fail_if_success (with_reducible show wpAny _ _ (exec (Stmt.Assign [_] (Expr.ListComp _ _ _ _) _) _) _ _ _)); (fail_if_success (with_reducible show LCg.CompSrc _ _ _ _ _ _ _ _ _ _ _ _ _ _)); (fail_if_success (with_reducible show wpAny _ _ (call (Value.builtin "str.join") _) _ _ _)); (fail_if_success (with_reducible show wpAny _ _ (binaryOp Operator.FloorDiv _ (Value.int (_ ^ _) _)) _ _ _)); (fail_if_success (with_reducible show wpAny _ _ (call (Value.type "enumerate") _) _ _ _)); (fail_if_success (with_reducible show wpAny _ _ (call (Value.builtin "sum") _) _ _ _)); first | ((with_reducible show wpAny _ _ (exec (Stmt.For (Expr.Tuple _ _ _) _ _ _ _) _) _ _ _); k_dflt (refine For_pairs ?_)) | (k_unfold; (try dsimp only)) | (k_end; wrow_close) | walk1 | (dsimp only; walk1) | (leave1; walk_say "STEP leave1"; try dsimp only) | fail "no step")))
  (rename Fr _ _ _ _ => F1); (rename News _ _ _ _ => N1)
  rename_i lp _ e1 lr _ e2 dd _ e3 _ _ _ lm _ e4
  have lmL : lm ≠ L' := (N1 _ (.head _)).2.1
  have lmA : lm ∉ [L' + 1, lp, lr] := fun hm => by
    simp only [List.mem_cons, List.not_mem_nil, or_false] at hm
    obtain ⟨a1, a2, a3, a4, _⟩ := e4
    rcases hm with e | e | e <;> (replace e : (_ : Nat) = (_ : Nat) := e; omega)
  have oin : OwnOff news [L' + 1, lp, lr] := fun p hp b hb e => by
    have h1 : @LT.lt Nat instLTNat p.1 L' := l1 p hp
    obtain ⟨a1, _⟩ := e1
    obtain ⟨b1, b2, _⟩ := e2
    simp only [List.mem_cons, List.not_mem_nil, or_false] at hb
    rcases hb with h | h | h <;> (replace h : (_ : Nat) = (_ : Nat) := h; replace e : (_ : Nat) = (_ : Nat) := e; omega)
  refine' loop_enum (σ := KinSt) (h₀ := g) (vs := [.int 1 tk, .int 4 (tk + 1), .int 14 (tk + 1 + 1), .int 3 (tk + 1 + 1 + 1), .int 0 (tk + 1 + 1 + 1 + 1)]) (fun c => [(Str.ofString "script", .ref l), (Str.ofString "pieces", .ref lp), (Str.ofString "refused", .ref lr)])
    (fun c => [(L' + 1, c.od), (lp, listOf c.pvs.toArray c.np), (lr, listOf c.rvs.toArray c.nr)]) (fun tl _ => ∀ p ∈ news, p ∈ tl)
    (fun i c => c.od.data = .cell c.xd ∧ c.pvs.length = i ∧ c.rvs.length ≤ i ∧ StrsAre c.pvs c.ps ∧ StrsAre c.rvs c.rs ∧ (∀ k p, c.ps[k]? = some p → PieceS k p) ∧ ∀ r ∈ c.rs, ∃ k, k < 5 ∧ PieceS k r) [L' + 1, lp, lr] rfl (News.isList N1 (.head _)) lmL lmA rfl rfl PassesOwn.never (fun _ => rfl) F1 N1
    ⟨o1, none, [], 0, [], 0, [], []⟩ news ?hn oin (fun _ h => h) ?hk ⟨d1, rfl, Nat.le_refl _, .nil, .nil, (fun _ _ h => nomatch h), fun _ h => nomatch h⟩ ?turn ?done
  case hn => exact Mine.fac (.tail _ (.tail _ (.tail _ (.tail _ (.head _))))) (Mine.fac (.tail _ (.tail _ (.tail _ (.head _)))) (Mine.fac (.tail _ (.tail _ (.head _))) (fun p hp => .tail _ (.tail _ (.tail _ (.tail _ (.tail _ hp)))))))
  case hk => ((repeat' (first | exact List.forall_mem_nil _ | refine Mine.fac (by with_unfolding_all rfl) ?_)))
  case turn =>
    clear F1 N1 d1
    intro i ti v c tl own u h tk2 hi hv ho hF hIv F2 N2
    refine wp_gen_in fun QT hQT => ?_
    dsimp only [List.nil_append, List.cons_append] at N2
    obtain ⟨od, xd, pvs, np, rvs, nr, ps, rs⟩ := c
    refine and7 hIv fun hod hpv hrv hps hrs hpc hrc => ?_
    clear hIv
    (try dsimp only at hod hpv hrv hps hrs hpc hrc hF N2)
    have hi5 : i < 5 := hi
    obtain ⟨tm, rfl⟩ : ∃ tm, v = .int (moreOf i) tm := by
      rcases i with _ | _ | _ | _ | _ | i
      all_goals first
        | (simp at hv; exact ⟨_, hv.symm⟩)
        | omega
    have hls : (Shared.mk h (Shared.gens s) (Shared.drawn s) tk2 (Shared.os s)).heap.IsList l vs.toArray := hgl.at fun o e => F2.keep _ o e
    (repeat' (first | ((fail_if_success (with_reducible show wpAny _ _ (pyIter (Value.ref _)) _ _ _)); (fail_if_success (with_reducible show _ ∧ _)); (fail_if_success (with_reducible show wpAny _ _ (exec (Stmt.Assign [_] (Expr.ListComp _ _ _ _) _) _) _ _ _)); (fail_if_success (with_reducible show LCg.CompSrc _ _ _ _ _ _ _ _ _ _ _ _ _ _)); (fail_if_success (with_reducible show wpAny _ _ (call (Value.builtin "str.join") _) _ _ _)); (fail_if_success (with_reducible show wpAny _ _ (binaryOp Operator.FloorDiv _ (Value.int (_ ^ _) _)) _ _ _)); (fail_if_success (with_reducible show wpAny _ _ (call (Value.type "enumerate") _) _ _ _)); (fail_if_success (with_reducible show wpAny _ _ (call (Value.builtin "sum") _) _ _ _)); first | ((with_reducible show wpAny _ _ (exec (Stmt.For (Expr.Tuple _ _ _) _ _ _ _) _) _ _ _); k_dflt (refine For_pairs ?_)) | (k_unfold; (try dsimp only)) | (k_end; wrow_close) | walk1 | (dsimp only; walk1) | (leave1; walk_say "STEP leave1"; try dsimp only) | fail "no step")))
    (rename Fr _ _ _ _ => F3); (rename News _ _ _ _ => N3)
    obtain ⟨ws, ms, hws, hms⟩ : ∃ ws ms, slicePick vs.toArray (some (i : Int)) none (some 5) = List.toArray ws ∧ IntsAre ws ms := by
      obtain ⟨ms, hm⟩ := ints_filterMap hI (sliceRange (sliceBounds (some (i : Int)) none (some 5) vs.toArray.size).1 (sliceBounds (some (i : Int)) none (some 5) vs.toArray.size).2.1 (sliceBounds (some (i : Int)) none (some 5) vs.toArray.size).2.2)
      exact ⟨_, ms, rfl, hm⟩
    rw [hws] at N3
    refine LSm.sum_ints F3 N3 rfl (News.isList N3 (.head _)) hms ?_
    intro h4 tk4 t4 F4 N4
    generalize hdr : ms.sum = dr
    replace N4 := fun p hp => N4 p (.tail _ hp)
    replace N4 : News g L' h4 _ := N4
    clear F2 N2 F3 N3
    dsimp only at F4 ⊢
    (repeat' (first | ((fail_if_success (with_reducible show wpAny _ _ (pyIter (Value.ref _)) _ _ _)); (fail_if_success (with_reducible show _ ∧ _)); (fail_if_success (with_reducible show wpAny _ _ (exec (Stmt.Assign [_] (Expr.ListComp _ _ _ _) _) _) _ _ _)); (fail_if_success (with_reducible show LCg.CompSrc _ _ _ _ _ _ _ _ _ _ _ _ _ _)); (fail_if_success (with_reducible show wpAny _ _ (call (Value.builtin "str.join") _) _ _ _)); (fail_if_success (with_reducible show wpAny _ _ (binaryOp Operator.FloorDiv _ (Value.int (_ ^ _) _)) _ _ _)); (fail_if_success (with_reducible show wpAny _ _ (call (Value.type "enumerate") _) _ _ _)); (fail_if_success (with_reducible show wpAny _ _ (call (Value.builtin "sum") _) _ _ _)); first | ((with_reducible show wpAny _ _ (exec (Stmt.For (Expr.Tuple _ _ _) _ _ _ _) _) _ _ _); k_dflt (refine For_pairs ?_)) | (k_unfold; (try dsimp only)) | (k_end; wrow_close) | walk1 | (dsimp only; walk1) | (leave1; walk_say "STEP leave1"; try dsimp only) | fail "no step")))
    (rename Fr _ _ _ _ => F5); (rename News _ _ _ _ => N5)
    refine LCg.Assign_ListComp_U F5 (by rfl) (by with_unfolding_all rfl) (by with_unfolding_all rfl) (by decide) (by rfl) (by decide) (by rfl) (by rfl) (by rfl) ?_
    (repeat' (first | ((fail_if_success (with_reducible show wpAny _ _ (pyIter (Value.ref _)) _ _ _)); (fail_if_success (with_reducible show _ ∧ _)); (fail_if_success (with_reducible show wpAny _ _ (exec (Stmt.Assign [_] (Expr.ListComp _ _ _ _) _) _) _ _ _)); (fail_if_success (with_reducible show LCg.CompSrc _ _ _ _ _ _ _ _ _ _ _ _ _ _)); (fail_if_success (with_reducible show wpAny _ _ (call (Value.builtin "str.join") _) _ _ _)); (fail_if_success (with_reducible show wpAny _ _ (binaryOp Operator.FloorDiv _ (Value.int (_ ^ _) _)) _ _ _)); (fail_if_success (with_reducible show wpAny _ _ (call (Value.type "enumerate") _) _ _ _)); (fail_if_success (with_reducible show wpAny _ _ (call (Value.builtin "sum") _) _ _ _)); first | ((with_reducible show wpAny _ _ (exec (Stmt.For (Expr.Tuple _ _ _) _ _ _ _) _) _ _ _); k_dflt (refine For_pairs ?_)) | (k_unfold; (try dsimp only)) | (k_end; wrow_close) | walk1 | (dsimp only; walk1) | (leave1; walk_say "STEP leave1"; try dsimp only) | fail "no step")))
    (rename Fr _ _ _ _ => F6); (rename News _ _ _ _ => N6); (rename IsRange _ _ _ _ _ _ _ _ => rg)
    have hq1 : 0 ≤ (dr + moreOf i).fmod 4 := Int.fmod_nonneg_of_pos _ (by decide)
    have hq2 : (dr + moreOf i).fmod 4 < 4 := Int.fmod_lt_of_pos _ (by decide)
    refine LCg.CompSrc.range (n := ((dr + moreOf i).fmod 4 - 0).toNat) (by rfl) F6 N6 rg (small_one (by l_bnd) (by l_bnd) (by l_bnd) (by l_bnd)) (rangeSize_nat _ _) (by rw [PySem.sizeLine_eq]; omega) ?_
    intro g'
    refine' rest_prop FreeC ?tn ?fin
    case tn =>
      intro j v I oI C oC D m₂ ys h tk E' hj hPv hC hx F7 N7 off7 ne7
      refine wp_gen fun QC hQC => ?_
      obtain ⟨tj, rfl⟩ := hPv
      have hj3 : j < 3 := by omega
      (try (simp only [LCg.Off3, and_true] at off7))
      dsimp only at F7 N7 ⊢
      (repeat' (first | ((fail_if_success (with_reducible show wpAny _ _ (pyIter (Value.ref _)) _ _ _)); (fail_if_success (with_reducible show _ ∧ _)); (fail_if_success (with_reducible show wpAny _ _ (exec (Stmt.Assign [_] (Expr.ListComp _ _ _ _) _) _) _ _ _)); (fail_if_success (with_reducible show LCg.CompSrc _ _ _ _ _ _ _ _ _ _ _ _ _ _)); (fail_if_success (with_reducible show wpAny _ _ (call (Value.builtin "str.join") _) _ _ _)); (fail_if_success (with_reducible show wpAny _ _ (binaryOp Operator.FloorDiv _ (Value.int (_ ^ _) _)) _ _ _)); (fail_if_success (with_reducible show wpAny _ _ (call (Value.type "enumerate") _) _ _ _)); (fail_if_success (with_reducible show wpAny _ _ (call (Value.builtin "sum") _) _ _ _)); first | ((with_reducible show wpAny _ _ (exec (Stmt.For (Expr.Tuple _ _ _) _ _ _ _) _) _ _ _); k_dflt (refine For_pairs ?_)) | (k_unfold; (try dsimp only)) | (k_end; wrow_close) | walk1 | (dsimp only; walk1) | (leave1; walk_say "STEP leave1"; try dsimp only) | fail "no step")))
      refine AutoIntOps.floordiv_1 ?c0 ?c1 ?_
      case c0 => exact pow_nz j hj3
      case c1 => exact pow_short _ j hj3
      simp only [Made.post]
      (repeat' (first | ((fail_if_success (with_reducible show wpAny _ _ (pyIter (Value.ref _)) _ _ _)); (fail_if_success (with_reducible show _ ∧ _)); (fail_if_success (with_reducible show wpAny _ _ (exec (Stmt.Assign [_] (Expr.ListComp _ _ _ _) _) _) _ _ _)); (fail_if_success (with_reducible show LCg.CompSrc _ _ _ _ _ _ _ _ _ _ _ _ _ _)); (fail_if_success (with_reducible show wpAny _ _ (call (Value.builtin "str.join") _) _ _ _)); (fail_if_success (with_reducible show wpAny _ _ (binaryOp Operator.FloorDiv _ (Value.int (_ ^ _) _)) _ _ _)); (fail_if_success (with_reducible show wpAny _ _ (call (Value.type "enumerate") _) _ _ _)); (fail_if_success (with_reducible show wpAny _ _ (call (Value.builtin "sum") _) _ _ _)); first | ((with_reducible show wpAny _ _ (exec (Stmt.For (Expr.Tuple _ _ _) _ _ _ _) _) _ _ _); k_dflt (refine For_pairs ?_)) | (k_unfold; (try dsimp only)) | (k_end; wrow_close) | walk1 | (dsimp only; walk1) | (leave1; walk_say "STEP leave1"; try dsimp only) | fail "no step")))
      have hr1 := Int.fmod_nonneg_of_pos (((dr + moreOf i).fdiv 16).fdiv (50000 ^ Int.toNat (0 + ↑j))) (b := 50000) (by decide)
      have hr2 := Int.fmod_lt_of_pos (((dr + moreOf i).fdiv 16).fdiv (50000 ^ Int.toNat (0 + ↑j))) (b := 50000) (by decide)
      exact hQC _ _ ⟨trivial, ⟨_, _, rfl, by omega, by omega⟩, _, _, rfl, F7, N7⟩
    case fin =>
      intro ys hyl hys D h tk F7 N7 off7
      obtain ⟨fs, hfs, hfc⟩ := free_strs ys hys
      have hfl : fs.length ≤ 3 := by have := StrsAre.length hfs; omega
      obtain ⟨fj1, fj2⟩ := join_free fs hfc
      simp only [LCg.Off1] at off7
      dsimp only at F7 N7 ⊢
      (repeat' (first | ((fail_if_success (with_reducible show wpAny _ _ (pyIter (Value.ref _)) _ _ _)); (fail_if_success (with_reducible show _ ∧ _)); (fail_if_success (with_reducible show wpAny _ _ (exec (Stmt.Assign [_] (Expr.ListComp _ _ _ _) _) _) _ _ _)); (fail_if_success (with_reducible show LCg.CompSrc _ _ _ _ _ _ _ _ _ _ _ _ _ _)); (fail_if_success (with_reducible show wpAny _ _ (call (Value.builtin "str.join") _) _ _ _)); (fail_if_success (with_reducible show wpAny _ _ (binaryOp Operator.FloorDiv _ (Value.int (_ ^ _) _)) _ _ _)); (fail_if_success (with_reducible show wpAny _ _ (call (Value.type "enumerate") _) _ _ _)); (fail_if_success (with_reducible show wpAny _ _ (call (Value.builtin "sum") _) _ _ _)); first | ((with_reducible show wpAny _ _ (exec (Stmt.For (Expr.Tuple _ _ _) _ _ _ _) _) _ _ _); k_dflt (refine For_pairs ?_)) | (k_unfold; (try dsimp only)) | (k_end; wrow_close) | walk1 | (dsimp only; walk1) | (leave1; walk_say "STEP leave1"; try dsimp only) | fail "no step")))
      refine join_listW (News.isList (by assumption) (.head _)) hfs (by decide) (by have := sum_free fs hfc; omega) ?_
      intro tj kj
      rw [show Txt.join (Str.ofString "") fs = Str.join (Str.ofString "") fs from StrLaws.glued_eq_join _ _, letter_at i hi5]
      generalize hfr : Str.join (Str.ofString "") fs = fr at *
      have hpl : (Str.length (⟨#[65 + i]⟩ : Str)) = 1 := rfl
      (repeat' (first | ((fail_if_success (with_reducible show wpAny _ _ (pyIter (Value.ref _)) _ _ _)); (fail_if_success (with_reducible show _ ∧ _)); (fail_if_success (with_reducible show wpAny _ _ (exec (Stmt.Assign [_] (Expr.ListComp _ _ _ _) _) _) _ _ _)); (fail_if_success (with_reducible show LCg.CompSrc _ _ _ _ _ _ _ _ _ _ _ _ _ _)); (fail_if_success (with_reducible show wpAny _ _ (call (Value.builtin "str.join") _) _ _ _)); (fail_if_success (with_reducible show wpAny _ _ (binaryOp Operator.FloorDiv _ (Value.int (_ ^ _) _)) _ _ _)); (fail_if_success (with_reducible show wpAny _ _ (call (Value.type "enumerate") _) _ _ _)); (fail_if_success (with_reducible show wpAny _ _ (call (Value.builtin "sum") _) _ _ _)); first | ((with_reducible show wpAny _ _ (exec (Stmt.For (Expr.Tuple _ _ _) _ _ _ _) _) _ _ _); k_dflt (refine For_pairs ?_)) | (k_unfold; (try dsimp only)) | (k_end; wrow_close) | walk1 | (dsimp only; walk1) | (leave1; walk_say "STEP leave1"; try dsimp only) | fail "no step")))
      · (rename Fr _ _ _ _ => FE); (rename News _ _ _ _ => NE)
        simp only [List.push_toArray, last_at] at NE
        exact hQT _ _ (lend ⟨_, _, pvs ++ [_], _, rvs ++ [_], _, ps ++ [_], rs ++ [_]⟩ [] FE NE (fun p hp => .tail _ hp) (fun _ h => nomatch h) hF (by ((repeat' (first | exact List.forall_mem_nil _ | refine Mine.fac (by with_unfolding_all rfl) ?_)))) ⟨(by assumption), (by rw [List.length_append, hpv]; rfl), (by rw [List.length_append]; exact Nat.succ_le_succ hrv), strs_snoc hps, strs_snoc hrs, pieces_snoc hpc (by rw [← StrsAre.length hps, hpv]; exact ⟨fr, by omega, fj2, rfl⟩), (fun r hr => by
          rcases List.mem_append.mp hr with hr | hr
          · exact hrc r hr
          · rw [List.mem_singleton.mp hr]; exact ⟨i, hi5, fr, by omega, fj2, rfl⟩)⟩)
      · (rename Fr _ _ _ _ => FE); (rename News _ _ _ _ => NE)
        simp only [List.push_toArray] at NE
        exact hQT _ _ (lend ⟨_, _, pvs ++ [_], _, rvs, _, ps ++ [_], rs⟩ [] FE NE (fun p hp => .tail _ hp) (fun _ h => nomatch h) hF (by ((repeat' (first | exact List.forall_mem_nil _ | refine Mine.fac (by with_unfolding_all rfl) ?_)))) ⟨(by assumption), (by rw [List.length_append, hpv]; rfl), Nat.le_succ_of_le hrv, strs_snoc hps, hrs, pieces_snoc hpc (by rw [← StrsAre.length hps, hpv]; exact ⟨fr, by omega, fj2, rfl⟩), hrc⟩)
  case done =>
    clear F1 N1 d1
    intro c tl u h tk2 ho hF hIv F2 N2
    dsimp only [List.nil_append, List.cons_append] at N2
    obtain ⟨od, xd, pvs, np, rvs, nr, ps, rs⟩ := c
    refine and7 hIv fun hod hpv hrv hps hrs hpc hrc => ?_
    clear hIv
    (try dsimp only at hod hpv hrv hps hrs hpc hrc hF N2)
    (repeat' (first | ((fail_if_success (with_reducible show wpAny _ _ (pyIter (Value.ref _)) _ _ _)); (fail_if_success (with_reducible show _ ∧ _)); (fail_if_success (with_reducible show wpAny _ _ (exec (Stmt.Assign [_] (Expr.ListComp _ _ _ _) _) _) _ _ _)); (fail_if_success (with_reducible show LCg.CompSrc _ _ _ _ _ _ _ _ _ _ _ _ _ _)); (fail_if_success (with_reducible show wpAny _ _ (call (Value.builtin "str.join") _) _ _ _)); (fail_if_success (with_reducible show wpAny _ _ (binaryOp Operator.FloorDiv _ (Value.int (_ ^ _) _)) _ _ _)); (fail_if_success (with_reducible show wpAny _ _ (call (Value.type "enumerate") _) _ _ _)); (fail_if_success (with_reducible show wpAny _ _ (call (Value.builtin "sum") _) _ _ _)); first | ((with_reducible show wpAny _ _ (exec (Stmt.For (Expr.Tuple _ _ _) _ _ _ _) _) _ _ _); k_dflt (refine For_pairs ?_)) | (k_unfold; (try dsimp only)) | (k_end; wrow_close) | walk1 | (dsimp only; walk1) | (leave1; walk_say "STEP leave1"; try dsimp only) | fail "no step")))
    (rename Fr _ _ _ _ => FE); (rename News _ _ _ _ => NE)
    rename_i D9 _ e9 _
    refine hQF _ _ ⟨_, _, _, [_, _, _], _, rfl, FE, NE, fun p hp => .tail _ (.tail _ (.tail _ (.tail _ (hF p hp)))), (Mine.fac (.head _) (Mine.fac (.tail _ (.tail _ (.head _))) (Mine.fac (.tail _ (.tail _ (.tail _ (.head _)))) (List.forall_mem_nil _)))), ?_, ps, rs, (StrsAre.length hps).symm.trans hpv, (StrsAre.length hrs) ▸ hrv, hpc, hrc, .tuple (vs := [_, _]) (.head _) (.cons (.list (.tail _ (.head _)) (strsDat hps)) (.cons (.list (.tail _ (.tail _ (.head _))) (strsDat hrs)) .nil))⟩
    intro q hq p hp
    have h1 : @LT.lt Nat instLTNat q.1 L' := l1 q hq
    obtain ⟨a1, _⟩ := e1
    obtain ⟨b1, b2, _⟩ := e2
    simp only [List.mem_cons, List.not_mem_nil, or_false] at hp
    rcases hp with h | h | h <;> (rw [h]; intro e; replace e : (_ : Nat) = (_ : Nat) := e; dsimp only at e; omega)
end Mine
end
section
open PySem PySem.W PyProof.Rows PySem.Spec PySem.Calls
open PySem.Builtin PySem.Builtin.ObjectAttr
namespace Mine
theorem look_fn : typeLookup (.type "function") "__setattr__" = pure (some (.builtin "object.__setattr__")) := by kernel_rfl
theorem mro_fn : mroOf (.type "function") = pure [.type "function", .type "object"] := by kernel_rfl
theorem pass_fn (self : Value) : refuseLoop self "__setattr__" [.type "function", .type "object"] = pure () := by kernel_rfl
theorem write_fn : typeLookup (.type "function") "write" = pure none := by kernel_rfl
theorem dict_fn : typeHasDict (.type "function") = true := by decide +kernel
theorem final_fn : finalisedInACycleAlone "function" = false := by decide +kernel
section
variable {prog : Program} {w : World} {A : Around} {E : Value → Shared → Prop} {s : Shared} {h₀ : Heap} {L x : Addr} {m : Str → Option Value}
theorem typ_fn {M : Model} {h : Heap} {o : Obj} (hx : h.get? x = some o) (hc : o.cls = .type "function") : Looks M h (typeOf (.ref x)) (.type "function") := by
  exact hc ▸ (Looks.ld hx).andThen .now
theorem set_fn {Q : Unit → Shared → Prop} {fd : FuncData} {name : Str} {v : Value} {pre post : List (Addr × Obj)} (F : Fr h₀ L s.heap m) (N : News h₀ L s.heap (pre ++ (x, { cls := .type "function", data := .func fd }) :: post))
    (h1 : ∀ p ∈ pre, p.1 ≠ x) (h2 : ∀ p ∈ post, p.1 ≠ x) (hw : typeLookup (.type "function") name = pure none)
    (h : ∀ d h', Fr h₀ L h' m → News h₀ L h' ((d, dictOf (putL name (PyData.keyHash w.params name) (.str name (s.toks + 1)) v []) (putN name [] 0)) :: (pre ++ (x, { cls := .type "function", dict := some d, data := .func fd }) :: post)) → (∀ p ∈ pre ++ (x, { cls := .type "function", data := .func fd }) :: post, p.1 < d) → Q () { s with heap := h', toks := s.toks + 2 }) :
    wpAny (model prog w) A (setAttr (.ref x) name v) Q E s := by
  have hx := (N (x, _) (List.mem_append_right _ (.head _))).1
  dsimp only at hx
  have TT : ∀ tk, Looks (model prog w) { s with toks := tk }.heap (typeOf (.ref x)) (.type "function") := fun tk => typ_fn hx rfl
  have SF := PySem.F.store_object
  have sub : Looks (model prog w) s.heap (isInstance (.ref x) (.type "object")) true := (TT 0).andThen (Looks.of_pure (by kernel_rfl))
  refine wpAny_bind (wpAny_mkText (wpAny_bind (wpAny_bind (wpAny_bind ((TT _).here ((Looks.of_pure look_fn).here (wpAny_holding ?_)))))))
  rw [SF.slot.bind]
  refine wpAny_bind (wpAny_pure (wpAny_bind (wpAny_call ?_)))
  refine codeAny_call_builtin SF.slot.plain SF.entry (@check_slot (model prog w) _ _ _ "object.__setattr__" "object" "__setattr__" (.ref x) [.str name _, v] [] _ SF.kind SF.split sub (SF.args (.ref x) (.str name _) v) ?_)
  show wpAny _ _ (Builtin.«object.__setattr__» ⟨[.ref x, .str name s.toks, v], []⟩) _ _ _
  rw [osa_eq, refuse_eq]
  refine wpAny_bind (wpAny_bind ((TT _).here (wpAny_bind ((Looks.of_pure mro_fn).here ?_))))
  rw [pass_fn]
  refine wpAny_pure (wpAny_bind ((TT _).here (wpAny_bind ((Looks.of_pure hw).here (wpAny_bind ((Looks.of_pure (r := none) rfl).here ?_))))))
  dsimp only
  refine wpAny_bind (wpAny_pure (wpAny_bind (wpAny_bind (wpAny_loadPart hx ?_))))
  dsimp only
  rw [dict_fn, if_neg (by decide)]
  have lt : ∀ p ∈ pre ++ (x, ({ cls := .type "function", data := .func fd } : Obj)) :: post, p.1 < s.heap.objs.size := fun p hp => Heap.lt_size (N p hp).1
  have up : ∀ b o, s.heap.get? b = some o → (s.heap.push { cls := .type "dict", data := .dict #[] }).get? b = some o := fun b o e => Heap.get?_push_of_some _ e
  have F1 : Fr h₀ L (s.heap.push { cls := .type "dict", data := .dict #[] }) m := F.keeps up
  have N1 : News h₀ L (s.heap.push { cls := .type "dict", data := .dict #[] }) (((s.heap.objs.size, dictOf [] 0) :: pre) ++ (x, { cls := .type "function", data := .func fd }) :: post) := fun p hp => by
    rcases List.mem_cons.mp hp with rfl | hp
    · exact ⟨Heap.get?_push_size _ rfl, Ne.symm (Nat.ne_of_lt F.ns.lt), next_is_new F⟩
    · exact ⟨up _ _ (N p hp).1, (N p hp).2⟩
  have hxd : x ≠ s.heap.objs.size := Nat.ne_of_lt (Heap.lt_size hx)
  obtain ⟨F2, N2⟩ := news_upd (f := fun o => { o with dict := some s.heap.objs.size }) F1 N1 (fun p hp => by
    rcases List.mem_cons.mp hp with rfl | hp
    · exact Ne.symm hxd
    · exact h1 p hp) h2 rfl rfl
  have N2' : News h₀ L _ ([] ++ (s.heap.objs.size, dictOf [] 0) :: (pre ++ (x, { cls := .type "function", dict := some s.heap.objs.size, data := .func fd }) :: post)) := N2
  obtain ⟨F3, N3⟩ := news_upd (f := Obj.putName name (PyData.keyHash w.params name) (.str name (s.toks + 1)) v) F2 N2' (fun _ h => nomatch h) (fun p hp => Nat.ne_of_lt (by
    rcases List.mem_append.mp hp with q | q
    · exact lt p (List.mem_append_left _ q)
    · rcases List.mem_cons.mp q with rfl | q
      · exact Heap.lt_size hx
      · exact lt p (List.mem_append_right _ (.tail _ q)))) (putName_dict name _ _ v [] 0) rfl
  have D2 := (N2' (s.heap.objs.size, dictOf [] 0) (.head _)).1
  have D3 := (N3 (s.heap.objs.size, _) (.head _)).1
  refine wpAny_bind (wpAny_alloc (wpAny_bind (wpAny_update (up _ _ hx) ?_)))
  unfold dictMade
  dsimp only
  rw [final_fn]
  refine wpAny_bind (wpAny_pure (wpAny_pure ?_))
  refine wpAny_bind (wpAny_pure (wpAny_bind ?_))
  unfold nsSet
  refine wpAny_bind (wpAny_bind (wpAny_askSetting (wpAny_pure (wpAny_bind (wpAny_mkText (wpAny_bind (wpAny_loadPart D2 ?_)))))))
  dsimp only
  have c : (!([] : List DictEntry).toArray.any (·.key.isStr name) && ([] : List DictEntry).toArray.any (·.refKey)) = false := by simp
  rw [aRefKeyMayBeTheName_at, c]
  refine wpAny_updatePart D2 ?_
  refine wpAny_bind (wpAny_lookBehind D3 (by exact pastItsLine_dict (by rw [List.size_toArray, sizeLine_eq]; exact Nat.le_of_ble_eq_true rfl)) ?_)
  exact wpAny_pure (wpAny_pure (wpAny_pure (h _ _ F3 N3 lt)))
theorem set_fn0 {Q : Unit → Shared → Prop} {fd : FuncData} {name : Str} {v : Value} {post : List (Addr × Obj)} (F : Fr h₀ L s.heap m) (N : News h₀ L s.heap ((x, { cls := .type "function", data := .func fd }) :: post))
    (h2 : ∀ p ∈ post, p.1 ≠ x) (hw : typeLookup (.type "function") name = pure none)
    (h : ∀ d tk h', Fr h₀ L h' m → News h₀ L h' ((d, dictOf [⟨PyData.keyHash w.params name, .str name tk, v⟩] 1) :: (x, { cls := .type "function", dict := some d, data := .func fd }) :: post) → (∀ p ∈ (x, ({ cls := .type "function", data := .func fd } : Obj)) :: post, p.1 < d) → Q () { s with heap := h', toks := s.toks + 2 }) :
    wpAny (model prog w) A (setAttr (.ref x) name v) Q E s :=
  set_fn (pre := []) F N (fun _ h => nomatch h) h2 hw fun d h' F' N' l => h d _ h' F' N' l
theorem set_fnU {Q : Unit → Shared → Prop} {fd : FuncData} {name : Str} {v : Value} {news : List (Addr × Obj)} {g : Obj → List (Addr × Obj)} (F : Fr h₀ L s.heap m) (N : News h₀ L s.heap news)
    (U : UpdF x { cls := .type "function", data := .func fd } news g) (hw : typeLookup (.type "function") name = pure none)
    (h : ∀ d tk h', Fr h₀ L h' m → News h₀ L h' ((d, dictOf [⟨PyData.keyHash w.params name, .str name tk, v⟩] 1) :: g { cls := .type "function", dict := some d, data := .func fd }) → (∀ p ∈ news, p.1 < d) → Q () { s with heap := h', toks := s.toks + 2 }) :
    wpAny (model prog w) A (setAttr (.ref x) name v) Q E s := by
  obtain ⟨pre, post, rfl, hg, h1, h2⟩ := U.split
  exact set_fn F N h1 h2 hw fun d h' F' N' l => h d _ h' F' (by rw [hg]; exact N') l
end
end Mine
end
section
open PySem PySem.W PyProof.Rows PySem.Spec PySem.Calls
open PySem.Builtin PySem.Builtin.ObjectAttr
namespace Mine
theorem slot_fn_ga : Slot "function" "__getattribute__" "object.__getattribute__" :=
  .of (owner := "object") (n := "__getattribute__") (by rw [typeLookup_type, builtinLookup_eq_fast]; kernel_rfl) (by decide +kernel) (by decide +kernel) (by decide +kernel)
    (by first | exact .inl (by decide +kernel) | exact .inr (by decide +kernel)) (by rw [isSubtype_type]; kernel_rfl)
theorem fn_getattr_none : typeLookup (.type "function") "__getattr__" = pure none := by kernel_rfl
theorem canon_fn : (Manifest.canonical "object.__getattribute__" != "object.__getattribute__") = false := by decide +kernel
section
variable {prog : Program} {w : World} {A : Around} {E : Value → Shared → Prop} {s : Shared} {x d : Addr} {fd : FuncData} {name : Str} {v : Value} {mA : Str → Option Value}
theorem meets_fn (u : Tok) (hmiss : typeLookup (.type "function") name = pure none) (hname : (["__module__", "__name__", "__qualname__", "__doc__", "__annotations__"] : List Str).contains name = false) (hv : mA name = some v) :
    Meets (Builtin.«object.__getattribute__» ⟨[.ref x, .str name u], []⟩) (fun A R s => s.heap.get? x = some { cls := .type "function", dict := some d, data := .func fd } ∧ s.heap.Ns d mA ∧ R (.ok (.ret v)) s) :=
  Meets.of_wp fun prog w A R s hs => by
    obtain ⟨hp, g, dr, tk, os⟩ := s
    obtain ⟨hx, hns, hq⟩ := hs
    have hT : (⟨hp, g, dr, tk, os⟩ : Shared).TypeIs (.ref x) "function" := ⟨_, hx, rfl⟩
    unfold Builtin.«object.__getattribute__»
    repeat (any_goals (first | assumption | (with_reducible refine wpAny_loadPart_at hx ?_) | (with_reducible refine wpAny_nsGet hns ?_; rw [hv]) | wp_step))
    exact ⟨_, rfl, hq⟩
theorem attr_fn {expr : Bool} {Q : Value → Shared → Prop} (hx : s.heap.get? x = some { cls := .type "function", dict := some d, data := .func fd }) (hns : s.heap.Ns d mA)
    (hmiss : typeLookup (.type "function") name = pure none) (hname : (["__module__", "__name__", "__qualname__", "__doc__", "__annotations__"] : List Str).contains name = false) (hv : mA name = some v) (hh : handedOut v = pure v) (hq : Q v { s with toks := s.toks + 1 }) :
    wpAny (model prog w) A (getAttr (.ref x) name expr) Q E s := by
  obtain ⟨hp, g, dr, tk, os⟩ := s
  have hT : ∀ tk', (⟨hp, g, dr, tk', os⟩ : Shared).TypeIs (.ref x) "function" := fun _ => ⟨_, hx, rfl⟩
  have f3 := slot_fn_ga.lookup
  have f4 := slot_fn_ga.bind (.ref x)
  have f5 := fn_getattr_none
  unfold getAttr getAttrBy
  repeat (any_goals (first | assumption | exact hT _ | ((with_reducible show wpAny _ _ (call (Value.builtin "object.__getattribute__") _ _) _ _ _); refine call_meets slot_fn_ga (hT _) F.entry_object_getattribute (F.args_object_getattribute_2 _ _) (meets_fn (fd := fd) (d := d) (mA := mA) (v := v) _ hmiss hname hv) ⟨hx, hns, ?_⟩) | wp_step))
  rw [show (expr && onTheHeap (Value.builtin "object.__getattribute__")) = false from by cases expr <;> rfl]
  rw [if_neg Bool.false_ne_true]
  unfold boundAndCalled
  repeat (any_goals (first | assumption | exact hT _ | ((with_reducible show wpAny _ _ (call (Value.builtin "object.__getattribute__") _ _) _ _ _); refine call_meets slot_fn_ga (hT _) F.entry_object_getattribute (F.args_object_getattribute_2 _ _) (meets_fn (fd := fd) (d := d) (mA := mA) (v := v) _ hmiss hname hv) ⟨hx, hns, ?_⟩) | wp_step))
set_option maxHeartbeats 1000000 in
theorem get_fn {pl : Sem Bool} {Q : Value × List Value → Shared → Prop} (hx : s.heap.get? x = some { cls := .type "function", dict := some d, data := .func fd }) (hns : s.heap.Ns d mA)
    (hmiss : typeLookup (.type "function") name = pure none) (hname : (["__module__", "__name__", "__qualname__", "__doc__", "__annotations__"] : List Str).contains name = false) (hv : mA name = some v) (hh : handedOut v = pure v) (hq : Q (v, []) { s with toks := s.toks + 1 }) :
    wpAny (model prog w) A (getMethod (.ref x) name pl) Q E s := by
  obtain ⟨hp, g, dr, tk, os⟩ := s
  have hT : ∀ tk', (⟨hp, g, dr, tk', os⟩ : Shared).TypeIs (.ref x) "function" := fun _ => ⟨_, hx, rfl⟩
  have f3 := slot_fn_ga.lookup
  have f5 := fn_getattr_none
  have hcan := canon_fn
  have hga : ∀ (A : Around) (Q' : Value → Shared → Prop), Q' v ⟨hp, g, dr, tk + 1, os⟩ → wpAny (model prog w) A (getAttr (.ref x) name false) Q' E ⟨hp, g, dr, tk, os⟩ := fun A Q' h => attr_fn hx hns hmiss hname hv hh h
  unfold getMethod specialOf
  generalize getAttr (.ref x) name false = ga at *
  repeat (first | (with_reducible refine wpAny_loadPart_at hx ?_) | (with_reducible refine hga _ _ ?_) | simp only [hcan, Bool.false_eq_true, if_false] | wp_step)
  exact hq
theorem ns_one {h : Heap} {hash : Int} {tk : Tok} {n : Nat} (hd : h.get? d = some (dictOf [⟨hash, .str name tk, v⟩] n)) : h.Ns d (fun y => nsFind #[⟨hash, .str name tk, v⟩] y) :=
  ⟨_, _, _, hd, rfl, (fun e he => ⟨name, tk, by simp at he; rw [he]⟩), fun _ => rfl⟩
theorem find_one {hash : Int} {tk : Tok} : nsFind #[⟨hash, .str name tk, v⟩] name = some v := by
  simp [nsFind, findBy, Value.isStr]
end
end Mine
end
section
open PySem PySem.W PyProof.Rows PySem.Spec PySem.Calls
namespace Mine
section
variable {M : Model} {A : Around} {E : Value → Shared → Prop} {s' : Shared} {base g g₂ h : Heap} {outer : List Env} {L a e t : Addr} {m : Str → Option Value} {name : Str} {scope : Scope} {cd : Value} {cl : List (Str × Addr)} {Q : Unit → Shared → Prop} {news : List (Addr × Obj)}
theorem memX {b : Addr} (hm : b ∈ (envX name scope L a cd cl :: outer).filterMap (·.frame)) : b = L ∨ b ∈ outer.filterMap (·.frame) := by
  obtain ⟨env, he, hf⟩ := List.mem_filterMap.mp hm
  rcases List.mem_cons.mp he with rfl | he
  · exact .inl (Option.some.inj hf).symm
  · exact .inr (List.mem_filterMap.mpr ⟨env, he, hf⟩)
/-- an exception leaves the frame, with cells, in which it was made -/
theorem leave_raiseX {cls : Value} {vs : List Value} (K : Below A base outer g) (hx : Heap.MadeExcOf h s'.heap e cls vs) (F : Fr g L h m) (N : News g L h news)
    (hQ : ∀ h' t, RaisedS base g outer e cls t vs news h' → g.UpToSlots h' → Q () { s' with heap := h' }) (hk : scope.kind = .function := by rfl) :
    wpAny M (A.deeper (envX name scope L a cd cl)) (leaving (envX name scope L a cd cl) (.ref e)) Q E s' := by
  have K' := pushX (env := envX name scope L a cd cl) K F rfl hk
  have hin : ∀ env ∈ (envX name scope L a cd cl :: outer), ∀ b, env.frame = some b → b ∈ (envX name scope L a cd cl :: outer).filterMap (·.frame) := fun env he b hb => List.mem_filterMap.mpr ⟨env, he, hb⟩
  have st : base.StaysIn (hideAll h ((envX name scope L a cd cl :: outer).filterMap (·.frame))) := fun b o q => hideAll_get _ (K'.stays b o q) fun hm => by
    rw [(K'.frames.mem hm).1] at q; cases q
  have sg : ∀ b o, g.get? b = some o → b ∉ outer.filterMap (·.frame) → (hideAll h ((envX name scope L a cd cl :: outer).filterMap (·.frame))).get? b = some o := fun b o q nm => hideAll_get _ (F.keep b o q) fun hm => by
    rcases memX hm with z | z
    · rw [z, kts_self F] at q
      cases q
    · exact nm z
  have hl : ∀ q ∈ news, (hideAll h ((envX name scope L a cd cl :: outer).filterMap (·.frame))).get? q.1 = some q.2 ∧ g.get? q.1 = none ∧ base.get? q.1 = none := fun q hq => by
    refine ⟨hideAll_get _ (N q hq).1 fun hm => ?_, (N q hq).2.2, fresh_of_stays K.stays (N q hq).2.2⟩
    obtain ⟨env, he, hf⟩ := List.mem_filterMap.mp hm
    rcases List.mem_cons.mp he with rfl | he
    · exact (N q hq).2.1 (Option.some.inj hf).symm
    · obtain ⟨o, ho, _⟩ := (K.frames.mem (List.mem_filterMap.mpr ⟨env, he, hf⟩)).2
      rw [(N q hq).2.2] at ho; cases ho
  exact wpAny_leaves_madeW K'.stack rfl (fun b o q => of_hideAll _ q) (funFrames_hide K'.frames hin) hx fun h' t x1 x2 x3 x4 =>
    have R : RaisedS base g outer e cls t vs news h' := ⟨⟨_, st, sg, hl, x1, x3⟩, x2⟩
    hQ h' t R (((Heap.UpToSlots.of_keeps F.keep).trans (Heap.UpToSlots.of_keeps hx.keeps)).trans x4)
theorem leave_onX {cls : Value} {vs : List Value} (K : Below A base outer g) (F : Fr g L g₂ m) (R : RaisedS base g₂ (envX name scope L a cd cl :: outer) e cls t vs news s'.heap) (hsm : g₂.UpToSlots s'.heap)
    (hQ : ∀ h', RaisedS base g outer e cls t vs news h' → g.UpToSlots h' → Q () { s' with heap := h' }) :
    wpAny M (A.deeper (envX name scope L a cd cl)) (leaving (envX name scope L a cd cl) (.ref e)) Q E s' := by
  obtain ⟨⟨B, hB, hBG, hl, hfl, hnew⟩, htup⟩ := R
  exact wpAny_leaves_onW (Around.frames_deeper K.stack) rfl hfl fun h' x1 x2 =>
    have R : RaisedS base g outer e cls t vs news h' := ⟨⟨B, hB, fun b o q nm => hBG b o (F.keep b o q) (fun hm => by
      rcases memX hm with z | z
      · rw [z, kts_self F] at q
        cases q
      · exact nm z), fun q hq => ⟨(hl q hq).1, kts_none F.keep (hl q hq).2.1, (hl q hq).2.2⟩, x1, hnew⟩, htup.of_slots x2⟩
    hQ h' R ((Heap.UpToSlots.of_keeps F.keep).trans (hsm.trans x2))
end
section
variable {A₀ : Around} {base g G B h₅ : Heap} {outer : List Env} {L a : Addr} {m : Str → Option Value} {name : Str} {scope : Scope} {cd : Value} {cl : List (Str × Addr)}
theorem groundT (K : Below A₀ base outer g) (F : Fr g L G m) (hBG : ∀ b o, G.get? b = some o → b ∉ (envX name scope L a cd cl :: outer).filterMap (·.frame) → B.get? b = some o) (hBh : B.StaysIn h₅) (hsm : G.UpToSlots h₅) :
    ∃ g', KtsTurn (outer.filterMap (·.frame)) g g' ∧ Fr g' L h₅ m ∧ Below A₀ base outer g' :=
  kts_ground (name := name) (scope := scope) (a := a) (cd := cd) K F hBG hBh hsm
theorem freshT {b : Addr} (F : Fr g L G m) (hBG : ∀ b o, G.get? b = some o → b ∉ (envX name scope L a cd cl :: outer).filterMap (·.frame) → B.get? b = some o) (hb : B.get? b = none)
    (hnf : ∀ o, g.get? b = some o → b ∈ outer.filterMap (·.frame) → False) : g.get? b = none :=
  kts_fresh (name := name) (scope := scope) (a := a) (cd := cd) F hBG hb hnf
end
section
variable {prog : Program} {w : World} {A₀ : Around} {E : Value → Shared → Prop} {s' : Shared} {base g G : Heap} {outer : List Env} {L a e t C : Addr} {m : Str → Option Value} {name : Str} {scope : Scope} {cd : Value} {cl : List (Str × Addr)}
  {vs : List Value} {n : Str} {b₀ : Stmt} {suite : List Stmt} {pos np : Pos} {rest : List ExceptHandler} {Q : Flow → Shared → Prop} {news : List (Addr × Obj)} {KF : Frag}
  {p : Program} {loose : List Str} {mean : ExcName → Option Value} {mg mb : Str → Option Value} {x : Str}
/-- the clause «except X as n» in a frame with cells, X a class of the text -/
theorem caught_XB (R : RaisedS base G (envX name scope L a cd cl :: outer) e (.ref C) t vs news s'.heap) (F : Fr g L G m) (K : Below A₀ base outer g) (hsm : G.UpToSlots s'.heap) (XB : KF.In base) (TB : Top p loose mean mg mb base)
    (D : KtsDicts (outer.filterMap (·.frame)) g)
    (ex : nsIn KF mainGlobals x = some (some (.ref C))) (q : ktsIn KF C "BaseException" = true)
    (k : ∀ h' g' news₂ tk, KtsTurn (outer.filterMap (·.frame)) g g' → Fr g' L h' (fun y => if y = n then some (.ref e) else m y) → News g' L h' (news₂ ++ news) → Got news₂ e t (.ref C) vs → (∀ q ∈ news, q.1 ≠ e ∧ q.1 ≠ t) → Below A₀ base outer g' →
      wpAny (model prog w) ((A₀.deeper (envX name scope L a cd cl)).mark (some (.ref e))) (execs (b₀ :: suite) (envX name scope L a cd cl))
        (fun f s₄ => wpAny (model prog w) (A₀.deeper (envX name scope L a cd cl)) (do bindName (envX name scope L a cd cl) n .none; unbindBehindTheSuite (envX name scope L a cd cl) n pos) (fun _ s₅ => Q f s₅) E s₄)
        (AsSuiteRaised (model prog w) ((A₀.deeper (envX name scope L a cd cl)).mark (some (.ref e))) (envX name scope L a cd cl) n pos (notedBy (model prog w) ((A₀.deeper (envX name scope L a cd cl)).mark (some (.ref e))) (envX name scope L a cd cl) (cameBackBy (model prog w) (A₀.deeper (envX name scope L a cd cl)) (envX name scope L a cd cl) E)))
        { s' with heap := h', toks := tk })
    (hk : scope.kind = .function := by rfl) (hlo : (envX name scope L a cd cl).kindOf n = some .local := by rfl) (hx : (envX name scope L a cd cl).kindOf x = some .globalImplicit := by rfl) (hd : (x == ("__debug__" : Str)) = false := by decide) :
    wpAny (model prog w) (A₀.deeper (envX name scope L a cd cl)) (noteFrame (.ref e) (envX name scope L a cd cl))
      (fun _ s₂ => wpAny (model prog w) (A₀.deeper (envX name scope L a cd cl)) (setFlight (.ref e) none) (fun _ s₃ =>
        wpAny (model prog w) (A₀.deeper (envX name scope L a cd cl)) (handleBy (.ref e) (envX name scope L a cd cl) (.ExceptHandler (some (.Name x np)) (some n) (b₀ :: suite) pos :: rest)) Q E s₃) E s₂) E s' := by
  obtain ⟨⟨B, hB, hBG, hl, hfl, hnew⟩, htup⟩ := R
  have hL : B.get? L = none := by
    obtain ⟨_, ⟨L', _, hf, hn', _⟩, _⟩ := hfl.2.2.1
    obtain rfl : L = L' := Option.some.inj hf
    exact hn'
  refine wpAny_looks_onW (Around.frames_deeper K.stack) rfl hfl fun h₄ hheld₄ hsm₄ => ?_
  refine wpAny_landsW hheld₄ fun h₅ hheld hsm₅' => ?_
  have hsm₅ := hsm₄.trans hsm₅'
  obtain ⟨g₅, T₅, F₅, K₅⟩ := groundT K F hBG hheld.1 (hsm.trans hsm₅)
  have X₅ : KF.In g₅ := XB.keeps K₅.stays
  have P₅ : TopRead p loose mg mb g₅ := topRead_of (TB.keeps K₅.stays)
  obtain ⟨ob, hob, hobc⟩ := hheld.there
  obtain ⟨nm, q', N, bs, bm, hdct, sn, sub, ab, col, dd, k0, k1, k2, k3, k5, newId, hC, hbase, hbT⟩ := kts_cls X₅ q
  have hC₅ := F₅.keep _ _ hC
  refine wpAny_handleBy_cons (codeAny_handlers_test (nameX_K F₅ X₅ P₅ ex ?_ hk hx hd)) (by intro q; cases q)
  refine wpAny_excMatches_sub_self hC₅ hob hobc hbase (codeAny_handlers_suite_as ?_)
  refine lands_againW hheld fun h₆ hfl₆ hsm₆ => ?_
  obtain ⟨g₆, T₆, F₆, K₆⟩ := groundT K F hBG hfl₆.1 ((hsm.trans hsm₅).trans hsm₆)
  obtain ⟨oe, ws, hoe, hoec, hoed, hoe0⟩ := hfl₆.first
  obtain ⟨ot, nt, hot, hotc, hotd⟩ := (htup.of_slots hsm₅).of_slots hsm₆
  have ne₆ : g₆.get? e = none := T₆.none_ _ (freshT F hBG hfl₆.2.1 fun o ho m => by
    obtain ⟨_, o', ho', hd⟩ := K.frames.mem m
    rw [ho] at ho'
    cases ho'
    obtain ⟨sl, hs⟩ := ((hsm.trans hsm₅).trans hsm₆) _ _ (F.keep _ _ ho) hd
    rw [hoe] at hs
    cases hs
    exact hd _ hoed)
  have nt₆ : g₆.get? t = none := T₆.none_ _ (freshT F hBG hnew fun o ho m => by
    obtain ⟨o', es, n', ho', hd⟩ := D _ m
    rw [ho] at ho'
    cases ho'
    obtain ⟨sl, hs⟩ := ((hsm.trans hsm₅).trans hsm₆) _ _ (F.keep _ _ ho) (fun vs q => by rw [hd] at q; cases q)
    rw [hot] at hs
    cases hs
    have z := hd.symm.trans hotd
    cases z)
  have N₆ := News.more F₆ (News.more F₆ News.nil hot (fun es n q => by rw [hotd] at q; cases q) nt₆) hoe (fun es n q => by rw [hoed] at q; cases q) ne₆
  have Nl : News g₆ L h₆ news := fun q hq => ⟨hfl₆.1 _ _ (hl q hq).1, (fun z => by have := (hl q hq).1; rw [z, hL] at this; cases this), T₆.none_ _ (kts_none F.keep (hl q hq).2.1)⟩
  refine storeX_L F₆ (news := _ ++ news) (fun q hq => (List.mem_append.mp hq).elim (N₆ q) (Nl q)) (fun h₇ F₇ N₇ => ?_) hk hlo
  exact k h₇ g₆ _ _ T₆ F₇ N₇ ⟨oe, ot, ws, nt, .head _, .tail _ (.head _), hoec, hoed, hoe0, hotc, hotd⟩ (fun q hq => ⟨(fun z => by have := (hl q hq).1; rw [z, hfl₆.2.1] at this; cases this), (fun z => by have := (hl q hq).1; rw [z, hnew] at this; cases this)⟩) K₆
end
section
variable {prog : Program} {w : World} {A : Around} {E : Value → Shared → Prop} {s : Shared} {name : Str} {scope : Scope} {L a : Addr} {cd : Value} {cl : List (Str × Addr)} {h₀ : Heap} {m mg mb : Str → Option Value}
  {x : Str} {C : Addr} {B newId initId : String} {bm : List Value} {np cpos pos : Pos} {Q : Flow → Shared → Prop} {KF : Frag} {p : Program} {loose : List Str}
/-- raise X(e) in a frame with cells, X a class of the text -/
theorem Raise_ownX {e₀ : Expr} {rest : List Expr} (F : Fr h₀ L s.heap m) (X : KF.In h₀) (TR : TopRead p loose mg mb h₀) (ex : nsIn KF mainGlobals x = some (some (.ref C))) (O : OwnCls x C bm newId mg h₀) (FB : ExcBaseFacts B newId initId bm) (hh : A.handled = none)
    (h : wpAny (model prog w) A (spliced (backTo cpos (starEach (e₀ :: rest) (envX name scope L a cd cl)))) (fun vs s₂ => vs.length ≤ sizeLine ∧ (∀ b o, h₀.get? b = some o → s₂.heap.get? b = some o) ∧
      ∀ h' e, Heap.MadeExcOf s₂.heap h' e (.ref C) vs → E (.ref e) { s₂ with heap := h' }) E s)
    (he : starEach (e₀ :: rest) (envX name scope L a cd cl) = (false, eval e₀ (envX name scope L a cd cl)) :: starEach rest (envX name scope L a cd cl) := by rfl)
    (hplain : (backTo cpos (starEach rest (envX name scope L a cd cl))).any (·.1) = false := by rfl)
    (hk : scope.kind = .function := by rfl) (hx : (envX name scope L a cd cl).kindOf x = some .globalImplicit := by rfl) (hd : (x == ("__debug__" : Str)) = false := by decide) :
    wpAny (model prog w) A (exec (.Raise (some (.Call (.Name x np) (e₀ :: rest) [] cpos)) none pos) (envX name scope L a cd cl)) Q E s := by
  obtain ⟨tl, N, nm, q, bs, hdct, sn, sub, ab, col, dd, k0, k1, k2, k3, k5, mN, hC, hN, hni, T⟩ := O.obj
  refine wpAny_Raise_call_subT (C := C) (nm := nm) (q := q) (N := N) (bs := bs) (bm := tl) (hdct := hdct) (sn := sn) (sub := sub) (ab := ab) (col := col) (dd := dd) (k0 := k0) (k1 := k1) (k2 := k2) (k3 := k3) (k5 := k5)
    FB (mN := mN) (T.hasType FB.hasBase) hh (by rw [he]; show (false || (backTo cpos (starEach rest (envX name scope L a cd cl))).any (·.1)) = false; rw [hplain]; rfl) hni (nameX_K F X TR ex ⟨rfl, ?_⟩ hk hx hd)
  rw [he] at h ⊢
  exact Calls.evalArgs_plain (wpAny_mono h (fun vs s₂ h₂ => ⟨rfl, h₂.1, h₂.2.1 _ _ hC, hN.keeps h₂.2.1, T.keeps h₂.2.1, h₂.2.2⟩) fun _ _ y => y)
end
end Mine
end
section
open PySem PySem.W PyProof.Rows PySem.Spec PySem.Calls
namespace Mine
section
variable {prog : Program} {w : World} {A : Around} {E : Value → Shared → Prop} {s : Shared} {env : Env} {x : Str} {body : List Stmt} {Q : Flow → Shared → Prop}
/-- the loop over a name from here on -/
noncomputable def LAt (prog : Program) (w : World) (A : Around) (env : Env) (x : Str) (body : List Stmt) (Q : Flow → Shared → Prop) (E : Value → Shared → Prop) (it : Value) (s₂ : Shared) : Prop :=
  ∀ px, codeAny (model prog w) A (.forLoop (.Name x px) it body [] env) (fun r s' => match r with | .ok f => Q f s' | .error e => cameBackBy (model prog w) A env E e s') s₂
theorem For_name {px pos : Pos} {iter : Expr}
    (h : wpAny (model prog w) A (eval iter env) (fun xv s₁ => wpAny (model prog w) A (pyIter xv) (fun it s₂ => LAt prog w A env x body Q E it s₂) E s₁) E s)
    (hs : ∀ x, foldedSetIterable iter env x = pure x := by intro _; rfl) :
    wpAny (model prog w) A (exec (.For (.Name x px) iter body [] pos) env) Q E s :=
  wpAny_For (wpAny_mono h (fun _ _ h₁ => wpAny_mono h₁ (fun _ _ h₂ => h₂ _) fun _ _ e => e) fun _ _ e => e) hs
/-- a turn's end where the ground may have turned -/
noncomputable def LEndG {σ : Type} (Gr : Heap → Prop) (L : Addr) (ps : σ → List (Str × Value)) (front : σ → List (Addr × Obj)) (Facts : List (Addr × Obj) → σ → Prop) (Inv : σ → Prop) (tl own : List (Addr × Obj)) (s₁ s₂ : Shared) : Prop :=
  ∃ g h' tk m' c' add news', Gr g ∧ s₂ = { s₁ with heap := h', toks := tk } ∧ Fr g L h' m' ∧ News g L h' news' ∧ (∀ p ∈ front c' ++ (add ++ (tl ++ own)), p ∈ news') ∧ (∀ q ∈ add, ∀ p ∈ front c' ++ (tl ++ own), p.1 ≠ q.1) ∧ Facts (add ++ tl) c' ∧ (∀ p ∈ ps c', m' p.1 = some p.2) ∧ Inv c'
noncomputable def LPostG {σ : Type} (Gr : Heap → Prop) (L : Addr) (ps : σ → List (Str × Value)) (front : σ → List (Addr × Obj)) (Facts : List (Addr × Obj) → σ → Prop) (Inv : σ → Prop) (tl own : List (Addr × Obj)) (s₁ : Shared) (Q : Flow → Shared → Prop) (f : Flow) (s₂ : Shared) : Prop :=
  match f with
  | .ret v => Q (.ret v) s₂
  | .brk => Q .next s₂
  | _ => LEndG Gr L ps front Facts Inv tl own s₁ s₂
theorem lendG {σ : Type} {Gr : Heap → Prop} {g h' : Heap} {L : Addr} {ps : σ → List (Str × Value)} {front : σ → List (Addr × Obj)} {Facts : List (Addr × Obj) → σ → Prop} {Inv : σ → Prop} {tl own news' : List (Addr × Obj)} {s₁ : Shared} {tk : Tok} {m' : Str → Option Value} {Q : Flow → Shared → Prop} (c' : σ) (add : List (Addr × Obj)) (hG : Gr g)
    (F : Fr g L h' m') (N : News g L h' news') (hin : ∀ p ∈ front c' ++ (add ++ (tl ++ own)), p ∈ news') (hadd : ∀ q ∈ add, ∀ p ∈ front c' ++ (tl ++ own), p.1 ≠ q.1) (hf : Facts (add ++ tl) c') (hk : ∀ p ∈ ps c', m' p.1 = some p.2) (hI : Inv c') :
    LPostG Gr L ps front Facts Inv tl own s₁ Q .next { s₁ with heap := h', toks := tk } := ⟨g, _, _, _, c', add, _, hG, rfl, F, N, hin, hadd, hf, hk, hI⟩
theorem loop_invG {σ : Type} {I : Addr} {fp wr : List Addr} {n : Nat} {P : Nat → Value → Prop} {St : Nat → Heap → Prop} {m₀ : Str → Option Value} {news : List (Addr × Obj)} {g₀ : Heap}
    (Gr : Heap → Prop) (ps : σ → List (Str × Value)) (front : σ → List (Addr × Obj)) (Facts : List (Addr × Obj) → σ → Prop) (Inv : Nat → σ → Prop) (adr : List Addr)
    (W : Walks prog w A I fp wr n P St) (hx : env.kindOf x = some .local) (hp : (env.scope.kind == .class || (env.scope.kind == .module && env.locals != env.globals)) = false) (hE : PassesOwn (model prog w) A env E)
    (hLf : env.locals ∉ fp) (hfp : ∀ g, Gr g → ∀ b ∈ fp, g.get? b = none) (hwl : ∀ i h, St i h → ∀ b ∈ wr, ∃ o, h.get? b = some o)
    (hadr : ∀ c, (front c).map (·.1) = adr) (hfa : ∀ a ∈ adr, a ∉ fp)
    (hst : St 0 s.heap) (hg : Gr g₀) (F : Fr g₀ env.locals s.heap m₀) (N : News g₀ env.locals s.heap news)
    (c₀ : σ) (tl₀ : List (Addr × Obj)) (hn : ∀ p ∈ front c₀ ++ tl₀, p ∈ news) (ht : ∀ p ∈ tl₀, p.1 ∉ wr) (ht' : OwnOff tl₀ adr) (hf : Facts tl₀ c₀) (hk : ∀ p ∈ ps c₀, m₀ p.1 = some p.2) (h0 : Inv 0 c₀)
    (turn : ∀ g i v c tl own u h tk, Gr g → i < n → P i v → OwnOff (tl ++ own) adr → Facts tl c → Inv i c → Fr g env.locals h (fun y => if y = x then some v else kstB u (ps c) y) → News g env.locals h (front c ++ (tl ++ own)) →
      wpAny (model prog w) A (execs body env) (LPostG Gr env.locals ps front Facts (Inv (i + 1)) tl own { s with heap := h, toks := tk } Q) E { s with heap := h, toks := tk })
    (done : ∀ g c tl u h tk, Gr g → OwnOff tl adr → Facts tl c → Inv n c → Fr g env.locals h (kstB u (ps c)) → News g env.locals h (front c ++ tl) → Q .next { s with heap := h, toks := tk }) :
    LAt prog w A env x body Q E (.ref I) s := by
  intro px
  have hLw : env.locals ∉ wr := fun h => hLf (W.sub _ h)
  obtain ⟨J, mk, un⟩ : ∃ J : Nat → Shared → Prop, (∀ k s', (∃ g h' tk m' c tl i, Gr g ∧ s' = { s with heap := h', toks := tk } ∧ St i h' ∧ Fr g env.locals h' m' ∧ News g env.locals h' (front c ++ tl) ∧ (∀ p ∈ front c ++ tl, p.1 ∉ wr) ∧ OwnOff tl adr ∧ Facts tl c ∧ (∀ p ∈ ps c, m' p.1 = some p.2) ∧ Inv i c ∧ i ≤ n ∧ k = n + 1 - i) → J k s') ∧ (∀ k s', J k s' → ∃ g h' tk m' c tl i, Gr g ∧ s' = { s with heap := h', toks := tk } ∧ St i h' ∧ Fr g env.locals h' m' ∧ News g env.locals h' (front c ++ tl) ∧ (∀ p ∈ front c ++ tl, p.1 ∉ wr) ∧ OwnOff tl adr ∧ Facts tl c ∧ (∀ p ∈ ps c, m' p.1 = some p.2) ∧ Inv i c ∧ i ≤ n ∧ k = n + 1 - i) := ⟨_, fun _ _ h => h, fun _ _ h => h⟩
  refine codeAny_forLoop J ?_ (n + 1) (mk _ _
    ⟨g₀, s.heap, s.toks, m₀, c₀, tl₀, 0, hg, rfl, hst, F, fun p hp => N p (hn p hp), ?_, ht', hf, hk, h0, Nat.zero_le _, rfl⟩)
  · intro k s' hJ
    obtain ⟨g, H, tk, m', c, tl, i, hG, rfl, hst', F', N', hoff, ho, hf', hk', hI, hi, rfl⟩ := un _ _ hJ
    clear hJ
    have old : ∀ b o, g.get? b = some o → b ∉ wr := fun b o e hb => by rw [hfp g hG b (W.sub _ hb)] at e; cases e
    have next : ∀ h₁ : Heap, (∀ b o, b ∉ wr → H.get? b = some o → h₁.get? b = some o) → Fr g env.locals h₁ m' ∧ News g env.locals h₁ (front c ++ tl) := fun h₁ hk₁ =>
      ⟨⟨F'.ns.at' fun o e => hk₁ _ o hLw e, fun b o e => hk₁ b o (old b o e) (F'.keep b o e), F'.above⟩, fun p hp => ⟨hk₁ _ _ (hoff p hp) (N' p hp).1, (N' p hp).2⟩⟩
    by_cases hlt : i < n
    · refine W.item i _ _ _ hlt hst' fun v h₁ tk₁ hP hst₁ hk₁ => ?_
      obtain ⟨F₁, N₁⟩ := next h₁ hk₁
      refine wpAny_assign_Name (wpAny_storeName_local hx F₁.ns (fun h₂ hn₂ hs₂ => ?_) hp)
      have F₂ := F₁.set hn₂ hs₂
      have Nown : News g env.locals h₂ (ownOf g fp h₂) := news_ownOf hLf
      have hst₂ : St (i + 1) h₂ := W.frame _ _ _ hst₁ fun b hb o e => (hs₂.2 b fun q => hLf (q ▸ hb)).trans e
      have o1 : OwnOff (ownOf g fp h₂) adr := fun p hp b hb e => hfa b hb (e ▸ ownOf_sub p hp)
      have o2 : OwnOff (tl ++ ownOf g fp h₂) adr := kd_off o1 ho
      have N₂ := N₁.set hs₂
      have N₆ : News g env.locals h₂ (front c ++ (tl ++ ownOf g fp h₂)) := fun p hp => by
        rcases List.mem_append.mp hp with hp | hp
        · exact N₂ p (List.mem_append_left _ hp)
        · rcases List.mem_append.mp hp with hp | hp
          · exact N₂ p (List.mem_append_right _ hp)
          · exact Nown p hp
      have F₆ : Fr g env.locals h₂ (fun y => if y = x then some v else kstB m' (ps c) y) := by rw [kstB_same hk']; exact F₂
      refine wpAny_passesOwn hE (wpAny_mono (turn g i v c tl (ownOf g fp h₂) m' h₂ _ hG hlt hP o2 hf' hI F₆ N₆) (fun f s₃ h₃ => ?_) fun _ _ e => e)
      have fin : ∀ tk2, LEndG Gr env.locals ps front Facts (Inv (i + 1)) tl (ownOf g fp h₂) { s with heap := h₂, toks := tk2 } s₃ → ∃ k', k' < n + 1 - i ∧ J k' s₃ := by
        rintro tk2 ⟨g', h', tk', m'', c', add, news', hG', rfl, F'', N'', hin, hadd, hf2, hk2, hI2⟩
        have hown : ∀ b ∈ fp, ∀ o, h₂.get? b = some o → h'.get? b = some o := fun b hb o e => (N'' _ (hin _ (List.mem_append_right _ (List.mem_append_right _ (List.mem_append_right _ (mem_ownOf hb (hfp g hG b hb) e)))))).1
        refine ⟨n + 1 - (i + 1), by omega, mk _ _ ⟨g', h', tk', m'', c', add ++ tl, i + 1, hG', rfl, W.frame _ _ _ hst₂ fun b hb o e => hown b hb o e, F'', fun p hp => N'' p (hin p ?_), ?_, ?_, hf2, hk2, hI2, hlt, rfl⟩⟩
        · rcases List.mem_append.mp hp with hp | hp
          · exact List.mem_append_left _ hp
          · rcases List.mem_append.mp hp with hp | hp
            · exact List.mem_append_right _ (List.mem_append_left _ hp)
            · exact List.mem_append_right _ (List.mem_append_right _ (List.mem_append_left _ hp))
        · intro p hp hb
          rcases List.mem_append.mp hp with hp | hp
          · exact hfa p.1 (hadr c' ▸ List.mem_map.mpr ⟨p, hp, rfl⟩) (W.sub _ hb)
          · rcases List.mem_append.mp hp with hp | hp
            · obtain ⟨o, hbo⟩ := hwl _ _ hst₂ _ hb
              exact hadd p hp _ (List.mem_append_right _ (List.mem_append_right _ (mem_ownOf (W.sub _ hb) (hfp g hG _ (W.sub _ hb)) hbo))) rfl
            · exact hoff p (List.mem_append_right _ hp) hb
        · intro p hp b hb e
          rcases List.mem_append.mp hp with hp | hp
          · rw [← hadr c'] at hb
            obtain ⟨q, hq, rfl⟩ := List.mem_map.mp hb
            exact hadd p hp q (List.mem_append_left _ hq) e.symm
          · exact ho p hp b hb e
      cases f with
      | ret v => exact h₃
      | brk => exact h₃
      | next => exact fin _ h₃
      | cont => exact fin _ h₃
    · have hin : i = n := by omega
      subst hin
      refine W.done _ _ _ hst' fun h₁ tk₁ hk₁ => wpAny_execs_nil ?_
      obtain ⟨F₁, N₁⟩ := next h₁ hk₁
      exact done g c tl m' h₁ tk₁ hG ho hf' hI (by rw [kstB_same hk']; exact F₁) N₁
  · intro p hp hb
    rcases List.mem_append.mp hp with hp | hp
    · exact hfa p.1 (hadr c₀ ▸ List.mem_map.mpr ⟨p, hp, rfl⟩) (W.sub _ hb)
    · exact ht p hp hb
/-- a loop over a range by ones, the ground may turn -/
theorem loop_rangeG {σ : Type} {r : Addr} {a₀ b₀ : Int} {t₀ u₀ v₀ : Tok} {n : Nat} {m₀ : Str → Option Value} {news : List (Addr × Obj)} {g₀ : Heap}
    (Gr : Heap → Prop) (ps : σ → List (Str × Value)) (front : σ → List (Addr × Obj)) (Facts : List (Addr × Obj) → σ → Prop) (Inv : Nat → σ → Prop) (adr : List Addr)
    (hx : env.kindOf x = some .local) (hp : (env.scope.kind == .class || (env.scope.kind == .module && env.locals != env.globals)) = false) (hE : PassesOwn (model prog w) A env E)
    (hh : A.handled = none) (hr : IsRange s.heap r a₀ b₀ 1 t₀ u₀ v₀) (hsmall : Builtin.Range.small a₀ b₀ 1 = true) (hsz : Builtin.Range.rangeSize a₀ b₀ 1 = (n : Int))
    (hgn : ∀ g, Gr g → ∀ b, g₀.get? b = none → g.get? b = none)
    (hadr : ∀ c, (front c).map (·.1) = adr) (hg : Gr g₀) (F : Fr g₀ env.locals s.heap m₀) (N : News g₀ env.locals s.heap news)
    (c₀ : σ) (tl₀ : List (Addr × Obj)) (hn : ∀ p ∈ front c₀ ++ tl₀, p ∈ news) (ht' : OwnOff tl₀ adr) (hf : Facts tl₀ c₀) (hk : ∀ p ∈ ps c₀, m₀ p.1 = some p.2) (h0 : Inv 0 c₀)
    (turn : ∀ g (i : Nat) t c tl own u h tk, Gr g → i < n → OwnOff (tl ++ own) adr → Facts tl c → Inv i c → Fr g env.locals h (fun y => if y = x then some (.int (a₀ + (i : Int)) t) else kstB u (ps c) y) → News g env.locals h (front c ++ (tl ++ own)) →
      wpAny (model prog w) A (execs body env) (LPostG Gr env.locals ps front Facts (Inv (i + 1)) tl own { s with heap := h, toks := tk } Q) E { s with heap := h, toks := tk })
    (done : ∀ g c tl u h tk, Gr g → OwnOff tl adr → Facts tl c → Inv n c → Fr g env.locals h (kstB u (ps c)) → News g env.locals h (front c ++ tl) → Q .next { s with heap := h, toks := tk }) :
    wpAny (model prog w) A (pyIter (.ref r)) (fun it s₂ => LAt prog w A env x body Q E it s₂) E s := by
  refine wpAny_pyIter_range hr hsmall ?_
  have W := Walks.range (prog := prog) (w := w) hh s.heap.objs.size a₀ 1 n
  have hnew : ∀ p ∈ news, p.1 ≠ s.heap.objs.size := fun p hp e => absurd (Heap.lt_size (N p hp).1) (e ▸ Nat.lt_irrefl _)
  refine loop_invG Gr ps front Facts Inv adr W hx hp hE ?_ ?_ ?_ hadr ?_ (by show IsRangeIter _ _ _ _ _; rw [hsz]; simpa using Heap.get?_push_size _ rfl) hg (F.push _) (fun p hp => ⟨Heap.get?_push_of_some _ (N p hp).1, (N p hp).2⟩) c₀ tl₀ hn ?_ ht' hf hk h0 ?_ ?_
  · intro hm
    exact absurd F.ns.lt ((List.mem_singleton.mp hm) ▸ Nat.lt_irrefl _)
  · intro g hG b hb
    rw [List.mem_singleton.mp hb]
    exact hgn g hG _ (next_is_new F)
  · intro i h hi b hb
    rw [List.mem_singleton.mp hb]
    exact ⟨_, hi⟩
  · intro a ha hI
    rw [← hadr c₀] at ha
    obtain ⟨q, hq, rfl⟩ := List.mem_map.mp ha
    exact hnew q (hn q (List.mem_append_left _ hq)) (List.mem_singleton.mp hI)
  · intro p hp hI
    exact hnew p (hn p (List.mem_append_right _ hp)) (List.mem_singleton.mp hI)
  · rintro g i v c tl own u h tk hG hi ⟨t, rfl⟩ ho hf' hI F₁ N₁
    have e1 : a₀ + (i : Int) * 1 = a₀ + (i : Int) := by omega
    rw [e1] at F₁
    exact turn g i t c tl own u h tk hG hi ho hf' hI F₁ N₁
  · intro g c tl u h tk hG ho hf' hI F₁ N₁
    exact done g c tl u h tk hG ho hf' hI F₁ N₁
/-- a loop over a made list that no turn changes, the ground may turn -/
theorem loop_listG {σ : Type} {l : Addr} {vs : List Value} {m₀ : Str → Option Value} {news : List (Addr × Obj)} {g₀ : Heap}
    (Gr : Heap → Prop) (ps : σ → List (Str × Value)) (front : σ → List (Addr × Obj)) (Facts : List (Addr × Obj) → σ → Prop) (Inv : Nat → σ → Prop) (adr : List Addr)
    (hx : env.kindOf x = some .local) (hp : (env.scope.kind == .class || (env.scope.kind == .module && env.locals != env.globals)) = false) (hE : PassesOwn (model prog w) A env E)
    (hh : A.handled = none) (hl : s.heap.IsList l vs.toArray) (hl0 : g₀.get? l = none) (hlL : l ≠ env.locals) (hla : l ∉ adr)
    (hgn : ∀ g, Gr g → ∀ b, g₀.get? b = none → g.get? b = none)
    (hadr : ∀ c, (front c).map (·.1) = adr) (hg : Gr g₀) (F : Fr g₀ env.locals s.heap m₀) (N : News g₀ env.locals s.heap news)
    (c₀ : σ) (tl₀ : List (Addr × Obj)) (hn : ∀ p ∈ front c₀ ++ tl₀, p ∈ news) (ht' : OwnOff tl₀ adr) (hf : Facts tl₀ c₀) (hk : ∀ p ∈ ps c₀, m₀ p.1 = some p.2) (h0 : Inv 0 c₀)
    (turn : ∀ g (i : Nat) v c tl own u h tk, Gr g → i < vs.length → vs[i]? = some v → OwnOff (tl ++ own) adr → Facts tl c → Inv i c → Fr g env.locals h (fun y => if y = x then some v else kstB u (ps c) y) → News g env.locals h (front c ++ (tl ++ own)) →
      wpAny (model prog w) A (execs body env) (LPostG Gr env.locals ps front Facts (Inv (i + 1)) tl own { s with heap := h, toks := tk } Q) E { s with heap := h, toks := tk })
    (done : ∀ g c tl u h tk, Gr g → OwnOff tl adr → Facts tl c → Inv vs.length c → Fr g env.locals h (kstB u (ps c)) → News g env.locals h (front c ++ tl) → Q .next { s with heap := h, toks := tk }) :
    wpAny (model prog w) A (pyIter (.ref l)) (fun it s₂ => LAt prog w A env x body Q E it s₂) E s := by
  obtain ⟨ol, hol, _⟩ := id hl
  have hne : l ≠ s.heap.objs.size := Nat.ne_of_lt (Heap.lt_size hol)
  refine wpAny_pyIter_list hl ?_
  have W := Walks.list (prog := prog) (w := w) hh s.heap.objs.size l hne vs.toArray
  have hlen : vs.toArray.size = vs.length := by simp
  rw [hlen] at W
  have hnew : ∀ p ∈ news, p.1 ≠ s.heap.objs.size := fun p hp e => absurd (Heap.lt_size (N p hp).1) (e ▸ Nat.lt_irrefl _)
  refine loop_invG Gr ps front Facts Inv adr W hx hp hE ?_ ?_ ?_ hadr ?_ ⟨⟨_, Heap.get?_push_size _ rfl, rfl, rfl⟩, hl.at fun o e => Heap.get?_push_of_some _ e⟩ hg (F.push _) (fun p hp => ⟨Heap.get?_push_of_some _ (N p hp).1, (N p hp).2⟩) c₀ tl₀ hn ?_ ht' hf hk h0 ?_ done
  · intro hm
    rcases List.mem_cons.mp hm with e | hm
    · exact absurd F.ns.lt (e ▸ Nat.lt_irrefl _)
    · exact hlL (List.mem_singleton.mp hm).symm
  · intro g hG b hb
    rcases List.mem_cons.mp hb with e | hb
    · rw [e]
      exact hgn g hG _ (next_is_new F)
    · rw [List.mem_singleton.mp hb]
      exact hgn g hG _ hl0
  · intro i h hi b hb
    rw [List.mem_singleton.mp hb]
    obtain ⟨⟨o, ho, _⟩, _⟩ := hi
    exact ⟨o, ho⟩
  · intro a ha hI
    rcases List.mem_cons.mp hI with e | hI
    · rw [← hadr c₀] at ha
      obtain ⟨q, hq, rfl⟩ := List.mem_map.mp ha
      exact hnew q (hn q (List.mem_append_left _ hq)) e
    · exact hla ((List.mem_singleton.mp hI) ▸ ha)
  · intro p hp hI
    exact hnew p (hn p (List.mem_append_right _ hp)) (List.mem_singleton.mp hI)
  · intro g i v c tl own u h tk hG hi hv ho hf' hI F₁ N₁
    exact turn g i v c tl own u h tk hG hi (by simpa using hv) ho hf' hI F₁ N₁
end
/-- the contract of a def that changes one object of the caller's ledger (its code table), called by the lowest frame, and may turn that frame's slots -/
noncomputable def TellT (w : World) (mean : ExcName → Option Value) (mg mb : Str → Option Value) (f cc c : Addr) (oc₀ : Obj) (vs : List Value) (pre : List (Addr × Obj) → Prop) (post : List (Addr × Obj) → Value → Prop) : Prop :=
  ∀ (dp un : Nat) (gd : Option (List Code)) (cn : Str) (cs : Scope) (a : Addr) (ccd : Value) (cl : List (Str × Addr)) (A₀ : Around) (h₀ : Heap) (L : Addr) (m : Str → Option Value) (news : List (Addr × Obj)) (s : Shared)
    (Q E : Value → Shared → Prop),
    Below A₀ h₀ [] h₀ → Fr h₀ L s.heap m → (hd.heap_39 (World.params w)).In h₀ → News h₀ L s.heap ((c, oc₀) :: news) → Top topProg (looseW hd.view_39 [] ++ List.map (fun x => DefRec.name x) (recsOf hd.view_39) ++
        List.map (fun x => Prod.fst x) (litsOf hd.view_39) ++
      List.map (fun x => ClsRec.name x) (clssOf hd.view_39 (looseW hd.view_39 []))) mean mg mb h₀ → cs.kind = .function → dp + 20 < recursionLimit → un + 100 < cLine → pre news → (∀ p ∈ news, p.1 ≠ c) → CodeHd h₀ cc c →
    (∀ r (qs : Array Value) tl h' tk', Fr h₀ L h' m → News h₀ L h' ((c, tabObj qs) :: (news ++ tl)) → (∀ q ∈ news, ∀ p ∈ tl, q.1 ≠ p.1) → (∀ p ∈ tl, p.1 ≠ c) → post tl r → Q r { s with heap := h', toks := tk' }) →
    wpAny (model (RowW.prog (OpenRow.toRowW (OpenLaw.row Challenge.rw_mr0099_01))) w) (ktrTop dp un gd cn cs L a ccd cl []) (call (.ref f) vs) Q E s
noncomputable def DoneT (Gr : Heap → Prop) (L c : Addr) (post : List (Addr × Obj) → Value → Prop) (news : List (Addr × Obj)) (s : Shared) (fl : Flow) (s' : Shared) : Prop :=
  ∃ g h' tk' m' qs tl news', Gr g ∧ s' = { s with heap := h', toks := tk' } ∧ Fr g L h' m' ∧ News g L h' news' ∧ (c, tabObj qs) ∈ news' ∧ (∀ p ∈ news, p ∈ news') ∧ (∀ p ∈ tl, p ∈ news') ∧ (∀ q ∈ news, ∀ p ∈ tl, q.1 ≠ p.1) ∧ (∀ p ∈ tl, p.1 ≠ c) ∧ post tl (match fl with | .ret v => v | _ => .none)
/-- the grounds that a catch may leave -/
structure GroundT (A₁ : Around) (base : Heap) (env : Env) (g g' : Heap) : Prop where
  turn : KtsTurn ([env].filterMap (·.frame)) g g'
  below : Below A₁ base [env] g'
theorem GroundT.dicts {A₁ : Around} {base g g' : Heap} {env : Env} (G : GroundT A₁ base env g g') (D : KtsDicts ([env].filterMap (·.frame)) g) : KtsDicts ([env].filterMap (·.frame)) g' := D.turn G.turn
theorem GroundT.next {A₁ : Around} {base g g' g'' : Heap} {env : Env} (G : GroundT A₁ base env g g') (T : KtsTurn ([env].filterMap (·.frame)) g' g'') (B : Below A₁ base [env] g'') : GroundT A₁ base env g g'' := ⟨G.turn.trans T, B⟩
section
variable {prog : Program} {w : World} {A₀ A : Around} {s : Shared} {h₀ : Heap} {L : Addr} {m : Str → Option Value} {env : Env} {news : List (Addr × Obj)}
  {R : Result → Shared → Prop} {name qual : Str} {params : Arguments} {body : List Stmt} {scope : Scope} {dV kV doc pm cdv ct : Value} {an : Option Addr} {fo : Obj} {f : Addr} {args : Args} {binds : List (Str × Value)}
theorem callT_cells (B : Below A₀ h₀ [] h₀) (F : Fr h₀ L s.heap m) (N : News h₀ L s.heap news) (hlim : h₀.NoLimit) (hA : A.frames = some [env]) (hf : env.frame = some L) (hke : env.scope.kind = .function)
    (ho : s.heap.get? f = some fo) (hd : fo.data = .func (fnX name qual params body scope [] dV kV doc pm an cdv ct)) (hcd : s.heap.CodeRec cdv qual) (hroom : A.depth < recursionLimit)
    (hbind : BindsTo s (fnX name qual params body scope [] dV kV doc pm an cdv ct) args binds)
    (hkind : ∀ n, ∀ x ∈ binds, scope.names.lookup x.1 = some .local ∨ (scope.names.lookup x.1 = some .cell ∧ ((cellsFrom n scope.names []).lookup x.1).isSome = true))
    (hnd : ((cellsFrom 0 scope.names []).map (·.1)).Nodup)
    (h : ∀ g L' h₁ tk cells, Fr h₀ L g m → Fr g L' h₁ (bindL (envOfC qual scope L' f cdv).kindOf binds fun _ => none) → News g L' h₁ (cells ++ news) →
      CellsAre (bindC (envOfC qual scope L' f cdv).kindOf binds fun _ => none) (cellsFrom (L' + 1) scope.names []) cells → Below A h₀ [env] g → h₀.StaysIn g → (∀ p ∈ news, p.1 < L') → KtsDicts ([env].filterMap (·.frame)) g →
      wpAny (model prog w) (A.deeper (envOfC qual scope L' f cdv)) (execs body (envOfC qual scope L' f cdv))
        (fun fl s' => ∃ g' m' news', GroundT A h₀ env g g' ∧ Fr g' L' s'.heap m' ∧ News g' L' s'.heap news' ∧ (Fr h₀ L s'.heap m → News h₀ L s'.heap news' → R (.ok (.ret (match fl with | .ret v => v | _ => .none))) s'))
        (fun e s' => wpAny (model prog w) (A.deeper (envOfC qual scope L' f cdv)) (leaving (envOfC qual scope L' f cdv) e) (fun _ s'' => R (.error e) s'') (fun e' s'' => R (.error e') s'') s')
        { s with heap := h₁, toks := tk })
    (hco : scope.isCoroutine = false := by rfl) (hgen : scope.isGenerator = false := by rfl) (hk : scope.kind = .function := by rfl) : codeAny (model prog w) A (.call (.ref f) args) R s := by
  obtain ⟨FG, BG, st, _⟩ := groundX (R := R) B F N hA hf hke
  refine codeAny_call_function hroom ho hd hco hgen rfl hcd (hbind _ _ _ _ ?_)
  refine wpAny_newFunctionEnv_cells hk (hkind _) fun env' he s' x => ?_
  subst he
  refine ⟨(hlim.keeps F.keep).keeps x.toInCall.keep, codeAny_func ?_⟩
  obtain ⟨h₁, tk, rfl, _⟩ := x.done
  have hk₁ := x.toInCall.keep
  obtain ⟨cells, NC, Y⟩ := Cl.news (h₀ := s.heap) (Nat.le_refl _) fun n c hm => ⟨x.cell n c (lookup_of_mem_nodup (cellsFrom_names scope.names 0 (s.heap.objs.size + 1) [] [] rfl ▸ hnd) hm), x.above n c hm⟩
  obtain ⟨oL, es, ep, hLg, hLd, hLk, hLf⟩ := id FG.ns
  have mL : ∀ b ∈ ([env].filterMap (·.frame)), b = L := fun b hb => by
    obtain ⟨e', he, hf'⟩ := List.mem_filterMap.mp hb
    rw [List.mem_singleton.mp he, hf] at hf'
    exact (Option.some.inj hf').symm
  refine wpAny_mono (h _ s.heap.objs.size h₁ tk cells FG ⟨x.toInCall.ns, fun b o e => hk₁ b o (of_hideAll _ e), Nat.le_of_eq (hideAll_size _ _)⟩ (fun p hp => ?_) Y BG st (fun p hp => Heap.lt_size (N p hp).1) (fun b hb => by rw [mL b hb]; exact ⟨oL, es, ep, hLg, hLd⟩)) (fun fl s' hl => ?_) fun _ _ y => y
  · rcases List.mem_append.mp hp with hp | hp
    · refine ⟨(NC p hp).1, (NC p hp).2.1, ?_⟩
      cases q : (hideAll s.heap (news.map (·.1))).get? p.1 with
      | none => rfl
      | some o => have := of_hideAll _ q; rw [(NC p hp).2.2] at this; cases this
    · exact ⟨hk₁ _ _ (N p hp).1, Nat.ne_of_lt (Heap.lt_size (N p hp).1), hideAll_none _ (List.mem_map_of_mem hp)⟩
  · obtain ⟨g', m', news', GT, F', N', k⟩ := hl
    have T' := GT.turn
    have nL₀ : h₀.get? L = none := kts_self F
    obtain ⟨sl, hs⟩ := T'.up hLg
    refine k ⟨⟨_, es, ep, F'.keep _ _ hs, hLd, hLk, hLf⟩, fun b o e => F'.keep b o (T'.other b o (st b o e) (fun q => by rw [mL b q, nL₀] at e; cases e)), F.above⟩ fun p hp => ⟨(N' p hp).1, fun q => ?_, ?_⟩
    · have := (N' p hp).2.2; rw [q, hs] at this; cases this
    · cases q : h₀.get? p.1 with
      | none => rfl
      | some o =>
        obtain ⟨sl', hs'⟩ := T'.up (st _ _ q)
        have := (N' p hp).2.2
        rw [hs'] at this
        cases this
end
theorem tellT_enter {w : World} {mean : ExcName → Option Value} {mg mb : Str → Option Value} {f cc c : Addr} {oc₀ : Obj} {vs : List Value} {pre : List (Addr × Obj) → Prop} {post : List (Addr × Obj) → Value → Prop}
    {name qual : Str} {params : Arguments} {body : List Stmt} {scope : Scope} {dV kV doc pm cdv ct oc : Value} {an od : Option Addr} {osl : Array (Option Value)} {binds : List (Str × Value)}
    (ho : (hd.heap_39 (World.params w)).lookup f = some ⟨oc, od, .func (fnOf name qual params body scope dV kV doc pm an cdv ct), osl⟩) (hcd : codeIn (hd.heap_39 (World.params w)) cdv qual = true)
    (hbind : ∀ s, BindsTo s (fnOf name qual params body scope dV kV doc pm an cdv ct) ⟨vs, []⟩ binds) (hkind : (binds.all fun y => scope.names.lookup y.1 == some .local || scope.names.lookup y.1 == some .cell) = true)
    (hnd : ((cellsFrom 0 scope.names []).map (·.1)).Nodup) (hco : scope.isCoroutine = false) (hgen : scope.isGenerator = false) (hk : scope.kind = .function)
    (walk : ∀ (dp un : Nat) (gd : Option (List Code)) (cn : Str) (cs : Scope) (L a : Addr) (ccd : Value) (cl : List (Str × Addr)) (base g : Heap) (L' : Addr) (news cells : List (Addr × Obj)) (s : Shared),
      Below (ktrTop dp un gd cn cs L a ccd cl []) base [envX cn cs L a ccd cl] g → Fr g L' s.heap (bindL (envOfC qual scope L' f cdv).kindOf binds fun _ => none) → News g L' s.heap (cells ++ (c, oc₀) :: news) →
      CellsAre (bindC (envOfC qual scope L' f cdv).kindOf binds fun _ => none) (cellsFrom (L' + 1) scope.names []) cells → (hd.heap_39 (World.params w)).In base → Top topProg (looseW hd.view_39 [] ++ List.map (fun x => DefRec.name x) (recsOf hd.view_39) ++
        List.map (fun x => Prod.fst x) (litsOf hd.view_39) ++ List.map (fun x => ClsRec.name x) (clssOf hd.view_39 (looseW hd.view_39 []))) mean mg mb base → KtsDicts ([envX cn cs L a ccd cl].filterMap (·.frame)) g → c < L' → (∀ p ∈ news, p.1 < L') → (∀ p ∈ news, p.1 ≠ c) → CodeHd base cc c → dp + 20 < recursionLimit → un + 100 < cLine → pre news →
      wpAny (model (RowW.prog (OpenRow.toRowW (OpenLaw.row Challenge.rw_mr0099_01))) w) ((ktrTop dp un gd cn cs L a ccd cl []).deeper (envOfC qual scope L' f cdv)) (execs body (envOfC qual scope L' f cdv)) (DoneT (GroundT (ktrTop dp un gd cn cs L a ccd cl []) base (envX cn cs L a ccd cl) g) L' c post news s) (fun _ _ => False) s) :
    TellT w mean mg mb f cc c oc₀ vs pre post := by
  intro dp un gd cn cs a ccd cl A₀ h₀ L m news s Q E B F X N T hks hd hu hpre hoc hC hret
  refine wpAny_call ?_
  refine callT_cells B F N T.nolimit (env := envX cn cs L a ccd cl) rfl rfl hks ((X.keeps F.keep) _ _ ho) rfl (codeRec_of (X.keeps F.keep) hcd) (by show dp < recursionLimit; omega) (hbind s) (kindsX hkind) hnd (fun g L' h₁ tk cells FG F' N' Y B' st l1 D => ?_) hco hgen hk
  refine wpAny_mono (walk dp un gd cn cs L a ccd cl h₀ g L' news cells _ B' F' N' Y X T D (l1 _ (.head _)) (fun p hp => l1 p (.tail _ hp)) hoc hC hd hu hpre) (fun fl s' hdn => ?_) (fun _ _ h => h.elim)
  obtain ⟨g', h', tk', m', qs, tl, news', GT, rfl, F2, N2, hc, hn1, hn2, hne, hnc, hp⟩ := hdn
  refine ⟨g', m', news', GT, F2, N2, fun F3 N3 => ?_⟩
  refine hret _ qs tl h' tk' F3 (fun p hp => ?_) hne hnc hp
  rcases List.mem_cons.mp hp with rfl | hp
  · exact N3 _ hc
  rcases List.mem_append.mp hp with hp | hp
  · exact N3 p (hn1 p hp)
  · exact N3 p (hn2 p hp)
end Mine
end
section
open PySem PySem.W PyProof.Rows PySem.Spec PySem.Calls
open PySem.Builtin PySem.Builtin.Str PySem.Builtin.BaseException PySem.Builtin.Exceptions
namespace Mine
/-- an own exception with one text, on the heap -/
structure OwnExc (h : Heap) (e C : Addr) (m : Str) (tk : Tok) : Prop where
  there : ∃ oe ws t0, h.get? e = some oe ∧ oe.cls = .ref C ∧ oe.data = .fields ws ∧ ws[0]? = some (.ref t0) ∧ h.TupAt t0 [.str m tk]
theorem kind_str : builtinKind "BaseException.__str__" = some .slot := by decide +kernel
theorem split_str : splitId "BaseException.__str__" = some ("BaseException", "__str__") := by decide +kernel
section
variable {prog : Program} {w : World} {A : Around} {E : Value → Shared → Prop} {s : Shared} {e C : Addr} {m : Str} {tk : Tok} {KF : Frag}
theorem own_entry {Q : Fin → Shared → Prop} (x : OwnExc s.heap e C m tk) (hq : Q (.done (.ret (.str m tk))) s) :
    wpAny (model prog w) A (Builtin.«BaseException.__str__» ⟨[.ref e], []⟩) Q E s := by
  obtain ⟨oe, ws, t0, ho, _, hd, h0, ht⟩ := x.there
  have ha : ∀ {Q : Value × List Value → Shared → Prop}, Q (.ref t0, [.str m tk]) s → wpAny (model prog w) A (bexcArgs (.ref e)) Q E s := by
    intro Q hq
    obtain ⟨ot, k, hto, _, htd⟩ := ht
    unfold bexcArgs
    exact wpAny_bind (wpAny_field ho hd h0 (wpAny_bind (wpAny_seqItems hto htd (wpAny_pure hq))))
  unfold Builtin.«BaseException.__str__»
  repeat (first | with_reducible refine ha ?_ | wp_step)
  exact hq
set_option maxHeartbeats 1000000 in
theorem own_str {Q : Value → Shared → Prop} (X : KF.In s.heap) (x : OwnExc s.heap e C m tk) (hf : findIn KF (.ref C) "__str__" = some (some (.builtin "BaseException.__str__"))) (hs : subIn KF (.ref C) (.type "BaseException") = some true) (hu : A.units < cLine) (hq : Q (.str m tk) s) :
    wpAny (model prog w) A (Builtin.Str.strOf (.ref e)) Q E s := by
  obtain ⟨oe, ws, t0, ho, hc, _⟩ := x.there
  have TT : Looks (model prog w) s.heap (typeOf (.ref e)) (.ref C) := hc ▸ (Looks.ld ho).andThen .now
  have LL : Looks (model prog w) s.heap (typeLookup (.ref C) "__str__") (some (.builtin "BaseException.__str__")) := looks_findIn X hf
  have sub : Looks (model prog w) s.heap (isInstance (.ref e) (.type "BaseException")) true := TT.andThen (looks_subIn X hs)
  unfold Builtin.Str.strOf
  repeat (first | with_reducible refine wpAny_cRoomFor hu ?_ | wp_step)
  rw [hc]
  refine LL.here ?_
  have f4 := PySem.F.excStr_Exception.str.bind (.ref e)
  have hcall : ∀ (Q' : Value → Shared → Prop) (E' : Value → Shared → Prop), Q' (.str m tk) s → wpAny (model prog w) A (call (.builtin "BaseException.__str__") [.ref e]) Q' E' s := by
    intro Q' E' hq'
    refine wpAny_call ?_
    refine codeAny_call_builtin PySem.F.excStr_Exception.str.plain PySem.F.entry_bexc_str (@check_slot (model prog w) _ _ _ "BaseException.__str__" "BaseException" "__str__" (.ref e) [] [] _ kind_str split_str sub (PySem.F.args_bexc_str _) ?_)
    exact own_entry x hq'
  dsimp only
  refine wpAny_holding ?_
  rw [f4]
  refine wpAny_bind (wpAny_pure ?_)
  dsimp only
  refine wpAny_bind (hcall _ _ (wpAny_pure ?_))
  dsimp only
  repeat wp_step
  exact hq
theorem str_own {Q : Value → Shared → Prop} (X : KF.In s.heap) (x : OwnExc s.heap e C m tk) (hf : findIn KF (.ref C) "__str__" = some (some (.builtin "BaseException.__str__"))) (hs : subIn KF (.ref C) (.type "BaseException") = some true) (hu : A.units + 2 < cLine) (hq : Q (.str m tk) s) :
    wpAny (model prog w) A (call (.type "str") [.ref e]) Q E s :=
  callType_new PySem.F.called_str (by decide) (PySem.F.typeCall_str_1 _) (PySem.F.newCall_str_1 _) (fun obj => PySem.F.args_object_init_2 obj _) PySem.F.entry_str_new
    (meets_str_new (S := fun A' R s' => A'.units + 1 < cLine ∧ KF.In s'.heap ∧ OwnExc s'.heap e C m tk ∧ R (.ok (.ret (.str m tk))) s')
      fun _ _ A' _ _ hq => own_str (A := A'.in1) hq.2.1 hq.2.2.1 hf hs hq.1 hq.2.2.2)
    ⟨(show A.units + 1 + 1 < cLine from hu), X, x, typeIs_str _ _ _, hq⟩
end
theorem name_goesX {M : Model} {A : Around} {E : Value → Shared → Prop} {s : Shared} {name : Str} {scope : Scope} {L a : Addr} {cd : Value} {cl : List (Str × Addr)} {h₀ : Heap} {m : Str → Option Value} {news : List (Addr × Obj)} {n : Str} {pos : Pos} {Q : Unit → Shared → Prop} (F : Fr h₀ L s.heap m) (N : News h₀ L s.heap news)
    (h : ∀ h' v, Fr h₀ L h' (fun x => if x = n then v else m x) → News h₀ L h' news → Q () { s with heap := h', toks := s.toks + 1 })
    (hk : scope.kind = .function := by rfl) (hl : (envX name scope L a cd cl).kindOf n = some .local := by rfl) :
    wpAny M A (do bindName (envX name scope L a cd cl) n .none; unbindBehindTheSuite (envX name scope L a cd cl) n pos) Q E s :=
  wpAny_nameGoes_keeps hl F.ns (by show (scope.kind == .class || (scope.kind == .module && L != mainGlobals)) = false; rw [hk]; rfl) fun h' v hn hs => h h' v (F.set hn hs) (N.set hs)
end Mine
end
section
open PySem PySem.W PyProof.Rows PySem.Spec PySem.Calls
set_option genInjectivity false
set_option genSizeOf false
namespace Mine
/-- what the tape's side knows of one piece under way: the left, the handed, the answers, the cuts; the kept texts; the piece's own counter -/
structure Ld where
  q : Inn
  ks : List Str
  own : Nat
noncomputable def ldTurn (refused : List Str) (c : Ld) : Ld :=
  if c.q.left.length = 0 then c
  else if (refused.any fun y => y == c.q.left) = true then ⟨⟨Str.ofString "", c.q.handed ++ [c.q.left], c.q.ans ++ [.str c.q.left], c.q.cuts⟩, c.ks, c.own⟩
  else ⟨⟨dropS c.q.left c.q.n, c.q.handed ++ [c.q.left], c.q.ans ++ [.int c.q.n], c.q.cuts + 1⟩, c.ks ++ [takeS c.q.left c.q.n], c.own + c.q.n⟩
noncomputable def ldTurns (refused : List Str) : Nat → Ld → Ld
  | 0, c => c
  | n + 1, c => ldTurn refused (ldTurns refused n c)
theorem ldTurn_no {refused : List Str} {c : Ld} (h : (c.q.left != Str.ofString "") = false) : ldTurn refused c = c := by
  refine if_pos ?_
  by_cases h0 : c.q.left.length = 0
  · exact h0
  · rw [(str_ne_iff _).mpr h0] at h
    cases h
theorem ldTurn_ref {refused : List Str} {c : Ld} (h : (c.q.left != Str.ofString "") = true) (hr : (refused.any fun y => y == c.q.left) = true) : ldTurn refused c = ⟨⟨Str.ofString "", c.q.handed ++ [c.q.left], c.q.ans ++ [.str c.q.left], c.q.cuts⟩, c.ks, c.own⟩ := by
  unfold ldTurn
  rw [if_neg ((str_ne_iff _).mp h), if_pos hr]
theorem ldTurn_yes {refused : List Str} {c : Ld} (h : (c.q.left != Str.ofString "") = true) (hr : (refused.any fun y => y == c.q.left) = false) : ldTurn refused c = ⟨⟨dropS c.q.left c.q.n, c.q.handed ++ [c.q.left], c.q.ans ++ [.int c.q.n], c.q.cuts + 1⟩, c.ks ++ [takeS c.q.left c.q.n], c.own + c.q.n⟩ := by
  unfold ldTurn
  rw [if_neg ((str_ne_iff _).mp h), if_neg (by rw [hr]; exact Bool.false_ne_true)]
/-- bounds along the way -/
theorem ld_len (refused : List Str) (c : Ld) : ∀ n, (ldTurns refused n c).q.handed.length ≤ c.q.handed.length + n ∧ (ldTurns refused n c).q.ans.length ≤ c.q.ans.length + n ∧ (ldTurns refused n c).q.left.length ≤ c.q.left.length ∧ (ldTurns refused n c).ks.length ≤ c.ks.length + n ∧ (ldTurns refused n c).own + (ldTurns refused n c).q.left.length ≤ c.own + c.q.left.length
  | 0 => ⟨Nat.le_refl _, Nat.le_refl _, Nat.le_refl _, Nat.le_refl _, Nat.le_refl _⟩
  | n + 1 => by
    have h := ld_len refused c n
    show (ldTurn refused (ldTurns refused n c)).q.handed.length ≤ _ ∧ (ldTurn refused (ldTurns refused n c)).q.ans.length ≤ _ ∧ (ldTurn refused (ldTurns refused n c)).q.left.length ≤ _ ∧ (ldTurn refused (ldTurns refused n c)).ks.length ≤ _ ∧ (ldTurn refused (ldTurns refused n c)).own + (ldTurn refused (ldTurns refused n c)).q.left.length ≤ _
    have h2 := inn_n_le (ldTurns refused n c).q
    have e0 : (Str.ofString "").length = 0 := by decide +kernel
    unfold ldTurn
    split
    · omega
    · split
      · simp only [List.length_append, List.length_cons, List.length_nil]
        omega
      · simp only [List.length_append, List.length_cons, List.length_nil, dropS_len]
        omega
theorem inn_cuts (q : Inn) (h : q.cuts ≤ q.handed.length) : ∀ n, (innTurns n q).cuts ≤ (innTurns n q).handed.length
  | 0 => h
  | n + 1 => by
    have h := inn_cuts q h n
    show (innTurn (innTurns n q)).cuts ≤ (innTurn (innTurns n q)).handed.length
    unfold innTurn
    split
    · exact h
    · simp only [List.length_append, List.length_cons, List.length_nil]
      omega
theorem stStep_cuts {pieces refused : List Str} {st : St} (x : Int) (h : st.cuts ≤ st.handed.length) : (stStep pieces refused st x).cuts ≤ (stStep pieces refused st x).handed.length := by
  unfold stStep
  dsimp only
  split
  · simp only [List.length_append, List.length_cons, List.length_nil]
    omega
  · exact inn_cuts ⟨pieceOf pieces x, st.handed, st.ans, st.cuts⟩ h _
theorem stOf_cuts (pieces refused : List Str) (l : List Int) : (stOf pieces refused l).cuts ≤ (stOf pieces refused l).handed.length := by
  have key : ∀ (l : List Int) (st : St), st.cuts ≤ st.handed.length → (l.foldl (stStep pieces refused) st).cuts ≤ (l.foldl (stStep pieces refused) st).handed.length := by
    intro l
    induction l with
    | nil => exact fun st h => h
    | cons x r ih => exact fun st h => ih _ (stStep_cuts x h)
  exact key l _ (Nat.le_refl _)
theorem takeS_len (x : Str) (n : Nat) : (takeS x n).length = min n x.length := by
  show (x.cps.toList.take n).toArray.size = min n x.cps.size
  simp
open PySem.StrLaws in
theorem slice_take (x : Str) (k : Nat) : Txt.slice x none (some (1 + Int.fmod (k : Int) 3)) = takeS x (min (1 + k % 3) x.length) := by
  have e : Int.fmod (k : Int) 3 = ((k % 3 : Nat) : Int) := by rw [Int.fmod_eq_emod_of_nonneg _ (by omega)]; rfl
  rw [e]
  have e1 : (1 + ((k % 3 : Nat) : Int)) = ((1 + k % 3 : Nat) : Int) := by omega
  rw [e1]
  generalize 1 + k % 3 = n
  have e0 : Txt.slice x none (some (n : Int)) = sliceText x none (some (n : Int)) := rfl
  have e2 : sliceText x none (some (n : Int)) = sliceText x none (some ((min n x.length : Nat) : Int)) := by
    unfold sliceText
    have e3 : Builtin.Str.strSliceIndices none (some (n : Int)) 1 x.length = Builtin.Str.strSliceIndices none (some ((min n x.length : Nat) : Int)) 1 x.length := by
      have a : ¬ ((n : Int) < 0) := by omega
      have b : ¬ (((min n x.length : Nat) : Int) < 0) := by omega
      have c : min ((min n x.length : Nat) : Int) (x.length : Int) = min (n : Int) (x.length : Int) := by omega
      simp only [Builtin.Str.strSliceIndices, a, b, if_false, c]
      rw [if_pos (by decide : (1 : Int) > 0), if_pos (by decide : (1 : Int) > 0), if_pos (by decide : (1 : Int) > 0)]
    rw [e3]
  rw [e0, e2, sliceText_to ⟨by omega, by simp [Str.length]; omega⟩]
  unfold takeS
  congr 2
theorem ld_cuts (refused : List Str) (c : Ld) (h : c.ks.length = c.q.cuts) : ∀ n, (ldTurns refused n c).ks.length = (ldTurns refused n c).q.cuts
  | 0 => h
  | n + 1 => by
    have h := ld_cuts refused c h n
    show (ldTurn refused (ldTurns refused n c)).ks.length = (ldTurn refused (ldTurns refused n c)).q.cuts
    unfold ldTurn
    split
    · exact h
    · split
      · exact h
      · simp only [List.length_append, List.length_cons, List.length_nil]
        omega
end Mine
end
section
open PySem PySem.W PyProof.Rows PySem.Spec PySem.Calls
namespace Mine
/-- a piece: a sign of its own below 200, then free signs from 200 on -/
noncomputable def GoodP (p : Str) : Prop := ∃ (c : Nat) (f : Str), c < 200 ∧ (∀ d ∈ f.cps.toList, 200 ≤ d) ∧ p = (⟨#[c]⟩ : Str) ++ f
theorem sum_join : ∀ ks : List Str, (ks.map (·.length)).sum = (Str.join (Str.ofString "") ks).length
  | [] => rfl
  | [f] => by simp [Str.join]
  | f :: g :: r => by
    have h1 := sum_join (g :: r)
    have e : (Str.join (Str.ofString "") (f :: g :: r)) = f ++ Str.ofString "" ++ Str.join (Str.ofString "") (g :: r) := rfl
    have e0 : (Str.ofString "").length = 0 := by decide +kernel
    rw [e, Str.length_append, Str.length_append, List.map_cons, List.sum_cons, h1, e0]
    omega
theorem toL_append (a b : Str) : (a ++ b).cps.toList = a.cps.toList ++ b.cps.toList := by
  show (a.cps ++ b.cps).toList = _
  simp
theorem toL_ext {a b : Str} (h : a.cps.toList = b.cps.toList) : a = b := Str.ext' (by
  have := congrArg List.toArray h
  simpa using this)
theorem toL_empty : (Str.ofString "").cps.toList = [] := by decide +kernel
theorem joinL : ∀ ks : List Str, (Str.join (Str.ofString "") ks).cps.toList = (ks.map (·.cps.toList)).flatten
  | [] => rfl
  | [f] => by simp [Str.join]
  | f :: g :: r => by
    have h1 := joinL (g :: r)
    have e : (Str.join (Str.ofString "") (f :: g :: r)) = f ++ Str.ofString "" ++ Str.join (Str.ofString "") (g :: r) := rfl
    rw [e, toL_append, toL_append, h1, toL_empty]
    simp
theorem toL_take (x : Str) (n : Nat) : (takeS x n).cps.toList = x.cps.toList.take n := by simp [takeS]
theorem toL_drop (x : Str) (n : Nat) : (dropS x n).cps.toList = x.cps.toList.drop n := by simp [dropS]
theorem toL_len (x : Str) : x.cps.toList.length = x.length := by simp [Str.length]
theorem good_len {p : Str} (h : GoodP p) : 1 ≤ p.length := by
  obtain ⟨c, f, _, _, rfl⟩ := h
  rw [Str.length_append]
  show 1 ≤ 1 + f.length
  omega
/-- a tail of a piece is no piece -/
theorem tail_not {left r : Str} {n : Nat} (hl : GoodP left) (hr : GoodP r) (hn : 0 < n) : (r == dropS left n) = false := by
  rw [beq_eq_false_iff_ne]
  intro e
  obtain ⟨c, f, _, hf, rfl⟩ := hl
  obtain ⟨c', f', hc', _, rfl⟩ := hr
  have e2 := congrArg (fun s : Str => s.cps.toList) e
  simp only [toL_append, toL_drop] at e2
  have e3 : ((⟨#[c']⟩ : Str).cps.toList ++ f'.cps.toList) = c' :: f'.cps.toList := rfl
  have e4 : ((⟨#[c]⟩ : Str).cps.toList ++ f.cps.toList) = c :: f.cps.toList := rfl
  rw [e3, e4] at e2
  obtain ⟨k, rfl⟩ : ∃ k, n = k + 1 := ⟨n - 1, by omega⟩
  rw [List.drop_succ_cons] at e2
  have hm0 : c' ∈ List.drop k f.cps.toList := by rw [← e2]; exact .head _
  have hm : c' ∈ f.cps.toList := List.mem_of_mem_drop hm0
  have := hf _ hm
  omega
theorem ld_ref {refused : List Str} {c : Ld} (h0 : c.q.left.length ≠ 0) (hr : (refused.any fun y => y == c.q.left) = true) : ∀ n, ldTurns refused (n + 1) c = ⟨⟨Str.ofString "", c.q.handed ++ [c.q.left], c.q.ans ++ [.str c.q.left], c.q.cuts⟩, c.ks, c.own⟩
  | 0 => ldTurn_ref ((str_ne_iff _).mpr h0) hr
  | n + 1 => by
    show ldTurn refused (ldTurns refused (n + 1) c) = _
    rw [ld_ref h0 hr n]
    refine if_pos ?_
    show (Str.ofString "").length = 0
    decide +kernel
theorem ld_acc {refused : List Str} {left : Str} {hs : List Str} {an : List Dat} {cu : Nat} {ks : List Str} {tx : Str} (hp : GoodP left) (hr : ∀ r ∈ refused, GoodP r) (hno : (refused.any fun y => y == left) = false) (hkj : Str.join (Str.ofString "") ks = tx) :
    ∀ n, (ldTurns refused n ⟨⟨left, hs, an, cu⟩, ks, 0⟩).q = innTurns n ⟨left, hs, an, cu⟩ ∧ (ldTurns refused n ⟨⟨left, hs, an, cu⟩, ks, 0⟩).q.left = dropS left (ldTurns refused n ⟨⟨left, hs, an, cu⟩, ks, 0⟩).own ∧ (ldTurns refused n ⟨⟨left, hs, an, cu⟩, ks, 0⟩).own ≤ left.length ∧
      Str.join (Str.ofString "") (ldTurns refused n ⟨⟨left, hs, an, cu⟩, ks, 0⟩).ks = tx ++ takeS left (ldTurns refused n ⟨⟨left, hs, an, cu⟩, ks, 0⟩).own ∧ min n left.length ≤ (ldTurns refused n ⟨⟨left, hs, an, cu⟩, ks, 0⟩).own
  | 0 => by
    refine ⟨rfl, toL_ext (by simp [ldTurns, toL_drop]), Nat.zero_le _, toL_ext ?_, Nat.zero_le _⟩
    show (Str.join (Str.ofString "") ks).cps.toList = _
    rw [hkj, toL_append, toL_take]
    simp [ldTurns]
  | n + 1 => by
    obtain ⟨h1, h2, h3, h4, h5⟩ := ld_acc (hs := hs) (an := an) (cu := cu) hp hr hno hkj n
    show (ldTurn refused (ldTurns refused n ⟨⟨left, hs, an, cu⟩, ks, 0⟩)).q = innTurn (innTurns n ⟨left, hs, an, cu⟩) ∧ (ldTurn refused (ldTurns refused n ⟨⟨left, hs, an, cu⟩, ks, 0⟩)).q.left = dropS left (ldTurn refused (ldTurns refused n ⟨⟨left, hs, an, cu⟩, ks, 0⟩)).own ∧ (ldTurn refused (ldTurns refused n ⟨⟨left, hs, an, cu⟩, ks, 0⟩)).own ≤ left.length ∧
      Str.join (Str.ofString "") (ldTurn refused (ldTurns refused n ⟨⟨left, hs, an, cu⟩, ks, 0⟩)).ks = tx ++ takeS left (ldTurn refused (ldTurns refused n ⟨⟨left, hs, an, cu⟩, ks, 0⟩)).own ∧ min (n + 1) left.length ≤ (ldTurn refused (ldTurns refused n ⟨⟨left, hs, an, cu⟩, ks, 0⟩)).own
    generalize ldTurns refused n ⟨⟨left, hs, an, cu⟩, ks, 0⟩ = c at h1 h2 h3 h4 h5 ⊢
    rw [← h1]
    have hll : c.q.left.length = left.length - c.own := by rw [h2, dropS_len]
    by_cases h0 : c.q.left.length = 0
    · have e : ldTurn refused c = c := if_pos h0
      have e' : innTurn c.q = c.q := if_pos h0
      rw [e, e']
      exact ⟨rfl, h2, h3, h4, by omega⟩
    · have hnr : (refused.any fun y => y == c.q.left) = false := by
        rw [h2]
        rcases Nat.eq_zero_or_pos c.own with h | h
        · have e0 : dropS left c.own = left := toL_ext (by rw [toL_drop, h, List.drop_zero])
          rw [e0]
          exact hno
        · rw [List.any_eq_false]
          intro r hm
          rw [tail_not hp (hr r hm) h]
          exact Bool.false_ne_true
      have hb : (c.q.left != Str.ofString "") = true := (str_ne_iff _).mpr h0
      rw [ldTurn_yes hb hnr, innTurn_yes hb]
      have hn1 : 1 ≤ c.q.n := by unfold Inn.n; omega
      have hn2 := inn_n_le c.q
      refine ⟨rfl, toL_ext ?_, by show c.own + c.q.n ≤ _; omega, toL_ext ?_, by show _ ≤ c.own + c.q.n; omega⟩
      · show (dropS c.q.left c.q.n).cps.toList = (dropS left (c.own + c.q.n)).cps.toList
        rw [toL_drop, toL_drop, h2, toL_drop, List.drop_drop]
      · show (Str.join (Str.ofString "") (c.ks ++ [takeS c.q.left c.q.n])).cps.toList = (tx ++ takeS left (c.own + c.q.n)).cps.toList
        have h6 := congrArg (fun s : Str => s.cps.toList) h4
        simp only [joinL, toL_append, toL_take] at h6
        rw [joinL, List.map_append, List.flatten_append, h6, toL_append, toL_take]
        simp only [List.map_cons, List.map_nil, List.flatten_cons, List.flatten_nil, List.append_nil, toL_take, h2, toL_drop, List.append_assoc]
        rw [← List.take_add]
theorem ld_end {pieces refused : List Str} {st : St} {x : Int} {left : Str} {ks : List Str} {c : Ld} (hl : pieceOf pieces x = left) (hp : GoodP left) (hr : ∀ r ∈ refused, GoodP r) (hkl : ks.length = st.cuts) (hkj : Str.join (Str.ofString "") ks = st.text)
    (hc : c = ldTurns refused left.length ⟨⟨left, st.handed, st.ans, st.cuts⟩, ks, 0⟩) :
    ∃ tx, stStep pieces refused st x = ⟨tx, st.told ++ [(x.fmod 5, (st.text.length : Int), (c.own : Int))], c.q.handed, c.q.ans, c.q.cuts⟩ ∧ tx.length = st.text.length + c.own ∧ c.ks.length = c.q.cuts ∧ Str.join (Str.ofString "") c.ks = tx := by
  have hlen := good_len hp
  have hcu := ld_cuts refused ⟨⟨left, st.handed, st.ans, st.cuts⟩, ks, 0⟩ hkl left.length
  rw [← hc] at hcu
  cases hno : refused.any fun y => y == left with
  | true =>
    obtain ⟨k, hk⟩ : ∃ k, left.length = k + 1 := ⟨left.length - 1, by omega⟩
    rw [hk, ld_ref (by show left.length ≠ 0; omega) hno] at hc
    subst hc
    exact ⟨st.text, stStep_yes hl hno, rfl, hcu, hkj⟩
  | false =>
    obtain ⟨h1, h2, h3, h4, h5⟩ := ld_acc (hs := st.handed) (an := st.ans) (cu := st.cuts) hp hr hno hkj left.length
    rw [← hc] at h1 h2 h3 h4 h5
    have ho : c.own = left.length := by omega
    have ht : takeS left c.own = left := toL_ext (by rw [toL_take, ho, ← toL_len, List.take_length])
    rw [ht] at h4
    refine ⟨st.text ++ left, ?_, by rw [Str.length_append, ho], hcu, h4⟩
    rw [stStep_no hl hno, ← h1, ho]
end Mine
end
local macro_rules | `(tactic| walk_at "PAD 3") => `(tactic| skip)
section
open PySem PySem.W PyProof.Rows PySem.Spec PySem.Calls
set_option genInjectivity false
set_option genSizeOf false
namespace Mine
theorem fillK6 (w : World) (h : Heap) : (hd.heap_39 (World.params w)).In h → (RowW.prog (OpenRow.toRowW (OpenLaw.row Challenge.rw_mr0099_01))) = (RowW.prog (OpenRow.toRowW (OpenLaw.row Challenge.rw_mr0099_01))) := by
  w_top off
  k_fill
  intro _
  rfl
local macro_rules | `(tactic| walk_at "call type:range") => `(tactic| ((rename Fr _ _ _ _ => F'); (rename News _ _ _ _ => N'); (with_unfolding_all refine range1_rows F' N' ?_; intro _ _ _ _ _ _ _ _ _)))
theorem depth_ktr (dp un : Nat) (gd : Option (List Code)) (cn : Str) (cs : Scope) (L a : Addr) (ccd : Value) (cl : List (Str × Addr)) (outer : List Env) : (ktrTop dp un gd cn cs L a ccd cl outer).depth = dp := rfl
local macro_rules | `(tactic| k_room) => `(tactic| ((try simp only [depth_mark, depth_under_make, depth_under_kw, depth_in1, depth_deeper, depth_caller, depth_ktr]); omega))
theorem adr_off {L lk lt lh la DD cT fT cL fL dw bd bk : Nat} (h1 : L + 3 < lk) (h2 : lk < lt) (h3 : lt < lh) (h4 : lh < la) (h5 : la < DD) (h6 : DD < cT) (h7 : cT < fT) (h8 : fT < cL) (h9 : cL < fL) (h10 : fL < dw) (h11 : dw < bd) (h12 : bd < bk) :
    ∀ b ∈ [la, lh, lt, lk, bd, bk, dw, fL, fT, cT, L + 1 + 1 + 1, L + 1 + 1, L + 1], L < b ∧ b ≠ cL ∧ b ≠ DD := by
  have l0 : L < lk := Nat.lt_of_le_of_lt (Nat.le_add_right L 3) h1
  have l_lt : L < lt := Nat.lt_trans l0 h2
  have l_lh : L < lh := Nat.lt_trans l_lt h3
  have l_la : L < la := Nat.lt_trans l_lh h4
  have l_DD : L < DD := Nat.lt_trans l_la h5
  have l_cT : L < cT := Nat.lt_trans l_DD h6
  have l_fT : L < fT := Nat.lt_trans l_cT h7
  have l_cL : L < cL := Nat.lt_trans l_fT h8
  have l_fL : L < fL := Nat.lt_trans l_cL h9
  have l_dw : L < dw := Nat.lt_trans l_fL h10
  have l_bd : L < bd := Nat.lt_trans l_dw h11
  have l_bk : L < bk := Nat.lt_trans l_bd h12
  have b_cL_fT : fT < cL := h8
  have b_cL_cT : cT < cL := Nat.lt_trans h7 b_cL_fT
  have b_cL_DD : DD < cL := Nat.lt_trans h6 b_cL_cT
  have b_cL_la : la < cL := Nat.lt_trans h5 b_cL_DD
  have b_cL_lh : lh < cL := Nat.lt_trans h4 b_cL_la
  have b_cL_lt : lt < cL := Nat.lt_trans h3 b_cL_lh
  have b_cL_lk : lk < cL := Nat.lt_trans h2 b_cL_lt
  have b_cL_L : L + 3 < cL := Nat.lt_trans h1 b_cL_lk
  have b_cL_L2 : L + 2 < cL := Nat.lt_of_succ_lt b_cL_L
  have b_cL_L1 : L + 1 < cL := Nat.lt_of_succ_lt b_cL_L2
  have a_cL_fL : cL < fL := h9
  have a_cL_dw : cL < dw := Nat.lt_trans a_cL_fL h10
  have a_cL_bd : cL < bd := Nat.lt_trans a_cL_dw h11
  have a_cL_bk : cL < bk := Nat.lt_trans a_cL_bd h12
  have b_DD_la : la < DD := h5
  have b_DD_lh : lh < DD := Nat.lt_trans h4 b_DD_la
  have b_DD_lt : lt < DD := Nat.lt_trans h3 b_DD_lh
  have b_DD_lk : lk < DD := Nat.lt_trans h2 b_DD_lt
  have b_DD_L : L + 3 < DD := Nat.lt_trans h1 b_DD_lk
  have b_DD_L2 : L + 2 < DD := Nat.lt_of_succ_lt b_DD_L
  have b_DD_L1 : L + 1 < DD := Nat.lt_of_succ_lt b_DD_L2
  have a_DD_cT : DD < cT := h6
  have a_DD_fT : DD < fT := Nat.lt_trans a_DD_cT h7
  have a_DD_cL : DD < cL := Nat.lt_trans a_DD_fT h8
  have a_DD_fL : DD < fL := Nat.lt_trans a_DD_cL h9
  have a_DD_dw : DD < dw := Nat.lt_trans a_DD_fL h10
  have a_DD_bd : DD < bd := Nat.lt_trans a_DD_dw h11
  have a_DD_bk : DD < bk := Nat.lt_trans a_DD_bd h12
  exact Mine.fac ⟨l_la, Nat.ne_of_lt b_cL_la, Nat.ne_of_lt b_DD_la⟩ (Mine.fac ⟨l_lh, Nat.ne_of_lt b_cL_lh, Nat.ne_of_lt b_DD_lh⟩ (Mine.fac ⟨l_lt, Nat.ne_of_lt b_cL_lt, Nat.ne_of_lt b_DD_lt⟩ (Mine.fac ⟨l0, Nat.ne_of_lt b_cL_lk, Nat.ne_of_lt b_DD_lk⟩ (Mine.fac ⟨l_bd, Nat.ne_of_gt a_cL_bd, Nat.ne_of_gt a_DD_bd⟩ (Mine.fac ⟨l_bk, Nat.ne_of_gt a_cL_bk, Nat.ne_of_gt a_DD_bk⟩ (Mine.fac ⟨l_dw, Nat.ne_of_gt a_cL_dw, Nat.ne_of_gt a_DD_dw⟩ (Mine.fac ⟨l_fL, Nat.ne_of_gt a_cL_fL, Nat.ne_of_gt a_DD_fL⟩ (Mine.fac ⟨l_fT, Nat.ne_of_lt b_cL_fT, Nat.ne_of_gt a_DD_fT⟩ (Mine.fac ⟨l_cT, Nat.ne_of_lt b_cL_cT, Nat.ne_of_gt a_DD_cT⟩ (Mine.fac ⟨Nat.lt_succ_of_lt (Nat.lt_succ_of_lt (Nat.lt_succ_self L)), Nat.ne_of_lt b_cL_L, Nat.ne_of_lt b_DD_L⟩ (Mine.fac ⟨Nat.lt_succ_of_lt (Nat.lt_succ_self L), Nat.ne_of_lt b_cL_L2, Nat.ne_of_lt b_DD_L2⟩ (Mine.fac ⟨Nat.lt_succ_self L, Nat.ne_of_lt b_cL_L1, Nat.ne_of_lt b_DD_L1⟩ (List.forall_mem_nil _)))))))))))))
theorem adr2_off {L lk lt lh la cT fT cL fL dw bd bk od ow D DD : Nat} (h1 : L + 3 < lk) (h2 : lk < lt) (h3 : lt < lh) (h4 : lh < la) (h5 : la < DD) (h6 : DD < cT) (h7 : cT < fT) (h8 : fT < cL) (h9 : cL < fL) (h10 : fL < dw) (h11 : dw < bd) (h12 : bd < bk) (h13 : bk < od) (h14 : od < ow) (h15 : ow < D) :
    ∀ b ∈ [la, lh, lt, lk, bd, od, ow, bk, dw, fL, fT, cT, L + 1 + 1 + 1, L + 1 + 1, L + 1], D ≠ b ∧ (b ∈ [la, lh, lt, lk, bd, bk, dw, fL, fT, cT, L + 1 + 1 + 1, L + 1 + 1, L + 1] ∨ b = od ∨ b = ow) := by
  have b_D_ow : ow < D := h15
  have b_D_od : od < D := Nat.lt_trans h14 b_D_ow
  have b_D_bk : bk < D := Nat.lt_trans h13 b_D_od
  have b_D_bd : bd < D := Nat.lt_trans h12 b_D_bk
  have b_D_dw : dw < D := Nat.lt_trans h11 b_D_bd
  have b_D_fL : fL < D := Nat.lt_trans h10 b_D_dw
  have b_D_cL : cL < D := Nat.lt_trans h9 b_D_fL
  have b_D_fT : fT < D := Nat.lt_trans h8 b_D_cL
  have b_D_cT : cT < D := Nat.lt_trans h7 b_D_fT
  have b_D_DD : DD < D := Nat.lt_trans h6 b_D_cT
  have b_D_la : la < D := Nat.lt_trans h5 b_D_DD
  have b_D_lh : lh < D := Nat.lt_trans h4 b_D_la
  have b_D_lt : lt < D := Nat.lt_trans h3 b_D_lh
  have b_D_lk : lk < D := Nat.lt_trans h2 b_D_lt
  have b_D_L : L + 3 < D := Nat.lt_trans h1 b_D_lk
  have b_D_L2 : L + 2 < D := Nat.lt_of_succ_lt b_D_L
  have b_D_L1 : L + 1 < D := Nat.lt_of_succ_lt b_D_L2
  exact Mine.fac ⟨Nat.ne_of_gt b_D_la, .inl (.head _)⟩ (Mine.fac ⟨Nat.ne_of_gt b_D_lh, .inl (.tail _ (.head _))⟩ (Mine.fac ⟨Nat.ne_of_gt b_D_lt, .inl (.tail _ (.tail _ (.head _)))⟩ (Mine.fac ⟨Nat.ne_of_gt b_D_lk, .inl (.tail _ (.tail _ (.tail _ (.head _))))⟩ (Mine.fac ⟨Nat.ne_of_gt b_D_bd, .inl (.tail _ (.tail _ (.tail _ (.tail _ (.head _)))))⟩ (Mine.fac ⟨Nat.ne_of_gt b_D_od, .inr (.inl rfl)⟩ (Mine.fac ⟨Nat.ne_of_gt b_D_ow, .inr (.inr rfl)⟩ (Mine.fac ⟨Nat.ne_of_gt b_D_bk, .inl (.tail _ (.tail _ (.tail _ (.tail _ (.tail _ (.head _))))))⟩ (Mine.fac ⟨Nat.ne_of_gt b_D_dw, .inl (.tail _ (.tail _ (.tail _ (.tail _ (.tail _ (.tail _ (.head _)))))))⟩ (Mine.fac ⟨Nat.ne_of_gt b_D_fL, .inl (.tail _ (.tail _ (.tail _ (.tail _ (.tail _ (.tail _ (.tail _ (.head _))))))))⟩ (Mine.fac ⟨Nat.ne_of_gt b_D_fT, .inl (.tail _ (.tail _ (.tail _ (.tail _ (.tail _ (.tail _ (.tail _ (.tail _ (.head _)))))))))⟩ (Mine.fac ⟨Nat.ne_of_gt b_D_cT, .inl (.tail _ (.tail _ (.tail _ (.tail _ (.tail _ (.tail _ (.tail _ (.tail _ (.tail _ (.head _))))))))))⟩ (Mine.fac ⟨Nat.ne_of_gt b_D_L, .inl (.tail _ (.tail _ (.tail _ (.tail _ (.tail _ (.tail _ (.tail _ (.tail _ (.tail _ (.tail _ (.head _)))))))))))⟩ (Mine.fac ⟨Nat.ne_of_gt b_D_L2, .inl (.tail _ (.tail _ (.tail _ (.tail _ (.tail _ (.tail _ (.tail _ (.tail _ (.tail _ (.tail _ (.tail _ (.head _))))))))))))⟩ (Mine.fac ⟨Nat.ne_of_gt b_D_L1, .inl (.tail _ (.tail _ (.tail _ (.tail _ (.tail _ (.tail _ (.tail _ (.tail _ (.tail _ (.tail _ (.tail _ (.tail _ (.head _)))))))))))))⟩ (List.forall_mem_nil _)))))))))))))))
theorem news_exc {g h : Heap} {L e t : Addr} {oe ot : Obj} {news2 rest : List (Addr × Obj)} (N : News g L h (news2 ++ rest)) (me : (e, oe) ∈ news2) (mt : (t, ot) ∈ news2) : News g L h ((e, oe) :: (t, ot) :: rest) := fun p hp => by
  rcases List.mem_cons.mp hp with rfl | hp
  · exact N _ (List.mem_append_left _ me)
  rcases List.mem_cons.mp hp with rfl | hp
  · exact N _ (List.mem_append_left _ mt)
  exact N p (List.mem_append_right _ hp)
noncomputable def telDict (w : World) (t1 t2 t3 : Tok) (fp : Addr) (n : Int) : Obj :=
  dictOf [DictEntry.mk (PyData.keyHash (World.params w) (Str.ofString "fp")) (Value.str (Str.ofString "fp") t1) (Value.ref fp), DictEntry.mk (PyData.keyHash (World.params w) (Str.ofString "offset")) (Value.str (Str.ofString "offset") t2) (Value.int n t3)] 2
structure LdIn where
  c : Ld
  tl : Tok
  kvs : List Value
  nk : Nat
  hvs : List Value
  nh : Nat
  avs : List Value
  na : Nat
  tb : Tok
  to : Tok
structure LdSt where
  st : St
  ks : List Str
  kvs : List Value
  nk : Nat
  tvs : List Value
  nt : Nat
  hvs : List Value
  nh : Nat
  avs : List Value
  na : Nat
  tb : Tok
set_option maxHeartbeats 8000000 in
theorem laid_tell (w : World) (mean : ExcName → Option Value) (mg mb : Str → Option Value) (numbers : List Int) (pieces refused : List Str) (vn vp vr : Value) :
   TellT w mean mg mb 95 94 90 (tabObj #[]) [vn, vp, vr] (fun news => DatIn news vn (.list (numbers.map .int)) ∧ DatIn news vp (.list (pieces.map .str)) ∧ DatIn news vr (.list (refused.map .str)) ∧ numbers.length ≤ 20 ∧ pieces.length = 5 ∧ (∀ p ∈ pieces, p.length ≤ 4) ∧ (∀ p ∈ pieces, GoodP p) ∧ ∀ p ∈ refused, GoodP p) (fun tl r => DatIn tl r (stDat (stOf pieces refused numbers))) := by
  refine' tellT_enter (binds := [(Str.ofString "numbers", vn), (Str.ofString "pieces", vp), (Str.ofString "refused", vr)]) ?ho ?hcd ?hb ?hl ?hnd ?co ?ge ?kk ?walk
  case ho => k_is
  case hcd => k_is
  case hb => exact fun s => BindsTo.of_eq rfl
  case hl => rfl
  case hnd => decide +kernel
  case co => rfl
  case ge => rfl
  case kk => rfl
  intro dp un gd cn cs L a ccd cl base g L' news cells s B F N Y XB TB DD0 lc l1 lnc hCb hd hu hpre
  refine wp_gen fun QF hQF => ?_
  have X := XB.keeps B.stays
  have T := TB.keeps B.stays
  have hC := hCb.keeps B.stays
  have hXT := And.intro XB (And.intro TB hCb)
  clear XB TB hCb
  refine and8 hpre fun hn hp hr hl1 hl2 hl3 hgp hgr => ?_
  clear hpre
  cases hn with
  | list mn dn =>
  cases hp with
  | list mp dp' =>
  cases hr with
  | list mr dr =>
  rename_i ln nvs nn lp pvs np lr rvs nr
  k_cells Y
  dsimp only [List.cons_append, List.nil_append] at N
  have hoff : OwnOff news [L' + 1 + 1 + 1, L' + 1 + 1, L' + 1, 90] := fun p hp b hb e => by
    have h1 : @LT.lt Nat instLTNat p.1 L' := l1 p hp
    simp only [List.mem_cons, List.not_mem_nil, or_false] at hb
    rcases hb with hb | hb | hb | hb
    · (replace hb : (_ : Nat) = (_ : Nat) := hb); (replace e : (_ : Nat) = (_ : Nat) := e); omega
    · (replace hb : (_ : Nat) = (_ : Nat) := hb); (replace e : (_ : Nat) = (_ : Nat) := e); omega
    · (replace hb : (_ : Nat) = (_ : Nat) := hb); (replace e : (_ : Nat) = (_ : Nat) := e); omega
    · exact lnc p hp (e.trans hb)
  have lc' : @LT.lt Nat instLTNat 90 L' := lc
  (repeat' (first | ((fail_if_success (with_reducible show wpAny _ _ (pyIter (Value.ref _)) _ _ _)); (fail_if_success (with_reducible show wpAny _ _ (subscriptTail _ _ (Value.ref _) (Value.int _ _)) _ _ _)); (fail_if_success (with_reducible show wpAny _ _ (compareOp CmpOp.In _ _) _ _ _)); (fail_if_success (with_reducible show wpAny _ _ (exec (Stmt.For _ _ _ _ _) _) _ _ _)); (fail_if_success (with_reducible show wpAny _ _ (exec (Stmt.Raise _ _ _) _) _ _ _)); (fail_if_success (with_reducible show wpAny _ _ (leaving _ _) _ _ _)); (fail_if_success (with_reducible show wpAny _ _ (call (Value.builtin "len") [Value.ref _]) _ _ _)); (fail_if_success (with_reducible show wpAny _ _ (noteFrame _ _) _ _ _)); (fail_if_success (with_reducible show wpAny _ _ (call (Value.type "str") _) _ _ _)); first | ((with_reducible show wpAny _ _ (exec (Stmt.Try _ (_ :: _) _ [] _) _) _ _ _); (refine wpAny_Try_except ?_)) | ((with_reducible show wpAny _ _ (call (Value.builtin "len") [Value.str _ _]) _ _ _); (refine SBL.len (by omega) ?_)) | (k_unfold; (try dsimp only)) | (k_end; wrow_close) | walk1 | (dsimp only; walk1) | (leave1; walk_say "STEP leave1"; try dsimp only) | fail "no step")))
  (rename Fr _ _ _ _ => F1); (rename News _ _ _ _ => N1)
  rename_i o1 o2 o3 d1 d2 d3 lk hk1 lk1 lt ht1 lt1 lh hh1 lh1 la ha1 la1 DD hD1 lD1 hx1 hx2 ok dk hx3 hx4 oh dh hx5 fT cT ocT vsT tT ctT dcT hT tkT dT1 dT2 lT1 lT2 hT2 fL cL ocL vsL tL ctL hL tkL dL1 dL2 lf1 lf2 h9
  refine set_fn0 F1 N1 ?_ write_fn ?_
  · have lf := ltOff (D := fL) (l := (cL, default) :: (fT, default) :: (cT, default) :: (DD, default) :: (la, default) :: (lh, default) :: (lt, default) :: (lk, default) :: (L' + 1 + 1 + 1, default) :: (L' + 1 + 1, default) :: (L' + 1, default) :: (90, default) :: news) ⟨lf2, tbn_up lf2 (l := (fT, default) :: (cT, default) :: (DD, default) :: (la, default) :: (lh, default) :: (lt, default) :: (lk, default) :: (L' + 1 + 1 + 1, default) :: (L' + 1 + 1, default) :: (L' + 1, default) :: (90, default) :: news) lf1⟩
    exact off_addr lf rfl
  intro dw tkw h2 F2 N2 l2
  (try dsimp only at N2)
  k_lt l2
  clear F1 N1
  (repeat' (first | ((fail_if_success (with_reducible show wpAny _ _ (pyIter (Value.ref _)) _ _ _)); (fail_if_success (with_reducible show wpAny _ _ (subscriptTail _ _ (Value.ref _) (Value.int _ _)) _ _ _)); (fail_if_success (with_reducible show wpAny _ _ (compareOp CmpOp.In _ _) _ _ _)); (fail_if_success (with_reducible show wpAny _ _ (exec (Stmt.For _ _ _ _ _) _) _ _ _)); (fail_if_success (with_reducible show wpAny _ _ (exec (Stmt.Raise _ _ _) _) _ _ _)); (fail_if_success (with_reducible show wpAny _ _ (leaving _ _) _ _ _)); (fail_if_success (with_reducible show wpAny _ _ (call (Value.builtin "len") [Value.ref _]) _ _ _)); (fail_if_success (with_reducible show wpAny _ _ (noteFrame _ _) _ _ _)); (fail_if_success (with_reducible show wpAny _ _ (call (Value.type "str") _) _ _ _)); first | ((with_reducible show wpAny _ _ (exec (Stmt.Try _ (_ :: _) _ [] _) _) _ _ _); (refine wpAny_Try_except ?_)) | ((with_reducible show wpAny _ _ (call (Value.builtin "len") [Value.str _ _]) _ _ _); (refine SBL.len (by omega) ?_)) | (k_unfold; (try dsimp only)) | (k_end; wrow_close) | walk1 | (dsimp only; walk1) | (leave1; walk_say "STEP leave1"; try dsimp only) | fail "no step")))
  refine For_name ?_
  (repeat' (first | ((fail_if_success (with_reducible show wpAny _ _ (pyIter (Value.ref _)) _ _ _)); (fail_if_success (with_reducible show wpAny _ _ (subscriptTail _ _ (Value.ref _) (Value.int _ _)) _ _ _)); (fail_if_success (with_reducible show wpAny _ _ (compareOp CmpOp.In _ _) _ _ _)); (fail_if_success (with_reducible show wpAny _ _ (exec (Stmt.For _ _ _ _ _) _) _ _ _)); (fail_if_success (with_reducible show wpAny _ _ (exec (Stmt.Raise _ _ _) _) _ _ _)); (fail_if_success (with_reducible show wpAny _ _ (leaving _ _) _ _ _)); (fail_if_success (with_reducible show wpAny _ _ (call (Value.builtin "len") [Value.ref _]) _ _ _)); (fail_if_success (with_reducible show wpAny _ _ (noteFrame _ _) _ _ _)); (fail_if_success (with_reducible show wpAny _ _ (call (Value.type "str") _) _ _ _)); first | ((with_reducible show wpAny _ _ (exec (Stmt.Try _ (_ :: _) _ [] _) _) _ _ _); (refine wpAny_Try_except ?_)) | ((with_reducible show wpAny _ _ (call (Value.builtin "len") [Value.str _ _]) _ _ _); (refine SBL.len (by omega) ?_)) | (k_unfold; (try dsimp only)) | (k_end; wrow_close) | walk1 | (dsimp only; walk1) | (leave1; walk_say "STEP leave1"; try dsimp only) | fail "no step")))
  (rename Fr _ _ _ _ => F1); (rename News _ _ _ _ => N1)
  (try simp only [List.empty_append] at N1)
  generalize hwd : dictOf [DictEntry.mk (PyData.keyHash (World.params w) (Str.ofString "write")) (Value.str (Str.ofString "write") tkw) (Value.ref fT)] 1 = owd at N1
  generalize hoT : fnMade _ _ _ _ _ _ _ _ _ _ = oT at N1
  generalize hoL : Obj.mk _ (some dw) _ _ = oL at N1
  generalize hot : tabObj _ = otab at N1
  generalize hoD : Obj.mk (Value.type "tuple") _ _ _ = oDD at N1
  rename_i bk bd hb1 lb1 lb2 gg LL hb2 BB XX TT tkb hb3 hb4 FF NN Tc kX hb5
  clear FF NN BB XX TT Tc kX
  have hIn := datInts dn
  have hlen : nvs.length = numbers.length := hIn.length
  have hadr := adr_off (L := L') (lk := lk) (lt := lt) (lh := lh) (la := la) (DD := DD) (cT := cT) (fT := fT) (cL := cL) (fL := fL) (dw := dw) (bd := bd) (bk := bk) lk1.1 lt1.1 lh1.1 la1.1 lD1.1 lT1.1 lT2 lf1.1 lf2 l2.1 lb1.1 lb2
  have l1n : ∀ p ∈ news, p.1 ≠ L' := fun p hp => Nat.ne_of_lt (l1 p hp)
  have offn : OwnOff news [la, lh, lt, lk, bd, bk, dw, fL, fT, cT, L' + 1 + 1 + 1, L' + 1 + 1, L' + 1] := fun p hp b hb e => by
    have h1 := l1 p hp
    rw [e] at h1
    exact absurd (hadr b hb).1 (Nat.lt_asymm h1)
  (try dsimp only at N1)
  obtain ⟨tb1, ha1⟩ : ∃ t, t = tkb + 1 := ⟨_, rfl⟩
  obtain ⟨tb2, ha2⟩ : ∃ t, t = tkb + 2 + 1 + 1 := ⟨_, rfl⟩
  obtain ⟨tb3, ha3⟩ : ∃ t, t = tkb + 2 := ⟨_, rfl⟩
  rw [← ha1, ← ha2, ← ha3] at N1
  have ez : (St.zero.text.length : Int) = 0 := by decide +kernel
  have ed : telDict w tb1 tb2 tb3 fL (St.zero.text.length : Int) = dictOf [DictEntry.mk (PyData.keyHash (World.params w) (Str.ofString "fp")) (Value.str (Str.ofString "fp") tb1) (Value.ref fL), DictEntry.mk (PyData.keyHash (World.params w) (Str.ofString "offset")) (Value.str (Str.ofString "offset") tb2) (Value.int 0 tb3)] 2 := by rw [ez]; rfl
  rw [← ed] at N1
  clear ha1 ha2 ha3 ed ez
  (try clear qk ek)
  have hgn0 : ∀ g', GroundT (ktrTop dp un gd cn cs L a ccd cl []) base (envX cn cs L a ccd cl) g g' → ∀ b, g.get? b = none → g'.get? b = none := fun g' G b e => G.turn.none_ b e
  have hG0 : GroundT (ktrTop dp un gd cn cs L a ccd cl []) base (envX cn cs L a ccd cl) g g := ⟨KtsTurn.refl, B⟩
  refine' loop_listG (σ := LdSt) (vs := nvs) (GroundT (ktrTop dp un gd cn cs L a ccd cl []) base (envX cn cs L a ccd cl) g) (fun c => [(Str.ofString "pieces", .ref lp), (Str.ofString "told", .ref lt), (Str.ofString "answers", .ref la), (Str.ofString "book", .ref bk)])
    (fun c => [(la, listOf c.avs.toArray c.na), (lh, listOf c.hvs.toArray c.nh), (lt, listOf c.tvs.toArray c.nt), (lk, listOf c.kvs.toArray c.nk), (bd, telDict w tb1 tb2 c.tb fL (c.st.text.length : Int)), (bk, instObj 79 bd), (dw, owd), (fL, oL), (fT, oT), (cT, ocT), (L' + 1 + 1 + 1, ok), (L' + 1 + 1, oh), (L' + 1, o3)])
    (fun tl c => ∃ tn, (∀ p ∈ tn, p ∈ tl) ∧ DatAll tn c.tvs (c.st.told.map toldDat) ∧ (∀ p ∈ tn, p.1 ≠ 90 ∧ ∀ q ∈ news, q.1 ≠ p.1) ∧ (∀ p ∈ (90, otab) :: news, p ∈ tl))
    (fun i c => c.st = stOf pieces refused (numbers.take i) ∧ StrsAre c.hvs c.st.handed ∧ DatAll [] c.avs c.st.ans ∧ StrsAre c.kvs c.ks ∧ c.ks.length = c.st.cuts ∧ Str.join (Str.ofString "") c.ks = c.st.text) [la, lh, lt, lk, bd, bk, dw, fL, fT, cT, L' + 1 + 1 + 1, L' + 1 + 1, L' + 1] rfl rfl PassesOwn.never rfl (News.isList N1 ?hml) ?hl0 (l1n _ mn) (fun hm => offn _ mn _ hm rfl) hgn0 (fun _ => rfl) hG0 F1 N1
    ⟨St.zero, [], [], 0, [], 0, [], 0, [], 0, tb3⟩ ((90, otab) :: news) ?hn ?ht ⟨[], (fun _ h => nomatch h), .nil, (fun _ h => nomatch h), fun _ h => h⟩ ?hk ⟨rfl, .nil, .nil, .nil, rfl, rfl⟩ ?turn ?done
  case hml => exact .tail _ (.tail _ (.tail _ (.tail _ (.tail _ (.tail _ (.tail _ (.tail _ (.tail _ (.tail _ (.tail _ (.tail _ (.tail _ (.tail _ (.tail _ (.tail _ (mn))))))))))))))))
  case hl0 => exact (N1 _ (.tail _ (.tail _ (.tail _ (.tail _ (.tail _ (.tail _ (.tail _ (.tail _ (.tail _ (.tail _ (.tail _ (.tail _ (.tail _ (.tail _ (.tail _ (.tail _ mn))))))))))))))))).2.2
  case hn => exact Mine.fac (.tail _ (.tail _ (.tail _ (.tail _ (.tail _ (.tail _ (.tail _ (.tail _ (.head _))))))))) (Mine.fac (.tail _ (.tail _ (.tail _ (.tail _ (.tail _ (.tail _ (.tail _ (.tail _ (.tail _ (.head _)))))))))) (Mine.fac (.tail _ (.tail _ (.tail _ (.tail _ (.tail _ (.tail _ (.tail _ (.tail _ (.tail _ (.tail _ (.head _))))))))))) (Mine.fac (.tail _ (.tail _ (.tail _ (.tail _ (.tail _ (.tail _ (.tail _ (.tail _ (.tail _ (.tail _ (.tail _ (.head _)))))))))))) (Mine.fac (.tail _ (.head _)) (Mine.fac (.head _) (Mine.fac (.tail _ (.tail _ (.head _))) (Mine.fac (.tail _ (.tail _ (.tail _ (.head _)))) (Mine.fac (.tail _ (.tail _ (.tail _ (.tail _ (.tail _ (.head _)))))) (Mine.fac (.tail _ (.tail _ (.tail _ (.tail _ (.tail _ (.tail _ (.head _))))))) (Mine.fac (.tail _ (.tail _ (.tail _ (.tail _ (.tail _ (.tail _ (.tail _ (.tail _ (.tail _ (.tail _ (.tail _ (.tail _ (.head _))))))))))))) (Mine.fac (.tail _ (.tail _ (.tail _ (.tail _ (.tail _ (.tail _ (.tail _ (.tail _ (.tail _ (.tail _ (.tail _ (.tail _ (.tail _ (.head _)))))))))))))) (Mine.fac (.tail _ (.tail _ (.tail _ (.tail _ (.tail _ (.tail _ (.tail _ (.tail _ (.tail _ (.tail _ (.tail _ (.tail _ (.tail _ (.tail _ (.head _))))))))))))))) (Mine.fac (.tail _ (.tail _ (.tail _ (.tail _ (.tail _ (.tail _ (.tail _ (.tail _ (.tail _ (.tail _ (.tail _ (.tail _ (.tail _ (.tail _ (.tail _ (.head _)))))))))))))))) (fun p hp => .tail _ (.tail _ (.tail _ (.tail _ (.tail _ (.tail _ (.tail _ (.tail _ (.tail _ (.tail _ (.tail _ (.tail _ (.tail _ (.tail _ (.tail _ (.tail _ (hp))))))))))))))))))))))))))))))
  case ht =>
    intro p hp b hb e
    rcases List.mem_cons.mp hp with rfl | hp
    · have := (hadr b hb).1
      dsimp only at e
      rw [← e] at this
      exact absurd lc' (Nat.lt_asymm this)
    · exact offn p hp b hb e
  case hk => ((repeat' (first | exact List.forall_mem_nil _ | refine Mine.fac (by with_unfolding_all rfl) ?_)))
  case turn =>
    clear F1 N1 B X T hC hG0
    intro g1 i v c tl own u h tk hG hi hv ho hF hI F2 N2
    refine wp_gen fun QT hQT => ?_
    have B := hG.below
    have X := hXT.1.keeps B.stays
    have T := hXT.2.1.keeps B.stays
    have hC := hXT.2.2.keeps B.stays
    dsimp only [List.nil_append, List.cons_append] at N2
    obtain ⟨st, ks, kvs, nk, tvs, nt, hvs, nh, avs, na, tb⟩ := c
    refine and6 hI fun hst hhs has hks hkl hkj => ?_
    clear hI
    refine Exists.elim hF fun tn hF9 => and4 hF9 fun hF1 hF2 hF3 hF4 => ?_
    clear hF9 hF
    (try dsimp only at hst hhs has hks hkl hkj hF2 F2 N2)
    obtain ⟨x, tx, rfl, hx⟩ := hIn.at i v hv
    have hB := stOf_B (refused := refused) hl2 hl3 numbers i (by omega)
    rw [← hst] at hB
    obtain ⟨b1, b2, b3, b4⟩ := hB
    have b5 := stOf_cuts pieces refused (numbers.take i)
    rw [← hst] at b5
    have c1 : tvs.length = st.told.length := by rw [hF2.length, List.length_map]
    have c2 := strs_len hhs
    have c3 := has.length
    have c4 := strs_len hks
    have hpl := piece_len hl2 hl3 x
    obtain ⟨tp, hpa⟩ := strs_get (datStrs dp') (piece_at hl2 x)
    have hsu := stOf_succ (pieces := pieces) (refused := refused) hx
    rw [← hst] at hsu
    clear hIn
    unfold telDict at N2
    (repeat' (first | ((fail_if_success (with_reducible show wpAny _ _ (pyIter (Value.ref _)) _ _ _)); (fail_if_success (with_reducible show wpAny _ _ (subscriptTail _ _ (Value.ref _) (Value.int _ _)) _ _ _)); (fail_if_success (with_reducible show wpAny _ _ (compareOp CmpOp.In _ _) _ _ _)); (fail_if_success (with_reducible show wpAny _ _ (exec (Stmt.For _ _ _ _ _) _) _ _ _)); (fail_if_success (with_reducible show wpAny _ _ (exec (Stmt.Raise _ _ _) _) _ _ _)); (fail_if_success (with_reducible show wpAny _ _ (leaving _ _) _ _ _)); (fail_if_success (with_reducible show wpAny _ _ (call (Value.builtin "len") [Value.ref _]) _ _ _)); (fail_if_success (with_reducible show wpAny _ _ (noteFrame _ _) _ _ _)); (fail_if_success (with_reducible show wpAny _ _ (call (Value.type "str") _) _ _ _)); first | ((with_reducible show wpAny _ _ (exec (Stmt.Try _ (_ :: _) _ [] _) _) _ _ _); (refine wpAny_Try_except ?_)) | ((with_reducible show wpAny _ _ (call (Value.builtin "len") [Value.str _ _]) _ _ _); (refine SBL.len (by omega) ?_)) | (k_unfold; (try dsimp only)) | (k_end; wrow_close) | walk1 | (dsimp only; walk1) | (leave1; walk_say "STEP leave1"; try dsimp only) | fail "no step")))
    (rename Fr _ _ _ _ => F3); (rename News _ _ _ _ => N3)
    refine item_at (News.isList N3 (.tail _ (.tail _ (.tail _ (.tail _ (.tail _ (.tail _ (.tail _ (.tail _ (.tail _ (.tail _ (.tail _ (.tail _ (.tail _ (.tail _ (.tail _ (List.mem_append_left _ (hF4 _ (.tail _ mp))))))))))))))))))) (Int.fmod_nonneg_of_pos x (by omega)) (by have := Int.fmod_lt_of_pos x (show (0 : Int) < 5 by omega); omega) hpa ?_ (by with_unfolding_all rfl)
    have hgl : GoodP (pieceOf pieces x) := hgp _ (List.mem_of_getElem? (piece_at hl2 x))
    generalize hle : pieceOf pieces x = left at *
    (repeat' (first | ((fail_if_success (with_reducible show wpAny _ _ (pyIter (Value.ref _)) _ _ _)); (fail_if_success (with_reducible show wpAny _ _ (subscriptTail _ _ (Value.ref _) (Value.int _ _)) _ _ _)); (fail_if_success (with_reducible show wpAny _ _ (compareOp CmpOp.In _ _) _ _ _)); (fail_if_success (with_reducible show wpAny _ _ (exec (Stmt.For _ _ _ _ _) _) _ _ _)); (fail_if_success (with_reducible show wpAny _ _ (exec (Stmt.Raise _ _ _) _) _ _ _)); (fail_if_success (with_reducible show wpAny _ _ (leaving _ _) _ _ _)); (fail_if_success (with_reducible show wpAny _ _ (call (Value.builtin "len") [Value.ref _]) _ _ _)); (fail_if_success (with_reducible show wpAny _ _ (noteFrame _ _) _ _ _)); (fail_if_success (with_reducible show wpAny _ _ (call (Value.type "str") _) _ _ _)); first | ((with_reducible show wpAny _ _ (exec (Stmt.Try _ (_ :: _) _ [] _) _) _ _ _); (refine wpAny_Try_except ?_)) | ((with_reducible show wpAny _ _ (call (Value.builtin "len") [Value.str _ _]) _ _ _); (refine SBL.len (by omega) ?_)) | (k_unfold; (try dsimp only)) | (k_end; wrow_close) | walk1 | (dsimp only; walk1) | (leave1; walk_say "STEP leave1"; try dsimp only) | fail "no step")))
    refine For_name ?_
    (repeat' (first | ((fail_if_success (with_reducible show wpAny _ _ (pyIter (Value.ref _)) _ _ _)); (fail_if_success (with_reducible show wpAny _ _ (subscriptTail _ _ (Value.ref _) (Value.int _ _)) _ _ _)); (fail_if_success (with_reducible show wpAny _ _ (compareOp CmpOp.In _ _) _ _ _)); (fail_if_success (with_reducible show wpAny _ _ (exec (Stmt.For _ _ _ _ _) _) _ _ _)); (fail_if_success (with_reducible show wpAny _ _ (exec (Stmt.Raise _ _ _) _) _ _ _)); (fail_if_success (with_reducible show wpAny _ _ (leaving _ _) _ _ _)); (fail_if_success (with_reducible show wpAny _ _ (call (Value.builtin "len") [Value.ref _]) _ _ _)); (fail_if_success (with_reducible show wpAny _ _ (noteFrame _ _) _ _ _)); (fail_if_success (with_reducible show wpAny _ _ (call (Value.type "str") _) _ _ _)); first | ((with_reducible show wpAny _ _ (exec (Stmt.Try _ (_ :: _) _ [] _) _) _ _ _); (refine wpAny_Try_except ?_)) | ((with_reducible show wpAny _ _ (call (Value.builtin "len") [Value.str _ _]) _ _ _); (refine SBL.len (by omega) ?_)) | (k_unfold; (try dsimp only)) | (k_end; wrow_close) | walk1 | (dsimp only; walk1) | (leave1; walk_say "STEP leave1"; try dsimp only) | fail "no step")))
    rename_i gg1 LL1 hw0 FF1 NN1 BB1 XX1 TT1 qk1 ek1 tk1 Tc1 kX1 ow od hw1 lw1 lw2 gg2 LL2 hw2 BB2 XX2 TT2 tkw2 hw3 hw4 FF2 NN2 Tc2 kX2 D hD lD hz1 hz2 hz3 hz4 FF3 NN3 hz5 tkz t1 u1 v1 hR FE NE hkeep
    clear FF1 NN1 BB1 XX1 TT1 Tc1 kX1 FF2 NN2 BB2 XX2 TT2 Tc2 kX2 FF3 NN3
    (try dsimp only at NE)
    obtain ⟨tb4, ha1⟩ : ∃ t, t = tkw2 + 1 := ⟨_, rfl⟩
    obtain ⟨tb5, ha2⟩ : ∃ t, t = tkw2 + 2 + 1 + 1 := ⟨_, rfl⟩
    obtain ⟨tb6, ha3⟩ : ∃ t, t = tkw2 + 2 := ⟨_, rfl⟩
    rw [← ha1, ← ha2, ← ha3] at NE
    clear ha1 ha2 ha3
    (try clear qk1 ek1)
    generalize hoE : Obj.mk (Value.type "tuple") _ _ _ = oE at NE
    have ez : (st.text.length : Int) = ((st.text.length + 0 : Nat) : Int) := rfl
    have hadr2 := adr2_off (L := L') (lk := lk) (lt := lt) (lh := lh) (la := la) (DD := DD) (cT := cT) (fT := fT) (cL := cL) (fL := fL) (dw := dw) (bd := bd) (bk := bk) (od := od) (ow := ow) (D := D) lk1.1 lt1.1 lh1.1 la1.1 lD1.1 lT1.1 lT2 lf1.1 lf2 l2.1 lb1.1 lb2 lw1.2.2.2.2.2.1 lw2 lD.1
    have lwt := lw1.2.2.2.2.2.2.2.2.2.2.2.2.2
    have lDt := lD.2.2.2.2.2.2.2.2.2.2.2.2.2.2.2
    have hgn1 : ∀ g', GroundT (ktrTop dp un gd cn cs L a ccd cl []) base (envX cn cs L a ccd cl) g g' → ∀ b, g1.get? b = none → g'.get? b = none := fun g' G b e => hgn0 g' G b (by
      cases q : g.get? b with
      | none => rfl
      | some o =>
        obtain ⟨sl, hs⟩ := hG.turn.up q
        rw [hs] at e
        cases e)
    refine' loop_rangeG (σ := LdIn) (n := left.length) (a₀ := 0) (b₀ := (left.length : Int)) (GroundT (ktrTop dp un gd cn cs L a ccd cl []) base (envX cn cs L a ccd cl) g) (fun c => [(Str.ofString "pieces", .ref lp), (Str.ofString "told", .ref lt), (Str.ofString "answers", .ref la), (Str.ofString "book", .ref bk), (Str.ofString "first", .int (st.text.length : Int) tb), (Str.ofString "own", .ref ow), (Str.ofString "left", .str c.c.q.left c.tl), (Str.ofString "x", .int x tx)])
      (fun c => [(la, listOf c.avs.toArray c.na), (lh, listOf c.hvs.toArray c.nh), (lt, listOf tvs.toArray nt), (lk, listOf c.kvs.toArray c.nk), (bd, telDict w tb1 tb2 c.tb fL ((st.text.length + c.c.own : Nat) : Int)), (od, telDict w tb4 tb5 c.to bk (c.c.own : Int)), (ow, instObj 79 od), (bk, instObj 79 bd), (dw, owd), (fL, oL), (fT, oT), (cT, ocT), (L' + 1 + 1 + 1, ok), (L' + 1 + 1, oh), (L' + 1, o3)])
      (fun tl' _ => ∀ p ∈ tl ++ own, p ∈ tl')
      (fun j c => c.c = ldTurns refused j ⟨⟨left, st.handed, st.ans, st.cuts⟩, ks, 0⟩ ∧ StrsAre c.hvs c.c.q.handed ∧ DatAll [] c.avs c.c.q.ans ∧ StrsAre c.kvs c.c.ks) [la, lh, lt, lk, bd, od, ow, bk, dw, fL, fT, cT, L' + 1 + 1 + 1, L' + 1 + 1, L' + 1] rfl rfl PassesOwn.never rfl hR (small_one (by omega) (by omega) (by omega) (by omega)) (by rw [rangeSize_nat]; congr 1) hgn1 (fun _ => rfl) hG FE NE
      ⟨⟨⟨left, st.handed, st.ans, st.cuts⟩, ks, 0⟩, tp, kvs, nk, hvs, nh, avs, na, tb, tb6⟩ ((D, oE) :: (tl ++ own)) ?hn2 ?ht2 (fun _ h => .tail _ h) ?hk2 ⟨rfl, hhs, has, hks⟩ ?turn2 ?done2
    case hn2 => exact Mine.fac (.tail _ (.tail _ (.tail _ (.head _)))) (Mine.fac (.tail _ (.tail _ (.tail _ (.tail _ (.head _))))) (Mine.fac (.tail _ (.tail _ (.tail _ (.tail _ (.tail _ (.head _)))))) (Mine.fac (.tail _ (.tail _ (.tail _ (.tail _ (.tail _ (.tail _ (.head _))))))) (Mine.fac (.tail _ (.tail _ (.tail _ (.tail _ (.tail _ (.tail _ (.tail _ (.head _)))))))) (Mine.fac (.tail _ (.tail _ (.head _))) (Mine.fac (.tail _ (.head _)) (Mine.fac (.tail _ (.tail _ (.tail _ (.tail _ (.tail _ (.tail _ (.tail _ (.tail _ (.head _))))))))) (Mine.fac (.tail _ (.tail _ (.tail _ (.tail _ (.tail _ (.tail _ (.tail _ (.tail _ (.tail _ (.head _)))))))))) (Mine.fac (.tail _ (.tail _ (.tail _ (.tail _ (.tail _ (.tail _ (.tail _ (.tail _ (.tail _ (.tail _ (.head _))))))))))) (Mine.fac (.tail _ (.tail _ (.tail _ (.tail _ (.tail _ (.tail _ (.tail _ (.tail _ (.tail _ (.tail _ (.tail _ (.head _)))))))))))) (Mine.fac (.tail _ (.tail _ (.tail _ (.tail _ (.tail _ (.tail _ (.tail _ (.tail _ (.tail _ (.tail _ (.tail _ (.tail _ (.head _))))))))))))) (Mine.fac (.tail _ (.tail _ (.tail _ (.tail _ (.tail _ (.tail _ (.tail _ (.tail _ (.tail _ (.tail _ (.tail _ (.tail _ (.tail _ (.head _)))))))))))))) (Mine.fac (.tail _ (.tail _ (.tail _ (.tail _ (.tail _ (.tail _ (.tail _ (.tail _ (.tail _ (.tail _ (.tail _ (.tail _ (.tail _ (.tail _ (.head _))))))))))))))) (Mine.fac (.tail _ (.tail _ (.tail _ (.tail _ (.tail _ (.tail _ (.tail _ (.tail _ (.tail _ (.tail _ (.tail _ (.tail _ (.tail _ (.tail _ (.tail _ (.head _)))))))))))))))) (Mine.fac (.head _) (fun p hp => .tail _ (.tail _ (.tail _ (.tail _ (.tail _ (.tail _ (.tail _ (.tail _ (.tail _ (.tail _ (.tail _ (.tail _ (.tail _ (.tail _ (.tail _ (.tail _ (hp))))))))))))))))))))))))))))))))
    case ht2 =>
      intro p hp b hb e
      obtain ⟨q2, q3⟩ := hadr2 b hb
      rcases List.mem_cons.mp hp with rfl | hp
      · exact q2 e
      have q4 := ktn_ltOf lwt p hp
      rcases q3 with q | rfl | rfl
      · exact ho p hp b q e
      · exact absurd e (Nat.ne_of_lt q4)
      · exact absurd e (Nat.ne_of_lt (Nat.lt_trans q4 lw2))
    case hk2 => ((repeat' (first | exact List.forall_mem_nil _ | refine Mine.fac (by with_unfolding_all rfl) ?_)))
    case turn2 =>
      clear FE NE hkeep hR B X T hC
      intro g2 j tj c tl' own' u' h' tk' hG2 hj ho' hF' hI' F4 N4
      refine wp_gen fun QU hQU => ?_
      have B := hG2.below
      have X := hXT.1.keeps B.stays
      have T := hXT.2.1.keeps B.stays
      have hC := hXT.2.2.keeps B.stays
      dsimp only [List.nil_append, List.cons_append] at N4
      obtain ⟨c, tlq, kvs', nk', hvs', nh', avs', na', tb', to'⟩ := c
      refine and4 hI' fun hc hhs' has' hks' => ?_
      clear hI'
      (try dsimp only at hc hhs' has' hks' F4 N4)
      have hil := ld_len refused ⟨⟨left, st.handed, st.ans, st.cuts⟩, ks, 0⟩ j
      rw [← hc] at hil
      (try dsimp only at hil)
      have c1' := strs_len hhs'
      have c2' := has'.length
      have c3' := strs_len hks'
      have hcu := ld_cuts refused ⟨⟨left, st.handed, st.ans, st.cuts⟩, ks, 0⟩ hkl j
      rw [← hc] at hcu
      have hsl : Txt.slice c.q.left none (some (1 + Int.fmod ((List.toArray kvs').size : Int) 3)) = takeS c.q.left c.q.n := by
        rw [List.size_toArray, slice_take, c3', hcu]
        rfl
      have htl : (takeS c.q.left c.q.n).length = c.q.n := by rw [takeS_len]; exact Nat.min_eq_left (inn_n_le c.q)
      have hnl := inn_n_le c.q
      unfold telDict at N4
      subst hwd hoT hoL
      (repeat' (first | ((fail_if_success (with_reducible show wpAny _ _ (pyIter (Value.ref _)) _ _ _)); (fail_if_success (with_reducible show wpAny _ _ (subscriptTail _ _ (Value.ref _) (Value.int _ _)) _ _ _)); (fail_if_success (with_reducible show wpAny _ _ (compareOp CmpOp.In _ _) _ _ _)); (fail_if_success (with_reducible show wpAny _ _ (exec (Stmt.For _ _ _ _ _) _) _ _ _)); (fail_if_success (with_reducible show wpAny _ _ (exec (Stmt.Raise _ _ _) _) _ _ _)); (fail_if_success (with_reducible show wpAny _ _ (leaving _ _) _ _ _)); (fail_if_success (with_reducible show wpAny _ _ (call (Value.builtin "len") [Value.ref _]) _ _ _)); (fail_if_success (with_reducible show wpAny _ _ (noteFrame _ _) _ _ _)); (fail_if_success (with_reducible show wpAny _ _ (call (Value.type "str") _) _ _ _)); first | ((with_reducible show wpAny _ _ (exec (Stmt.Try _ (_ :: _) _ [] _) _) _ _ _); (refine wpAny_Try_except ?_)) | ((with_reducible show wpAny _ _ (call (Value.builtin "len") [Value.str _ _]) _ _ _); (refine SBL.len (by omega) ?_)) | (k_unfold; (try dsimp only)) | (k_end; wrow_close) | walk1 | (dsimp only; walk1) | (leave1; walk_say "STEP leave1"; try dsimp only) | fail "no step")))
      · (rename Fr _ _ _ _ => F5); (rename News _ _ _ _ => N5)
        refine get_fn (N5 _ (.tail _ (.tail _ (.tail _ (.tail _ (.tail _ (.tail _ (.tail _ (.tail _ (.tail _ (.head _))))))))))).1 (ns_one (N5 _ (.tail _ (.tail _ (.tail _ (.tail _ (.tail _ (.tail _ (.tail _ (.tail _ (.head _)))))))))).1) write_fn (by decide +kernel) find_one ?hh ?_
        case hh => rfl
        (try dsimp only)
        (repeat' (first | ((fail_if_success (with_reducible show wpAny _ _ (pyIter (Value.ref _)) _ _ _)); (fail_if_success (with_reducible show wpAny _ _ (subscriptTail _ _ (Value.ref _) (Value.int _ _)) _ _ _)); (fail_if_success (with_reducible show wpAny _ _ (compareOp CmpOp.In _ _) _ _ _)); (fail_if_success (with_reducible show wpAny _ _ (exec (Stmt.For _ _ _ _ _) _) _ _ _)); (fail_if_success (with_reducible show wpAny _ _ (exec (Stmt.Raise _ _ _) _) _ _ _)); (fail_if_success (with_reducible show wpAny _ _ (leaving _ _) _ _ _)); (fail_if_success (with_reducible show wpAny _ _ (call (Value.builtin "len") [Value.ref _]) _ _ _)); (fail_if_success (with_reducible show wpAny _ _ (noteFrame _ _) _ _ _)); (fail_if_success (with_reducible show wpAny _ _ (call (Value.type "str") _) _ _ _)); first | ((with_reducible show wpAny _ _ (exec (Stmt.Try _ (_ :: _) _ [] _) _) _ _ _); (refine wpAny_Try_except ?_)) | ((with_reducible show wpAny _ _ (call (Value.builtin "len") [Value.str _ _]) _ _ _); (refine SBL.len (by omega) ?_)) | (k_unfold; (try dsimp only)) | (k_end; wrow_close) | walk1 | (dsimp only; walk1) | (leave1; walk_say "STEP leave1"; try dsimp only) | fail "no step")))
        (rename Fr _ _ _ _ => F6); (rename News _ _ _ _ => N6)
        refine in_list_strs (News.isList N6 (.tail _ (.tail _ (.tail _ (.tail _ (.tail _ (.tail _ (.tail _ (.tail _ (.tail _ (.tail _ (.tail _ (.tail _ (.tail _ (.tail _ (.tail _ (List.mem_append_left _ (hF' _ (List.mem_append_left _ (hF4 _ (.tail _ mr))))))))))))))))))))) (datStrs dr) ?_
        (repeat' (first | ((fail_if_success (with_reducible show wpAny _ _ (pyIter (Value.ref _)) _ _ _)); (fail_if_success (with_reducible show wpAny _ _ (subscriptTail _ _ (Value.ref _) (Value.int _ _)) _ _ _)); (fail_if_success (with_reducible show wpAny _ _ (compareOp CmpOp.In _ _) _ _ _)); (fail_if_success (with_reducible show wpAny _ _ (exec (Stmt.For _ _ _ _ _) _) _ _ _)); (fail_if_success (with_reducible show wpAny _ _ (exec (Stmt.Raise _ _ _) _) _ _ _)); (fail_if_success (with_reducible show wpAny _ _ (leaving _ _) _ _ _)); (fail_if_success (with_reducible show wpAny _ _ (call (Value.builtin "len") [Value.ref _]) _ _ _)); (fail_if_success (with_reducible show wpAny _ _ (noteFrame _ _) _ _ _)); (fail_if_success (with_reducible show wpAny _ _ (call (Value.type "str") _) _ _ _)); first | ((with_reducible show wpAny _ _ (exec (Stmt.Try _ (_ :: _) _ [] _) _) _ _ _); (refine wpAny_Try_except ?_)) | ((with_reducible show wpAny _ _ (call (Value.builtin "len") [Value.str _ _]) _ _ _); (refine SBL.len (by omega) ?_)) | (k_unfold; (try dsimp only)) | (k_end; wrow_close) | walk1 | (dsimp only; walk1) | (leave1; walk_say "STEP leave1"; try dsimp only) | fail "no step")))
        · (rename Fr _ _ _ _ => F7); (rename News _ _ _ _ => N7); (rename Below _ _ _ _ => B7); (rename Frag.In _ _ => X7); (rename Top _ _ _ _ _ _ => T7)
          refine Raise_ownX (C := 31) F7 X7 (topRead_of T7) ?ex (own_of_in X7 (topRead_of T7) ?ex2 ?ee) PySem.F.excBase_Exception rfl ?_
          case ex => k_is
          case ex2 => k_is
          case ee => k_exc
          iterate 3 walk1
          refine ⟨by rw [sizeLine_eq]; simp, (by assumption : Fr _ _ _ _).keep, fun hr er hx => ?_⟩
          (try dsimp only)
          refine leave_raiseX (by assumption) hx (by assumption) (by assumption) (fun hr2 tr R2 U2 => ?_)
          refine leave_onX (by assumption) (by assumption) R2 U2 (fun hr3 R3 U3 => ?_)
          refine leave_onX (by assumption) (by assumption) R3 U3 (fun hr4 R4 U4 => ?_)
          refine caught_XB R4 (by assumption) B U4 hXT.1 hXT.2.1 (hG2.dicts DD0) ?ex3 ?q3 (fun hc5 g3 news2 tk5 T5 F5' N5' G5 fr5 B5 => ?_)
          case ex3 => k_is
          case q3 => kts_isx
          obtain ⟨oe, ot, ews, nte, me, mt, ec1, ec2, ec3, tc1, tc2⟩ := G5
          have hG3 := hG2.next T5 B5
          have hla1 : @Ne Nat la er := (fr5 _ (.head _)).1
          have hla2 : @Ne Nat la tr := (fr5 _ (.head _)).2
          have N6' := news_exc N5' me mt
          clear N5' R4 R3 R2 fr5
          have X5 := hXT.1.keeps B5.stays
          have T5' := hXT.2.1.keeps B5.stays
          have hC5 := hXT.2.2.keeps B5.stays
          (try dsimp only at N6' F5')
          (repeat' (first | ((fail_if_success (with_reducible show wpAny _ _ (pyIter (Value.ref _)) _ _ _)); (fail_if_success (with_reducible show wpAny _ _ (subscriptTail _ _ (Value.ref _) (Value.int _ _)) _ _ _)); (fail_if_success (with_reducible show wpAny _ _ (compareOp CmpOp.In _ _) _ _ _)); (fail_if_success (with_reducible show wpAny _ _ (exec (Stmt.For _ _ _ _ _) _) _ _ _)); (fail_if_success (with_reducible show wpAny _ _ (exec (Stmt.Raise _ _ _) _) _ _ _)); (fail_if_success (with_reducible show wpAny _ _ (leaving _ _) _ _ _)); (fail_if_success (with_reducible show wpAny _ _ (call (Value.builtin "len") [Value.ref _]) _ _ _)); (fail_if_success (with_reducible show wpAny _ _ (noteFrame _ _) _ _ _)); (fail_if_success (with_reducible show wpAny _ _ (call (Value.type "str") _) _ _ _)); first | ((with_reducible show wpAny _ _ (exec (Stmt.Try _ (_ :: _) _ [] _) _) _ _ _); (refine wpAny_Try_except ?_)) | ((with_reducible show wpAny _ _ (call (Value.builtin "len") [Value.str _ _]) _ _ _); (refine SBL.len (by omega) ?_)) | (k_unfold; (try dsimp only)) | (k_end; wrow_close) | walk1 | (dsimp only; walk1) | (leave1; walk_say "STEP leave1"; try dsimp only) | fail "no step")))
          (rename Fr _ _ _ _ => F8); (rename News _ _ _ _ => N8)
          refine str_own (X5.keeps F8.keep) ⟨⟨oe, ews, tr, (N8 _ (.head _)).1, ec1, ec2, ec3, ⟨ot, nte, (N8 _ (.tail _ (.head _))).1, tc1, tc2⟩⟩⟩ ?f1 ?f2 ?f3 ?_
          case f1 => k_is
          case f2 => k_is
          case f3 => (show un + 3 + 2 < cLine; omega)
          (repeat' (first | ((fail_if_success (with_reducible show wpAny _ _ (pyIter (Value.ref _)) _ _ _)); (fail_if_success (with_reducible show wpAny _ _ (subscriptTail _ _ (Value.ref _) (Value.int _ _)) _ _ _)); (fail_if_success (with_reducible show wpAny _ _ (compareOp CmpOp.In _ _) _ _ _)); (fail_if_success (with_reducible show wpAny _ _ (exec (Stmt.For _ _ _ _ _) _) _ _ _)); (fail_if_success (with_reducible show wpAny _ _ (exec (Stmt.Raise _ _ _) _) _ _ _)); (fail_if_success (with_reducible show wpAny _ _ (leaving _ _) _ _ _)); (fail_if_success (with_reducible show wpAny _ _ (call (Value.builtin "len") [Value.ref _]) _ _ _)); (fail_if_success (with_reducible show wpAny _ _ (noteFrame _ _) _ _ _)); (fail_if_success (with_reducible show wpAny _ _ (call (Value.type "str") _) _ _ _)); first | ((with_reducible show wpAny _ _ (exec (Stmt.Try _ (_ :: _) _ [] _) _) _ _ _); (refine wpAny_Try_except ?_)) | ((with_reducible show wpAny _ _ (call (Value.builtin "len") [Value.str _ _]) _ _ _); (refine SBL.len (by omega) ?_)) | (k_unfold; (try dsimp only)) | (k_end; wrow_close) | walk1 | (dsimp only; walk1) | (leave1; walk_say "STEP leave1"; try dsimp only) | fail "no step")))
          (rename Fr _ _ _ _ => F9); (rename News _ _ _ _ => N9)
          refine name_goesX F9 N9 (fun hn9 vn9 FE NE => ?_)
          (rename (c.q.left != _) = true => hne); (rename List.any _ _ = true => hrf)
          have hqn : ldTurns refused (j + 1) ⟨⟨left, st.handed, st.ans, st.cuts⟩, ks, 0⟩ = ldTurn refused c := by rw [hc]; rfl
          rw [ldTurn_ref hne hrf] at hqn
          simp only [List.push_toArray] at NE
          refine wpAny_execs_nil ?_
          exact hQU _ _ (lendG ⟨⟨⟨Str.ofString "", c.q.handed ++ [c.q.left], c.q.ans ++ [.str c.q.left], c.q.cuts⟩, c.ks, c.own⟩, _, kvs', _, hvs' ++ [_], _, avs' ++ [_], _, _, _⟩ [] hG3 FE NE (fun p hp => .tail _ (.tail _ hp)) (fun _ h => nomatch h) hF' (by ((repeat' (first | exact List.forall_mem_nil _ | refine Mine.fac (by with_unfolding_all rfl) ?_)))) ⟨hqn.symm, strs_snoc hhs', has'.append (.one (.str _ _)), hks'⟩)
        · (rename Fr _ _ _ _ => F7); (rename News _ _ _ _ => N7)
          refine PyProof.Rows.len_list (News.isList N7 (.tail _ (.tail _ (.tail _ (.head _))))) (by simp only [List.size_toArray]; omega) ?_
          (repeat' (first | ((fail_if_success (with_reducible show wpAny _ _ (pyIter (Value.ref _)) _ _ _)); (fail_if_success (with_reducible show wpAny _ _ (subscriptTail _ _ (Value.ref _) (Value.int _ _)) _ _ _)); (fail_if_success (with_reducible show wpAny _ _ (compareOp CmpOp.In _ _) _ _ _)); (fail_if_success (with_reducible show wpAny _ _ (exec (Stmt.For _ _ _ _ _) _) _ _ _)); (fail_if_success (with_reducible show wpAny _ _ (exec (Stmt.Raise _ _ _) _) _ _ _)); (fail_if_success (with_reducible show wpAny _ _ (leaving _ _) _ _ _)); (fail_if_success (with_reducible show wpAny _ _ (call (Value.builtin "len") [Value.ref _]) _ _ _)); (fail_if_success (with_reducible show wpAny _ _ (noteFrame _ _) _ _ _)); (fail_if_success (with_reducible show wpAny _ _ (call (Value.type "str") _) _ _ _)); first | ((with_reducible show wpAny _ _ (exec (Stmt.Try _ (_ :: _) _ [] _) _) _ _ _); (refine wpAny_Try_except ?_)) | ((with_reducible show wpAny _ _ (call (Value.builtin "len") [Value.str _ _]) _ _ _); (refine SBL.len (by omega) ?_)) | (k_unfold; (try dsimp only)) | (k_end; wrow_close) | walk1 | (dsimp only; walk1) | (leave1; walk_say "STEP leave1"; try dsimp only) | fail "no step")))
          (rename Fr _ _ _ _ => F8); (rename News _ _ _ _ => N8)
          simp only [List.push_toArray] at N8
          rw [hsl] at N8
          refine item_last (News.isList N8 (.tail _ (.tail _ (.tail _ (.head _))))) ?_ (by with_unfolding_all rfl)
          (repeat' (first | ((fail_if_success (with_reducible show wpAny _ _ (pyIter (Value.ref _)) _ _ _)); (fail_if_success (with_reducible show wpAny _ _ (subscriptTail _ _ (Value.ref _) (Value.int _ _)) _ _ _)); (fail_if_success (with_reducible show wpAny _ _ (compareOp CmpOp.In _ _) _ _ _)); (fail_if_success (with_reducible show wpAny _ _ (exec (Stmt.For _ _ _ _ _) _) _ _ _)); (fail_if_success (with_reducible show wpAny _ _ (exec (Stmt.Raise _ _ _) _) _ _ _)); (fail_if_success (with_reducible show wpAny _ _ (leaving _ _) _ _ _)); (fail_if_success (with_reducible show wpAny _ _ (call (Value.builtin "len") [Value.ref _]) _ _ _)); (fail_if_success (with_reducible show wpAny _ _ (noteFrame _ _) _ _ _)); (fail_if_success (with_reducible show wpAny _ _ (call (Value.type "str") _) _ _ _)); first | ((with_reducible show wpAny _ _ (exec (Stmt.Try _ (_ :: _) _ [] _) _) _ _ _); (refine wpAny_Try_except ?_)) | ((with_reducible show wpAny _ _ (call (Value.builtin "len") [Value.str _ _]) _ _ _); (refine SBL.len (by omega) ?_)) | (k_unfold; (try dsimp only)) | (k_end; wrow_close) | walk1 | (dsimp only; walk1) | (leave1; walk_say "STEP leave1"; try dsimp only) | fail "no step")))
          (rename Fr _ _ _ _ => F9); (rename News _ _ _ _ => N9)
          simp only [List.push_toArray] at N9
          refine item_last (News.isList N9 (.head _)) ?_ (by with_unfolding_all rfl)
          (repeat' (first | ((fail_if_success (with_reducible show wpAny _ _ (pyIter (Value.ref _)) _ _ _)); (fail_if_success (with_reducible show wpAny _ _ (subscriptTail _ _ (Value.ref _) (Value.int _ _)) _ _ _)); (fail_if_success (with_reducible show wpAny _ _ (compareOp CmpOp.In _ _) _ _ _)); (fail_if_success (with_reducible show wpAny _ _ (exec (Stmt.For _ _ _ _ _) _) _ _ _)); (fail_if_success (with_reducible show wpAny _ _ (exec (Stmt.Raise _ _ _) _) _ _ _)); (fail_if_success (with_reducible show wpAny _ _ (leaving _ _) _ _ _)); (fail_if_success (with_reducible show wpAny _ _ (call (Value.builtin "len") [Value.ref _]) _ _ _)); (fail_if_success (with_reducible show wpAny _ _ (noteFrame _ _) _ _ _)); (fail_if_success (with_reducible show wpAny _ _ (call (Value.type "str") _) _ _ _)); first | ((with_reducible show wpAny _ _ (exec (Stmt.Try _ (_ :: _) _ [] _) _) _ _ _); (refine wpAny_Try_except ?_)) | ((with_reducible show wpAny _ _ (call (Value.builtin "len") [Value.str _ _]) _ _ _); (refine SBL.len (by omega) ?_)) | (k_unfold; (try dsimp only)) | (k_end; wrow_close) | walk1 | (dsimp only; walk1) | (leave1; walk_say "STEP leave1"; try dsimp only) | fail "no step")))
          (rename Fr _ _ _ _ => FE); (rename News _ _ _ _ => NE); (rename (c.q.left != _) = true => hne); (rename List.any _ _ = false => hrf)
          have hqn : ldTurns refused (j + 1) ⟨⟨left, st.handed, st.ans, st.cuts⟩, ks, 0⟩ = ldTurn refused c := by rw [hc]; rfl
          rw [ldTurn_yes hne hrf] at hqn
          have e1 : ((st.text.length + c.own : Nat) : Int) + (c.q.n : Int) = ((st.text.length + (c.own + c.q.n) : Nat) : Int) := by omega
          have e2 : (c.own : Int) + (c.q.n : Int) = ((c.own + c.q.n : Nat) : Int) := by omega
          simp only [htl, slice_drop _ hnl] at FE
          simp only [htl, e1, e2] at NE
          exact hQU _ _ (lendG ⟨⟨⟨dropS c.q.left c.q.n, c.q.handed ++ [c.q.left], c.q.ans ++ [.int c.q.n], c.q.cuts + 1⟩, c.ks ++ [takeS c.q.left c.q.n], c.own + c.q.n⟩, _, kvs' ++ [_], _, hvs' ++ [_], _, avs' ++ [_], _, _, _⟩ [] hG2 FE NE (fun p hp => hp) (fun _ h => nomatch h) hF' (by ((repeat' (first | exact List.forall_mem_nil _ | refine Mine.fac (by with_unfolding_all rfl) ?_)))) ⟨hqn.symm, strs_snoc hhs', has'.append (.one (.int _ _)), strs_snoc hks'⟩)
      · (rename Fr _ _ _ _ => FE); (rename News _ _ _ _ => NE); (rename (c.q.left != _) = false => hne)
        have hqn : ldTurns refused (j + 1) ⟨⟨left, st.handed, st.ans, st.cuts⟩, ks, 0⟩ = ldTurn refused c := by rw [hc]; rfl
        rw [ldTurn_no hne] at hqn
        exact hQU _ _ (lendG ⟨c, _, kvs', _, hvs', _, avs', _, _, _⟩ [] hG2 FE NE (fun p hp => hp) (fun _ h => nomatch h) hF' (by ((repeat' (first | exact List.forall_mem_nil _ | refine Mine.fac (by with_unfolding_all rfl) ?_)))) ⟨hqn.symm, hhs', has', hks'⟩)
    case done2 =>
      clear FE NE hkeep hR B X T hC
      intro g2 c tl' u' h' tk' hG2 ho' hF' hI' F4 N4
      have B := hG2.below
      have X := hXT.1.keeps B.stays
      have T := hXT.2.1.keeps B.stays
      have hC := hXT.2.2.keeps B.stays
      dsimp only [List.nil_append, List.cons_append] at N4
      obtain ⟨c, tlq, kvs', nk', hvs', nh', avs', na', tb', to'⟩ := c
      refine and4 hI' fun hc hhs' has' hks' => ?_
      clear hI'
      (try dsimp only at hc hhs' has' hks' F4 N4)
      unfold telDict at N4
      (repeat' (first | ((fail_if_success (with_reducible show wpAny _ _ (pyIter (Value.ref _)) _ _ _)); (fail_if_success (with_reducible show wpAny _ _ (subscriptTail _ _ (Value.ref _) (Value.int _ _)) _ _ _)); (fail_if_success (with_reducible show wpAny _ _ (compareOp CmpOp.In _ _) _ _ _)); (fail_if_success (with_reducible show wpAny _ _ (exec (Stmt.For _ _ _ _ _) _) _ _ _)); (fail_if_success (with_reducible show wpAny _ _ (exec (Stmt.Raise _ _ _) _) _ _ _)); (fail_if_success (with_reducible show wpAny _ _ (leaving _ _) _ _ _)); (fail_if_success (with_reducible show wpAny _ _ (call (Value.builtin "len") [Value.ref _]) _ _ _)); (fail_if_success (with_reducible show wpAny _ _ (noteFrame _ _) _ _ _)); (fail_if_success (with_reducible show wpAny _ _ (call (Value.type "str") _) _ _ _)); first | ((with_reducible show wpAny _ _ (exec (Stmt.Try _ (_ :: _) _ [] _) _) _ _ _); (refine wpAny_Try_except ?_)) | ((with_reducible show wpAny _ _ (call (Value.builtin "len") [Value.str _ _]) _ _ _); (refine SBL.len (by omega) ?_)) | (k_unfold; (try dsimp only)) | (k_end; wrow_close) | walk1 | (dsimp only; walk1) | (leave1; walk_say "STEP leave1"; try dsimp only) | fail "no step")))
      (rename Fr _ _ _ _ => FE); (rename News _ _ _ _ => NE); (rename @LT.lt Nat instLTNat la _ ∧ _ => l9)
      have o9 := ltOff (l := (la, default) :: (lh, default) :: (lt, default) :: (lk, default) :: (bd, default) :: (od, default) :: (ow, default) :: (bk, default) :: (dw, default) :: (fL, default) :: (fT, default) :: (cT, default) :: (L' + 1 + 1 + 1, default) :: (L' + 1 + 1, default) :: (L' + 1, default) :: tl') l9
      obtain ⟨tx9, hend, htx, hcl9, hcj9⟩ := ld_end (pieces := pieces) (x := x) hle hgl hgr hkl hkj hc
      rw [← htx] at NE
      simp only [List.push_toArray] at NE
      refine hQT _ _ (lendG ⟨⟨tx9, st.told ++ [(x.fmod 5, (st.text.length : Int), (c.own : Int))], c.q.handed, c.q.ans, c.q.cuts⟩, c.ks, kvs', nk', tvs ++ [.ref _], nt + 1, hvs', nh', avs', na', tb'⟩ [(_, _)] hG2 FE NE (Mine.fac (.tail _ (.head _)) (Mine.fac (.tail _ (.tail _ (.head _))) (Mine.fac (.tail _ (.tail _ (.tail _ (.head _)))) (Mine.fac (.tail _ (.tail _ (.tail _ (.tail _ (.head _))))) (Mine.fac (.tail _ (.tail _ (.tail _ (.tail _ (.tail _ (.head _)))))) (Mine.fac (.tail _ (.tail _ (.tail _ (.tail _ (.tail _ (.tail _ (.tail _ (.tail _ (.head _))))))))) (Mine.fac (.tail _ (.tail _ (.tail _ (.tail _ (.tail _ (.tail _ (.tail _ (.tail _ (.tail _ (.head _)))))))))) (Mine.fac (.tail _ (.tail _ (.tail _ (.tail _ (.tail _ (.tail _ (.tail _ (.tail _ (.tail _ (.tail _ (.head _))))))))))) (Mine.fac (.tail _ (.tail _ (.tail _ (.tail _ (.tail _ (.tail _ (.tail _ (.tail _ (.tail _ (.tail _ (.tail _ (.head _)))))))))))) (Mine.fac (.tail _ (.tail _ (.tail _ (.tail _ (.tail _ (.tail _ (.tail _ (.tail _ (.tail _ (.tail _ (.tail _ (.tail _ (.head _))))))))))))) (Mine.fac (.tail _ (.tail _ (.tail _ (.tail _ (.tail _ (.tail _ (.tail _ (.tail _ (.tail _ (.tail _ (.tail _ (.tail _ (.tail _ (.head _)))))))))))))) (Mine.fac (.tail _ (.tail _ (.tail _ (.tail _ (.tail _ (.tail _ (.tail _ (.tail _ (.tail _ (.tail _ (.tail _ (.tail _ (.tail _ (.tail _ (.head _))))))))))))))) (Mine.fac (.tail _ (.tail _ (.tail _ (.tail _ (.tail _ (.tail _ (.tail _ (.tail _ (.tail _ (.tail _ (.tail _ (.tail _ (.tail _ (.tail _ (.tail _ (.head _)))))))))))))))) (Mine.fac (.head _) (fun p hp => .tail _ (.tail _ (.tail _ (.tail _ (.tail _ (.tail _ (.tail _ (.tail _ (.tail _ (.tail _ (.tail _ (.tail _ (.tail _ (.tail _ (.tail _ (.tail _ (hF' p hp))))))))))))))))))))))))))))))) ?hadd9 ⟨(_, _) :: tn, (Mine.fac (.head _) (fun p hp => .tail _ (hF1 p hp))), ?hd9, (Mine.fac ⟨?n90, ?nnw⟩ hF3), fun p hp => .tail _ (hF4 p hp)⟩ (by ((repeat' (first | exact List.forall_mem_nil _ | refine Mine.fac (by with_unfolding_all rfl) ?_)))) ⟨(hsu.trans hend).symm, hhs', has', hks', hcl9, hcj9⟩)
      case hadd9 =>
        intro q hq
        rw [List.mem_singleton.mp hq]
        exact List.forall_mem_append.mpr ⟨Mine.fac (Mine.ne_lt (Mine.p0 l9)) (Mine.fac (Mine.ne_lt (Mine.p1 l9)) (Mine.fac (Mine.ne_lt (Mine.p2 l9)) (Mine.fac (Mine.ne_lt (Mine.p3 l9)) (Mine.fac (Mine.ne_lt (Mine.p4 l9)) (Mine.fac (Mine.ne_lt (Mine.p7 l9)) (Mine.fac (Mine.ne_lt (Mine.p8 l9)) (Mine.fac (Mine.ne_lt (Mine.p9 l9)) (Mine.fac (Mine.ne_lt (Mine.p10 l9)) (Mine.fac (Mine.ne_lt (Mine.p11 l9)) (Mine.fac (Mine.ne_lt (Mine.p12 l9)) (Mine.fac (Mine.ne_lt (Mine.p13 l9)) (Mine.fac (Mine.ne_lt (Mine.p14 l9)) (List.forall_mem_nil _))))))))))))), fun p hp => o9 p (.tail _ (.tail _ (.tail _ (.tail _ (.tail _ (.tail _ (.tail _ (.tail _ (.tail _ (.tail _ (.tail _ (.tail _ (.tail _ (.tail _ (.tail _ (hF' p hp))))))))))))))))⟩
      case hd9 => exact told_snoc hF2
      case n90 => exact fun e => o9 (90, otab) (.tail _ (.tail _ (.tail _ (.tail _ (.tail _ (.tail _ (.tail _ (.tail _ (.tail _ (.tail _ (.tail _ (.tail _ (.tail _ (.tail _ (.tail _ (hF' _ (List.mem_append_left _ (hF4 _ (.head _))))))))))))))))))) e.symm
      case nnw => exact fun q hq => o9 q (.tail _ (.tail _ (.tail _ (.tail _ (.tail _ (.tail _ (.tail _ (.tail _ (.tail _ (.tail _ (.tail _ (.tail _ (.tail _ (.tail _ (.tail _ (hF' _ (List.mem_append_left _ (hF4 _ (.tail _ hq)))))))))))))))))))
  case done =>
    intro g2 c tl u h tk hG2 ho hF hI F2 N2
    clear F1 N1 B X T hC hG0
    have B := hG2.below
    have X := hXT.1.keeps B.stays
    have T := hXT.2.1.keeps B.stays
    have hC := hXT.2.2.keeps B.stays
    dsimp only [List.nil_append, List.cons_append] at N2
    obtain ⟨st, ks, kvs, nk, tvs, nt, hvs, nh, avs, na, tb⟩ := c
    refine and6 hI fun hst hhs has hks hkl hkj => ?_
    clear hI
    refine Exists.elim hF fun tn hF9 => and4 hF9 fun hF1 hF2 hF3 hF4 => ?_
    clear hF9 hF
    (try dsimp only at hst hhs has hks hkl hkj hF2 F2 N2)
    rw [hlen, List.take_length] at hst
    have hB := stOf_B (refused := refused) hl2 hl3 numbers numbers.length (Nat.le_refl _)
    rw [List.take_length, ← hst] at hB
    obtain ⟨b1, b2, b3, b4⟩ := hB
    unfold telDict at N2
    (repeat' (first | ((fail_if_success (with_reducible show wpAny _ _ (pyIter (Value.ref _)) _ _ _)); (fail_if_success (with_reducible show wpAny _ _ (subscriptTail _ _ (Value.ref _) (Value.int _ _)) _ _ _)); (fail_if_success (with_reducible show wpAny _ _ (compareOp CmpOp.In _ _) _ _ _)); (fail_if_success (with_reducible show wpAny _ _ (exec (Stmt.For _ _ _ _ _) _) _ _ _)); (fail_if_success (with_reducible show wpAny _ _ (exec (Stmt.Raise _ _ _) _) _ _ _)); (fail_if_success (with_reducible show wpAny _ _ (leaving _ _) _ _ _)); (fail_if_success (with_reducible show wpAny _ _ (call (Value.builtin "len") [Value.ref _]) _ _ _)); (fail_if_success (with_reducible show wpAny _ _ (noteFrame _ _) _ _ _)); (fail_if_success (with_reducible show wpAny _ _ (call (Value.type "str") _) _ _ _)); first | ((with_reducible show wpAny _ _ (exec (Stmt.Try _ (_ :: _) _ [] _) _) _ _ _); (refine wpAny_Try_except ?_)) | ((with_reducible show wpAny _ _ (call (Value.builtin "len") [Value.str _ _]) _ _ _); (refine SBL.len (by omega) ?_)) | (k_unfold; (try dsimp only)) | (k_end; wrow_close) | walk1 | (dsimp only; walk1) | (leave1; walk_say "STEP leave1"; try dsimp only) | fail "no step")))
    (rename Fr _ _ _ _ => F3); (rename News _ _ _ _ => N3)
    refine join_listW (News.isList N3 (.tail _ (.tail _ (.tail _ (.head _))))) hks (by decide) (by have := sum_join ks; have b5 := stOf_cuts pieces refused numbers; rw [← hst] at b5; rw [hkj] at this; omega) ?_
    intro tj kj
    rw [show Txt.join (Str.ofString "") ks = Str.join (Str.ofString "") ks from StrLaws.glued_eq_join _ _, hkj]
    (repeat' (first | ((fail_if_success (with_reducible show wpAny _ _ (pyIter (Value.ref _)) _ _ _)); (fail_if_success (with_reducible show wpAny _ _ (subscriptTail _ _ (Value.ref _) (Value.int _ _)) _ _ _)); (fail_if_success (with_reducible show wpAny _ _ (compareOp CmpOp.In _ _) _ _ _)); (fail_if_success (with_reducible show wpAny _ _ (exec (Stmt.For _ _ _ _ _) _) _ _ _)); (fail_if_success (with_reducible show wpAny _ _ (exec (Stmt.Raise _ _ _) _) _ _ _)); (fail_if_success (with_reducible show wpAny _ _ (leaving _ _) _ _ _)); (fail_if_success (with_reducible show wpAny _ _ (call (Value.builtin "len") [Value.ref _]) _ _ _)); (fail_if_success (with_reducible show wpAny _ _ (noteFrame _ _) _ _ _)); (fail_if_success (with_reducible show wpAny _ _ (call (Value.type "str") _) _ _ _)); first | ((with_reducible show wpAny _ _ (exec (Stmt.Try _ (_ :: _) _ [] _) _) _ _ _); (refine wpAny_Try_except ?_)) | ((with_reducible show wpAny _ _ (call (Value.builtin "len") [Value.str _ _]) _ _ _); (refine SBL.len (by omega) ?_)) | (k_unfold; (try dsimp only)) | (k_end; wrow_close) | walk1 | (dsimp only; walk1) | (leave1; walk_say "STEP leave1"; try dsimp only) | fail "no step")))
    (rename Fr _ _ _ _ => FE); (rename News _ _ _ _ => NE); (rename @LT.lt Nat instLTNat la _ ∧ _ => l9)
    have o9 := ltOff (l := (la, default) :: (lh, default) :: (lt, default) :: (lk, default) :: (bd, default) :: (bk, default) :: (dw, default) :: (fL, default) :: (fT, default) :: (cT, default) :: (L' + 1 + 1 + 1, default) :: (L' + 1 + 1, default) :: (L' + 1, default) :: tl) l9
    have hne90 : ∀ b ∈ [la, lh, lt, lk, bd, bk, dw, fL, fT, cT, L' + 1 + 1 + 1, L' + 1 + 1, L' + 1], b ≠ 90 := fun b hb e => by
      have := (hadr b hb).1
      rw [e] at this
      exact absurd lc' (Nat.lt_asymm this)
    refine hQF _ _ ?_
    rw [← hst]
    obtain ⟨qz, hqz⟩ : ∃ q, tabObj q = otab := ⟨_, hot⟩
    refine ⟨g2, _, _, _, qz, (_, _) :: (la, _) :: (lh, _) :: (lt, _) :: tn, _, hG2, rfl, FE, NE, (by rw [hqz]; exact .tail _ (.tail _ (.tail _ (.tail _ (.tail _ (.tail _ (.tail _ (.tail _ (.tail _ (.tail _ (.tail _ (.tail _ (.tail _ (.tail _ (hF4 _ (.head _)))))))))))))))), (fun p hp => .tail _ (.tail _ (.tail _ (.tail _ (.tail _ (.tail _ (.tail _ (.tail _ (.tail _ (.tail _ (.tail _ (.tail _ (.tail _ (.tail _ (hF4 p (.tail _ hp)))))))))))))))), (Mine.fac (.head _) (Mine.fac (.tail _ (.head _)) (Mine.fac (.tail _ (.tail _ (.head _))) (Mine.fac (.tail _ (.tail _ (.tail _ (.head _)))) (fun p hp => .tail _ (.tail _ (.tail _ (.tail _ (.tail _ (.tail _ (.tail _ (.tail _ (.tail _ (.tail _ (.tail _ (.tail _ (.tail _ (.tail _ (hF1 p hp))))))))))))))))))), ?dj, ?d90, ?dat⟩
    case dj =>
      intro q hq
      exact Mine.fac (o9 q (.tail _ (.tail _ (.tail _ (.tail _ (.tail _ (.tail _ (.tail _ (.tail _ (.tail _ (.tail _ (.tail _ (.tail _ (.tail _ (hF4 _ (.tail _ hq)))))))))))))))) (Mine.fac (offn q hq la (by simp)) (Mine.fac (offn q hq lh (by simp)) (Mine.fac (offn q hq lt (by simp)) (fun p hp => (hF3 p hp).2 q hq))))
    case d90 => exact Mine.fac (fun e => o9 (90, otab) (.tail _ (.tail _ (.tail _ (.tail _ (.tail _ (.tail _ (.tail _ (.tail _ (.tail _ (.tail _ (.tail _ (.tail _ (.tail _ (hF4 _ (.head _))))))))))))))) e.symm) (Mine.fac (hne90 la (by simp)) (Mine.fac (hne90 lh (by simp)) (Mine.fac (hne90 lt (by simp)) (fun p hp => (hF3 p hp).1))))
    case dat => exact .tuple (vs := [_, _, _, _, _]) (.head _) (.cons (.str _ _) (.cons (.list (.tail _ (.tail _ (.tail _ (.head _)))) (hF2.mono fun p hp => .tail _ (.tail _ (.tail _ (.tail _ hp))))) (.cons (.int _ _) (.cons (.list (.tail _ (.tail _ (.head _))) (strsDat hhs)) (.cons (.list (.tail _ (.head _)) (datLift has)) .nil)))))
end Mine
end
section
open PySem PySem.W PyProof.Rows PySem.Spec PySem.Calls
namespace Mine
open PySem.Builtin PySem.Builtin.Str PySem.StrLaws
/-- w stands in y at place p -/
noncomputable def Oc (y w : List Nat) (p : Nat) : Prop := (y.drop p).take w.length = w
theorem oc_nil (y : List Nat) (p : Nat) : Oc y [] p := rfl
theorem oc_app {y a b : List Nat} {p : Nat} : Oc y (a ++ b) p ↔ Oc y a p ∧ Oc y b (p + a.length) := by
  unfold Oc
  rw [List.length_append, List.take_add, List.drop_drop]
  constructor
  · intro h
    have hl : ((y.drop p).take a.length).length = a.length ∨ b = [] ∧ True ∨ ((y.drop p).take a.length).length < a.length := by
      have : ((y.drop p).take a.length).length ≤ a.length := by simp; omega
      omega
    by_cases hlen : ((y.drop p).take a.length).length = a.length
    · exact List.append_inj h hlen
    · exfalso
      have h1 := congrArg List.length h
      simp only [List.length_append, List.length_take, List.length_drop] at h1 hlen
      omega
  · rintro ⟨h1, h2⟩
    rw [h1, h2]
theorem oc_len {y w : List Nat} {p : Nat} (h : Oc y w p) (hw : w ≠ []) : p + w.length ≤ y.length := by
  have h1 := congrArg List.length h
  simp only [List.length_take, List.length_drop] at h1
  have : 0 < w.length := List.length_pos_iff.mpr hw
  omega
theorem oc_get {y w : List Nat} {p : Nat} (h : Oc y w p) {j : Nat} (hj : j < w.length) : y[p + j]? = w[j]? := by
  have h1 : ((y.drop p).take w.length)[j]? = w[j]? := by rw [h]
  rw [List.getElem?_take_of_lt hj, List.getElem?_drop] at h1
  exact h1
theorem oc_cons {y w : List Nat} {c p : Nat} : Oc (c :: y) w (p + 1) ↔ Oc y w p := by
  unfold Oc
  rw [List.drop_succ_cons]
theorem at_iff {x y : Str} {hi i : Nat} : At x y hi i ↔ i + y.length ≤ hi ∧ Oc x.cps.toList y.cps.toList i := by
  unfold At Oc
  rw [subAt_eq, beq_iff_eq]
  have : y.cps.toList.length = y.length := by simp [Str.length]
  rw [this]
/-- the chunks in their order between p and e, apart -/
noncomputable def Chain (y : List Nat) : List (List Nat) → Nat → Nat → Prop
  | [], p, e => p ≤ e
  | w :: r, p, e => ∃ q, p ≤ q ∧ Oc y w q ∧ Chain y r (q + w.length) e
theorem chain_le {y : List Nat} : ∀ {ws : List (List Nat)} {p e : Nat}, Chain y ws p e → p ≤ e
  | [], _, _, h => h
  | _ :: _, _, _, ⟨_, h1, _, h3⟩ => by
    have := chain_le h3
    omega
theorem chain_mono {y : List Nat} {ws : List (List Nat)} {p p' e : Nat} (hp : p' ≤ p) (h : Chain y ws p e) : Chain y ws p' e := by
  cases ws with
  | nil => exact Nat.le_trans hp h
  | cons w r =>
    obtain ⟨q, h1, h2, h3⟩ := h
    exact ⟨q, by omega, h2, h3⟩
theorem chain_nil_head {y : List Nat} {ws : List (List Nat)} {p e : Nat} : Chain y ([] :: ws) p e ↔ Chain y ws p e := by
  constructor
  · rintro ⟨q, h1, _, h3⟩
    exact chain_mono h1 h3
  · intro h
    exact ⟨p, Nat.le_refl _, oc_nil _ _, h⟩
theorem chain_nil_last {y : List Nat} : ∀ {ws : List (List Nat)} {p e : Nat}, Chain y (ws ++ [[]]) p e ↔ Chain y ws p e
  | [], _, _ => chain_nil_head
  | w :: r, p, e => by
    show (∃ q, p ≤ q ∧ Oc y w q ∧ Chain y (r ++ [[]]) (q + w.length) e) ↔ ∃ q, p ≤ q ∧ Oc y w q ∧ Chain y r (q + w.length) e
    simp only [chain_nil_last]
/-- the chunks fill p to e, the first at p, the last up to e -/
noncomputable def Gl (y : List Nat) : List (List Nat) → Nat → Nat → Prop
  | [], _, _ => False
  | [w], p, e => Oc y w p ∧ p + w.length = e
  | w :: v :: r, p, e => Oc y w p ∧ ∃ q, p + w.length ≤ q ∧ Gl y (v :: r) q e
theorem gl_cons {y : List Nat} {w : List Nat} {r : List (List Nat)} (hr : r ≠ []) {p e : Nat} : Gl y (w :: r) p e ↔ Oc y w p ∧ ∃ q, p + w.length ≤ q ∧ Gl y r q e := by
  cases r with
  | nil => exact absurd rfl hr
  | cons _ _ => exact Iff.rfl
theorem gl_mid {y v : List Nat} : ∀ {mid : List (List Nat)} {p e : Nat}, (∃ q, p ≤ q ∧ Gl y (mid ++ [v]) q e) ↔ v.length ≤ e ∧ Oc y v (e - v.length) ∧ Chain y mid p (e - v.length)
  | [], p, e => by
    show (∃ q, p ≤ q ∧ Oc y v q ∧ q + v.length = e) ↔ v.length ≤ e ∧ Oc y v (e - v.length) ∧ p ≤ e - v.length
    constructor
    · rintro ⟨q, h1, h2, h3⟩
      have : e - v.length = q := by omega
      rw [this]
      exact ⟨by omega, h2, h1⟩
    · rintro ⟨h1, h2, h3⟩
      exact ⟨_, h3, h2, by omega⟩
  | w :: r, p, e => by
    have e1 : ∀ q, Gl y (w :: r ++ [v]) q e ↔ Oc y w q ∧ v.length ≤ e ∧ Oc y v (e - v.length) ∧ Chain y r (q + w.length) (e - v.length) := fun q => by
      rw [List.cons_append, gl_cons (by simp), gl_mid]
    simp only [e1, Chain]
    constructor
    · rintro ⟨q, h1, h2, h3, h4, h5⟩
      exact ⟨h3, h4, q, h1, h2, h5⟩
    · rintro ⟨h3, h4, q, h1, h2, h5⟩
      exact ⟨q, h1, h2, h3, h4, h5⟩
theorem gl_ends {y w v : List Nat} {mid : List (List Nat)} {e : Nat} : Gl y (w :: (mid ++ [v])) 0 e ↔ Oc y w 0 ∧ v.length ≤ e ∧ Oc y v (e - v.length) ∧ Chain y mid w.length (e - v.length) := by
  rw [gl_cons (by simp), gl_mid, Nat.zero_add]
/-- the search -/
theorem find4_spec (x y : Str) (p e : Nat) (hp : p ≤ e) (he : e ≤ x.length) :
    (find4 x y p e = -1 ∧ ∀ i, p ≤ i → ¬ At x y e i) ∨ ∃ i : Nat, find4 x y p e = i ∧ p ≤ i ∧ At x y e i ∧ ∀ k, p ≤ k → k < i → ¬ At x y e k := by
  unfold find4
  have e1 : fromIndex x.length (p : Int) = p := by unfold fromIndex; rw [if_neg (by omega)]; omega
  have e2 : min x.length (fromIndex x.length (e : Int)) = e := by
    have : fromIndex x.length (e : Int) = e := by unfold fromIndex; rw [if_neg (by omega)]; omega
    rw [this]; omega
  rw [e1, e2, occ_eq]
  rcases occ_first x y e 1 (Nat.le_refl _) (List.range' p (e + 1 - p)) p (fun i hi => by have := List.mem_range'_1.mp hi; omega) with ⟨h0, hn⟩ | ⟨pre, a, post, eq, h0, ha, hn⟩
  · refine .inl ⟨by rw [h0], fun i hlo hi => ?_⟩
    exact hn i (by have := hi.1; rw [List.mem_range'_1]; omega) hi
  · have hs := range'_split_from eq
    refine .inr ⟨a, ?_, hs.1, ha, fun k hk0 hk => hn k (hs.2 k hk0 hk)⟩
    generalize (forIn (List.range' p (e + 1 - p)) ((#[] : Array Nat), p) (occBody x y e 1)).run.fst = arr at h0
    have h1 : arr.toList[0]? = some a := by simpa using h0
    cases hL : arr.toList with
    | nil => rw [hL] at h1; cases h1
    | cons b t => rw [hL] at h1; simp at h1; rw [h1]
abbrev sL (x : Str) : List Nat := x.cps.toList
theorem sL_len (x : Str) : (sL x).length = x.length := by simp [sL, Str.length]
theorem eFind_iff (y : Str) (e : Nat) (he : e ≤ y.length) : ∀ (ws : List Str) (p : Nat), p ≤ e → (eFind y e ws p = true ↔ Chain (sL y) (ws.map sL) p e)
  | [], p, hp => by simp [eFind, Chain, hp]
  | w :: r, p, hp => by
    rw [eFind]
    rcases find4_spec y w p e hp he with ⟨h1, h2⟩ | ⟨i, h1, h2, h3, h4⟩
    · rw [h1]
      simp only [show ((-1 : Int) < 0) = True by simp, if_true]
      constructor
      · intro h; cases h
      · rintro ⟨q, q1, q2, q3⟩
        refine absurd (at_iff.mpr ⟨?_, q2⟩) (h2 q q1)
        have := chain_le q3
        rw [sL_len] at this
        exact this
    · rw [h1]
      have hi := at_iff.mp h3
      have : ¬ ((i : Int) < 0) := by omega
      rw [if_neg this]
      have e1 : ((i : Int) + w.length) = ((i + w.length : Nat) : Int) := by omega
      rw [e1, eFind_iff y e he r (i + w.length) hi.1]
      constructor
      · intro h
        exact ⟨i, h2, hi.2, by rw [sL_len]; exact h⟩
      · rintro ⟨q, q1, q2, q3⟩
        have hq : At y w e q := at_iff.mpr ⟨by have := chain_le q3; rw [sL_len] at this; exact this, q2⟩
        have : i ≤ q := by
          rcases Nat.lt_or_ge q i with h | h
          · exact absurd hq (h4 q q1 h)
          · exact h
        rw [sL_len] at q3
        exact chain_mono (by omega) q3
theorem starts_iff (y w : Str) : Txt.startswith y w = true ↔ Oc (sL y) (sL w) 0 := by
  unfold Txt.startswith
  rw [Bool.and_eq_true, decide_eq_true_eq]
  show At y w y.length 0 ↔ _
  rw [at_iff]
  constructor
  · exact fun h => h.2
  · intro h
    refine ⟨?_, h⟩
    by_cases hw : sL w = []
    · have := sL_len w
      rw [hw] at this
      simp at this
      omega
    · have := oc_len h hw
      rw [sL_len, sL_len] at this
      exact this
theorem ends_iff (y w : Str) : Txt.endswith y w = true ↔ w.length ≤ y.length ∧ Oc (sL y) (sL w) (y.length - w.length) := by
  unfold Txt.endswith
  rw [Bool.and_eq_true, decide_eq_true_eq, Nat.zero_add]
  have := @at_iff y w y.length (y.length - w.length)
  unfold At at this
  constructor
  · rintro ⟨h1, h2⟩
    exact ⟨h1, (this.mp ⟨by omega, h2⟩).2⟩
  · rintro ⟨h1, h2⟩
    exact ⟨h1, (this.mpr ⟨by omega, h2⟩).2⟩
theorem len0 {w : Str} : w.length = 0 ↔ sL w = [] := by
  rw [← sL_len, List.length_eq_zero_iff]
theorem run_iff (y : Str) (ws : List Str) (p e : Nat) (he : e ≤ y.length) : (if (p : Int) > (e : Int) then false else eFind y (e : Int) ws (p : Int)) = true ↔ Chain (sL y) (ws.map sL) p e := by
  by_cases hpe : p ≤ e
  · rw [if_neg (by omega), eFind_iff y _ he ws p hpe]
  · rw [if_pos (by omega)]
    constructor
    · intro h; cases h
    · intro h
      exact absurd (chain_le h) hpe
theorem stB_iff (y v : Str) (ws : List Str) (p : Nat) :
    (match stB y (ws ++ [v]) with
      | none => false
      | some (e, ws) => if (p : Int) > e then false else eFind y e ws (p : Int)) = true ↔ v.length ≤ y.length ∧ Oc (sL y) (sL v) (y.length - v.length) ∧ Chain (sL y) (ws.map sL) p (y.length - v.length) := by
  unfold stB
  rw [List.getLastD_concat]
  by_cases hv : v.length = 0
  · rw [if_pos hv, hv, Nat.sub_zero, len0.mp hv]
    show (if (p : Int) > (y.length : Int) then false else eFind y (y.length : Int) (ws ++ [v]) (p : Int)) = true ↔ _
    rw [run_iff y _ p _ (Nat.le_refl _), List.map_append, List.map_cons, List.map_nil, len0.mp hv, chain_nil_last]
    exact ⟨fun h => ⟨Nat.zero_le _, oc_nil _ _, h⟩, fun h => h.2.2⟩
  · rw [if_neg hv]
    cases he : Txt.endswith y v with
    | false =>
      simp only [Bool.false_eq_true, if_false, false_iff]
      rintro ⟨h1, h2, _⟩
      have := (ends_iff y v).mpr ⟨h1, h2⟩
      rw [he] at this
      cases this
    | true =>
      obtain ⟨h1, h2⟩ := (ends_iff y v).mp he
      simp only [if_true, List.dropLast_concat]
      have e1 : ((y.length : Int) - (v.length : Int)) = ((y.length - v.length : Nat) : Int) := by omega
      rw [e1, run_iff y _ p _ (by omega)]
      exact ⟨fun h => ⟨h1, h2, h⟩, fun h => h.2.2⟩
/-- the whole of the matching behind the split -/
theorem tail_iff (y : Str) (w v : Str) (mid : List Str) :
    (match stA y (w :: (mid ++ [v])) with
    | none => false
    | some (p, ws) => match stB y ws with
      | none => false
      | some (e, ws) => if p > e then false else eFind y e ws p) = true ↔ Gl (sL y) (sL w :: (mid.map sL ++ [sL v])) 0 y.length := by
  rw [gl_ends]
  unfold stA
  rw [List.headD_cons, sL_len, sL_len]
  by_cases hw : w.length = 0
  · rw [if_pos hw, hw, len0.mp hw]
    have := stB_iff y v (w :: mid) 0
    rw [List.map_cons, len0.mp hw, chain_nil_head, List.cons_append] at this
    refine Iff.trans this ?_
    exact ⟨fun h => ⟨oc_nil _ _, h⟩, fun h => h.2⟩
  · rw [if_neg hw]
    cases he : Txt.startswith y w with
    | false =>
      simp only [Bool.false_eq_true, if_false, false_iff]
      rintro ⟨h1, _⟩
      have := (starts_iff y w).mpr h1
      rw [he] at this
      cases this
    | true =>
      have h1 := (starts_iff y w).mp he
      simp only [if_true, List.tail_cons]
      refine Iff.trans (stB_iff y v mid w.length) ?_
      exact ⟨fun h => ⟨h1, h⟩, fun h => h.2⟩
/-- the split: chunks with the dots between them -/
noncomputable def dots3 : List Nat := [46, 46, 46]
theorem dots_sL : sL (Str.ofString "...") = dots3 := by decide +kernel
noncomputable def glue : List (List Nat) → List Nat
  | [] => []
  | [w] => w
  | w :: v :: r => w ++ (dots3 ++ glue (v :: r))
/-- no dots begin inside a chunk -/
noncomputable def NiceL (w : List Nat) : Prop := ∀ j, ¬ Oc w dots3 j
noncomputable def NiceM (w : List Nat) : Prop := ∀ j, j < w.length → ¬ Oc (w ++ dots3) dots3 j
noncomputable def NiceC : List (List Nat) → Prop
  | [] => False
  | [w] => NiceL w
  | w :: v :: r => NiceM w ∧ NiceC (v :: r)
theorem drop_app {x a b : List Nat} {k : Nat} (h : x.drop k = a ++ b) : x.drop (k + a.length) = b := by
  rw [← List.drop_drop, h, List.drop_left]
theorem oc_drop {x w : List Nat} {k j : Nat} : Oc (x.drop k) w j ↔ Oc x w (k + j) := by
  unfold Oc
  rw [List.drop_drop]
theorem oc_pre {a b w : List Nat} {j : Nat} (h : j + w.length ≤ a.length) : Oc (a ++ b) w j ↔ Oc a w j := by
  unfold Oc
  rw [List.drop_append_of_le_length (by omega), List.take_append_of_le_length (by simp; omega)]
theorem strSub_sL (x : Str) (a b : Nat) : sL (strSub x a b) = ((sL x).drop a).take (b - a) := strSub_toList ..
theorem split_cuts (x : Str) : ∀ (cs : List (List Nat)) (cuts : List Nat) (a f : Nat), NiceC cs → a ≤ x.length → (sL x).drop a = glue cs → ChainG x (Str.ofString "...") x.length a cuts f → (∀ k, f ≤ k → ¬ At x (Str.ofString "...") x.length k) → (partsFrom x 3 a cuts).map sL = cs
  | [], _, _, _, h, _, _, _, _ => h.elim
  | [w], cuts, a, f, hn, ha, hx, hc, hno => by
    have hx : (sL x).drop a = w := hx
    have hn : NiceL w := hn
    cases cuts with
    | nil =>
      show [sL (strSub x a x.length)] = [w]
      rw [strSub_sL, ← hx, List.take_of_length_le (by rw [List.length_drop, sL_len]; omega)]
    | cons c r =>
      exfalso
      have h1 := (at_iff.mp hc.2.1).2
      have h2 : c = a + (c - a) := by have := hc.1; omega
      rw [h2] at h1
      rw [← hx] at hn
      refine hn (c - a) (oc_drop.mpr ?_)
      rw [← dots_sL]
      exact h1
  | w :: v :: r, cuts, a, f, hn, ha, hx, hc, hno => by
    have hx : (sL x).drop a = w ++ (dots3 ++ glue (v :: r)) := hx
    obtain ⟨hn1, hn2⟩ : NiceM w ∧ NiceC (v :: r) := hn
    have hlen := congrArg List.length hx
    rw [List.length_drop, sL_len, List.length_append, List.length_append] at hlen
    have hd3 : dots3.length = 3 := rfl
    have hat : At x (Str.ofString "...") x.length (a + w.length) := by
      refine at_iff.mpr ⟨by rw [dots_len]; omega, ?_⟩
      show Oc (sL x) (sL (Str.ofString "...")) _
      rw [dots_sL]
      unfold Oc
      rw [drop_app hx]
      rfl
    cases cuts with
    | nil =>
      have e : f = a := hc
      exact absurd hat (hno _ (by omega))
    | cons c cs =>
      obtain ⟨h1, h2, h3, h4⟩ := hc
      have hle : c ≤ a + w.length := by
        rcases Nat.lt_or_ge (a + w.length) c with h | h
        · exact absurd hat (h3 _ (by omega) h)
        · exact h
      have hge : a + w.length ≤ c := by
        rcases Nat.lt_or_ge c (a + w.length) with h | h
        · exfalso
          have h5 := (at_iff.mp h2).2
          have e : c = a + (c - a) := by omega
          rw [e] at h5
          replace h5 : Oc (sL x) (sL (Str.ofString "...")) (a + (c - a)) := h5
          rw [dots_sL, ← oc_drop, hx, ← List.append_assoc, oc_pre (by rw [List.length_append]; omega)] at h5
          exact hn1 (c - a) (by omega) h5
        · exact h
      have ec : c = a + w.length := by omega
      subst ec
      show sL (strSub x a (a + w.length)) :: (partsFrom x 3 (a + w.length + 3) cs).map sL = _
      rw [dots_len] at h4
      rw [split_cuts x (v :: r) cs (a + w.length + 3) f hn2 (by omega) (by rw [show a + w.length + 3 = (a + w.length) + dots3.length from rfl]; exact drop_app (drop_app hx)) h4 hno, strSub_sL, hx]
      congr 1
      rw [Nat.add_sub_cancel_left, List.take_left]
theorem ematch_gl {x y : Str} {cs : List (List Nat)} (hn : NiceC cs) (hx : sL x = glue cs) : ematch x y = true ↔ Gl (sL y) cs 0 y.length := by
  unfold ematch
  match cs, hn, hx with
  | [w], hn, hx =>
    have hx : sL x = w := hx
    have hno : (occurrences x (Str.ofString "...") 0 x.length 1).isEmpty = true := by
      cases h : (occurrences x (Str.ofString "...") 0 x.length 1).isEmpty with
      | true => rfl
      | false =>
        obtain ⟨i, hi⟩ := occ_at h
        have h1 : Oc (sL x) (sL (Str.ofString "...")) i := (at_iff.mp hi).2
        rw [dots_sL, hx] at h1
        exact absurd h1 (hn i)
    rw [if_pos hno]
    show (x == y) = true ↔ Oc (sL y) w 0 ∧ 0 + w.length = y.length
    rw [beq_iff_eq, ← hx, sL_len, Nat.zero_add]
    constructor
    · rintro rfl
      refine ⟨?_, rfl⟩
      unfold Oc
      rw [List.drop_zero, List.take_length]
    · rintro ⟨h1, h2⟩
      unfold Oc at h1
      rw [List.drop_zero, sL_len, h2, ← sL_len, List.take_length] at h1
      exact Str.ext' (Array.toList_inj.mp h1.symm)
  | w :: v :: r, hn, hx =>
    have hlen := congrArg List.length hx
    have hx' : sL x = w ++ (dots3 ++ glue (v :: r)) := hx
    have hd3 : dots3.length = 3 := rfl
    have hl2 := congrArg List.length hx'
    rw [sL_len, List.length_append, List.length_append] at hl2
    have hat : At x (Str.ofString "...") x.length w.length := by
      refine at_iff.mpr ⟨by rw [dots_len]; omega, ?_⟩
      show Oc (sL x) (sL (Str.ofString "...")) _
      rw [dots_sL]
      unfold Oc
      have h0 : (sL x).drop 0 = w ++ (dots3 ++ glue (v :: r)) := by rw [List.drop_zero]; exact hx'
      have := drop_app h0
      rw [Nat.zero_add] at this
      rw [this]
      rfl
    have hyes : (occurrences x (Str.ofString "...") 0 x.length 1).isEmpty = false := by
      have := (found_iff x (Str.ofString "...")).mpr ⟨_, hat⟩
      simpa using this
    rw [if_neg (by rw [hyes]; exact Bool.false_ne_true)]
    obtain ⟨cuts, f, _, hc, hno, hs⟩ := split_at hat
    have h1 := split_cuts x (w :: v :: r) cuts 0 f hn (Nat.zero_le _) (by rw [List.drop_zero]; exact hx) hc hno
    rw [← hs] at h1
    generalize Txt.split x (Str.ofString "...") = parts at h1 ⊢
    cases parts with
    | nil => cases h1
    | cons p0 ps =>
      obtain ⟨e1, e2⟩ := List.cons.inj h1
      have hps : ps ≠ [] := by rintro rfl; cases e2
      obtain ⟨mid, v', rfl⟩ : ∃ mid v', ps = mid ++ [v'] := ⟨ps.dropLast, ps.getLast hps, (List.dropLast_concat_getLast hps).symm⟩
      rw [← h1]
      refine Iff.trans (tail_iff y p0 v' mid) ?_
      rw [List.map_cons, List.map_append]
      rfl
end Mine
end
section
open PySem PySem.W PyProof.Rows PySem.Spec PySem.Calls
set_option genInjectivity false
set_option genSizeOf false
namespace Mine
inductive Tk where
  | lit (w : List Nat)
  | star
noncomputable def Run (y : List Nat) : List Tk → Nat → Nat → Prop
  | [], p, e => p = e
  | .lit w :: r, p, e => Oc y w p ∧ Run y r (p + w.length) e
  | .star :: r, p, e => ∃ q, p ≤ q ∧ Run y r q e
noncomputable def chunks : List Tk → List (List Nat)
  | [] => [[]]
  | .lit w :: r => (w ++ (chunks r).headD []) :: (chunks r).tail
  | .star :: r => [] :: chunks r
noncomputable def render : List Tk → List Nat
  | [] => []
  | .lit w :: r => w ++ render r
  | .star :: r => dots3 ++ render r
theorem chunks_ne : ∀ t : List Tk, ∃ c cs, chunks t = c :: cs
  | [] => ⟨_, _, rfl⟩
  | .lit _ :: _ => ⟨_, _, rfl⟩
  | .star :: _ => ⟨_, _, rfl⟩
theorem glue_app (w c : List Nat) (cs : List (List Nat)) : glue ((w ++ c) :: cs) = w ++ glue (c :: cs) := by
  cases cs with
  | nil => rfl
  | cons v r => exact List.append_assoc ..
theorem glue_chunks : ∀ t : List Tk, glue (chunks t) = render t
  | [] => rfl
  | .lit w :: r => by
    obtain ⟨c, cs, e⟩ := chunks_ne r
    have ih := glue_chunks r
    show glue ((w ++ (chunks r).headD []) :: (chunks r).tail) = w ++ render r
    rw [e] at ih ⊢
    rw [← ih]
    exact glue_app w c cs
  | .star :: r => by
    obtain ⟨c, cs, e⟩ := chunks_ne r
    have ih := glue_chunks r
    show glue ([] :: chunks r) = dots3 ++ render r
    rw [e] at ih ⊢
    rw [← ih]
    rfl
theorem gl_app {y w c : List Nat} {cs : List (List Nat)} {p e : Nat} : Gl y ((w ++ c) :: cs) p e ↔ Oc y w p ∧ Gl y (c :: cs) (p + w.length) e := by
  cases cs with
  | nil =>
    show Oc y (w ++ c) p ∧ p + (w ++ c).length = e ↔ Oc y w p ∧ Oc y c (p + w.length) ∧ p + w.length + c.length = e
    rw [oc_app, List.length_append, and_assoc, Nat.add_assoc]
  | cons v r =>
    show Oc y (w ++ c) p ∧ (∃ q, p + (w ++ c).length ≤ q ∧ Gl y (v :: r) q e) ↔ Oc y w p ∧ Oc y c (p + w.length) ∧ ∃ q, p + w.length + c.length ≤ q ∧ Gl y (v :: r) q e
    rw [oc_app, List.length_append, and_assoc, Nat.add_assoc]
theorem gl_run (y : List Nat) : ∀ (t : List Tk) (p e : Nat), Gl y (chunks t) p e ↔ Run y t p e
  | [], p, e => by
    show Oc y [] p ∧ p + 0 = e ↔ p = e
    exact ⟨fun h => h.2, fun h => ⟨oc_nil _ _, h⟩⟩
  | .lit w :: r, p, e => by
    obtain ⟨c, cs, ec⟩ := chunks_ne r
    have ih := gl_run y r (p + w.length) e
    show Gl y ((w ++ (chunks r).headD []) :: (chunks r).tail) p e ↔ Oc y w p ∧ Run y r (p + w.length) e
    rw [← ih, ec]
    exact gl_app
  | .star :: r, p, e => by
    obtain ⟨c, cs, ec⟩ := chunks_ne r
    show Gl y ([] :: chunks r) p e ↔ ∃ q, p ≤ q ∧ Run y r q e
    rw [gl_cons (by rw [ec]; simp)]
    simp only [gl_run y r]
    exact ⟨fun h => h.2, fun h => ⟨oc_nil _ _, h⟩⟩
theorem run_app {y : List Nat} : ∀ {a b : List Tk} {p e : Nat}, Run y (a ++ b) p e ↔ ∃ m, Run y a p m ∧ Run y b m e
  | [], b, p, e => by
    show Run y b p e ↔ ∃ m, p = m ∧ Run y b m e
    simp
  | .lit w :: r, b, p, e => by
    show (Oc y w p ∧ Run y (r ++ b) (p + w.length) e) ↔ ∃ m, (Oc y w p ∧ Run y r (p + w.length) m) ∧ Run y b m e
    rw [run_app]
    constructor
    · rintro ⟨h1, m, h2, h3⟩; exact ⟨m, ⟨h1, h2⟩, h3⟩
    · rintro ⟨m, ⟨h1, h2⟩, h3⟩; exact ⟨h1, m, h2, h3⟩
  | .star :: r, b, p, e => by
    show (∃ q, p ≤ q ∧ Run y (r ++ b) q e) ↔ ∃ m, (∃ q, p ≤ q ∧ Run y r q m) ∧ Run y b m e
    simp only [run_app]
    constructor
    · rintro ⟨q, h1, m, h2, h3⟩; exact ⟨m, ⟨q, h1, h2⟩, h3⟩
    · rintro ⟨m, ⟨q, h1, h2⟩, h3⟩; exact ⟨q, h1, m, h2, h3⟩
theorem run_shift {y : List Nat} {c : Nat} : ∀ {t : List Tk} {p e : Nat}, Run (c :: y) t (p + 1) (e + 1) ↔ Run y t p e
  | [], p, e => by
    show p + 1 = e + 1 ↔ p = e
    omega
  | .lit w :: r, p, e => by
    show (Oc (c :: y) w (p + 1) ∧ Run (c :: y) r (p + 1 + w.length) (e + 1)) ↔ Oc y w p ∧ Run y r (p + w.length) e
    rw [oc_cons, show p + 1 + w.length = (p + w.length) + 1 by omega, run_shift]
  | .star :: r, p, e => by
    show (∃ q, p + 1 ≤ q ∧ Run (c :: y) r q (e + 1)) ↔ ∃ q, p ≤ q ∧ Run y r q e
    constructor
    · rintro ⟨q, h1, h2⟩
      obtain ⟨q, rfl⟩ : ∃ k, q = k + 1 := ⟨q - 1, by omega⟩
      exact ⟨q, by omega, run_shift.mp h2⟩
    · rintro ⟨q, h1, h2⟩
      exact ⟨q + 1, by omega, run_shift.mpr h2⟩
/-- no dot inside -/
noncomputable def NoDot (w : List Nat) : Prop := 46 ∉ w
theorem oc_dots {x : List Nat} {j : Nat} (h : Oc x dots3 j) : x[j]? = some 46 ∧ x[j + 1]? = some 46 := ⟨oc_get h (j := 0) (by decide), oc_get h (j := 1) (by decide)⟩
theorem niceL {w : List Nat} (h : NoDot w) : NiceL w := fun _ ho => h (List.mem_of_getElem? (oc_dots ho).1)
theorem niceM {w : List Nat} (h : NoDot w) : NiceM w := fun j hj ho => by
  have h1 := (oc_dots ho).1
  rw [List.getElem?_append_left hj] at h1
  exact h (List.mem_of_getElem? h1)
theorem niceL_dot {w : List Nat} (h : NoDot w) : NiceL (46 :: w) := fun j ho => by
  have h1 := (oc_dots ho).2
  rw [List.getElem?_cons_succ] at h1
  exact h (List.mem_of_getElem? h1)
theorem niceM_dot {w : List Nat} (h : NoDot w) (hne : w ≠ []) : NiceM (46 :: w) := fun j hj ho => by
  have h1 := (oc_dots ho).2
  have h0 := (oc_dots ho).1
  rw [List.cons_append, List.getElem?_cons_succ] at h1
  rw [List.length_cons] at hj
  rcases Nat.lt_or_ge j w.length with hl | hl
  · rw [List.getElem?_append_left hl] at h1
    exact h (List.mem_of_getElem? h1)
  · have hp : 0 < w.length := List.length_pos_iff.mpr hne
    obtain ⟨i, rfl⟩ : ∃ k, j = k + 1 := ⟨j - 1, by omega⟩
    rw [List.cons_append, List.getElem?_cons_succ, List.getElem?_append_left (by omega)] at h0
    exact h (List.mem_of_getElem? h0)
theorem niceC : ∀ {cs : List (List Nat)}, cs ≠ [] → (∀ w ∈ cs, NoDot w) → NiceC cs
  | [], h, _ => absurd rfl h
  | [w], _, h => niceL (h w (.head _))
  | w :: v :: r, _, h => ⟨niceM (h w (.head _)), niceC (by simp) fun u hu => h u (.tail _ hu)⟩
noncomputable def Clean (t : List Tk) : Prop := ∀ w, Tk.lit w ∈ t → NoDot w
theorem chunks_clean : ∀ {t : List Tk}, Clean t → ∀ w ∈ chunks t, NoDot w
  | [], _, w, hw => by
    rw [List.mem_singleton.mp hw]
    exact fun h => nomatch h
  | .lit v :: r, h, w, hw => by
    obtain ⟨c, cs, ec⟩ := chunks_ne r
    have ih := chunks_clean (t := r) fun u hu => h u (.tail _ hu)
    have hw : w ∈ (v ++ (chunks r).headD []) :: (chunks r).tail := hw
    rw [ec] at hw ih
    rcases List.mem_cons.mp hw with rfl | hm
    · intro hx
      rcases List.mem_append.mp hx with hx | hx
      · exact h v (.head _) hx
      · exact ih c (.head _) hx
    · exact ih w (.tail _ hm)
  | .star :: r, h, w, hw => by
    have ih := chunks_clean (t := r) fun u hu => h u (.tail _ hu)
    rcases List.mem_cons.mp (show w ∈ [] :: chunks r from hw) with rfl | hm
    · exact fun h => nomatch h
    · exact ih w hm
theorem ematch_run {x y : Str} {t : List Tk} (ht : Clean t) (hx : sL x = render t) : ematch x y = true ↔ Run (sL y) t 0 y.length := by
  obtain ⟨c, cs, ec⟩ := chunks_ne t
  rw [ematch_gl (niceC (by rw [ec]; simp) (chunks_clean ht)) (by rw [hx, glue_chunks]), gl_run]
/-- the second pattern: four dots ahead -/
theorem ematch_dot {x y y' : Str} {t : List Tk} (ht : Clean t) (hst : ∀ r, t ≠ .star :: r) (hne : ∀ w, Tk.lit w ∈ t → w ≠ []) (hx : sL x = dots3 ++ (46 :: render t)) (hy : sL y = 46 :: sL y') (hn : NoDot (sL y')) : ematch x y = true ↔ Run (sL y') t 0 y'.length := by
  obtain ⟨c, cs, ec⟩ := chunks_ne t
  have hc := chunks_clean ht
  rw [ec] at hc
  have hnice : NiceC (chunks (.star :: .lit [46] :: t)) := by
    show NiceC ([] :: (([46] ++ (chunks t).headD []) :: (chunks t).tail))
    rw [ec]
    refine ⟨niceM fun h => (nomatch h), ?_⟩
    cases hcs : cs with
    | nil => exact niceL_dot (hc c (.head _))
    | cons v r =>
      subst hcs
      refine ⟨niceM_dot (hc c (.head _)) ?_, niceC (by simp) fun u hu => hc u (.tail _ hu)⟩
      rintro rfl
      cases t with
      | nil => cases ec
      | cons a t =>
        cases a with
        | star => exact hst _ rfl
        | lit w =>
          have e1 : w ++ (chunks t).headD [] = [] := (List.cons.inj (show (w ++ (chunks t).headD []) :: (chunks t).tail = [] :: v :: r from ec)).1
          exact hne w (.head _) (List.append_eq_nil_iff.mp e1).1
  have hlen : y.length = y'.length + 1 := by rw [← sL_len, hy, List.length_cons, sL_len]
  rw [ematch_gl hnice (by rw [hx, glue_chunks]; rfl), gl_run, hy, hlen]
  show (∃ q, 0 ≤ q ∧ Oc (46 :: sL y') [46] q ∧ Run (46 :: sL y') t (q + 1) (y'.length + 1)) ↔ _
  constructor
  · rintro ⟨q, _, h1, h2⟩
    cases q with
    | zero => exact run_shift.mp h2
    | succ q =>
      exfalso
      have h3 := oc_get (oc_cons.mp h1) (j := 0) (by decide)
      exact hn (List.mem_of_getElem? h3)
  · intro h
    exact ⟨0, Nat.le_refl _, rfl, run_shift.mpr h⟩
end Mine
end
section
open PySem PySem.W PyProof.Rows PySem.Spec PySem.Calls
namespace Mine
noncomputable def pieceAt (pieces : List Str) (k : Int) : Str := pieces.getD k.toNat Str.empty
noncomputable def PL (pieces : List Str) (k : Int) : List Nat := sL (pieceAt pieces k)
noncomputable def InK (k : Int) : Prop := 0 ≤ k ∧ k < 5
theorem pl_form {pieces : List Str} (h5 : pieces.length = 5) (hP : ∀ k p, pieces[k]? = some p → PieceS k p) {k : Int} (hk : InK k) : ∃ f : List Nat, PL pieces k = (65 + k.toNat) :: f ∧ (∀ c ∈ f, 200 ≤ c) ∧ f.length ≤ 3 := by
  obtain ⟨h0, h1⟩ := hk
  have hlt : k.toNat < pieces.length := by omega
  obtain ⟨f, h2, h3, h4⟩ := hP k.toNat _ (List.getElem?_eq_getElem hlt)
  refine ⟨sL f, ?_, fun c hc => (h3 c hc).1, by rw [sL_len]; exact h2⟩
  unfold PL pieceAt
  rw [List.getD, List.getElem?_eq_getElem hlt, Option.getD_some, h4]
  show (((⟨#[65 + k.toNat]⟩ : Str) ++ f).cps).toList = _
  rw [toL_append]
  rfl
structure ToldOk (pieces : List Str) (st : St) : Prop where
  clean : NoDot (sL st.text)
  sound : ∀ e ∈ st.told, 0 < e.2.2 → InK e.1 ∧ ∃ q : Nat, e = (e.1, (q : Int), ((PL pieces e.1).length : Int)) ∧ Oc (sL st.text) (PL pieces e.1) q
  full : ∀ k, InK k → ∀ q : Nat, Oc (sL st.text) (PL pieces k) q → (k, (q : Int), ((PL pieces k).length : Int)) ∈ st.told
theorem told_zero {pieces : List Str} (h5 : pieces.length = 5) (hP : ∀ k p, pieces[k]? = some p → PieceS k p) : ToldOk pieces St.zero := by
  have e0 : sL St.zero.text = [] := by decide +kernel
  refine ⟨by rw [e0]; exact fun h => (nomatch h), fun e he => (nomatch he), fun k hk q h => ?_⟩
  obtain ⟨f, hf, _⟩ := pl_form h5 hP hk
  rw [e0] at h
  have := oc_len h (by rw [hf]; simp)
  rw [hf] at this
  simp at this
theorem inK_mod (x : Int) : InK (x.fmod 5) := ⟨Int.fmod_nonneg_of_pos _ (by omega), Int.fmod_lt_of_pos _ (by omega)⟩
theorem told_step {pieces refused : List Str} (h5 : pieces.length = 5) (hP : ∀ k p, pieces[k]? = some p → PieceS k p) {st : St} (h : ToldOk pieces st) (x : Int) : ToldOk pieces (stStep pieces refused st x) := by
  have hm := inK_mod x
  obtain ⟨f, hf, hf2, _⟩ := pl_form h5 hP hm
  have hleft : sL (pieceOf pieces x) = (65 + (x.fmod 5).toNat) :: f := hf
  cases hno : refused.any fun y => y == pieceOf pieces x with
  | true =>
    rw [stStep_yes rfl hno]
    refine ⟨h.clean, fun e he hpos => ?_, fun k hk q ho => List.mem_append_left _ (h.full k hk q ho)⟩
    rcases List.mem_append.mp he with he | he
    · exact h.sound e he hpos
    · rw [List.mem_singleton.mp he] at hpos
      exact absurd hpos (by show ¬ (0 : Int) < 0; omega)
  | false =>
    rw [stStep_no rfl hno]
    have ht : sL (st.text ++ pieceOf pieces x) = sL st.text ++ ((65 + (x.fmod 5).toNat) :: f) := by rw [← hleft]; exact toL_append ..
    have hm5 := hm.2
    have hm0 := hm.1
    refine ⟨?_, fun e he hpos => ?_, fun k hk q ho => ?_⟩
    · show NoDot (sL (st.text ++ pieceOf pieces x))
      rw [ht]
      intro hx
      rcases List.mem_append.mp hx with hx | hx
      · exact h.clean hx
      · rcases List.mem_cons.mp hx with hx | hx
        · omega
        · have := hf2 _ hx
          omega
    · show _ ∧ ∃ q : Nat, _ ∧ Oc (sL (st.text ++ pieceOf pieces x)) _ q
      rw [ht]
      rcases List.mem_append.mp he with he | he
      · obtain ⟨h1, q, h2, h3⟩ := h.sound e he hpos
        refine ⟨h1, q, h2, ?_⟩
        obtain ⟨g, hg, _⟩ := pl_form h5 hP h1
        exact (oc_pre (oc_len h3 (by rw [hg]; simp))).mpr h3
      · rw [List.mem_singleton.mp he]
        refine ⟨hm, st.text.length, ?_, ?_⟩
        · show (_, _, _) = (_, _, _)
          rw [hf, ← hleft, sL_len]
        · show Oc _ (PL pieces (x.fmod 5)) _
          rw [hf]
          unfold Oc
          rw [← sL_len, List.drop_left, List.take_length]
    · replace ho : Oc (sL (st.text ++ pieceOf pieces x)) (PL pieces k) q := ho
      rw [ht] at ho
      obtain ⟨g, hg, hg2, _⟩ := pl_form h5 hP hk
      have hkl := hk.1
      have hku := hk.2
      refine List.mem_append.mpr ?_
      rcases Nat.lt_or_ge (sL st.text).length (q + (PL pieces k).length) with hlt | hle
      · rcases Nat.lt_or_ge q (sL st.text).length with hq | hq
        · exfalso
          have h1 := oc_get ho (j := (sL st.text).length - q) (by omega)
          rw [show q + ((sL st.text).length - q) = (sL st.text).length by omega, List.getElem?_append_right (Nat.le_refl _), Nat.sub_self, List.getElem?_cons_zero, hg] at h1
          obtain ⟨i, hi⟩ : ∃ i, (sL st.text).length - q = i + 1 := ⟨(sL st.text).length - q - 1, by omega⟩
          rw [hi, List.getElem?_cons_succ] at h1
          have := hg2 _ (List.mem_of_getElem? h1.symm)
          omega
        · right
          have h1 := oc_get ho (j := 0) (by rw [hg]; simp)
          rw [Nat.add_zero, List.getElem?_append_right hq, hg, List.getElem?_cons_zero] at h1
          cases hj : q - (sL st.text).length with
          | zero =>
            rw [hj, List.getElem?_cons_zero] at h1
            have h2 := Option.some.inj h1
            have ek : k = x.fmod 5 := by omega
            have eq : q = st.text.length := by rw [sL_len] at hq hj; omega
            rw [ek, eq, hf, ← hleft, sL_len]
            exact .head _
          | succ i =>
            exfalso
            rw [hj, List.getElem?_cons_succ] at h1
            have := hf2 _ (List.mem_of_getElem? h1)
            omega
      · left
        exact h.full k hk q ((oc_pre hle).mp ho)
theorem told_ok {pieces refused : List Str} (h5 : pieces.length = 5) (hP : ∀ k p, pieces[k]? = some p → PieceS k p) (l : List Int) : ToldOk pieces (stOf pieces refused l) := by
  unfold stOf
  suffices hh : ∀ st, ToldOk pieces st → ToldOk pieces (l.foldl (stStep pieces refused) st) from hh _ (told_zero h5 hP)
  induction l with
  | nil => exact fun _ h => h
  | cons x r ih => exact fun st h => ih _ (told_step h5 hP h x)
noncomputable def stars (b : Bool) : List Tk := if b then [.star] else []
/-- what stands ahead of each piece, then the piece -/
noncomputable def TA (pieces : List Str) (l : List (Int × Bool)) : List Tk := l.flatMap fun p => stars p.2 ++ [.lit (PL pieces p.1)]
/-- each piece, then what stands behind it -/
noncomputable def TB (pieces : List Str) (l : List (Int × Bool)) : List Tk := l.flatMap fun p => Tk.lit (PL pieces p.1) :: stars p.2
theorem regroup (pieces : List Str) : ∀ (row : List Int) (d0 : Bool) (ds : List Bool), ds.length = row.length → stars d0 ++ TB pieces (row.zip ds) = TA pieces (row.zip (d0 :: ds)) ++ stars ((d0 :: ds).getLastD false)
  | [], d0, ds, h => by
    have : ds = [] := List.length_eq_zero_iff.mp h
    subst this
    rw [List.zip_nil_left, List.zip_nil_left]
    show stars d0 ++ [] = [] ++ stars d0
    rw [List.append_nil, List.nil_append]
  | k :: row, d0, [], h => by simp at h
  | k :: row, d0, d1 :: ds, h => by
    have ih := regroup pieces row d1 ds (by simpa using h)
    have e1 : TB pieces ((k :: row).zip (d1 :: ds)) = Tk.lit (PL pieces k) :: (stars d1 ++ TB pieces (row.zip ds)) := rfl
    have e2 : TA pieces ((k :: row).zip (d0 :: d1 :: ds)) = stars d0 ++ ([.lit (PL pieces k)] ++ TA pieces (row.zip (d1 :: ds))) := by
      show (stars d0 ++ [.lit (PL pieces k)]) ++ TA pieces (row.zip (d1 :: ds)) = _
      rw [List.append_assoc]
    rw [e1, e2, ih, List.append_assoc, List.append_assoc]
    rfl
noncomputable def EndsOk (E : List Int) (N : Nat) : Prop := ∀ e ∈ E, 0 ≤ e ∧ e ≤ (N : Int)
theorem minL_or (E : List Int) (N : Int) : minL (E ++ [N]) ∈ E ++ [N] ∧ ∀ a ∈ E ++ [N], minL (E ++ [N]) ≤ a := by
  unfold minL
  cases h : (E ++ [N]).min? with
  | none => simp at h
  | some m =>
    obtain ⟨h1, h2⟩ := List.min?_eq_some_iff.mp h
    exact ⟨h1, h2⟩
theorem step_ends {pieces : List Str} {st : St} (h : ToldOk pieces st) (h5 : pieces.length = 5) (hP : ∀ k p, pieces[k]? = some p → PieceS k p) (E : List Int) (p : Int × Bool) : EndsOk (fitStep st.told st.text.length E p) st.text.length := by
  intro e he
  obtain ⟨t, ht, rfl⟩ := List.mem_map.mp he
  obtain ⟨ht1, ht2⟩ := List.mem_filter.mp ht
  have hpos : 0 < t.2.2 := by
    unfold fitTest at ht2
    simp only [Bool.and_eq_true, decide_eq_true_eq] at ht2
    exact ht2.2.1
  obtain ⟨h1, q, h2, h3⟩ := h.sound t ht1 hpos
  obtain ⟨g, hg, _⟩ := pl_form h5 hP h1
  have hl := oc_len h3 (by rw [hg]; simp)
  rw [sL_len] at hl
  rw [h2]
  show 0 ≤ (q : Int) + ((PL pieces t.1).length : Int) ∧ (q : Int) + ((PL pieces t.1).length : Int) ≤ _
  omega
theorem step_iff {pieces : List Str} {st : St} (h : ToldOk pieces st) (h5 : pieces.length = 5) (hP : ∀ k p, pieces[k]? = some p → PieceS k p) {E : List Int} (hE : EndsOk E st.text.length) {k : Int} (hk : InK k) (fr : Bool) (e : Nat) :
    (e : Int) ∈ fitStep st.told st.text.length E (k, fr) ↔ ∃ q : Nat, (q : Int) ∈ E ∧ Run (sL st.text) (stars fr ++ [.lit (PL pieces k)]) q e := by
  obtain ⟨hm1, hm2⟩ := minL_or E st.text.length
  unfold fitStep
  rw [List.mem_map]
  dsimp only
  constructor
  · rintro ⟨t, ht, he⟩
    obtain ⟨ht1, ht2⟩ := List.mem_filter.mp ht
    unfold fitTest at ht2
    simp only [Bool.and_eq_true, Bool.or_eq_true, decide_eq_true_eq, beq_iff_eq, List.any_eq_true] at ht2
    obtain ⟨e1, hpos, h6⟩ := ht2
    obtain ⟨h1, q, h2, h3⟩ := h.sound t ht1 hpos
    rw [e1] at h2 h3
    obtain ⟨g, hg, _⟩ := pl_form h5 hP hk
    have hl := oc_len h3 (by rw [hg]; simp)
    have hgl : 0 < (PL pieces k).length := by rw [hg]; simp
    rw [sL_len] at hl
    rw [h2] at he h6
    have he2 : q + (PL pieces k).length = e := by
      have : (q : Int) + ((PL pieces k).length : Int) = e := he
      omega
    rcases h6 with ⟨a, ha, ha2⟩ | ⟨hfr, hle⟩
    · have ha3 : a = (q : Int) := ha2
      rw [ha3] at ha
      refine ⟨q, ha, ?_⟩
      cases fr with
      | true => exact ⟨q, Nat.le_refl _, h3, he2⟩
      | false => exact ⟨h3, he2⟩
    · have hle : minL (E ++ [(st.text.length : Int)]) ≤ (q : Int) := hle
      rw [hfr]
      rcases List.mem_append.mp hm1 with hm | hm
      · have hb := hE _ hm
        refine ⟨(minL (E ++ [(st.text.length : Int)])).toNat, ?_, q, by omega, h3, he2⟩
        rw [Int.toNat_of_nonneg hb.1]
        exact hm
      · have := List.mem_singleton.mp hm
        omega
  · rintro ⟨q, hq, hr⟩
    have key : ∀ q' : Nat, Oc (sL st.text) (PL pieces k) q' → q' + (PL pieces k).length = e → ((E.any fun x => x == (q' : Int)) || (fr && decide (minL (E ++ [(st.text.length : Int)]) ≤ (q' : Int)))) = true → ∃ a, a ∈ st.told.filter (fitTest k fr E (minL (E ++ [(st.text.length : Int)]))) ∧ a.2.1 + a.2.2 = (e : Int) := by
      intro q' ho he hb
      refine ⟨_, List.mem_filter.mpr ⟨h.full k hk q' ho, ?_⟩, by show (q' : Int) + ((PL pieces k).length : Int) = _; omega⟩
      obtain ⟨g, hg, _⟩ := pl_form h5 hP hk
      have hgl : 0 < (PL pieces k).length := by rw [hg]; simp
      unfold fitTest
      simp only [beq_self_eq_true, Bool.true_and, Bool.and_eq_true, decide_eq_true_eq]
      exact ⟨by omega, hb⟩
    cases fr with
    | true =>
      obtain ⟨q', h1, h2, h3⟩ : ∃ q', q ≤ q' ∧ Oc (sL st.text) (PL pieces k) q' ∧ q' + (PL pieces k).length = e := hr
      refine key q' h2 h3 ?_
      have := hm2 _ (List.mem_append_left _ hq)
      have hle : minL (E ++ [(st.text.length : Int)]) ≤ (q' : Int) := by omega
      simp [hle]
    | false =>
      obtain ⟨h2, h3⟩ : Oc (sL st.text) (PL pieces k) q ∧ q + (PL pieces k).length = e := hr
      refine key q h2 h3 ?_
      have : (E.any fun x => x == (q : Int)) = true := List.any_eq_true.mpr ⟨_, hq, by simp⟩
      rw [this]
      rfl
theorem fold_iff {pieces : List Str} {st : St} (h : ToldOk pieces st) (h5 : pieces.length = 5) (hP : ∀ k p, pieces[k]? = some p → PieceS k p) : ∀ (l : List (Int × Bool)) (E : List Int), EndsOk E st.text.length → (∀ p ∈ l, InK p.1) →
    EndsOk (l.foldl (fitStep st.told st.text.length) E) st.text.length ∧ ∀ e : Nat, (e : Int) ∈ l.foldl (fitStep st.told st.text.length) E ↔ ∃ q : Nat, (q : Int) ∈ E ∧ Run (sL st.text) (TA pieces l) q e
  | [], E, hE, _ => ⟨hE, fun e => by
      show _ ↔ ∃ q : Nat, (q : Int) ∈ E ∧ q = e
      constructor
      · exact fun h => ⟨e, h, rfl⟩
      · rintro ⟨q, h, rfl⟩; exact h⟩
  | p :: r, E, hE, hl => by
    obtain ⟨h1, h2⟩ := fold_iff h h5 hP r (fitStep st.told st.text.length E p) (step_ends h h5 hP E p) fun a ha => hl a (.tail _ ha)
    refine ⟨h1, fun e => ?_⟩
    rw [List.foldl_cons, h2]
    show _ ↔ ∃ q : Nat, (q : Int) ∈ E ∧ Run (sL st.text) ((stars p.2 ++ [.lit (PL pieces p.1)]) ++ TA pieces r) q e
    constructor
    · rintro ⟨q, hq, hr⟩
      obtain ⟨q0, h3, h4⟩ := (step_iff h h5 hP hE (hl p (.head _)) p.2 q).mp hq
      exact ⟨q0, h3, run_app.mpr ⟨q, h4, hr⟩⟩
    · rintro ⟨q0, h3, hr⟩
      obtain ⟨q, h4, h5'⟩ := run_app.mp hr
      exact ⟨q, (step_iff h h5 hP hE (hl p (.head _)) p.2 q).mpr ⟨q0, h3, h4⟩, h5'⟩
theorem fits_run {pieces : List Str} {st : St} (h : ToldOk pieces st) (h5 : pieces.length = 5) (hP : ∀ k p, pieces[k]? = some p → PieceS k p) {row : List Int} {d0 : Bool} {ds : List Bool} (hrow : ∀ k ∈ row, InK k) (hds : ds.length = row.length) :
    fits row (d0 :: ds) st.told st.text.length = true ↔ Run (sL st.text) (stars d0 ++ TB pieces (row.zip ds)) 0 st.text.length := by
  have hE0 : EndsOk [0] st.text.length := fun e he => by rw [List.mem_singleton.mp he]; omega
  obtain ⟨h1, h2⟩ := fold_iff h h5 hP (row.zip (d0 :: ds)) [0] hE0 fun p hp => hrow p.1 (List.of_mem_zip hp).1
  have h2' : ∀ e : Nat, (e : Int) ∈ (row.zip (d0 :: ds)).foldl (fitStep st.told st.text.length) [0] ↔ Run (sL st.text) (TA pieces (row.zip (d0 :: ds))) 0 e := fun e => by
    rw [h2]
    constructor
    · rintro ⟨q, hq, hr⟩
      have : q = 0 := by have := List.mem_singleton.mp hq; omega
      rw [← this]; exact hr
    · exact fun hr => ⟨0, .head _, hr⟩
  rw [regroup pieces row d0 ds hds, run_app]
  unfold fits endsOf
  generalize (row.zip (d0 :: ds)).foldl (fitStep st.told st.text.length) [0] = E at h1 h2'
  cases hd : (d0 :: ds).getLastD false with
  | true =>
    simp only [if_true]
    show _ ↔ ∃ m, Run _ _ 0 m ∧ ∃ q, m ≤ q ∧ q = st.text.length
    constructor
    · intro hne
      cases E with
      | nil => cases hne
      | cons e E =>
        have he := h1 e (.head _)
        refine ⟨e.toNat, (h2' _).mp ?_, _, ?_, rfl⟩
        · rw [Int.toNat_of_nonneg he.1]; exact .head _
        · omega
    · rintro ⟨m, hr, _⟩
      have := (h2' m).mpr hr
      cases E with
      | nil => cases this
      | cons _ _ => rfl
  | false =>
    simp only [Bool.false_eq_true, if_false]
    show _ ↔ ∃ m, Run _ _ 0 m ∧ m = st.text.length
    rw [List.any_eq_true]
    constructor
    · rintro ⟨a, ha, hb⟩
      have : a = (st.text.length : Int) := by simpa using hb
      rw [this] at ha
      exact ⟨_, (h2' _).mp ha, rfl⟩
    · rintro ⟨m, hr, rfl⟩
      exact ⟨_, (h2' _).mpr hr, by simp⟩
/-- the body of a pattern -/
noncomputable def dotS (b : Bool) : Str := if b then Str.ofString "..." else Str.ofString ""
noncomputable def bodyOf (pieces : List Str) (l : List (Int × Bool)) : Str := l.foldl (fun b p => b ++ pieceAt pieces p.1 ++ dotS p.2) (Str.ofString "")
theorem dotS_render (b : Bool) (t : List Tk) : render (stars b ++ t) = sL (dotS b) ++ render t := by
  cases b with
  | false =>
    have : sL (dotS false) = [] := by decide +kernel
    rw [this]; rfl
  | true =>
    have : sL (dotS true) = dots3 := by decide +kernel
    rw [this]; rfl
theorem body_render (pieces : List Str) (l : List (Int × Bool)) : sL (bodyOf pieces l) = render (TB pieces l) := by
  unfold bodyOf
  suffices hh : ∀ b : Str, sL (l.foldl (fun b p => b ++ pieceAt pieces p.1 ++ dotS p.2) b) = sL b ++ render (TB pieces l) by
    rw [hh]
    have : sL (Str.ofString "") = [] := by decide +kernel
    rw [this]; rfl
  induction l with
  | nil => intro b; exact (List.append_nil _).symm
  | cons p r ih =>
    intro b
    rw [List.foldl_cons, ih]
    have e1 : render (TB pieces (p :: r)) = PL pieces p.1 ++ render (stars p.2 ++ TB pieces r) := rfl
    rw [e1, dotS_render]
    show ((b ++ pieceAt pieces p.1 ++ dotS p.2).cps).toList ++ _ = _
    rw [toL_append, toL_append, List.append_assoc, List.append_assoc]
    rfl
theorem tb_lit {pieces : List Str} {l : List (Int × Bool)} {w : List Nat} (h : Tk.lit w ∈ TB pieces l) : ∃ p ∈ l, w = PL pieces p.1 := by
  obtain ⟨p, hp, hw⟩ := List.mem_flatMap.mp h
  rcases List.mem_cons.mp hw with hw | hw
  · exact ⟨p, hp, by cases hw; rfl⟩
  · unfold stars at hw
    split at hw
    · cases List.mem_singleton.mp hw
    · cases hw
theorem tb_star {pieces : List Str} {l : List (Int × Bool)} (r : List Tk) : TB pieces l ≠ .star :: r := by
  cases l with
  | nil => exact fun h => nomatch h
  | cons p l => exact fun h => nomatch h
theorem pl_clean {pieces : List Str} (h5 : pieces.length = 5) (hP : ∀ k p, pieces[k]? = some p → PieceS k p) {k : Int} (hk : InK k) : NoDot (PL pieces k) := by
  obtain ⟨f, hf, hf2, _⟩ := pl_form h5 hP hk
  rw [hf]
  intro hx
  rcases List.mem_cons.mp hx with hx | hx
  · omega
  · have := hf2 _ hx
    omega
/-- THE PLAIN LAW, first pattern -/
theorem plain_one {pieces refused : List Str} (h5 : pieces.length = 5) (hP : ∀ k p, pieces[k]? = some p → PieceS k p) (numbers : List Int) {row : List Int} {d0 : Bool} {ds : List Bool} (hrow : ∀ k ∈ row, InK k) (hds : ds.length = row.length) :
    ematch (dotS d0 ++ bodyOf pieces (row.zip ds)) (stOf pieces refused numbers).text = fits row (d0 :: ds) (stOf pieces refused numbers).told ((stOf pieces refused numbers).text.length : Int) := by
  have h := told_ok (refused := refused) h5 hP numbers
  rw [Bool.eq_iff_iff, fits_run h h5 hP hrow hds]
  refine ematch_run ?_ ?_
  · intro w hw
    rcases List.mem_append.mp hw with hw | hw
    · unfold stars at hw
      split at hw
      · cases List.mem_singleton.mp hw
      · cases hw
    · obtain ⟨p, hp, rfl⟩ := tb_lit hw
      exact pl_clean h5 hP (hrow _ (List.of_mem_zip hp).1)
  · rw [dotS_render, ← body_render]
    exact toL_append ..
/-- THE PLAIN LAW, second pattern -/
theorem plain_two {pieces refused : List Str} (h5 : pieces.length = 5) (hP : ∀ k p, pieces[k]? = some p → PieceS k p) (numbers : List Int) {row : List Int} {ds : List Bool} (hrow : ∀ k ∈ row, InK k) (hds : ds.length = row.length) :
    ematch (Str.ofString "...." ++ bodyOf pieces (row.zip ds)) (Str.ofString "." ++ (stOf pieces refused numbers).text) = fits row (false :: ds) (stOf pieces refused numbers).told ((stOf pieces refused numbers).text.length : Int) := by
  have h := told_ok (refused := refused) h5 hP numbers
  rw [Bool.eq_iff_iff, fits_run h h5 hP hrow hds]
  show _ ↔ Run (sL (stOf pieces refused numbers).text) (TB pieces (row.zip ds)) 0 _
  refine ematch_dot ?_ tb_star ?_ ?_ ?_ h.clean
  · intro w hw
    obtain ⟨p, hp, rfl⟩ := tb_lit hw
    exact pl_clean h5 hP (hrow _ (List.of_mem_zip hp).1)
  · intro w hw
    obtain ⟨p, hp, rfl⟩ := tb_lit hw
    obtain ⟨f, hf, _⟩ := pl_form h5 hP (hrow _ (List.of_mem_zip hp).1)
    rw [hf]
    exact List.cons_ne_nil _ _
  · show ((Str.ofString "...." ++ bodyOf pieces (row.zip ds)).cps).toList = _
    rw [toL_append]
    have : (Str.ofString "....").cps.toList = [46, 46, 46, 46] := by decide +kernel
    rw [this, ← body_render]
    rfl
  · show ((Str.ofString "." ++ (stOf pieces refused numbers).text).cps).toList = _
    rw [toL_append]
    have : (Str.ofString ".").cps.toList = [46] := by decide +kernel
    rw [this]
    rfl
theorem body_len {pieces : List Str} (h5 : pieces.length = 5) (hP : ∀ k p, pieces[k]? = some p → PieceS k p) (l : List (Int × Bool)) (hl : ∀ p ∈ l, InK p.1) : (bodyOf pieces l).length ≤ 7 * l.length := by
  unfold bodyOf
  suffices hh : ∀ b : Str, (l.foldl (fun b p => b ++ pieceAt pieces p.1 ++ dotS p.2) b).length ≤ b.length + 7 * l.length by
    have := hh (Str.ofString "")
    have e0 : (Str.ofString "").length = 0 := by decide +kernel
    omega
  induction l with
  | nil => intro b; exact Nat.le_refl _
  | cons p r ih =>
    intro b
    rw [List.foldl_cons]
    refine Nat.le_trans (ih (fun a ha => hl a (.tail _ ha)) _) ?_
    rw [Str.length_append, Str.length_append, List.length_cons]
    obtain ⟨f, hf, _, hf3⟩ := pl_form h5 hP (hl p (.head _))
    have h1 : (pieceAt pieces p.1).length ≤ 4 := by
      rw [← sL_len]
      show (PL pieces p.1).length ≤ 4
      rw [hf, List.length_cons]
      omega
    have h2 : (dotS p.2).length ≤ 3 := by cases p.2 <;> decide +kernel
    omega
end Mine
end
section
open PySem PySem.W PyProof.Rows PySem.Spec PySem.Calls
namespace Mine
section
variable {prog : Program} {w : World} {A : Around} {E : Value → Shared → Prop} {s : Shared} {h₀ : Heap} {L a b : Addr} {news : List (Addr × Obj)} {Q : Value → Shared → Prop} {d : Dat}
/-- two objects that bear the same datum are not unequal -/
theorem ne_same (N : News h₀ L s.heap news) (Da : DatIn news (.ref a) d) (Db : DatIn news (.ref b) d) (ok : kqdOk 9 d = true) (hu : A.units + 64 < cLine) (h : Q (.bool false) s) : wpAny (model prog w) A (compareOp .NotEq (.ref a) (.ref b)) Q E s := by
  obtain ⟨as, ra⟩ := kqd_in N 9 Da ok
  obtain ⟨bs, rb⟩ := kqd_in N 9 Db ok
  have la := kqd_lay 9 d ok
  have e : PyData.eqv (kqdP d) (kqdP d) = true := (kqd_eqv 9 d d 9 ok ok).mpr rfl
  refine ne_dataH ra rb ?_ ?_ hu (by rw [e]; exact h)
  · unfold SeqAt.shaped; rw [la.1, Bool.true_and]; exact decide_eq_true (Nat.le_trans la.2 (by decide))
  · unfold SeqAt.shaped; rw [la.1, Bool.true_and]; exact decide_eq_true (Nat.le_trans la.2 (by decide))
end
end Mine
end
section
open PySem PySem.W PyProof.Rows PySem.Spec PySem.Calls
namespace Mine
noncomputable def OkS (x : Str) : Prop := ∀ c ∈ sL x, c < 0x110000
theorem ok_str {x : Str} (h : OkS x) : PyData.strOk x = true := by
  unfold PyData.strOk
  rw [← Array.all_toList, List.all_eq_true]
  intro c hc
  exact decide_eq_true (h c hc)
theorem ok_app {x y : Str} (hx : OkS x) (hy : OkS y) : OkS (x ++ y) := by
  intro c hc
  rw [show sL (x ++ y) = sL x ++ sL y from toL_append x y] at hc
  rcases List.mem_append.mp hc with h | h
  · exact hx c h
  · exact hy c h
theorem ok_drop {x : Str} {n : Nat} (hx : OkS x) : OkS (dropS x n) := by
  intro c hc
  rw [show sL (dropS x n) = (sL x).drop n from toL_drop x n] at hc
  exact hx c (List.mem_of_mem_drop hc)
theorem ok_piece {k : Nat} {p : Str} (h : PieceS k p) (hk : k < 5) : OkS p ∧ GoodP p ∧ p.length ≤ 4 := by
  obtain ⟨f, h1, h2, rfl⟩ := h
  refine ⟨ok_app ?_ fun c hc => ?_, ⟨65 + k, f, by omega, fun c hc => (h2 c hc).1, rfl⟩, ?_⟩
  · intro c hc
    have : c = 65 + k := List.mem_singleton.mp hc
    omega
  · have := (h2 c hc).2
    omega
  · rw [Str.length_append]
    show 1 + f.length ≤ 4
    omega
noncomputable def OkD : Dat → Prop
  | .int _ => True
  | .str x => OkS x
  | _ => False
structure OkI (q : Inn) : Prop where
  left : OkS q.left
  handed : ∀ x ∈ q.handed, OkS x
  ans : ∀ d ∈ q.ans, OkD d
theorem ok_inn {q : Inn} (h : OkI q) : OkI (innTurn q) := by
  unfold innTurn
  split
  · exact h
  · refine ⟨ok_drop h.left, fun x hx => ?_, fun d hd => ?_⟩
    · rcases List.mem_append.mp hx with hx | hx
      · exact h.handed x hx
      · rw [List.mem_singleton.mp hx]; exact h.left
    · rcases List.mem_append.mp hd with hd | hd
      · exact h.ans d hd
      · rw [List.mem_singleton.mp hd]; exact trivial
theorem ok_inns : ∀ (n : Nat) {q : Inn}, OkI q → OkI (innTurns n q)
  | 0, _, h => h
  | n + 1, _, h => ok_inn (ok_inns n h)
structure OkSt (st : St) : Prop where
  text : OkS st.text
  handed : ∀ x ∈ st.handed, OkS x
  ans : ∀ d ∈ st.ans, OkD d
theorem ok_of {pieces : List Str} (hp : ∀ p ∈ pieces, OkS p) (x : Int) : OkS (pieceOf pieces x) := by
  unfold pieceOf
  rw [List.getD]
  cases h : pieces[(x.fmod 5).toNat]? with
  | none => intro c hc; exact nomatch hc
  | some p => exact hp p (List.mem_of_getElem? h)
theorem ok_step {pieces refused : List Str} (hp : ∀ p ∈ pieces, OkS p) {st : St} (h : OkSt st) (x : Int) : OkSt (stStep pieces refused st x) := by
  have hx := ok_of hp x
  cases hno : refused.any fun y => y == pieceOf pieces x with
  | true =>
    rw [stStep_yes rfl hno]
    refine ⟨h.text, fun x hx' => ?_, fun d hd => ?_⟩
    · rcases List.mem_append.mp hx' with hx' | hx'
      · exact h.handed _ hx'
      · rw [List.mem_singleton.mp hx']; exact hx
    · rcases List.mem_append.mp hd with hd | hd
      · exact h.ans _ hd
      · rw [List.mem_singleton.mp hd]; exact hx
  | false =>
    rw [stStep_no rfl hno]
    have hi := ok_inns (pieceOf pieces x).length (q := ⟨pieceOf pieces x, st.handed, st.ans, st.cuts⟩) ⟨hx, h.handed, h.ans⟩
    exact ⟨ok_app h.text hx, hi.handed, hi.ans⟩
theorem ok_st {pieces refused : List Str} (hp : ∀ p ∈ pieces, OkS p) (l : List Int) : OkSt (stOf pieces refused l) := by
  unfold stOf
  suffices hh : ∀ st, OkSt st → OkSt (l.foldl (stStep pieces refused) st) from hh _ ⟨fun c hc => (by rw [show sL St.zero.text = [] by decide +kernel] at hc; cases hc), fun _ h => (nomatch h), fun _ h => (nomatch h)⟩
  induction l with
  | nil => exact fun _ h => h
  | cons x r ih => exact fun st h => ih _ (ok_step hp h x)
theorem kqd_st {st : St} (h : OkSt st) : kqdOk 9 (stDat st) = true := by
  have e1 : (st.told.map toldDat).all (kqdOk 7) = true := by
    rw [List.all_eq_true]
    intro d hd
    obtain ⟨t, _, rfl⟩ := List.mem_map.mp hd
    rfl
  have e2 : (st.handed.map Dat.str).all (kqdOk 7) = true := by
    rw [List.all_eq_true]
    intro d hd
    obtain ⟨t, ht, rfl⟩ := List.mem_map.mp hd
    exact ok_str (h.handed t ht)
  have e3 : st.ans.all (kqdOk 7) = true := by
    rw [List.all_eq_true]
    intro d hd
    have := h.ans d hd
    cases d with
    | int n => rfl
    | str x => exact ok_str this
    | _ => exact this.elim
  show [Dat.str st.text, .list (st.told.map toldDat), .int (st.text.length : Int), .list (st.handed.map .str), .list st.ans].all (kqdOk 8) = true
  simp only [List.all_cons, List.all_nil, Bool.and_true, Bool.and_eq_true]
  exact ⟨ok_str h.text, e1, rfl, e2, e3⟩
theorem ints_dat {news : List (Addr × Obj)} : ∀ {vs : List Value} {ns : List Int}, IntsAre vs ns → DatAll news vs (ns.map .int)
  | _, _, .nil => .nil
  | _, _, .cons n t h => .cons (.int _ _) (ints_dat h)
theorem eqv_bools (a b : Bool) : PyData.eqv (.list [.bool a, .bool b]) (.list [.bool a, .bool b]) = true := by
  cases a <;> cases b <;> decide +kernel
theorem ne_bools {prog : Program} {w : World} {A : Around} {E : Value → Shared → Prop} {s : Shared} {h₀ : Heap} {L x y : Addr} {news : List (Addr × Obj)} {Q : Value → Shared → Prop} {a b : Bool} {n m : Nat}
    (N : News h₀ L s.heap news) (mx : (x, W.listOf #[.bool a, .bool b] n) ∈ news) (my : (y, W.listOf #[.bool a, .bool b] m) ∈ news) (hu : A.units + 64 < cLine) (h : Q (.bool false) s) : wpAny (model prog w) A (compareOp .NotEq (.ref x) (.ref y)) Q E s := by
  have r1 : Reads s.heap (.ref x) (.list [.bool a, .bool b]) [x] := .list (N _ mx).1 rfl rfl (.cons (.bool _) (.cons (.bool _) .nil))
  have r2 : Reads s.heap (.ref y) (.list [.bool a, .bool b]) [y] := .list (N _ my).1 rfl rfl (.cons (.bool _) (.cons (.bool _) .nil))
  have hs : SeqAt.shaped (.list [.bool a, .bool b]) = true := by cases a <;> cases b <;> decide +kernel
  refine ne_dataH r1 r2 hs hs hu ?_
  rw [eqv_bools]
  exact h
theorem ne_nils {prog : Program} {w : World} {A : Around} {E : Value → Shared → Prop} {s : Shared} {h₀ : Heap} {L x y : Addr} {news : List (Addr × Obj)} {Q : Value → Shared → Prop} {n m : Nat}
    (N : News h₀ L s.heap news) (mx : (x, W.listOf #[] n) ∈ news) (my : (y, W.listOf #[] m) ∈ news) (hu : A.units + 64 < cLine) (h : Q (.bool false) s) : wpAny (model prog w) A (compareOp .NotEq (.ref x) (.ref y)) Q E s := by
  have r1 : Reads s.heap (.ref x) (.list []) [x] := .list (N _ mx).1 rfl rfl .nil
  have r2 : Reads s.heap (.ref y) (.list []) [y] := .list (N _ my).1 rfl rfl .nil
  have hs : SeqAt.shaped (.list []) = true := by decide +kernel
  refine ne_dataH r1 r2 hs hs hu ?_
  exact h
end Mine
end
section
open PySem PySem.W PyProof.Rows PySem.Spec PySem.Calls
namespace Mine
theorem adj_upto (a n : Nat) (ha : a ≤ n) : Builtin.Slice.sliceAdjust none (some (a : Int)) 1 (n : Int) = (0, (a : Int)) := by
  unfold Builtin.Slice.sliceAdjust
  have h1 : ¬ ((1 : Int) < 0) := by omega
  have h2 : ¬ ((a : Int) < 0) := by omega
  simp only [h1, h2, if_false]
  congr 1
  omega
theorem plc_upto (a : Nat) : Builtin.Slice.slicePlaces 0 (a : Int) 1 = a := by
  unfold Builtin.Slice.slicePlaces
  have h1 : (1 : Int) > 0 := by omega
  simp only [h1, if_true, Int.ediv_one]
  split <;> omega
theorem pick_upto (xs : Array Value) (a : Nat) : ((List.range a).filterMap fun (k : Nat) => xs[((0 : Int) + (k : Int) * 1).toNat]?).toArray = (xs.toList.take a).toArray := by
  have e : (fun (k : Nat) => xs[((0 : Int) + (k : Int) * 1).toNat]?) = fun k => xs[0 + k]? := by
    funext k
    have : ((0 : Int) + (k : Int) * 1).toNat = 0 + k := by omega
    rw [this]
  rw [e]
  have h := pick_run xs 0 a
  rw [List.filterMap_map] at h
  have e2 : ((fun x => xs[x]?) ∘ fun x => 0 + x) = fun k => xs[0 + k]? := rfl
  rw [e2] at h
  rw [h]
  rfl
section
variable {prog : Program} {w : World} {A : Around} {E : Value → Shared → Prop} {s : Shared} {h₀ : Heap} {L : Addr} {m : Str → Option Value} {news : List (Addr × Obj)}
theorem app_upto {sl : Addr} {a n : Nat} {u : Tok} {Q : Int × Int × Nat → Shared → Prop} (hs : s.heap.IsSliceOf sl .none (.int a u) .none) (ha : a ≤ n) (h : Q (0, 1, a) s) :
    wpAny (model prog w) A (Builtin.Slice.sliceApplied (.ref sl) (pure (n : Int))) Q E s := by
  obtain ⟨os, hos, hcs, hds⟩ := id hs
  unfold Builtin.Slice.sliceApplied Builtin.Slice.sliceFields
  refine wpAny_bind (wpAny_bind (wpAny_field hos hds (x := .none) rfl (wpAny_bind (wpAny_field hos hds (x := .int a u) rfl (wpAny_bind (wpAny_field hos hds (x := .none) rfl (wpAny_pure ?_)))))))
  refine wpAny_bind (slicePart_none ?_)
  show wpAny _ _ (if ((1 : Int) == 0) = true then _ else _) _ _ s
  rw [if_neg (by decide)]
  refine wpAny_bind (slicePart_none (wpAny_bind (slicePart_int (wpAny_bind (wpAny_pure ?_)))))
  show wpAny _ _ (match Builtin.Slice.sliceAdjust none (some (a : Int)) 1 (n : Int) with | (lo, hi) => pure (lo, (1 : Int), Builtin.Slice.slicePlaces lo hi 1)) _ _ s
  rw [adj_upto a n ha]
  show wpAny _ _ (pure ((0 : Int), (1 : Int), Builtin.Slice.slicePlaces 0 (a : Int) 1)) _ _ s
  rw [plc_upto a]
  exact wpAny_pure h
theorem get_upto {t sl : Addr} {items : Array Value} {a : Nat} {u : Tok} {Q : Value → Shared → Prop} (ht : IsTup s.heap t items) (hs : s.heap.IsSliceOf sl .none (.int a u) .none) (ha : a < items.size)
    (h : Q (.ref s.heap.objs.size) { s with heap := s.heap.push { cls := .type "tuple", data := .seq (items.toList.take a).toArray } })
    (hsz : items.size ≤ sizeLine) : wpAny (model prog w) A (getItem (.ref t) (.ref sl)) Q E s := by
  have hok : sizeOk (.seq (items.toList.take a).toArray) := by
    show (items.toList.take a).toArray.size ≤ sizeLine
    rw [List.size_toArray, List.length_take, Array.length_toList]
    omega
  obtain ⟨os, hos, hcs, hds⟩ := id hs
  have hTs : s.TypeIs (.ref sl) "slice" := ⟨os, hos, hcs⟩
  unfold getItem
  try with_reducible refine wpAny_holding ?_
  first | refine wpAny_bind (wpAny_pure ?_) | skip
  refine wpAny_bind (wpAny_sequenceKey ht.typeIs (by decide) ?_)
  refine wpAny_bind (wpAny_callSpecial?_slot (name := Str.ofString "__getitem__") ht.typeIs slot_tuple_getitem
    (wpAny_call_entry slot_tuple_getitem ht.typeIs entry_tuple_getitem ?_ (args_tuple_getitem _ _)))
  show wpAny _ _ (Builtin.Tuple.tupleItemsOf (.ref t) >>= _) _ _ s
  refine wpAny_bind (tupleItemsOf_ ht ?_)
  refine wpAny_bind (wpAny_typeOf hTs ?_)
  rw [if_pos (by decide)]
  refine wpAny_bind (app_upto hs (Nat.le_of_lt ha) ?_)
  have hno : ¬ (((0 : Int) == 0 && (1 : Int) == 1 && a == items.size) = true) := by
    have : (a == items.size) = false := by rw [beq_eq_false_iff_ne]; omega
    rw [this]; simp
  show wpAny _ _ (if ((0 : Int) == 0 && (1 : Int) == 1 && a == items.size) = true then _ else _) _ _ s
  rw [if_neg hno, pick_upto items a]
  first
    | exact wpAny_bind (m := Builtin.Tuple.tupleExact _) (wpAny_newObj_type (wpAny_pure ⟨_, rfl, wpAny_pure h⟩) hok)
    | exact wpAny_bind (m := Builtin.Tuple.tupleExact _) (wpAny_newObj_type (wpAny_bind (wpAny_pure (wpAny_pure ⟨_, rfl, wpAny_pure h⟩))) hok)
    | exact wpAny_bind (wpAny_bind (m := Builtin.Tuple.tupleExact _) (wpAny_newObj_type (wpAny_pure (wpAny_pure ⟨_, rfl, wpAny_pure h⟩)) hok))
    | exact wpAny_bind (wpAny_bind (m := Builtin.Tuple.tupleExact _) (wpAny_newObj_type (wpAny_pure ⟨_, rfl, wpAny_pure h⟩) hok))
theorem tup_upto {value slice : Expr} {t : Addr} {items : Array Value} {a : Nat} {u : Tok} {Q : Value → Shared → Prop}
    (F : Fr h₀ L s.heap m) (N : News h₀ L s.heap news) (ht : IsTup s.heap t items) (ha : a < items.size)
    (h : ∀ D h', Fr h₀ L h' m → News h₀ L h' ((D, { cls := .type "tuple", data := .seq (items.toList.take a).toArray }) :: news) → (∀ p ∈ news, p.1 < D) → Q (.ref D) { s with heap := h' })
    (hs : subscripted slice false (.ref t) (.ref s.heap.objs.size) = operate [.ref s.heap.objs.size, .ref t] (getItem (.ref t) (.ref s.heap.objs.size)))
    (hg : ∀ r, letTemporaryGo value (.ref t) r = pure ())
    (hsz : items.size ≤ sizeLine) :
    wpAny (model prog w) A (subscriptTail value slice (.ref t) (.ref s.heap.objs.size)) Q E { s with heap := s.heap.push { cls := .type "slice", data := .fields #[.none, .int a u, .none] } } := by
  have ht' : IsTup (s.heap.push { cls := .type "slice", data := .fields #[.none, .int a u, .none] }) t items := ht.keeps fun _ _ e => Heap.get?_push_of_some _ e
  refine subscriptTail_ops (s := { s with heap := s.heap.push { cls := .type "slice", data := .fields #[.none, .int a u, .none] } }) ht'.typeIs slot_tuple_getitem.lookup
    (get_upto ht' (Heap.IsSliceOf.new ..) ha ?_ hsz) hs hg
  have N1 := News.push (F.push { cls := .type "slice", data := .fields #[.none, .int a u, .none] }) (N.grown fun _ _ e => Heap.get?_push_of_some _ e) { cls := .type "tuple", data := .seq (items.toList.take a).toArray }
  rw [Heap.size_push] at N1
  show Q (.ref (s.heap.push _).objs.size) _
  rw [Heap.size_push]
  exact h _ _ ((F.push _).push _) N1 fun p hp => Nat.lt_succ_of_lt (Heap.lt_size (N p hp).1)
end
end Mine
end
section
open PySem PySem.W PyProof.Rows PySem.Spec PySem.Calls
namespace Mine
noncomputable def tupO (vs : List Value) (n : Nat) : Obj := { cls := .type "tuple", data := .seq vs.toArray n }
theorem st_open {tl : List (Addr × Obj)} {r : Value} {st : St} (h : DatIn tl r (stDat st)) : ∃ a t1 lt tvs nt t2 vh va n, r = .ref a ∧ (a, tupO [.str st.text t1, .ref lt, .int (st.text.length : Int) t2, vh, va] n) ∈ tl ∧ (lt, listOf (List.toArray tvs) nt) ∈ tl ∧ DatAll tl tvs (st.told.map toldDat) := by
  obtain ⟨a, vs, n, rfl, m, r⟩ := di_tup h
  obtain ⟨v1, vs1, rfl, h1, r1⟩ := da_cons r
  obtain ⟨v2, vs2, rfl, h2, r2⟩ := da_cons r1
  obtain ⟨v3, vs3, rfl, h3, r3⟩ := da_cons r2
  obtain ⟨v4, vs4, rfl, h4, r4⟩ := da_cons r3
  obtain ⟨v5, vs5, rfl, h5, r5⟩ := da_cons r4
  obtain rfl := da_nil r5
  obtain ⟨t1, rfl⟩ := di_str h1
  obtain ⟨lt, tvs, nt, rfl, m2, d2⟩ := di_list h2
  obtain ⟨t2, rfl⟩ := di_int h3
  exact ⟨a, t1, lt, tvs, nt, t2, v4, v5, n, rfl, m, m2, d2⟩
theorem st_elim {tl : List (Addr × Obj)} {r : Value} {st : St} {g : Prop} (h : DatIn tl r (stDat st)) (k : ∀ a t1 lt tvs nt t2 vh va n, r = .ref a → (a, tupO [.str st.text t1, .ref lt, .int (st.text.length : Int) t2, vh, va] n) ∈ tl → (lt, listOf (List.toArray tvs) nt) ∈ tl → DatAll tl tvs (st.told.map toldDat) → g) : g := by
  obtain ⟨a, t1, lt, tvs, nt, t2, vh, va, n, e, m1, m2, d⟩ := st_open h
  exact k a t1 lt tvs nt t2 vh va n e m1 m2 d
theorem st_ref {tl : List (Addr × Obj)} {r : Value} {st : St} (h : DatIn tl r (stDat st)) : ∃ a, r = .ref a := by
  obtain ⟨a, _, _, _, _, _, _, _, _, e, _⟩ := st_open h
  exact ⟨a, e⟩
theorem tup_is {h₀ h : Heap} {L a : Addr} {news : List (Addr × Obj)} {vs : List Value} {n : Nat} (N : News h₀ L h news) (hm : (a, tupO vs n) ∈ news) : IsTup h a vs.toArray := ⟨_, (N _ hm).1, rfl, _, rfl⟩
end Mine
namespace Mine
theorem dat_bools {news : List (Addr × Obj)} {vs : List Value} {b : Bool} {bs : List Bool} (h : DatAll news vs ((b :: bs).map .bool)) : ∃ vs', vs = .bool b :: vs' ∧ DatAll news vs' (bs.map .bool) := by
  rw [List.map_cons] at h
  cases h with
  | cons h r => cases h; exact ⟨_, rfl, r⟩
/-- what the pattern function hands back -/
theorem pat_got {tl : List (Addr × Obj)} {r : Value} {x : Int} (h : DatIn tl r (.tuple [.list ((patRow x ((x.fdiv 5).fmod 5).toNat).map .int), .list ((patDots x ((x.fdiv 5).fmod 5).toNat).map .bool)])) :
    ∃ row d0 ds a lr ld rvs dvs nr nd n, r = .ref a ∧ (a, tupO [.ref lr, .ref ld] n) ∈ tl ∧ (lr, listOf (List.toArray rvs) nr) ∈ tl ∧ (ld, listOf (List.toArray (.bool d0 :: dvs)) nd) ∈ tl ∧ IntsAre rvs row ∧ DatAll tl dvs (List.map Dat.bool ds) ∧ (∀ k ∈ row, InK k) ∧ ds.length = row.length ∧ row.length ≤ 4 := by
  have hb : (0 : Int) ≤ (x.fdiv 5).fmod 5 ∧ (x.fdiv 5).fmod 5 < 5 := ⟨Int.fmod_nonneg_of_pos _ (by omega), Int.fmod_lt_of_pos _ (by omega)⟩
  have hn : ((x.fdiv 5).fmod 5).toNat ≤ 4 := by omega
  generalize ((x.fdiv 5).fmod 5).toNat = n at *
  obtain ⟨a, vs, n3, rfl, m, r⟩ := di_tup h
  obtain ⟨v1, vs1, rfl, h1, r1⟩ := da_cons r
  obtain ⟨v2, vs2, rfl, h2, r2⟩ := da_cons r1
  obtain rfl := da_nil r2
  obtain ⟨lr, rvs, nr, rfl, m1, q1⟩ := di_list h1
  obtain ⟨ld, dv0, nd, rfl, m2, q2⟩ := di_list h2
  unfold patDots at q2
  obtain ⟨dvs, rfl, q3⟩ := dat_bools q2
  refine ⟨patRow x n, _, _, a, lr, ld, rvs, dvs, nr, nd, n3, rfl, m, m1, m2, datInts q1, q3, ?_, ?_, ?_⟩
  · intro k hk
    unfold patRow at hk
    obtain ⟨i, _, rfl⟩ := List.mem_map.mp hk
    exact inK_mod _
  · simp [patRow]
  · simp [patRow, hn]
theorem pat_elim {tl : List (Addr × Obj)} {r : Value} {x : Int} {g : Prop} (h : DatIn tl r (.tuple [.list ((patRow x ((x.fdiv 5).fmod 5).toNat).map .int), .list ((patDots x ((x.fdiv 5).fmod 5).toNat).map .bool)]))
    (k : ∀ row d0 ds a lr ld rvs dvs nr nd n, r = .ref a → (a, tupO [.ref lr, .ref ld] n) ∈ tl → (lr, listOf (List.toArray rvs) nr) ∈ tl → (ld, listOf (List.toArray (.bool d0 :: dvs)) nd) ∈ tl → IntsAre rvs row → DatAll tl dvs (List.map Dat.bool ds) → (∀ k ∈ row, InK k) → ds.length = row.length → row.length ≤ 4 → g) : g := by
  obtain ⟨row, d0, ds, a, lr, ld, rvs, dvs, nr, nd, n, e, m1, m2, m3, i, d, p, q, z⟩ := pat_got h
  exact k row d0 ds a lr ld rvs dvs nr nd n e m1 m2 m3 i d p q z
theorem body_succ {pieces : List Str} {l : List (Int × Bool)} {i : Nat} {p : Int × Bool} (h : l[i]? = some p) : bodyOf pieces (l.take (i + 1)) = bodyOf pieces (l.take i) ++ pieceAt pieces p.1 ++ dotS p.2 := by
  unfold bodyOf
  rw [List.take_add_one, h, List.foldl_append]
  rfl
theorem piece_got {pieces : List Str} {pvs : List Value} (h : StrsAre pvs pieces) (h5 : pieces.length = 5) {k : Int} (hk : InK k) : ∃ t, pvs[k.toNat]? = some (.str (pieceAt pieces k) t) := by
  refine strs_get h ?_
  have hl : k.toNat < pieces.length := by
    have h1 := hk.1
    have h2 := hk.2
    omega
  unfold pieceAt
  rw [List.getD, List.getElem?_eq_getElem hl]
  rfl
end Mine
namespace Mine
section
variable {M : Model} {A : Around} {E : Value → Shared → Prop} {s : Shared} {env : Env}
theorem ifexp_dots {test : Expr} {k1 k2 : Nat} {p1 p2 pos : Pos} {Q : Value → Shared → Prop}
    (h : wpAny M A (isTrue test env (eval test env)) (fun c s₂ => Q (.str (dotS c) s₂.toks) { s₂ with toks := s₂.toks + 1 }) E s) :
    wpAny M A (eval (.IfExp test (.Constant (.str (Str.ofString "...")) k1 p1) (.Constant (.str (Str.ofString "")) k2 p2) pos) env) Q E s :=
  IfExp_ (wpAny_mono h (fun c s₂ h₂ => by
    cases c with
    | true => exact PySem.Calls.Constant_str h₂
    | false => exact PySem.Calls.Constant_str h₂) fun _ _ e => e)
theorem dotS_len (b : Bool) : (dotS b).length ≤ 3 := by cases b <;> decide +kernel
end
end Mine
namespace Mine
theorem bools_any {n1 n2 : List (Addr × Obj)} : ∀ {vs : List Value} {bs : List Bool}, DatAll n1 vs (bs.map .bool) → DatAll n2 vs (bs.map .bool)
  | [], [], _ => .nil
  | [], _ :: _, h => by cases h
  | _ :: _, [], h => by cases h
  | v :: vs, n :: ns, h => by
    cases h with
    | cons h r => cases h; exact .cons (.bool _) (bools_any r)
theorem len4 : (Str.ofString "....").length = 4 := by decide +kernel
theorem len1 : (Str.ofString ".").length = 1 := by decide +kernel
end Mine
end
local macro_rules | `(tactic| walk_at "PAD 4") => `(tactic| skip)
local macro_rules | `(tactic| walk_at "PAD 5") => `(tactic| skip)
section
open PySem PySem.W PyProof.Rows PySem.Spec PySem.Calls
namespace Mine
theorem fillK9 (w : World) (h : Heap) : (hd.heap_39 (World.params w)).In h → (RowW.prog (OpenRow.toRowW (OpenLaw.row Challenge.rw_mr0099_01))) = (RowW.prog (OpenRow.toRowW (OpenLaw.row Challenge.rw_mr0099_01))) := by
  w_top off
  k_fill
  intro _
  rfl
set_option maxHeartbeats 8000000 in
theorem law_holds : PySem.Challenge.rw_mr0099_01.Holds := by
  refine hd ?_
  k_go0
  refine wp_gen2 ?po fun QF EF hQF hEF => ?_
  case po => with_unfolding_all passes_own
  (repeat' (first | ((fail_if_success (with_reducible show wpAny _ _ (pyIter (Value.ref _)) _ _ _)); (fail_if_success (with_reducible show wpAny _ _ (subscriptTail _ _ (Value.ref _) (Value.int _ _)) _ _ _)); (fail_if_success (with_reducible show wpAny _ _ (compareOp CmpOp.NotEq _ _) _ _ _)); (fail_if_success (with_reducible show wpAny _ _ (exec (Stmt.For _ _ _ _ _) _) _ _ _)); (fail_if_success (with_reducible show wpAny _ _ (call (Value.builtin "len") [Value.ref _]) _ _ _)); (fail_if_success (with_reducible show wpAny _ _ (call (Value.ref _) _) _ _ _)); first | ((with_reducible show wpAny _ _ (eval (Expr.IfExp _ _ _ _) _) _ _ _); refine ifexp_dots ?_) | (k_unfold; (try dsimp only)) | (k_end; wrow_close) | walk1 | (dsimp only; walk1) | (leave1; walk_say "STEP leave1"; try dsimp only) | fail "no step")))
  rename_i w0 s0 s1 mg0 mb0 hG hY fa oo pm cd dc kV ho hcd hg hX hV hT hB hTE hTW ns hsh hlay0 hLay hrr hl2 wa wb sl vs wc hL ra w1 r0 hI hr3 hcond hcond2 hD h1 X T K F N l0
  refine kin_tell _ _ _ _ _ _ _ hI (by omega) _ _ _ _ _ _ _ _ _ _ _ _ _ _ _ _ _ _ K F X N T rfl ?hd ?hu lifted ?_
  case hd => decide
  case hu => decide
  intro r tl h' tk' F1 N1 hoff1 hp
  refine Exists.elim hp fun ps hp1 => Exists.elim hp1 fun rs hp2 => and5 hp2 fun hps hrs hP hR hr => ?_
  clear hp2 hp1 hp
  clear hY hG ho hcd hX hV hT hB hTE hTW hsh hlay0 hLay hrr hl2 ra w1 r0 hr3 hD hL
  cases hr with
  | tuple mr dr =>
    cases dr with
    | cons d1 dr =>
      cases dr with
      | cons d2 dr =>
        cases dr
        (repeat' (first | ((fail_if_success (with_reducible show wpAny _ _ (pyIter (Value.ref _)) _ _ _)); (fail_if_success (with_reducible show wpAny _ _ (subscriptTail _ _ (Value.ref _) (Value.int _ _)) _ _ _)); (fail_if_success (with_reducible show wpAny _ _ (compareOp CmpOp.NotEq _ _) _ _ _)); (fail_if_success (with_reducible show wpAny _ _ (exec (Stmt.For _ _ _ _ _) _) _ _ _)); (fail_if_success (with_reducible show wpAny _ _ (call (Value.builtin "len") [Value.ref _]) _ _ _)); (fail_if_success (with_reducible show wpAny _ _ (call (Value.ref _) _) _ _ _)); first | ((with_reducible show wpAny _ _ (eval (Expr.IfExp _ _ _ _) _) _ _ _); refine ifexp_dots ?_) | (k_unfold; (try dsimp only)) | (k_end; wrow_close) | walk1 | (dsimp only; walk1) | (leave1; walk_say "STEP leave1"; try dsimp only) | fail "no step")))
        rename_i l9 h9 lA1 DA wsA hA hIA hCA hLA lA2 DN wsN hN hIN lN h2 F2 N2
        have hn90 : ∀ p ∈ ((DN, W.listOf wsN.toArray 0) :: tl), p.1 ≠ 90 := by
          intro p hp
          rcases List.mem_cons.mp hp with rfl | hp
          · have h3 : (90 : Nat) < DN := lN.2.2.1
            exact Nat.ne_of_gt h3
          · exact fun e => hoff1 _ (.head _) p hp e.symm
        have N3 : News (ghostOf (Shared.heap s1) [(94, 90)]) (Array.size (Heap.objs (Shared.heap s1))) h2 ((90, tabObj #[]) :: ((DN, W.listOf wsN.toArray 0) :: tl)) := fun p hp => N2 p (by
          rcases List.mem_cons.mp hp with rfl | hp
          · exact .tail _ (.tail _ (.tail _ (.head _)))
          rcases List.mem_cons.mp hp with rfl | hp
          · exact .head _
          · exact .tail _ (.tail _ (.tail _ (.tail _ hp))))
        have hgood : ∀ p ∈ ps, OkS p ∧ GoodP p ∧ p.length ≤ 4 := fun p hp => by
          obtain ⟨k, hk⟩ := List.getElem?_of_mem hp
          exact ok_piece (hP k p hk) (by rw [← hps]; exact (List.getElem?_eq_some_iff.mp hk).1)
        have hgoodR : ∀ p ∈ rs, GoodP p := fun p hp => by
          obtain ⟨k, hk, hk2⟩ := hR p hp
          exact (ok_piece hk2 hk).2.1
        obtain ⟨nums, hnums⟩ : ∃ l, l = [53020, 33341, 760, 382, 2511, 28292, 332] ++ List.take 6 ns := ⟨_, rfl⟩
        have hnl : nums.length ≤ 13 := by
          rw [hnums, List.length_append, List.length_take]
          simp only [List.length_cons, List.length_nil]
          omega
        rw [← hnums] at hIN
        clear hnums hCA hIA hLA lA1 lA2 N2 mr
        refine laid_tell _ _ _ _ nums ps rs _ _ _ _ _ _ _ _ _ _ _ _ _ _ _ _ _ _ _ K F2 X N3 T rfl ?hd ?hu ?pre hn90 codeHd ?_
        case hd => decide
        case hu => decide
        case pre => exact ⟨.list (.head _) (ints_dat hIN), d1.mono fun _ h => .tail _ h, d2.mono fun _ h => .tail _ h, by omega, hps, fun p hp => (hgood p hp).2.2, fun p hp => (hgood p hp).2.1, hgoodR⟩
        intro r1 qs tl1 h3 tk3 F3 N4 hoff2 hoff3 hd1
        clear N3 F2
        (repeat' (first | ((fail_if_success (with_reducible show wpAny _ _ (pyIter (Value.ref _)) _ _ _)); (fail_if_success (with_reducible show wpAny _ _ (subscriptTail _ _ (Value.ref _) (Value.int _ _)) _ _ _)); (fail_if_success (with_reducible show wpAny _ _ (compareOp CmpOp.NotEq _ _) _ _ _)); (fail_if_success (with_reducible show wpAny _ _ (exec (Stmt.For _ _ _ _ _) _) _ _ _)); (fail_if_success (with_reducible show wpAny _ _ (call (Value.builtin "len") [Value.ref _]) _ _ _)); (fail_if_success (with_reducible show wpAny _ _ (call (Value.ref _) _) _ _ _)); first | ((with_reducible show wpAny _ _ (eval (Expr.IfExp _ _ _ _) _) _ _ _); refine ifexp_dots ?_) | (k_unfold; (try dsimp only)) | (k_end; wrow_close) | walk1 | (dsimp only; walk1) | (leave1; walk_say "STEP leave1"; try dsimp only) | fail "no step")))
        rename_i F4 N5
        refine due_tell _ _ _ _ nums ps rs _ _ _ _ _ _ _ _ _ _ _ _ _ _ _ _ _ _ _ _ _ K F4 X N5 T rfl ?hd ?hu ?pre ?_
        case hd => decide
        case hu => decide
        case pre => exact ⟨.list (.tail _ (.head _)) (ints_dat hIN), d1.mono fun _ h => .tail _ (.tail _ (List.mem_append_left _ h)), d2.mono fun _ h => .tail _ (.tail _ (List.mem_append_left _ h)), by omega, hps, fun p hp => (hgood p hp).2.2⟩
        intro r2 tl2 h4 tk4 F5 N6 hoff4 hd2
        refine st_elim hd1 fun a1 t1 lt tvs nt t2 vh va n1 e1 m1 m2 D2 => ?_
        obtain ⟨a2, e2⟩ := st_ref hd2
        subst e1 e2
        (repeat' (first | ((fail_if_success (with_reducible show wpAny _ _ (pyIter (Value.ref _)) _ _ _)); (fail_if_success (with_reducible show wpAny _ _ (subscriptTail _ _ (Value.ref _) (Value.int _ _)) _ _ _)); (fail_if_success (with_reducible show wpAny _ _ (compareOp CmpOp.NotEq _ _) _ _ _)); (fail_if_success (with_reducible show wpAny _ _ (exec (Stmt.For _ _ _ _ _) _) _ _ _)); (fail_if_success (with_reducible show wpAny _ _ (call (Value.builtin "len") [Value.ref _]) _ _ _)); (fail_if_success (with_reducible show wpAny _ _ (call (Value.ref _) _) _ _ _)); first | ((with_reducible show wpAny _ _ (eval (Expr.IfExp _ _ _ _) _) _ _ _); refine ifexp_dots ?_) | (k_unfold; (try dsimp only)) | (k_end; wrow_close) | walk1 | (dsimp only; walk1) | (leave1; walk_say "STEP leave1"; try dsimp only) | fail "no step")))
        refine ne_same N6 (hd1.mono fun p hp => List.mem_append_left _ (.tail _ (List.mem_append_right _ hp))) (hd2.mono fun p hp => List.mem_append_right _ hp) (kqd_st (ok_st (fun p hp => (hgood p hp).1) nums)) ?hu ?_
        case hu => exact (by decide : 7 + 64 < cLine)
        (repeat' (first | ((fail_if_success (with_reducible show wpAny _ _ (pyIter (Value.ref _)) _ _ _)); (fail_if_success (with_reducible show wpAny _ _ (subscriptTail _ _ (Value.ref _) _) _ _ _)); (fail_if_success (with_reducible show wpAny _ _ (compareOp CmpOp.NotEq _ _) _ _ _)); (fail_if_success (with_reducible show wpAny _ _ (exec (Stmt.For _ _ _ _ _) _) _ _ _)); (fail_if_success (with_reducible show wpAny _ _ (call (Value.builtin "len") [Value.ref _]) _ _ _)); (fail_if_success (with_reducible show wpAny _ _ (call (Value.ref _) _) _ _ _)); (fail_if_success (with_reducible show wpAny _ _ (call (Value.type "zip") _) _ _ _)); (fail_if_success (with_reducible show wpAny _ _ (binaryOp Operator.Add (Value.ref _) (Value.ref _)) _ _ _)); first | ((with_reducible show wpAny _ _ (eval (Expr.IfExp _ _ _ _) _) _ _ _); refine ifexp_dots ?_) | (k_unfold; (try dsimp only)) | (k_end; wrow_close) | walk1 | (dsimp only; walk1) | (leave1; walk_say "STEP leave1"; try dsimp only) | fail "no step")))
        have N7 : News (ghostOf (Shared.heap s1) [(94, 90)]) (Array.size (Heap.objs (Shared.heap s1))) h4 ((90, tabObj qs) :: (DN, W.listOf (List.toArray wsN) 0) :: (lt, listOf (List.toArray tvs) nt) :: (tl ++ tl1)) := fun p hp => N6 p (by
          refine List.mem_append_left _ ?_
          rcases List.mem_cons.mp hp with rfl | hp
          · exact .head _
          rcases List.mem_cons.mp hp with rfl | hp
          · exact .tail _ (.head _)
          rcases List.mem_cons.mp hp with rfl | hp
          · exact .tail _ (List.mem_append_right _ m2)
          · rcases List.mem_append.mp hp with hp | hp
            · exact .tail _ (.tail _ (List.mem_append_left _ hp))
            · exact .tail _ (List.mem_append_right _ hp))
        refine tup_upto (s := ⟨_, _, _, _, _⟩) (a := 3) F5 N7 (tup_is N6 (List.mem_append_left _ (.tail _ (List.mem_append_right _ m1)))) ?hlt ?_ ?hs ?hg ?hz
        case hlt => show 3 < 5; decide
        case hs => with_unfolding_all rfl
        case hg => intro _; with_unfolding_all rfl
        case hz => rw [sizeLine_eq]; show 5 ≤ _; decide
        intro D h5 F6 N8 l1
        (try dsimp only)
        (repeat' (first | ((fail_if_success (with_reducible show wpAny _ _ (pyIter (Value.ref _)) _ _ _)); (fail_if_success (with_reducible show wpAny _ _ (subscriptTail _ _ (Value.ref _) _) _ _ _)); (fail_if_success (with_reducible show wpAny _ _ (compareOp CmpOp.NotEq _ _) _ _ _)); (fail_if_success (with_reducible show wpAny _ _ (exec (Stmt.For _ _ _ _ _) _) _ _ _)); (fail_if_success (with_reducible show wpAny _ _ (call (Value.builtin "len") [Value.ref _]) _ _ _)); (fail_if_success (with_reducible show wpAny _ _ (call (Value.ref _) _) _ _ _)); (fail_if_success (with_reducible show wpAny _ _ (call (Value.type "zip") _) _ _ _)); (fail_if_success (with_reducible show wpAny _ _ (binaryOp Operator.Add (Value.ref _) (Value.ref _)) _ _ _)); first | ((with_reducible show wpAny _ _ (eval (Expr.IfExp _ _ _ _) _) _ _ _); refine ifexp_dots ?_) | (k_unfold; (try dsimp only)) | (k_end; wrow_close) | walk1 | (dsimp only; walk1) | (leave1; walk_say "STEP leave1"; try dsimp only) | fail "no step")))
        (rename Fr _ _ _ _ => F7); (rename News _ _ _ _ => N9)
        have hlen : wsN.length = nums.length := hIN.length
        generalize hoD : Obj.mk (Value.type "tuple") _ _ _ = oD at N9
        generalize hB0 : (D, oD) :: (90, tabObj qs) :: (DN, W.listOf (List.toArray wsN) 0) :: (lt, W.listOf (List.toArray tvs) nt) :: (tl ++ tl1) = B0 at N9
        have b9 : (90, tabObj qs) ∈ B0 := hB0 ▸ .tail _ (.head _)
        have b1 : (DN, W.listOf (List.toArray wsN) 0) ∈ B0 := hB0 ▸ .tail _ (.tail _ (.head _))
        have b2 : (lt, W.listOf (List.toArray tvs) nt) ∈ B0 := hB0 ▸ .tail _ (.tail _ (.tail _ (.head _)))
        have b3 : ∀ p ∈ tl ++ tl1, p ∈ B0 := hB0 ▸ fun p hp => .tail _ (.tail _ (.tail _ (.tail _ hp)))
        have d3 : DatAll B0 tvs ((stOf ps rs nums).told.map toldDat) := D2.mono fun p hp => b3 p (List.mem_append_right _ hp)
        have d4 := d1.mono fun p hp => b3 p (List.mem_append_left _ hp)
        clear hB0 hd1 hd2 D2 m1 m2 hoff1 hoff2 hoff3 hoff4 hn90 lN d1 d2 b3 l1
        (with_unfolding_all refine' For_invVF F7 ?k1 ?k2 ?_; (case k1 => exact rfl); (case k2 => exact rfl))
        (repeat' (first | ((fail_if_success (with_reducible show wpAny _ _ (pyIter (Value.ref _)) _ _ _)); (fail_if_success (with_reducible show wpAny _ _ (subscriptTail _ _ (Value.ref _) _) _ _ _)); (fail_if_success (with_reducible show wpAny _ _ (compareOp CmpOp.NotEq _ _) _ _ _)); (fail_if_success (with_reducible show wpAny _ _ (exec (Stmt.For _ _ _ _ _) _) _ _ _)); (fail_if_success (with_reducible show wpAny _ _ (call (Value.builtin "len") [Value.ref _]) _ _ _)); (fail_if_success (with_reducible show wpAny _ _ (call (Value.ref _) _) _ _ _)); (fail_if_success (with_reducible show wpAny _ _ (call (Value.type "zip") _) _ _ _)); (fail_if_success (with_reducible show wpAny _ _ (binaryOp Operator.Add (Value.ref _) (Value.ref _)) _ _ _)); first | ((with_reducible show wpAny _ _ (eval (Expr.IfExp _ _ _ _) _) _ _ _); refine ifexp_dots ?_) | (k_unfold; (try dsimp only)) | (k_end; wrow_close) | walk1 | (dsimp only; walk1) | (leave1; walk_say "STEP leave1"; try dsimp only) | fail "no step")))
        (rename Fr _ _ _ _ => F7); (rename News _ _ _ _ => N9)
        cases d4 with
        | list mp dp =>
        rename_i lp pvs np
        have dpS := datStrs dp
        refine' loop_list (σ := Unit) (vs := wsN) (fun _ => [(Str.ofString "pieces", .ref lp), (Str.ofString "text", .str (stOf ps rs nums).text t1), (Str.ofString "told", .ref lt), (Str.ofString "size", .int ((stOf ps rs nums).text.length : Int) t2)]) (fun _ => []) (fun tl _ => ∀ p ∈ B0, p ∈ tl) (fun _ _ => True) [] rfl (News.isList N9 b1) (N9 _ b1).2.1 (List.not_mem_nil) (fun _ => rfl) F7 N9 () B0 (fun _ h => h) (fun _ _ _ hb => nomatch hb) (fun _ h => h) ?hk trivial ?turn ?done
        case hk => ((repeat' (first | exact List.forall_mem_nil _ | refine Mine.fac (by with_unfolding_all rfl) ?_)))
        case turn =>
          clear F7 N9
          intro i v c tl9 own u h tk hi hv ho hF hI F2 N2
          refine wp_gen fun QT hQT => ?_
          clear hI ho
          dsimp only [List.nil_append] at N2
          obtain ⟨x, tx, rfl, hx⟩ := hIN.at i v hv
          (repeat' (first | ((fail_if_success (with_reducible show wpAny _ _ (pyIter (Value.ref _)) _ _ _)); (fail_if_success (with_reducible show wpAny _ _ (subscriptTail _ _ (Value.ref _) _) _ _ _)); (fail_if_success (with_reducible show wpAny _ _ (compareOp CmpOp.NotEq _ _) _ _ _)); (fail_if_success (with_reducible show wpAny _ _ (exec (Stmt.For _ _ _ _ _) _) _ _ _)); (fail_if_success (with_reducible show wpAny _ _ (call (Value.builtin "len") [Value.ref _]) _ _ _)); (fail_if_success (with_reducible show wpAny _ _ (call (Value.ref _) _) _ _ _)); (fail_if_success (with_reducible show wpAny _ _ (call (Value.type "zip") _) _ _ _)); (fail_if_success (with_reducible show wpAny _ _ (binaryOp Operator.Add (Value.ref _) (Value.ref _)) _ _ _)); first | ((with_reducible show wpAny _ _ (eval (Expr.IfExp _ _ _ _) _) _ _ _); refine ifexp_dots ?_) | (k_unfold; (try dsimp only)) | (k_end; wrow_close) | walk1 | (dsimp only; walk1) | (leave1; walk_say "STEP leave1"; try dsimp only) | fail "no step")))
          refine pat_tell _ _ _ _ x tx _ _ _ _ _ _ _ _ _ _ _ _ _ _ _ _ _ _ K F2 X N2 T rfl ?hd ?hu trivial ?_
          case hd => decide
          case hu => decide
          intro r tl3 h6 tk6 F3 N3 hoff5 hd3
          refine pat_elim hd3 fun row d0 ds a3 lr ld rvs dvs nr nd n3 e3 m3 m4 m5 D3 D4 hrow hds hrl => ?_
          subst e3
          have N4 : News (ghostOf (Shared.heap s1) [(94, 90)]) (Array.size (Heap.objs (Shared.heap s1))) h6 ((a3, tupO [.ref lr, .ref ld] n3) :: (lr, listOf (List.toArray rvs) nr) :: (ld, listOf (List.toArray (.bool d0 :: dvs)) nd) :: (tl9 ++ own)) := fun p hp => N3 p (by
            rcases List.mem_cons.mp hp with rfl | hp
            · exact List.mem_append_right _ m3
            rcases List.mem_cons.mp hp with rfl | hp
            · exact List.mem_append_right _ m4
            rcases List.mem_cons.mp hp with rfl | hp
            · exact List.mem_append_right _ m5
            · exact List.mem_append_left _ hp)
          unfold tupO at N4
          clear hd3 m3 m4 m5 hoff5 N3 N2
          (repeat' (first | ((fail_if_success (with_reducible show wpAny _ _ (pyIter (Value.ref _)) _ _ _)); (fail_if_success (with_reducible show wpAny _ _ (subscriptTail _ _ (Value.ref _) _) _ _ _)); (fail_if_success (with_reducible show wpAny _ _ (compareOp CmpOp.NotEq _ _) _ _ _)); (fail_if_success (with_reducible show wpAny _ _ (exec (Stmt.For _ _ _ _ _) _) _ _ _)); (fail_if_success (with_reducible show wpAny _ _ (call (Value.builtin "len") [Value.ref _]) _ _ _)); (fail_if_success (with_reducible show wpAny _ _ (call (Value.ref _) _) _ _ _)); (fail_if_success (with_reducible show wpAny _ _ (call (Value.type "zip") _) _ _ _)); (fail_if_success (with_reducible show wpAny _ _ (binaryOp Operator.Add (Value.ref _) (Value.ref _)) _ _ _)); first | ((with_reducible show wpAny _ _ (eval (Expr.IfExp _ _ _ _) _) _ _ _); refine ifexp_dots ?_) | (k_unfold; (try dsimp only)) | (k_end; wrow_close) | walk1 | (dsimp only; walk1) | (leave1; walk_say "STEP leave1"; try dsimp only) | fail "no step")))
          (rename Fr _ _ _ _ => F4); (rename News _ _ _ _ => N5)
          generalize hB1 : (a3, _) :: (lr, _) :: (ld, _) :: (tl9 ++ own) = B1 at N5
          have b4 : (lr, listOf (List.toArray rvs) nr) ∈ B1 := hB1 ▸ .tail _ (.head _)
          have b5 : (ld, listOf (List.toArray (.bool d0 :: dvs)) nd) ∈ B1 := hB1 ▸ .tail _ (.tail _ (.head _))
          have b6 : ∀ p ∈ tl9 ++ own, p ∈ B1 := hB1 ▸ fun p hp => .tail _ (.tail _ (.tail _ hp))
          have b7 : (lp, listOf (List.toArray pvs) np) ∈ B1 := b6 _ (List.mem_append_left _ (hF _ mp))
          clear hB1
          have hrv : rvs.length = row.length := D3.length
          have hdv : dvs.length = ds.length := by rw [D4.length, List.length_map]
          refine For_pairs ?_
          (repeat' (first | ((fail_if_success (with_reducible show wpAny _ _ (pyIter (Value.ref _)) _ _ _)); (fail_if_success (with_reducible show wpAny _ _ (subscriptTail _ _ (Value.ref _) _) _ _ _)); (fail_if_success (with_reducible show wpAny _ _ (compareOp CmpOp.NotEq _ _) _ _ _)); (fail_if_success (with_reducible show wpAny _ _ (exec (Stmt.For _ _ _ _ _) _) _ _ _)); (fail_if_success (with_reducible show wpAny _ _ (call (Value.builtin "len") [Value.ref _]) _ _ _)); (fail_if_success (with_reducible show wpAny _ _ (call (Value.ref _) _) _ _ _)); (fail_if_success (with_reducible show wpAny _ _ (call (Value.type "zip") _) _ _ _)); (fail_if_success (with_reducible show wpAny _ _ (binaryOp Operator.Add (Value.ref _) (Value.ref _)) _ _ _)); first | ((with_reducible show wpAny _ _ (eval (Expr.IfExp _ _ _ _) _) _ _ _); refine ifexp_dots ?_) | (k_unfold; (try dsimp only)) | (k_end; wrow_close) | walk1 | (dsimp only; walk1) | (leave1; walk_say "STEP leave1"; try dsimp only) | fail "no step")))
          refine kmk_slice (s := ⟨_, _, _, _, _⟩) F4 N5 (News.isList N5 b5) (IsPart.int _ _) IsPart.none ?_ ?hs ?ht ?hz
          case hs => with_unfolding_all rfl
          case ht => intro _; with_unfolding_all rfl
          case hz => rw [sizeLine_eq, List.size_toArray, List.length_cons]; omega
          intro lz h7 F5 N6 lz1
          rw [show (1 : Int) = ((1 : Nat) : Int) from rfl, slicePick_from'] at N6
          have ez : (List.drop 1 (Array.toList (List.toArray (Value.bool d0 :: dvs)))).toArray = dvs.toArray := rfl
          rw [ez] at N6
          (try dsimp only)
          (repeat' (first | ((fail_if_success (with_reducible show wpAny _ _ (pyIter (Value.ref _)) _ _ _)); (fail_if_success (with_reducible show wpAny _ _ (subscriptTail _ _ (Value.ref _) _) _ _ _)); (fail_if_success (with_reducible show wpAny _ _ (compareOp CmpOp.NotEq _ _) _ _ _)); (fail_if_success (with_reducible show wpAny _ _ (exec (Stmt.For _ _ _ _ _) _) _ _ _)); (fail_if_success (with_reducible show wpAny _ _ (call (Value.builtin "len") [Value.ref _]) _ _ _)); (fail_if_success (with_reducible show wpAny _ _ (call (Value.ref _) _) _ _ _)); (fail_if_success (with_reducible show wpAny _ _ (call (Value.type "zip") _) _ _ _)); (fail_if_success (with_reducible show wpAny _ _ (binaryOp Operator.Add (Value.ref _) (Value.ref _)) _ _ _)); first | ((with_reducible show wpAny _ _ (eval (Expr.IfExp _ _ _ _) _) _ _ _); refine ifexp_dots ?_) | (k_unfold; (try dsimp only)) | (k_end; wrow_close) | walk1 | (dsimp only; walk1) | (leave1; walk_say "STEP leave1"; try dsimp only) | fail "no step")))
          have hL0 : ∀ p ∈ B1, p.1 ≠ Array.size (Heap.objs (Shared.heap s1)) := fun p hp => (N5 p hp).2.1
          have hLz : lz ≠ Array.size (Heap.objs (Shared.heap s1)) := (N6 _ (.head _)).2.1
          have hbl : ∀ j, (bodyOf ps ((row.zip ds).take j)).length ≤ 28 := fun j => by
            refine Nat.le_trans (body_len hps hP _ (fun p hp => hrow _ (List.of_mem_zip (List.mem_of_mem_take hp)).1)) ?_
            have := List.length_take_le' j (row.zip ds)
            rw [List.length_zip] at this
            omega
          refine' loop_zip (σ := Str × Tok) (h₀ := ghostOf (Shared.heap s1) [(94, 90)]) (vs1 := rvs) (vs2 := dvs) (fun c => [(Str.ofString "pieces", .ref lp), (Str.ofString "text", .str (stOf ps rs nums).text t1), (Str.ofString "told", .ref lt), (Str.ofString "size", .int ((stOf ps rs nums).text.length : Int) t2), (Str.ofString "row", .ref lr), (Str.ofString "dots", .ref ld), (Str.ofString "body", .str c.1 c.2)]) (fun _ => []) (fun tl _ => ∀ p ∈ (lz, listOf (List.toArray dvs) 0) :: B1, p ∈ tl) (fun j c => c.1 = bodyOf ps ((row.zip ds).take j)) [] rfl (News.isList N6 (.tail _ b4)) (News.isList N6 (.head _)) (hL0 _ b4) hLz (List.not_mem_nil) (List.not_mem_nil) rfl rfl hEF (fun _ => rfl) F5 N6 (_, _) ((lz, listOf (List.toArray dvs) 0) :: B1) (fun _ h => h) (fun _ _ _ hb => nomatch hb) (fun _ h => h) ?hkb ?h0b ?turnb ?doneb
          case hkb => ((repeat' (first | exact List.forall_mem_nil _ | refine Mine.fac (by with_unfolding_all rfl) ?_)))
          case h0b => rfl
          case turnb =>
            clear F4 N5 F5 N6 F2
            intro j v0 v1 c tl8 own8 u8 h8 tk8 hj hv0 hv1 ho8 hF8 hI8 F6 N7
            refine wp_gen_in fun QU hQU => ?_
            dsimp only [List.nil_append] at N7
            obtain ⟨bd, tb⟩ := c
            (try dsimp only at hI8 F6)
            obtain ⟨k, tk9, rfl, hk⟩ := D3.at j v0 hv0
            obtain ⟨fr, rfl, hfr⟩ := datBoolAt D4 hv1
            have hbj := hbl j
            rw [← hI8] at hbj
            (repeat' (first | ((fail_if_success (with_reducible show wpAny _ _ (pyIter (Value.ref _)) _ _ _)); (fail_if_success (with_reducible show wpAny _ _ (subscriptTail _ _ (Value.ref _) _) _ _ _)); (fail_if_success (with_reducible show wpAny _ _ (compareOp CmpOp.NotEq _ _) _ _ _)); (fail_if_success (with_reducible show wpAny _ _ (exec (Stmt.For _ _ _ _ _) _) _ _ _)); (fail_if_success (with_reducible show wpAny _ _ (call (Value.builtin "len") [Value.ref _]) _ _ _)); (fail_if_success (with_reducible show wpAny _ _ (call (Value.ref _) _) _ _ _)); (fail_if_success (with_reducible show wpAny _ _ (call (Value.type "zip") _) _ _ _)); (fail_if_success (with_reducible show wpAny _ _ (binaryOp Operator.Add (Value.ref _) (Value.ref _)) _ _ _)); first | ((with_reducible show wpAny _ _ (eval (Expr.IfExp _ _ _ _) _) _ _ _); refine ifexp_dots ?_) | (k_unfold; (try dsimp only)) | (k_end; wrow_close) | walk1 | (dsimp only; walk1) | (leave1; walk_say "STEP leave1"; try dsimp only) | fail "no step")))
            (rename Fr _ _ _ _ => F7); (rename News _ _ _ _ => N8)
            have hk2 : InK k := hrow k (List.mem_of_getElem? hk)
            obtain ⟨tp, hpa⟩ := piece_got dpS hps hk2
            have hpl : (pieceAt ps k).length ≤ 4 := by
              unfold pieceAt
              have hl : k.toNat < ps.length := by
                have h1 := hk2.1
                have h2 := hk2.2
                omega
              rw [List.getD, List.getElem?_eq_getElem hl]
              exact (hgood _ (List.getElem_mem hl)).2.2
            have hbs : bodyOf ps ((row.zip ds).take (j + 1)) = bd ++ pieceAt ps k ++ dotS fr := by
              rw [hI8]
              exact body_succ (p := (k, fr)) (by rw [List.getElem?_zip_eq_some]; exact ⟨hk, hfr⟩)
            refine item_at (News.isList N8 (List.mem_append_left _ (hF8 _ (.tail _ b7)))) hk2.1 (by have := hk2.2; omega) hpa ?_ (by with_unfolding_all rfl)
            have hdl := dotS_len fr
            (repeat' (first | ((fail_if_success (with_reducible show wpAny _ _ (pyIter (Value.ref _)) _ _ _)); (fail_if_success (with_reducible show wpAny _ _ (subscriptTail _ _ (Value.ref _) _) _ _ _)); (fail_if_success (with_reducible show wpAny _ _ (compareOp CmpOp.NotEq _ _) _ _ _)); (fail_if_success (with_reducible show wpAny _ _ (exec (Stmt.For _ _ _ _ _) _) _ _ _)); (fail_if_success (with_reducible show wpAny _ _ (call (Value.builtin "len") [Value.ref _]) _ _ _)); (fail_if_success (with_reducible show wpAny _ _ (call (Value.ref _) _) _ _ _)); (fail_if_success (with_reducible show wpAny _ _ (call (Value.type "zip") _) _ _ _)); (fail_if_success (with_reducible show wpAny _ _ (binaryOp Operator.Add (Value.ref _) (Value.ref _)) _ _ _)); first | ((with_reducible show wpAny _ _ (eval (Expr.IfExp _ _ _ _) _) _ _ _); refine ifexp_dots ?_) | (k_unfold; (try dsimp only)) | (k_end; wrow_close) | walk1 | (dsimp only; walk1) | (leave1; walk_say "STEP leave1"; try dsimp only) | fail "no step")))
            (rename Fr _ _ _ _ => FE); (rename News _ _ _ _ => NE)
            exact hQU _ _ (lend (_, _) [] FE NE (fun p hp => hp) (fun _ h => nomatch h) hF8 (by ((repeat' (first | exact List.forall_mem_nil _ | refine Mine.fac (by with_unfolding_all rfl) ?_)))) hbs.symm)
          case doneb =>
            clear F4 N5 F5 N6 F2
            intro c tl8 u8 h8 tk8 ho8 hF8 hI8 F6 N7
            dsimp only [List.nil_append] at N7
            obtain ⟨bd, tb⟩ := c
            (try dsimp only at hI8 F6)
            have hmin : (row.zip ds).take (min rvs.length dvs.length) = row.zip ds := List.take_of_length_le (by rw [List.length_zip]; omega)
            rw [hmin] at hI8
            have hbj := hbl (row.zip ds).length
            rw [List.take_length, ← hI8] at hbj
            have hsB := stOf_B (pieces := ps) (refused := rs) hps (fun p hp => (hgood p hp).2.2) nums nums.length (Nat.le_refl _)
            rw [List.take_length] at hsB
            have hP1 := plain_one (refused := rs) hps hP nums (row := row) (d0 := d0) (ds := ds) hrow hds
            have hP2 := plain_two (refused := rs) hps hP nums (row := row) (ds := ds) hrow hds
            rw [← hI8] at hP1 hP2
            generalize stOf ps rs nums = st at *
            obtain ⟨hs1, hs2, _, _⟩ := hsB
            have hdl := dotS_len d0
            (repeat' (first | ((fail_if_success (with_reducible show wpAny _ _ (pyIter (Value.ref _)) _ _ _)); (fail_if_success (with_reducible show wpAny _ _ (subscriptTail _ _ (Value.ref _) _) _ _ _)); (fail_if_success (with_reducible show wpAny _ _ (compareOp CmpOp.NotEq _ _) _ _ _)); (fail_if_success (with_reducible show wpAny _ _ (exec (Stmt.For _ _ _ _ _) _) _ _ _)); (fail_if_success (with_reducible show wpAny _ _ (call (Value.builtin "len") [Value.ref _]) _ _ _)); (fail_if_success (with_reducible show wpAny _ _ (call (Value.ref _) _) _ _ _)); (fail_if_success (with_reducible show wpAny _ _ (call (Value.type "zip") _) _ _ _)); (fail_if_success (with_reducible show wpAny _ _ (binaryOp Operator.Add (Value.ref _) (Value.ref _)) _ _ _)); first | ((with_reducible show wpAny _ _ (eval (Expr.IfExp _ _ _ _) _) _ _ _); refine ifexp_dots ?_) | (k_unfold; (try dsimp only)) | (k_end; wrow_close) | walk1 | (dsimp only; walk1) | (leave1; walk_say "STEP leave1"; try dsimp only) | fail "no step")))
            refine item_at (k := 0) (v := .bool d0) (News.isList N7 (hF8 _ (.tail _ b5))) (by decide) (by decide) rfl ?_ (by with_unfolding_all rfl)
            (repeat' (first | ((fail_if_success (with_reducible show wpAny _ _ (pyIter (Value.ref _)) _ _ _)); (fail_if_success (with_reducible show wpAny _ _ (subscriptTail _ _ (Value.ref _) _) _ _ _)); (fail_if_success (with_reducible show wpAny _ _ (compareOp CmpOp.NotEq _ _) _ _ _)); (fail_if_success (with_reducible show wpAny _ _ (exec (Stmt.For _ _ _ _ _) _) _ _ _)); (fail_if_success (with_reducible show wpAny _ _ (call (Value.builtin "len") [Value.ref _]) _ _ _)); (fail_if_success (with_reducible show wpAny _ _ (call (Value.ref _) _) _ _ _)); (fail_if_success (with_reducible show wpAny _ _ (call (Value.type "zip") _) _ _ _)); (fail_if_success (with_reducible show wpAny _ _ (binaryOp Operator.Add (Value.ref _) (Value.ref _)) _ _ _)); first | ((with_reducible show wpAny _ _ (eval (Expr.IfExp _ _ _ _) _) _ _ _); refine ifexp_dots ?_) | (k_unfold; (try dsimp only)) | (k_end; wrow_close) | walk1 | (dsimp only; walk1) | (leave1; walk_say "STEP leave1"; try dsimp only) | fail "no step")))
            (rename Fr _ _ _ _ => F7); (rename News _ _ _ _ => N8)
            refine ell_tell _ _ _ _ _ _ _ _ _ _ _ _ _ _ _ _ _ _ _ _ _ _ _ _ _ _ K F7 X N8 T rfl ?hd ?hu ?pre ?_
            case hd => decide
            case hu => decide
            case pre => exact ⟨by rw [Str.length_append]; omega, by omega⟩
            intro r tl4 h9 tk9 F8 N9 hoff4 hr4
            subst hr4
            rw [hP1]
            (try dsimp only)
            have hmem : ∀ p ∈ B0, p ∈ tl8 := fun p hp => hF8 _ (.tail _ (b6 _ (List.mem_append_left _ (hF p hp))))
            have q1 : DatIn tl8 (.ref lr) (.list (row.map .int)) := .list (hF8 _ (.tail _ b4)) (ints_dat D3)
            have q2 : DatIn tl8 (.ref ld) (.list ((d0 :: ds).map .bool)) := .list (hF8 _ (.tail _ b5)) (.cons (.bool d0) (bools_any D4))
            have q3 : DatIn tl8 (.ref lt) (.list (st.told.map toldDat)) := .list (hmem _ b2) (d3.mono hmem)
            replace N9 : News (ghostOf (Shared.heap s1) [(94, 90)]) (Array.size (Heap.objs (Shared.heap s1))) h9 tl8 := fun p hp => N9 p (List.mem_append_left _ hp)
            clear hoff4 F7 N8
            (repeat' (first | ((fail_if_success (with_reducible show wpAny _ _ (pyIter (Value.ref _)) _ _ _)); (fail_if_success (with_reducible show wpAny _ _ (subscriptTail _ _ (Value.ref _) _) _ _ _)); (fail_if_success (with_reducible show wpAny _ _ (compareOp CmpOp.NotEq _ _) _ _ _)); (fail_if_success (with_reducible show wpAny _ _ (exec (Stmt.For _ _ _ _ _) _) _ _ _)); (fail_if_success (with_reducible show wpAny _ _ (call (Value.builtin "len") [Value.ref _]) _ _ _)); (fail_if_success (with_reducible show wpAny _ _ (call (Value.ref _) _) _ _ _)); (fail_if_success (with_reducible show wpAny _ _ (call (Value.type "zip") _) _ _ _)); (fail_if_success (with_reducible show wpAny _ _ (binaryOp Operator.Add (Value.ref _) (Value.ref _)) _ _ _)); first | ((with_reducible show wpAny _ _ (eval (Expr.IfExp _ _ _ _) _) _ _ _); refine ifexp_dots ?_) | (k_unfold; (try dsimp only)) | (k_end; wrow_close) | walk1 | (dsimp only; walk1) | (leave1; walk_say "STEP leave1"; try dsimp only) | fail "no step")))
            (rename Fr _ _ _ _ => F7); (rename News _ _ _ _ => N8)
            refine ell_tell _ _ _ _ _ _ _ _ _ _ _ _ _ _ _ _ _ _ _ _ _ _ _ _ _ _ K F7 X N8 T rfl ?hd ?hu ?pre ?_
            case hd => decide
            case hu => decide
            case pre => exact ⟨by rw [Str.length_append, len4]; omega, by rw [Str.length_append, len1]; omega⟩
            intro r tl5 hA tkA FA NA hoff5 hr5
            subst hr5
            rw [hP2]
            (try dsimp only)
            replace NA : News (ghostOf (Shared.heap s1) [(94, 90)]) (Array.size (Heap.objs (Shared.heap s1))) hA tl8 := fun p hp => NA p (List.mem_append_left _ hp)
            clear hoff5 F7 N8
            (repeat' (first | ((fail_if_success (with_reducible show wpAny _ _ (pyIter (Value.ref _)) _ _ _)); (fail_if_success (with_reducible show wpAny _ _ (subscriptTail _ _ (Value.ref _) _) _ _ _)); (fail_if_success (with_reducible show wpAny _ _ (compareOp CmpOp.NotEq _ _) _ _ _)); (fail_if_success (with_reducible show wpAny _ _ (exec (Stmt.For _ _ _ _ _) _) _ _ _)); (fail_if_success (with_reducible show wpAny _ _ (call (Value.builtin "len") [Value.ref _]) _ _ _)); (fail_if_success (with_reducible show wpAny _ _ (call (Value.ref _) _) _ _ _)); (fail_if_success (with_reducible show wpAny _ _ (call (Value.type "zip") _) _ _ _)); (fail_if_success (with_reducible show wpAny _ _ (binaryOp Operator.Add (Value.ref _) (Value.ref _)) _ _ _)); first | ((with_reducible show wpAny _ _ (eval (Expr.IfExp _ _ _ _) _) _ _ _); refine ifexp_dots ?_) | (k_unfold; (try dsimp only)) | (k_end; wrow_close) | walk1 | (dsimp only; walk1) | (leave1; walk_say "STEP leave1"; try dsimp only) | fail "no step")))
            (rename Fr _ _ _ _ => F7); (rename News _ _ _ _ => N8)
            generalize hg1 : fits row (d0 :: ds) st.told (st.text.length : Int) = g1 at N8
            generalize hg2 : fits row (false :: ds) st.told (st.text.length : Int) = g2 at N8
            refine fit_tell _ _ _ _ row (d0 :: ds) st.told _ _ _ _ _ _ _ _ _ _ _ _ _ _ _ _ _ _ _ _ _ _ _ K F7 X N8 T rfl ?hd ?hu ?pre ?_
            case hd => decide
            case hu => decide
            case pre => exact ⟨q1.mono fun p hp => .tail _ hp, q2.mono fun p hp => .tail _ hp, q3.mono fun p hp => .tail _ hp, by omega, List.cons_ne_nil _ _⟩
            intro r tl6 hB tkB FB NB hoff6 hr6
            subst hr6
            rw [hg1]
            (try dsimp only)
            replace NB : News (ghostOf (Shared.heap s1) [(94, 90)]) (Array.size (Heap.objs (Shared.heap s1))) hB ((_, listOf #[Value.bool g1, Value.bool g2] 0) :: tl8) := fun p hp => NB p (List.mem_append_left _ hp)
            clear hoff6 F7 N8
            (repeat' (first | ((fail_if_success (with_reducible show wpAny _ _ (pyIter (Value.ref _)) _ _ _)); (fail_if_success (with_reducible show wpAny _ _ (subscriptTail _ _ (Value.ref _) _) _ _ _)); (fail_if_success (with_reducible show wpAny _ _ (compareOp CmpOp.NotEq _ _) _ _ _)); (fail_if_success (with_reducible show wpAny _ _ (exec (Stmt.For _ _ _ _ _) _) _ _ _)); (fail_if_success (with_reducible show wpAny _ _ (call (Value.builtin "len") [Value.ref _]) _ _ _)); (fail_if_success (with_reducible show wpAny _ _ (call (Value.ref _) _) _ _ _)); (fail_if_success (with_reducible show wpAny _ _ (call (Value.type "zip") _) _ _ _)); (fail_if_success (with_reducible show wpAny _ _ (binaryOp Operator.Add (Value.ref _) (Value.ref _)) _ _ _)); first | ((with_reducible show wpAny _ _ (eval (Expr.IfExp _ _ _ _) _) _ _ _); refine ifexp_dots ?_) | (k_unfold; (try dsimp only)) | (k_end; wrow_close) | walk1 | (dsimp only; walk1) | (leave1; walk_say "STEP leave1"; try dsimp only) | fail "no step")))
            (rename Fr _ _ _ _ => F7); (rename News _ _ _ _ => N8)
            refine kmk_slice (s := ⟨_, _, _, _, _⟩) F7 N8 (News.isList N8 (.tail _ (.tail _ (hF8 _ (.tail _ b5))))) (IsPart.int _ _) IsPart.none ?_ ?hs ?ht ?hz
            case hs => with_unfolding_all rfl
            case ht => intro _; with_unfolding_all rfl
            case hz => rw [sizeLine_eq, List.size_toArray, List.length_cons]; omega
            intro lz2 hC FC NC lz3
            rw [show (1 : Int) = ((1 : Nat) : Int) from rfl, slicePick_from', ez] at NC
            (try dsimp only)
            clear F7 N8
            (repeat' (first | ((fail_if_success (with_reducible show wpAny _ _ (pyIter (Value.ref _)) _ _ _)); (fail_if_success (with_reducible show wpAny _ _ (subscriptTail _ _ (Value.ref _) _) _ _ _)); (fail_if_success (with_reducible show wpAny _ _ (compareOp CmpOp.NotEq _ _) _ _ _)); (fail_if_success (with_reducible show wpAny _ _ (exec (Stmt.For _ _ _ _ _) _) _ _ _)); (fail_if_success (with_reducible show wpAny _ _ (call (Value.builtin "len") [Value.ref _]) _ _ _)); (fail_if_success (with_reducible show wpAny _ _ (call (Value.ref _) _) _ _ _)); (fail_if_success (with_reducible show wpAny _ _ (call (Value.type "zip") _) _ _ _)); (fail_if_success (with_reducible show wpAny _ _ (binaryOp Operator.Add (Value.ref _) (Value.ref _)) _ _ _)); first | ((with_reducible show wpAny _ _ (eval (Expr.IfExp _ _ _ _) _) _ _ _); refine ifexp_dots ?_) | (k_unfold; (try dsimp only)) | (k_end; wrow_close) | walk1 | (dsimp only; walk1) | (leave1; walk_say "STEP leave1"; try dsimp only) | fail "no step")))
            (rename Fr _ _ _ _ => F7); (rename News _ _ _ _ => N8)
            refine add_lists (vs := [.bool false]) (ws := dvs) F7 N8 (News.isList N8 (.tail _ (.head _))) (News.isList N8 (.head _)) ?_ (by rw [sizeLine_eq, List.length_singleton]; omega)
            intro hD FD ND
            (try dsimp only at FD ND ⊢)
            clear F7 N8
            (repeat' (first | ((fail_if_success (with_reducible show wpAny _ _ (pyIter (Value.ref _)) _ _ _)); (fail_if_success (with_reducible show wpAny _ _ (subscriptTail _ _ (Value.ref _) _) _ _ _)); (fail_if_success (with_reducible show wpAny _ _ (compareOp CmpOp.NotEq _ _) _ _ _)); (fail_if_success (with_reducible show wpAny _ _ (exec (Stmt.For _ _ _ _ _) _) _ _ _)); (fail_if_success (with_reducible show wpAny _ _ (call (Value.builtin "len") [Value.ref _]) _ _ _)); (fail_if_success (with_reducible show wpAny _ _ (call (Value.ref _) _) _ _ _)); (fail_if_success (with_reducible show wpAny _ _ (call (Value.type "zip") _) _ _ _)); (fail_if_success (with_reducible show wpAny _ _ (binaryOp Operator.Add (Value.ref _) (Value.ref _)) _ _ _)); first | ((with_reducible show wpAny _ _ (eval (Expr.IfExp _ _ _ _) _) _ _ _); refine ifexp_dots ?_) | (k_unfold; (try dsimp only)) | (k_end; wrow_close) | walk1 | (dsimp only; walk1) | (leave1; walk_say "STEP leave1"; try dsimp only) | fail "no step")))
            (rename Fr _ _ _ _ => F7); (rename News _ _ _ _ => N8)
            refine fit_tell _ _ _ _ row (false :: ds) st.told _ _ _ _ _ _ _ _ _ _ _ _ _ _ _ _ _ _ _ _ _ _ _ K F7 X N8 T rfl ?hd ?hu ?pre ?_
            case hd => decide
            case hu => decide
            case pre => exact ⟨q1.mono fun p hp => .tail _ (.tail _ (.tail _ (.tail _ hp))), .list (.head _) (.cons (.bool false) (bools_any D4)), q3.mono fun p hp => .tail _ (.tail _ (.tail _ (.tail _ hp))), by omega, List.cons_ne_nil _ _⟩
            intro r tl7 hE tkE FE NE hoff7 hr7
            subst hr7
            rw [hg2]
            (try dsimp only)
            replace NE : News (ghostOf (Shared.heap s1) [(94, 90)]) (Array.size (Heap.objs (Shared.heap s1))) hE ((_, listOf #[Value.bool g1, Value.bool g2] 0) :: tl8) := fun p hp => NE p (List.mem_append_left _ (.tail _ (.tail _ (.tail _ hp))))
            clear hoff7 F7 N8
            (repeat' (first | ((fail_if_success (with_reducible show wpAny _ _ (pyIter (Value.ref _)) _ _ _)); (fail_if_success (with_reducible show wpAny _ _ (subscriptTail _ _ (Value.ref _) _) _ _ _)); (fail_if_success (with_reducible show wpAny _ _ (compareOp CmpOp.NotEq _ _) _ _ _)); (fail_if_success (with_reducible show wpAny _ _ (exec (Stmt.For _ _ _ _ _) _) _ _ _)); (fail_if_success (with_reducible show wpAny _ _ (call (Value.builtin "len") [Value.ref _]) _ _ _)); (fail_if_success (with_reducible show wpAny _ _ (call (Value.ref _) _) _ _ _)); (fail_if_success (with_reducible show wpAny _ _ (call (Value.type "zip") _) _ _ _)); (fail_if_success (with_reducible show wpAny _ _ (binaryOp Operator.Add (Value.ref _) (Value.ref _)) _ _ _)); first | ((with_reducible show wpAny _ _ (eval (Expr.IfExp _ _ _ _) _) _ _ _); refine ifexp_dots ?_) | (k_unfold; (try dsimp only)) | (k_end; wrow_close) | walk1 | (dsimp only; walk1) | (leave1; walk_say "STEP leave1"; try dsimp only) | fail "no step")))
            (rename Fr _ _ _ _ => F7); (rename News _ _ _ _ => N8)
            refine ne_bools N8 (.tail _ (.head _)) (.head _) ?hu ?_
            case hu => exact (by decide : 7 + 64 < cLine)
            (repeat' (first | ((fail_if_success (with_reducible show wpAny _ _ (pyIter (Value.ref _)) _ _ _)); (fail_if_success (with_reducible show wpAny _ _ (subscriptTail _ _ (Value.ref _) _) _ _ _)); (fail_if_success (with_reducible show wpAny _ _ (compareOp CmpOp.NotEq _ _) _ _ _)); (fail_if_success (with_reducible show wpAny _ _ (exec (Stmt.For _ _ _ _ _) _) _ _ _)); (fail_if_success (with_reducible show wpAny _ _ (call (Value.builtin "len") [Value.ref _]) _ _ _)); (fail_if_success (with_reducible show wpAny _ _ (call (Value.ref _) _) _ _ _)); (fail_if_success (with_reducible show wpAny _ _ (call (Value.type "zip") _) _ _ _)); (fail_if_success (with_reducible show wpAny _ _ (binaryOp Operator.Add (Value.ref _) (Value.ref _)) _ _ _)); first | ((with_reducible show wpAny _ _ (eval (Expr.IfExp _ _ _ _) _) _ _ _); refine ifexp_dots ?_) | (k_unfold; (try dsimp only)) | (k_end; wrow_close) | walk1 | (dsimp only; walk1) | (leave1; walk_say "STEP leave1"; try dsimp only) | fail "no step")))
            (rename News _ _ _ _ => NC1); (rename _ ∧ _ ∧ LCg.Off3 _ _ _ _ => off1)
            refine LCg.CompEnd.intro (by assumption) NC1 _ (fun p hp => hp) off1 (.inr ⟨_, .tail _ (.head _), rfl, _, rfl⟩) ?_
            clear NC1 off1
            (repeat' (first | ((fail_if_success (with_reducible show wpAny _ _ (pyIter (Value.ref _)) _ _ _)); (fail_if_success (with_reducible show wpAny _ _ (subscriptTail _ _ (Value.ref _) _) _ _ _)); (fail_if_success (with_reducible show wpAny _ _ (compareOp CmpOp.NotEq _ _) _ _ _)); (fail_if_success (with_reducible show wpAny _ _ (exec (Stmt.For _ _ _ _ _) _) _ _ _)); (fail_if_success (with_reducible show wpAny _ _ (call (Value.builtin "len") [Value.ref _]) _ _ _)); (fail_if_success (with_reducible show wpAny _ _ (call (Value.ref _) _) _ _ _)); (fail_if_success (with_reducible show wpAny _ _ (call (Value.type "zip") _) _ _ _)); (fail_if_success (with_reducible show wpAny _ _ (binaryOp Operator.Add (Value.ref _) (Value.ref _)) _ _ _)); first | ((with_reducible show wpAny _ _ (eval (Expr.IfExp _ _ _ _) _) _ _ _); refine ifexp_dots ?_) | (k_unfold; (try dsimp only)) | (k_end; wrow_close) | walk1 | (dsimp only; walk1) | (leave1; walk_say "STEP leave1"; try dsimp only) | fail "no step")))
            (rename News _ _ _ _ => NC1); (rename _ ∧ _ ∧ LCg.Off3 _ _ _ _ => off1)
            refine LCg.CompEnd.intro (by assumption) NC1 _ (fun p hp => hp) off1 (.inr ⟨_, .tail _ (.head _), rfl, _, rfl⟩) ?_
            clear NC1 off1
            (repeat' (first | ((fail_if_success (with_reducible show wpAny _ _ (pyIter (Value.ref _)) _ _ _)); (fail_if_success (with_reducible show wpAny _ _ (subscriptTail _ _ (Value.ref _) _) _ _ _)); (fail_if_success (with_reducible show wpAny _ _ (compareOp CmpOp.NotEq _ _) _ _ _)); (fail_if_success (with_reducible show wpAny _ _ (exec (Stmt.For _ _ _ _ _) _) _ _ _)); (fail_if_success (with_reducible show wpAny _ _ (call (Value.builtin "len") [Value.ref _]) _ _ _)); (fail_if_success (with_reducible show wpAny _ _ (call (Value.ref _) _) _ _ _)); (fail_if_success (with_reducible show wpAny _ _ (call (Value.type "zip") _) _ _ _)); (fail_if_success (with_reducible show wpAny _ _ (binaryOp Operator.Add (Value.ref _) (Value.ref _)) _ _ _)); first | ((with_reducible show wpAny _ _ (eval (Expr.IfExp _ _ _ _) _) _ _ _); refine ifexp_dots ?_) | (k_unfold; (try dsimp only)) | (k_end; wrow_close) | walk1 | (dsimp only; walk1) | (leave1; walk_say "STEP leave1"; try dsimp only) | fail "no step")))
            (rename News _ _ _ _ => NZ)
            refine ne_nils NZ (.tail _ (.head _)) (.head _) ?hu ?_
            case hu => exact (by decide : 7 + 64 < cLine)
            (repeat' (first | ((fail_if_success (with_reducible show wpAny _ _ (pyIter (Value.ref _)) _ _ _)); (fail_if_success (with_reducible show wpAny _ _ (subscriptTail _ _ (Value.ref _) _) _ _ _)); (fail_if_success (with_reducible show wpAny _ _ (compareOp CmpOp.NotEq _ _) _ _ _)); (fail_if_success (with_reducible show wpAny _ _ (exec (Stmt.For _ _ _ _ _) _) _ _ _)); (fail_if_success (with_reducible show wpAny _ _ (call (Value.builtin "len") [Value.ref _]) _ _ _)); (fail_if_success (with_reducible show wpAny _ _ (call (Value.ref _) _) _ _ _)); (fail_if_success (with_reducible show wpAny _ _ (call (Value.type "zip") _) _ _ _)); (fail_if_success (with_reducible show wpAny _ _ (binaryOp Operator.Add (Value.ref _) (Value.ref _)) _ _ _)); first | ((with_reducible show wpAny _ _ (eval (Expr.IfExp _ _ _ _) _) _ _ _); refine ifexp_dots ?_) | (k_unfold; (try dsimp only)) | (k_end; wrow_close) | walk1 | (dsimp only; walk1) | (leave1; walk_say "STEP leave1"; try dsimp only) | fail "no step")))
            (rename Fr _ _ _ _ => FE); (rename News _ _ _ _ => NE)
            exact hQT _ _ (lend () [] FE NE (fun p hp => .tail _ (.tail _ (.tail _ (.tail _ (hF8 _ (.tail _ (b6 p hp))))))) (fun _ h => nomatch h) hF (by ((repeat' (first | exact List.forall_mem_nil _ | refine Mine.fac (by with_unfolding_all rfl) ?_)))) trivial)
        case done =>
          intro c tl9 u h tk ho hF hI F2 N2
          dsimp only [List.nil_append] at N2
          iterate 4 (try ((first | ((fail_if_success (with_reducible show wpAny _ _ (pyIter (Value.ref _)) _ _ _)); (fail_if_success (with_reducible show wpAny _ _ (subscriptTail _ _ (Value.ref _) _) _ _ _)); (fail_if_success (with_reducible show wpAny _ _ (compareOp CmpOp.NotEq _ _) _ _ _)); (fail_if_success (with_reducible show wpAny _ _ (exec (Stmt.For _ _ _ _ _) _) _ _ _)); (fail_if_success (with_reducible show wpAny _ _ (call (Value.builtin "len") [Value.ref _]) _ _ _)); (fail_if_success (with_reducible show wpAny _ _ (call (Value.ref _) _) _ _ _)); (fail_if_success (with_reducible show wpAny _ _ (call (Value.type "zip") _) _ _ _)); (fail_if_success (with_reducible show wpAny _ _ (binaryOp Operator.Add (Value.ref _) (Value.ref _)) _ _ _)); first | ((with_reducible show wpAny _ _ (eval (Expr.IfExp _ _ _ _) _) _ _ _); refine ifexp_dots ?_) | (k_unfold; (try dsimp only)) | (k_end; wrow_close) | walk1 | (dsimp only; walk1) | (leave1; walk_say "STEP leave1"; try dsimp only) | fail "no step"))))
          refine hQF _ _ ?_
          iterate 2 (try ((first | ((fail_if_success (with_reducible show wpAny _ _ (pyIter (Value.ref _)) _ _ _)); (fail_if_success (with_reducible show wpAny _ _ (subscriptTail _ _ (Value.ref _) _) _ _ _)); (fail_if_success (with_reducible show wpAny _ _ (compareOp CmpOp.NotEq _ _) _ _ _)); (fail_if_success (with_reducible show wpAny _ _ (exec (Stmt.For _ _ _ _ _) _) _ _ _)); (fail_if_success (with_reducible show wpAny _ _ (call (Value.builtin "len") [Value.ref _]) _ _ _)); (fail_if_success (with_reducible show wpAny _ _ (call (Value.ref _) _) _ _ _)); (fail_if_success (with_reducible show wpAny _ _ (call (Value.type "zip") _) _ _ _)); (fail_if_success (with_reducible show wpAny _ _ (binaryOp Operator.Add (Value.ref _) (Value.ref _)) _ _ _)); first | ((with_reducible show wpAny _ _ (eval (Expr.IfExp _ _ _ _) _) _ _ _); refine ifexp_dots ?_) | (k_unfold; (try dsimp only)) | (k_end; wrow_close) | walk1 | (dsimp only; walk1) | (leave1; walk_say "STEP leave1"; try dsimp only) | fail "no step"))))
          · exact ⟨GrownAt.of N2 (hF _ b9), trivial⟩
end Mine
end
theorem PySem.Challenge.cw_mr0099_01_holds : PySem.Challenge.rw_mr0099_01.Holds := by
  exact Mine.law_holds
