import PyProof.Rows.All
import Wide.All
import OpenK.AllK
import Wide.FinOn
import Lean
import PySem.Challenge.RW_ty0034_01
open PySem PySem.W PyProof.Rows PySem.Calls PySem.Spec
set_option Elab.async false
set_option maxRecDepth 100000
set_option linter.unusedVariables false
set_option compiler.extract_closed false
namespace Mine
section
structure Hid (P : Prop) : Prop where
  out : P
def vw : Program := { PySem.Challenge.pw_ty0034_01 with main := { PySem.Challenge.pw_ty0034_01.main with body := (PySem.Challenge.pw_ty0034_01.main.body.drop 1).take 5 ++ (PySem.Challenge.pw_ty0034_01.main.body.drop 11).take 1 ++ (PySem.Challenge.pw_ty0034_01.main.body.drop 13).take 2 ++ PySem.Challenge.pw_ty0034_01.main.body.drop 16 } }
local macro_rules | `(tactic| o_head $H) => `(tactic| (refine holds_open (q := vw) (loose := [PySem.Str.ofString "insort_right", PySem.Str.ofString "bisect_right", PySem.Str.ofString "bisect_left"]) (Xt := fun s => xlAt vw [] s && recOk (RowW.records (OpenRow.toRowW (OpenLaw.row PySem.Challenge.rw_ty0034_01))) s) (XP := XL vw []) (Yf := Hook.obs $H) (Ya := Hook.val $H) (YP := Hook.says $H) (N := 1172) ?hl (Hook.of $H) (Hook.keeps $H) (fun s e => xl_of s (Bool.and_eq_true_iff.mp e).1) XL.keeps (by rfl) (by rfl) (by rfl) (fun s e => recFacts_of (Bool.and_eq_true_iff.mp e).2) (by rfl) (by first | assumption | decide +kernel) (by decide +kernel) ⟨rfl, rfl, rfl, rfl, rfl, by decide +kernel⟩ ?hw ?hc; (case hl => (intro w; kernel_rfl))))
set_option maxRecDepth 100000 in
set_option maxHeartbeats 8000000 in
def hdP : PSigma (fun P : Prop => Hid P → PySem.Challenge.rw_ty0034_01.Holds) := by
  apply PSigma.mk
  case snd =>
    intro hole
    w_on
    o_law
    k_head
    (case hw => w_witness2)
    w_top off
    exact hole.out
end

@[reducible] def ar (dp un : Nat) (fr : Option (List Env)) (gd : Option (List Code)) : Around := { handled := none, depth := dp, frames := fr, guards := gd, units := un }
def S (l : List Nat) : Str := ⟨l.toArray⟩
def Hold (P : Prop) : Prop := P
theorem hold {P : Prop} (h : Hold P) : P := h

theorem enter {prog : Program} {w : World} {A : Around} {s : Shared} {K : Frag} {p : Program} {loose : List Str} {mean : ExcName → Option Value} {mg mb : Str → Option Value}
    {R : Result → Shared → Prop} {name qual : Str} {params : Arguments} {body : List Stmt} {scope : Scope} {dV kV doc pm cdv ct oc : Value} {an od : Option Addr} {osl : Array (Option Value)} {f : Addr} {args : Args} {binds : List (Str × Value)}
    (X : K.In s.heap) (T : Top p loose mean mg mb s.heap)
    (ho : K.lookup f = some ⟨oc, od, .func (fnOf name qual params body scope dV kV doc pm an cdv ct), osl⟩) (hcd : codeIn K cdv qual = true) (hroom : A.depth < recursionLimit)
    (hbind : BindsTo s (fnOf name qual params body scope dV kV doc pm an cdv ct) args binds) (hloc : ∀ y ∈ binds, scope.names.lookup y.1 = some .local)
    (h : ∀ L h₁, Fr s.heap L h₁ (fun y => binds.reverse.lookup y) → News s.heap L h₁ [] →
      wpAny (model prog w) (A.deeper (envOf qual scope L f cdv)) (execs body (envOf qual scope L f cdv))
        (fun fl s' => R (.ok (.ret (match fl with | .ret v => v | _ => .none))) s')
        (fun _ _ => False)
        { s with heap := h₁, toks := s.toks + binds.length })
    (hco : scope.isCoroutine = false) (hgen : scope.isGenerator = false) (hk : scope.kind = .function)
    (hcell : ∀ x ∈ scope.names, x.2 ≠ .cell) : codeAny (model prog w) A (.call (.ref f) args) R s := by
  refine codeAny_call_def (fd := fnOf name qual params body scope dV kV doc pm an cdv ct) (body := body) (binds := binds) hroom (X _ _ ho) rfl T.nolimit (codeRec_of X hcd) rfl hbind hcell hloc (fun h₁ hns hk₁ => ?_) hco hgen hk
  exact wpAny_mono (h _ h₁ ⟨hns, hk₁, Nat.le_refl _⟩ News.nil) (fun _ _ x => x) (fun _ _ x => x.elim)

section
variable {h₀ h h' : Heap} {L : Addr} {m : Str → Option Value} {news : List (Addr × Obj)}
theorem stays_fr (F : Fr h₀ L h m) (st : h.StaysIn h') : Fr h₀ L h' m :=
  ⟨let ⟨o, es, ep, x, r⟩ := F.ns; ⟨o, es, ep, st _ _ x, r⟩, fun b o e => st _ _ (F.keep b o e), F.above⟩
theorem stays_news (N : News h₀ L h news) (st : h.StaysIn h') : News h₀ L h' news := fun p hp => ⟨st _ _ (N p hp).1, (N p hp).2⟩
theorem news_cons (F : Fr h₀ L h m) (N : News h₀ L h' news) {l : Addr} {o : Obj} (hl : h.get? l = none) (ho : h'.get? l = some o) : News h₀ L h' ((l, o) :: news) := by
  intro p hp
  rcases List.mem_cons.mp hp with rfl | hp
  · refine ⟨ho, fun e => ?_, ?_⟩
    · obtain ⟨oL, _, _, hL, _⟩ := F.ns
      have e' : l = L := e
      rw [e', hL] at hl
      cases hl
    · cases q : h₀.get? l with
      | none => rfl
      | some o' => have := F.keep _ _ q; rw [hl] at this; cases this
  · exact N p hp
theorem fr_forget (F : Fr h₀ L h m) {ps : List (Str × Value)} (h1 : ∀ p ∈ ps, m p.1 = some p.2) : Fr h₀ L h (kstB m ps) := by
  have em : kstB m ps = m := by
    funext y
    exact kstB_eq h1 fun _ => rfl
  rw [em]; exact F
end

section
variable {prog : Program} {w : World} {A : Around} {E : Value → Shared → Prop} {s : Shared} {env : Env} {h₀ : Heap} {body : List Stmt} {target : Expr} {Q : Flow → Shared → Prop}
def MIter (prog : Program) (w : World) (A : Around) (env : Env) (target : Expr) (body : List Stmt) (Q : Flow → Shared → Prop) (E : Value → Shared → Prop) (xv : Value) (s : Shared) : Prop :=
  wpAny (model prog w) A (pyIter xv) (fun it s₂ => codeAny (model prog w) A (.forLoop target it body [] env) (fun r s' => match r with | .ok f => Q f s' | .error e => cameBackBy (model prog w) A env E e s') s₂) E s
theorem for_mine {iter : Expr} {pos : Pos} (h : wpAny (model prog w) A (eval iter env) (fun xv s₁ => MIter prog w A env target body Q E xv s₁) E s) (hs : ∀ x, foldedSetIterable iter env x = pure x := by intro _; rfl) :
    wpAny (model prog w) A (exec (.For target iter body [] pos) env) Q E s := wpAny_For h hs

def FEnd {σ : Type} (h₀ : Heap) (L : Addr) (ps : σ → List (Str × Value)) (Led : σ → List (Addr × Obj)) (P : σ → Prop) (own : List (Addr × Obj)) (s s₂ : Shared) : Prop :=
  ∃ (c' : σ) (h' : Heap) (tk' : Nat) (m' : Str → Option Value) (nx' : List (Addr × Obj)), s₂ = { s with heap := h', toks := tk' } ∧ Fr h₀ L h' m' ∧ News h₀ L h' nx' ∧ (∀ p ∈ Led c' ++ own, p ∈ nx') ∧ (∀ p ∈ ps c', m' p.1 = some p.2) ∧ P c'
def FPost {σ : Type} (h₀ : Heap) (L : Addr) (ps : σ → List (Str × Value)) (Led : σ → List (Addr × Obj)) (P : σ → Prop) (own : List (Addr × Obj)) (Q : Flow → Shared → Prop) (s : Shared) (f : Flow) (s₂ : Shared) : Prop :=
  match f with
  | .ret v => Q (.ret v) s₂
  | .brk => Q .next s₂
  | _ => FEnd h₀ L ps Led P own s s₂
theorem FEnd.intro {σ : Type} {h₀ : Heap} {L : Addr} {ps : σ → List (Str × Value)} {Led : σ → List (Addr × Obj)} {P : σ → Prop} {own : List (Addr × Obj)} {s : Shared} (c' : σ) {h' : Heap} {tk' : Nat} {m' : Str → Option Value} {nx' : List (Addr × Obj)}
    (F : Fr h₀ L h' m') (N : News h₀ L h' nx') (hn : ∀ p ∈ Led c' ++ own, p ∈ nx') (hm : ∀ p ∈ ps c', m' p.1 = some p.2) (hP : P c') : FEnd h₀ L ps Led P own s { s with heap := h', toks := tk' } :=
  ⟨c', h', tk', m', nx', rfl, F, N, hn, hm, hP⟩

theorem led_ne {h₀ h : Heap} {L a : Addr} {l : List (Addr × Obj)} (N : News h₀ L h l) (ha : a ∈ l.map (·.1)) : a ≠ h.objs.size := by
  obtain ⟨q, hq, rfl⟩ := List.mem_map.mp ha
  exact Nat.ne_of_lt (Heap.lt_size (N q hq).1)
theorem led_same {σ : Type} {Led : σ → List (Addr × Obj)} {c₀ : σ} {R : (Addr × Obj) → Prop} (h : ∀ c, (Led c).map (·.1) = (Led c₀).map (·.1)) : ∀ c, ∀ p ∈ Led c, R p ∨ p.1 ∈ (Led c₀).map (·.1) :=
  fun c p hp => .inr (h c ▸ List.mem_map_of_mem hp)
theorem iter_core {σ : Type} (ps : σ → List (Str × Value)) (Led : σ → List (Addr × Obj)) (P : Nat → σ → Prop) (c₀ : σ) {I : Addr} {fp : List Addr} {n : Nat} {Pv : Nat → Value → Prop} {St : Nat → Heap → Prop} {itc : Value} {m : Str → Option Value}
    (W : Walks prog w A I fp [I] n Pv St) (hI0 : h₀.get? I = none) (hIL : I ≠ env.locals)
    (hit : ∀ i h, St i h → ∃ o, h.get? I = some o ∧ o.cls = itc) (hcls : ∀ c, ∀ p ∈ Led c, p.2.cls ≠ itc ∨ p.1 ≠ I)
    (stab : ∀ i h h' c u, St i h → (∀ o, h.get? I = some o → h'.get? I = some o) → Fr h₀ env.locals h' u → News h₀ env.locals h' (Led c) → St i h')
    (hgo : ∀ i (s' : Shared) v (Q' : Unit → Shared → Prop) (E' : Value → Shared → Prop), St i s'.heap → Q' () s' → wpAny (model prog w) A (letOwnedTupleGo target (.ref I) v) Q' E' s')
    (F : Fr h₀ env.locals s.heap m) (N : News h₀ env.locals s.heap (Led c₀)) (hm : ∀ p ∈ ps c₀, m p.1 = some p.2) (hP : P 0 c₀) (hst : St 0 s.heap)
    (turn : ∀ i v c u h tk oI, i < n → Pv i v → P i c → oI.cls = itc → Fr h₀ env.locals h (kstB u (ps c)) → News h₀ env.locals h (Led c ++ [(I, oI)]) →
      wpAny (model prog w) A (assign target env v) (fun _ s₁ => wpAny (model prog w) A (execs body env) (FPost h₀ env.locals ps Led (P (i + 1)) [(I, oI)] Q { s with heap := h, toks := tk }) E s₁) E { s with heap := h, toks := tk })
    (done : ∀ c u h tk, P n c → Fr h₀ env.locals h (kstB u (ps c)) → News h₀ env.locals h (Led c) → Q .next { s with heap := h, toks := tk })
    (hE : PassesOwn (model prog w) A env E) :
    codeAny (model prog w) A (.forLoop target (.ref I) body [] env) (fun r s' => match r with | .ok f => Q f s' | .error e => cameBackBy (model prog w) A env E e s') s := by
  refine codeAny_forLoop_any
    (fun k s' => ∃ h' tk u c i, s' = { s with heap := h', toks := tk } ∧ St i h' ∧ Fr h₀ env.locals h' (kstB u (ps c)) ∧ News h₀ env.locals h' (Led c) ∧ P i c ∧ i ≤ n ∧ k = n + 1 - i) ?_ (n + 1)
    ⟨s.heap, s.toks, m, c₀, 0, rfl, hst, fr_forget F hm, N, hP, Nat.zero_le _, rfl⟩
  rintro k s' ⟨h', tk, u, c, i, rfl, hst', F', N', hP', hi, rfl⟩
  have move : ∀ h'' : Heap, (∀ b o, b ∉ [I] → h'.get? b = some o → h''.get? b = some o) → Fr h₀ env.locals h'' (kstB u (ps c)) ∧ News h₀ env.locals h'' (Led c) := by
    intro h'' hk
    refine ⟨⟨?_, fun b o e => ?_, F'.above⟩, fun p hp => ⟨?_, (N' p hp).2⟩⟩
    · obtain ⟨o, es, ep, x, r⟩ := F'.ns
      exact ⟨o, es, ep, hk _ _ (by simpa using fun e => hIL e.symm) x, r⟩
    · refine hk b o ?_ (F'.keep b o e)
      intro hb
      rw [List.mem_singleton.mp hb, hI0] at e
      cases e
    · refine hk _ _ ?_ (N' p hp).1
      intro hb
      obtain ⟨o, ho, hc⟩ := hit i h' hst'
      have e1 := (N' p hp).1
      rw [List.mem_singleton.mp hb, ho] at e1
      rcases hcls c p hp with q | q
      · exact q (by rw [← Option.some.inj e1]; exact hc)
      · exact q (List.mem_singleton.mp hb)
  by_cases hin : i < n
  · refine W.item i _ _ _ hin hst' fun v h'' tk'' hv st'' hk => ?_
    obtain ⟨F2, N2⟩ := move h'' hk
    obtain ⟨oI, hoI, hcI⟩ := hit _ _ st''
    dsimp only
    refine hgo (i + 1) _ _ _ _ st'' ?_
    have N3 : News h₀ env.locals h'' (Led c ++ [(I, oI)]) := by
      intro p hp
      rcases List.mem_append.mp hp with hp | hp
      · exact N2 p hp
      · rw [List.mem_singleton.mp hp]
        exact ⟨hoI, hIL, hI0⟩
    refine wpAny_mono (wpAny_passesOwn hE (turn i v c u h'' tk'' oI hin hv hP' hcI F2 N3)) (fun _ s₁ h₁ => ?_) fun _ _ x => x
    refine wpAny_mono (wpAny_passesOwn hE h₁) (fun f s₂ p => ?_) fun _ _ x => x
    have fin : FEnd h₀ env.locals ps Led (P (i + 1)) [(I, oI)] { s with heap := h'', toks := tk'' } s₂ → ∃ m, m < n + 1 - i ∧ ∃ h' tk u c i, s₂ = { s with heap := h', toks := tk } ∧ St i h' ∧ Fr h₀ env.locals h' (kstB u (ps c)) ∧ News h₀ env.locals h' (Led c) ∧ P i c ∧ i ≤ n ∧ m = n + 1 - i := by
      rintro ⟨c', h3, tk3, m3, nx3, rfl, F3, N3', hn3, hm3, hP3⟩
      have NL : News h₀ env.locals h3 (Led c') := fun p hp => N3' p (hn3 p (List.mem_append_left _ hp))
      refine ⟨n + 1 - (i + 1), by omega, h3, tk3, m3, c', i + 1, rfl, ?_, fr_forget F3 hm3, NL, hP3, hin, rfl⟩
      refine stab _ _ _ c' m3 st'' (fun o ho => ?_) F3 NL
      rw [hoI] at ho
      cases ho
      exact (N3' _ (hn3 _ (List.mem_append_right _ (List.mem_singleton.mpr rfl)))).1
    cases f with
    | ret v => exact p
    | brk => exact p
    | next => exact fin p
    | cont => exact fin p
  · obtain rfl : i = n := by omega
    refine W.done _ _ _ hst' fun h'' tk'' hk => ?_
    obtain ⟨F2, N2⟩ := move h'' hk
    dsimp only
    exact wpAny_execs_nil (done c u h'' tk'' hP' F2 N2)

theorem go_name {x : Str} {px : Pos} {it v : Value} {Q' : Unit → Shared → Prop} {E' : Value → Shared → Prop} {M : Model} (h : Q' () s) : wpAny M A (letOwnedTupleGo (.Name x px) it v) Q' E' s := wpAny_pure h

theorem for_list {σ : Type} (ps : σ → List (Str × Value)) (Led : σ → List (Addr × Obj)) (P : Nat → σ → Prop) (c₀ : σ) {l : Addr} {vs : List Value} {m : Str → Option Value}
    (hh : A.handled = none) (F : Fr h₀ env.locals s.heap m) (N : News h₀ env.locals s.heap (Led c₀)) (hm : ∀ p ∈ ps c₀, m p.1 = some p.2) (hP : P 0 c₀)
    (hl : ∀ c u h, Fr h₀ env.locals h u → News h₀ env.locals h (Led c) → h.IsList l vs.toArray)
    (hcls : ∀ c, ∀ p ∈ Led c, p.2.cls ≠ .type "list_iterator" ∨ p.1 ∈ (Led c₀).map (·.1))
    (ht : (∃ x px, target = .Name x px) ∨ ∃ es x1 pos, target = .Tuple es x1 pos)
    (turn : ∀ i v c u h tk I oI, vs[i]? = some v → P i c → (∀ p ∈ Led c₀, p.1 < I) → oI.cls = .type "list_iterator" → Fr h₀ env.locals h (kstB u (ps c)) → News h₀ env.locals h (Led c ++ [(I, oI)]) →
      wpAny (model prog w) A (assign target env v) (fun _ s₁ => wpAny (model prog w) A (execs body env) (FPost h₀ env.locals ps Led (P (i + 1)) [(I, oI)] Q { s with heap := h, toks := tk }) E s₁) E { s with heap := h, toks := tk })
    (done : ∀ c u h tk, P vs.length c → Fr h₀ env.locals h (kstB u (ps c)) → News h₀ env.locals h (Led c) → Q .next { s with heap := h, toks := tk })
    (hE : PassesOwn (model prog w) A env E := by passes_own) :
    MIter prog w A env target body Q E (.ref l) s := by
  have hls := hl c₀ m s.heap F N
  obtain ⟨ol, hol, _⟩ := id hls
  have hlt : l < s.heap.objs.size := Heap.lt_size hol
  have hne : l ≠ s.heap.objs.size := Nat.ne_of_lt hlt
  have hI0 : h₀.get? s.heap.objs.size = none := by
    cases q : h₀.get? s.heap.objs.size with
    | none => rfl
    | some o => exact absurd (Heap.lt_size (F.keep _ _ q)) (Nat.lt_irrefl _)
  unfold MIter
  refine wpAny_pyIter_list hls ?_
  have W := Walks.list (prog := prog) (w := w) hh s.heap.objs.size l hne vs.toArray
  refine iter_core ps Led P c₀ (itc := .type "list_iterator") W hI0 (Nat.ne_of_gt F.ns.lt) ?_ (fun c p hp => (hcls c p hp).imp_right (led_ne N)) ?_ ?_ (F.push _) (fun p hp => ⟨Heap.get?_push_of_some _ (N p hp).1, (N p hp).2⟩) hm hP
    ⟨⟨_, Heap.get?_push_size _ rfl, rfl, rfl⟩, hls.at fun o e => Heap.get?_push_of_some _ e⟩ ?_ ?_ hE
  · rintro i h ⟨⟨o, ho, hc, _⟩, _⟩
    exact ⟨o, ho, hc⟩
  · rintro i h h' c u ⟨st1, st2⟩ hk F' N'
    exact ⟨st1.at hk, hl c u h' F' N'⟩
  · rintro i s' v Q' E' ⟨st1, st2⟩ hQ
    rcases ht with ⟨x, px, rfl⟩ | ⟨es, x1, pos, rfl⟩
    · exact wpAny_pure hQ
    · cases v with
      | ref a => exact wpAny_letOwnedTupleGo_listiter st1 hQ
      | _ => exact wpAny_pure hQ
  · intro i v c u h tk oI hi hv hP' hc F' N'
    exact turn i v c u h tk _ oI (by simpa using hv) hP' (fun p hp => Heap.lt_size (N p hp).1) hc F' N'
  · intro c u h tk hP' F' N'
    exact done c u h tk (by simpa using hP') F' N'

theorem for_range {σ : Type} (ps : σ → List (Str × Value)) (Led : σ → List (Addr × Obj)) (P : Nat → σ → Prop) (c₀ : σ) {r : Addr} {a₀ b₀ : Int} {t₀ u₀ v₀ : Tok} {n : Nat} {m : Str → Option Value}
    (hh : A.handled = none) (hr : IsRange s.heap r a₀ b₀ 1 t₀ u₀ v₀) (hsmall : Builtin.Range.small a₀ b₀ 1 = true) (hn : Builtin.Range.rangeSize a₀ b₀ 1 = (n : Int))
    (F : Fr h₀ env.locals s.heap m) (N : News h₀ env.locals s.heap (Led c₀)) (hm : ∀ p ∈ ps c₀, m p.1 = some p.2) (hP : P 0 c₀)
    (hcls : ∀ c, ∀ p ∈ Led c, p.2.cls ≠ .type "range_iterator" ∨ p.1 ∈ (Led c₀).map (·.1))
    (ht : ∃ x px, target = .Name x px)
    (turn : ∀ (i : Nat) t c u h tk I oI, i < n → P i c → (∀ p ∈ Led c₀, p.1 < I) → oI.cls = .type "range_iterator" → Fr h₀ env.locals h (kstB u (ps c)) → News h₀ env.locals h (Led c ++ [(I, oI)]) →
      wpAny (model prog w) A (assign target env (.int (a₀ + i) t)) (fun _ s₁ => wpAny (model prog w) A (execs body env) (FPost h₀ env.locals ps Led (P (i + 1)) [(I, oI)] Q { s with heap := h, toks := tk }) E s₁) E { s with heap := h, toks := tk })
    (done : ∀ c u h tk, P n c → Fr h₀ env.locals h (kstB u (ps c)) → News h₀ env.locals h (Led c) → Q .next { s with heap := h, toks := tk })
    (hE : PassesOwn (model prog w) A env E := by passes_own) :
    MIter prog w A env target body Q E (.ref r) s := by
  have hI0 : h₀.get? s.heap.objs.size = none := by
    cases q : h₀.get? s.heap.objs.size with
    | none => rfl
    | some o => exact absurd (Heap.lt_size (F.keep _ _ q)) (Nat.lt_irrefl _)
  unfold MIter
  refine wpAny_pyIter_range hr hsmall ?_
  have W := Walks.range (prog := prog) (w := w) hh s.heap.objs.size a₀ 1 n
  refine iter_core ps Led P c₀ (itc := .type "range_iterator") W hI0 (Nat.ne_of_gt F.ns.lt) ?_ (fun c p hp => (hcls c p hp).imp_right (led_ne N)) ?_ ?_ (F.push _) (fun p hp => ⟨Heap.get?_push_of_some _ (N p hp).1, (N p hp).2⟩) hm hP
    (by show IsRangeIter _ _ _ _ _; rw [hn]; simpa using Heap.get?_push_size _ rfl) ?_ ?_ hE
  · intro i h st
    exact ⟨_, st, rfl⟩
  · intro i h h' c u st hk F' N'
    exact hk _ st
  · intro i s' v Q' E' st hQ
    obtain ⟨x, px, rfl⟩ := ht
    exact wpAny_pure hQ
  · rintro i v c u h tk oI hi ⟨t, rfl⟩ hP' hc F' N'
    have := turn i t c u h tk _ oI hi hP' (fun p hp => Heap.lt_size (N p hp).1) hc F' N'
    simpa only [Int.mul_one] using this
  · intro c u h tk hP' F' N'
    exact done c u h tk hP' F' N'

theorem for_str {σ : Type} (ps : σ → List (Str × Value)) (Led : σ → List (Addr × Obj)) (P : Nat → σ → Prop) (c₀ : σ) {x : Str} {t₀ : Tok} {m : Str → Option Value}
    (hh : A.handled = none)
    (F : Fr h₀ env.locals s.heap m) (N : News h₀ env.locals s.heap (Led c₀)) (hm : ∀ p ∈ ps c₀, m p.1 = some p.2) (hP : P 0 c₀)
    (hcls : ∀ c, ∀ p ∈ Led c, (p.2.cls ≠ .type "str_iterator" ∧ p.2.cls ≠ .type "str_ascii_iterator") ∨ p.1 ∈ (Led c₀).map (·.1))
    (ht : ∃ x px, target = .Name x px)
    (turn : ∀ (i : Nat) cp t c u h tk I oI, x.cps[i]? = some cp → P i c → (∀ p ∈ Led c₀, p.1 < I) → Fr h₀ env.locals h (kstB u (ps c)) → News h₀ env.locals h (Led c ++ [(I, oI)]) →
      wpAny (model prog w) A (assign target env (.str ⟨#[cp]⟩ t)) (fun _ s₁ => wpAny (model prog w) A (execs body env) (FPost h₀ env.locals ps Led (P (i + 1)) [(I, oI)] Q { s with heap := h, toks := tk }) E s₁) E { s with heap := h, toks := tk })
    (done : ∀ c u h tk, P x.cps.size c → Fr h₀ env.locals h (kstB u (ps c)) → News h₀ env.locals h (Led c) → Q .next { s with heap := h, toks := tk })
    (hE : PassesOwn (model prog w) A env E := by passes_own) :
    MIter prog w A env target body Q E (.str x t₀) s := by
  have hI0 : h₀.get? s.heap.objs.size = none := by
    cases q : h₀.get? s.heap.objs.size with
    | none => rfl
    | some o => exact absurd (Heap.lt_size (F.keep _ _ q)) (Nat.lt_irrefl _)
  obtain ⟨xn, xp, rfl⟩ := ht
  unfold MIter
  cases ha : x.cps.all (· < 128)
  · refine wpAny_pyIter_wide ha ?_
    have W := Walks.strWide (prog := prog) (w := w) hh s.heap.objs.size x t₀
    refine iter_core ps Led P c₀ (itc := .type "str_iterator") W hI0 (Nat.ne_of_gt F.ns.lt) ?_ (fun c p hp => ((hcls c p hp).imp_left And.left).imp_right (led_ne N)) ?_ ?_ (F.push _) (fun p hp => ⟨Heap.get?_push_of_some _ (N p hp).1, (N p hp).2⟩) hm hP
      ⟨_, Heap.get?_push_size _ rfl, rfl, rfl⟩ ?_ ?_ hE
    · rintro i h ⟨o, ho, hc, _⟩
      exact ⟨o, ho, hc⟩
    · rintro i h h' c u ⟨o, ho, r⟩ hk F' N'
      exact ⟨o, hk _ ho, r⟩
    · intro i s' v Q' E' st hQ
      exact wpAny_pure hQ
    · rintro i v c u h tk oI hi ⟨cp, t, hcp, rfl⟩ hP' hc F' N'
      exact turn i cp t c u h tk _ oI hcp hP' (fun p hp => Heap.lt_size (N p hp).1) F' N'
    · intro c u h tk hP' F' N'
      exact done c u h tk hP' F' N'
  · refine wpAny_pyIter_ascii ha ?_
    have W := Walks.strAscii (prog := prog) (w := w) hh s.heap.objs.size x t₀
    refine iter_core ps Led P c₀ (itc := .type "str_ascii_iterator") W hI0 (Nat.ne_of_gt F.ns.lt) ?_ (fun c p hp => ((hcls c p hp).imp_left And.right).imp_right (led_ne N)) ?_ ?_ (F.push _) (fun p hp => ⟨Heap.get?_push_of_some _ (N p hp).1, (N p hp).2⟩) hm hP
      ⟨_, Heap.get?_push_size _ rfl, rfl, rfl⟩ ?_ ?_ hE
    · rintro i h ⟨o, ho, hc, _⟩
      exact ⟨o, ho, hc⟩
    · rintro i h h' c u ⟨o, ho, r⟩ hk F' N'
      exact ⟨o, hk _ ho, r⟩
    · intro i s' v Q' E' st hQ
      exact wpAny_pure hQ
    · rintro i v c u h tk oI hi ⟨cp, t, hcp, rfl⟩ hP' hc F' N'
      exact turn i cp t c u h tk _ oI hcp hP' (fun p hp => Heap.lt_size (N p hp).1) F' N'
    · intro c u h tk hP' F' N'
      exact done c u h tk hP' F' N'

def WPost {σ : Type} (h₀ : Heap) (L : Addr) (ps : σ → List (Str × Value)) (Led : σ → List (Addr × Obj)) (P : σ → Prop) (Q : Flow → Shared → Prop) (s : Shared) (f : Flow) (s₂ : Shared) : Prop :=
  match f with
  | .ret v => Q (.ret v) s₂
  | .brk => Q .next s₂
  | _ => FEnd h₀ L ps Led P [] s s₂
theorem while_mine {σ : Type} (ps : σ → List (Str × Value)) (Led : σ → List (Addr × Obj)) (P : σ → Prop) (μ : σ → Nat) (c₀ : σ) {test : Expr} {pos : Pos} {m : Str → Option Value}
    (F : Fr h₀ env.locals s.heap m) (N : News h₀ env.locals s.heap (Led c₀)) (hm : ∀ p ∈ ps c₀, m p.1 = some p.2) (hP : P c₀)
    (turn : ∀ c u h tk, P c → Fr h₀ env.locals h (kstB u (ps c)) → News h₀ env.locals h (Led c) →
      wpAny (model prog w) A (isTrue test env (eval test env)) (fun b s₂ =>
        if b = true then wpAny (model prog w) A (execs body env) (WPost h₀ env.locals ps Led (fun c' => P c' ∧ μ c' < μ c) Q s) E s₂ else Q .next s₂) E { s with heap := h, toks := tk })
    (hE : PassesOwn (model prog w) A env E := by passes_own) :
    wpAny (model prog w) A (exec (.While test body [] pos) env) Q E s := by
  refine While_inv2 (fun n m nx => ∃ c u, m = kstB u (ps c) ∧ nx = Led c ∧ P c ∧ μ c = n) (fr_forget F hm) N ⟨c₀, m, rfl, rfl, hP, rfl⟩ ?_ hE
  rintro n m₁ nx h tk F₁ N₁ ⟨c, u, rfl, rfl, hP', rfl⟩
  refine wpAny_mono (turn c u h tk hP' F₁ N₁) (fun b s₂ p => ?_) fun _ _ x => x
  cases b with
  | false => simpa using p
  | true =>
    simp only [if_true] at p ⊢
    refine wpAny_mono p (fun f s₃ q => ?_) fun _ _ x => x
    cases f with
    | ret v => exact q
    | brk => exact q
    | next =>
      obtain ⟨c', h', tk', m', nx', rfl, F', N', hn, hm', hP2, hlt⟩ := q
      exact ⟨h', tk', _, _, μ c', rfl, fr_forget F' hm', (fun p hp => N' p (hn p (List.mem_append_left _ hp))), hlt, c', m', rfl, rfl, hP2, rfl⟩
    | cont =>
      obtain ⟨c', h', tk', m', nx', rfl, F', N', hn, hm', hP2, hlt⟩ := q
      exact ⟨h', tk', _, _, μ c', rfl, fr_forget F' hm', (fun p hp => N' p (hn p (List.mem_append_left _ hp))), hlt, c', m', rfl, rfl, hP2, rfl⟩
end

theorem S_inj {a b : List Nat} : S a = S b ↔ a = b := by
  constructor
  · intro h
    have := congrArg (fun x => x.cps.toList) h
    simpa [S] using this
  · rintro rfl; rfl
theorem S_append (a b : List Nat) : S a ++ S b = S (a ++ b) := by
  show Str.mk (a.toArray ++ b.toArray) = _
  simp [S]
theorem len_S (l : List Nat) : (S l).length = l.length := by show (l.toArray).size = _; simp
theorem beq_S (a b : List Nat) : (S a == S b) = decide (a = b) := by
  by_cases h : a = b
  · subst h; simp
  · rw [decide_eq_false h]
    exact beq_eq_false_iff_ne.mpr fun e => h (S_inj.mp e)
theorem S_of (x : Str) : x = S x.cps.toList := by simp [S]
theorem item_S {l : List Nat} {i : Nat} {c : Nat} (h : l[i]? = some c) : Txt.item (S l) i = S [c] := by
  have hi : i < l.length := (List.getElem?_eq_some_iff.mp h).1
  have e : Txt.charAt (S l) i = some c := by
    unfold Txt.charAt
    have e1 : seqIndex? (i : Int) (S l).length = some i := by
      unfold seqIndex?
      rw [len_S]
      have h0 : ¬ (i : Int) < 0 := by omega
      simp only [if_neg h0]
      rw [if_pos (by simp; omega)]
      simp
    rw [e1]
    simpa [S] using h
  unfold Txt.item
  rw [e]
  rfl
theorem fdN (a k : Nat) : Int.fdiv (a : Int) (k : Int) = ((a / k : Nat) : Int) := by
  rw [Int.fdiv_eq_ediv_of_nonneg _ (Int.natCast_nonneg k)]; rfl
theorem fmN (a k : Nat) : Int.fmod (a : Int) (k : Int) = ((a % k : Nat) : Int) := by
  rw [Int.fmod_eq_emod_of_nonneg _ (Int.natCast_nonneg k)]; rfl
theorem fd64 (a : Nat) : Int.fdiv (a : Int) 64 = ((a / 64 : Nat) : Int) := fdN a 64
theorem fm64 (a : Nat) : Int.fmod (a : Int) 64 = ((a % 64 : Nat) : Int) := fmN a 64
theorem fd128 (a : Nat) : Int.fdiv (a : Int) 128 = ((a / 128 : Nat) : Int) := fdN a 128
theorem fm128 (a : Nat) : Int.fmod (a : Int) 128 = ((a % 128 : Nat) : Int) := fmN a 128
theorem fd2 (a : Nat) : Int.fdiv (a : Int) 2 = ((a / 2 : Nat) : Int) := fdN a 2
theorem kl_ins0 (l : List Value) (y : Value) : kl_ins l 0 y = y :: l := by
  unfold kl_ins; simp
theorem len_toArr (l : List Value) : l.toArray.toList.length = l.length := by simp
theorem fresh_ne {h₀ h : Heap} {L l : Addr} {news : List (Addr × Obj)} (N : News h₀ L h news) (hl : h.get? l = none) : ∀ p ∈ news, p.1 ≠ l := by
  rintro p hp rfl
  rw [(N p hp).1] at hl
  cases hl
theorem strs_get {vs : List Value} {ys : List Str} (h : StrsAre vs ys) : ∀ (i : Nat) (y : Str), ys[i]? = some y → ∃ t, vs[i]? = some (.str y t) := by
  induction h with
  | nil => intro i y e; simp at e
  | cons y0 t0 _ ih =>
    intro i y e
    cases i with
    | zero => simp at e; subst e; exact ⟨t0, rfl⟩
    | succ i => simp at e; obtain ⟨t, ht⟩ := ih i y e; exact ⟨t, by simpa using ht⟩
theorem strs_len {vs : List Value} {ys : List Str} (h : StrsAre vs ys) : vs.length = ys.length := by
  induction h with
  | nil => rfl
  | cons _ _ _ ih => simp [ih]
theorem ints_get {vs : List Value} {ys : List Int} (h : IntsAre vs ys) : ∀ (i : Nat) (y : Int), ys[i]? = some y → ∃ t, vs[i]? = some (.int y t) := by
  induction h with
  | nil => intro i y e; simp at e
  | cons y0 t0 _ ih =>
    intro i y e
    cases i with
    | zero => simp at e; subst e; exact ⟨t0, rfl⟩
    | succ i => simp at e; obtain ⟨t, ht⟩ := ih i y e; exact ⟨t, by simpa using ht⟩
theorem fdm2 (a b : Nat) : Int.fdiv ((a : Int) + (b : Int)) 2 = (((a + b) / 2 : Nat) : Int) := by
  rw [← Int.natCast_add]; exact fd2 _
theorem natAdd1 (a : Nat) : (a : Int) + 1 = ((a + 1 : Nat) : Int) := rfl
section
variable {prog : Program} {w : World} {A : Around} {E : Value → Shared → Prop} {s : Shared}
theorem item_at {value slice : PySem.Expr} {l : Addr} {vs : List Value} {k : Int} {i : Nat} {u : Tok} {v : Value} {Q : Value → Shared → Prop} (hl : s.heap.IsList l vs.toArray) (hk : k = (i : Int)) (hb : i < 2 ^ 60) (hx : vs[i]? = some v) (h : Q v s)
    (hs : subscripted slice false (.ref l) (.int k u) = operate [.ref l, .int k u] (getItem (.ref l) (.int k u)) := by with_unfolding_all rfl) :
    wpAny (model prog w) A (subscriptTail value slice (.ref l) (.int k u)) Q E s := by
  subst hk
  exact item_litK hl (Int.natCast_nonneg i) (by omega) (by simpa using hx) h hs
theorem item_strs {value slice : PySem.Expr} {l : Addr} {vs : List Value} {ws : List (List Nat)} {k : Int} {i : Nat} {u : Tok} {Q : Value → Shared → Prop} (hl : s.heap.IsList l vs.toArray) (hvs : StrsAre vs (ws.map S)) (hk : k = (i : Int)) (hb : ws.length < 2 ^ 60) (hi : i < ws.length) (h : ∀ t, Q (.str (S (ws.getD i [])) t) s)
    (hs : subscripted slice false (.ref l) (.int k u) = operate [.ref l, .int k u] (getItem (.ref l) (.int k u)) := by with_unfolding_all rfl) :
    wpAny (model prog w) A (subscriptTail value slice (.ref l) (.int k u)) Q E s := by
  obtain ⟨t, ht⟩ := strs_get hvs i (S (ws.getD i [])) (by simp [hi])
  exact item_at hl hk (by omega) ht (h t) hs
theorem len_at {l : Addr} {vs : List Value} {Q : Value → Shared → Prop} (hl : s.heap.IsList l vs.toArray) (hb : vs.length < 2 ^ 60) (h : ∀ t tk, Q (.int (vs.length : Nat) t) { s with toks := tk }) : wpAny (model prog w) A (call (.builtin "len") [.ref l]) Q E s := by
  refine PyProof.Rows.len_list hl (by rw [List.size_toArray]; omega) ?_
  rw [List.size_toArray]
  exact h _ _
end
theorem enter_h {prog : Program} {w : World} {A : Around} {s : Shared} {K : Frag} {p : Program} {loose : List Str} {mean : ExcName → Option Value} {mg mb : Str → Option Value}
    {R : Result → Shared → Prop} {name qual : Str} {params : Arguments} {body : List Stmt} {scope : Scope} {dV kV doc pm cdv ct oc : Value} {an od : Option Addr} {osl : Array (Option Value)} {f : Addr} {args : Args} {binds : List (Str × Value)}
    (hs : List Addr) (led : List (Addr × Obj)) (hled : ∀ p ∈ led, s.heap.get? p.1 = some p.2 ∧ p.1 ∈ hs)
    (X : K.In s.heap) (T : Top p loose mean mg mb s.heap)
    (ho : K.lookup f = some ⟨oc, od, .func (fnOf name qual params body scope dV kV doc pm an cdv ct), osl⟩) (hcd : codeIn K cdv qual = true) (hroom : A.depth < recursionLimit)
    (hbind : BindsTo s (fnOf name qual params body scope dV kV doc pm an cdv ct) args binds) (hloc : ∀ y ∈ binds, scope.names.lookup y.1 = some .local)
    (h : ∀ L h₁, Fr (hideAll s.heap hs) L h₁ (fun y => binds.reverse.lookup y) → News (hideAll s.heap hs) L h₁ led →
      wpAny (model prog w) (A.deeper (envOf qual scope L f cdv)) (execs body (envOf qual scope L f cdv))
        (fun fl s' => R (.ok (.ret (match fl with | .ret v => v | _ => .none))) s')
        (fun e s' => wpAny (model prog w) (A.deeper (envOf qual scope L f cdv)) (leaving (envOf qual scope L f cdv) e) (fun _ s'' => R (.error e) s'') (fun e' s'' => R (.error e') s'') s')
        { s with heap := h₁, toks := s.toks + binds.length })
    (hco : scope.isCoroutine = false) (hgen : scope.isGenerator = false) (hk : scope.kind = .function)
    (hcell : ∀ x ∈ scope.names, x.2 ≠ .cell) : codeAny (model prog w) A (.call (.ref f) args) R s := by
  refine codeAny_call_def (fd := fnOf name qual params body scope dV kV doc pm an cdv ct) (body := body) (binds := binds) hroom (X _ _ ho) rfl T.nolimit (codeRec_of X hcd) rfl hbind hcell hloc (fun h₁ hns hk₁ => ?_) hco hgen hk
  exact h _ h₁ ⟨hns, fun b o e => hk₁ b o (of_hideAll _ e), Nat.le_of_eq (hideAll_size _ _)⟩ fun p hp => ⟨hk₁ _ _ (hled p hp).1, Nat.ne_of_lt (Heap.lt_size (hled p hp).1), hideAll_none _ (hled p hp).2⟩
theorem hide_stays {h₀ h : Heap} {L : Addr} {m : Str → Option Value} (F : Fr h₀ L h m) {r : Addr} (hr : h₀.get? r = none) : h₀.StaysIn (hideAll h [r]) := by
  intro b o e
  refine hideAll_get _ (F.keep b o e) ?_
  intro hb
  rw [List.mem_singleton.mp hb, hr] at e
  cases e
theorem but_of_hide {h h' : Heap} {r L' : Addr} {m' : Str → Option Value} (F : Fr (hideAll h [r]) L' h' m') : ∀ b o, b ≠ r → h.get? b = some o → h'.get? b = some o := by
  intro b o hb e
  exact F.keep b o (hideAll_get _ e (by simpa using hb))
theorem fr_but {h₀ h h' : Heap} {L r : Addr} {m : Str → Option Value} (F : Fr h₀ L h m) (hr : h₀.get? r = none) (hrL : r ≠ L) (k : ∀ b o, b ≠ r → h.get? b = some o → h'.get? b = some o) : Fr h₀ L h' m := by
  refine ⟨?_, fun b o e => k b o ?_ (F.keep b o e), F.above⟩
  · obtain ⟨o, es, ep, x, q⟩ := F.ns
    exact ⟨o, es, ep, k _ _ (Ne.symm hrL) x, q⟩
  · rintro rfl
    rw [hr] at e; cases e
theorem news_but {h₀ h h' : Heap} {L r : Addr} {o o' : Obj} {news : List (Addr × Obj)} {g : Obj → List (Addr × Obj)} (N : News h₀ L h news) (U : UpdF r o news g) (k : ∀ b o, b ≠ r → h.get? b = some o → h'.get? b = some o) (ho : h'.get? r = some o') : News h₀ L h' (g o') := by
  obtain ⟨pre, post, rfl, hg, a, b⟩ := U.split
  rw [hg]
  intro p hp
  rcases List.mem_append.mp hp with hp | hp
  · have z := N p (List.mem_append_left _ hp)
    exact ⟨k _ _ (a p hp) z.1, z.2⟩
  · rcases List.mem_cons.mp hp with rfl | hp
    · exact ⟨ho, (N (r, o) (List.mem_append_right _ (.head _))).2⟩
    · have z := N p (List.mem_append_right _ (.tail _ hp))
      exact ⟨k _ _ (b p hp) z.1, z.2⟩
theorem updF_mem {r : Addr} {o : Obj} {news : List (Addr × Obj)} {g : Obj → List (Addr × Obj)} (U : UpdF r o news g) : (r, o) ∈ news := by
  obtain ⟨pre, post, rfl, hg, a, b⟩ := U.split
  exact List.mem_append_right _ (.head _)
theorem kl_ins_nat (l : List Value) (i : Nat) (y : Value) (h : i ≤ l.length) : kl_ins l (i : Int) y = l.take i ++ y :: l.drop i := by
  unfold kl_ins
  rw [if_neg (by omega), Int.toNat_natCast, Nat.min_eq_left h]
theorem strs_ins {vs : List Value} {ys : List Str} (h : StrsAre vs ys) : ∀ (i : Nat) (y : Str) (t : Tok), i ≤ ys.length → StrsAre (vs.take i ++ .str y t :: vs.drop i) (ys.take i ++ y :: ys.drop i) := by
  induction h with
  | nil => intro i y t hi; simp at hi; subst hi; exact .cons _ _ .nil
  | cons y0 t0 hr ih =>
    intro i y t hi
    cases i with
    | zero => exact .cons _ _ (.cons _ _ hr)
    | succ i => exact .cons _ _ (ih i y t (by simpa using hi))
theorem fits_nat {i : Nat} (h : i ≤ 2 ^ 40) : Builtin.List.listFitsIndex (i : Int) = true := by
  unfold Builtin.List.listFitsIndex
  simp
  omega
theorem fits0 : Builtin.List.listFitsIndex 0 = true := by decide
section
variable {prog : Program} {w : World} {A : Around} {E : Value → Shared → Prop} {s : Shared} {env : Env} {h₀ : Heap} {body : List Stmt} {Q : Flow → Shared → Prop}
theorem while_join {σ : Type} (ps : σ → List (Str × Value)) (Led : σ → List (Addr × Obj)) (P : σ → Prop) (X : σ → Prop) (μ : σ → Nat) (c₀ : σ) {test : PySem.Expr} {pos : Pos} {m : Str → Option Value}
    (F : Fr h₀ env.locals s.heap m) (N : News h₀ env.locals s.heap (Led c₀)) (hm : ∀ p ∈ ps c₀, m p.1 = some p.2) (hP : P c₀)
    (turn : ∀ c u h tk, P c → Fr h₀ env.locals h (kstB u (ps c)) → News h₀ env.locals h (Led c) →
      wpAny (model prog w) A (isTrue test env (eval test env)) (fun b s₂ =>
        if b = true then wpAny (model prog w) A (execs body env) (WPost h₀ env.locals ps Led (fun c' => P c' ∧ μ c' < μ c) Q s) E s₂ else FEnd h₀ env.locals ps Led X [] s s₂) E { s with heap := h, toks := tk })
    (done : ∀ c u h tk, X c → Fr h₀ env.locals h (kstB u (ps c)) → News h₀ env.locals h (Led c) → Q .next { s with heap := h, toks := tk })
    (hE : PassesOwn (model prog w) A env E := by passes_own) :
    wpAny (model prog w) A (exec (.While test body [] pos) env) Q E s := by
  refine while_mine ps Led P μ c₀ F N hm hP ?_ hE
  intro c u h tk hc F1 N1
  refine wpAny_mono (turn c u h tk hc F1 N1) (fun b s₂ p => ?_) fun _ _ x => x
  cases b with
  | true => simpa using p
  | false =>
    simp only [Bool.false_eq_true, if_false] at p ⊢
    obtain ⟨c', h', tk', m', nx', rfl, F', N', hn, hm', hX⟩ := p
    exact done c' m' h' tk' hX (fr_forget F' hm') fun p hp => N' p (hn p (List.mem_append_left _ hp))
end
section
variable {prog : Program} {w : World} {A : Around} {E : Value → Shared → Prop} {s : Shared} {env : Env} {h₀ : Heap} {L : Addr} {Q : Flow → Shared → Prop}
theorem exec_cut {σ : Type} (ps : σ → List (Str × Value)) (Led : σ → List (Addr × Obj)) (X : σ → Prop) {st : Stmt} {rest : List Stmt}
    (h1 : wpAny (model prog w) A (exec st env) (fun f s₂ => f = .next ∧ FEnd h₀ L ps Led X [] s s₂) E s)
    (h2 : ∀ c u h tk, X c → Fr h₀ L h (kstB u (ps c)) → News h₀ L h (Led c) → wpAny (model prog w) A (execs rest env) Q E { s with heap := h, toks := tk }) :
    wpAny (model prog w) A (execs (st :: rest) env) Q E s := by
  refine wpAny_execs_cons (wpAny_mono h1 (fun f s₂ p => ?_) fun _ _ x => x)
  obtain ⟨rfl, c', h', tk', m', nx', rfl, F', N', hn, hm', hX⟩ := p
  exact h2 c' m' h' tk' hX (fr_forget F' hm') fun p hp => N' p (hn p (List.mem_append_left _ hp))
end
theorem carried_ints : ∀ {ys : List Value} {ns : List Int}, CarriedAll ys (ns.map .int) → IntsAre ys ns
  | _, [], h => by cases h; exact .nil
  | _, n :: ns, h => by
    cases h with
    | cons h1 h2 =>
      cases h1
      exact .cons _ _ (carried_ints h2)
section
variable {prog : Program} {w : World} {A : Around} {E : Value → Shared → Prop} {s : Shared} {h₀ : Heap} {L : Addr} {m : Str → Option Value} {news news' : List (Addr × Obj)}
theorem list_range_mine {r : Addr} {a b c : Int} {t u v : Tok} {n : Nat} {Q : Value → Shared → Prop} (hh : A.handled = none) (F : Fr h₀ L s.heap m) (N : News h₀ L s.heap news)
    (hr : IsRange s.heap r a b c t u v) (hsmall : Builtin.Range.small a b c = true) (hn : Builtin.Range.rangeSize a b c = (n : Int)) (hlen : n ≤ 2 ^ 24)
    (hQ : ∀ l (ys : List Value) k h' tk, Fr h₀ L h' m → News h₀ L h' ((l, listOf ys.toArray k) :: news) → (∀ p ∈ news, p.1 ≠ l) → IntsAre ys (rangeInts a c n) → Q (.ref l) { s with heap := h', toks := tk }) :
    wpAny (model prog w) A (call (.type "list") [.ref r]) Q E s := by
  refine list_rangeD hh F N hr hsmall hn hlen fun h' tk ys F' N' st e0 hl hp hc => ?_
  obtain ⟨⟨k, hk⟩, hne⟩ := hp
  refine hQ _ ys k h' tk F' ?_ hne (carried_ints hc)
  exact news_cons F N' (by
    cases q : s.heap.get? s.heap.objs.size with
    | none => rfl
    | some o => exact absurd (Heap.lt_size q) (Nat.lt_irrefl _)) hk
theorem set_atL {D : Addr} {vs : List Value} {n i : Nat} {z : Int} {t : Tok} {v : Value} {Q : Unit → Shared → Prop} (F : Fr h₀ L s.heap m) (N : News h₀ L s.heap news) (hz : z = (i : Int)) (hi : i < vs.length) (hb : vs.length < 2 ^ 40)
    (U : Upd D (listOf vs.toArray n) (listOf (vs.set i v).toArray n) news news') (h : ∀ h', Fr h₀ L h' m → News h₀ L h' news' → Q () { s with heap := h' }) :
    wpAny (model prog w) A (setItem (.ref D) (.int z t) v) Q E s := by
  subst hz
  obtain ⟨pre, post, rfl, rfl, a, b⟩ := U.split
  have z := N (D, listOf vs.toArray n) (List.mem_append.mpr (.inr (.head _)))
  refine ki_setAt z.1 (Int.natCast_nonneg _) (by omega) (by simpa using hi) (h _ (F.change (Heap.SameBut.update ..) z.2.1 z.2.2) ?_)
  refine ki_turn _ N a b ?_ ?_
  · simp
  · simp
theorem item_ints {value slice : PySem.Expr} {l : Addr} {vs : List Value} {ns : List Nat} {k : Int} {i : Nat} {u : Tok} {Q : Value → Shared → Prop} (hl : s.heap.IsList l vs.toArray) (hvs : IntsAre vs (ns.map Int.ofNat)) (hk : k = (i : Int)) (hb : ns.length < 2 ^ 60) (hi : i < ns.length) (h : ∀ t, Q (.int (ns.getD i 0 : Nat) t) s)
    (hs : subscripted slice false (.ref l) (.int k u) = operate [.ref l, .int k u] (getItem (.ref l) (.int k u)) := by with_unfolding_all rfl) :
    wpAny (model prog w) A (subscriptTail value slice (.ref l) (.int k u)) Q E s := by
  obtain ⟨t, ht⟩ := ints_get hvs i (Int.ofNat (ns.getD i 0)) (by simp [hi])
  exact item_at hl hk (by omega) ht (h t) hs
theorem ints_set {vs : List Value} {ys : List Int} (h : IntsAre vs ys) : ∀ (i : Nat) (y : Int) (t : Tok), IntsAre (vs.set i (.int y t)) (ys.set i y) := by
  induction h with
  | nil => intro i y t; exact .nil
  | cons y0 t0 hr ih =>
    intro i y t
    cases i with
    | zero => exact .cons _ _ hr
    | succ i => exact .cons _ _ (ih i y t)
end
theorem rg1_size (n : Nat) : Builtin.Range.rangeSize 0 (n : Int) 1 = (n : Int) := by
  unfold Builtin.Range.rangeSize
  simp
  try omega
theorem rg1_small {n : Nat} (h : n ≤ 1000000) : Builtin.Range.small 0 (n : Int) 1 = true := by
  have f : ∀ k : Nat, k ≤ 1000000 → Builtin.Range.rangeFitsLong (k : Int) = true := by
    intro k hk
    unfold Builtin.Range.rangeFitsLong
    simp
    omega
  unfold Builtin.Range.small
  rw [rg1_size]
  simp
  exact ⟨⟨⟨⟨f 0 (by omega), f n h⟩, f 1 (by omega)⟩, f n h⟩, .inr (f n h)⟩
theorem natAdd2 (a : Nat) : (a : Int) + 2 = ((a + 2 : Nat) : Int) := rfl
theorem min_nat {prog : Program} {w : World} {A : Around} {E : Value → Shared → Prop} {s : Shared} {h₀ : Heap} {L : Addr} {m : Str → Option Value} {news : List (Addr × Obj)} {x y : Int} {a b : Nat} {t u : Tok} {Q : Value → Shared → Prop} (hx : x = (a : Int)) (hy : y = (b : Int)) (hh : A.handled = none) (F : Fr h₀ L s.heap m) (N : News h₀ L s.heap news)
    (h : ∀ t h' tk, Fr h₀ L h' m → News h₀ L h' news → Q (.int (min a b : Nat) t) { s with heap := h', toks := tk }) :
    wpAny (model prog w) A (call (.builtin "min") [.int x t, .int y u]) Q E s := by
  subst hx; subst hy
  refine min_two_N hh F N fun h' tk F' N' => ?_
  have e : (if (b : Int) < (a : Int) then (b : Int) else (a : Int)) = ((min a b : Nat) : Int) := by
    split <;> omega
  rw [e]
  exact h _ _ _ F' N'
def AllNe (d : Nat) : List (Addr × Obj) → Prop
  | [] => True
  | p :: r => @Ne Nat p.1 d ∧ AllNe d r
theorem allNe_of {d : Addr} : ∀ {l : List (Addr × Obj)}, (∀ p ∈ l, p.1 ≠ d) → AllNe d l
  | [], _ => trivial
  | p :: _, h => ⟨h p (.head _), allNe_of fun q hq => h q (.tail _ hq)⟩
section
variable {prog : Program} {w : World} {A : Around} {E : Value → Shared → Prop} {s : Shared} {h₀ : Heap} {L : Addr} {m : Str → Option Value} {news news' : List (Addr × Obj)}
theorem extend_L {D b : Addr} {vs ws : List Value} {n n2 : Nat} {Q : Value → Shared → Prop} (F : Fr h₀ L s.heap m) (N : News h₀ L s.heap news) (hb : (b, listOf ws.toArray n2) ∈ news) (hne : ws.length ≠ 0)
    (U : Upd D (listOf vs.toArray n) (listOf (vs ++ ws).toArray (n + 1)) news news') (hz : vs.length + ws.length ≤ 100000)
    (h : ∀ h', Fr h₀ L h' m → News h₀ L h' news' → Q .none { s with heap := h' }) : wpAny (model prog w) A (call (.builtin "list.extend") [.ref D, .ref b]) Q E s := by
  refine kl_extend (its := vs.toArray) (its2 := ws.toArray) F N hb rfl (by simpa using hne) U ?_ (by rw [sizeLine_eq]; simp; omega) (by rw [sizeLine_eq]; simp; omega) h
  have : Builtin.List.listTooLong (vs.toArray.size + ws.toArray.size) = false := by
    unfold Builtin.List.listTooLong
    rw [sizeLine_eq]
    simp
    omega
  rw [this]
  simp
theorem add_L {l b : Addr} {vs ws : List Value} {Q : Value → Shared → Prop} (F : Fr h₀ L s.heap m) (N : News h₀ L s.heap news) (hl : s.heap.IsList l vs.toArray) (hb : s.heap.IsList b ws.toArray) (hz : vs.length + ws.length ≤ 100000)
    (h : ∀ d h', Fr h₀ L h' m → News h₀ L h' ((d, listOf (vs ++ ws).toArray 0) :: news) → (∀ p ∈ news, p.1 < d) → Q (.ref d) { s with heap := h' }) : wpAny (model prog w) A (binaryOp .Add (.ref l) (.ref b)) Q E s :=
  add_arrays F N hl hb (fun h' F' N' => h _ h' F' N' fun p hp => Heap.lt_size (N p hp).1) (by rw [sizeLine_eq]; simp; omega)
end
theorem ints_append {vs ws : List Value} {ys zs : List Int} (h : IntsAre vs ys) (h2 : IntsAre ws zs) : IntsAre (vs ++ ws) (ys ++ zs) := by
  induction h with
  | nil => exact h2
  | cons y t _ ih => exact .cons _ _ ih
theorem allLt_mem {d : Addr} : ∀ {l : List (Addr × Obj)}, AllLt d l → ∀ p ∈ l, p.1 < d
  | [], _, _, h => nomatch h
  | q :: r, h, p, hp => by
    rcases List.mem_cons.mp hp with rfl | hp
    · exact h.1
    · exact allLt_mem h.2 p hp
theorem news_sub {h₀ h : Heap} {L : Addr} {l news : List (Addr × Obj)} (N : News h₀ L h news) (hs : ∀ p ∈ l, p ∈ news) : News h₀ L h l := fun p hp => N p (hs p hp)
section
variable {prog : Program} {w : World} {A : Around} {E : Value → Shared → Prop} {s : Shared} {env : Env} {h₀ : Heap} {body : List Stmt} {target : PySem.Expr} {Q : Flow → Shared → Prop}
theorem fpost_lift {σ : Type} {L : Addr} {ps : σ → List (Str × Value)} {Led : σ → List (Addr × Obj)} {P : Nat → σ → Prop} {i : Nat} {own : List (Addr × Obj)} {f : Flow} {s₂ : Shared} (h : FPost h₀ L ps Led (P i) own Q s f s₂) :
    FPost h₀ L (fun c : {c // ∃ i, P i c} => ps c.1) (fun c => Led c.1) (fun c => P i c.1) own Q s f s₂ := by
  cases f with
  | ret v => exact h
  | brk => exact h
  | next =>
    obtain ⟨c', h', tk', m', nx', e, F, N, hn, hm, hP⟩ := h
    exact ⟨⟨c', i, hP⟩, h', tk', m', nx', e, F, N, hn, hm, hP⟩
  | cont =>
    obtain ⟨c', h', tk', m', nx', e, F, N, hn, hm, hP⟩ := h
    exact ⟨⟨c', i, hP⟩, h', tk', m', nx', e, F, N, hn, hm, hP⟩
theorem for_strP {σ : Type} (ps : σ → List (Str × Value)) (Led : σ → List (Addr × Obj)) (P : Nat → σ → Prop) (c₀ : σ) {x : Str} {t₀ : Tok} {m : Str → Option Value}
    (hh : A.handled = none)
    (F : Fr h₀ env.locals s.heap m) (N : News h₀ env.locals s.heap (Led c₀)) (hm : ∀ p ∈ ps c₀, m p.1 = some p.2) (hP : P 0 c₀)
    (hcls : ∀ i c, P i c → ∀ p ∈ Led c, (p.2.cls ≠ .type "str_iterator" ∧ p.2.cls ≠ .type "str_ascii_iterator") ∨ p.1 ∈ (Led c₀).map (·.1))
    (ht : ∃ x px, target = .Name x px)
    (turn : ∀ (i : Nat) cp t c u h tk I oI, x.cps[i]? = some cp → P i c → (∀ p ∈ Led c₀, p.1 < I) → Fr h₀ env.locals h (kstB u (ps c)) → News h₀ env.locals h (Led c ++ [(I, oI)]) →
      wpAny (model prog w) A (assign target env (.str ⟨#[cp]⟩ t)) (fun _ s₁ => wpAny (model prog w) A (execs body env) (FPost h₀ env.locals ps Led (P (i + 1)) [(I, oI)] Q { s with heap := h, toks := tk }) E s₁) E { s with heap := h, toks := tk })
    (done : ∀ c u h tk, P x.cps.size c → Fr h₀ env.locals h (kstB u (ps c)) → News h₀ env.locals h (Led c) → Q .next { s with heap := h, toks := tk })
    (hE : PassesOwn (model prog w) A env E := by passes_own) :
    MIter prog w A env target body Q E (.str x t₀) s :=
  for_str (σ := {c // ∃ i, P i c}) (fun c => ps c.1) (fun c => Led c.1) (fun i c => P i c.1) ⟨c₀, 0, hP⟩ hh F N hm hP
    (fun c p hp => by obtain ⟨i, hi⟩ := c.2; exact hcls i c.1 hi p hp) ht
    (fun i cp t c u h tk I oI hi hP' hI F' N' => wpAny_mono (turn i cp t c.1 u h tk I oI hi hP' hI F' N') (fun _ _ hx => wpAny_mono hx (fun _ _ hy => fpost_lift hy) fun _ _ x => x) fun _ _ x => x)
    (fun c u h tk hP' F' N' => done c.1 u h tk hP' F' N') hE
theorem for_rangeP {σ : Type} (ps : σ → List (Str × Value)) (Led : σ → List (Addr × Obj)) (P : Nat → σ → Prop) (c₀ : σ) {r : Addr} {a₀ b₀ : Int} {t₀ u₀ v₀ : Tok} {n : Nat} {m : Str → Option Value}
    (hh : A.handled = none) (hr : IsRange s.heap r a₀ b₀ 1 t₀ u₀ v₀) (hsmall : Builtin.Range.small a₀ b₀ 1 = true) (hn : Builtin.Range.rangeSize a₀ b₀ 1 = (n : Int))
    (F : Fr h₀ env.locals s.heap m) (N : News h₀ env.locals s.heap (Led c₀)) (hm : ∀ p ∈ ps c₀, m p.1 = some p.2) (hP : P 0 c₀)
    (hcls : ∀ i c, P i c → ∀ p ∈ Led c, p.2.cls ≠ .type "range_iterator" ∨ p.1 ∈ (Led c₀).map (·.1))
    (ht : ∃ x px, target = .Name x px)
    (turn : ∀ (i : Nat) t c u h tk I oI, i < n → P i c → (∀ p ∈ Led c₀, p.1 < I) → oI.cls = .type "range_iterator" → Fr h₀ env.locals h (kstB u (ps c)) → News h₀ env.locals h (Led c ++ [(I, oI)]) →
      wpAny (model prog w) A (assign target env (.int (a₀ + i) t)) (fun _ s₁ => wpAny (model prog w) A (execs body env) (FPost h₀ env.locals ps Led (P (i + 1)) [(I, oI)] Q { s with heap := h, toks := tk }) E s₁) E { s with heap := h, toks := tk })
    (done : ∀ c u h tk, P n c → Fr h₀ env.locals h (kstB u (ps c)) → News h₀ env.locals h (Led c) → Q .next { s with heap := h, toks := tk })
    (hE : PassesOwn (model prog w) A env E := by passes_own) :
    MIter prog w A env target body Q E (.ref r) s :=
  for_range (σ := {c // ∃ i, P i c}) (fun c => ps c.1) (fun c => Led c.1) (fun i c => P i c.1) ⟨c₀, 0, hP⟩ hh hr hsmall hn F N hm hP
    (fun c p hp => by obtain ⟨i, hi⟩ := c.2; exact hcls i c.1 hi p hp) ht
    (fun i t c u h tk I oI hi hP' hI hc F' N' => wpAny_mono (turn i t c.1 u h tk I oI hi hP' hI hc F' N') (fun _ _ hx => wpAny_mono hx (fun _ _ hy => fpost_lift hy) fun _ _ x => x) fun _ _ x => x)
    (fun c u h tk hP' F' N' => done c.1 u h tk hP' F' N') hE
theorem for_listP {σ : Type} (ps : σ → List (Str × Value)) (Led : σ → List (Addr × Obj)) (P : Nat → σ → Prop) (c₀ : σ) {l : Addr} {vs : List Value} {m : Str → Option Value}
    (hh : A.handled = none) (F : Fr h₀ env.locals s.heap m) (N : News h₀ env.locals s.heap (Led c₀)) (hm : ∀ p ∈ ps c₀, m p.1 = some p.2) (hP : P 0 c₀)
    (hl : ∀ i c u h, P i c → Fr h₀ env.locals h u → News h₀ env.locals h (Led c) → h.IsList l vs.toArray)
    (hcls : ∀ i c, P i c → ∀ p ∈ Led c, p.2.cls ≠ .type "list_iterator" ∨ p.1 ∈ (Led c₀).map (·.1))
    (ht : (∃ x px, target = .Name x px) ∨ ∃ es x1 pos, target = .Tuple es x1 pos)
    (turn : ∀ i v c u h tk I oI, vs[i]? = some v → P i c → (∀ p ∈ Led c₀, p.1 < I) → oI.cls = .type "list_iterator" → Fr h₀ env.locals h (kstB u (ps c)) → News h₀ env.locals h (Led c ++ [(I, oI)]) →
      wpAny (model prog w) A (assign target env v) (fun _ s₁ => wpAny (model prog w) A (execs body env) (FPost h₀ env.locals ps Led (P (i + 1)) [(I, oI)] Q { s with heap := h, toks := tk }) E s₁) E { s with heap := h, toks := tk })
    (done : ∀ c u h tk, P vs.length c → Fr h₀ env.locals h (kstB u (ps c)) → News h₀ env.locals h (Led c) → Q .next { s with heap := h, toks := tk })
    (hE : PassesOwn (model prog w) A env E := by passes_own) :
    MIter prog w A env target body Q E (.ref l) s :=
  for_list (σ := {c // ∃ i, P i c}) (fun c => ps c.1) (fun c => Led c.1) (fun i c => P i c.1) ⟨c₀, 0, hP⟩ hh F N hm hP
    (fun c u h F' N' => by obtain ⟨i, hi⟩ := c.2; exact hl i c.1 u h hi F' N')
    (fun c p hp => by obtain ⟨i, hi⟩ := c.2; exact hcls i c.1 hi p hp) ht
    (fun i v c u h tk I oI hi hP' hI hc F' N' => wpAny_mono (turn i v c.1 u h tk I oI hi hP' hI hc F' N') (fun _ _ hx => wpAny_mono hx (fun _ _ hy => fpost_lift hy) fun _ _ x => x) fun _ _ x => x)
    (fun c u h tk hP' F' N' => done c.1 u h tk hP' F' N') hE
end
section
variable {prog : Program} {w : World} {A : Around} {E : Value → Shared → Prop} {s : Shared} {env : Env} {h₀ : Heap} {body : List Stmt} {target : PySem.Expr} {Q : Flow → Shared → Prop}
theorem for_rangeZ0 {σ : Type} (ps : σ → List (Str × Value)) (Led : σ → List (Addr × Obj)) (P : Nat → σ → Prop) (c₀ : σ) {r : Addr} {a₀ b₀ : Int} {t₀ u₀ v₀ : Tok} {n : Nat} {m : Str → Option Value}
    (hh : A.handled = none) (hr : IsRange s.heap r a₀ b₀ 1 t₀ u₀ v₀) (hsmall : Builtin.Range.small a₀ b₀ 1 = true) (hn : Builtin.Range.rangeSize a₀ b₀ 1 = (n : Int))
    (F : Fr h₀ env.locals s.heap m) (N : News h₀ env.locals s.heap (Led c₀)) (hm : ∀ p ∈ ps c₀, m p.1 = some p.2) (hP : P 0 c₀)
    (hcls : ∀ c, ∀ p ∈ Led c, p.2.cls ≠ .type "range_iterator" ∨ p.1 ≠ s.heap.objs.size)
    (ht : ∃ x px, target = .Name x px)
    (turn : ∀ (i : Nat) t c u h tk oI, i < n → P i c → (∀ p ∈ Led c₀, p.1 < s.heap.objs.size) → oI.cls = .type "range_iterator" → Fr h₀ env.locals h (kstB u (ps c)) → News h₀ env.locals h (Led c ++ [(s.heap.objs.size, oI)]) →
      wpAny (model prog w) A (assign target env (.int (a₀ + i) t)) (fun _ s₁ => wpAny (model prog w) A (execs body env) (FPost h₀ env.locals ps Led (P (i + 1)) [(s.heap.objs.size, oI)] Q { s with heap := h, toks := tk }) E s₁) E { s with heap := h, toks := tk })
    (done : ∀ c u h tk, P n c → Fr h₀ env.locals h (kstB u (ps c)) → News h₀ env.locals h (Led c) → Q .next { s with heap := h, toks := tk })
    (hE : PassesOwn (model prog w) A env E := by passes_own) :
    MIter prog w A env target body Q E (.ref r) s := by
  have hI0 : h₀.get? s.heap.objs.size = none := by
    cases q : h₀.get? s.heap.objs.size with
    | none => rfl
    | some o => exact absurd (Heap.lt_size (F.keep _ _ q)) (Nat.lt_irrefl _)
  unfold MIter
  refine wpAny_pyIter_range hr hsmall ?_
  have W := Walks.range (prog := prog) (w := w) hh s.heap.objs.size a₀ 1 n
  refine iter_core ps Led P c₀ (itc := .type "range_iterator") W hI0 (Nat.ne_of_gt F.ns.lt) ?_ hcls ?_ ?_ (F.push _) (fun p hp => ⟨Heap.get?_push_of_some _ (N p hp).1, (N p hp).2⟩) hm hP
    (by show IsRangeIter _ _ _ _ _; rw [hn]; simpa using Heap.get?_push_size _ rfl) ?_ ?_ hE
  · intro i h st
    exact ⟨_, st, rfl⟩
  · intro i h h' c u st hk F' N'
    exact hk _ st
  · intro i s' v Q' E' st hQ
    obtain ⟨x, px, rfl⟩ := ht
    exact wpAny_pure hQ
  · rintro i v c u h tk oI hi ⟨t, rfl⟩ hP' hc F' N'
    have := turn i t c u h tk oI hi hP' (fun p hp => Heap.lt_size (N p hp).1) hc F' N'
    simpa only [Int.mul_one] using this
  · intro c u h tk hP' F' N'
    exact done c u h tk hP' F' N'
theorem for_rangeZ {σ : Type} (ps : σ → List (Str × Value)) (Led : σ → List (Addr × Obj)) (P : Addr → Nat → σ → Prop) (c₀ : σ) {r : Addr} {a₀ b₀ : Int} {t₀ u₀ v₀ : Tok} {n : Nat} {m : Str → Option Value}
    (hh : A.handled = none) (hr : IsRange s.heap r a₀ b₀ 1 t₀ u₀ v₀) (hsmall : Builtin.Range.small a₀ b₀ 1 = true) (hn : Builtin.Range.rangeSize a₀ b₀ 1 = (n : Int))
    (F : Fr h₀ env.locals s.heap m) (N : News h₀ env.locals s.heap (Led c₀)) (hm : ∀ p ∈ ps c₀, m p.1 = some p.2) (hP : P s.heap.objs.size 0 c₀)
    (hcls : ∀ I i c, (∀ p ∈ Led c₀, p.1 < I) → P I i c → ∀ p ∈ Led c, p.2.cls ≠ .type "range_iterator" ∨ p.1 ≠ I)
    (ht : ∃ x px, target = .Name x px)
    (turn : ∀ (i : Nat) t c u h tk I oI, i < n → P I i c → (∀ p ∈ Led c₀, p.1 < I) → oI.cls = .type "range_iterator" → Fr h₀ env.locals h (kstB u (ps c)) → News h₀ env.locals h (Led c ++ [(I, oI)]) →
      wpAny (model prog w) A (assign target env (.int (a₀ + i) t)) (fun _ s₁ => wpAny (model prog w) A (execs body env) (FPost h₀ env.locals ps Led (P I (i + 1)) [(I, oI)] Q { s with heap := h, toks := tk }) E s₁) E { s with heap := h, toks := tk })
    (done : ∀ I c u h tk, P I n c → Fr h₀ env.locals h (kstB u (ps c)) → News h₀ env.locals h (Led c) → Q .next { s with heap := h, toks := tk })
    (hE : PassesOwn (model prog w) A env E := by passes_own) :
    MIter prog w A env target body Q E (.ref r) s :=
  for_rangeZ0 (σ := {c // ∃ i, P s.heap.objs.size i c}) (fun c => ps c.1) (fun c => Led c.1) (fun i c => P s.heap.objs.size i c.1) ⟨c₀, 0, hP⟩ hh hr hsmall hn F N hm hP
    (fun c p hp => by obtain ⟨i, hi⟩ := c.2; exact hcls _ i c.1 (fun p hp => Heap.lt_size (N p hp).1) hi p hp) ht
    (fun i t c u h tk oI hi hP' hI hc F' N' => wpAny_mono (turn i t c.1 u h tk _ oI hi hP' hI hc F' N') (fun _ _ hx => wpAny_mono hx (fun _ _ hy => fpost_lift hy) fun _ _ x => x) fun _ _ x => x)
    (fun c u h tk hP' F' N' => done _ c.1 u h tk hP' F' N') hE
end
def QL : Str := (Str.ofString "law" ++ ".<locals>.") ++ "<lambda>"
inductive TabS (I lo : Nat) : Nat → Array Value → List (Addr × Obj) → Prop
  | zero : TabS I lo 0 #[] []
  | one (a1 : Addr) (k1 : Obj) (v1 : Array Value) (t1 : Tok) (h1 : I < a1) (h2 : lo < a1) (hd : k1.data = .fields v1) (hv : v1[1]? = some (.str QL t1)) : TabS I lo 1 #[rawInt 227, rawInt 45, .ref a1] [(a1, k1)]
  | two (a1 a2 : Addr) (k1 k2 : Obj) (v1 v2 : Array Value) (t1 t2 : Tok) (h1 : I < a1) (h2 : lo < a1) (hd : k1.data = .fields v1) (hv : v1[1]? = some (.str QL t1)) (h3 : I < a2) (h4 : lo < a2) (hd2 : k2.data = .fields v2) (hv2 : v2[1]? = some (.str QL t2)) : TabS I lo 2 #[rawInt 227, rawInt 45, .ref a1, rawInt 228, rawInt 51, .ref a2] [(a1, k1), (a2, k2)]
theorem TabS.gt {I lo n : Nat} {tab : Array Value} {ex : List (Addr × Obj)} (h : TabS I lo n tab ex) : ∀ p ∈ ex, I < p.1 ∧ lo < p.1 := by
  cases h with
  | zero => intro p hp; cases hp
  | one a1 k1 v1 t1 h1 h2 hd hv => intro p hp; rw [List.mem_singleton.mp hp]; exact ⟨h1, h2⟩
  | two a1 a2 k1 k2 v1 v2 t1 t2 h1 h2 hd hv h3 h4 hd2 hv2 =>
    intro p hp
    rcases List.mem_cons.mp hp with rfl | hp
    · exact ⟨h1, h2⟩
    · rw [List.mem_singleton.mp hp]; exact ⟨h3, h4⟩
section
variable {prog : Program} {w : World} {A : Around} {E : Value → Shared → Prop} {s : Shared} {env : Env} {h₀ : Heap} {body : List Stmt} {target : PySem.Expr} {Q : Flow → Shared → Prop}
theorem for_listN {σ : Type} (ps : σ → List (Str × Value)) (Led : σ → List (Addr × Obj)) (P : Nat → σ → Prop) (c₀ : σ) {l : Addr} {vs : List Value} {m : Str → Option Value}
    (hh : A.handled = none) (F : Fr h₀ env.locals s.heap m) (N : News h₀ env.locals s.heap (Led c₀)) (hm : ∀ p ∈ ps c₀, m p.1 = some p.2) (hP : P 0 c₀)
    (hl : ∀ c u h, Fr h₀ env.locals h u → News h₀ env.locals h (Led c) → h.IsList l vs.toArray)
    (hcls : ∀ c, ∀ p ∈ Led c, p.2.cls ≠ .type "list_iterator" ∨ p.1 ∈ (Led c₀).map (·.1))
    (ht : (∃ x px, target = .Name x px) ∨ ∃ es x1 pos, target = .Tuple es x1 pos)
    (turn : ∀ (Q : Flow → Shared → Prop) (E : Value → Shared → Prop), PassesOwn (model prog w) A env E → ∀ i v c u h tk I oI, vs[i]? = some v → P i c → (∀ p ∈ Led c₀, p.1 < I) → oI.cls = .type "list_iterator" → Fr h₀ env.locals h (kstB u (ps c)) → News h₀ env.locals h (Led c ++ [(I, oI)]) →
      wpAny (model prog w) A (assign target env v) (fun _ s₁ => wpAny (model prog w) A (execs body env) (FPost h₀ env.locals ps Led (P (i + 1)) [(I, oI)] Q { s with heap := h, toks := tk }) E s₁) E { s with heap := h, toks := tk })
    (done : ∀ c u h tk, P vs.length c → Fr h₀ env.locals h (kstB u (ps c)) → News h₀ env.locals h (Led c) → Q .next { s with heap := h, toks := tk })
    (hE : PassesOwn (model prog w) A env E := by passes_own) :
    MIter prog w A env target body Q E (.ref l) s :=
  for_list ps Led P c₀ hh F N hm hP hl hcls ht (turn Q E hE) done hE
theorem for_rangeN {σ : Type} (ps : σ → List (Str × Value)) (Led : σ → List (Addr × Obj)) (P : Nat → σ → Prop) (c₀ : σ) {r : Addr} {a₀ b₀ : Int} {t₀ u₀ v₀ : Tok} {n : Nat} {m : Str → Option Value}
    (hh : A.handled = none) (hr : IsRange s.heap r a₀ b₀ 1 t₀ u₀ v₀) (hsmall : Builtin.Range.small a₀ b₀ 1 = true) (hn : Builtin.Range.rangeSize a₀ b₀ 1 = (n : Int))
    (F : Fr h₀ env.locals s.heap m) (N : News h₀ env.locals s.heap (Led c₀)) (hm : ∀ p ∈ ps c₀, m p.1 = some p.2) (hP : P 0 c₀)
    (hcls : ∀ c, ∀ p ∈ Led c, p.2.cls ≠ .type "range_iterator" ∨ p.1 ∈ (Led c₀).map (·.1))
    (ht : ∃ x px, target = .Name x px)
    (turn : ∀ (Q : Flow → Shared → Prop) (E : Value → Shared → Prop), PassesOwn (model prog w) A env E → ∀ (i : Nat) t c u h tk I oI, i < n → P i c → (∀ p ∈ Led c₀, p.1 < I) → oI.cls = .type "range_iterator" → Fr h₀ env.locals h (kstB u (ps c)) → News h₀ env.locals h (Led c ++ [(I, oI)]) →
      wpAny (model prog w) A (assign target env (.int (a₀ + i) t)) (fun _ s₁ => wpAny (model prog w) A (execs body env) (FPost h₀ env.locals ps Led (P (i + 1)) [(I, oI)] Q { s with heap := h, toks := tk }) E s₁) E { s with heap := h, toks := tk })
    (done : ∀ c u h tk, P n c → Fr h₀ env.locals h (kstB u (ps c)) → News h₀ env.locals h (Led c) → Q .next { s with heap := h, toks := tk })
    (hE : PassesOwn (model prog w) A env E := by passes_own) :
    MIter prog w A env target body Q E (.ref r) s :=
  for_range ps Led P c₀ hh hr hsmall hn F N hm hP hcls ht (turn Q E hE) done hE
theorem for_listPN {σ : Type} (ps : σ → List (Str × Value)) (Led : σ → List (Addr × Obj)) (P : Nat → σ → Prop) (c₀ : σ) {l : Addr} {vs : List Value} {m : Str → Option Value}
    (hh : A.handled = none) (F : Fr h₀ env.locals s.heap m) (N : News h₀ env.locals s.heap (Led c₀)) (hm : ∀ p ∈ ps c₀, m p.1 = some p.2) (hP : P 0 c₀)
    (hl : ∀ i c u h, P i c → Fr h₀ env.locals h u → News h₀ env.locals h (Led c) → h.IsList l vs.toArray)
    (hcls : ∀ i c, P i c → ∀ p ∈ Led c, p.2.cls ≠ .type "list_iterator" ∨ p.1 ∈ (Led c₀).map (·.1))
    (ht : (∃ x px, target = .Name x px) ∨ ∃ es x1 pos, target = .Tuple es x1 pos)
    (turn : ∀ (Q : Flow → Shared → Prop) (E : Value → Shared → Prop), PassesOwn (model prog w) A env E → ∀ i v c u h tk I oI, vs[i]? = some v → P i c → (∀ p ∈ Led c₀, p.1 < I) → oI.cls = .type "list_iterator" → Fr h₀ env.locals h (kstB u (ps c)) → News h₀ env.locals h (Led c ++ [(I, oI)]) →
      wpAny (model prog w) A (assign target env v) (fun _ s₁ => wpAny (model prog w) A (execs body env) (FPost h₀ env.locals ps Led (P (i + 1)) [(I, oI)] Q { s with heap := h, toks := tk }) E s₁) E { s with heap := h, toks := tk })
    (done : ∀ c u h tk, P vs.length c → Fr h₀ env.locals h (kstB u (ps c)) → News h₀ env.locals h (Led c) → Q .next { s with heap := h, toks := tk })
    (hE : PassesOwn (model prog w) A env E := by passes_own) :
    MIter prog w A env target body Q E (.ref l) s :=
  for_listP ps Led P c₀ hh F N hm hP hl hcls ht (turn Q E hE) done hE
theorem for_rangeZN {σ : Type} (ps : σ → List (Str × Value)) (Led : σ → List (Addr × Obj)) (P : Addr → Nat → σ → Prop) (c₀ : σ) {r : Addr} {a₀ b₀ : Int} {t₀ u₀ v₀ : Tok} {n : Nat} {m : Str → Option Value}
    (hh : A.handled = none) (hr : IsRange s.heap r a₀ b₀ 1 t₀ u₀ v₀) (hsmall : Builtin.Range.small a₀ b₀ 1 = true) (hn : Builtin.Range.rangeSize a₀ b₀ 1 = (n : Int))
    (F : Fr h₀ env.locals s.heap m) (N : News h₀ env.locals s.heap (Led c₀)) (hm : ∀ p ∈ ps c₀, m p.1 = some p.2) (hP : P s.heap.objs.size 0 c₀)
    (hcls : ∀ I i c, (∀ p ∈ Led c₀, p.1 < I) → P I i c → ∀ p ∈ Led c, p.2.cls ≠ .type "range_iterator" ∨ p.1 ≠ I)
    (ht : ∃ x px, target = .Name x px)
    (turn : ∀ (Q : Flow → Shared → Prop) (E : Value → Shared → Prop), PassesOwn (model prog w) A env E → ∀ (i : Nat) t c u h tk I oI, i < n → P I i c → (∀ p ∈ Led c₀, p.1 < I) → oI.cls = .type "range_iterator" → Fr h₀ env.locals h (kstB u (ps c)) → News h₀ env.locals h (Led c ++ [(I, oI)]) →
      wpAny (model prog w) A (assign target env (.int (a₀ + i) t)) (fun _ s₁ => wpAny (model prog w) A (execs body env) (FPost h₀ env.locals ps Led (P I (i + 1)) [(I, oI)] Q { s with heap := h, toks := tk }) E s₁) E { s with heap := h, toks := tk })
    (done : ∀ I c u h tk, P I n c → Fr h₀ env.locals h (kstB u (ps c)) → News h₀ env.locals h (Led c) → Q .next { s with heap := h, toks := tk })
    (hE : PassesOwn (model prog w) A env E := by passes_own) :
    MIter prog w A env target body Q E (.ref r) s :=
  for_rangeZ ps Led P c₀ hh hr hsmall hn F N hm hP hcls ht (turn Q E hE) done hE
theorem for_strPN {σ : Type} (ps : σ → List (Str × Value)) (Led : σ → List (Addr × Obj)) (P : Nat → σ → Prop) (c₀ : σ) {x : Str} {t₀ : Tok} {m : Str → Option Value}
    (hh : A.handled = none)
    (F : Fr h₀ env.locals s.heap m) (N : News h₀ env.locals s.heap (Led c₀)) (hm : ∀ p ∈ ps c₀, m p.1 = some p.2) (hP : P 0 c₀)
    (hcls : ∀ i c, P i c → ∀ p ∈ Led c, (p.2.cls ≠ .type "str_iterator" ∧ p.2.cls ≠ .type "str_ascii_iterator") ∨ p.1 ∈ (Led c₀).map (·.1))
    (ht : ∃ x px, target = .Name x px)
    (turn : ∀ (Q : Flow → Shared → Prop) (E : Value → Shared → Prop), PassesOwn (model prog w) A env E → ∀ (i : Nat) cp t c u h tk I oI, x.cps[i]? = some cp → P i c → (∀ p ∈ Led c₀, p.1 < I) → Fr h₀ env.locals h (kstB u (ps c)) → News h₀ env.locals h (Led c ++ [(I, oI)]) →
      wpAny (model prog w) A (assign target env (.str ⟨#[cp]⟩ t)) (fun _ s₁ => wpAny (model prog w) A (execs body env) (FPost h₀ env.locals ps Led (P (i + 1)) [(I, oI)] Q { s with heap := h, toks := tk }) E s₁) E { s with heap := h, toks := tk })
    (done : ∀ c u h tk, P x.cps.size c → Fr h₀ env.locals h (kstB u (ps c)) → News h₀ env.locals h (Led c) → Q .next { s with heap := h, toks := tk })
    (hE : PassesOwn (model prog w) A env E := by passes_own) :
    MIter prog w A env target body Q E (.str x t₀) s :=
  for_strP ps Led P c₀ hh F N hm hP hcls ht (turn Q E hE) done hE
theorem for_rangePN {σ : Type} (ps : σ → List (Str × Value)) (Led : σ → List (Addr × Obj)) (P : Nat → σ → Prop) (c₀ : σ) {r : Addr} {a₀ b₀ : Int} {t₀ u₀ v₀ : Tok} {n : Nat} {m : Str → Option Value}
    (hh : A.handled = none) (hr : IsRange s.heap r a₀ b₀ 1 t₀ u₀ v₀) (hsmall : Builtin.Range.small a₀ b₀ 1 = true) (hn : Builtin.Range.rangeSize a₀ b₀ 1 = (n : Int))
    (F : Fr h₀ env.locals s.heap m) (N : News h₀ env.locals s.heap (Led c₀)) (hm : ∀ p ∈ ps c₀, m p.1 = some p.2) (hP : P 0 c₀)
    (hcls : ∀ i c, P i c → ∀ p ∈ Led c, p.2.cls ≠ .type "range_iterator" ∨ p.1 ∈ (Led c₀).map (·.1))
    (ht : ∃ x px, target = .Name x px)
    (turn : ∀ (Q : Flow → Shared → Prop) (E : Value → Shared → Prop), PassesOwn (model prog w) A env E → ∀ (i : Nat) t c u h tk I oI, i < n → P i c → (∀ p ∈ Led c₀, p.1 < I) → oI.cls = .type "range_iterator" → Fr h₀ env.locals h (kstB u (ps c)) → News h₀ env.locals h (Led c ++ [(I, oI)]) →
      wpAny (model prog w) A (assign target env (.int (a₀ + i) t)) (fun _ s₁ => wpAny (model prog w) A (execs body env) (FPost h₀ env.locals ps Led (P (i + 1)) [(I, oI)] Q { s with heap := h, toks := tk }) E s₁) E { s with heap := h, toks := tk })
    (done : ∀ c u h tk, P n c → Fr h₀ env.locals h (kstB u (ps c)) → News h₀ env.locals h (Led c) → Q .next { s with heap := h, toks := tk })
    (hE : PassesOwn (model prog w) A env E := by passes_own) :
    MIter prog w A env target body Q E (.ref r) s :=
  for_rangeP ps Led P c₀ hh hr hsmall hn F N hm hP hcls ht (turn Q E hE) done hE
end
section
variable {α : Type} {a : α} {l r L A B : List α}
theorem sb_nil : ∀ p ∈ ([] : List α), p ∈ L := fun _ h => nomatch h
theorem sb_rfl : ∀ p ∈ L, p ∈ L := fun _ h => h
theorem sb_tl (h : ∀ p ∈ l, p ∈ L) : ∀ p ∈ l, p ∈ a :: L := fun p hp => .tail _ (h p hp)
theorem sb_cons (h : a ∈ L) (t : ∀ p ∈ l, p ∈ L) : ∀ p ∈ a :: l, p ∈ L := List.forall_mem_cons.mpr ⟨h, t⟩
theorem sb_keep (h : ∀ p ∈ l, p ∈ L) : ∀ p ∈ a :: l, p ∈ a :: L := sb_cons (.head _) (sb_tl h)
theorem sb_app (h1 : ∀ p ∈ l, p ∈ L) (h2 : ∀ p ∈ r, p ∈ L) : ∀ p ∈ l ++ r, p ∈ L := fun p hp => (List.mem_append.mp hp).elim (h1 p) (h2 p)
theorem sb_l (h : ∀ p ∈ l, p ∈ A) : ∀ p ∈ l, p ∈ A ++ B := fun p hp => List.mem_append_left _ (h p hp)
theorem sb_r (h : ∀ p ∈ l, p ∈ B) : ∀ p ∈ l, p ∈ A ++ B := fun p hp => List.mem_append_right _ (h p hp)
end
local macro_rules | `(tactic| walk_at $s:str) => do let t := Lean.Syntax.mkStrLit ("m " ++ s.getString); `(tactic| k_extra $t)

-- W0 c_ellip
theorem kw1 : True := by
  k_with_none
  (k_with "m exec While Compare cons nil" => ((with_reducible show wpAny _ _ (exec (Stmt.While _ _ _ _) _) _ _ _); refine hold ?_))
  (k_with "m exec While BoolOp cons nil" => ((with_reducible show wpAny _ _ (exec (Stmt.While _ _ _ _) _) _ _ _); refine hold ?_))
  (k_with "m exec While BinOp cons nil" => ((with_reducible show wpAny _ _ (exec (Stmt.While _ _ _ _) _) _ _ _); refine hold ?_))
  (k_with "m my enter" => k_dflt (refine' enter ?r8k1 ?r8k2 ?r8k6 ?r8k7 ?r8k8 ?r8k9 ?r8kB ?_ ?r8c2 ?r8c3 ?r8c4 ?r8c5; (case r8k1 => k_asm); (case r8k2 => k_asm); (case r8k6 => k_is); (case r8k7 => k_is); (case r8k8 => ktr_room); (case r8k9 => first | exact BindsTo.of_eq rfl | exact kp_binds (by assumption) (fun _ => rfl)); (case r8c5 => decide); (case r8kB => exact locs rfl); (case r8c2 => exact rfl); (case r8c3 => exact rfl); (case r8c4 => exact rfl)))
  (k_with "m my go" => ((try k_fold); (repeat' (first | (k_unfold; (try dsimp only)) | walk1 | (dsimp only; first | k_unfold | walk1))); (all_goals (try dsimp only))))
  (k_with "m my size" => first | omega | (simp only [len_S, len_toArr, List.length_map, List.size_toArray, Str.length_append, PySem.Str.length_append, sizeLine_eq, List.length_append, List.length_cons, List.length_nil] at *; omega) | (simp only [len_S, Str.length_append, sizeLine_eq] at *; size_fits))
  (k_with "m binaryOp Add str str" => ((with_reducible show wpAny _ _ (binaryOp Operator.Add (Value.str _ _) (Value.str _ _)) _ _ _); (refine' PyProof.Rows.add_str ?_ ?r11hsz); (case r11hsz => walk_at "my size"); intro _ _))
  (k_with "m call builtin:list.insert" => (k_here; (with_reducible show wpAny _ _ (call (Value.builtin _) [Value.ref _, Value.int _ _, _]) _ _ _); k_dflt (refine' kl_insert ?r12F ?r12N ?r12f ?r12e ?r12U ?r12z ?_; (case r12F => k_asm); (case r12N => k_asm); (case r12U => k_upd); (case r12e => exact rfl); (case r12f => walk_at "my fit"); (case r12z => walk_at "my size")); intro _ _ _; (try k_sweep)))
  (k_with "m my fit" => first | with_reducible exact fits0 | exact fits_nat (by omega) | exact fits_nat (by walk_at "my size"))
  (k_with "m my mem" => ((try dsimp only [List.cons_append, List.nil_append, List.append_nil]); kst_allIn))
  (k_with "m my list" => first | (with_reducible assumption) | assumption | exact Fr.lst (by k_asm) (by assumption) | exact News.isList (by k_asm) (by k_mem))
  (k_with "m call builtin:len" => ((with_reducible show wpAny _ _ (call (Value.builtin "len") [Value.ref _]) _ _ _); (refine' len_at ?r16k1 ?r16k2 ?_; (case r16k1 => walk_at "my list"); (case r16k2 => walk_at "my size")); intro _ _))
  (k_with "m my idx" => first | exact fdm2 _ _ | exact rfl | exact (Int.natCast_add _ _).symm)
  (k_with "m my item" => ((with_reducible show wpAny _ _ (subscriptTail _ _ (Value.ref _) (Value.int _ _)) _ _ _); first | ((refine' item_strs ?r18k1 ?r18k2 ?r18k3 ?r18k4 ?r18k5 ?_; (case r18k1 => walk_at "my list"); (case r18k2 => with_reducible assumption); (case r18k3 => walk_at "my idx"); (case r18k4 => walk_at "my size"); (case r18k5 => walk_at "my size")); intro _) | ((refine' item_ints ?r18k1 ?r18k2 ?r18k3 ?r18k4 ?r18k5 ?_; (case r18k1 => walk_at "my list"); (case r18k2 => with_reducible assumption); (case r18k3 => walk_at "my idx"); (case r18k4 => walk_at "my size"); (case r18k5 => walk_at "my size")); intro _)))
  (k_with "m setItem ref int" => ((with_reducible show wpAny _ _ (setItem (Value.ref _) (Value.int _ _) _) _ _ _); k_dflt (refine' set_atL ?r19F ?r19N ?r19z ?r19i ?r19b ?r19U ?_; (case r19F => k_asm); (case r19N => k_asm); (case r19U => k_upd); (case r19z => walk_at "my idx"); (case r19i => walk_at "my size"); (case r19b => walk_at "my size")); intro _ _ _; (try k_sweep)))
  (k_with "m subscriptTail Name Name ref int" => k_dflt (walk_at "my item"))
  (k_with "m my nat" => first | with_reducible exact natAdd1 _ | with_reducible exact natAdd2 _ | with_reducible exact (Int.natCast_add _ _).symm | with_reducible exact rfl)
  (k_with "m call builtin:min" => ((with_reducible show wpAny _ _ (call (Value.builtin _) [Value.int _ _, Value.int _ _]) _ _ _); k_dflt (refine' min_nat ?r22x ?r22y ?r22hh ?r22F ?r22N ?_; (case r22F => k_asm); (case r22N => k_asm); (case r22hh => with_unfolding_all rfl); (case r22x => walk_at "my nat"); (case r22y => walk_at "my nat")); intro _ _ _ _ _; (try k_sweep)))
  exact True.intro
section
def sg : List Nat := [65, 97, 98]
def Wn : Nat → List (List Nat)
  | 0 => [[]]
  | n + 1 => sg.flatMap fun c => (Wn n).map (c :: ·)
def Wall : List (List Nat) := Wn 0 ++ Wn 1 ++ Wn 2 ++ Wn 3 ++ Wn 4
def isW (l : List Nat) : Prop := l.length ≤ 4 ∧ ∀ c ∈ l, c ∈ sg
theorem mem_Wn : ∀ (l : List Nat), (∀ c ∈ l, c ∈ sg) → l ∈ Wn l.length
  | [], _ => List.mem_singleton.mpr rfl
  | c :: r, h => List.mem_flatMap.mpr ⟨c, h c (.head _), List.mem_map.mpr ⟨r, mem_Wn r (fun d hd => h d (.tail _ hd)), rfl⟩⟩
theorem mem_Wall {l : List Nat} (h : isW l) : l ∈ Wall := by
  have hm := mem_Wn l h.2
  have hl := h.1
  unfold Wall
  have h5 : l.length = 0 ∨ l.length = 1 ∨ l.length = 2 ∨ l.length = 3 ∨ l.length = 4 := by omega
  rcases h5 with e | e | e | e | e <;> rw [e] at hm <;> simp only [List.mem_append] <;> simp only [hm, true_or, or_true]
theorem isW_take {l : List Nat} (h : isW l) (n : Nat) : isW (l.take n) := ⟨Nat.le_trans (by rw [List.length_take]; omega) h.1, fun c hc => h.2 c (List.mem_of_mem_take hc)⟩
theorem isW_drop {l : List Nat} (h : isW l) (n : Nat) : isW (l.drop n) := ⟨Nat.le_trans (by rw [List.length_drop]; omega) h.1, fun c hc => h.2 c (List.mem_of_mem_drop hc)⟩
theorem W_occ {a : List Nat} (h : isW a) : (Builtin.Str.occurrences (S (a ++ [46, 46, 46])) (Str.ofString "...") 0 (S (a ++ [46, 46, 46])).length 1).isEmpty = false := by
  have q : Wall.all (fun a => (Builtin.Str.occurrences (S (a ++ [46, 46, 46])) (Str.ofString "...") 0 (S (a ++ [46, 46, 46])).length 1).isEmpty == false) = true := by decide +kernel
  simpa using List.all_eq_true.mp q a (mem_Wall h)
theorem W_split {a : List Nat} (h : isW a) : Txt.split (S (a ++ [46, 46, 46])) (Str.ofString "...") = [S a, S []] := by
  have q : Wall.all (fun a => decide (Txt.split (S (a ++ [46, 46, 46])) (Str.ofString "...") = [S a, S []])) = true := by decide +kernel
  simpa using List.all_eq_true.mp q a (mem_Wall h)
theorem W_find {b : List Nat} (h : isW b) {i : Nat} (hi : i ≤ b.length) : (match Builtin.Str.occurrences (S b) (S []) (fromIndex (S b).length i) (min (fromIndex (S b).length b.length) (S b).length) 1 with | k :: _ => (k : Int) | [] => -1) = (i : Int) := by
  have q : Wall.all (fun b => (List.range (b.length + 1)).all fun i => decide ((match Builtin.Str.occurrences (S b) (S []) (fromIndex (S b).length i) (min (fromIndex (S b).length b.length) (S b).length) 1 with | k :: _ => (k : Int) | [] => -1) = (i : Int))) = true := by decide +kernel
  have := List.all_eq_true.mp (List.all_eq_true.mp q b (mem_Wall h)) i (List.mem_range.mpr (by omega))
  simpa using this
open Builtin.Str in
theorem gives_find4 (x y : Str) (i j : Nat) (t u v w : Tok) : Gives (Builtin.«str.find» ⟨[.str x t, .str y u, .int i v, .int j w], []⟩) (.int (match Builtin.Str.occurrences x y (fromIndex x.length i) (min (fromIndex x.length j) x.length) 1 with | k :: _ => (k : Int) | [] => -1)) := by
  show Gives (match occurrences x y (fromIndex x.length i) (min (fromIndex x.length j) x.length) 1 with | k :: _ => retInt k | [] => (do rule "str.find.not-found"; retInt (-1))) _
  cases occurrences x y (fromIndex x.length i) (min (fromIndex x.length j) x.length) 1 with
  | nil => exact .rule (.of_eq rfl)
  | cons k _ => exact .of_eq rfl
section
variable {prog : Program} {w : World} {A : Around} {E : Value → Shared → Prop} {s : Shared}
theorem find_nil {b : List Nat} {i : Nat} {t u v z : Tok} {Q : Value → Shared → Prop} (hb : isW b) (hi : i ≤ b.length) (h : ∀ t k, Q (.int (i : Nat) t) { s with toks := k }) :
    wpAny (model prog w) A (call (.builtin "str.find") [.str (S b) t, .str (S []) u, .int (i : Nat) v, .int (b.length : Nat) z]) Q E s := by
  have g := gives_find4 (S b) (S []) i b.length t u v z
  rw [W_find hb hi] at g
  exact call_gives F.slot_str_find (typeIs_str _ _ _) F.entry_str_find (F.args_str_find_4 _ _ _ _) g (h _ _)
theorem truthy_S {l : List Nat} {t : Tok} {Q : Bool → Shared → Prop} (hl : l.length ≤ 1000) (h : ∀ tk, Q (!l.isEmpty) { s with toks := tk }) : wpAny (model prog w) A (truthy (.str (S l) t)) Q E s := by
  refine P.truthy_str (by rw [len_S]; omega) ?_
  have e : (((S l).length : Int) != 0) = !l.isEmpty := by
    rw [len_S]
    cases l with
    | nil => rfl
    | cons c r =>
      have : ((c :: r).length : Int) ≠ 0 := by simp only [List.length_cons]; omega
      simpa using this
  rw [e]
  exact h _
theorem starts_S {a b : List Nat} {t u : Tok} {Q : Value → Shared → Prop} (h : Q (.bool (a.isPrefixOf b)) s) : wpAny (model prog w) A (call (.builtin "str.startswith") [.str (S b) t, .str (S a) u]) Q E s := by
  refine SC.startswith ?_
  have e : Txt.startswith (S b) (S a) = a.isPrefixOf b := by
    unfold Txt.startswith
    rw [StrLaws.subAt_eq, len_S, len_S]
    show (decide (0 + a.length ≤ b.length) && ((b.drop 0).take a.length == a)) = _
    rw [List.drop_zero, Nat.zero_add]
    rw [Bool.eq_iff_iff]
    simp only [Bool.and_eq_true, decide_eq_true_eq, beq_iff_eq, List.isPrefixOf_iff_prefix]
    constructor
    · rintro ⟨_, h2⟩
      exact ⟨b.drop a.length, by rw [show a ++ b.drop a.length = b.take a.length ++ b.drop a.length by rw [h2]]; exact List.take_append_drop _ _⟩
    · rintro ⟨r, rfl⟩
      exact ⟨by simp, by simp⟩
  rw [e]
  exact h
theorem split_dots {h₀ : Heap} {L : Addr} {m : Str → Option Value} {news : List (Addr × Obj)} {a : List Nat} {t u : Tok} {Q : Value → Shared → Prop} (ha : isW a) (F : Fr h₀ L s.heap m) (N : News h₀ L s.heap news)
    (h : ∀ l t1 t2 h' k, Fr h₀ L h' m → News h₀ L h' ((l, listOf [.str (S a) t1, .str (S []) t2].toArray 0) :: news) → (∀ p ∈ news, p.1 < l) → Q (.ref l) { s with heap := h', toks := k }) :
    wpAny (model prog w) A (call (.builtin "str.split") [.str (S (a ++ [46, 46, 46])) t, .str (Str.ofString "...") u]) Q E s := by
  refine splitN1 F N (by decide +kernel) (fun l h' k e F' N' => ?_) (by rw [len_S, sizeLine_eq]; simp; have := ha.1; omega)
  rw [W_split ha] at e
  match l, e with
  | [(x, t1), (y, t2)], e =>
    simp only [List.map_cons, List.map_nil, List.cons.injEq, and_true] at e
    obtain ⟨rfl, rfl⟩ := e
    exact h _ t1 t2 h' k F' N' fun p hp => Heap.lt_size (N p hp).1
end

theorem len_strS {prog : Program} {w : World} {A : Around} {E : Value → Shared → Prop} {s : Shared} {l : List Nat} {t : Tok} {Q : Value → Shared → Prop} (hl : l.length ≤ 1000) (h : ∀ t tk, Q (.int (l.length : Nat) t) { s with toks := tk }) : wpAny (model prog w) A (call (.builtin "len") [.str (S l) t]) Q E s := by
  have g := gives_str_len (S l) t
  rw [len_S] at g
  exact call_len_gives (typeIs_str s (S l) t) F.slot_str_len F.entry_str_len (F.args_str_len_1 _) g (by omega) (by omega) (h _ _)

theorem W_slice_from {l : List Nat} (h : isW l) {i : Nat} (hi : i ≤ 8) : Txt.slice (S l) (some (i : Int)) none = S (l.drop i) := by
  have q : Wall.all (fun l => (List.range 9).all fun i => decide (Txt.slice (S l) (some ((i : Nat) : Int)) none = S (l.drop i))) = true := by decide +kernel
  have := List.all_eq_true.mp (List.all_eq_true.mp q l (mem_Wall h)) i (List.mem_range.mpr (by omega))
  simpa using this
theorem W_slice_to {l : List Nat} (h : isW l) {i : Nat} (hi : i ≤ 8) : Txt.slice (S l) none (some (i : Int)) = S (l.take i) := by
  have q : Wall.all (fun l => (List.range 9).all fun i => decide (Txt.slice (S l) none (some ((i : Nat) : Int)) = S (l.take i))) = true := by decide +kernel
  have := List.all_eq_true.mp (List.all_eq_true.mp q l (mem_Wall h)) i (List.mem_range.mpr (by omega))
  simpa using this
theorem W_slice_neg {l : List Nat} (h : isW l) {i : Nat} (h0 : 0 < i) (hi : i ≤ 8) : Txt.slice (S l) none (some (-(i : Int))) = S (l.take (l.length - i)) := by
  have q : Wall.all (fun l => (List.range 9).all fun i => decide (0 < i → Txt.slice (S l) none (some (-((i : Nat) : Int))) = S (l.take (l.length - i)))) = true := by decide +kernel
  have := List.all_eq_true.mp (List.all_eq_true.mp q l (mem_Wall h)) i (List.mem_range.mpr (by omega))
  exact of_decide_eq_true this h0
theorem W_slice_nn {l : List Nat} (h : isW l) : Txt.slice (S l) none none = S l := by
  have q : Wall.all (fun l => decide (Txt.slice (S l) none none = S l)) = true := by decide +kernel
  exact of_decide_eq_true (List.all_eq_true.mp q l (mem_Wall h))
theorem item_negS {l : List Nat} {i : Nat} {c : Nat} (h0 : 0 < i) (hi : i ≤ l.length) (h : l[l.length - i]? = some c) : Txt.item (S l) (-(i : Int)) = S [c] := by
  have e : Txt.charAt (S l) (-(i : Int)) = some c := by
    unfold Txt.charAt
    have e1 : seqIndex? (-(i : Int)) (S l).length = some (l.length - i) := by
      unfold seqIndex?
      rw [len_S]
      have h0 : (-(i : Int)) < 0 := by omega
      simp only [if_pos h0]
      rw [if_pos (by simp; omega)]
      congr 1
      omega
    rw [e1]
    simpa [S] using h
  unfold Txt.item
  rw [e]
  rfl
section
variable {prog : Program} {w : World} {A : Around} {E : Value → Shared → Prop} {s : Shared} {h₀ : Heap} {L : Addr} {m : Str → Option Value} {news : List (Addr × Obj)} {l : List Nat} {t : Tok} {value slice : PySem.Expr} {Q : Value → Shared → Prop}
theorem sl_from {z : Int} {i : Nat} {ui : Tok} (hz : z = (i : Int)) (hl : isW l) (hi : i ≤ 8) (hF : Fr h₀ L s.heap m) (hN : News h₀ L s.heap news) (h : ∀ h' t' k, Fr h₀ L h' m → News h₀ L h' news → Q (.str (S (l.drop i)) t') { s with heap := h', toks := k })
    (hs : subscripted slice false (.str (S l) t) (.ref s.heap.objs.size) = operate [.ref s.heap.objs.size, .str (S l) t] (getItem (.str (S l) t) (.ref s.heap.objs.size)) := by with_unfolding_all rfl)
    (ht : ∀ r, letTemporaryGo value (.str (S l) t) r = pure () := by intro _; with_unfolding_all rfl) :
    wpAny (model prog w) A (subscriptTail value slice (.str (S l) t) (.ref s.heap.objs.size)) Q E { s with heap := s.heap.push { cls := .type "slice", data := .fields #[.int z ui, .none, .none] } } := by
  subst hz
  exact slice_strN_sn hF hN (by rw [W_slice_from hl hi]; exact h) hs ht (by rw [len_S, sizeLine_eq]; have := hl.1; omega)
theorem sl_to {z : Int} {i : Nat} {ui : Tok} (hz : z = (i : Int)) (hl : isW l) (hi : i ≤ 8) (hF : Fr h₀ L s.heap m) (hN : News h₀ L s.heap news) (h : ∀ h' t' k, Fr h₀ L h' m → News h₀ L h' news → Q (.str (S (l.take i)) t') { s with heap := h', toks := k })
    (hs : subscripted slice false (.str (S l) t) (.ref s.heap.objs.size) = operate [.ref s.heap.objs.size, .str (S l) t] (getItem (.str (S l) t) (.ref s.heap.objs.size)) := by with_unfolding_all rfl)
    (ht : ∀ r, letTemporaryGo value (.str (S l) t) r = pure () := by intro _; with_unfolding_all rfl) :
    wpAny (model prog w) A (subscriptTail value slice (.str (S l) t) (.ref s.heap.objs.size)) Q E { s with heap := s.heap.push { cls := .type "slice", data := .fields #[.none, .int z ui, .none] } } := by
  subst hz
  exact slice_strN_ns hF hN (by rw [W_slice_to hl hi]; exact h) hs ht (by rw [len_S, sizeLine_eq]; have := hl.1; omega)
theorem sl_neg {i : Nat} {ui : Tok} (hl : isW l) (h0 : 0 < i) (hi : i ≤ 8) (hF : Fr h₀ L s.heap m) (hN : News h₀ L s.heap news) (h : ∀ h' t' k, Fr h₀ L h' m → News h₀ L h' news → Q (.str (S (l.take (l.length - i))) t') { s with heap := h', toks := k })
    (hs : subscripted slice false (.str (S l) t) (.ref s.heap.objs.size) = operate [.ref s.heap.objs.size, .str (S l) t] (getItem (.str (S l) t) (.ref s.heap.objs.size)) := by with_unfolding_all rfl)
    (ht : ∀ r, letTemporaryGo value (.str (S l) t) r = pure () := by intro _; with_unfolding_all rfl) :
    wpAny (model prog w) A (subscriptTail value slice (.str (S l) t) (.ref s.heap.objs.size)) Q E { s with heap := s.heap.push { cls := .type "slice", data := .fields #[.none, .int (-(i : Int)) ui, .none] } } :=
  slice_strN_ns hF hN (by rw [W_slice_neg hl h0 hi]; exact h) hs ht (by rw [len_S, sizeLine_eq]; have := hl.1; omega)
theorem sl_nn (hl : isW l) (hF : Fr h₀ L s.heap m) (hN : News h₀ L s.heap news) (h : ∀ h' t' k, Fr h₀ L h' m → News h₀ L h' news → Q (.str (S l) t') { s with heap := h', toks := k })
    (hs : subscripted slice false (.str (S l) t) (.ref s.heap.objs.size) = operate [.ref s.heap.objs.size, .str (S l) t] (getItem (.str (S l) t) (.ref s.heap.objs.size)) := by with_unfolding_all rfl)
    (ht : ∀ r, letTemporaryGo value (.str (S l) t) r = pure () := by intro _; with_unfolding_all rfl) :
    wpAny (model prog w) A (subscriptTail value slice (.str (S l) t) (.ref s.heap.objs.size)) Q E { s with heap := s.heap.push { cls := .type "slice", data := .fields #[.none, .none, .none] } } :=
  slice_strN_nn hF hN (by rw [W_slice_nn hl]; exact h) hs ht (by rw [len_S, sizeLine_eq]; have := hl.1; omega)
end

theorem drop_ne {l : List Nat} {i : Nat} (h : (l.drop i).isEmpty = false) : i < l.length := by
  cases Nat.lt_or_ge i l.length with
  | inl h1 => exact h1
  | inr h1 => rw [List.drop_eq_nil_of_le h1] at h; cases h
theorem drop_em {l : List Nat} {i : Nat} (h : (l.drop i).isEmpty = true) : l.length ≤ i := by
  have := congrArg List.length (List.isEmpty_iff.mp h)
  simp at this; omega
theorem take_ne {l : List Nat} {i : Nat} (h : (l.take (l.length - i)).isEmpty = false) : i < l.length := by
  cases Nat.lt_or_ge i l.length with
  | inl h1 => exact h1
  | inr h1 =>
    have e : l.length - i = 0 := by omega
    rw [e] at h; cases h
theorem take_em {l : List Nat} {i : Nat} (h : (l.take (l.length - i)).isEmpty = true) : l.length ≤ i := by
  have := congrArg List.length (List.isEmpty_iff.mp h)
  simp at this; omega
theorem emp_ne {l : List Nat} (h : l.isEmpty = false) : 0 < l.length := by
  cases l with
  | nil => cases h
  | cons c r => simp
theorem emp_em {l : List Nat} (h : l.isEmpty = true) : l.length = 0 := by
  rw [List.isEmpty_iff.mp h]; rfl
theorem negsub (k : Nat) : -(k : Int) - 1 = -((k + 1 : Nat) : Int) := by omega
section
variable {prog : Program} {w : World} {A : Around} {E : Value → Shared → Prop} {s : Shared} {l : List Nat} {t u : Tok} {value slice : PySem.Expr} {Q : Value → Shared → Prop}
theorem it_pos {z : Int} {i : Nat} (hz : z = (i : Int)) (hb : l.length ≤ 100) (hi : i < l.length) (h : ∀ t k, Q (.str (S [l.getD i 0]) t) { s with toks := k })
    (hs : subscripted slice false (.str (S l) t) (.int z u) = operate [.str (S l) t, .int z u] (getItem (.str (S l) t) (.int z u)) := by with_unfolding_all rfl)
    (ht : ∀ r, letTemporaryGo value (.str (S l) t) r = pure () := by intro _; with_unfolding_all rfl) :
    wpAny (model prog w) A (subscriptTail value slice (.str (S l) t) (.int z u)) Q E s := by
  subst hz
  refine item_str (fitsSsize_of (N := 9223372036854775808) (by omega) (by omega) (Int.le_refl _)) (by rw [len_S]; omega) (by rw [len_S]; omega) (fun _ => ?_) hs ht
  rw [item_S (c := l.getD i 0) (by simp [hi])]
  exact h _ _
theorem it_neg {z : Int} {i : Nat} (hz : z = -(i : Int)) (hb : l.length ≤ 100) (h0 : 0 < i) (hi : i ≤ l.length) (h : ∀ t k, Q (.str (S [l.getD (l.length - i) 0]) t) { s with toks := k })
    (hs : subscripted slice false (.str (S l) t) (.int z u) = operate [.str (S l) t, .int z u] (getItem (.str (S l) t) (.int z u)) := by with_unfolding_all rfl)
    (ht : ∀ r, letTemporaryGo value (.str (S l) t) r = pure () := by intro _; with_unfolding_all rfl) :
    wpAny (model prog w) A (subscriptTail value slice (.str (S l) t) (.int z u)) Q E s := by
  subst hz
  refine item_str (fitsSsize_of (N := 9223372036854775808) (by omega) (by omega) (Int.le_refl _)) (by rw [len_S]; omega) (by rw [len_S]; omega) (fun _ => ?_) hs ht
  have hlt : l.length - i < l.length := by omega
  rw [item_negS (c := l.getD (l.length - i) 0) h0 hi (by simp [hlt])]
  exact h _ _
end

theorem emp_k {l : List Nat} {k : Nat} (h : l.isEmpty = false) (hk : k = 0) : k + 1 ≤ l.length := by
  have := emp_ne h; omega
end
section
theorem kw2 : True := by
  (k_with "m truthy str" => ((refine' truthy_S ?r65k1 ?_; (case r65k1 => walk_at "my size")); intro _))
  (k_with "m call builtin:str.startswith" => (refine starts_S ?_))
  exact True.intro
theorem find_nil' {prog : Program} {w : World} {A : Around} {E : Value → Shared → Prop} {s : Shared} {a b : List Nat} {i : Nat} {t u v z : Tok} {Q : Value → Shared → Prop} (ha : a.isEmpty = true) (hb : isW b) (hi : i ≤ b.length) (h : ∀ t k, Q (.int (i : Nat) t) { s with toks := k }) :
    wpAny (model prog w) A (call (.builtin "str.find") [.str (S b) t, .str (S a) u, .int (i : Nat) v, .int (b.length : Nat) z]) Q E s := by
  cases a with
  | nil => exact find_nil hb hi h
  | cons c r => cases ha
theorem find_nil0 {prog : Program} {w : World} {A : Around} {E : Value → Shared → Prop} {s : Shared} {a b : List Nat} {t u v z : Tok} {Q : Value → Shared → Prop} (ha : a.isEmpty = true) (hb : isW b) (h : ∀ t k, Q (.int 0 t) { s with toks := k }) :
    wpAny (model prog w) A (call (.builtin "str.find") [.str (S b) t, .str (S a) u, .int 0 v, .int (b.length : Nat) z]) Q E s := find_nil' (i := 0) ha hb (Nat.zero_le _) h
theorem len_emp {prog : Program} {w : World} {A : Around} {E : Value → Shared → Prop} {s : Shared} {a : List Nat} {t : Tok} {Q : Value → Shared → Prop} (ha : a.isEmpty = true) (h : ∀ t k, Q (.int 0 t) { s with toks := k }) :
    wpAny (model prog w) A (call (.builtin "len") [.str (S a) t]) Q E s := by
  cases a with
  | nil => exact len_strS (by simp) h
  | cons c r => cases ha
theorem kw3 : True := by
  (k_with "m call builtin:str.find" => ((first | (refine' find_nil0 ?r67k1 ?r67k2 ?_; (case r67k1 => first | with_reducible assumption | rfl); (case r67k2 => assumption)) | (refine' find_nil' ?r67k1 ?r67k2 ?r67k3 ?_; (case r67k1 => first | with_reducible assumption | rfl); (case r67k2 => assumption); (case r67k3 => omega))); intro _ _))
  (k_with "m call builtin:str.split" => ((with_reducible rename Fr _ _ _ _ => F'); (with_reducible rename News _ _ _ _ => N'); (refine' split_dots ?r68k1 F' N' ?_; (case r68k1 => assumption)); clear F' N'; intro _ _ _ _ _ _ _ _))
  (k_with "m call builtin:len" => ((with_reducible show wpAny _ _ (call (Value.builtin "len") [Value.str _ _]) _ _ _); first | (refine' len_emp ?r69k1 ?_; (case r69k1 => first | with_reducible assumption | (with_reducible exact rfl)); intro _ _) | ((refine' len_strS ?r69k1 ?_; (case r69k1 => walk_at "my size")); intro _ _)))
  exact True.intro
section
variable {s : Shared} {Q : Value → Shared → Prop} {h₀ h' : Heap} {L : Addr} {m : Str → Option Value} {news : List (Addr × Obj)} {a b : List Nat} {tk' : Nat}
theorem hret_t (hret : ∀ h' tk', Fr h₀ L h' m → News h₀ L h' news → Q (.bool (a.isPrefixOf b)) {s with heap := h', toks := tk'}) (e : a.isPrefixOf b = true) (F : Fr h₀ L h' m) (N : News h₀ L h' news) : Q (.bool true) {s with heap := h', toks := tk'} := by
  rw [e] at hret; exact hret _ _ F N
theorem hret_f (hret : ∀ h' tk', Fr h₀ L h' m → News h₀ L h' news → Q (.bool (a.isPrefixOf b)) {s with heap := h', toks := tk'}) (e : a.isPrefixOf b = false) (F : Fr h₀ L h' m) (N : News h₀ L h' news) : Q (.bool false) {s with heap := h', toks := tk'} := by
  rw [e] at hret; exact hret _ _ F N
theorem hret_n (hret : ∀ h' tk', Fr h₀ L h' m → News h₀ L h' news → Q (.bool (a.isPrefixOf b)) {s with heap := h', toks := tk'}) (e : a.isEmpty = true) (F : Fr h₀ L h' m) (N : News h₀ L h' news) : Q (.bool true) {s with heap := h', toks := tk'} := by
  cases a with
  | nil => exact hret _ _ F N
  | cons c r => cases e
end
set_option maxHeartbeats 4000000 in
theorem c_ellip {prog : Program} {w : World} {p : Program} {loose : List Str} {mean : ExcName → Option Value} {mg mb : Str → Option Value} {dp un : Nat} {fr : Option (List Env)} {gd : Option (List Code)} {s : Shared} {Q E : Value → Shared → Prop} {h₀ : Heap} {L : Addr} {m : Str → Option Value} {news : List (Addr × Obj)} (a b : List Nat) (ta tb : Tok)
   (F : Fr h₀ L s.heap m) (N : News h₀ L s.heap news) (X : (hdP.heap_39 w.params).In h₀) (T : Top p loose mean mg mb h₀) (hd : dp + 5 < recursionLimit) (hu : un + 50 < cLine) (ha : isW a) (hb : isW b)
   (hret : ∀ h' tk', Fr h₀ L h' m → News h₀ L h' news → Q (.bool (a.isPrefixOf b)) {s with heap := h', toks := tk'}) : wpAny (model prog w) (ar dp un fr gd) (call (.ref 69) [.str (S (a ++ [46, 46, 46])) ta, .str (S b) tb]) Q E s := by
  have X' := X.keeps F.keep
  have T' := T.keeps F.keep
  have ha1 := ha.1
  have hb1 := hb.1
  have hocc := W_occ ha
  have hlen : (S b).length = b.length := len_S b
  refine wpAny_call ?_
  walk_at "my enter"
  intro L' h₁ F' N'
  walk_at "my go"
  all_goals ((rename Fr s.heap _ _ _ => F9); have F8 := stays_fr F F9.keep; have N8 := stays_news N F9.keep; clear F9)
  all_goals first
    | exact hret_t hret (by assumption) F8 N8
    | exact hret_f hret (by assumption) F8 N8
    | exact hret_n hret (by assumption) F8 N8
    | exact absurd (List.isPrefixOf_iff_prefix.mp (by assumption)).length_le (by omega)
end

-- c_word
theorem kw4 : True := by
  k_with_none
  (k_with "m exec While Compare cons nil" => ((with_reducible show wpAny _ _ (exec (Stmt.While _ _ _ _) _) _ _ _); refine hold ?_))
  (k_with "m exec While BoolOp cons nil" => ((with_reducible show wpAny _ _ (exec (Stmt.While _ _ _ _) _) _ _ _); refine hold ?_))
  (k_with "m exec While BinOp cons nil" => ((with_reducible show wpAny _ _ (exec (Stmt.While _ _ _ _) _) _ _ _); refine hold ?_))
  (k_with "m my enter" => k_dflt (refine' enter ?r8k1 ?r8k2 ?r8k6 ?r8k7 ?r8k8 ?r8k9 ?r8kB ?_ ?r8c2 ?r8c3 ?r8c4 ?r8c5; (case r8k1 => k_asm); (case r8k2 => k_asm); (case r8k6 => k_is); (case r8k7 => k_is); (case r8k8 => ktr_room); (case r8k9 => first | exact BindsTo.of_eq rfl | exact kp_binds (by assumption) (fun _ => rfl)); (case r8c5 => decide); (case r8kB => exact locs rfl); (case r8c2 => exact rfl); (case r8c3 => exact rfl); (case r8c4 => exact rfl)))
  (k_with "m my go" => ((try k_fold); (repeat' (first | (k_unfold; (try dsimp only)) | walk1 | (dsimp only; first | k_unfold | walk1))); (all_goals (try dsimp only))))
  (k_with "m my size" => first | omega | (simp only [len_S, len_toArr, List.length_map, List.size_toArray, Str.length_append, PySem.Str.length_append, sizeLine_eq, List.length_append, List.length_cons, List.length_nil] at *; omega) | (simp only [len_S, Str.length_append, sizeLine_eq] at *; size_fits))
  (k_with "m binaryOp Add str str" => ((with_reducible show wpAny _ _ (binaryOp Operator.Add (Value.str _ _) (Value.str _ _)) _ _ _); (refine' PyProof.Rows.add_str ?_ ?r11hsz); (case r11hsz => walk_at "my size"); intro _ _))
  (k_with "m call builtin:list.insert" => (k_here; (with_reducible show wpAny _ _ (call (Value.builtin _) [Value.ref _, Value.int _ _, _]) _ _ _); k_dflt (refine' kl_insert ?r12F ?r12N ?r12f ?r12e ?r12U ?r12z ?_; (case r12F => k_asm); (case r12N => k_asm); (case r12U => k_upd); (case r12e => exact rfl); (case r12f => walk_at "my fit"); (case r12z => walk_at "my size")); intro _ _ _; (try k_sweep)))
  (k_with "m my fit" => first | with_reducible exact fits0 | exact fits_nat (by omega) | exact fits_nat (by walk_at "my size"))
  (k_with "m my mem" => ((try dsimp only [List.cons_append, List.nil_append, List.append_nil]); kst_allIn))
  (k_with "m my list" => first | (with_reducible assumption) | assumption | exact Fr.lst (by k_asm) (by assumption) | exact News.isList (by k_asm) (by k_mem))
  (k_with "m call builtin:len" => ((with_reducible show wpAny _ _ (call (Value.builtin "len") [Value.ref _]) _ _ _); (refine' len_at ?r16k1 ?r16k2 ?_; (case r16k1 => walk_at "my list"); (case r16k2 => walk_at "my size")); intro _ _))
  (k_with "m my idx" => first | exact fdm2 _ _ | exact rfl | exact (Int.natCast_add _ _).symm)
  (k_with "m my item" => ((with_reducible show wpAny _ _ (subscriptTail _ _ (Value.ref _) (Value.int _ _)) _ _ _); first | ((refine' item_strs ?r18k1 ?r18k2 ?r18k3 ?r18k4 ?r18k5 ?_; (case r18k1 => walk_at "my list"); (case r18k2 => with_reducible assumption); (case r18k3 => walk_at "my idx"); (case r18k4 => walk_at "my size"); (case r18k5 => walk_at "my size")); intro _) | ((refine' item_ints ?r18k1 ?r18k2 ?r18k3 ?r18k4 ?r18k5 ?_; (case r18k1 => walk_at "my list"); (case r18k2 => with_reducible assumption); (case r18k3 => walk_at "my idx"); (case r18k4 => walk_at "my size"); (case r18k5 => walk_at "my size")); intro _)))
  (k_with "m setItem ref int" => ((with_reducible show wpAny _ _ (setItem (Value.ref _) (Value.int _ _) _) _ _ _); k_dflt (refine' set_atL ?r19F ?r19N ?r19z ?r19i ?r19b ?r19U ?_; (case r19F => k_asm); (case r19N => k_asm); (case r19U => k_upd); (case r19z => walk_at "my idx"); (case r19i => walk_at "my size"); (case r19b => walk_at "my size")); intro _ _ _; (try k_sweep)))
  (k_with "m subscriptTail Name Name ref int" => k_dflt (walk_at "my item"))
  (k_with "m my nat" => first | with_reducible exact natAdd1 _ | with_reducible exact natAdd2 _ | with_reducible exact (Int.natCast_add _ _).symm | with_reducible exact rfl)
  (k_with "m call builtin:min" => ((with_reducible show wpAny _ _ (call (Value.builtin _) [Value.int _ _, Value.int _ _]) _ _ _); k_dflt (refine' min_nat ?r22x ?r22y ?r22hh ?r22F ?r22N ?_; (case r22F => k_asm); (case r22N => k_asm); (case r22hh => with_unfolding_all rfl); (case r22x => walk_at "my nat"); (case r22y => walk_at "my nat")); intro _ _ _ _ _; (try k_sweep)))
  (k_with "m exec For Name Name cons nil" => ((with_reducible show wpAny _ _ (exec (Stmt.For _ _ _ _ _) _) _ _ _); k_dflt (refine for_mine ?_)))
  (k_with "m exec For Name Call cons nil" => ((with_reducible show wpAny _ _ (exec (Stmt.For _ _ _ _ _) _) _ _ _); k_dflt (refine for_mine ?_)))
  (k_with "m exec For Name Subscript cons nil" => ((with_reducible show wpAny _ _ (exec (Stmt.For _ _ _ _ _) _) _ _ _); k_dflt (refine for_mine ?_)))
  (k_with "m exec For Tuple Name cons nil" => ((with_reducible show wpAny _ _ (exec (Stmt.For _ _ _ _ _) _) _ _ _); k_dflt (refine for_mine ?_)))
  exact True.intro
section
def sgn (r : Nat) : Nat := if r % 3 = 0 then 65 else if r % 3 = 1 then 97 else 98
def wf (r : Nat) (w : List Nat) : List Nat := if h : r = 0 then w else wf ((r - 1) / 3) (sgn (r - 1) :: w)
termination_by r
decreasing_by omega

theorem word_item (r : Nat) (hr : 0 < r) : Txt.item (Str.ofString "Aab") (((r : Int) - 1).fmod 3) = S [sgn (r - 1)] := by
  have e0 : Str.ofString "Aab" = S [65, 97, 98] := by decide +kernel
  obtain ⟨r', rfl⟩ : ∃ r', r = r' + 1 := ⟨r - 1, by omega⟩
  have e1 : ((r' + 1 : Nat) : Int) - 1 = (r' : Int) := by omega
  have e3 : ((r' : Nat) : Int).fmod 3 = ((r' % 3 : Nat) : Int) := by rw [Int.fmod_eq_emod_of_nonneg _ (by decide)]; omega
  rw [e0, e1, e3]
  have h5 : r' % 3 = 0 ∨ r' % 3 = 1 ∨ r' % 3 = 2 := by omega
  refine item_S ?_
  unfold sgn
  rcases h5 with h5 | h5 | h5 <;> simp [h5]
set_option maxHeartbeats 4000000 in
theorem c_word {prog : Program} {w : World} {p : Program} {loose : List Str} {mean : ExcName → Option Value} {mg mb : Str → Option Value} {dp un : Nat} {fr : Option (List Env)} {gd : Option (List Code)} {s : Shared} {Q E : Value → Shared → Prop} {h₀ : Heap} {L : Addr} {m : Str → Option Value} {news : List (Addr × Obj)} (n : Nat) (tn : Tok)
   (F : Fr h₀ L s.heap m) (N : News h₀ L s.heap news) (X : (hdP.heap_39 w.params).In h₀) (T : Top p loose mean mg mb h₀) (hd : dp + 5 < recursionLimit) (hu : un + 50 < cLine) (hn : n ≤ 120)
   (hret : ∀ t h' tk', Fr h₀ L h' m → News h₀ L h' news → Q (.str (S (wf n [])) t) {s with heap := h', toks := tk'}) : wpAny (model prog w) (ar dp un fr gd) (call (.ref 76) [.int n tn]) Q E s := by
  have X' := X.keeps F.keep
  have T' := T.keeps F.keep
  refine wpAny_call ?_
  walk_at "my enter"
  intro L' h₁ F' N'
  walk_at "my go"
  refine' while_mine (σ := Nat × List Nat × Tok × Tok) (fun c => [(Str.ofString "word", .str (S c.2.1) c.2.2.1), (Str.ofString "rest", .int c.1 c.2.2.2)]) (fun _ => []) (fun c => c.1 ≤ 120 ∧ c.2.1.length + c.1 ≤ 120 ∧ wf c.1 c.2.1 = wf n []) (fun c => c.1) (n, [], _, _) (by k_asm) (by k_asm) ?a1 ?a2 ?a3
  case a1 => kst_all
  case a2 => exact ⟨hn, by simpa using hn, rfl⟩
  case a3 =>
    rintro ⟨r, wl, t1, t2⟩ u h tk ⟨h1, h2, h3⟩ F2 N2
    dsimp only at F2 N2 h1 h2 h3 ⊢
    walk_at "my go"
    · have e : Txt.item (Str.ofString "Aab") (((r : Int) - 1).fmod 3) ++ S wl = S (sgn (r - 1) :: wl) := by
        rw [word_item r (by omega), S_append]; rfl
      have e2 : ((r : Int) - 1).fdiv 3 = (((r - 1) / 3 : Nat) : Int) := by
        rw [Int.fdiv_eq_ediv_of_nonneg _ (by decide)]; omega
      rename_i Fz Nz
      rw [e, e2] at Fz
      refine' FEnd.intro ((r - 1) / 3, sgn (r - 1) :: wl, _, _) Fz Nz ?b1 ?b2 ?b3
      case b1 => exact List.forall_mem_nil _
      case b2 => kst_all
      case b3 =>
        refine ⟨⟨by dsimp only; omega, by dsimp only; simp only [List.length_cons]; omega, ?_⟩, by dsimp only; omega⟩
        dsimp only
        rw [← h3]
        conv => rhs; rw [wf, dif_neg (by omega)]
    · obtain rfl : r = 0 := by omega
      have e : wl = wf n [] := by rw [← h3, wf, dif_pos rfl]
      rw [e]
      exact hret _ _ _ (stays_fr F F2.keep) (stays_news N F2.keep)
end

-- c_octets
theorem kw5 : True := by
  k_with_none
  (k_with "m exec While Compare cons nil" => ((with_reducible show wpAny _ _ (exec (Stmt.While _ _ _ _) _) _ _ _); refine hold ?_))
  (k_with "m exec While BoolOp cons nil" => ((with_reducible show wpAny _ _ (exec (Stmt.While _ _ _ _) _) _ _ _); refine hold ?_))
  (k_with "m exec While BinOp cons nil" => ((with_reducible show wpAny _ _ (exec (Stmt.While _ _ _ _) _) _ _ _); refine hold ?_))
  (k_with "m my enter" => k_dflt (refine' enter ?r8k1 ?r8k2 ?r8k6 ?r8k7 ?r8k8 ?r8k9 ?r8kB ?_ ?r8c2 ?r8c3 ?r8c4 ?r8c5; (case r8k1 => k_asm); (case r8k2 => k_asm); (case r8k6 => k_is); (case r8k7 => k_is); (case r8k8 => ktr_room); (case r8k9 => first | exact BindsTo.of_eq rfl | exact kp_binds (by assumption) (fun _ => rfl)); (case r8c5 => decide); (case r8kB => exact locs rfl); (case r8c2 => exact rfl); (case r8c3 => exact rfl); (case r8c4 => exact rfl)))
  (k_with "m my go" => ((try k_fold); (repeat' (first | (k_unfold; (try dsimp only)) | walk1 | (dsimp only; first | k_unfold | walk1))); (all_goals (try dsimp only))))
  (k_with "m my size" => first | omega | (simp only [len_S, len_toArr, List.length_map, List.size_toArray, Str.length_append, PySem.Str.length_append, sizeLine_eq, List.length_append, List.length_cons, List.length_nil] at *; omega) | (simp only [len_S, Str.length_append, sizeLine_eq] at *; size_fits))
  (k_with "m binaryOp Add str str" => ((with_reducible show wpAny _ _ (binaryOp Operator.Add (Value.str _ _) (Value.str _ _)) _ _ _); (refine' PyProof.Rows.add_str ?_ ?r11hsz); (case r11hsz => walk_at "my size"); intro _ _))
  (k_with "m call builtin:list.insert" => (k_here; (with_reducible show wpAny _ _ (call (Value.builtin _) [Value.ref _, Value.int _ _, _]) _ _ _); k_dflt (refine' kl_insert ?r12F ?r12N ?r12f ?r12e ?r12U ?r12z ?_; (case r12F => k_asm); (case r12N => k_asm); (case r12U => k_upd); (case r12e => exact rfl); (case r12f => walk_at "my fit"); (case r12z => walk_at "my size")); intro _ _ _; (try k_sweep)))
  (k_with "m my fit" => first | with_reducible exact fits0 | exact fits_nat (by omega) | exact fits_nat (by walk_at "my size"))
  (k_with "m my mem" => ((try dsimp only [List.cons_append, List.nil_append, List.append_nil]); kst_allIn))
  (k_with "m my list" => first | (with_reducible assumption) | assumption | exact Fr.lst (by k_asm) (by assumption) | exact News.isList (by k_asm) (by k_mem))
  (k_with "m call builtin:len" => ((with_reducible show wpAny _ _ (call (Value.builtin "len") [Value.ref _]) _ _ _); (refine' len_at ?r16k1 ?r16k2 ?_; (case r16k1 => walk_at "my list"); (case r16k2 => walk_at "my size")); intro _ _))
  (k_with "m my idx" => first | exact fdm2 _ _ | exact rfl | exact (Int.natCast_add _ _).symm)
  (k_with "m my item" => ((with_reducible show wpAny _ _ (subscriptTail _ _ (Value.ref _) (Value.int _ _)) _ _ _); first | ((refine' item_strs ?r18k1 ?r18k2 ?r18k3 ?r18k4 ?r18k5 ?_; (case r18k1 => walk_at "my list"); (case r18k2 => with_reducible assumption); (case r18k3 => walk_at "my idx"); (case r18k4 => walk_at "my size"); (case r18k5 => walk_at "my size")); intro _) | ((refine' item_ints ?r18k1 ?r18k2 ?r18k3 ?r18k4 ?r18k5 ?_; (case r18k1 => walk_at "my list"); (case r18k2 => with_reducible assumption); (case r18k3 => walk_at "my idx"); (case r18k4 => walk_at "my size"); (case r18k5 => walk_at "my size")); intro _)))
  (k_with "m setItem ref int" => ((with_reducible show wpAny _ _ (setItem (Value.ref _) (Value.int _ _) _) _ _ _); k_dflt (refine' set_atL ?r19F ?r19N ?r19z ?r19i ?r19b ?r19U ?_; (case r19F => k_asm); (case r19N => k_asm); (case r19U => k_upd); (case r19z => walk_at "my idx"); (case r19i => walk_at "my size"); (case r19b => walk_at "my size")); intro _ _ _; (try k_sweep)))
  (k_with "m subscriptTail Name Name ref int" => k_dflt (walk_at "my item"))
  (k_with "m my nat" => first | with_reducible exact natAdd1 _ | with_reducible exact natAdd2 _ | with_reducible exact (Int.natCast_add _ _).symm | with_reducible exact rfl)
  (k_with "m call builtin:min" => ((with_reducible show wpAny _ _ (call (Value.builtin _) [Value.int _ _, Value.int _ _]) _ _ _); k_dflt (refine' min_nat ?r22x ?r22y ?r22hh ?r22F ?r22N ?_; (case r22F => k_asm); (case r22N => k_asm); (case r22hh => with_unfolding_all rfl); (case r22x => walk_at "my nat"); (case r22y => walk_at "my nat")); intro _ _ _ _ _; (try k_sweep)))
  (k_with "m exec For Name Name cons nil" => ((with_reducible show wpAny _ _ (exec (Stmt.For _ _ _ _ _) _) _ _ _); k_dflt (refine for_mine ?_)))
  (k_with "m exec For Name Call cons nil" => ((with_reducible show wpAny _ _ (exec (Stmt.For _ _ _ _ _) _) _ _ _); k_dflt (refine for_mine ?_)))
  (k_with "m exec For Name Subscript cons nil" => ((with_reducible show wpAny _ _ (exec (Stmt.For _ _ _ _ _) _) _ _ _); k_dflt (refine for_mine ?_)))
  (k_with "m exec For Tuple Name cons nil" => ((with_reducible show wpAny _ _ (exec (Stmt.For _ _ _ _ _) _) _ _ _); k_dflt (refine for_mine ?_)))
  exact True.intro
section
def ocF (r : Nat) (l : List Nat) : List Nat := if h : r = 0 then l else ocF (r / 64) ((64 + r % 64) :: l)
termination_by r
decreasing_by omega
def octs (n : Nat) : List Nat := ocF (n / 64) [n % 64]
theorem ocF_len : ∀ (k r : Nat) (l : List Nat), r < 64 ^ k → (ocF r l).length ≤ l.length + k
  | 0, r, l, h => by
    have : r = 0 := by simpa using h
    rw [ocF, dif_pos this]; omega
  | k + 1, r, l, h => by
    rw [ocF]
    split
    · omega
    · have := ocF_len k (r / 64) ((64 + r % 64) :: l) (by
        rw [Nat.div_lt_iff_lt_mul (by decide)]; rw [Nat.pow_succ] at h; exact h)
      simp only [List.length_cons] at this
      omega
set_option maxHeartbeats 4000000 in
theorem c_octets {prog : Program} {w : World} {p : Program} {loose : List Str} {mean : ExcName → Option Value} {mg mb : Str → Option Value} {dp un : Nat} {fr : Option (List Env)} {gd : Option (List Code)} {s : Shared} {Q E : Value → Shared → Prop} {h₀ : Heap} {L : Addr} {m : Str → Option Value} {news : List (Addr × Obj)} (n : Nat) (tn : Tok)
   (F : Fr h₀ L s.heap m) (N : News h₀ L s.heap news) (X : (hdP.heap_39 w.params).In h₀) (T : Top p loose mean mg mb h₀) (hd : dp + 5 < recursionLimit) (hu : un + 50 < cLine) (hn : n < 64 ^ 8)
   (hret : ∀ l vs k h' tk', Fr h₀ L h' m → News h₀ L h' ((l, listOf vs.toArray k) :: news) → (∀ p ∈ news, p.1 ≠ l) → IntsAre vs ((octs n).map Int.ofNat) → Q (.ref l) {s with heap := h', toks := tk'}) : wpAny (model prog w) (ar dp un fr gd) (call (.ref 83) [.int n tn]) Q E s := by
  have X' := X.keeps F.keep
  have T' := T.keeps F.keep
  refine wpAny_call ?_
  walk_at "my enter"
  intro L' h₁ F' N'
  walk_at "my go"
  rename_i l1 _ _ _ _ F9 N9
  simp only [fd64, fm64] at F9 N9
  refine' while_mine (σ := Nat × List Nat × List Value × Nat × Tok) (fun c => [(Str.ofString "octets", .ref l1), (Str.ofString "rest", .int c.1 c.2.2.2.2)]) (fun c => [(l1, listOf c.2.2.1.toArray c.2.2.2.1)]) (fun c => ocF c.1 c.2.1 = octs n ∧ c.1 < 64 ^ 8 ∧ IntsAre c.2.2.1 (c.2.1.map Int.ofNat) ∧ ∃ j, c.2.1.length + j ≤ 9 ∧ c.1 < 64 ^ j) (fun c => c.1) (n / 64, [n % 64], [_], _, _) (by k_asm) (by k_asm) ?a1 ?a2 ?a3
  case a1 => kst_all
  case a2 =>
    have h0 : n / 64 < 64 ^ 8 := Nat.lt_of_le_of_lt (Nat.div_le_self _ _) hn
    exact ⟨rfl, h0, IntsAre.cons _ _ .nil, 8, by simp, h0⟩
  case a3 =>
    rintro ⟨r, ol, vs, k, t1⟩ u h tk ⟨h1, h2, h3, j, h4, h5⟩ F2 N2
    dsimp only at F2 N2 h1 h2 h3 h4 h5 ⊢
    have hl := h3.length
    walk_at "my go"
    · rename_i F9 N9
      simp only [fd64, fm64, kl_ins0] at F9 N9
      have e64 : (64 + ((r % 64 : Nat) : Int)) = Int.ofNat (64 + r % 64) := by simp
      rw [e64] at N9
      have hr' : 0 < r := by omega
      refine' FEnd.intro (r / 64, (64 + r % 64) :: ol, _, _, _) F9 N9 ?b1 ?b2 ?b3
      case b1 => walk_at "my mem"
      case b2 => kst_all
      case b3 =>
        obtain ⟨j', rfl⟩ : ∃ j', j = j' + 1 := ⟨j - 1, by
          cases j with
          | zero => simp at h5; omega
          | succ j => omega⟩
        refine ⟨⟨?_, Nat.lt_of_le_of_lt (Nat.div_le_self _ _) h2, IntsAre.cons _ _ h3, j', by simp only [List.length_cons]; omega, ?_⟩, Nat.div_lt_self hr' (by decide)⟩
        · dsimp only
          rw [← h1]
          conv => rhs; rw [ocF, dif_neg (by omega)]
        · dsimp only
          rw [Nat.div_lt_iff_lt_mul (by decide)]
          rw [Nat.pow_succ] at h5; exact h5
    · have e : ol = octs n := by rw [← h1, ocF, dif_pos (by omega)]
      rw [e] at h3
      refine hret l1 vs k h _ (stays_fr F F2.keep) (news_cons F (stays_news N F2.keep) (N2.fresh (List.Mem.head _)) (N2.get (List.Mem.head _))) ?_ h3
      exact fresh_ne N (N2.fresh (List.Mem.head _))
end

-- c_subst
theorem kw6 : True := by
  k_with_none
  (k_with "m exec While Compare cons nil" => ((with_reducible show wpAny _ _ (exec (Stmt.While _ _ _ _) _) _ _ _); refine hold ?_))
  (k_with "m exec While BoolOp cons nil" => ((with_reducible show wpAny _ _ (exec (Stmt.While _ _ _ _) _) _ _ _); refine hold ?_))
  (k_with "m exec While BinOp cons nil" => ((with_reducible show wpAny _ _ (exec (Stmt.While _ _ _ _) _) _ _ _); refine hold ?_))
  (k_with "m my enter" => k_dflt (refine' enter ?r8k1 ?r8k2 ?r8k6 ?r8k7 ?r8k8 ?r8k9 ?r8kB ?_ ?r8c2 ?r8c3 ?r8c4 ?r8c5; (case r8k1 => k_asm); (case r8k2 => k_asm); (case r8k6 => k_is); (case r8k7 => k_is); (case r8k8 => ktr_room); (case r8k9 => first | exact BindsTo.of_eq rfl | exact kp_binds (by assumption) (fun _ => rfl)); (case r8c5 => decide); (case r8kB => exact locs rfl); (case r8c2 => exact rfl); (case r8c3 => exact rfl); (case r8c4 => exact rfl)))
  (k_with "m my go" => ((try k_fold); (repeat' (first | (k_unfold; (try dsimp only)) | walk1 | (dsimp only; first | k_unfold | walk1))); (all_goals (try dsimp only))))
  (k_with "m my size" => first | omega | (simp only [len_S, len_toArr, List.length_map, List.size_toArray, Str.length_append, PySem.Str.length_append, sizeLine_eq, List.length_append, List.length_cons, List.length_nil] at *; omega) | (simp only [len_S, Str.length_append, sizeLine_eq] at *; size_fits))
  (k_with "m binaryOp Add str str" => ((with_reducible show wpAny _ _ (binaryOp Operator.Add (Value.str _ _) (Value.str _ _)) _ _ _); (refine' PyProof.Rows.add_str ?_ ?r11hsz); (case r11hsz => walk_at "my size"); intro _ _))
  (k_with "m call builtin:list.insert" => (k_here; (with_reducible show wpAny _ _ (call (Value.builtin _) [Value.ref _, Value.int _ _, _]) _ _ _); k_dflt (refine' kl_insert ?r12F ?r12N ?r12f ?r12e ?r12U ?r12z ?_; (case r12F => k_asm); (case r12N => k_asm); (case r12U => k_upd); (case r12e => exact rfl); (case r12f => walk_at "my fit"); (case r12z => walk_at "my size")); intro _ _ _; (try k_sweep)))
  (k_with "m my fit" => first | with_reducible exact fits0 | exact fits_nat (by omega) | exact fits_nat (by walk_at "my size"))
  (k_with "m my mem" => ((try dsimp only [List.cons_append, List.nil_append, List.append_nil]); kst_allIn))
  (k_with "m my list" => first | (with_reducible assumption) | assumption | exact Fr.lst (by k_asm) (by assumption) | exact News.isList (by k_asm) (by k_mem))
  (k_with "m call builtin:len" => ((with_reducible show wpAny _ _ (call (Value.builtin "len") [Value.ref _]) _ _ _); (refine' len_at ?r16k1 ?r16k2 ?_; (case r16k1 => walk_at "my list"); (case r16k2 => walk_at "my size")); intro _ _))
  (k_with "m my idx" => first | exact fdm2 _ _ | exact rfl | exact (Int.natCast_add _ _).symm)
  (k_with "m my item" => ((with_reducible show wpAny _ _ (subscriptTail _ _ (Value.ref _) (Value.int _ _)) _ _ _); first | ((refine' item_strs ?r18k1 ?r18k2 ?r18k3 ?r18k4 ?r18k5 ?_; (case r18k1 => walk_at "my list"); (case r18k2 => with_reducible assumption); (case r18k3 => walk_at "my idx"); (case r18k4 => walk_at "my size"); (case r18k5 => walk_at "my size")); intro _) | ((refine' item_ints ?r18k1 ?r18k2 ?r18k3 ?r18k4 ?r18k5 ?_; (case r18k1 => walk_at "my list"); (case r18k2 => with_reducible assumption); (case r18k3 => walk_at "my idx"); (case r18k4 => walk_at "my size"); (case r18k5 => walk_at "my size")); intro _)))
  (k_with "m setItem ref int" => ((with_reducible show wpAny _ _ (setItem (Value.ref _) (Value.int _ _) _) _ _ _); k_dflt (refine' set_atL ?r19F ?r19N ?r19z ?r19i ?r19b ?r19U ?_; (case r19F => k_asm); (case r19N => k_asm); (case r19U => k_upd); (case r19z => walk_at "my idx"); (case r19i => walk_at "my size"); (case r19b => walk_at "my size")); intro _ _ _; (try k_sweep)))
  (k_with "m subscriptTail Name Name ref int" => k_dflt (walk_at "my item"))
  (k_with "m my nat" => first | with_reducible exact natAdd1 _ | with_reducible exact natAdd2 _ | with_reducible exact (Int.natCast_add _ _).symm | with_reducible exact rfl)
  (k_with "m call builtin:min" => ((with_reducible show wpAny _ _ (call (Value.builtin _) [Value.int _ _, Value.int _ _]) _ _ _); k_dflt (refine' min_nat ?r22x ?r22y ?r22hh ?r22F ?r22N ?_; (case r22F => k_asm); (case r22N => k_asm); (case r22hh => with_unfolding_all rfl); (case r22x => walk_at "my nat"); (case r22y => walk_at "my nat")); intro _ _ _ _ _; (try k_sweep)))
  (k_with "m exec For Name Name cons nil" => ((with_reducible show wpAny _ _ (exec (Stmt.For _ _ _ _ _) _) _ _ _); k_dflt (refine for_mine ?_)))
  (k_with "m exec For Name Call cons nil" => ((with_reducible show wpAny _ _ (exec (Stmt.For _ _ _ _ _) _) _ _ _); k_dflt (refine for_mine ?_)))
  (k_with "m exec For Name Subscript cons nil" => ((with_reducible show wpAny _ _ (exec (Stmt.For _ _ _ _ _) _) _ _ _); k_dflt (refine for_mine ?_)))
  (k_with "m exec For Tuple Name cons nil" => ((with_reducible show wpAny _ _ (exec (Stmt.For _ _ _ _ _) _) _ _ _); k_dflt (refine for_mine ?_)))
  exact True.intro
section
def substF (a b : List Nat) : Nat := if a = b then 0 else if Txt.lower (S a) = Txt.lower (S b) then 1 else 2
set_option maxHeartbeats 4000000 in
theorem c_subst {prog : Program} {w : World} {p : Program} {loose : List Str} {mean : ExcName → Option Value} {mg mb : Str → Option Value} {dp un : Nat} {fr : Option (List Env)} {gd : Option (List Code)} {s : Shared} {Q E : Value → Shared → Prop} {h₀ : Heap} {L : Addr} {m : Str → Option Value} {news : List (Addr × Obj)} (a b : List Nat) (ta tb : Tok)
   (F : Fr h₀ L s.heap m) (N : News h₀ L s.heap news) (X : (hdP.heap_39 w.params).In h₀) (T : Top p loose mean mg mb h₀) (hd : dp + 5 < recursionLimit) (hu : un + 50 < cLine) (ha : a.length ≤ 40) (hb : b.length ≤ 40)
   (hret : ∀ t h' tk', Fr h₀ L h' m → News h₀ L h' news → Q (.int (substF a b) t) {s with heap := h', toks := tk'}) : wpAny (model prog w) (ar dp un fr gd) (call (.ref 21) [.str (S a) ta, .str (S b) tb]) Q E s := by
  have X' := X.keeps F.keep
  have T' := T.keeps F.keep
  have ha' : (S a).length ≤ 40 := by rw [len_S]; exact ha
  have hb' : (S b).length ≤ 40 := by rw [len_S]; exact hb
  refine wpAny_call ?_
  walk_at "my enter"
  intro L' h₁ F' N'
  walk_at "my go"
  all_goals ((with_reducible rename Fr s.heap L' _ _ => F9); have F8 := stays_fr F F9.keep; have N8 := stays_news N F9.keep)
  · rename_i e
    have e' : a = b := by rw [beq_S] at e; simpa using e
    have : substF a b = 0 := by unfold substF; rw [if_pos e']
    rw [this] at hret
    exact hret _ _ _ F8 N8
  · rename_i e _ _ e2
    have e' : ¬ a = b := by rw [beq_S] at e; simpa using e
    have e2' : Txt.lower (S a) = Txt.lower (S b) := by simpa using e2
    have : substF a b = 1 := by unfold substF; rw [if_neg e', if_pos e2']
    rw [this] at hret
    exact hret _ _ _ F8 N8
  · rename_i e _ _ e2
    have e' : ¬ a = b := by rw [beq_S] at e; simpa using e
    have e2' : ¬ Txt.lower (S a) = Txt.lower (S b) := by simpa using e2
    have : substF a b = 2 := by unfold substF; rw [if_neg e', if_neg e2']
    rw [this] at hret
    exact hret _ _ _ F8 N8
end

-- c_bis
theorem kw7 : True := by
  k_with_none
  (k_with "m exec While Compare cons nil" => ((with_reducible show wpAny _ _ (exec (Stmt.While _ _ _ _) _) _ _ _); refine hold ?_))
  (k_with "m exec While BoolOp cons nil" => ((with_reducible show wpAny _ _ (exec (Stmt.While _ _ _ _) _) _ _ _); refine hold ?_))
  (k_with "m exec While BinOp cons nil" => ((with_reducible show wpAny _ _ (exec (Stmt.While _ _ _ _) _) _ _ _); refine hold ?_))
  (k_with "m my enter" => k_dflt (refine' enter ?r8k1 ?r8k2 ?r8k6 ?r8k7 ?r8k8 ?r8k9 ?r8kB ?_ ?r8c2 ?r8c3 ?r8c4 ?r8c5; (case r8k1 => k_asm); (case r8k2 => k_asm); (case r8k6 => k_is); (case r8k7 => k_is); (case r8k8 => ktr_room); (case r8k9 => first | exact BindsTo.of_eq rfl | exact kp_binds (by assumption) (fun _ => rfl)); (case r8c5 => decide); (case r8kB => exact locs rfl); (case r8c2 => exact rfl); (case r8c3 => exact rfl); (case r8c4 => exact rfl)))
  (k_with "m my go" => ((try k_fold); (repeat' (first | (k_unfold; (try dsimp only)) | walk1 | (dsimp only; first | k_unfold | walk1))); (all_goals (try dsimp only))))
  (k_with "m my size" => first | omega | (simp only [len_S, len_toArr, List.length_map, List.size_toArray, Str.length_append, PySem.Str.length_append, sizeLine_eq, List.length_append, List.length_cons, List.length_nil] at *; omega) | (simp only [len_S, Str.length_append, sizeLine_eq] at *; size_fits))
  (k_with "m binaryOp Add str str" => ((with_reducible show wpAny _ _ (binaryOp Operator.Add (Value.str _ _) (Value.str _ _)) _ _ _); (refine' PyProof.Rows.add_str ?_ ?r11hsz); (case r11hsz => walk_at "my size"); intro _ _))
  (k_with "m call builtin:list.insert" => (k_here; (with_reducible show wpAny _ _ (call (Value.builtin _) [Value.ref _, Value.int _ _, _]) _ _ _); k_dflt (refine' kl_insert ?r12F ?r12N ?r12f ?r12e ?r12U ?r12z ?_; (case r12F => k_asm); (case r12N => k_asm); (case r12U => k_upd); (case r12e => exact rfl); (case r12f => walk_at "my fit"); (case r12z => walk_at "my size")); intro _ _ _; (try k_sweep)))
  (k_with "m my fit" => first | with_reducible exact fits0 | exact fits_nat (by omega) | exact fits_nat (by walk_at "my size"))
  (k_with "m my mem" => ((try dsimp only [List.cons_append, List.nil_append, List.append_nil]); kst_allIn))
  (k_with "m my list" => first | (with_reducible assumption) | assumption | exact Fr.lst (by k_asm) (by assumption) | exact News.isList (by k_asm) (by k_mem))
  (k_with "m call builtin:len" => ((with_reducible show wpAny _ _ (call (Value.builtin "len") [Value.ref _]) _ _ _); (refine' len_at ?r16k1 ?r16k2 ?_; (case r16k1 => walk_at "my list"); (case r16k2 => walk_at "my size")); intro _ _))
  (k_with "m my idx" => first | exact fdm2 _ _ | exact rfl | exact (Int.natCast_add _ _).symm)
  (k_with "m my item" => ((with_reducible show wpAny _ _ (subscriptTail _ _ (Value.ref _) (Value.int _ _)) _ _ _); first | ((refine' item_strs ?r18k1 ?r18k2 ?r18k3 ?r18k4 ?r18k5 ?_; (case r18k1 => walk_at "my list"); (case r18k2 => with_reducible assumption); (case r18k3 => walk_at "my idx"); (case r18k4 => walk_at "my size"); (case r18k5 => walk_at "my size")); intro _) | ((refine' item_ints ?r18k1 ?r18k2 ?r18k3 ?r18k4 ?r18k5 ?_; (case r18k1 => walk_at "my list"); (case r18k2 => with_reducible assumption); (case r18k3 => walk_at "my idx"); (case r18k4 => walk_at "my size"); (case r18k5 => walk_at "my size")); intro _)))
  (k_with "m setItem ref int" => ((with_reducible show wpAny _ _ (setItem (Value.ref _) (Value.int _ _) _) _ _ _); k_dflt (refine' set_atL ?r19F ?r19N ?r19z ?r19i ?r19b ?r19U ?_; (case r19F => k_asm); (case r19N => k_asm); (case r19U => k_upd); (case r19z => walk_at "my idx"); (case r19i => walk_at "my size"); (case r19b => walk_at "my size")); intro _ _ _; (try k_sweep)))
  (k_with "m subscriptTail Name Name ref int" => k_dflt (walk_at "my item"))
  (k_with "m my nat" => first | with_reducible exact natAdd1 _ | with_reducible exact natAdd2 _ | with_reducible exact (Int.natCast_add _ _).symm | with_reducible exact rfl)
  (k_with "m call builtin:min" => ((with_reducible show wpAny _ _ (call (Value.builtin _) [Value.int _ _, Value.int _ _]) _ _ _); k_dflt (refine' min_nat ?r22x ?r22y ?r22hh ?r22F ?r22N ?_; (case r22F => k_asm); (case r22N => k_asm); (case r22hh => with_unfolding_all rfl); (case r22x => walk_at "my nat"); (case r22y => walk_at "my nat")); intro _ _ _ _ _; (try k_sweep)))
  (k_with "m exec For Name Name cons nil" => ((with_reducible show wpAny _ _ (exec (Stmt.For _ _ _ _ _) _) _ _ _); k_dflt (refine for_mine ?_)))
  (k_with "m exec For Name Call cons nil" => ((with_reducible show wpAny _ _ (exec (Stmt.For _ _ _ _ _) _) _ _ _); k_dflt (refine for_mine ?_)))
  (k_with "m exec For Name Subscript cons nil" => ((with_reducible show wpAny _ _ (exec (Stmt.For _ _ _ _ _) _) _ _ _); k_dflt (refine for_mine ?_)))
  (k_with "m exec For Tuple Name cons nil" => ((with_reducible show wpAny _ _ (exec (Stmt.For _ _ _ _ _) _) _ _ _); k_dflt (refine for_mine ?_)))
  exact True.intro
section
def bR (p : Nat → Bool) (lo hi : Nat) : Nat := if h : lo < hi then (if p ((lo + hi) / 2) then bR p lo ((lo + hi) / 2) else bR p ((lo + hi) / 2 + 1) hi) else lo
termination_by hi - lo
decreasing_by all_goals omega
theorem kw8 : True := by
  (k_with "m my room" => first | omega | ((try dsimp only [Around.deeper, ar] at *); omega) | ktr_room | ktr_units)
  exact True.intro

set_option maxHeartbeats 4000000 in
theorem c_bright0 {prog : Program} {w : World} {p : Program} {loose : List Str} {mean : ExcName → Option Value} {mg mb : Str → Option Value} {dp un : Nat} {fr : Option (List Env)} {gd : Option (List Code)} {s : Shared} {Q E : Value → Shared → Prop} {h₀ : Heap} {L : Addr} {m : Str → Option Value} {news : List (Addr × Obj)} (r : Addr) (vs : List Value) (ws : List (List Nat)) (x : List Nat) (tx : Tok) (lo0 : Nat) (tl : Tok) (hlo : lo0 ≤ ws.length)
   
   (F : Fr h₀ L s.heap m) (N : News h₀ L s.heap news) (X : (hdP.heap_39 w.params).In h₀) (T : Top p loose mean mg mb h₀) (hd : dp + 10 < recursionLimit) (hu : un + 100 < cLine) (hr : s.heap.IsList r vs.toArray) (hvs : StrsAre vs (ws.map S)) (hlen : ws.length ≤ 100)
   (hret : ∀ t h' tk', Fr h₀ L h' m → News h₀ L h' news → Q (.int (bR (fun i => decide (x < ws.getD i [])) lo0 ws.length : Nat) t) {s with heap := h', toks := tk'}) : wpAny (model prog w) (ar dp un fr gd) (call (.ref 46) [.ref r, .str (S x) tx, .int (lo0 : Nat) tl, .none]) Q E s := by
  have X' := X.keeps F.keep
  have T' := T.keeps F.keep
  refine wpAny_call ?_
  walk_at "my enter"
  intro L' h₁ F' N'
  have hvl : vs.length = ws.length := by rw [strs_len hvs, List.length_map]
  walk_at "my go"
  rename_i F9 N9
  refine' while_mine (σ := Nat × Nat × Tok × Tok) (fun c => [(Str.ofString "a", .ref r), (Str.ofString "x", .str (S x) tx), (Str.ofString "lo", .int c.1 c.2.2.1), (Str.ofString "hi", .int c.2.1 c.2.2.2)]) (fun c => []) (fun c => c.1 ≤ max c.2.1 lo0 ∧ c.2.1 ≤ ws.length ∧ bR (fun i => decide (x < ws.getD i [])) c.1 c.2.1 = bR (fun i => decide (x < ws.getD i [])) lo0 ws.length) (fun c => c.2.1 - c.1) (lo0, vs.length, _, _) F9 N9 ?a1 ?a2 ?a3
  case a1 => kst_all
  case a2 => exact ⟨by dsimp only; omega, by dsimp only; omega, by dsimp only; rw [hvl]⟩
  case a3 =>
    clear F9 N9
    rintro ⟨lo, hi, t1, t2⟩ u h tk ⟨h1, h2, h3⟩ F2 N2
    dsimp only at F2 N2 h1 h2 h3 ⊢
    walk_at "my go"
    · rename_i hc9 _ F9 N9
      have hlt : lo < hi := by omega
      simp only [fdm2, natAdd1] at F9
      refine' FEnd.intro (lo, (lo + hi) / 2, _, _) F9 N9 ?b1 ?b2 ?b3
      case b1 => exact List.forall_mem_nil _
      case b2 => kst_all
      case b3 =>
        refine ⟨⟨by dsimp only; omega, by dsimp only; omega, ?_⟩, by dsimp only; omega⟩
        dsimp only
        rw [← h3]
        conv => rhs; rw [bR, dif_pos hlt]
        have hp : (fun i => decide (x < ws.getD i [])) ((lo + hi) / 2) = true := by simpa [S] using hc9
        simp only [hp]; rfl
    · rename_i hc9 _ F9 N9
      have hlt : lo < hi := by omega
      simp only [fdm2, natAdd1] at F9
      refine' FEnd.intro ((lo + hi) / 2 + 1, hi, _, _) F9 N9 ?b1 ?b2 ?b3
      case b1 => exact List.forall_mem_nil _
      case b2 => kst_all
      case b3 =>
        refine ⟨⟨by dsimp only; omega, by dsimp only; omega, ?_⟩, by dsimp only; omega⟩
        dsimp only
        rw [← h3]
        conv => rhs; rw [bR, dif_pos hlt]
        have hp : (fun i => decide (x < ws.getD i [])) ((lo + hi) / 2) = false := by simpa [S] using hc9
        simp only [hp]; rfl
    · have e : bR (fun i => decide (x < ws.getD i [])) lo0 ws.length = lo := by rw [← h3, bR, dif_neg (by omega)]
      rw [e] at hret
      exact hret _ _ _ (stays_fr F F2.keep) (stays_news N F2.keep)
theorem fnAt_keeps {q : Addr} {h h' : Heap} (x : FnAt q h) (st : h.StaysIn h') : FnAt q h' := by
  obtain ⟨a, b, c, d, ho⟩ := x
  exact ⟨a, b, c, d, st _ _ ho⟩
def KeySays (prog : Program) (w : World) (gd : Option (List Code)) (ka : Addr) (kn : Nat) (ws : List (List Nat)) (h : Heap) : Prop :=
  ∀ (wd : List Nat) (t : Tok) (s' : Shared) (dp' un' : Nat) (fr' : Option (List Env)) (Q' E' : Value → Shared → Prop), dp' + 5 < recursionLimit → un' + 50 < cLine → h.StaysIn s'.heap → wd ∈ ws → (∀ t' h'' tk'', s'.heap.StaysIn h'' → Q' (.str (S (wd.take kn)) t') { s' with heap := h'', toks := tk'' }) → wpAny (model prog w) (ar dp' un' fr' gd) (call (.ref ka) [.str (S wd) t]) Q' E' s'
theorem key_use {prog : Program} {w : World} {gd : Option (List Code)} {ka : Addr} {kn : Nat} {ws : List (List Nat)} {h : Heap} (H : KeySays prog w gd ka kn ws h) {wd : List Nat} {t : Tok} {s' : Shared} {dp' un' : Nat} {fr' : Option (List Env)} {Q' E' : Value → Shared → Prop} {h₀ : Heap} {L : Addr} {m : Str → Option Value} {news : List (Addr × Obj)} (F : Fr h₀ L s'.heap m) (N : News h₀ L s'.heap news) (hd : dp' + 5 < recursionLimit) (hu : un' + 50 < cLine) (hst : h.StaysIn s'.heap) (hw : wd ∈ ws)
    (k : ∀ t' h'' tk'', Fr h₀ L h'' m → News h₀ L h'' news → Q' (.str (S (wd.take kn)) t') { s' with heap := h'', toks := tk'' }) : wpAny (model prog w) (ar dp' un' fr' gd) (call (.ref ka) [.str (S wd) t]) Q' E' s' :=
  H wd t s' dp' un' fr' Q' E' hd hu hst hw fun t' h'' tk'' st => k t' h'' tk'' (stays_fr F st) (stays_news N st)
theorem getD_mem {ws : List (List Nat)} {i : Nat} (h : i < ws.length) : ws.getD i [] ∈ ws := by
  rw [List.getD_eq_getElem?_getD, List.getElem?_eq_getElem h]; exact List.getElem_mem h
theorem kw9 : True := by
  (k_with "m callWith ref" => (k_dflt (refine' callWith_F ?r71k1 ?_; (case r71k1 => exact fnAt_keeps (by assumption) (Fr.keep (by k_asm))); k_whole)))
  (k_with "m FnAt" => exact fnAt_keeps (by assumption) (Fr.keep (by k_asm)))
  (k_with "m call ref" => (k_dflt (refine' key_use ?r73H ?r73F ?r73N ?r73hd ?r73hu ?r73hst ?r73hw ?_; (case r73H => assumption); (case r73F => k_asm); (case r73N => k_asm); (case r73hd => walk_at "my room"); (case r73hu => walk_at "my room"); (case r73hst => exact Fr.keep (by k_asm)); (case r73hw => exact getD_mem (by omega))); intro _ _ _ _ _; (try k_sweep)))
  exact True.intro

set_option maxHeartbeats 4000000 in
theorem c_brightk {prog : Program} {w : World} {p : Program} {loose : List Str} {mean : ExcName → Option Value} {mg mb : Str → Option Value} {dp un : Nat} {fr : Option (List Env)} {gd : Option (List Code)} {s : Shared} {Q E : Value → Shared → Prop} {h₀ : Heap} {L : Addr} {m : Str → Option Value} {news : List (Addr × Obj)} (r : Addr) (vs : List Value) (ws : List (List Nat)) (x : List Nat) (tx : Tok) (lo0 : Nat) (tl : Tok) (hlo : lo0 ≤ ws.length)
   (ka : Addr) (kn : Nat) (hfn : FnAt ka s.heap) (hkey : KeySays prog w gd ka kn ws s.heap)
   (F : Fr h₀ L s.heap m) (N : News h₀ L s.heap news) (X : (hdP.heap_39 w.params).In h₀) (T : Top p loose mean mg mb h₀) (hd : dp + 10 < recursionLimit) (hu : un + 100 < cLine) (hr : s.heap.IsList r vs.toArray) (hvs : StrsAre vs (ws.map S)) (hlen : ws.length ≤ 100)
   (hret : ∀ t h' tk', Fr h₀ L h' m → News h₀ L h' news → Q (.int (bR (fun i => decide (x < (ws.getD i []).take kn)) lo0 ws.length : Nat) t) {s with heap := h', toks := tk'}) : wpAny (model prog w) (ar dp un fr gd) (call (.ref 46) [.ref r, .str (S x) tx, .int (lo0 : Nat) tl] [(Str.ofString "key", .ref ka)]) Q E s := by
  have X' := X.keeps F.keep
  have T' := T.keeps F.keep
  refine wpAny_call ?_
  walk_at "my enter"
  intro L' h₁ F' N'
  have hvl : vs.length = ws.length := by rw [strs_len hvs, List.length_map]
  walk_at "my go"
  rename_i F9 N9
  refine' while_mine (σ := Nat × Nat × Tok × Tok) (fun c => [(Str.ofString "a", .ref r), (Str.ofString "x", .str (S x) tx), (Str.ofString "lo", .int c.1 c.2.2.1), (Str.ofString "hi", .int c.2.1 c.2.2.2), (Str.ofString "key", .ref ka)]) (fun c => []) (fun c => c.1 ≤ max c.2.1 lo0 ∧ c.2.1 ≤ ws.length ∧ bR (fun i => decide (x < (ws.getD i []).take kn)) c.1 c.2.1 = bR (fun i => decide (x < (ws.getD i []).take kn)) lo0 ws.length) (fun c => c.2.1 - c.1) (lo0, vs.length, _, _) F9 N9 ?a1 ?a2 ?a3
  case a1 => kst_all
  case a2 => exact ⟨by dsimp only; omega, by dsimp only; omega, by dsimp only; rw [hvl]⟩
  case a3 =>
    clear F9 N9
    rintro ⟨lo, hi, t1, t2⟩ u h tk ⟨h1, h2, h3⟩ F2 N2
    dsimp only at F2 N2 h1 h2 h3 ⊢
    walk_at "my go"
    · rename_i hc9 _ F9 N9
      have hlt : lo < hi := by omega
      simp only [fdm2, natAdd1] at F9
      refine' FEnd.intro (lo, (lo + hi) / 2, _, _) F9 N9 ?b1 ?b2 ?b3
      case b1 => exact List.forall_mem_nil _
      case b2 => kst_all
      case b3 =>
        refine ⟨⟨by dsimp only; omega, by dsimp only; omega, ?_⟩, by dsimp only; omega⟩
        dsimp only
        rw [← h3]
        conv => rhs; rw [bR, dif_pos hlt]
        have hp : (fun i => decide (x < (ws.getD i []).take kn)) ((lo + hi) / 2) = true := by simpa [S] using hc9
        simp only [hp]; rfl
    · rename_i hc9 _ F9 N9
      have hlt : lo < hi := by omega
      simp only [fdm2, natAdd1] at F9
      refine' FEnd.intro ((lo + hi) / 2 + 1, hi, _, _) F9 N9 ?b1 ?b2 ?b3
      case b1 => exact List.forall_mem_nil _
      case b2 => kst_all
      case b3 =>
        refine ⟨⟨by dsimp only; omega, by dsimp only; omega, ?_⟩, by dsimp only; omega⟩
        dsimp only
        rw [← h3]
        conv => rhs; rw [bR, dif_pos hlt]
        have hp : (fun i => decide (x < (ws.getD i []).take kn)) ((lo + hi) / 2) = false := by simpa [S] using hc9
        simp only [hp]; rfl
    · have e : bR (fun i => decide (x < (ws.getD i []).take kn)) lo0 ws.length = lo := by rw [← h3, bR, dif_neg (by omega)]
      rw [e] at hret
      exact hret _ _ _ (stays_fr F F2.keep) (stays_news N F2.keep)

set_option maxHeartbeats 4000000 in
theorem c_bleftk {prog : Program} {w : World} {p : Program} {loose : List Str} {mean : ExcName → Option Value} {mg mb : Str → Option Value} {dp un : Nat} {fr : Option (List Env)} {gd : Option (List Code)} {s : Shared} {Q E : Value → Shared → Prop} {h₀ : Heap} {L : Addr} {m : Str → Option Value} {news : List (Addr × Obj)} (r : Addr) (vs : List Value) (ws : List (List Nat)) (x : List Nat) (tx : Tok) 
   (ka : Addr) (kn : Nat) (hfn : FnAt ka s.heap) (hkey : KeySays prog w gd ka kn ws s.heap)
   (F : Fr h₀ L s.heap m) (N : News h₀ L s.heap news) (X : (hdP.heap_39 w.params).In h₀) (T : Top p loose mean mg mb h₀) (hd : dp + 10 < recursionLimit) (hu : un + 100 < cLine) (hr : s.heap.IsList r vs.toArray) (hvs : StrsAre vs (ws.map S)) (hlen : ws.length ≤ 100)
   (hret : ∀ t h' tk', Fr h₀ L h' m → News h₀ L h' news → Q (.int (bR (fun i => !decide ((ws.getD i []).take kn < x)) 0 ws.length : Nat) t) {s with heap := h', toks := tk'}) : wpAny (model prog w) (ar dp un fr gd) (call (.ref 55) [.ref r, .str (S x) tx] [(Str.ofString "key", .ref ka)]) Q E s := by
  have X' := X.keeps F.keep
  have T' := T.keeps F.keep
  refine wpAny_call ?_
  walk_at "my enter"
  intro L' h₁ F' N'
  have hvl : vs.length = ws.length := by rw [strs_len hvs, List.length_map]
  walk_at "my go"
  rename_i F9 N9
  refine' while_mine (σ := Nat × Nat × Tok × Tok) (fun c => [(Str.ofString "a", .ref r), (Str.ofString "x", .str (S x) tx), (Str.ofString "lo", .int c.1 c.2.2.1), (Str.ofString "hi", .int c.2.1 c.2.2.2), (Str.ofString "key", .ref ka)]) (fun c => []) (fun c => c.1 ≤ max c.2.1 0 ∧ c.2.1 ≤ ws.length ∧ bR (fun i => !decide ((ws.getD i []).take kn < x)) c.1 c.2.1 = bR (fun i => !decide ((ws.getD i []).take kn < x)) 0 ws.length) (fun c => c.2.1 - c.1) (0, vs.length, _, _) F9 N9 ?a1 ?a2 ?a3
  case a1 => kst_all
  case a2 => exact ⟨by dsimp only; omega, by dsimp only; omega, by dsimp only; rw [hvl]⟩
  case a3 =>
    clear F9 N9
    rintro ⟨lo, hi, t1, t2⟩ u h tk ⟨h1, h2, h3⟩ F2 N2
    dsimp only at F2 N2 h1 h2 h3 ⊢
    walk_at "my go"
    · rename_i hc9 _ F9 N9
      have hlt : lo < hi := by omega
      simp only [fdm2, natAdd1] at F9
      refine' FEnd.intro ((lo + hi) / 2 + 1, hi, _, _) F9 N9 ?b1 ?b2 ?b3
      case b1 => exact List.forall_mem_nil _
      case b2 => kst_all
      case b3 =>
        refine ⟨⟨by dsimp only; omega, by dsimp only; omega, ?_⟩, by dsimp only; omega⟩
        dsimp only
        rw [← h3]
        conv => rhs; rw [bR, dif_pos hlt]
        have hp : (fun i => !decide ((ws.getD i []).take kn < x)) ((lo + hi) / 2) = false := by simpa [S] using hc9
        simp only [hp]; rfl
    · rename_i hc9 _ F9 N9
      have hlt : lo < hi := by omega
      simp only [fdm2, natAdd1] at F9
      refine' FEnd.intro (lo, (lo + hi) / 2, _, _) F9 N9 ?b1 ?b2 ?b3
      case b1 => exact List.forall_mem_nil _
      case b2 => kst_all
      case b3 =>
        refine ⟨⟨by dsimp only; omega, by dsimp only; omega, ?_⟩, by dsimp only; omega⟩
        dsimp only
        rw [← h3]
        conv => rhs; rw [bR, dif_pos hlt]
        have hp : (fun i => !decide ((ws.getD i []).take kn < x)) ((lo + hi) / 2) = true := by simpa [S] using hc9
        simp only [hp]; rfl
    · have e : bR (fun i => !decide ((ws.getD i []).take kn < x)) 0 ws.length = lo := by rw [← h3, bR, dif_neg (by omega)]
      rw [e] at hret
      exact hret _ _ _ (stays_fr F F2.keep) (stays_news N F2.keep)
end

-- c_insort
theorem kw10 : True := by
  k_with_none
  (k_with "m exec While Compare cons nil" => ((with_reducible show wpAny _ _ (exec (Stmt.While _ _ _ _) _) _ _ _); refine hold ?_))
  (k_with "m exec While BoolOp cons nil" => ((with_reducible show wpAny _ _ (exec (Stmt.While _ _ _ _) _) _ _ _); refine hold ?_))
  (k_with "m exec While BinOp cons nil" => ((with_reducible show wpAny _ _ (exec (Stmt.While _ _ _ _) _) _ _ _); refine hold ?_))
  (k_with "m my enter" => k_dflt (refine' enter ?r8k1 ?r8k2 ?r8k6 ?r8k7 ?r8k8 ?r8k9 ?r8kB ?_ ?r8c2 ?r8c3 ?r8c4 ?r8c5; (case r8k1 => k_asm); (case r8k2 => k_asm); (case r8k6 => k_is); (case r8k7 => k_is); (case r8k8 => ktr_room); (case r8k9 => first | exact BindsTo.of_eq rfl | exact kp_binds (by assumption) (fun _ => rfl)); (case r8c5 => decide); (case r8kB => exact locs rfl); (case r8c2 => exact rfl); (case r8c3 => exact rfl); (case r8c4 => exact rfl)))
  (k_with "m my go" => ((try k_fold); (repeat' (first | (k_unfold; (try dsimp only)) | walk1 | (dsimp only; first | k_unfold | walk1))); (all_goals (try dsimp only))))
  (k_with "m my size" => first | omega | (simp only [len_S, len_toArr, List.length_map, List.size_toArray, Str.length_append, PySem.Str.length_append, sizeLine_eq, List.length_append, List.length_cons, List.length_nil] at *; omega) | (simp only [len_S, Str.length_append, sizeLine_eq] at *; size_fits))
  (k_with "m binaryOp Add str str" => ((with_reducible show wpAny _ _ (binaryOp Operator.Add (Value.str _ _) (Value.str _ _)) _ _ _); (refine' PyProof.Rows.add_str ?_ ?r11hsz); (case r11hsz => walk_at "my size"); intro _ _))
  (k_with "m call builtin:list.insert" => (k_here; (with_reducible show wpAny _ _ (call (Value.builtin _) [Value.ref _, Value.int _ _, _]) _ _ _); k_dflt (refine' kl_insert ?r12F ?r12N ?r12f ?r12e ?r12U ?r12z ?_; (case r12F => k_asm); (case r12N => k_asm); (case r12U => k_upd); (case r12e => exact rfl); (case r12f => walk_at "my fit"); (case r12z => walk_at "my size")); intro _ _ _; (try k_sweep)))
  (k_with "m my fit" => first | with_reducible exact fits0 | exact fits_nat (by omega) | exact fits_nat (by walk_at "my size"))
  (k_with "m my mem" => ((try dsimp only [List.cons_append, List.nil_append, List.append_nil]); kst_allIn))
  (k_with "m my list" => first | (with_reducible assumption) | assumption | exact Fr.lst (by k_asm) (by assumption) | exact News.isList (by k_asm) (by k_mem))
  (k_with "m call builtin:len" => ((with_reducible show wpAny _ _ (call (Value.builtin "len") [Value.ref _]) _ _ _); (refine' len_at ?r16k1 ?r16k2 ?_; (case r16k1 => walk_at "my list"); (case r16k2 => walk_at "my size")); intro _ _))
  (k_with "m my idx" => first | exact fdm2 _ _ | exact rfl | exact (Int.natCast_add _ _).symm)
  (k_with "m my item" => ((with_reducible show wpAny _ _ (subscriptTail _ _ (Value.ref _) (Value.int _ _)) _ _ _); first | ((refine' item_strs ?r18k1 ?r18k2 ?r18k3 ?r18k4 ?r18k5 ?_; (case r18k1 => walk_at "my list"); (case r18k2 => with_reducible assumption); (case r18k3 => walk_at "my idx"); (case r18k4 => walk_at "my size"); (case r18k5 => walk_at "my size")); intro _) | ((refine' item_ints ?r18k1 ?r18k2 ?r18k3 ?r18k4 ?r18k5 ?_; (case r18k1 => walk_at "my list"); (case r18k2 => with_reducible assumption); (case r18k3 => walk_at "my idx"); (case r18k4 => walk_at "my size"); (case r18k5 => walk_at "my size")); intro _)))
  (k_with "m setItem ref int" => ((with_reducible show wpAny _ _ (setItem (Value.ref _) (Value.int _ _) _) _ _ _); k_dflt (refine' set_atL ?r19F ?r19N ?r19z ?r19i ?r19b ?r19U ?_; (case r19F => k_asm); (case r19N => k_asm); (case r19U => k_upd); (case r19z => walk_at "my idx"); (case r19i => walk_at "my size"); (case r19b => walk_at "my size")); intro _ _ _; (try k_sweep)))
  (k_with "m subscriptTail Name Name ref int" => k_dflt (walk_at "my item"))
  (k_with "m my nat" => first | with_reducible exact natAdd1 _ | with_reducible exact natAdd2 _ | with_reducible exact (Int.natCast_add _ _).symm | with_reducible exact rfl)
  (k_with "m call builtin:min" => ((with_reducible show wpAny _ _ (call (Value.builtin _) [Value.int _ _, Value.int _ _]) _ _ _); k_dflt (refine' min_nat ?r22x ?r22y ?r22hh ?r22F ?r22N ?_; (case r22F => k_asm); (case r22N => k_asm); (case r22hh => with_unfolding_all rfl); (case r22x => walk_at "my nat"); (case r22y => walk_at "my nat")); intro _ _ _ _ _; (try k_sweep)))
  (k_with "m exec For Name Name cons nil" => ((with_reducible show wpAny _ _ (exec (Stmt.For _ _ _ _ _) _) _ _ _); k_dflt (refine for_mine ?_)))
  (k_with "m exec For Name Call cons nil" => ((with_reducible show wpAny _ _ (exec (Stmt.For _ _ _ _ _) _) _ _ _); k_dflt (refine for_mine ?_)))
  (k_with "m exec For Name Subscript cons nil" => ((with_reducible show wpAny _ _ (exec (Stmt.For _ _ _ _ _) _) _ _ _); k_dflt (refine for_mine ?_)))
  (k_with "m exec For Tuple Name cons nil" => ((with_reducible show wpAny _ _ (exec (Stmt.For _ _ _ _ _) _) _ _ _); k_dflt (refine for_mine ?_)))
  exact True.intro
section
theorem bR_le (p : Nat → Bool) : ∀ (k lo hi : Nat), hi - lo ≤ k → lo ≤ hi → bR p lo hi ≤ hi
  | 0, lo, hi, h, h2 => by
    rw [bR, dif_neg (by omega)]; exact h2
  | k + 1, lo, hi, h, h2 => by
    rw [bR]
    split
    · split
      · exact Nat.le_trans (bR_le p k _ _ (by omega) (by omega)) (by omega)
      · exact bR_le p k _ _ (by omega) (by omega)
    · exact h2
theorem c_bright1 {prog : Program} {w : World} {p : Program} {loose : List Str} {mean : ExcName → Option Value} {mg mb : Str → Option Value} {dp un : Nat} {fr : Option (List Env)} {gd : Option (List Code)} {s : Shared} {Q E : Value → Shared → Prop} {h₀ : Heap} {L : Addr} {m : Str → Option Value} {news : List (Addr × Obj)} {r : Addr} {vs : List Value} {ws : List (List Nat)} {x : List Nat} {tx : Tok} {tl : Tok}
   (F : Fr h₀ L s.heap m) (N : News h₀ L s.heap news) (X : (hdP.heap_39 w.params).In h₀) (T : Top p loose mean mg mb h₀) (hd : dp + 10 < recursionLimit) (hu : un + 100 < cLine) (hr : s.heap.IsList r vs.toArray) (hvs : StrsAre vs (ws.map S)) (hlen : ws.length ≤ 100)
   (hret : ∀ (i : Nat) t h' tk', i = bR (fun i => decide (x < ws.getD i [])) 0 ws.length → i ≤ ws.length → Fr h₀ L h' m → News h₀ L h' news → Q (.int (i : Nat) t) {s with heap := h', toks := tk'}) : wpAny (model prog w) (ar dp un fr gd) (call (.ref 46) [.ref r, .str (S x) tx, .int 0 tl, .none]) Q E s :=
  c_bright0 r vs ws x tx 0 tl (Nat.zero_le _) F N X T hd hu hr hvs hlen fun t h' tk' => hret _ t h' tk' rfl (bR_le _ _ _ _ (Nat.le_refl _) (Nat.zero_le _))
theorem kw11 : True := by
  (k_with "m my room" => first | omega | ((try dsimp only [Around.deeper, ar] at *); omega) | ktr_room | ktr_units)
  (k_with "m call ref" => (k_dflt (refine' c_bright1 ?r75F ?r75N ?r75X ?r75T ?r75hd ?r75hu ?r75hr ?r75hv ?r75hl ?_; (case r75F => k_asm); (case r75N => k_asm); (case r75X => k_asm); (case r75T => k_asm); (case r75hr => walk_at "my list"); (case r75hd => walk_at "my room"); (case r75hu => walk_at "my room"); (case r75hv => assumption); (case r75hl => omega)); intro _ _ _ _ _ _ _ _; (try k_sweep)))
  exact True.intro
def insW (ws : List (List Nat)) (x : List Nat) : List (List Nat) := ws.take (bR (fun i => decide (x < ws.getD i [])) 0 ws.length) ++ x :: ws.drop (bR (fun i => decide (x < ws.getD i [])) 0 ws.length)
set_option maxHeartbeats 4000000 in
theorem c_insort {prog : Program} {w : World} {p : Program} {loose : List Str} {mean : ExcName → Option Value} {mg mb : Str → Option Value} {dp un : Nat} {fr : Option (List Env)} {gd : Option (List Code)} {s : Shared} {Q E : Value → Shared → Prop} {h₀ : Heap} {L : Addr} {m : Str → Option Value} {news : List (Addr × Obj)} {g : Obj → List (Addr × Obj)} (r : Addr) (vs : List Value) (n : Nat) (ws : List (List Nat)) (x : List Nat) (tx : Tok)
   (F : Fr h₀ L s.heap m) (N : News h₀ L s.heap news) (U : UpdF r (listOf vs.toArray n) news g) (X : (hdP.heap_39 w.params).In h₀) (T : Top p loose mean mg mb h₀) (hd : dp + 20 < recursionLimit) (hu : un + 200 < cLine) (hvs : StrsAre vs (ws.map S)) (hlen : ws.length ≤ 100)
   (hret : ∀ vs' n' h' tk', StrsAre vs' ((insW ws x).map S) → Fr h₀ L h' m → News h₀ L h' (g (listOf vs'.toArray n')) → Q .none {s with heap := h', toks := tk'}) : wpAny (model prog w) (ar dp un fr gd) (call (.ref 37) [.ref r, .str (S x) tx]) Q E s := by
  have hm := N _ (updF_mem U)
  have st := hide_stays F hm.2.2
  have X0 := X.keeps F.keep
  have T0 := T.keeps F.keep
  have X' := X.keeps st
  have T' := T.keeps st
  have hvl : vs.length = ws.length := by rw [strs_len hvs, List.length_map]
  refine wpAny_call ?_
  k_dflt (refine' enter_h [r] [(r, listOf vs.toArray n)] ?kl X0 T0 ?k6 ?k7 ?k8 ?k9 ?kB ?_ ?c2 ?c3 ?c4 ?c5; (case kl => exact List.forall_mem_cons.mpr ⟨⟨hm.1, List.Mem.head _⟩, List.forall_mem_nil _⟩); (case k6 => k_is); (case k7 => k_is); (case k8 => ktr_room); (case k9 => first | exact BindsTo.of_eq rfl | exact kp_binds (by assumption) (fun _ => rfl)); (case c5 => decide); (case kB => exact locs rfl); (case c2 => exact rfl); (case c3 => exact rfl); (case c4 => exact rfl))
  intro L' h₁ F' N'
  walk_at "my go"
  rename_i i0 t0 _ _ he hl _ _ h9 F9 N9
  rw [kl_ins_nat _ _ _ (by simp; omega)] at N9
  refine hret _ _ _ _ ?_ (fr_but F hm.2.2 hm.2.1 (but_of_hide F9)) (news_but N U (but_of_hide F9) (N9.get (List.Mem.head _)))
  have := strs_ins hvs i0 (S x) tx (by simpa using hl)
  unfold insW
  rw [← he]
  simpa using this
end

-- c_comp c_nr c_ndef c_next
theorem kw12 : True := by
  k_with_none
  (k_with "m exec While Compare cons nil" => ((with_reducible show wpAny _ _ (exec (Stmt.While _ _ _ _) _) _ _ _); refine hold ?_))
  (k_with "m exec While BoolOp cons nil" => ((with_reducible show wpAny _ _ (exec (Stmt.While _ _ _ _) _) _ _ _); refine hold ?_))
  (k_with "m exec While BinOp cons nil" => ((with_reducible show wpAny _ _ (exec (Stmt.While _ _ _ _) _) _ _ _); refine hold ?_))
  (k_with "m my enter" => k_dflt (refine' enter ?r8k1 ?r8k2 ?r8k6 ?r8k7 ?r8k8 ?r8k9 ?r8kB ?_ ?r8c2 ?r8c3 ?r8c4 ?r8c5; (case r8k1 => k_asm); (case r8k2 => k_asm); (case r8k6 => k_is); (case r8k7 => k_is); (case r8k8 => ktr_room); (case r8k9 => first | exact BindsTo.of_eq rfl | exact kp_binds (by assumption) (fun _ => rfl)); (case r8c5 => decide); (case r8kB => exact locs rfl); (case r8c2 => exact rfl); (case r8c3 => exact rfl); (case r8c4 => exact rfl)))
  (k_with "m my go" => ((try k_fold); (repeat' (first | (k_unfold; (try dsimp only)) | walk1 | (dsimp only; first | k_unfold | walk1))); (all_goals (try dsimp only))))
  (k_with "m my size" => first | omega | (simp only [len_S, len_toArr, List.length_map, List.size_toArray, Str.length_append, PySem.Str.length_append, sizeLine_eq, List.length_append, List.length_cons, List.length_nil] at *; omega) | (simp only [len_S, Str.length_append, sizeLine_eq] at *; size_fits))
  (k_with "m binaryOp Add str str" => ((with_reducible show wpAny _ _ (binaryOp Operator.Add (Value.str _ _) (Value.str _ _)) _ _ _); (refine' PyProof.Rows.add_str ?_ ?r11hsz); (case r11hsz => walk_at "my size"); intro _ _))
  (k_with "m call builtin:list.insert" => (k_here; (with_reducible show wpAny _ _ (call (Value.builtin _) [Value.ref _, Value.int _ _, _]) _ _ _); k_dflt (refine' kl_insert ?r12F ?r12N ?r12f ?r12e ?r12U ?r12z ?_; (case r12F => k_asm); (case r12N => k_asm); (case r12U => k_upd); (case r12e => exact rfl); (case r12f => walk_at "my fit"); (case r12z => walk_at "my size")); intro _ _ _; (try k_sweep)))
  (k_with "m my fit" => first | with_reducible exact fits0 | exact fits_nat (by omega) | exact fits_nat (by walk_at "my size"))
  (k_with "m my mem" => ((try dsimp only [List.cons_append, List.nil_append, List.append_nil]); kst_allIn))
  (k_with "m my list" => first | (with_reducible assumption) | assumption | exact Fr.lst (by k_asm) (by assumption) | exact News.isList (by k_asm) (by k_mem))
  (k_with "m call builtin:len" => ((with_reducible show wpAny _ _ (call (Value.builtin "len") [Value.ref _]) _ _ _); (refine' len_at ?r16k1 ?r16k2 ?_; (case r16k1 => walk_at "my list"); (case r16k2 => walk_at "my size")); intro _ _))
  (k_with "m my idx" => first | exact fdm2 _ _ | exact rfl | exact (Int.natCast_add _ _).symm)
  (k_with "m my item" => ((with_reducible show wpAny _ _ (subscriptTail _ _ (Value.ref _) (Value.int _ _)) _ _ _); first | ((refine' item_strs ?r18k1 ?r18k2 ?r18k3 ?r18k4 ?r18k5 ?_; (case r18k1 => walk_at "my list"); (case r18k2 => with_reducible assumption); (case r18k3 => walk_at "my idx"); (case r18k4 => walk_at "my size"); (case r18k5 => walk_at "my size")); intro _) | ((refine' item_ints ?r18k1 ?r18k2 ?r18k3 ?r18k4 ?r18k5 ?_; (case r18k1 => walk_at "my list"); (case r18k2 => with_reducible assumption); (case r18k3 => walk_at "my idx"); (case r18k4 => walk_at "my size"); (case r18k5 => walk_at "my size")); intro _)))
  (k_with "m setItem ref int" => ((with_reducible show wpAny _ _ (setItem (Value.ref _) (Value.int _ _) _) _ _ _); k_dflt (refine' set_atL ?r19F ?r19N ?r19z ?r19i ?r19b ?r19U ?_; (case r19F => k_asm); (case r19N => k_asm); (case r19U => k_upd); (case r19z => walk_at "my idx"); (case r19i => walk_at "my size"); (case r19b => walk_at "my size")); intro _ _ _; (try k_sweep)))
  (k_with "m subscriptTail Name Name ref int" => k_dflt (walk_at "my item"))
  (k_with "m my nat" => first | with_reducible exact natAdd1 _ | with_reducible exact natAdd2 _ | with_reducible exact (Int.natCast_add _ _).symm | with_reducible exact rfl)
  (k_with "m call builtin:min" => ((with_reducible show wpAny _ _ (call (Value.builtin _) [Value.int _ _, Value.int _ _]) _ _ _); k_dflt (refine' min_nat ?r22x ?r22y ?r22hh ?r22F ?r22N ?_; (case r22F => k_asm); (case r22N => k_asm); (case r22hh => with_unfolding_all rfl); (case r22x => walk_at "my nat"); (case r22y => walk_at "my nat")); intro _ _ _ _ _; (try k_sweep)))
  (k_with "m exec For Name Name cons nil" => ((with_reducible show wpAny _ _ (exec (Stmt.For _ _ _ _ _) _) _ _ _); k_dflt (refine for_mine ?_)))
  (k_with "m exec For Name Call cons nil" => ((with_reducible show wpAny _ _ (exec (Stmt.For _ _ _ _ _) _) _ _ _); k_dflt (refine for_mine ?_)))
  (k_with "m exec For Name Subscript cons nil" => ((with_reducible show wpAny _ _ (exec (Stmt.For _ _ _ _ _) _) _ _ _); k_dflt (refine for_mine ?_)))
  (k_with "m exec For Tuple Name cons nil" => ((with_reducible show wpAny _ _ (exec (Stmt.For _ _ _ _ _) _) _ _ _); k_dflt (refine for_mine ?_)))
  exact True.intro
section
section
variable {prog : Program} {w : World} {A : Around} {h₀ : Heap} {L : Addr} {m : Str → Option Value} {env : Env} {elt ct : PySem.Expr} {x : Str} {scope : Scope} {cl : List (Str × Addr)} {s : Shared} {S : List (Addr × Obj) → Prop} {P : Nat → Value → Prop} {Fin : List Value → List (Addr × Obj) → Prop} {news : List (Addr × Obj)}
theorem compRest_ind (J : Nat → List Value → Prop) (n : Nat)
    (step : ∀ i ys v I oI C oC D m₂ h tk (E' : Value → Shared → Prop), i < n → J i ys → P i v → LCg.NsObj oC m₂ → m₂ x = some v → Fr h₀ L h m → News h₀ L h ((I, oI) :: (C, oC) :: (D, LCg.lst ys) :: news) → LCg.Off3 I C D news → ((@Ne Nat I C) ∧ (@Ne Nat I D) ∧ (@Ne Nat C D)) →
      wpAny (model prog w) A (eval elt (compEnvC scope cl C env)) (LCg.CompEnd h₀ L m { s with heap := h, toks := tk } I oI C oC D (LCg.lst ys) S (fun y news' => news' = news ∧ J (i + 1) (ys ++ [y]))) E' { s with heap := h, toks := tk })
    (fin : ∀ ys, J n ys → Fin ys news) : ∀ k i ys, i + k = n → J i ys → LCg.CompRest prog w A h₀ L m env elt x scope cl s S P Fin k i ys news
  | 0, i, ys, hk, hJ => by
    obtain rfl : i = n := by omega
    exact fin ys hJ
  | k + 1, i, ys, hk, hJ => by
    intro v I oI C oC D m₂ h tk E' hP hC hx F N off ne
    refine wpAny_mono (step i ys v I oI C oC D m₂ h tk E' (by omega) hJ hP hC hx F N off ne) (fun y s₂ hE => ?_) fun _ _ e => e
    obtain ⟨h', tk', news', rfl, F', N', off', hS, en, hJ'⟩ := hE
    exact ⟨h', tk', news', rfl, F', N', off', hS, en.symm ▸ compRest_ind J n step fin k (i + 1) _ (by omega) hJ'⟩
theorem compRestT_ind (J : Nat → List Value → Prop) (n : Nat)
    (step : ∀ i ys v I oI C oC D m₂ h tk (E' : Value → Shared → Prop), i < n → J i ys → P i v → LCg.NsObj oC m₂ → m₂ x = some v → Fr h₀ L h m → News h₀ L h ((I, oI) :: (C, oC) :: (D, LCg.lst ys) :: news) → LCg.Off3 I C D news → ((@Ne Nat I C) ∧ (@Ne Nat I D) ∧ (@Ne Nat C D)) →
      wpAny (model prog w) A (isTrue ct (compEnvC scope cl C env) (eval ct (compEnvC scope cl C env))) (fun ok s' => if ok = true then
        wpAny (model prog w) A (eval elt (compEnvC scope cl C env)) (LCg.CompEnd h₀ L m { s with heap := h, toks := tk } I oI C oC D (LCg.lst ys) S (fun y news' => news' = news ∧ J (i + 1) (ys ++ [y]))) E' s'
        else LCg.CompEnd h₀ L m { s with heap := h, toks := tk } I oI C oC D (LCg.lst ys) S (fun _ news' => news' = news ∧ J (i + 1) ys) Value.none s') E' { s with heap := h, toks := tk })
    (fin : ∀ ys, J n ys → Fin ys news) : ∀ k i ys, i + k = n → J i ys → LCt.CompRestT prog w A h₀ L m env ct elt x scope cl s S P Fin k i ys news
  | 0, i, ys, hk, hJ => by
    obtain rfl : i = n := by omega
    exact fin ys hJ
  | k + 1, i, ys, hk, hJ => by
    intro v I oI C oC D m₂ h tk E' hP hC hx F N off ne
    refine wpAny_mono (step i ys v I oI C oC D m₂ h tk E' (by omega) hJ hP hC hx F N off ne) (fun ok s₁ hE => ?_) fun _ _ e => e
    cases ok with
    | true =>
      simp only [if_true] at hE ⊢
      refine wpAny_mono hE (fun y s₂ hE => ?_) fun _ _ e => e
      obtain ⟨h', tk', news', rfl, F', N', off', hS, en, hJ'⟩ := hE
      exact ⟨h', tk', news', rfl, F', N', off', hS, en.symm ▸ compRestT_ind J n step fin k (i + 1) _ (by omega) hJ'⟩
    | false =>
      simp only [Bool.false_eq_true, if_false] at hE ⊢
      obtain ⟨h', tk', news', rfl, F', N', off', hS, en, hJ'⟩ := hE
      exact ⟨h', tk', news', rfl, F', N', off', hS, en.symm ▸ compRestT_ind J n step fin k (i + 1) _ (by omega) hJ'⟩
end
end
section
theorem minL_le : ∀ (l : List Nat) (a : Nat), l.foldl min a ≤ a ∧ (∀ x ∈ l, l.foldl min a ≤ x) ∧ (l.foldl min a = a ∨ l.foldl min a ∈ l)
  | [], a => ⟨Nat.le_refl _, fun _ h => (nomatch h), .inl rfl⟩
  | b :: l, a => by
    have ih := minL_le l (min a b)
    rw [List.foldl_cons]
    refine ⟨by omega, fun x hx => ?_, ?_⟩
    · rcases List.mem_cons.mp hx with rfl | hx
      · omega
      · exact ih.2.1 x hx
    · rcases ih.2.2 with h | h
      · rw [h]
        by_cases hab : a ≤ b
        · left; omega
        · right; rw [show min a b = b by omega]; exact List.mem_cons_self
      · exact .inr (List.mem_cons_of_mem _ h)
def minL : List Nat → Nat
  | [] => 0
  | a :: l => l.foldl min a
theorem minL_spec {l : List Nat} (hne : l ≠ []) : minL l ∈ l ∧ ∀ x ∈ l, minL l ≤ x := by
  cases l with
  | nil => exact absurd rfl hne
  | cons a l =>
    have ih := minL_le l a
    refine ⟨?_, fun x hx => ?_⟩
    · rcases ih.2.2 with h | h
      · show l.foldl min a ∈ _
        rw [h]; exact List.mem_cons_self
      · exact List.mem_cons_of_mem _ h
    · rcases List.mem_cons.mp hx with rfl | hx
      · exact ih.1
      · exact ih.2.1 x hx
section
variable {prog : Program} {w : World} {A : Around} {E : Value → Shared → Prop} {s : Shared} {h₀ : Heap} {L : Addr} {m : Str → Option Value} {news : List (Addr × Obj)} {Q : Value → Shared → Prop}
theorem min_row {l : Addr} {vs : List Value} {row : List Nat} (hh : A.handled = none) (F : Fr h₀ L s.heap m) (N : News h₀ L s.heap news) (hl : s.heap.IsList l vs.toArray) (hi : IntsAre vs (row.map Int.ofNat)) (hne : row ≠ [])
    (h : ∀ h' t tk, Fr h₀ L h' m → News h₀ L h' news → Q (.int (minL row : Nat) t) { s with heap := h', toks := tk }) : wpAny (model prog w) A (call (.builtin "min") [.ref l]) Q E s := by
  refine kso_min F N hl hi (by cases row; exact absurd rfl hne; simp) hh fun h' M t tk F' N' hM hle => ?_
  have sp := minL_spec hne
  obtain ⟨x, hx, rfl⟩ := List.mem_map.mp hM
  have e : x = minL row := by
    have h1 := sp.2 x hx
    have h2 := hle (Int.ofNat (minL row)) (List.mem_map.mpr ⟨_, sp.1, rfl⟩)
    have h3 : x ≤ minL row := Int.ofNat_le.mp h2
    omega
  subst e
  exact h _ _ _ F' N'
theorem min_3nat {x y z : Int} {a b c : Nat} {t u v : Tok} (hx : x = (a : Int)) (hy : y = (b : Int)) (hz : z = (c : Int)) (hh : A.handled = none) (F : Fr h₀ L s.heap m) (N : News h₀ L s.heap news)
    (h : ∀ t h' tk, Fr h₀ L h' m → News h₀ L h' news → Q (.int (min (min a b) c : Nat) t) { s with heap := h', toks := tk }) :
    wpAny (model prog w) A (call (.builtin "min") [.int x t, .int y u, .int z v]) Q E s := by
  subst hx hy hz
  refine PySem.min_three_ints hh fun h' tk hk => ?_
  have key := fun t => h t h' tk (F.grownK hk) (N.grown hk)
  by_cases c1 : (b : Int) < a
  · rw [if_pos c1]
    by_cases c2 : (c : Int) < b
    · rw [if_pos c2]
      have e : min (min a b) c = c := by omega
      rw [e] at key; exact key _
    · rw [if_neg c2]
      have e : min (min a b) c = b := by omega
      rw [e] at key; exact key _
  · rw [if_neg c1]
    by_cases c2 : (c : Int) < a
    · rw [if_pos c2]
      have e : min (min a b) c = c := by omega
      rw [e] at key; exact key _
    · rw [if_neg c2]
      have e : min (min a b) c = a := by omega
      rw [e] at key; exact key _
theorem item_neg1 {value slice : PySem.Expr} {l : Addr} {vs : List Value} {u : Tok} {v : Value} (hl : s.heap.IsList l vs.toArray) (hx : vs.getLast? = some v) (h : Q v s)
    (hs : subscripted slice false (.ref l) (.int (-1) u) = operate [.ref l, .int (-1) u] (getItem (.ref l) (.int (-1) u)) := by with_unfolding_all rfl) :
    wpAny (model prog w) A (subscriptTail value slice (.ref l) (.int (-1) u)) Q E s := by
  have hpos : 0 < vs.length := by
    cases vs with
    | nil => cases hx
    | cons a r => simp
  refine kde_neg (j := vs.length - 1) hl (by decide) (by decide) ?_ ?_ h hs
  · unfold seqIndex?
    simp only [show ((-1 : Int) < 0) from by decide, if_true]
    rw [if_pos (by simp; omega)]
    congr 1
    omega
  · rw [← List.getLast?_eq_getElem?]; exact hx
theorem slice_to {value slice : PySem.Expr} {l : Addr} {vs : List Value} {y : Int} {b : Nat} {vl vu : Value} (F : Fr h₀ L s.heap m) (N : News h₀ L s.heap news) (hl : s.heap.IsList l vs.toArray) (pl : IsPart vl none) (pu : IsPart vu (some y)) (hy : y = (b : Int)) (hz : vs.length ≤ 100000)
    (h : ∀ D h', Fr h₀ L h' m → News h₀ L h' ((D, listOf (vs.take b).toArray 0) :: news) → (∀ p ∈ news, p.1 < D) → Q (.ref D) { s with heap := h' })
    (hs : subscripted slice false (.ref l) (.ref s.heap.objs.size) = operate [.ref s.heap.objs.size, .ref l] (getItem (.ref l) (.ref s.heap.objs.size))) (ht : ∀ r, letTemporaryGo value (.ref l) r = pure ()) :
    wpAny (model prog w) A (subscriptTail value slice (.ref l) (.ref s.heap.objs.size)) Q E { s with heap := s.heap.push { cls := .type "slice", data := .fields #[vl, vu, .none] } } := by
  subst hy
  refine kmk_slice F N hl pl pu (fun D h' F' N' l1 => h D h' F' ?_ l1) hs ht (by rw [sizeLine_eq]; simp; omega)
  have e : sliceBounds none (some (b : Int)) none vs.toArray.size = (((0 : Nat) : Int), ((min b vs.toArray.size : Nat) : Int), 1) := by
    simp only [sliceBounds, Option.getD_none, show (1 : Int) > 0 by decide, if_true, if_neg (show ¬ ((b : Int) < 0) by omega)]
    congr 1
    congr 1
    omega
  rw [kmk_pick_nat _ e] at N'
  have e2 : ((vs.toArray.toList.drop 0).take (min b vs.toArray.size - 0)) = vs.take b := by
    rw [List.drop_zero, Nat.sub_zero, List.size_toArray]
    exact kmk_take_min _ _
  rw [e2] at N'
  exact N'
end
end
section
theorem last_snoc {α : Type} (l : List α) (v : α) : (l ++ [v]).getLast? = some v := by simp
theorem getLastD_snoc {α : Type} (l : List α) (v d : α) : (l ++ [v]).getLastD d = v := by simp
def costN (c d : Nat) : Nat := if c = d then 0 else if (c = 97 ∧ d = 65) ∨ (c = 65 ∧ d = 97) then 1 else 2
def lineF (c : Nat) (t above : List Nat) : Nat → List Nat
  | 0 => [above.getD 0 0 + 2]
  | k + 1 => lineF c t above k ++ [min (min (above.getD k 0 + costN c (t.getD k 0)) (above.getD (k + 1) 0 + 2)) ((lineF c t above k).getD k 0 + 2)]
def rowF (c : Nat) (t above : List Nat) : List Nat := lineF c t above t.length
def signsF (reach : Nat) (t : List Nat) : List (List Nat) → List Nat → List (List Nat)
  | tb, [] => tb
  | tb, c :: r => if reach < minL (rowF c t (tb.getLastD [])) then tb ++ [rowF c t (tb.getLastD [])] else signsF reach t (tb ++ [rowF c t (tb.getLastD [])]) r
def nearStep (reach : Nat) (t : List Nat) (tb : List (List Nat)) (d : Nat × List Nat) : List (List Nat) × Option Nat :=
  if reach < minL (tb.getLastD []) ∧ tb.length - 1 ≤ d.1 then (tb, none)
  else (signsF reach t (tb.take (d.1 + 1)) d.2, if ((signsF reach t (tb.take (d.1 + 1)) d.2).getLastD []).getLastD 0 ≤ reach then some (((signsF reach t (tb.take (d.1 + 1)) d.2).getLastD []).getLastD 0) else none)
def nearRun (reach : Nat) (t : List Nat) : List (Nat × List Nat) → Nat → List (List Nat) → List (Nat × Nat) → List (List Nat) × List (Nat × Nat)
  | [], _, tb, nr => (tb, nr)
  | d :: r, i, tb, nr => nearRun reach t r (i + 1) (nearStep reach t tb d).1 (nr ++ ((nearStep reach t tb d).2.toList.map fun v => (i, v)))
end
section
section
variable {prog : Program} {w : World} {A : Around} {E : Value → Shared → Prop} {s : Shared} {h₀ : Heap} {L it l : Addr} {m : Str → Option Value} {news : List (Addr × Obj)} {g : Obj → List (Addr × Obj)} {io : Obj} {i : Nat}
def IsLI (io : Obj) (l : Addr) (i : Nat) : Prop := io.cls = .type "list_iterator" ∧ io.data = .fields #[.ref l, .int i 0]
theorem next_call {Q : Value → Shared → Prop} (hit : s.heap.IsListIter it l i)
    (h : wpAny (model prog w) A.in1 (callSpecial? (.ref it) (Str.ofString "__next__")) (fun v s' => ∃ x, v = some x ∧ Q x s') E s) :
    wpAny (model prog w) A (call (.builtin "next") [.ref it]) Q E s := by
  refine call_function_entry (by decide +kernel) (by decide +kernel) kdk_entry_next (kdk_args_next _) ?_
  unfold Builtin.«next»
  refine wpAny_bind (m := someArgs "next" 1 2 _) (wpAny_of_eq (a := [Value.ref it]) (by first | rfl | kernel_rfl!) ?_)
  dsimp only
  refine wpAny_bind (wpAny_specialOf (name := Str.ofString "__next__") hit.typeIs slot_listiter_next.lookup ?_)
  refine wpAny_ite_split (fun hab => absurd hab (by decide)) (fun _ => ?_)
  refine wpAny_bind (wpAny_mono h (fun v s' h' => ?_) fun _ _ x => x)
  obtain ⟨x, rfl, hQ⟩ := h'
  exact wpAny_pure ⟨_, rfl, hQ⟩
theorem next_li {items : List Value} {x : Value} {Q : Value → Shared → Prop} (F : Fr h₀ L s.heap m) (N : News h₀ L s.heap news) (U : UpdF it io news g) (hi : IsLI io l i) (hl : s.heap.IsList l items.toArray) (hx : items[i]? = some x)
    (h : ∀ h' o', IsLI o' l (i + 1) → Fr h₀ L h' m → News h₀ L h' (g o') → Q x { s with heap := h' }) :
    wpAny (model prog w) A (call (.builtin "next") [.ref it]) Q E s := by
  have hm := N _ (updF_mem U)
  have hit : s.heap.IsListIter it l i := ⟨io, hm.1, hi.1, hi.2⟩
  obtain ⟨ol, hol, _, nl, hdl⟩ := id hl
  have ho := hm.1
  obtain ⟨hc, hd⟩ := hi
  refine next_call hit ?_
  refine wpAny_callSpecial?_slot (name := Str.ofString "__next__") hit.typeIs slot_listiter_next
    (wpAny_call_entry slot_listiter_next hit.typeIs entry_listiter_next ?_ (args_listiter_next _))
  show wpAny _ _ (field (.ref it) 0 >>= _) _ _ s
  refine wpAny_bind (wpAny_field ho hd (x := .ref l) rfl ?_)
  show wpAny _ _ (if (Value.ref l == Value.none) = true then _ else _) _ _ s
  rw [if_neg (show ¬ ((Value.ref l == Value.none) = true) from Bool.false_ne_true)]
  show wpAny _ _ (field (.ref it) 1 >>= _) _ _ s
  refine wpAny_bind (wpAny_field ho hd (x := .int i 0) rfl ?_)
  show wpAny _ _ (seqItems? (.ref l) >>= _) _ _ s
  refine wpAny_bind (wpAny_seqItems hol hdl ?_)
  have hx' : items.toArray[i]? = some x := by simpa using hx
  simp only [Int.toNat_natCast, hx']
  refine wpAny_bind (wpAny_setField ho hd (by simp) (wpAny_pure ⟨x, rfl, ⟨x, rfl, h _ (io.mapFields (·.setIfInBounds 1 (rawInt ((i : Int) + 1)))) ⟨(Obj.cls_mapFields ..).trans hc, by rw [Obj.data_mapFields hd]; simp [rawInt]⟩ (F.change (Heap.SameBut.update ..) hm.2.1 hm.2.2) ?_⟩⟩))
  refine news_but N U (fun b o hb e => ?_) (Heap.get?_update_self _ ho (Obj.isFreed_of_fields (Obj.data_mapFields hd _)))
  exact ((Heap.SameBut.update ..).2 b hb).trans e
theorem next_end {items : List Value} {Q : Value → Shared → Prop} (hh : A.handled = none) (F : Fr h₀ L s.heap m) (N : News h₀ L s.heap news) (U : UpdF it io news g) (hi : IsLI io l i) (hl : s.heap.IsList l items.toArray) (hx : items[i]? = none)
    (h : ∀ h1 h' o' e, Fr h₀ L h1 m → News h₀ L h1 (g o') → Heap.MadeExcOf h1 h' e (.type "StopIteration") [] → E (.ref e) { s with heap := h' }) :
    wpAny (model prog w) A (call (.builtin "next") [.ref it]) Q E s := by
  have hm := N _ (updF_mem U)
  have hit : s.heap.IsListIter it l i := ⟨io, hm.1, hi.1, hi.2⟩
  obtain ⟨ol, hol, _, nl, hdl⟩ := id hl
  have ho := hm.1
  obtain ⟨hc, hd⟩ := hi
  refine next_call hit ?_
  refine wpAny_callSpecial?_slot (name := Str.ofString "__next__") hit.typeIs slot_listiter_next
    (wpAny_call_entry slot_listiter_next hit.typeIs entry_listiter_next ?_ (args_listiter_next _))
  show wpAny _ _ (field (.ref it) 0 >>= _) _ _ s
  refine wpAny_bind (wpAny_field ho hd (x := .ref l) rfl ?_)
  show wpAny _ _ (if (Value.ref l == Value.none) = true then _ else _) _ _ s
  rw [if_neg (show ¬ ((Value.ref l == Value.none) = true) from Bool.false_ne_true)]
  show wpAny _ _ (field (.ref it) 1 >>= _) _ _ s
  refine wpAny_bind (wpAny_field ho hd (x := .int i 0) rfl ?_)
  show wpAny _ _ (seqItems? (.ref l) >>= _) _ _ s
  refine wpAny_bind (wpAny_seqItems hol hdl ?_)
  have hx' : items.toArray[i]? = none := by simpa using hx
  simp only [Int.toNat_natCast, hx']
  refine wpAny_bind (wpAny_rule (wpAny_bind (wpAny_setField ho hd (by simp) ?_)))
  show wpAny _ _ (newExc (.type "StopIteration") [] >>= _) _ _ _
  refine wpAny_bind ?_
  simp only [newExc, newTuple]
  refine wpAny_bind (wpAny_newObj_type ?_ (by size_fits))
  refine wpAny_bind (m := firstArgMember _ _) (wpAny_of_eq (a := Value.none) (by first | rfl | (simp only [firstArgMember]; rfl)) ?_)
  refine wpAny_newObj_type ?_ (by size_fits)
  simp only [raiseNew]
  refine wpAny_bind (wpAny_handled ?_)
  first | rw [show A.in1.in1.handled = none from hh] | rw [show A.in1.handled = none from hh] | rw [hh]
  refine wpAny_bind (wpAny_pure (wpAny_throw ?_))
  refine h _ _ (io.mapFields (·.setIfInBounds 0 .none)) _ (F.change (Heap.SameBut.update ..) hm.2.1 hm.2.2) (news_but N U (fun b o hb e => ((Heap.SameBut.update ..).2 b hb).trans e) (Heap.get?_update_self _ ho (Obj.isFreed_of_fields (Obj.data_mapFields hd _)))) ?_
  refine ⟨fun b o e => Heap.get?_push_of_some _ (Heap.get?_push_of_some _ e), ?_, ?_⟩
  · exact Heap.get?_none_of_le (by simp [Heap.size_push])
  · refine ⟨_, Heap.get?_push_size _ rfl, Heap.get?_none_of_le (Nat.le_refl _), ?_⟩
    exact Heap.get?_push_of_some _ (Heap.get?_push_size _ rfl)
end
end

-- c_vi
theorem kw13 : True := by
  k_with_none
  (k_with "m exec While Compare cons nil" => ((with_reducible show wpAny _ _ (exec (Stmt.While _ _ _ _) _) _ _ _); refine hold ?_))
  (k_with "m exec While BoolOp cons nil" => ((with_reducible show wpAny _ _ (exec (Stmt.While _ _ _ _) _) _ _ _); refine hold ?_))
  (k_with "m exec While BinOp cons nil" => ((with_reducible show wpAny _ _ (exec (Stmt.While _ _ _ _) _) _ _ _); refine hold ?_))
  (k_with "m my enter" => k_dflt (refine' enter ?r8k1 ?r8k2 ?r8k6 ?r8k7 ?r8k8 ?r8k9 ?r8kB ?_ ?r8c2 ?r8c3 ?r8c4 ?r8c5; (case r8k1 => k_asm); (case r8k2 => k_asm); (case r8k6 => k_is); (case r8k7 => k_is); (case r8k8 => ktr_room); (case r8k9 => first | exact BindsTo.of_eq rfl | exact kp_binds (by assumption) (fun _ => rfl)); (case r8c5 => decide); (case r8kB => exact locs rfl); (case r8c2 => exact rfl); (case r8c3 => exact rfl); (case r8c4 => exact rfl)))
  (k_with "m my go" => ((try k_fold); (repeat' (first | (k_unfold; (try dsimp only)) | walk1 | (dsimp only; first | k_unfold | walk1))); (all_goals (try dsimp only))))
  (k_with "m my size" => first | omega | (simp only [len_S, len_toArr, List.length_map, List.size_toArray, Str.length_append, PySem.Str.length_append, sizeLine_eq, List.length_append, List.length_cons, List.length_nil] at *; omega) | (simp only [len_S, Str.length_append, sizeLine_eq] at *; size_fits))
  (k_with "m binaryOp Add str str" => ((with_reducible show wpAny _ _ (binaryOp Operator.Add (Value.str _ _) (Value.str _ _)) _ _ _); (refine' PyProof.Rows.add_str ?_ ?r11hsz); (case r11hsz => walk_at "my size"); intro _ _))
  (k_with "m call builtin:list.insert" => (k_here; (with_reducible show wpAny _ _ (call (Value.builtin _) [Value.ref _, Value.int _ _, _]) _ _ _); k_dflt (refine' kl_insert ?r12F ?r12N ?r12f ?r12e ?r12U ?r12z ?_; (case r12F => k_asm); (case r12N => k_asm); (case r12U => k_upd); (case r12e => exact rfl); (case r12f => walk_at "my fit"); (case r12z => walk_at "my size")); intro _ _ _; (try k_sweep)))
  (k_with "m my fit" => first | with_reducible exact fits0 | exact fits_nat (by omega) | exact fits_nat (by walk_at "my size"))
  (k_with "m my mem" => ((try dsimp only [List.cons_append, List.nil_append, List.append_nil]); kst_allIn))
  (k_with "m my list" => first | (with_reducible assumption) | assumption | exact Fr.lst (by k_asm) (by assumption) | exact News.isList (by k_asm) (by k_mem))
  (k_with "m call builtin:len" => ((with_reducible show wpAny _ _ (call (Value.builtin "len") [Value.ref _]) _ _ _); (refine' len_at ?r16k1 ?r16k2 ?_; (case r16k1 => walk_at "my list"); (case r16k2 => walk_at "my size")); intro _ _))
  (k_with "m my idx" => first | exact fdm2 _ _ | exact rfl | exact (Int.natCast_add _ _).symm)
  (k_with "m my item" => ((with_reducible show wpAny _ _ (subscriptTail _ _ (Value.ref _) (Value.int _ _)) _ _ _); first | ((refine' item_strs ?r18k1 ?r18k2 ?r18k3 ?r18k4 ?r18k5 ?_; (case r18k1 => walk_at "my list"); (case r18k2 => with_reducible assumption); (case r18k3 => walk_at "my idx"); (case r18k4 => walk_at "my size"); (case r18k5 => walk_at "my size")); intro _) | ((refine' item_ints ?r18k1 ?r18k2 ?r18k3 ?r18k4 ?r18k5 ?_; (case r18k1 => walk_at "my list"); (case r18k2 => with_reducible assumption); (case r18k3 => walk_at "my idx"); (case r18k4 => walk_at "my size"); (case r18k5 => walk_at "my size")); intro _)))
  (k_with "m setItem ref int" => ((with_reducible show wpAny _ _ (setItem (Value.ref _) (Value.int _ _) _) _ _ _); k_dflt (refine' set_atL ?r19F ?r19N ?r19z ?r19i ?r19b ?r19U ?_; (case r19F => k_asm); (case r19N => k_asm); (case r19U => k_upd); (case r19z => walk_at "my idx"); (case r19i => walk_at "my size"); (case r19b => walk_at "my size")); intro _ _ _; (try k_sweep)))
  (k_with "m subscriptTail Name Name ref int" => k_dflt (walk_at "my item"))
  (k_with "m my nat" => first | with_reducible exact natAdd1 _ | with_reducible exact natAdd2 _ | with_reducible exact (Int.natCast_add _ _).symm | with_reducible exact rfl)
  (k_with "m call builtin:min" => ((with_reducible show wpAny _ _ (call (Value.builtin _) [Value.int _ _, Value.int _ _]) _ _ _); k_dflt (refine' min_nat ?r22x ?r22y ?r22hh ?r22F ?r22N ?_; (case r22F => k_asm); (case r22N => k_asm); (case r22hh => with_unfolding_all rfl); (case r22x => walk_at "my nat"); (case r22y => walk_at "my nat")); intro _ _ _ _ _; (try k_sweep)))
  (k_with "m exec For Name Name cons nil" => ((with_reducible show wpAny _ _ (exec (Stmt.For _ _ _ _ _) _) _ _ _); k_dflt (refine for_mine ?_)))
  (k_with "m exec For Name Call cons nil" => ((with_reducible show wpAny _ _ (exec (Stmt.For _ _ _ _ _) _) _ _ _); k_dflt (refine for_mine ?_)))
  (k_with "m exec For Name Subscript cons nil" => ((with_reducible show wpAny _ _ (exec (Stmt.For _ _ _ _ _) _) _ _ _); k_dflt (refine for_mine ?_)))
  (k_with "m exec For Tuple Name cons nil" => ((with_reducible show wpAny _ _ (exec (Stmt.For _ _ _ _ _) _) _ _ _); k_dflt (refine for_mine ?_)))
  exact True.intro
section
def vgo : Nat → Nat → List Nat → Option (Nat × List Nat)
  | val, b, [] => if b < 64 then some (val, []) else none
  | val, b, c :: r => if b < 64 then some (val, c :: r) else vgo (val * 64 + c % 64) c r
def vparse (val : Nat) : List Nat → Option (Nat × List Nat)
  | [] => none
  | c :: r => vgo (val * 64 + c % 64) c r
theorem vgo_big {val b : Nat} {os : List Nat} (h : ¬ b < 64) : vgo val b os = vparse val os := by
  cases os <;> simp [vgo, vparse, h]
theorem vgo_small {val b : Nat} {os : List Nat} (h : b < 64) : vgo val b os = some (val, os) := by
  cases os <;> simp [vgo, h]
theorem vparse_ocF : ∀ (k r : Nat) (l rest : List Nat), r ≤ k → vparse 0 (ocF r l ++ rest) = vparse r (l ++ rest)
  | 0, r, l, rest, h => by
    obtain rfl : r = 0 := by omega
    rw [ocF, dif_pos (by omega)]
  | k + 1, r, l, rest, h => by
    rw [ocF]
    split
    · rename_i hz
      obtain rfl : r = 0 := by omega
      rfl
    · rw [vparse_ocF k _ _ _ (by omega), List.cons_append, vparse, vgo_big (by omega)]
      congr 1
      omega
theorem vparse_octs (v : Nat) (rest : List Nat) : vparse 0 (octs v ++ rest) = some (v, rest) := by
  unfold octs
  rw [vparse_ocF _ _ _ _ (Nat.le_refl _), List.cons_append, vparse, vgo_small (by omega)]
  congr 2
  omega
theorem vgo_le : ∀ (os : List Nat) (val b v : Nat) (rest : List Nat), vgo val b os = some (v, rest) → val ≤ v
  | [], val, b, v, rest, h => by
    simp only [vgo] at h
    split at h
    · cases h; exact Nat.le_refl _
    · cases h
  | c :: r, val, b, v, rest, h => by
    simp only [vgo] at h
    split at h
    · cases h; exact Nat.le_refl _
    · have := vgo_le r _ _ _ _ h
      omega
theorem and63 (b : Nat) : b &&& 63 = b % 64 := Nat.and_two_pow_sub_one_eq_mod b 6
theorem and64 : ∀ b : Fin 128, (b.val &&& 64 = 0 ↔ b.val < 64) := by decide +kernel
theorem or63 (val b : Nat) : (val <<< 6) ||| (b % 64) = val * 64 + b % 64 := by
  rw [← Nat.shiftLeft_add_eq_or_of_lt (Nat.mod_lt _ (by decide)), Nat.shiftLeft_eq]
theorem bitAnd_nat (a b : Nat) : Builtin.bitAnd (a : Int) (b : Int) = ((a &&& b : Nat) : Int) := by
  simp [Builtin.bitAnd]
theorem bitOr_nat (a b : Nat) : Builtin.bitOr (a : Int) (b : Int) = ((a ||| b : Nat) : Int) := by
  have e : ∀ z : Nat, Builtin.bitNot (Builtin.bitNot (z : Int)) = z := fun z => by unfold Builtin.bitNot; omega
  have n : ∀ z : Nat, ¬ (0 ≤ Builtin.bitNot (z : Int)) := fun z => by unfold Builtin.bitNot; omega
  unfold Builtin.bitOr
  rw [PyProof.Rows.bitAnd_nn (n a) (n b), e, e, e]
  simp
section
variable {prog : Program} {w : World} {A : Around} {E : Value → Shared → Prop} {s : Shared} {Q : Value → Shared → Prop}
theorem and63_at {x : Int} {a : Nat} {t u : Tok} (hx : x = (a : Int)) (h : ∀ t' tk, Q (.int ((a % 64 : Nat) : Int) t') { s with toks := tk }) : wpAny (model prog w) A (binaryOp .BitAnd (.int x t) (.int 63 u)) Q E s := by
  subst hx
  refine PyProof.Rows.and_int ?_
  rw [show (63 : Int) = ((63 : Nat) : Int) from rfl, bitAnd_nat, and63]
  exact h _ _
theorem and64_at {x : Int} {a : Nat} {t u : Tok} (hx : x = (a : Int)) (h : ∀ t' tk, Q (.int ((a &&& 64 : Nat) : Int) t') { s with toks := tk }) : wpAny (model prog w) A (binaryOp .BitAnd (.int x t) (.int 64 u)) Q E s := by
  subst hx
  refine PyProof.Rows.and_int ?_
  rw [show (64 : Int) = ((64 : Nat) : Int) from rfl, bitAnd_nat]
  exact h _ _
theorem shl6_at {x : Int} {a : Nat} {t u : Tok} (hx : x = (a : Int)) (ha : a < 64 ^ 8) (h : ∀ t' tk, Q (.int ((a * 64 : Nat) : Int) t') { s with toks := tk }) : wpAny (model prog w) A (inplaceOp .LShift (.int x t) (.int 6 u)) Q E s := by
  subst hx
  refine PyProof.Rows.ilshift_int_small (by decide) (by decide) (by omega) ?_
  have e : ((a : Int) * 2 ^ (Int.toNat 6)) = ((a * 64 : Nat) : Int) := by simp
  rw [e]
  exact h _ _
theorem or6_at {x y : Int} {a b : Nat} {t u : Tok} (hx : x = ((a * 64 : Nat) : Int)) (hy : y = ((b % 64 : Nat) : Int)) (h : ∀ t' tk, Q (.int ((a * 64 + b % 64 : Nat) : Int) t') { s with toks := tk }) : wpAny (model prog w) A (inplaceOp .BitOr (.int x t) (.int y u)) Q E s := by
  subst hx hy
  refine PyProof.Rows.ior_int ?_
  have e := or63 a b
  rw [Nat.shiftLeft_eq] at e
  rw [bitOr_nat, show (a * 64 ||| b % 64) = a * 64 + b % 64 from e]
  exact h _ _
end
theorem kw14 : True := by
  (k_with "m call builtin:next" => ((with_reducible show wpAny _ _ (call (Value.builtin "next") [Value.ref _]) _ _ _); k_dflt (refine' next_li ?r76F ?r76N ?r76U ?r76i ?r76l ?r76x ?_; (case r76F => k_asm); (case r76N => k_asm); (case r76U => k_updF); (case r76i => k_asm); (case r76l => walk_at "my list"); (case r76x => assumption)); intro _ _ _ _ _; (try k_sweep)))
  (k_with "m binaryOp BitAnd int int" => first | ((with_reducible refine and63_at rfl ?_); intro _ _) | ((with_reducible refine and64_at rfl ?_); intro _ _))
  (k_with "m inplaceOp LShift int int" => ((with_reducible refine' shl6_at rfl ?r78ha ?_); (case r78ha => omega); intro _ _))
  (k_with "m inplaceOp BitOr int int" => ((with_reducible refine or6_at rfl rfl ?_); intro _ _))
  exact True.intro
set_option maxHeartbeats 4000000 in
theorem c_vi {prog : Program} {w : World} {p : Program} {loose : List Str} {mean : ExcName → Option Value} {mg mb : Str → Option Value} {dp un : Nat} {fr : Option (List Env)} {gd : Option (List Code)} {s : Shared} {Q E : Value → Shared → Prop} {h₀ : Heap} {L : Addr} {m : Str → Option Value} {news : List (Addr × Obj)} {g : Obj → List (Addr × Obj)} (it l : Addr) (io : Obj) (i : Nat) (vs : List Value) (os : List Nat) (v : Nat) (rest : List Nat)
   (F : Fr h₀ L s.heap m) (N : News h₀ L s.heap news) (U : UpdF it io news g) (hi : IsLI io l i) (X : (hdP.heap_39 w.params).In h₀) (T : Top p loose mean mg mb h₀) (hd : dp + 5 < recursionLimit) (hu : un + 50 < cLine) (hl : s.heap.IsList l vs.toArray) (hlit : l ≠ it) (hvs : IntsAre vs (os.map Int.ofNat)) (hos : ∀ c ∈ os, c < 128) (hp : vparse 0 (os.drop i) = some (v, rest)) (hv : v < 64 ^ 8)
   (hret : ∀ t j o' h' tk', j ≤ os.length → os.drop j = rest → IsLI o' l j → Fr h₀ L h' m → News h₀ L h' (g o') → Q (.int (v : Nat) t) {s with heap := h', toks := tk'}) : wpAny (model prog w) (ar dp un fr gd) (call (.ref 62) [.ref it]) Q E s := by
  have hm := N _ (updF_mem U)
  have st := hide_stays F hm.2.2
  have X0 := X.keeps F.keep
  have T0 := T.keeps F.keep
  have X' := X.keeps st
  have T' := T.keeps st
  have hl' : (hideAll s.heap [it]).IsList l vs.toArray := by
    obtain ⟨o, ho, r⟩ := hl
    exact ⟨o, hideAll_get _ ho (by simpa using hlit), r⟩
  have hvl : vs.length = os.length := by rw [hvs.length, List.length_map]
  have hil : i < os.length := by
    rcases Nat.lt_or_ge i os.length with h | h
    · exact h
    · rw [List.drop_eq_nil_of_le h] at hp; cases hp
  obtain ⟨t0, ht0⟩ := ints_get hvs i ((os[i] : Nat) : Int) (by simp [hil])
  refine wpAny_call ?_
  k_dflt (refine' enter_h [it] [(it, io)] ?kl X0 T0 ?k6 ?k7 ?k8 ?k9 ?kB ?_ ?c2 ?c3 ?c4 ?c5; (case kl => exact List.forall_mem_cons.mpr ⟨⟨hm.1, List.Mem.head _⟩, List.forall_mem_nil _⟩); (case k6 => k_is); (case k7 => k_is); (case k8 => ktr_room); (case k9 => first | exact BindsTo.of_eq rfl | exact kp_binds (by assumption) (fun _ => rfl)); (case c5 => decide); (case kB => exact locs rfl); (case c2 => exact rfl); (case c3 => exact rfl); (case c4 => exact rfl))
  intro L' h₁ F' N'
  have hob := hos os[i] (List.getElem_mem hil)
  rw [List.drop_eq_getElem_cons hil, vparse, Nat.zero_mul, Nat.zero_add] at hp
  generalize os[i] = b0 at ht0 hob hp
  walk_at "my go"
  (rename Fr (hideAll s.heap [it]) _ _ _ => F9); (rename News (hideAll s.heap [it]) _ _ _ => N9); (rename IsLI _ _ _ => hi9)
  refine' while_mine (σ := Nat × Nat × Nat × Obj × Tok × Tok) (fun c => [(Str.ofString "iterator", .ref it), (Str.ofString "b", .int (c.1 : Nat) c.2.2.2.2.1), (Str.ofString "val", .int (c.2.1 : Nat) c.2.2.2.2.2)]) (fun c => [(it, c.2.2.2.1)]) (fun c => c.1 < 128 ∧ c.2.2.1 ≤ os.length ∧ IsLI c.2.2.2.1 l c.2.2.1 ∧ vgo c.2.1 c.1 (os.drop c.2.2.1) = some (v, rest)) (fun c => os.length - c.2.2.1) (b0, b0 % 64, i + 1, _, _, _) F9 N9 ?w1 ?w2 ?w3
  case w1 => kst_all
  case w2 => exact ⟨hob, hil, hi9, hp⟩
  case w3 =>
    clear F9 N9 hi9
    rintro ⟨b, val, j, o, tb, tv⟩ u h tk ⟨h1, h2, h3, h4⟩ F2 N2
    dsimp only at F2 N2 h1 h2 h3 h4 ⊢
    have hk64 := and64 ⟨b, h1⟩
    dsimp only at hk64
    by_cases hb : b < 64
    · have h64 := hk64.mpr hb
      rw [vgo_small hb] at h4
      cases h4
      walk_at "my go"
      · rename ((_ : Int) ≠ _) => a9
        exact absurd (by rw [h64]; rfl) a9
      · exact hret _ j _ _ _ h2 rfl h3 (fr_but F hm.2.2 hm.2.1 (but_of_hide F2)) (news_but N U (but_of_hide F2) (N2.get (List.Mem.head _)))
    · have h64 : b &&& 64 ≠ 0 := fun e => hb (hk64.mp e)
      have hval : val < 64 ^ 8 := Nat.lt_of_le_of_lt (vgo_le _ _ _ _ _ h4) hv
      rw [vgo_big hb] at h4
      have hjl : j < os.length := by
        rcases Nat.lt_or_ge j os.length with h | h
        · exact h
        · rw [List.drop_eq_nil_of_le h] at h4; cases h4
      rw [List.drop_eq_getElem_cons hjl, vparse] at h4
      obtain ⟨t9, ht9⟩ := ints_get hvs j ((os[j] : Nat) : Int) (by simp [hjl])
      have hob9 := hos os[j] (List.getElem_mem hjl)
      generalize os[j] = c9 at h4 ht9 hob9
      walk_at "my go"
      · (rename Fr (hideAll s.heap [it]) _ _ _ => F9); (rename News (hideAll s.heap [it]) _ _ _ => N9); (rename IsLI _ _ _ => hi9)
        refine' FEnd.intro (c9, val * 64 + c9 % 64, j + 1, _, _, _) F9 N9 ?b1 ?b2 ?b3
        case b1 => walk_at "my mem"
        case b2 => kst_all
        case b3 => exact ⟨⟨hob9, hjl, hi9, h4⟩, by dsimp only; omega⟩
      · rename_i a9
        exact absurd (Int.ofNat.inj a9) h64
end

-- c_viend
theorem kw15 : True := by
  k_with_none
  (k_with "m exec While Compare cons nil" => ((with_reducible show wpAny _ _ (exec (Stmt.While _ _ _ _) _) _ _ _); refine hold ?_))
  (k_with "m exec While BoolOp cons nil" => ((with_reducible show wpAny _ _ (exec (Stmt.While _ _ _ _) _) _ _ _); refine hold ?_))
  (k_with "m exec While BinOp cons nil" => ((with_reducible show wpAny _ _ (exec (Stmt.While _ _ _ _) _) _ _ _); refine hold ?_))
  (k_with "m my enter" => k_dflt (refine' enter ?r8k1 ?r8k2 ?r8k6 ?r8k7 ?r8k8 ?r8k9 ?r8kB ?_ ?r8c2 ?r8c3 ?r8c4 ?r8c5; (case r8k1 => k_asm); (case r8k2 => k_asm); (case r8k6 => k_is); (case r8k7 => k_is); (case r8k8 => ktr_room); (case r8k9 => first | exact BindsTo.of_eq rfl | exact kp_binds (by assumption) (fun _ => rfl)); (case r8c5 => decide); (case r8kB => exact locs rfl); (case r8c2 => exact rfl); (case r8c3 => exact rfl); (case r8c4 => exact rfl)))
  (k_with "m my go" => ((try k_fold); (repeat' (first | (k_unfold; (try dsimp only)) | walk1 | (dsimp only; first | k_unfold | walk1))); (all_goals (try dsimp only))))
  (k_with "m my size" => first | omega | (simp only [len_S, len_toArr, List.length_map, List.size_toArray, Str.length_append, PySem.Str.length_append, sizeLine_eq, List.length_append, List.length_cons, List.length_nil] at *; omega) | (simp only [len_S, Str.length_append, sizeLine_eq] at *; size_fits))
  (k_with "m binaryOp Add str str" => ((with_reducible show wpAny _ _ (binaryOp Operator.Add (Value.str _ _) (Value.str _ _)) _ _ _); (refine' PyProof.Rows.add_str ?_ ?r11hsz); (case r11hsz => walk_at "my size"); intro _ _))
  (k_with "m call builtin:list.insert" => (k_here; (with_reducible show wpAny _ _ (call (Value.builtin _) [Value.ref _, Value.int _ _, _]) _ _ _); k_dflt (refine' kl_insert ?r12F ?r12N ?r12f ?r12e ?r12U ?r12z ?_; (case r12F => k_asm); (case r12N => k_asm); (case r12U => k_upd); (case r12e => exact rfl); (case r12f => walk_at "my fit"); (case r12z => walk_at "my size")); intro _ _ _; (try k_sweep)))
  (k_with "m my fit" => first | with_reducible exact fits0 | exact fits_nat (by omega) | exact fits_nat (by walk_at "my size"))
  (k_with "m my mem" => ((try dsimp only [List.cons_append, List.nil_append, List.append_nil]); kst_allIn))
  (k_with "m my list" => first | (with_reducible assumption) | assumption | exact Fr.lst (by k_asm) (by assumption) | exact News.isList (by k_asm) (by k_mem))
  (k_with "m call builtin:len" => ((with_reducible show wpAny _ _ (call (Value.builtin "len") [Value.ref _]) _ _ _); (refine' len_at ?r16k1 ?r16k2 ?_; (case r16k1 => walk_at "my list"); (case r16k2 => walk_at "my size")); intro _ _))
  (k_with "m my idx" => first | exact fdm2 _ _ | exact rfl | exact (Int.natCast_add _ _).symm)
  (k_with "m my item" => ((with_reducible show wpAny _ _ (subscriptTail _ _ (Value.ref _) (Value.int _ _)) _ _ _); first | ((refine' item_strs ?r18k1 ?r18k2 ?r18k3 ?r18k4 ?r18k5 ?_; (case r18k1 => walk_at "my list"); (case r18k2 => with_reducible assumption); (case r18k3 => walk_at "my idx"); (case r18k4 => walk_at "my size"); (case r18k5 => walk_at "my size")); intro _) | ((refine' item_ints ?r18k1 ?r18k2 ?r18k3 ?r18k4 ?r18k5 ?_; (case r18k1 => walk_at "my list"); (case r18k2 => with_reducible assumption); (case r18k3 => walk_at "my idx"); (case r18k4 => walk_at "my size"); (case r18k5 => walk_at "my size")); intro _)))
  (k_with "m setItem ref int" => ((with_reducible show wpAny _ _ (setItem (Value.ref _) (Value.int _ _) _) _ _ _); k_dflt (refine' set_atL ?r19F ?r19N ?r19z ?r19i ?r19b ?r19U ?_; (case r19F => k_asm); (case r19N => k_asm); (case r19U => k_upd); (case r19z => walk_at "my idx"); (case r19i => walk_at "my size"); (case r19b => walk_at "my size")); intro _ _ _; (try k_sweep)))
  (k_with "m subscriptTail Name Name ref int" => k_dflt (walk_at "my item"))
  (k_with "m my nat" => first | with_reducible exact natAdd1 _ | with_reducible exact natAdd2 _ | with_reducible exact (Int.natCast_add _ _).symm | with_reducible exact rfl)
  (k_with "m call builtin:min" => ((with_reducible show wpAny _ _ (call (Value.builtin _) [Value.int _ _, Value.int _ _]) _ _ _); k_dflt (refine' min_nat ?r22x ?r22y ?r22hh ?r22F ?r22N ?_; (case r22F => k_asm); (case r22N => k_asm); (case r22hh => with_unfolding_all rfl); (case r22x => walk_at "my nat"); (case r22y => walk_at "my nat")); intro _ _ _ _ _; (try k_sweep)))
  (k_with "m exec For Name Name cons nil" => ((with_reducible show wpAny _ _ (exec (Stmt.For _ _ _ _ _) _) _ _ _); k_dflt (refine for_mine ?_)))
  (k_with "m exec For Name Call cons nil" => ((with_reducible show wpAny _ _ (exec (Stmt.For _ _ _ _ _) _) _ _ _); k_dflt (refine for_mine ?_)))
  (k_with "m exec For Name Subscript cons nil" => ((with_reducible show wpAny _ _ (exec (Stmt.For _ _ _ _ _) _) _ _ _); k_dflt (refine for_mine ?_)))
  (k_with "m exec For Tuple Name cons nil" => ((with_reducible show wpAny _ _ (exec (Stmt.For _ _ _ _ _) _) _ _ _); k_dflt (refine for_mine ?_)))
  exact True.intro
section
theorem kw16 : True := by
  (k_with "m call builtin:next" => ((with_reducible show wpAny _ _ (call (Value.builtin "next") [Value.ref _]) _ _ _); k_dflt (refine' next_end ?r80hh ?r80F ?r80N ?r80U ?r80i ?r80l ?r80x ?_; (case r80hh => with_unfolding_all rfl); (case r80F => k_asm); (case r80N => k_asm); (case r80U => assumption); (case r80i => k_asm); (case r80l => walk_at "my list"); (case r80x => assumption)); intro _ _ _ _ _ _ _))
  exact True.intro
set_option maxHeartbeats 4000000 in
theorem c_viend {prog : Program} {w : World} {p : Program} {loose : List Str} {mean : ExcName → Option Value} {mg mb : Str → Option Value} {dp un : Nat} {gd : Option (List Code)} {s : Shared} {Q E : Value → Shared → Prop} {h₀ base g₀ : Heap} {L a : Addr} {m : Str → Option Value} {news : List (Addr × Obj)} {g : Obj → List (Addr × Obj)} {A₀ : Around} {outer : List Env} {cn : Str} {cs : Scope} {ccd : Value} (it l : Addr) (io : Obj) (i : Nat) (vs : List Value) (k : Nat)
   (B : Below A₀ base outer h₀) (F : Fr h₀ L s.heap m) (N : News h₀ L s.heap news) (U : UpdF it io news g) (hi : IsLI io l i) (X : (hdP.heap_39 w.params).In h₀) (T : Top p loose mean mg mb h₀) (XB : (hdP.heap_39 w.params).In base) (TB : Top p loose mean mg mb base) (D : KtsDicts (outer.filterMap (·.frame)) h₀) (T0 : KtsTurn (outer.filterMap (·.frame)) g₀ h₀) (hck : cs.kind = .function)
   (hd : dp + 5 < recursionLimit) (hu : un + 50 < cLine) (hl : (l, listOf vs.toArray k) ∈ news) (hx : vs[i]? = none)
   (hE : ∀ G h' e t o', Fr h₀ L G m → RaisedS base G (envOf cn cs L a ccd :: outer) e (.type "StopIteration") t [] (g o') h' → G.UpToSlots h' → ∀ tk, E (.ref e) {s with heap := h', toks := tk}) : wpAny (model prog w) (ar dp un (some (envOf cn cs L a ccd :: outer)) gd) (call (.ref 62) [.ref it]) Q E s := by
  refine wpAny_call ?_
  k_dflt (refine' code_defS B F X N T XB TB D T0 ?hA ?ho ?hcd ?hroom ?hb ?hloc ?_ ?k1 ?k2 ?k3 ?k4 ?k5; (case hA => exact rfl); (case ho => k_is); (case hcd => k_is); (case hroom => ktr_room); (case hb => first | exact BindsTo.of_eq rfl | exact kp_binds (by assumption) (fun _ => rfl)); (case hloc => exact locs rfl); (case k1 => exact hck); (case k2 => exact rfl); (case k3 => exact rfl); (case k4 => exact rfl); (case k5 => decide))
  intro G L' h₁ FG F' N' B' X' T' D'
  have hl' : h₁.IsList l vs.toArray := News.isList N' hl
  walk_at "my go"
  exact hE _ _ _ _ _ FG (by assumption) (by assumption) _
end

-- c_lev
theorem kw17 : True := by
  k_with_none
  (k_with "m exec While Compare cons nil" => ((with_reducible show wpAny _ _ (exec (Stmt.While _ _ _ _) _) _ _ _); refine hold ?_))
  (k_with "m exec While BoolOp cons nil" => ((with_reducible show wpAny _ _ (exec (Stmt.While _ _ _ _) _) _ _ _); refine hold ?_))
  (k_with "m exec While BinOp cons nil" => ((with_reducible show wpAny _ _ (exec (Stmt.While _ _ _ _) _) _ _ _); refine hold ?_))
  (k_with "m my enter" => k_dflt (refine' enter ?r8k1 ?r8k2 ?r8k6 ?r8k7 ?r8k8 ?r8k9 ?r8kB ?_ ?r8c2 ?r8c3 ?r8c4 ?r8c5; (case r8k1 => k_asm); (case r8k2 => k_asm); (case r8k6 => k_is); (case r8k7 => k_is); (case r8k8 => ktr_room); (case r8k9 => first | exact BindsTo.of_eq rfl | exact kp_binds (by assumption) (fun _ => rfl)); (case r8c5 => decide); (case r8kB => exact locs rfl); (case r8c2 => exact rfl); (case r8c3 => exact rfl); (case r8c4 => exact rfl)))
  (k_with "m my go" => ((try k_fold); (repeat' (first | (k_unfold; (try dsimp only)) | walk1 | (dsimp only; first | k_unfold | walk1))); (all_goals (try dsimp only))))
  (k_with "m my size" => first | omega | (simp only [len_S, len_toArr, List.length_map, List.size_toArray, Str.length_append, PySem.Str.length_append, sizeLine_eq, List.length_append, List.length_cons, List.length_nil] at *; omega) | (simp only [len_S, Str.length_append, sizeLine_eq] at *; size_fits))
  (k_with "m binaryOp Add str str" => ((with_reducible show wpAny _ _ (binaryOp Operator.Add (Value.str _ _) (Value.str _ _)) _ _ _); (refine' PyProof.Rows.add_str ?_ ?r11hsz); (case r11hsz => walk_at "my size"); intro _ _))
  (k_with "m call builtin:list.insert" => (k_here; (with_reducible show wpAny _ _ (call (Value.builtin _) [Value.ref _, Value.int _ _, _]) _ _ _); k_dflt (refine' kl_insert ?r12F ?r12N ?r12f ?r12e ?r12U ?r12z ?_; (case r12F => k_asm); (case r12N => k_asm); (case r12U => k_upd); (case r12e => exact rfl); (case r12f => walk_at "my fit"); (case r12z => walk_at "my size")); intro _ _ _; (try k_sweep)))
  (k_with "m my fit" => first | with_reducible exact fits0 | exact fits_nat (by omega) | exact fits_nat (by walk_at "my size"))
  (k_with "m my mem" => ((try dsimp only [List.cons_append, List.nil_append, List.append_nil]); kst_allIn))
  (k_with "m my list" => first | (with_reducible assumption) | assumption | exact Fr.lst (by k_asm) (by assumption) | exact News.isList (by k_asm) (by k_mem))
  (k_with "m call builtin:len" => ((with_reducible show wpAny _ _ (call (Value.builtin "len") [Value.ref _]) _ _ _); (refine' len_at ?r16k1 ?r16k2 ?_; (case r16k1 => walk_at "my list"); (case r16k2 => walk_at "my size")); intro _ _))
  (k_with "m my idx" => first | exact fdm2 _ _ | exact rfl | exact (Int.natCast_add _ _).symm)
  (k_with "m my item" => ((with_reducible show wpAny _ _ (subscriptTail _ _ (Value.ref _) (Value.int _ _)) _ _ _); first | ((refine' item_strs ?r18k1 ?r18k2 ?r18k3 ?r18k4 ?r18k5 ?_; (case r18k1 => walk_at "my list"); (case r18k2 => with_reducible assumption); (case r18k3 => walk_at "my idx"); (case r18k4 => walk_at "my size"); (case r18k5 => walk_at "my size")); intro _) | ((refine' item_ints ?r18k1 ?r18k2 ?r18k3 ?r18k4 ?r18k5 ?_; (case r18k1 => walk_at "my list"); (case r18k2 => with_reducible assumption); (case r18k3 => walk_at "my idx"); (case r18k4 => walk_at "my size"); (case r18k5 => walk_at "my size")); intro _)))
  (k_with "m setItem ref int" => ((with_reducible show wpAny _ _ (setItem (Value.ref _) (Value.int _ _) _) _ _ _); k_dflt (refine' set_atL ?r19F ?r19N ?r19z ?r19i ?r19b ?r19U ?_; (case r19F => k_asm); (case r19N => k_asm); (case r19U => k_upd); (case r19z => walk_at "my idx"); (case r19i => walk_at "my size"); (case r19b => walk_at "my size")); intro _ _ _; (try k_sweep)))
  (k_with "m subscriptTail Name Name ref int" => k_dflt (walk_at "my item"))
  (k_with "m my nat" => first | with_reducible exact natAdd1 _ | with_reducible exact natAdd2 _ | with_reducible exact (Int.natCast_add _ _).symm | with_reducible exact rfl)
  (k_with "m call builtin:min" => ((with_reducible show wpAny _ _ (call (Value.builtin _) [Value.int _ _, Value.int _ _]) _ _ _); k_dflt (refine' min_nat ?r22x ?r22y ?r22hh ?r22F ?r22N ?_; (case r22F => k_asm); (case r22N => k_asm); (case r22hh => with_unfolding_all rfl); (case r22x => walk_at "my nat"); (case r22y => walk_at "my nat")); intro _ _ _ _ _; (try k_sweep)))
  (k_with "m exec For Name Name cons nil" => ((with_reducible show wpAny _ _ (exec (Stmt.For _ _ _ _ _) _) _ _ _); k_dflt (refine for_mine ?_)))
  (k_with "m exec For Name Call cons nil" => ((with_reducible show wpAny _ _ (exec (Stmt.For _ _ _ _ _) _) _ _ _); k_dflt (refine for_mine ?_)))
  (k_with "m exec For Name Subscript cons nil" => ((with_reducible show wpAny _ _ (exec (Stmt.For _ _ _ _ _) _) _ _ _); k_dflt (refine for_mine ?_)))
  (k_with "m exec For Tuple Name cons nil" => ((with_reducible show wpAny _ _ (exec (Stmt.For _ _ _ _ _) _) _ _ _); k_dflt (refine for_mine ?_)))
  (k_with "m truthy str" => ((refine' truthy_S ?r23k1 ?_; (case r23k1 => first | omega | (simp only [List.length_drop, List.length_take]; omega) | walk_at "my size")); intro _))
  (k_with "m call builtin:len" => ((with_reducible show wpAny _ _ (call (Value.builtin "len") [Value.str _ _]) _ _ _); (refine' len_strS ?r24k1 ?_; (case r24k1 => walk_at "my size")); intro _ _))
  (k_with "m my isw" => first | assumption | (refine isW_drop ?_ _; walk_at "my isw") | (refine isW_take ?_ _; walk_at "my isw"))
  (k_with "m my small" => first | omega | (simp only [List.length_drop, List.length_take]; omega) | exact drop_ne (by assumption) | exact take_ne (by assumption) | exact emp_ne (by assumption) | exact emp_k (by assumption) (by omega) | (have := drop_ne (by assumption); omega) | (have := take_ne (by assumption); omega) | (have := emp_ne (by assumption); omega))
  (k_with "m my slice" => ((with_reducible rename Fr _ _ _ _ => F'); (with_reducible rename News _ _ _ _ => N'); first | ((with_reducible show wpAny _ _ (subscriptTail _ (Expr.Slice (some _) none none _) _ _) _ _ _); (refine' sl_from (s := ⟨_, _, _, _, _⟩) ?r27z ?r27k1 ?r27k2 F' N' ?_; (case r27z => walk_at "my nat"); (case r27k1 => walk_at "my isw"); (case r27k2 => walk_at "my small")); clear F' N'; intro _ _ _ _ _) | ((with_reducible show wpAny _ _ (subscriptTail _ (Expr.Slice none (some _) none _) _ _) _ _ _); (refine' sl_nn (s := ⟨_, _, _, _, _⟩) ?r27k1 F' N' ?_; (case r27k1 => walk_at "my isw")); clear F' N'; intro _ _ _ _ _) | ((with_reducible show wpAny _ _ (subscriptTail _ (Expr.Slice none (some _) none _) _ _) _ _ _); (refine' sl_neg (s := ⟨_, _, _, _, _⟩) ?r27k1 ?r27k2 ?r27k3 F' N' ?_; (case r27k1 => walk_at "my isw"); (case r27k2 => omega); (case r27k3 => walk_at "my small")); clear F' N'; intro _ _ _ _ _) | ((with_reducible show wpAny _ _ (subscriptTail _ (Expr.Slice none (some _) none _) _ _) _ _ _); (refine' sl_to (s := ⟨_, _, _, _, _⟩) ?r27z ?r27k1 ?r27k2 F' N' ?_; (case r27z => walk_at "my nat"); (case r27k1 => walk_at "my isw"); (case r27k2 => walk_at "my small")); clear F' N'; intro _ _ _ _ _)))
  (k_with "m subscriptTail Name Slice str ref" => walk_at "my slice")
  (k_with "m my sitem" => ((with_reducible show wpAny _ _ (subscriptTail _ _ (Value.str (S _) _) (Value.int _ _)) _ _ _); first | ((refine' it_neg ?r29z ?r29k1 ?r29k2 ?r29k3 ?_; (case r29z => exact negsub _); (case r29k1 => walk_at "my small"); (case r29k2 => omega); (case r29k3 => walk_at "my small")); intro _ _) | ((refine' it_pos ?r29z ?r29k1 ?r29k2 ?_; (case r29z => walk_at "my nat"); (case r29k1 => walk_at "my small"); (case r29k2 => walk_at "my small")); intro _ _)))
  (k_with "m subscriptTail Name Name str int" => walk_at "my sitem")
  (k_with "m subscriptTail Name BinOp str int" => walk_at "my sitem")
  exact True.intro
section
def cp : List Nat → List Nat → Nat
  | x :: a, y :: b => if x = y then cp a b + 1 else 0
  | _, _ => 0
theorem cp_nil_l (b : List Nat) : cp [] b = 0 := by cases b <;> rfl
theorem cp_nil_r (a : List Nat) : cp a [] = 0 := by cases a <;> rfl
theorem cp_le : ∀ (a b : List Nat), cp a b ≤ a.length
  | x :: a, y :: b => by
    rw [cp]; split
    · have := cp_le a b; simp only [List.length_cons]; omega
    · exact Nat.zero_le _
  | [], b => by rw [cp_nil_l]; exact Nat.zero_le _
  | a, [] => by rw [cp_nil_r]; exact Nat.zero_le _
theorem cp_step {a b : List Nat} {k : Nat} (h1 : k < a.length) (h2 : k < b.length) : cp (a.drop k) (b.drop k) = if a.getD k 0 = b.getD k 0 then cp (a.drop (k + 1)) (b.drop (k + 1)) + 1 else 0 := by
  rw [List.drop_eq_getElem_cons h1, List.drop_eq_getElem_cons h2, cp]
  have e1 : a.getD k 0 = a[k] := by simp [h1]
  have e2 : b.getD k 0 = b[k] := by simp [h2]
  rw [e1, e2]
def suf (a b : List Nat) : Nat := cp a.reverse b.reverse
theorem rev_get {l : List Nat} {k : Nat} (h : k < l.length) : l.getD (l.length - (k + 1)) 0 = l.reverse.getD k 0 := by
  have h1 : l.length - (k + 1) < l.length := by omega
  have h2 : k < l.reverse.length := by simpa using h
  simp only [List.getD_eq_getElem?_getD, List.getElem?_eq_getElem h1, List.getElem?_eq_getElem h2, Option.getD_some, List.getElem_reverse]
  congr 1
  omega
theorem cs_step {a b : List Nat} {k : Nat} (h1 : k < a.length) (h2 : k < b.length) : cp (a.reverse.drop k) (b.reverse.drop k) = if a.getD (a.length - (k + 1)) 0 = b.getD (b.length - (k + 1)) 0 then cp (a.reverse.drop (k + 1)) (b.reverse.drop (k + 1)) + 1 else 0 := by
  rw [cp_step (by simpa using h1) (by simpa using h2), rev_get h1, rev_get h2]
theorem cs_n1 {a b : List Nat} {k : Nat} (h : a.length ≤ k) : cp (a.reverse.drop k) (b.reverse.drop k) = 0 := by
  rw [List.drop_eq_nil_of_le (by simpa using h), cp_nil_l]
theorem cs_n2 {a b : List Nat} {k : Nat} (h : b.length ≤ k) : cp (a.reverse.drop k) (b.reverse.drop k) = 0 := by
  rw [List.drop_eq_nil_of_le (as := b.reverse) (by simpa using h), cp_nil_r]
theorem cs_x3 {a b : List Nat} {k : Nat} (h1 : k + 1 ≤ a.length) (h2 : k + 1 ≤ b.length) (h : (S [a.getD (a.length - (k + 1)) 0] == S [b.getD (b.length - (k + 1)) 0]) = false) : cp (a.reverse.drop k) (b.reverse.drop k) = 0 := by
  rw [cs_step h1 h2, if_neg]
  rw [beq_S] at h
  simpa using h
theorem cs_x4 {a b : List Nat} {k : Nat} (h1 : k + 1 ≤ a.length) (h2 : k + 1 ≤ b.length) (h : (S [a.getD (a.length - (k + 1)) 0] == S [b.getD (b.length - (k + 1)) 0]) = true) : cp (a.reverse.drop k) (b.reverse.drop k) = cp (a.reverse.drop (k + 1)) (b.reverse.drop (k + 1)) + 1 := by
  rw [cs_step h1 h2, if_pos]
  rw [beq_S] at h
  simpa using h
theorem cs_e1 {a b : List Nat} {k : Nat} (h : a.isEmpty = true) : cp (a.reverse.drop k) (b.reverse.drop k) = 0 := cs_n1 (by rw [emp_em h]; exact Nat.zero_le _)
theorem cs_e2 {a b : List Nat} {k : Nat} (h : b.isEmpty = true) : cp (a.reverse.drop k) (b.reverse.drop k) = 0 := cs_n2 (by rw [emp_em h]; exact Nat.zero_le _)
theorem cs_to {k x y : Nat} (h3 : k + x = y) (e : x = 0) : k = y := by omega
theorem neg0 {k : Nat} (h : -(k : Int) = 0) : k = 0 := by omega
theorem cp_x1 {a b : List Nat} {k : Nat} (h : (a.drop k).isEmpty = true) : cp (a.drop k) (b.drop k) = 0 := by
  rw [List.isEmpty_iff.mp h, cp_nil_l]
theorem cp_x2 {a b : List Nat} {k : Nat} (h : (b.drop k).isEmpty = true) : cp (a.drop k) (b.drop k) = 0 := by
  rw [List.isEmpty_iff.mp h, cp_nil_r]
theorem cp_x3 {a b : List Nat} {k : Nat} (h1 : (a.drop k).isEmpty = false) (h2 : (b.drop k).isEmpty = false) (h : (S [a.getD k 0] == S [b.getD k 0]) = false) : cp (a.drop k) (b.drop k) = 0 := by
  rw [cp_step (drop_ne h1) (drop_ne h2), if_neg]
  rw [beq_S] at h
  simpa using h
theorem cp_x4 {a b : List Nat} {k : Nat} (h1 : (a.drop k).isEmpty = false) (h2 : (b.drop k).isEmpty = false) (h : (S [a.getD k 0] == S [b.getD k 0]) = true) : cp (a.drop k) (b.drop k) = cp (a.drop (k + 1)) (b.drop (k + 1)) + 1 := by
  rw [cp_step (drop_ne h1) (drop_ne h2), if_pos]
  rw [beq_S] at h
  simpa using h
structure LvSt where
  row : List Nat
  d : Nat
  r : Nat
  mn : Nat
def lvStep (y : Nat) (a : List Nat) (j : Nat) (st : LvSt) : LvSt :=
  let sub := st.d + substF [y] [a.getD j 0]
  let d' := st.row.getD j 0
  let r' := min (min st.r d' + 2) sub
  ⟨st.row.set j r', d', r', if r' < st.mn then r' else st.mn⟩
def lvIn (y : Nat) (a : List Nat) : Nat → Nat → LvSt → LvSt
  | 0, _, st => st
  | n + 1, j, st => lvIn y a n (j + 1) (lvStep y a j st)
def lvOut (a b : List Nat) (c : Nat) : Nat → Nat → List Nat → Nat → Nat
  | 0, _, _, res => res
  | n + 1, i, row, _ =>
    let st := lvIn (b.getD i 0) a a.length 0 ⟨row, 2 * i, 2 * i, 9223372036854775807⟩
    if c < st.mn then c + 1 else lvOut a b c n (i + 1) st.row st.r
def lvRow (n : Nat) : List Nat := (List.range n).map fun i => 2 + i * 2
def lv3 (a b : List Nat) (c : Nat) : Nat := if c < (b.length - a.length) * 2 then c + 1 else lvOut a b c b.length 0 (lvRow a.length) 0
def lv2 (a b : List Nat) (c : Nat) : Nat :=
  if a.isEmpty || b.isEmpty then 2 * (a.length + b.length) else if b.length < a.length then lv3 b a c else lv3 a b c
def lv1 (a b : List Nat) (c : Nat) : Nat := lv2 (a.take (a.length - suf a b)) (b.take (b.length - suf a b)) c
def levF (a b : List Nat) (c : Nat) : Nat := if a = b then 0 else lv1 (a.drop (cp a b)) (b.drop (cp a b)) c
theorem rg_small {n : Nat} (h : n ≤ 4) : Builtin.Range.small 2 (2 * ((n : Int) + 1)) 2 = true := by
  have h5 : n = 0 ∨ n = 1 ∨ n = 2 ∨ n = 3 ∨ n = 4 := by omega
  rcases h5 with rfl | rfl | rfl | rfl | rfl <;> decide
theorem rg_size {n : Nat} (h : n ≤ 4) : Builtin.Range.rangeSize 2 (2 * ((n : Int) + 1)) 2 = (n : Int) := by
  have h5 : n = 0 ∨ n = 1 ∨ n = 2 ∨ n = 3 ∨ n = 4 := by omega
  rcases h5 with rfl | rfl | rfl | rfl | rfl <;> decide
theorem lvRow_ints {ys : List Value} {n : Nat} (h : IntsAre ys (rangeInts 2 2 n)) : IntsAre ys ((lvRow n).map Int.ofNat) := by
  have e : rangeInts 2 2 n = (lvRow n).map Int.ofNat := by
    unfold rangeInts lvRow
    rw [List.map_map]
    refine List.map_congr_left fun i _ => ?_
    simp
  rw [e] at h; exact h
theorem lvIn_next {y : Nat} {a : List Nat} {j : Nat} {st : LvSt} (h : j < a.length) : lvIn y a (a.length - j) j st = lvIn y a (a.length - (j + 1)) (j + 1) (lvStep y a j st) := by
  have e : a.length - j = (a.length - (j + 1)) + 1 := by omega
  rw [e]; rfl
theorem lvStep_lt {y : Nat} {a row : List Nat} {j d r mn R : Nat} (hR : R = min (min r (row.getD j 0) + 2) (d + substF [y] [a.getD j 0])) (h : R < mn) : lvStep y a j ⟨row, d, r, mn⟩ = ⟨row.set j R, row.getD j 0, R, R⟩ := by
  subst hR
  unfold lvStep
  simp only [if_pos h]
theorem lvStep_ge {y : Nat} {a row : List Nat} {j d r mn R : Nat} (hR : R = min (min r (row.getD j 0) + 2) (d + substF [y] [a.getD j 0])) (h : ¬ R < mn) : lvStep y a j ⟨row, d, r, mn⟩ = ⟨row.set j R, row.getD j 0, R, mn⟩ := by
  subst hR
  unfold lvStep
  simp only [if_neg h]
theorem lvOut_next {a b : List Nat} {c i : Nat} {row : List Nat} {res : Nat} {st : LvSt} (hi : i < b.length) (hst : st = lvIn (b.getD i 0) a a.length 0 ⟨row, 2 * i, 2 * i, 9223372036854775807⟩) : lvOut a b c (b.length - i) i row res = if c < st.mn then c + 1 else lvOut a b c (b.length - (i + 1)) (i + 1) st.row st.r := by
  have e : b.length - i = (b.length - (i + 1)) + 1 := by omega
  rw [e, hst]; rfl
theorem ints_setN {vs : List Value} {ns : List Nat} (h : IntsAre vs (ns.map Int.ofNat)) (i n : Nat) (t : Tok) : IntsAre (vs.set i (.int (n : Nat) t)) ((ns.set i n).map Int.ofNat) := by
  rw [List.map_set]
  exact ints_set h i (Int.ofNat n) t
theorem sgl_le (x : Nat) : [x].length ≤ 40 := by simp
theorem unhold {P : Prop} (h : P) : Hold P := h
theorem kw18 : True := by
  (k_with "m execs cons" => ((with_reducible show wpAny _ _ (execs (Stmt.Assign [Expr.Name _ _] (Expr.Subscript _ (Expr.Slice none _ _ _) _) _ :: _) _) _ _ _); refine hold ?_))
  (k_with "m execs cons" => ((with_reducible show wpAny _ _ (execs (Stmt.If _ [Stmt.Assign [Expr.Tuple _ _ _] _ _] _ _ :: _) _) _ _ _); refine hold ?_))
  (k_with "m my room" => first | omega | ((try dsimp only [Around.deeper, ar] at *); omega) | ktr_room | ktr_units)
  (k_with "m call ref" => ((with_reducible show wpAny _ _ (call (Value.ref 21) _) _ _ _); k_dflt (refine' c_subst _ _ _ _ ?r84F ?r84N ?r84X ?r84T ?r84hd ?r84hu ?r84ha ?r84hb ?_; (case r84F => k_asm); (case r84N => k_asm); (case r84X => k_asm); (case r84T => k_asm); (case r84hd => walk_at "my room"); (case r84hu => walk_at "my room"); (case r84ha => exact sgl_le _); (case r84hb => exact sgl_le _)); intro _ _ _ _ _; (try k_sweep)))
  exact True.intro
set_option maxHeartbeats 4000000 in
theorem c_lev {prog : Program} {w : World} {p : Program} {loose : List Str} {mean : ExcName → Option Value} {mg mb : Str → Option Value} {dp un : Nat} {fr : Option (List Env)} {gd : Option (List Code)} {s : Shared} {Q E : Value → Shared → Prop} {h₀ : Heap} {L : Addr} {m : Str → Option Value} {news : List (Addr × Obj)} (a b : List Nat) (ta tb tc : Tok) (c : Nat)
   (F : Fr h₀ L s.heap m) (N : News h₀ L s.heap news) (X : (hdP.heap_39 w.params).In h₀) (T : Top p loose mean mg mb h₀) (hd : dp + 10 < recursionLimit) (hu : un + 100 < cLine) (ha : isW a) (hb : isW b)
   (hret : ∀ t h' tk', Fr h₀ L h' m → News h₀ L h' news → Q (.int (levF a b c : Nat) t) {s with heap := h', toks := tk'}) : wpAny (model prog w) (ar dp un fr gd) (call (.ref 28) [.str (S a) ta, .str (S b) tb, .int (c : Nat) tc]) Q E s := by
  have ha1 := ha.1
  have hb1 := hb.1
  have X' := X.keeps F.keep
  have T' := T.keeps F.keep
  refine wpAny_call ?_
  walk_at "my enter"
  intro L' h₁ F' N'
  walk_at "my go"
  · rename_i heq
    have e : levF a b c = 0 := by
      unfold levF
      rw [if_pos]
      rw [beq_S] at heq
      simpa using heq
    rw [e] at hret
    (rename Fr s.heap _ _ _ => F9)
    exact hret _ _ _ (stays_fr F F9.keep) (stays_news N F9.keep)
  · rename_i hne _ F9 N9
    have hne' : ¬ a = b := by rw [beq_S] at hne; simpa using hne
    refine' while_join (σ := Nat × Tok) (fun c' => [(Str.ofString "a", .str (S a) ta), (Str.ofString "b", .str (S b) tb), (Str.ofString "max_cost", .int (c : Nat) tc), (Str.ofString "pre", .int c'.1 c'.2)]) (fun c => []) (fun c' => c'.1 ≤ a.length ∧ c'.1 ≤ b.length ∧ c'.1 + cp (a.drop c'.1) (b.drop c'.1) = cp a b) (fun c' => c'.1 = cp a b) (fun c' => a.length - c'.1) (0, _) F9 N9 ?a1 ?a2 ?a3 ?a4
    case a1 => kst_all
    case a2 => exact ⟨Nat.zero_le _, Nat.zero_le _, by simp⟩
    case a3 =>
      clear F9 N9
      rintro ⟨pre, t1⟩ u h tk ⟨h1, h2, h3⟩ F2 N2
      dsimp only at F2 N2 h1 h2 h3 ⊢
      walk_at "my go"
      · (rename Fr s.heap _ _ _ => F9); (rename News s.heap _ _ _ => N9)
        refine' FEnd.intro (pre, _) F9 N9 ?b1 ?b2 ?b3
        case b1 => exact List.forall_mem_nil _
        case b2 => kst_all
        case b3 => rw [cp_x1 (by assumption)] at h3; exact h3
      · (rename Fr s.heap _ _ _ => F9); (rename News s.heap _ _ _ => N9)
        refine' FEnd.intro (pre, _) F9 N9 ?b1 ?b2 ?b3
        case b1 => exact List.forall_mem_nil _
        case b2 => kst_all
        case b3 => rw [cp_x2 (by assumption)] at h3; exact h3
      · (rename Fr s.heap _ _ _ => F9); (rename News s.heap _ _ _ => N9)
        refine' FEnd.intro (pre + 1, _) F9 N9 ?b1 ?b2 ?b3
        case b1 => exact List.forall_mem_nil _
        case b2 => kst_all
        case b3 =>
          have g1 := drop_ne (l := a) (i := pre) (by assumption)
          have g2 := drop_ne (l := b) (i := pre) (by assumption)
          rw [cp_x4 (by assumption) (by assumption) (by assumption)] at h3
          exact ⟨⟨g1, g2, by dsimp only; omega⟩, by dsimp only; omega⟩
      · (rename Fr s.heap _ _ _ => F9); (rename News s.heap _ _ _ => N9)
        refine' FEnd.intro (pre, _) F9 N9 ?b1 ?b2 ?b3
        case b1 => exact List.forall_mem_nil _
        case b2 => kst_all
        case b3 => rw [cp_x3 (by assumption) (by assumption) (by assumption)] at h3; exact h3
    case a4 =>
      clear F9 N9
      rintro ⟨pre, t1⟩ u h tk h3 F2 N2
      dsimp only at F2 N2 h3 ⊢
      have hp8 : pre ≤ 8 := by rw [h3]; exact Nat.le_trans (cp_le a b) (by omega)
      have hlev1 : levF a b c = lv1 (a.drop pre) (b.drop pre) c := by rw [levF, if_neg hne', h3]
      have hA := isW_drop ha pre
      have hB := isW_drop hb pre
      walk_at "my go"
      (rename Fr s.heap _ _ _ => F9); (rename News s.heap _ _ _ => N9)
      generalize a.drop pre = a1 at hA F9 hlev1
      generalize b.drop pre = b1 at hB F9 hlev1
      have hA1 := hA.1
      have hB1 := hB.1
      refine' while_join (σ := Nat × Tok × Tok × Tok) (fun c' => [(Str.ofString "a", .str (S a1) c'.2.2.1), (Str.ofString "b", .str (S b1) c'.2.2.2), (Str.ofString "max_cost", .int (c : Nat) tc), (Str.ofString "post", .int (-(c'.1 : Int)) c'.2.1)]) (fun c => []) (fun c' => c'.1 ≤ a1.length ∧ c'.1 ≤ b1.length ∧ c'.1 + cp (a1.reverse.drop c'.1) (b1.reverse.drop c'.1) = suf a1 b1) (fun c' => c'.1 = suf a1 b1) (fun c' => a1.length - c'.1) (0, _, _, _) F9 N9 ?a1 ?a2 ?a3 ?a4
      case a1 => kst_all
      case a2 => exact ⟨Nat.zero_le _, Nat.zero_le _, by simp [suf]⟩
      case a3 =>
        clear F9 N9
        rintro ⟨k, tp, t1, t2⟩ u h tk ⟨h1, h2, h3⟩ F2 N2
        dsimp only at F2 N2 h1 h2 h3 ⊢
        walk_at "my go"
        all_goals ((rename Fr s.heap _ _ _ => F9); (rename News s.heap _ _ _ => N9))
        all_goals first
          | (exfalso; omega)
          | (have g1 : k + 1 ≤ a1.length := by walk_at "my small"
             have g2 : k + 1 ≤ b1.length := by walk_at "my small"
             have g3 := cs_x4 g1 g2 (by assumption)
             simp only [negsub] at F9
             refine' FEnd.intro (k + 1, _, _, _) F9 N9 ?b1 ?b2 ?b3
             case b1 => exact List.forall_mem_nil _
             case b2 => kst_all
             case b3 =>
               rw [g3] at h3
               exact ⟨⟨g1, g2, by dsimp only; omega⟩, by dsimp only; omega⟩)
          | (refine' FEnd.intro (k, _, _, _) F9 N9 ?b1 ?b2 ?b3
             case b1 => exact List.forall_mem_nil _
             case b2 => kst_all
             case b3 => first
               | exact cs_to h3 (cs_n1 (take_em (by assumption)))
               | exact cs_to h3 (cs_n2 (take_em (by assumption)))
               | exact cs_to h3 (cs_e1 (by assumption))
               | exact cs_to h3 (cs_e2 (by assumption))
               | exact cs_to h3 (cs_x3 (by walk_at "my small") (by walk_at "my small") (by assumption)))
      case a4 =>
        clear F9 N9
        rintro ⟨k, tp, t1, t2⟩ u h tk h3 F2 N2
        dsimp only at F2 N2 h3 ⊢
        have hk8 : k ≤ 8 := by rw [h3]; exact Nat.le_trans (cp_le _ _) (by simp; omega)
        walk_at "my go"
        refine exec_cut (h₀ := s.heap) (L := L') (σ := Tok × Tok × Tok) (fun c' => [(Str.ofString "a", .str (S (a1.take (a1.length - k))) c'.1), (Str.ofString "b", .str (S b1) c'.2.1), (Str.ofString "max_cost", .int (c : Nat) tc), (Str.ofString "post", .int (-(k : Int)) c'.2.2)]) (fun c => []) (fun c' => True) ?e1 ?e2
        case e1 =>
          walk_at "my go"
          all_goals ((rename Fr s.heap _ _ _ => F9); (rename News s.heap _ _ _ => N9))
          · refine' FEnd.intro (_, _, _) F9 N9 ?b1 ?b2 trivial
            case b1 => exact List.forall_mem_nil _
            case b2 => kst_all
          · have e : a1.take (a1.length - k) = a1 := by rw [neg0 (k := k) (by assumption)]; simp
            rw [e]
            refine' FEnd.intro (_, _, _) F9 N9 ?b1 ?b2 trivial
            case b1 => exact List.forall_mem_nil _
            case b2 => kst_all
        case e2 =>
          clear F2 N2
          rintro ⟨t1, t2, t3⟩ u h tk - F2 N2
          dsimp only at F2 N2 ⊢
          walk_at "my go"
          refine exec_cut (h₀ := s.heap) (L := L') (σ := Tok × Tok × Tok) (fun c' => [(Str.ofString "a", .str (S (a1.take (a1.length - k))) c'.1), (Str.ofString "b", .str (S (b1.take (b1.length - k))) c'.2.1), (Str.ofString "max_cost", .int (c : Nat) tc), (Str.ofString "post", .int (-(k : Int)) c'.2.2)]) (fun c => []) (fun c' => True) ?f1 ?f2
          case f1 =>
            walk_at "my go"
            all_goals ((rename Fr s.heap _ _ _ => F9); (rename News s.heap _ _ _ => N9))
            · refine' FEnd.intro (_, _, _) F9 N9 ?b1 ?b2 trivial
              case b1 => exact List.forall_mem_nil _
              case b2 => kst_all
            · have e : b1.take (b1.length - k) = b1 := by rw [neg0 (k := k) (by assumption)]; simp
              rw [e]
              refine' FEnd.intro (_, _, _) F9 N9 ?b1 ?b2 trivial
              case b1 => exact List.forall_mem_nil _
              case b2 => kst_all
          case f2 =>
            clear F2 N2
            rintro ⟨t1, t2, t3⟩ u h tk - F2 N2
            dsimp only at F2 N2 ⊢
            have hlev2 : levF a b c = lv2 (a1.take (a1.length - k)) (b1.take (b1.length - k)) c := by rw [hlev1, lv1, ← h3]
            have hA2 := isW_take hA (a1.length - k)
            have hB2 := isW_take hB (b1.length - k)
            generalize a1.take (a1.length - k) = a2 at hA2 F2 hlev2
            generalize b1.take (b1.length - k) = b2 at hB2 F2 hlev2
            have hA21 := hA2.1
            have hB21 := hB2.1
            walk_at "my go"
            · have e : levF a b c = 2 * (a2.length + b2.length) := by
                rw [hlev2, lv2, if_pos]
                rw [show a2.isEmpty = true by assumption]; rfl
              have e' : (2 : Int) * ((a2.length : Int) + (b2.length : Int)) = ((levF a b c : Nat) : Int) := by rw [e]; simp
              rw [e']
              exact hret _ _ _ (stays_fr F F2.keep) (stays_news N F2.keep)
            · have e : levF a b c = 2 * (a2.length + b2.length) := by
                rw [hlev2, lv2, if_pos]
                rw [show b2.isEmpty = true by assumption]; exact Bool.or_true _
              have e' : (2 : Int) * ((a2.length : Int) + (b2.length : Int)) = ((levF a b c : Nat) : Int) := by rw [e]; simp
              rw [e']
              exact hret _ _ _ (stays_fr F F2.keep) (stays_news N F2.keep)
            · refine exec_cut (h₀ := s.heap) (L := L') (σ := List Nat × List Nat × Tok × Tok) (fun c' => [(Str.ofString "a", .str (S c'.1) c'.2.2.1), (Str.ofString "b", .str (S c'.2.1) c'.2.2.2), (Str.ofString "max_cost", .int (c : Nat) tc)]) (fun c => []) (fun c' => (c'.1, c'.2.1) = if b2.length < a2.length then (b2, a2) else (a2, b2)) ?g1 ?g2
              case g1 =>
                walk_at "my go"
                all_goals ((rename Fr s.heap _ _ _ => F9); (rename News s.heap _ _ _ => N9))
                · refine' FEnd.intro (b2, a2, _, _) F9 (fun p hp => absurd hp List.not_mem_nil) ?b1 ?b2 ?b3
                  case b1 => exact List.forall_mem_nil _
                  case b2 => kst_all
                  case b3 => dsimp only; rw [if_pos (by omega)]
                · refine' FEnd.intro (a2, b2, _, _) F9 N9 ?b1 ?b2 ?b3
                  case b1 => exact List.forall_mem_nil _
                  case b2 => kst_all
                  case b3 => dsimp only; rw [if_neg (by omega)]
              case g2 =>
                clear F2 N2
                rintro ⟨a3, b3, t1, t2⟩ u h tk hab F2 N2
                dsimp only at F2 N2 hab ⊢
                have hA3 : isW a3 := by split at hab <;> (injection hab with e1 e2; subst e1; assumption)
                have hB3 : isW b3 := by split at hab <;> (injection hab with e1 e2; subst e2; assumption)
                have hA31 := hA3.1
                have hB31 := hB3.1
                have hle : a3.length ≤ b3.length := by split at hab <;> (injection hab with e1 e2; subst e1; subst e2; omega)
                have hlev3 : levF a b c = lv3 a3 b3 c := by
                  rw [hlev2, lv2, if_neg]
                  · split at hab <;> (injection hab with e1 e2; subst e1; subst e2)
                    · rw [if_pos (by assumption)]
                    · rw [if_neg (by assumption)]
                  · rw [show a2.isEmpty = false by assumption, show b2.isEmpty = false by assumption]; decide
                walk_at "my go"
                · have e : levF a b c = c + 1 := by
                    rw [hlev3, lv3, if_pos (by omega)]
                  have e' : (c : Int) + 1 = ((levF a b c : Nat) : Int) := by rw [e]; rfl
                  rw [e']
                  exact hret _ _ _ (stays_fr F F2.keep) (stays_news N F2.keep)
                · have hlev4 : levF a b c = lvOut a3 b3 c b3.length 0 (lvRow a3.length) 0 := by
                    rw [hlev3, lv3, if_neg (by omega)]
                  (rename Fr s.heap _ _ _ => F9); (rename News s.heap _ _ _ => N9); (rename IsRange _ _ _ _ _ _ _ _ => R9)
                  refine' list_range_mine (n := a3.length) rfl F9 N9 R9 ?r1 ?r2 ?r3 ?r4
                  case r1 => exact rg_small hA31
                  case r2 => exact rg_size hA31
                  case r3 => omega
                  case r4 =>
                    clear F9 N9 R9
                    intro lr ys kr h9 tk9 F9 N9 _ hys
                    have hrow := lvRow_ints hys
                    have hb100 : b3.length ≤ 1000000 := by omega
                    have ha100 : a3.length ≤ 1000000 := by omega
                    walk_at "my go"
                    (rename Fr s.heap _ _ _ => F9); (rename News s.heap _ _ _ => N9); (rename IsRange _ _ _ _ _ _ _ _ => R9)
                    refine' for_range (σ := List Nat × List Value × Nat × Nat × Tok) (fun q => [(Str.ofString "a", .str (S a3) t1), (Str.ofString "b", .str (S b3) t2), (Str.ofString "max_cost", .int (c : Nat) tc), (Str.ofString "row", .ref lr), (Str.ofString "result", .int (q.2.2.2.1 : Nat) q.2.2.2.2)]) (fun q => [(lr, listOf q.2.1.toArray q.2.2.1)]) (fun i q => IntsAre q.2.1 (q.1.map Int.ofNat) ∧ q.1.length = a3.length ∧ lvOut a3 b3 c (b3.length - i) i q.1 q.2.2.2.1 = lvOut a3 b3 c b3.length 0 (lvRow a3.length) 0) (lvRow a3.length, ys, kr, 0, _) rfl R9 (rg1_small hb100) (rg1_size _) F9 N9 ?a1 ?a2 (led_same fun _ => rfl) ⟨_, _, rfl⟩ ?turn ?done
                    case a1 => kst_all
                    case a2 => exact ⟨hrow, by simp [lvRow], rfl⟩
                    case turn =>
                      clear F9 N9 R9
                      rintro i t ⟨row, vs, kr, res, tres⟩ u h tk I oI hi ⟨hr1, hr2, hr3⟩ hI - F2 N2
                      dsimp only at F2 N2 hr1 hr2 hr3 ⊢
                      simp only [Int.zero_add, List.cons_append, List.nil_append] at N2 ⊢
                      have hvl := hr1.length
                      have hIl := ltN (a := lr) (b := I) (hI _ (List.Mem.head _))
                      clear hI
                      walk_at "my go"
                      (rename Fr s.heap _ _ _ => F9); (rename News s.heap _ _ _ => N9); (rename IsRange _ _ _ _ _ _ _ _ => R9)
                      refine' for_range (σ := LvSt × List Value × Nat × Tok × Tok × Tok × Tok) (fun q => [(Str.ofString "a", .str (S a3) t1), (Str.ofString "b", .str (S b3) t2), (Str.ofString "max_cost", .int (c : Nat) tc), (Str.ofString "row", .ref lr), (Str.ofString "bchar", .str (S [b3.getD i 0]) q.2.2.2.1), (Str.ofString "distance", .int (q.1.d : Nat) q.2.2.2.2.1), (Str.ofString "result", .int (q.1.r : Nat) q.2.2.2.2.2.1), (Str.ofString "minimum", .int (q.1.mn : Nat) q.2.2.2.2.2.2)]) (fun q => [(lr, listOf q.2.1.toArray q.2.2.1), (I, oI)]) (fun j q => IntsAre q.2.1 (q.1.row.map Int.ofNat) ∧ q.1.row.length = a3.length ∧ lvIn (b3.getD i 0) a3 (a3.length - j) j q.1 = lvIn (b3.getD i 0) a3 a3.length 0 ⟨row, 2 * i, 2 * i, 9223372036854775807⟩) (⟨row, 2 * i, 2 * i, 9223372036854775807⟩, vs, kr, _, _, _, _) rfl R9 (rg1_small ha100) (rg1_size _) F9 N9 ?i1 ?i2 (led_same fun _ => rfl) ⟨_, _, rfl⟩ ?iturn ?idone
                      case i1 =>
                        have e2 : ((i : Int) * 2) = ((2 * i : Nat) : Int) := by omega
                        simp only [e2]
                        kst_all
                      case i2 => exact ⟨hr1, hr2, rfl⟩
                      case iturn =>
                        clear F9 N9 R9
                        rintro j t ⟨⟨row', d, r, mn⟩, vs', kr', tb, td, tr, tm⟩ u h tk J oJ hj ⟨hs1, hs2, hs3⟩ hJ - F2 N2
                        dsimp only at F2 N2 hs1 hs2 hs3 ⊢
                        simp only [Int.zero_add, List.cons_append, List.nil_append] at N2 ⊢
                        have hvl' := hs1.length
                        have hJl := ltN (a := lr) (b := J) (hJ _ (List.Mem.head _))
                        have hJI := ltN (a := I) (b := J) (hJ _ (List.Mem.tail _ (List.Mem.head _)))
                        clear hJ
                        walk_at "my go"
                        · rename_i hlt _ F9 N9
                          replace hlt := Int.ofNat_lt.mp hlt
                          generalize hR : min (min r (row'.getD j 0) + 2) (d + substF [b3.getD i 0] [a3.getD j 0]) = R at hlt F9 N9
                          refine' FEnd.intro (⟨row'.set j R, row'.getD j 0, R, R⟩, vs'.set j (.int (R : Nat) _), kr', _, _, _, _) F9 N9 ?b1 ?b2 ?b3
                          case b1 => walk_at "my mem"
                          case b2 => kst_all
                          case b3 =>
                            refine ⟨ints_setN hs1 _ _ _, by simp [hs2], ?_⟩
                            rw [← hs3, lvIn_next hj, lvStep_lt hR.symm hlt]
                        · rename_i F9 N9 hlt
                          replace hlt := fun q => hlt (Int.ofNat_lt.mpr q)
                          generalize hR : min (min r (row'.getD j 0) + 2) (d + substF [b3.getD i 0] [a3.getD j 0]) = R at hlt F9 N9
                          refine' FEnd.intro (⟨row'.set j R, row'.getD j 0, R, mn⟩, vs'.set j (.int (R : Nat) _), kr', _, _, _, _) F9 N9 ?b1 ?b2 ?b3
                          case b1 => walk_at "my mem"
                          case b2 => kst_all
                          case b3 =>
                            refine ⟨ints_setN hs1 _ _ _, by simp [hs2], ?_⟩
                            rw [← hs3, lvIn_next hj, lvStep_ge hR.symm hlt]
                      case idone =>
                        clear F9 N9
                        rintro ⟨⟨row', d, r, mn⟩, vs', kr', tb, td, tr, tm⟩ u h tk ⟨hs1, hs2, hs3⟩ F2 N2
                        dsimp only at F2 N2 hs1 hs2 hs3 ⊢
                        have hst : (⟨row', d, r, mn⟩ : LvSt) = lvIn (b3.getD i 0) a3 a3.length 0 ⟨row, 2 * i, 2 * i, 9223372036854775807⟩ := by
                          rw [← hs3, Nat.sub_self]; rfl
                        have hnx := lvOut_next (c := c) (res := res) hi hst
                        walk_at "my go"
                        · rename_i hlt
                          replace hlt := Int.ofNat_lt.mp hlt
                          rw [if_pos hlt, hr3, ← hlev4] at hnx
                          have e' : (c : Int) + 1 = ((levF a b c : Nat) : Int) := by rw [hnx]; rfl
                          dsimp only [FPost]
                          (try k_unfold)
                          (try dsimp only)
                          rw [e']
                          exact hret _ _ _ (stays_fr F F2.keep) (stays_news N F2.keep)
                        · rename_i hlt
                          replace hlt := fun q => hlt (Int.ofNat_lt.mpr q)
                          rw [if_neg hlt, hr3] at hnx
                          refine' FEnd.intro (row', vs', kr', r, _) F2 N2 ?b1 ?b2 ?b3
                          case b1 => walk_at "my mem"
                          case b2 => kst_all
                          case b3 => exact ⟨hs1, hs2, hnx.symm⟩
                    case done =>
                      clear F9 N9
                      rintro ⟨row, vs, kr, res, tres⟩ u h tk ⟨hr1, hr2, hr3⟩ F2 N2
                      dsimp only at F2 N2 hr1 hr2 hr3 ⊢
                      walk_at "my go"
                      rw [Nat.sub_self, ← hlev4] at hr3
                      have e' : (res : Int) = ((levF a b c : Nat) : Int) := by rw [← hr3]; rfl
                      rw [e']
                      exact hret _ _ _ (stays_fr F F2.keep) (stays_news N F2.keep)
end

-- c_pack
theorem kw19 : True := by
  k_with_none
  (k_with "m exec While Compare cons nil" => ((with_reducible show wpAny _ _ (exec (Stmt.While _ _ _ _) _) _ _ _); refine hold ?_))
  (k_with "m exec While BoolOp cons nil" => ((with_reducible show wpAny _ _ (exec (Stmt.While _ _ _ _) _) _ _ _); refine hold ?_))
  (k_with "m exec While BinOp cons nil" => ((with_reducible show wpAny _ _ (exec (Stmt.While _ _ _ _) _) _ _ _); refine hold ?_))
  (k_with "m my enter" => k_dflt (refine' enter ?r8k1 ?r8k2 ?r8k6 ?r8k7 ?r8k8 ?r8k9 ?r8kB ?_ ?r8c2 ?r8c3 ?r8c4 ?r8c5; (case r8k1 => k_asm); (case r8k2 => k_asm); (case r8k6 => k_is); (case r8k7 => k_is); (case r8k8 => ktr_room); (case r8k9 => first | exact BindsTo.of_eq rfl | exact kp_binds (by assumption) (fun _ => rfl)); (case r8c5 => decide); (case r8kB => exact locs rfl); (case r8c2 => exact rfl); (case r8c3 => exact rfl); (case r8c4 => exact rfl)))
  (k_with "m my go" => ((try k_fold); (repeat' (first | (k_unfold; (try dsimp only)) | walk1 | (dsimp only; first | k_unfold | walk1))); (all_goals (try dsimp only))))
  (k_with "m my size" => first | omega | (simp only [len_S, len_toArr, List.length_map, List.size_toArray, Str.length_append, PySem.Str.length_append, sizeLine_eq, List.length_append, List.length_cons, List.length_nil] at *; omega) | (simp only [len_S, Str.length_append, sizeLine_eq] at *; size_fits))
  (k_with "m binaryOp Add str str" => ((with_reducible show wpAny _ _ (binaryOp Operator.Add (Value.str _ _) (Value.str _ _)) _ _ _); (refine' PyProof.Rows.add_str ?_ ?r11hsz); (case r11hsz => walk_at "my size"); intro _ _))
  (k_with "m call builtin:list.insert" => (k_here; (with_reducible show wpAny _ _ (call (Value.builtin _) [Value.ref _, Value.int _ _, _]) _ _ _); k_dflt (refine' kl_insert ?r12F ?r12N ?r12f ?r12e ?r12U ?r12z ?_; (case r12F => k_asm); (case r12N => k_asm); (case r12U => k_upd); (case r12e => exact rfl); (case r12f => walk_at "my fit"); (case r12z => walk_at "my size")); intro _ _ _; (try k_sweep)))
  (k_with "m my fit" => first | with_reducible exact fits0 | exact fits_nat (by omega) | exact fits_nat (by walk_at "my size"))
  (k_with "m my mem" => ((try dsimp only [List.cons_append, List.nil_append, List.append_nil]); kst_allIn))
  (k_with "m my list" => first | (with_reducible assumption) | assumption | exact Fr.lst (by k_asm) (by assumption) | exact News.isList (by k_asm) (by k_mem))
  (k_with "m call builtin:len" => ((with_reducible show wpAny _ _ (call (Value.builtin "len") [Value.ref _]) _ _ _); (refine' len_at ?r16k1 ?r16k2 ?_; (case r16k1 => walk_at "my list"); (case r16k2 => walk_at "my size")); intro _ _))
  (k_with "m my idx" => first | exact fdm2 _ _ | exact rfl | exact (Int.natCast_add _ _).symm)
  (k_with "m my item" => ((with_reducible show wpAny _ _ (subscriptTail _ _ (Value.ref _) (Value.int _ _)) _ _ _); first | ((refine' item_strs ?r18k1 ?r18k2 ?r18k3 ?r18k4 ?r18k5 ?_; (case r18k1 => walk_at "my list"); (case r18k2 => with_reducible assumption); (case r18k3 => walk_at "my idx"); (case r18k4 => walk_at "my size"); (case r18k5 => walk_at "my size")); intro _) | ((refine' item_ints ?r18k1 ?r18k2 ?r18k3 ?r18k4 ?r18k5 ?_; (case r18k1 => walk_at "my list"); (case r18k2 => with_reducible assumption); (case r18k3 => walk_at "my idx"); (case r18k4 => walk_at "my size"); (case r18k5 => walk_at "my size")); intro _)))
  (k_with "m setItem ref int" => ((with_reducible show wpAny _ _ (setItem (Value.ref _) (Value.int _ _) _) _ _ _); k_dflt (refine' set_atL ?r19F ?r19N ?r19z ?r19i ?r19b ?r19U ?_; (case r19F => k_asm); (case r19N => k_asm); (case r19U => k_upd); (case r19z => walk_at "my idx"); (case r19i => walk_at "my size"); (case r19b => walk_at "my size")); intro _ _ _; (try k_sweep)))
  (k_with "m subscriptTail Name Name ref int" => k_dflt (walk_at "my item"))
  (k_with "m my nat" => first | with_reducible exact natAdd1 _ | with_reducible exact natAdd2 _ | with_reducible exact (Int.natCast_add _ _).symm | with_reducible exact rfl)
  (k_with "m call builtin:min" => ((with_reducible show wpAny _ _ (call (Value.builtin _) [Value.int _ _, Value.int _ _]) _ _ _); k_dflt (refine' min_nat ?r22x ?r22y ?r22hh ?r22F ?r22N ?_; (case r22F => k_asm); (case r22N => k_asm); (case r22hh => with_unfolding_all rfl); (case r22x => walk_at "my nat"); (case r22y => walk_at "my nat")); intro _ _ _ _ _; (try k_sweep)))
  (k_with "m exec For Name Name cons nil" => ((with_reducible show wpAny _ _ (exec (Stmt.For _ _ _ _ _) _) _ _ _); k_dflt (refine for_mine ?_)))
  (k_with "m exec For Name Call cons nil" => ((with_reducible show wpAny _ _ (exec (Stmt.For _ _ _ _ _) _) _ _ _); k_dflt (refine for_mine ?_)))
  (k_with "m exec For Name Subscript cons nil" => ((with_reducible show wpAny _ _ (exec (Stmt.For _ _ _ _ _) _) _ _ _); k_dflt (refine for_mine ?_)))
  (k_with "m exec For Tuple Name cons nil" => ((with_reducible show wpAny _ _ (exec (Stmt.For _ _ _ _ _) _) _ _ _); k_dflt (refine for_mine ?_)))
  (k_with "m truthy str" => ((refine' truthy_S ?r23k1 ?_; (case r23k1 => first | omega | (simp only [List.length_drop, List.length_take]; omega) | walk_at "my size")); intro _))
  (k_with "m call builtin:len" => ((with_reducible show wpAny _ _ (call (Value.builtin "len") [Value.str _ _]) _ _ _); (refine' len_strS ?r24k1 ?_; (case r24k1 => walk_at "my size")); intro _ _))
  (k_with "m my isw" => first | assumption | (refine isW_drop ?_ _; walk_at "my isw") | (refine isW_take ?_ _; walk_at "my isw"))
  (k_with "m my small" => first | omega | (simp only [List.length_drop, List.length_take]; omega) | exact drop_ne (by assumption) | exact take_ne (by assumption) | exact emp_ne (by assumption) | exact emp_k (by assumption) (by omega) | (have := drop_ne (by assumption); omega) | (have := take_ne (by assumption); omega) | (have := emp_ne (by assumption); omega))
  (k_with "m my slice" => ((with_reducible rename Fr _ _ _ _ => F'); (with_reducible rename News _ _ _ _ => N'); first | ((with_reducible show wpAny _ _ (subscriptTail _ (Expr.Slice (some _) none none _) _ _) _ _ _); (refine' sl_from (s := ⟨_, _, _, _, _⟩) ?r27z ?r27k1 ?r27k2 F' N' ?_; (case r27z => walk_at "my nat"); (case r27k1 => walk_at "my isw"); (case r27k2 => walk_at "my small")); clear F' N'; intro _ _ _ _ _) | ((with_reducible show wpAny _ _ (subscriptTail _ (Expr.Slice none (some _) none _) _ _) _ _ _); (refine' sl_nn (s := ⟨_, _, _, _, _⟩) ?r27k1 F' N' ?_; (case r27k1 => walk_at "my isw")); clear F' N'; intro _ _ _ _ _) | ((with_reducible show wpAny _ _ (subscriptTail _ (Expr.Slice none (some _) none _) _ _) _ _ _); (refine' sl_neg (s := ⟨_, _, _, _, _⟩) ?r27k1 ?r27k2 ?r27k3 F' N' ?_; (case r27k1 => walk_at "my isw"); (case r27k2 => omega); (case r27k3 => walk_at "my small")); clear F' N'; intro _ _ _ _ _) | ((with_reducible show wpAny _ _ (subscriptTail _ (Expr.Slice none (some _) none _) _ _) _ _ _); (refine' sl_to (s := ⟨_, _, _, _, _⟩) ?r27z ?r27k1 ?r27k2 F' N' ?_; (case r27z => walk_at "my nat"); (case r27k1 => walk_at "my isw"); (case r27k2 => walk_at "my small")); clear F' N'; intro _ _ _ _ _)))
  (k_with "m subscriptTail Name Slice str ref" => walk_at "my slice")
  (k_with "m my sitem" => ((with_reducible show wpAny _ _ (subscriptTail _ _ (Value.str (S _) _) (Value.int _ _)) _ _ _); first | ((refine' it_neg ?r29z ?r29k1 ?r29k2 ?r29k3 ?_; (case r29z => exact negsub _); (case r29k1 => walk_at "my small"); (case r29k2 => omega); (case r29k3 => walk_at "my small")); intro _ _) | ((refine' it_pos ?r29z ?r29k1 ?r29k2 ?_; (case r29z => walk_at "my nat"); (case r29k1 => walk_at "my small"); (case r29k2 => walk_at "my small")); intro _ _)))
  (k_with "m subscriptTail Name Name str int" => walk_at "my sitem")
  (k_with "m subscriptTail Name BinOp str int" => walk_at "my sitem")
  exact True.intro
section
def codeF (l : List Nat) : Nat := l.foldl (fun a c => 128 * a + c) 0
def packF : List Nat → List (List Nat) → List Nat
  | _, [] => []
  | ah, w :: ws => octs (cp w ah) ++ octs (codeF (w.drop (cp w ah))) ++ packF w ws
theorem codeF_lt {l : List Nat} (h : ∀ c ∈ l, c < 128) : ∀ a, l.foldl (fun a c => 128 * a + c) a < (a + 1) * 128 ^ l.length := by
  induction l with
  | nil => intro a; simp
  | cons c r ih =>
    intro a
    rw [List.foldl_cons]
    refine Nat.lt_of_lt_of_le (ih (fun d hd => h d (.tail _ hd)) _) ?_
    have hc := h c (.head _)
    rw [List.length_cons, Nat.pow_succ, Nat.mul_comm (128 ^ r.length) 128, ← Nat.mul_assoc]
    exact Nat.mul_le_mul_right _ (by omega)
theorem octs_len {n : Nat} (h : n < 64 ^ 8) : (octs n).length ≤ 9 := by
  unfold octs
  have := ocF_len 8 (n / 64) [n % 64] (Nat.lt_of_le_of_lt (Nat.div_le_self _ _) h)
  simpa using this
theorem ocF_ne : ∀ (k r : Nat) (l : List Nat), r ≤ k → l.length ≠ 0 → (ocF r l).length ≠ 0
  | 0, r, l, h, hl => by
    rw [ocF, dif_pos (by omega)]; exact hl
  | k + 1, r, l, h, hl => by
    rw [ocF]
    split
    · exact hl
    · exact ocF_ne k _ _ (by omega) (by simp)
theorem octs_ne (n : Nat) : (octs n).length ≠ 0 := ocF_ne _ _ _ (Nat.le_refl _) (by simp)
theorem code_small {l : List Nat} (h : isW l) : codeF l < 64 ^ 8 := by
  have h1 := codeF_lt (l := l) (fun c hc => by
    have := h.2 c hc
    simp [sg] at this
    omega) 0
  have h2 : (128 : Nat) ^ l.length ≤ 128 ^ 4 := Nat.pow_le_pow_right (by decide) h.1
  unfold codeF
  have h3 : (128 : Nat) ^ 4 < 64 ^ 8 := by decide
  omega
theorem take_eq_iff {w a : List Nat} {s : Nat} (hs : s < w.length) (he : w.take s = a.take s) : w.take (s + 1) = a.take (s + 1) ↔ s < a.length ∧ w.getD s 0 = a.getD s 0 := by
  rw [List.take_add_one, List.take_add_one, he]
  constructor
  · intro h
    have h1 := List.append_cancel_left h
    rw [List.getElem?_eq_getElem hs] at h1
    cases ha : a[s]? with
    | none => rw [ha] at h1; cases h1
    | some x =>
      rw [ha] at h1
      have hsa := (List.getElem?_eq_some_iff.mp ha).1
      refine ⟨hsa, ?_⟩
      simp at h1
      simp [ha, hs, h1]
  · rintro ⟨h1, h2⟩
    rw [List.getElem?_eq_getElem hs, List.getElem?_eq_getElem h1]
    simp [hs, h1] at h2
    rw [h2]
theorem c_octets1 {prog : Program} {w : World} {p : Program} {loose : List Str} {mean : ExcName → Option Value} {mg mb : Str → Option Value} {dp un : Nat} {fr : Option (List Env)} {gd : Option (List Code)} {s : Shared} {Q E : Value → Shared → Prop} {h₀ : Heap} {L : Addr} {m : Str → Option Value} {news : List (Addr × Obj)} (n : Nat) (tn : Tok)
   (F : Fr h₀ L s.heap m) (N : News h₀ L s.heap news) (X : (hdP.heap_39 w.params).In h₀) (T : Top p loose mean mg mb h₀) (hd : dp + 5 < recursionLimit) (hu : un + 50 < cLine) (hn : n < 64 ^ 8)
   (hret : ∀ l vs k h' tk', Fr h₀ L h' m → News h₀ L h' ((l, listOf vs.toArray k) :: news) → (∀ p ∈ news, p.1 ≠ l) → IntsAre vs ((octs n).map Int.ofNat) → vs.length ≤ 9 → vs.length ≠ 0 → Q (.ref l) {s with heap := h', toks := tk'}) : wpAny (model prog w) (ar dp un fr gd) (call (.ref 83) [.int n tn]) Q E s :=
  c_octets n tn F N X T hd hu hn fun l vs k h' tk' F' N' hne hi => hret l vs k h' tk' F' N' hne hi (by rw [hi.length, List.length_map]; exact octs_len hn) (by rw [hi.length, List.length_map]; exact octs_ne n)
theorem kw20 : True := by
  (k_with "m my room" => first | omega | ((try dsimp only [Around.deeper, ar] at *); omega) | ktr_room | ktr_units)
  (k_with "m call ref" => ((with_reducible show wpAny _ _ (call (Value.ref 83) _) _ _ _); k_dflt (refine' c_octets1 _ _ ?r86F ?r86N ?r86X ?r86T ?r86hd ?r86hu ?r86hn ?_; (case r86F => k_asm); (case r86N => k_asm); (case r86X => k_asm); (case r86T => k_asm); (case r86hd => walk_at "my room"); (case r86hu => walk_at "my room"); (case r86hn => first | omega | assumption)); intro _ _ _ _ _ _ _ hne1 _ _ _; (replace hne1 := allNe_of hne1); (simp only [AllNe, and_true] at hne1); (revert hne1; intro _); (try k_sweep)))
  (k_with "m binaryOp Add ref ref" => ((with_reducible show wpAny _ _ (binaryOp _ (Value.ref _) (Value.ref _)) _ _ _); k_dflt (refine' add_L ?r87F ?r87N ?r87a ?r87b ?r87z ?_; (case r87F => k_asm); (case r87N => k_asm); (case r87a => walk_at "my list"); (case r87b => walk_at "my list"); (case r87z => walk_at "my size")); intro _ _ _ _ l1; (try k_lt l1); (revert l1; intro _); (try k_sweep)))
  (k_with "m call builtin:list.extend" => ((with_reducible show wpAny _ _ (call (Value.builtin _) [Value.ref _, Value.ref _]) _ _ _); k_dflt (refine' extend_L ?r88F ?r88N ?r88b ?r88ne ?r88U ?r88z ?_; (case r88F => k_asm); (case r88N => k_asm); (case r88b => k_mem); (case r88U => k_upd); (case r88ne => first | omega | (rw [List.length_append]; omega)); (case r88z => walk_at "my size")); intro _ _ _; (try k_sweep)))
  (k_with "m call builtin:ord" => (refine P.ord_of_char ?_))
  exact True.intro
set_option maxHeartbeats 4000000 in
theorem c_pack {prog : Program} {w : World} {p : Program} {loose : List Str} {mean : ExcName → Option Value} {mg mb : Str → Option Value} {dp un : Nat} {fr : Option (List Env)} {gd : Option (List Code)} {s : Shared} {Q E : Value → Shared → Prop} {h₀ : Heap} {L : Addr} {m : Str → Option Value} {news : List (Addr × Obj)} (r : Addr) (rvs : List Value) (ws : List (List Nat))
   (F : Fr h₀ L s.heap m) (N : News h₀ L s.heap news) (X : (hdP.heap_39 w.params).In h₀) (T : Top p loose mean mg mb h₀) (hd : dp + 10 < recursionLimit) (hu : un + 100 < cLine) (hr : s.heap.IsList r rvs.toArray) (hrv : StrsAre rvs (ws.map S)) (hlen : ws.length ≤ 100) (hW : ∀ x ∈ ws, isW x)
   (hret : ∀ l vs k h' tk', Fr h₀ L h' m → News h₀ L h' ((l, listOf vs.toArray k) :: news) → (∀ p ∈ news, p.1 ≠ l) → IntsAre vs ((packF [] ws).map Int.ofNat) → Q (.ref l) {s with heap := h', toks := tk'}) : wpAny (model prog w) (ar dp un fr gd) (call (.ref 90) [.ref r]) Q E s := by
  have X' := X.keeps F.keep
  have T' := T.keeps F.keep
  have hrl : rvs.length = ws.length := by rw [strs_len hrv, List.length_map]
  refine wpAny_call ?_
  walk_at "my enter"
  intro L' h₁ F' N'
  walk_at "my go"
  rename_i l1 _ _ _ _ F9 N9
  refine' for_list (σ := List Nat × List Value × Nat × List Nat × Tok) (fun q => [(Str.ofString "octets", .ref l1), (Str.ofString "ahead", .str (S q.2.2.2.1) q.2.2.2.2)]) (fun q => [(l1, listOf q.2.1.toArray q.2.2.1)]) (fun i q => IntsAre q.2.1 (q.1.map Int.ofNat) ∧ q.1 ++ packF q.2.2.2.1 (ws.drop i) = packF [] ws ∧ q.1.length ≤ 20 * i ∧ isW q.2.2.2.1) ([], [], 0, [], _) rfl F9 N9 ?a1 ?a2 (fun _ _ _ F' _ => Fr.lst F' hr) (led_same fun _ => rfl) (.inl ⟨_, _, rfl⟩) ?turn ?done
  case a1 => kst_all
  case a2 => exact ⟨.nil, by simp, by simp, by simp, fun c hc => absurd hc List.not_mem_nil⟩
  case turn =>
    clear F9 N9
    rintro i v ⟨oct, vs, k, ah, tah⟩ u h tk I oI hi ⟨hr1, hr2, hr3, hr4⟩ hI - F2 N2
    dsimp only at F2 N2 hr1 hr2 hr3 hr4 ⊢
    have hil : i < ws.length := by rw [← hrl]; exact (List.getElem?_eq_some_iff.mp hi).1
    obtain ⟨t, ht⟩ := strs_get hrv i (S ws[i]) (by simp [hil])
    rw [ht] at hi
    cases hi
    have hwW := hW ws[i] (List.getElem_mem hil)
    rw [List.drop_eq_getElem_cons hil] at hr2
    generalize ws[i] = wd at hwW hr2 ht
    have hw1 := hwW.1
    have ha1 := hr4.1
    have hIl := ltN (a := l1) (b := I) (hI _ (List.Mem.head _))
    clear hI
    simp only [List.cons_append, List.nil_append] at N2
    walk_at "my go"
    (rename Fr s.heap _ _ _ => F9); (rename News s.heap _ _ _ => N9)
    refine' while_join (σ := Nat × Tok) (fun c' => [(Str.ofString "octets", .ref l1), (Str.ofString "ahead", .str (S ah) tah), (Str.ofString "word", .str (S wd) t), (Str.ofString "shared", .int (c'.1 : Nat) c'.2)]) (fun c => [(l1, listOf vs.toArray k), (I, oI)]) (fun c' => c'.1 ≤ wd.length ∧ c'.1 ≤ ah.length ∧ wd.take c'.1 = ah.take c'.1 ∧ c'.1 + cp (wd.drop c'.1) (ah.drop c'.1) = cp wd ah) (fun c' => c'.1 = cp wd ah) (fun c' => wd.length - c'.1) (0, _) F9 N9 ?w1 ?w2 ?w3 ?w4
    case w1 => kst_all
    case w2 => exact ⟨Nat.zero_le _, Nat.zero_le _, rfl, by simp⟩
    case w3 =>
      clear F9 N9
      rintro ⟨sh, t1⟩ u h tk ⟨h1, h2, h3, h4⟩ F2 N2
      dsimp only at F2 N2 h1 h2 h3 h4 ⊢
      walk_at "my go"
      · (rename Fr s.heap _ _ _ => F9); (rename News s.heap _ _ _ => N9)
        rename ((S _ == S _) = true) => heq
        have hs : sh < wd.length := by omega
        have heq' := (take_eq_iff hs h3).mp (by rw [beq_S] at heq; exact of_decide_eq_true heq)
        simp only [natAdd1] at F9
        refine' FEnd.intro (sh + 1, _) F9 N9 ?b1 ?b2 ?b3
        case b1 => walk_at "my mem"
        case b2 => kst_all
        case b3 =>
          rw [cp_step hs heq'.1, if_pos heq'.2] at h4
          exact ⟨⟨hs, heq'.1, (take_eq_iff hs h3).mpr heq', by dsimp only; omega⟩, by dsimp only; omega⟩
      · (rename Fr s.heap _ _ _ => F9); (rename News s.heap _ _ _ => N9)
        rename ((S _ == S _) = false) => heq
        have hs : sh < wd.length := by omega
        have heq' : ¬ (sh < ah.length ∧ wd.getD sh 0 = ah.getD sh 0) := fun q => by
          have := (take_eq_iff hs h3).mpr q
          rw [beq_S] at heq
          exact of_decide_eq_false heq this
        refine' FEnd.intro (sh, _) F9 N9 ?b1 ?b2 ?b3
        case b1 => walk_at "my mem"
        case b2 => kst_all
        case b3 =>
          dsimp only
          by_cases hsa : sh < ah.length
          · rw [cp_step hs hsa, if_neg (fun q => heq' ⟨hsa, q⟩)] at h4; exact h4
          · rw [List.drop_eq_nil_of_le (as := ah) (by omega), cp_nil_r] at h4; exact h4
      · refine' FEnd.intro (sh, _) F2 N2 ?b1 ?b2 ?b3
        case b1 => walk_at "my mem"
        case b2 => kst_all
        case b3 =>
          dsimp only
          rw [List.drop_eq_nil_of_le (as := wd) (by omega), cp_nil_l] at h4; exact h4
    case w4 =>
      clear F9 N9
      rintro ⟨sh, t1⟩ u h tk h3 F2 N2
      dsimp only at F2 N2 h3 ⊢
      have hsh : sh ≤ 8 := by rw [h3]; exact Nat.le_trans (cp_le _ _) (by omega)
      rw [packF, ← h3] at hr2
      have hdW := isW_drop hwW sh
      have hcs := code_small hdW
      walk_at "my go"
      (rename Fr s.heap _ _ _ => F9); (rename News s.heap _ _ _ => N9)
      generalize wd.drop sh = dr at hdW hcs hr2
      have hd1 := hdW.1
      refine' for_str (σ := Nat × Tok) (fun q => [(Str.ofString "octets", .ref l1), (Str.ofString "word", .str (S wd) t), (Str.ofString "shared", .int (sh : Nat) t1), (Str.ofString "code", .int (q.1 : Nat) q.2)]) (fun q => [(l1, listOf vs.toArray k), (I, oI)]) (fun j q => q.1 = codeF (dr.take j)) (0, _) rfl F9 N9 ?a1 ?a2 (led_same (c₀ := (0, 0)) fun _ => rfl) ⟨_, _, rfl⟩ ?sturn ?sdone
      case a1 => kst_all
      case a2 => rfl
      case sturn =>
        clear F9 N9
        rintro j cp0 t2 ⟨code, tc⟩ u h tk J oJ hj hP hJ F2 N2
        dsimp only at F2 N2 hP ⊢
        have hcpW : cp0 < 128 := by
          have hm : cp0 ∈ dr := List.mem_of_getElem? (i := j) (by simpa [S] using hj)
          have := hdW.2 _ hm
          simp [sg] at this
          omega
        have hnext : codeF (dr.take (j + 1)) = 128 * code + cp0 := by
          have : dr[j]? = some cp0 := by simpa [S] using hj
          rw [List.take_add_one, this, hP]
          simp [codeF, List.foldl_append]
        have hcode : code < 64 ^ 8 := by
          rw [hP]
          exact code_small (isW_take hdW j)
        simp only [List.cons_append, List.nil_append] at N2
        walk_at "my go"
        (rename Fr s.heap _ _ _ => F9); (rename News s.heap _ _ _ => N9)
        have e1 : (128 : Int) * (code : Int) + (cp0 : Int) = ((128 * code + cp0 : Nat) : Int) := by simp
        rw [e1] at F9
        refine' FEnd.intro (128 * code + cp0, _) F9 N9 ?b1 ?b2 ?b3
        case b1 => walk_at "my mem"
        case b2 => kst_all
        case b3 => exact hnext.symm
      case sdone =>
        clear F9 N9
        rintro ⟨code, tc⟩ u h tk hP F2 N2
        dsimp only at F2 N2 hP ⊢
        have hP' : code = codeF dr := by rw [hP]; congr 1; simp [S]
        have hcc : code < 64 ^ 8 := by rw [hP']; exact hcs
        have hshs : sh < 64 ^ 8 := by omega
        have hvl := hr1.length
        have hi100 : i < 100 := by omega
        walk_at "my go"
        (rename Fr s.heap _ _ _ => F9); (rename News s.heap _ _ _ => N9)
        rename IntsAre _ (List.map Int.ofNat (octs code)) => hb
        rename IntsAre _ (List.map Int.ofNat (octs sh)) => ha
        refine' FEnd.intro (oct ++ (octs sh ++ octs code), vs ++ (_ ++ _), k + 1, wd, t) F9 N9 ?b1 ?b2 ?b3
        case b1 => walk_at "my mem"
        case b2 => kst_all
        case b3 =>
          refine ⟨?_, ?_, ?_, hwW⟩
          · dsimp only
            rw [List.map_append, List.map_append]
            exact ints_append hr1 (ints_append ha hb)
          · dsimp only
            rw [hP', ← hr2]
            simp only [List.append_assoc]
          · dsimp only
            have g1 := octs_len hshs
            have g2 := octs_len hcc
            rw [List.length_append, List.length_append]
            omega
  case done =>
    clear F9 N9
    rintro ⟨oct, vs, k, ah, tah⟩ u h tk ⟨hr1, hr2, hr3, hr4⟩ F2 N2
    dsimp only at F2 N2 hr1 hr2 hr3 hr4 ⊢
    walk_at "my go"
    rw [hrl, List.drop_length, packF, List.append_nil] at hr2
    rw [hr2] at hr1
    exact hret l1 vs k h _ (stays_fr F F2.keep) (news_cons F (stays_news N F2.keep) (N2.fresh (List.Mem.head _)) (N2.get (List.Mem.head _))) (fresh_ne N (N2.fresh (List.Mem.head _))) hr1
end

-- c_read
theorem kw21 : True := by
  k_with_none
  (k_with "m exec While Compare cons nil" => ((with_reducible show wpAny _ _ (exec (Stmt.While _ _ _ _) _) _ _ _); refine hold ?_))
  (k_with "m exec While BoolOp cons nil" => ((with_reducible show wpAny _ _ (exec (Stmt.While _ _ _ _) _) _ _ _); refine hold ?_))
  (k_with "m exec While BinOp cons nil" => ((with_reducible show wpAny _ _ (exec (Stmt.While _ _ _ _) _) _ _ _); refine hold ?_))
  (k_with "m my enter" => k_dflt (refine' enter ?r8k1 ?r8k2 ?r8k6 ?r8k7 ?r8k8 ?r8k9 ?r8kB ?_ ?r8c2 ?r8c3 ?r8c4 ?r8c5; (case r8k1 => k_asm); (case r8k2 => k_asm); (case r8k6 => k_is); (case r8k7 => k_is); (case r8k8 => ktr_room); (case r8k9 => first | exact BindsTo.of_eq rfl | exact kp_binds (by assumption) (fun _ => rfl)); (case r8c5 => decide); (case r8kB => exact locs rfl); (case r8c2 => exact rfl); (case r8c3 => exact rfl); (case r8c4 => exact rfl)))
  (k_with "m my go" => ((try k_fold); (repeat' (first | (k_unfold; (try dsimp only)) | walk1 | (dsimp only; first | k_unfold | walk1))); (all_goals (try dsimp only))))
  (k_with "m my size" => first | omega | (simp only [len_S, len_toArr, List.length_map, List.size_toArray, Str.length_append, PySem.Str.length_append, sizeLine_eq, List.length_append, List.length_cons, List.length_nil] at *; omega) | (simp only [len_S, Str.length_append, sizeLine_eq] at *; size_fits))
  (k_with "m binaryOp Add str str" => ((with_reducible show wpAny _ _ (binaryOp Operator.Add (Value.str _ _) (Value.str _ _)) _ _ _); (refine' PyProof.Rows.add_str ?_ ?r11hsz); (case r11hsz => walk_at "my size"); intro _ _))
  (k_with "m call builtin:list.insert" => (k_here; (with_reducible show wpAny _ _ (call (Value.builtin _) [Value.ref _, Value.int _ _, _]) _ _ _); k_dflt (refine' kl_insert ?r12F ?r12N ?r12f ?r12e ?r12U ?r12z ?_; (case r12F => k_asm); (case r12N => k_asm); (case r12U => k_upd); (case r12e => exact rfl); (case r12f => walk_at "my fit"); (case r12z => walk_at "my size")); intro _ _ _; (try k_sweep)))
  (k_with "m my fit" => first | with_reducible exact fits0 | exact fits_nat (by omega) | exact fits_nat (by walk_at "my size"))
  (k_with "m my mem" => ((try dsimp only [List.cons_append, List.nil_append, List.append_nil]); kst_allIn))
  (k_with "m my list" => first | (with_reducible assumption) | assumption | exact Fr.lst (by k_asm) (by assumption) | exact News.isList (by k_asm) (by k_mem))
  (k_with "m call builtin:len" => ((with_reducible show wpAny _ _ (call (Value.builtin "len") [Value.ref _]) _ _ _); (refine' len_at ?r16k1 ?r16k2 ?_; (case r16k1 => walk_at "my list"); (case r16k2 => walk_at "my size")); intro _ _))
  (k_with "m my idx" => first | exact fdm2 _ _ | exact rfl | exact (Int.natCast_add _ _).symm)
  (k_with "m my item" => ((with_reducible show wpAny _ _ (subscriptTail _ _ (Value.ref _) (Value.int _ _)) _ _ _); first | ((refine' item_strs ?r18k1 ?r18k2 ?r18k3 ?r18k4 ?r18k5 ?_; (case r18k1 => walk_at "my list"); (case r18k2 => with_reducible assumption); (case r18k3 => walk_at "my idx"); (case r18k4 => walk_at "my size"); (case r18k5 => walk_at "my size")); intro _) | ((refine' item_ints ?r18k1 ?r18k2 ?r18k3 ?r18k4 ?r18k5 ?_; (case r18k1 => walk_at "my list"); (case r18k2 => with_reducible assumption); (case r18k3 => walk_at "my idx"); (case r18k4 => walk_at "my size"); (case r18k5 => walk_at "my size")); intro _)))
  (k_with "m setItem ref int" => ((with_reducible show wpAny _ _ (setItem (Value.ref _) (Value.int _ _) _) _ _ _); k_dflt (refine' set_atL ?r19F ?r19N ?r19z ?r19i ?r19b ?r19U ?_; (case r19F => k_asm); (case r19N => k_asm); (case r19U => k_upd); (case r19z => walk_at "my idx"); (case r19i => walk_at "my size"); (case r19b => walk_at "my size")); intro _ _ _; (try k_sweep)))
  (k_with "m subscriptTail Name Name ref int" => k_dflt (walk_at "my item"))
  (k_with "m my nat" => first | with_reducible exact natAdd1 _ | with_reducible exact natAdd2 _ | with_reducible exact (Int.natCast_add _ _).symm | with_reducible exact rfl)
  (k_with "m call builtin:min" => ((with_reducible show wpAny _ _ (call (Value.builtin _) [Value.int _ _, Value.int _ _]) _ _ _); k_dflt (refine' min_nat ?r22x ?r22y ?r22hh ?r22F ?r22N ?_; (case r22F => k_asm); (case r22N => k_asm); (case r22hh => with_unfolding_all rfl); (case r22x => walk_at "my nat"); (case r22y => walk_at "my nat")); intro _ _ _ _ _; (try k_sweep)))
  (k_with "m exec For Name Name cons nil" => ((with_reducible show wpAny _ _ (exec (Stmt.For _ _ _ _ _) _) _ _ _); k_dflt (refine for_mine ?_)))
  (k_with "m exec For Name Call cons nil" => ((with_reducible show wpAny _ _ (exec (Stmt.For _ _ _ _ _) _) _ _ _); k_dflt (refine for_mine ?_)))
  (k_with "m exec For Name Subscript cons nil" => ((with_reducible show wpAny _ _ (exec (Stmt.For _ _ _ _ _) _) _ _ _); k_dflt (refine for_mine ?_)))
  (k_with "m exec For Tuple Name cons nil" => ((with_reducible show wpAny _ _ (exec (Stmt.For _ _ _ _ _) _) _ _ _); k_dflt (refine for_mine ?_)))
  exact True.intro
section
section
variable {prog : Program} {w : World} {A : Around} {E : Value → Shared → Prop} {s : Shared} {h₀ : Heap} {L l : Addr} {m : Str → Option Value} {news : List (Addr × Obj)} {items : Array Value} {Q : Value → Shared → Prop}
theorem iter_li (F : Fr h₀ L s.heap m) (N : News h₀ L s.heap news) (hl : s.heap.IsList l items)
    (h : ∀ (I : Addr) h' oI, IsLI oI l 0 → Fr h₀ L h' m → News h₀ L h' ((I, oI) :: news) → (∀ p ∈ news, p.1 ≠ I) → l ≠ I → Q (.ref I) { s with heap := h' }) :
    wpAny (model prog w) A (call (.builtin "iter") [.ref l]) Q E s := by
  refine call_function_entry (by decide +kernel) (by decide +kernel) kdk_entry_iter (kdk_args_iter _) ?_
  unfold Builtin.«iter»
  refine wpAny_bind (m := someArgs "iter" 1 2 _) (wpAny_of_eq (a := [Value.ref l]) (by first | rfl | kernel_rfl!) ?_)
  show wpAny _ _ (pyIter (.ref l) >>= _) _ _ _
  obtain ⟨ol, hol, _⟩ := id hl
  refine wpAny_bind (wpAny_pyIter_list hl ?_)
  exact wpAny_pure ⟨_, rfl, h _ _ _ ⟨rfl, rfl⟩ (F.push _) (News.push F N _ rfl) (fun q hq => Nat.ne_of_lt (Heap.lt_size (N q hq).1)) (Nat.ne_of_lt (Heap.lt_size hol))⟩
end
theorem kw22 : True := by
  (k_with "m call builtin:iter" => ((with_reducible show wpAny _ _ (call (Value.builtin "iter") [Value.ref _]) _ _ _); k_dflt (refine' iter_li ?r90F ?r90N ?r90l ?_; (case r90F => k_asm); (case r90N => k_asm); (case r90l => walk_at "my list")); intro _ _ _ _ _ _ _ _))
  (k_with "m exec While Constant cons nil" => ((with_reducible show wpAny _ _ (exec (Stmt.While _ _ _ _) _) _ _ _); refine hold ?_))
  exact True.intro
theorem chr_nat {prog : Program} {w : World} {A : Around} {E : Value → Shared → Prop} {s : Shared} {x : Int} {a : Nat} {t : Tok} {Q : Value → Shared → Prop} (hx : x = (a : Int)) (ha : a < 128) (h : ∀ t' tk, Q (.str (S [a]) t') { s with toks := tk }) : wpAny (model prog w) A (call (.builtin "chr") [.int x t]) Q E s := by
  subst hx
  refine P.chr_of_int (by simp; omega) ?_
  exact h _ _
theorem codeF_snoc (l : List Nat) (c : Nat) : codeF (l ++ [c]) = 128 * codeF l + c := by simp [codeF, List.foldl_append]
inductive TupsAre : List (Addr × Obj) → List (Nat × List Nat) → Prop
  | nil : TupsAre [] []
  | snoc {ts ds} (a : Addr) (o : Obj) (n : Nat) (l : List Nat) (t t' : Tok) (x : Nat) (h : TupsAre ts ds) (hc : o.cls = .type "tuple") (hd : o.data = .seq #[.int n t, .str (S l) t'] x) : TupsAre (ts ++ [(a, o)]) (ds ++ [(n, l)])
def packD : List Nat → List (List Nat) → List (Nat × List Nat)
  | _, [] => []
  | ah, w :: ws => (cp w ah, w.drop (cp w ah)) :: packD w ws
theorem TupsAre.len {ts : List (Addr × Obj)} {ds : List (Nat × List Nat)} (h : TupsAre ts ds) : ts.length = ds.length := by
  induction h with
  | nil => rfl
  | snoc _ _ _ _ _ _ _ _ _ _ ih => simp [ih]
theorem packD_len : ∀ (ws : List (List Nat)) (ah : List Nat), (packD ah ws).length = ws.length
  | [], _ => rfl
  | w :: ws, ah => by simp [packD, packD_len ws w]
theorem kw23 : True := by
  (k_with "m call ref" => (k_dflt (refine' c_viend _ _ _ _ _ _ ?r92B ?r92F ?r92N ?r92U ?r92i ?r92X ?r92T ?r92XB ?r92TB ?r92D ?r92T0 ?r92hck ?r92hd ?r92hu ?r92hl ?r92hx ?_; (case r92hx => assumption); (case r92B => assumption); (case r92F => k_asm); (case r92N => k_asm); (case r92U => k_updF); (case r92i => k_asm); (case r92X => k_asm); (case r92T => k_asm); (case r92XB => assumption); (case r92TB => assumption); (case r92D => assumption); (case r92T0 => exact KtsTurn.refl); (case r92hck => exact rfl); (case r92hd => walk_at "my room"); (case r92hu => walk_at "my room"); (case r92hl => walk_at "my memhr")); intro _ _ _ _ _ _ _ _ _))
  (k_with "m my hp" => first | with_reducible assumption | (refine (congrArg (vparse 0) (by with_reducible assumption)).trans ?_; exact vparse_octs _ _))
  (k_with "m call ref" => (k_dflt (refine' c_vi _ _ _ _ _ _ _ _ ?r94F ?r94N ?r94U ?r94i ?r94X ?r94T ?r94hd ?r94hu ?r94hl ?r94hlit ?r94hvs ?r94hos ?r94hp ?r94hv ?_; (case r94F => k_asm); (case r94N => k_asm); (case r94U => k_updF); (case r94i => with_reducible assumption); (case r94hvs => with_reducible assumption); (case r94hp => walk_at "my hp"); (case r94X => k_asm); (case r94T => k_asm); (case r94hd => walk_at "my room"); (case r94hu => walk_at "my room"); (case r94hl => exact News.isList (by k_asm) (by walk_at "my memhr")); (case r94hlit => assumption); (case r94hos => with_reducible assumption); (case r94hv => with_reducible assumption)); intro _ _ _ _ _ _ _ _ _ _; (try k_sweep)))
  (k_with "m call builtin:chr" => ((refine' chr_nat ?r95x ?r95a ?_; (case r95x => exact fm128 _); (case r95a => omega)); intro _ _))
  (k_with "m call builtin:list.append" => ((with_reducible show wpAny _ _ (call (Value.builtin _) [Value.ref _, _]) _ _ _); k_dflt (refine' append_K ?r96k1 ?r96k2 ?r96k3 ?_ ?r96z; (case r96k1 => k_asm); (case r96k2 => k_asm); (case r96k3 => k_upd); (case r96z => walk_at "my size"); k_whole); intro _ _ _; (try k_sweep)))
  (k_with "m my room" => first | omega | ((try dsimp only [Around.deeper, ar] at *); omega) | ktr_room | ktr_units)
  exact True.intro
local macro_rules | `(tactic| k_all) => `(tactic| with_reducible assumption)
theorem kw24 : True := by
  (k_with "m my memhr" => exact List.Mem.tail _ (List.Mem.tail _ (List.mem_append_right _ (by assumption))))
  exact True.intro
theorem isExc_Stop : isSubtype (.type "StopIteration") (.type "BaseException") = pure true := by rw [isSubtype_type]; kernel_rfl
theorem notTuple_Stop : isSubtype (.type ((Manifest.find? "StopIteration").elim "type" fun y => y.metatype)) (.type "tuple") = pure false := by rw [isSubtype_type]; kernel_rfl
theorem sub_Stop : isSubtype (.type "StopIteration") (.type "StopIteration") = pure true := by rw [isSubtype_type]; kernel_rfl
theorem kw25 : True := by
  (k_with "m noteFrame ref" => ((with_reducible show wpAny _ _ (noteFrame _ _) (fun _ s₂ => wpAny _ _ (setFlight _ none) (fun _ s₃ => wpAny _ _ (handleBy _ _ (ExceptHandler.ExceptHandler (some (Expr.Name ("StopIteration" : Str) _)) none _ _ :: _)) _ _ s₃) _ s₂) _ _); k_dflt (refine' caught_S0 (T' := "StopIteration") ?r99R ?r99F ?r99K ?r99U ?r99XB ?r99TB ?r99D ?r99T0 ?r99ex PyProof.Rows.Boot.«StopIteration» ?r99hn isExc_Stop notTuple_Stop sub_Stop ?_; (case r99R => assumption); (case r99F => assumption); (case r99K => assumption); (case r99U => assumption); (case r99XB => assumption); (case r99TB => assumption); (case r99D => assumption); (case r99T0 => first | assumption | exact KtsTurn.refl); (case r99ex => k_is); (case r99hn => decide); k_whole); intro _ _ _ _ _ _ _ _ _ _ _ _))
  exact True.intro
theorem ocF_lt : ∀ (k r : Nat) (l : List Nat), r ≤ k → (∀ c ∈ l, c < 128) → ∀ c ∈ ocF r l, c < 128
  | 0, r, l, h, hl => by
    rw [ocF, dif_pos (by omega)]; exact hl
  | k + 1, r, l, h, hl => by
    rw [ocF]
    split
    · exact hl
    · refine ocF_lt k _ _ (by omega) (fun c hc => ?_)
      rcases List.mem_cons.mp hc with rfl | hc
      · omega
      · exact hl c hc
theorem packF_lt : ∀ (ws : List (List Nat)) (ah : List Nat), ∀ c ∈ packF ah ws, c < 128
  | [], _, c, hc => by simp [packF] at hc
  | w :: ws, ah, c, hc => by
    have ho : ∀ n, ∀ c ∈ octs n, c < 128 := fun n => ocF_lt _ _ _ (Nat.le_refl _) (fun c hc => by simp at hc; omega)
    simp only [packF, List.mem_append] at hc
    rcases hc with (hc | hc) | hc
    · exact ho _ c hc
    · exact ho _ c hc
    · exact packF_lt ws w c hc
section
variable {prog : Program} {w : World} {A₀ A : Around} {s : Shared} {base h₀ : Heap} {L : Addr} {m : Str → Option Value} {env : Env} {news : List (Addr × Obj)} {K : Frag} {p : Program} {loose : List Str} {mean : ExcName → Option Value} {mg mb : Str → Option Value}
  {R : Result → Shared → Prop} {name qual : Str} {params : Arguments} {body : List Stmt} {scope : Scope} {dV kV doc pm cdv ct oc : Value} {an od : Option Addr} {osl : Array (Option Value)} {f : Addr} {args : Args} {binds : List (Str × Value)}
theorem code_defG (B : Below A₀ base [] h₀) (F : Fr h₀ L s.heap m) (X₀ : K.In h₀) (N : News h₀ L s.heap news) (T : Top p loose mean mg mb h₀) (hA : A.frames = some [env]) (hf : env.frame = some L) (hke : env.scope.kind = .function)
    (ho : K.lookup f = some ⟨oc, od, .func (fnOf name qual params body scope dV kV doc pm an cdv ct), osl⟩) (hcd : codeIn K cdv qual = true) (hroom : A.depth < recursionLimit)
    (hbind : BindsTo s (fnOf name qual params body scope dV kV doc pm an cdv ct) args binds) (hloc : ∀ y ∈ binds, scope.names.lookup y.1 = some .local)
    (h : ∀ g L' h₁, Fr h₀ L g m → Fr g L' h₁ (fun y => binds.reverse.lookup y) → News g L' h₁ news → Below A base [env] g → K.In g → Top p loose mean mg mb g → KtsDicts ([env].filterMap (·.frame)) g →
      wpAny (model prog w) (A.deeper (envOf qual scope L' f cdv)) (execs body (envOf qual scope L' f cdv))
        (fun fl s' => LeaveS0 ([env].filterMap (·.frame)) h₀ L m g R (match fl with | .ret v => v | _ => .none) s')
        (fun e s' => wpAny (model prog w) (A.deeper (envOf qual scope L' f cdv)) (leaving (envOf qual scope L' f cdv) e) (fun _ s'' => R (.error e) s'') (fun e' s'' => R (.error e') s'') s')
        { s with heap := h₁, toks := s.toks + binds.length })
    (hco : scope.isCoroutine = false) (hgen : scope.isGenerator = false) (hk : scope.kind = .function)
    (hcell : ∀ x ∈ scope.names, x.2 ≠ .cell) : codeAny (model prog w) A (.call (.ref f) args) R s := by
  obtain ⟨FG, BG, st, _⟩ := groundX (R := R) B F N hA hf hke
  have nL₀ : h₀.get? L = none := kts_self F
  have fm : [env].filterMap (·.frame) = [L] := by simp [hf]
  obtain ⟨oL, es, ep, hLg, hLd, hLk, hLf⟩ := FG.ns
  refine codeAny_call_def (fd := fnOf name qual params body scope dV kV doc pm an cdv ct) (body := body) (binds := binds) hroom (X₀.keeps F.keep _ _ ho) rfl (T.nolimit.keeps F.keep) (codeRec_of (X₀.keeps F.keep) hcd) rfl hbind hcell hloc (fun h₁ hns hk₁ => ?_) hco hgen hk
  refine wpAny_mono (h _ s.heap.objs.size h₁ FG ⟨hns, fun b o e => hk₁ b o (of_hideAll _ e), Nat.le_of_eq (hideAll_size _ _)⟩
    (fun q hq => ⟨hk₁ _ _ (N q hq).1, Nat.ne_of_lt (Heap.lt_size (N q hq).1), hideAll_none _ (List.mem_map_of_mem hq)⟩) BG (X₀.keeps st) (T.keeps st) ?_) (fun fl s' hl => ?_) fun _ _ y => y
  · rw [fm]
    intro b hb
    rw [List.mem_singleton.mp hb]
    exact ⟨oL, es, ep, hLg, hLd⟩
  · rw [fm] at hl
    obtain ⟨g', L', m', news', T', F', N', k⟩ := hl
    obtain ⟨sl, hs⟩ := T'.up hLg
    have keepg : ∀ b o, h₀.get? b = some o → g'.get? b = some o := fun b o e => T'.other b o (st b o e) (fun q => by
      rw [List.mem_singleton.mp q, nL₀] at e
      cases e)
    refine k ⟨⟨_, es, ep, F'.keep _ _ hs, hLd, hLk, hLf⟩, fun b o e => F'.keep b o (keepg b o e), F.above⟩ fun q hq => ⟨(N' q hq).1, fun e => ?_, ?_⟩
    · have := (N' q hq).2.2
      rw [e, hs] at this
      cases this
    · cases e : h₀.get? q.1 with
      | none => rfl
      | some o =>
        have := (N' q hq).2.2
        rw [keepg _ _ e] at this
        cases this
end
set_option maxHeartbeats 4000000 in
theorem c_read {prog : Program} {w : World} {p : Program} {loose : List Str} {mean : ExcName → Option Value} {mg mb : Str → Option Value} {dp un : Nat} {gd : Option (List Code)} {s : Shared} {Q E : Value → Shared → Prop} {h₀ : Heap} {L : Addr} {m : Str → Option Value} {news : List (Addr × Obj)} {A₀ : Around} {ev : Env} (r : Addr) (rvs : List Value) (k : Nat) (ws : List (List Nat)) (os : List Nat)
   (B : Below A₀ h₀ [] h₀) (F : Fr h₀ L s.heap m) (N : News h₀ L s.heap news) (X : (hdP.heap_39 w.params).In h₀) (T : Top p loose mean mg mb h₀) (hf : ev.frame = some L) (hke : ev.scope.kind = .function)
   (hd : dp + 10 < recursionLimit) (hu : un + 100 < cLine) (hr : (r, listOf rvs.toArray k) ∈ news) (hvs : IntsAre rvs (os.map Int.ofNat)) (hos : os = packF [] ws) (hW : ∀ x ∈ ws, isW x) (hlen : ws.length ≤ 100)
   (hret : ∀ pk k2 tups h' tk, TupsAre tups (packD [] ws) → Fr h₀ L h' m → News h₀ L h' ((pk, listOf (tups.map (fun p => Value.ref p.1)).toArray k2) :: (tups ++ news)) → (∀ p ∈ tups ++ news, p.1 ≠ pk) → Q (.ref pk) {s with heap := h', toks := tk}) : wpAny (model prog w) (ar dp un (some [ev]) gd) (call (.ref 97) [.ref r]) Q E s := by
  refine wpAny_call ?_
  k_dflt (refine' code_defG B F X N T ?hA hf hke ?ho ?hcd ?hroom ?hb ?hloc ?_ ?k2 ?k3 ?k4 ?k5; (case hA => exact rfl); (case ho => k_is); (case hcd => k_is); (case hroom => ktr_room); (case hb => first | exact BindsTo.of_eq rfl | exact kp_binds (by assumption) (fun _ => rfl)); (case hloc => exact locs rfl); (case k2 => exact rfl); (case k3 => exact rfl); (case k4 => exact rfl); (case k5 => decide))
  intro G L' h₁ FG F' N' B' X' T' D'
  have hl' : h₁.IsList r rvs.toArray := News.isList N' hr
  walk_at "my go"
  (rename Fr G _ _ _ => F9); (rename News G _ _ _ => N9); (rename IsLI _ _ _ => hi9); (rename (r ≠ _) => hrI); (rename ((_ : Addr) < _ ∧ AllLt _ news) => l19); (rename (∀ p ∈ news, p.1 ≠ _) => hne9)
  rename_i it _ oI _ _ pk _ _
  refine' while_mine (σ := Nat × Obj × List (Addr × Obj) × Nat × List (Nat × List Nat)) (fun c => [(Str.ofString "stream", .ref it), (Str.ofString "packed", .ref pk)]) (fun c => (pk, listOf (c.2.2.1.map (fun p => Value.ref p.1)).toArray c.2.2.2.1) :: (it, c.2.1) :: (c.2.2.1 ++ news)) (fun c => c.1 ≤ os.length ∧ IsLI c.2.1 r c.1 ∧ TupsAre c.2.2.1 c.2.2.2.2 ∧ (∀ p ∈ c.2.2.1, p.1 ≠ it ∧ p.1 ≠ pk) ∧ ∃ ah rem, os.drop c.1 = packF ah rem ∧ c.2.2.2.2 ++ packD ah rem = packD [] ws ∧ ∀ x ∈ rem, isW x) (fun c => os.length - c.1) (0, _, [], 0, []) F9 N9 ?w1 ?w2 ?w3
  case w1 => kst_all
  case w2 => exact ⟨Nat.zero_le _, hi9, .nil, fun _ h => (nomatch h), [], ws, by simpa using hos, rfl, hW⟩
  have hosb : ∀ c ∈ os, c < 128 := by rw [hos]; exact packF_lt _ _
  have hlp := ltN (a := it) (b := pk) l19.1
  have hpk9 : ∀ p ∈ news, p.1 ≠ pk := fun p hp => Nat.ne_of_lt (allLt_mem l19.2 p hp)
  case w3 =>
    clear F9 N9 hi9
    rintro ⟨j, io, tups, k2, ds⟩ u h tk ⟨h1, h2, h3, ha, ah, rem, h4, h5, h6⟩ F2 N2
    dsimp only at F2 N2 h1 h2 h3 h4 h5 ⊢
    have htl : tups.length ≤ 100 := by
      have e := congrArg List.length h5
      rw [List.length_append, packD_len, packD_len, ← h3.len] at e
      omega
    have hAit : ∀ p ∈ tups ++ news, p.1 ≠ it := fun p hp => (List.mem_append.mp hp).elim (fun q => (ha p q).1) (hne9 p)
    have hApk : ∀ p ∈ tups ++ news, p.1 ≠ pk := fun p hp => (List.mem_append.mp hp).elim (fun q => (ha p q).2) (hpk9 p)
    cases rem with
    | nil =>
      have hx : rvs[j]? = none := by
        rw [List.getElem?_eq_none_iff, hvs.length, List.length_map]
        rw [packF, List.drop_eq_nil_iff] at h4
        exact h4
      walk_at "my go"
      (rename Fr h₀ L _ m => F9); (rename News h₀ L _ _ => N9)
      rw [packD, List.append_nil] at h5
      exact hret pk k2 tups _ _ (h5 ▸ h3) F9 (fun p hp => N9 p (by rcases List.mem_cons.mp hp with rfl | hp; exact .head _; exact .tail _ (.tail _ hp))) hApk
    | cons w9 rem =>
      have hw9 := h6 w9 (.head _)
      have hw1 := hw9.1
      have hcl : cp w9 ah ≤ 4 := Nat.le_trans (cp_le _ _) hw1
      have hdW := isW_drop hw9 (cp w9 ah)
      have hv1 : cp w9 ah < 64 ^ 8 := by omega
      have hv2 := code_small hdW
      rw [packF, List.append_assoc] at h4
      have hp1 : vparse 0 (os.drop j) = some (cp w9 ah, octs (codeF (w9.drop (cp w9 ah))) ++ packF w9 rem) := by rw [h4]; exact vparse_octs _ _
      rw [packD] at h5
      generalize hcpe : cp w9 ah = sh at *
      generalize hdre : w9.drop sh = dr at *
      have hdc : ∀ x ∈ dr, 0 < x ∧ x < 128 := fun x hx => by
        have := hdW.2 x hx
        simp [sg] at this
        omega
      have hd4 := hdW.1
      walk_at "my go"
      (rename Fr G _ _ _ => F9); (rename News G _ _ _ => N9); (rename IsLI _ _ _ => hi9); (rename (os.drop _ = packF w9 rem) => hdr9); (rename ((_ : Nat) ≤ os.length) => hj9)
      obtain ⟨o9, ho9⟩ : ∃ o9 : Obj, ∃ j9 : Nat, IsLI o9 r j9 ∧ os.drop j9 = packF w9 rem ∧ j9 ≤ os.length ∧ News G L' _ ((pk, listOf (tups.map (fun p => Value.ref p.1)).toArray k2) :: (it, o9) :: (tups ++ news)) := ⟨_, _, hi9, hdr9, hj9, N9⟩
      clear hi9 hdr9 hj9 N9
      obtain ⟨j9, hi9, hdr9, hj9, N9⟩ := ho9
      refine' while_join (σ := Nat × List Nat × Tok × Tok × Tok) (fun c => [(Str.ofString "stream", .ref it), (Str.ofString "packed", .ref pk), (Str.ofString "shared", .int (sh : Nat) c.2.2.2.2), (Str.ofString "code", .int (c.1 : Nat) c.2.2.1), (Str.ofString "rest", .str (S c.2.1) c.2.2.2.1)]) (fun c => (pk, listOf (tups.map (fun p => Value.ref p.1)).toArray k2) :: (it, o9) :: (tups ++ news)) (fun c => ∃ pre, c.1 = codeF pre ∧ pre ++ c.2.1 = dr ∧ ∀ x ∈ pre, 0 < x ∧ x < 128) (fun c => c.2.1 = dr) (fun c => c.1) (codeF dr, [], _, _, _) F9 N9 ?v1 ?v2 ?v3 ?v4
      case v1 => kst_all
      case v2 => exact ⟨dr, rfl, by simp, hdc⟩
      case v3 =>
        clear F9 N9
        rintro ⟨code, rst, t1, t2, t3⟩ u h tk ⟨pre, g1, g2, g3⟩ F2 N2
        dsimp only at F2 N2 g1 g2 ⊢
        have hrl : rst.length ≤ 4 := by
          have := congrArg List.length g2
          rw [List.length_append] at this
          omega
        walk_at "my go"
        · rename ((0 : Int) < _) => hpos
          (rename Fr G _ _ _ => F9); (rename News G _ _ _ => N9)
          simp only [fd128, S_append] at F9
          obtain ⟨pre', c, rfl⟩ : ∃ pre' c, pre = pre' ++ [c] := by
            rcases List.eq_nil_or_concat pre with rfl | ⟨a, b, rfl⟩
            · rw [g1] at hpos; exact absurd hpos (by decide)
            · exact ⟨a, b, by simp⟩
          have hc := g3 c (by simp)
          rw [codeF_snoc] at g1
          have e1 : code % 128 = c := by omega
          have e2 : code / 128 = codeF pre' := by omega
          refine' FEnd.intro (code / 128, [code % 128] ++ rst, _, _, _) F9 N9 ?b1 ?b2 ?b3
          case b1 => intro p hp; simpa using hp
          case b2 => kst_all
          case b3 =>
            refine ⟨⟨pre', e2, ?_, fun x hx => g3 x (by simp [hx])⟩, ?_⟩
            · dsimp only; rw [e1, ← g2]; simp
            · dsimp only; omega
        · rename (¬ (0 : Int) < _) => hpos
          refine' FEnd.intro (code, rst, _, _, _) F2 N2 ?b1 ?b2 ?b3
          case b1 => intro p hp; simpa using hp
          case b2 => kst_all
          case b3 =>
            rcases List.eq_nil_or_concat pre with rfl | ⟨a, b, rfl⟩
            · simpa using g2
            · rw [List.concat_eq_append, codeF_snoc] at g1
              have := g3 b (by simp)
              omega
      case v4 =>
        clear F9 N9
        rintro ⟨code, rst, t1, t2, t3⟩ u h tk g1 F2 N2
        dsimp only at F2 N2 g1 ⊢
        subst g1
        walk_at "my go"
        (rename Fr G _ _ _ => F9); (rename News G _ _ _ => N9); (rename (pk < _ ∧ _) => l18)
        obtain ⟨D9, hD9⟩ : ∃ D9 : Addr, (pk < D9 ∧ it < D9 ∧ AllLt D9 (tups ++ news)) ∧ News G L' _ ((D9, { cls := .type "tuple", data := .seq #[.int (sh : Nat) t3, .str (S rst) t2] }) :: (pk, listOf ((tups.map (fun p => Value.ref p.1)).toArray.push (.ref D9)) (k2 + 1)) :: (it, o9) :: (tups ++ news)) := ⟨_, l18, N9⟩
        clear l18 N9
        obtain ⟨l18, N9⟩ := hD9
        have hDpk := ltN (a := pk) (b := D9) l18.1
        have hDit := ltN (a := it) (b := D9) l18.2.1
        have N8 := news_sub (l := (pk, listOf ((tups ++ [(D9, ({ cls := .type "tuple", data := .seq #[.int (sh : Nat) t3, .str (S rst) t2] } : Obj))]).map (fun p => Value.ref p.1)).toArray (k2 + 1)) :: (it, o9) :: ((tups ++ [(D9, ({ cls := .type "tuple", data := .seq #[.int (sh : Nat) t3, .str (S rst) t2] } : Obj))]) ++ news)) N9 (fun p hp => by
          simp only [List.mem_cons, List.mem_append, List.map_append, List.map_cons, List.map_nil, List.not_mem_nil, or_false] at hp ⊢
          rcases hp with rfl | rfl | (hp | rfl) | hp
          · refine .inr (.inl ?_)
            simp
          · exact .inr (.inr (.inl rfl))
          · exact .inr (.inr (.inr (.inl hp)))
          · exact .inl rfl
          · exact .inr (.inr (.inr (.inr hp))))
        refine' FEnd.intro (j9, o9, tups ++ [(D9, _)], k2 + 1, ds ++ [(sh, rst)]) F9 N8 ?b1 ?b2 ?b3
        case b1 => intro p hp; simpa using hp
        case b2 => kst_all
        case b3 =>
          refine ⟨⟨hj9, hi9, .snoc _ _ _ _ _ _ 0 h3 rfl rfl, fun p hp => ?_, w9, rem, hdr9, by simpa using h5, fun x hx => h6 x (.tail _ hx)⟩, ?_⟩
          · rcases List.mem_append.mp hp with hp | hp
            · exact ha p hp
            · rw [List.mem_singleton.mp hp]
              exact ⟨Nat.ne_of_gt hDit, Nat.ne_of_gt hDpk⟩
          · have e1 := congrArg List.length h4
            have e2 := congrArg List.length hdr9
            have e3 := octs_ne sh
            simp only [List.length_drop, List.length_append] at e1 e2
            dsimp only
            omega
end

-- c_near
theorem kw26 : True := by
  k_with_none
  (k_with "m exec While Compare cons nil" => ((with_reducible show wpAny _ _ (exec (Stmt.While _ _ _ _) _) _ _ _); refine hold ?_))
  (k_with "m exec While BoolOp cons nil" => ((with_reducible show wpAny _ _ (exec (Stmt.While _ _ _ _) _) _ _ _); refine hold ?_))
  (k_with "m exec While BinOp cons nil" => ((with_reducible show wpAny _ _ (exec (Stmt.While _ _ _ _) _) _ _ _); refine hold ?_))
  (k_with "m my enter" => k_dflt (refine' enter ?r8k1 ?r8k2 ?r8k6 ?r8k7 ?r8k8 ?r8k9 ?r8kB ?_ ?r8c2 ?r8c3 ?r8c4 ?r8c5; (case r8k1 => k_asm); (case r8k2 => k_asm); (case r8k6 => k_is); (case r8k7 => k_is); (case r8k8 => ktr_room); (case r8k9 => first | exact BindsTo.of_eq rfl | exact kp_binds (by assumption) (fun _ => rfl)); (case r8c5 => decide); (case r8kB => exact locs rfl); (case r8c2 => exact rfl); (case r8c3 => exact rfl); (case r8c4 => exact rfl)))
  (k_with "m my go" => ((try k_fold); (repeat' (first | (k_unfold; (try dsimp only)) | walk1 | (dsimp only; first | k_unfold | walk1))); (all_goals (try dsimp only))))
  (k_with "m my size" => first | omega | (simp only [len_S, len_toArr, List.length_map, List.size_toArray, Str.length_append, PySem.Str.length_append, sizeLine_eq, List.length_append, List.length_cons, List.length_nil] at *; omega) | (simp only [len_S, Str.length_append, sizeLine_eq] at *; size_fits))
  (k_with "m binaryOp Add str str" => ((with_reducible show wpAny _ _ (binaryOp Operator.Add (Value.str _ _) (Value.str _ _)) _ _ _); (refine' PyProof.Rows.add_str ?_ ?r11hsz); (case r11hsz => walk_at "my size"); intro _ _))
  (k_with "m call builtin:list.insert" => (k_here; (with_reducible show wpAny _ _ (call (Value.builtin _) [Value.ref _, Value.int _ _, _]) _ _ _); k_dflt (refine' kl_insert ?r12F ?r12N ?r12f ?r12e ?r12U ?r12z ?_; (case r12F => k_asm); (case r12N => k_asm); (case r12U => k_upd); (case r12e => exact rfl); (case r12f => walk_at "my fit"); (case r12z => walk_at "my size")); intro _ _ _; (try k_sweep)))
  (k_with "m my fit" => first | with_reducible exact fits0 | exact fits_nat (by omega) | exact fits_nat (by walk_at "my size"))
  (k_with "m my mem" => ((try dsimp only [List.cons_append, List.nil_append, List.append_nil]); kst_allIn))
  (k_with "m my list" => first | (with_reducible assumption) | assumption | exact Fr.lst (by k_asm) (by assumption) | exact News.isList (by k_asm) (by k_mem))
  (k_with "m call builtin:len" => ((with_reducible show wpAny _ _ (call (Value.builtin "len") [Value.ref _]) _ _ _); (refine' len_at ?r16k1 ?r16k2 ?_; (case r16k1 => walk_at "my list"); (case r16k2 => walk_at "my size")); intro _ _))
  (k_with "m my idx" => first | exact fdm2 _ _ | exact rfl | exact (Int.natCast_add _ _).symm)
  (k_with "m my item" => ((with_reducible show wpAny _ _ (subscriptTail _ _ (Value.ref _) (Value.int _ _)) _ _ _); first | ((refine' item_strs ?r18k1 ?r18k2 ?r18k3 ?r18k4 ?r18k5 ?_; (case r18k1 => walk_at "my list"); (case r18k2 => with_reducible assumption); (case r18k3 => walk_at "my idx"); (case r18k4 => walk_at "my size"); (case r18k5 => walk_at "my size")); intro _) | ((refine' item_ints ?r18k1 ?r18k2 ?r18k3 ?r18k4 ?r18k5 ?_; (case r18k1 => walk_at "my list"); (case r18k2 => with_reducible assumption); (case r18k3 => walk_at "my idx"); (case r18k4 => walk_at "my size"); (case r18k5 => walk_at "my size")); intro _)))
  (k_with "m setItem ref int" => ((with_reducible show wpAny _ _ (setItem (Value.ref _) (Value.int _ _) _) _ _ _); k_dflt (refine' set_atL ?r19F ?r19N ?r19z ?r19i ?r19b ?r19U ?_; (case r19F => k_asm); (case r19N => k_asm); (case r19U => k_upd); (case r19z => walk_at "my idx"); (case r19i => walk_at "my size"); (case r19b => walk_at "my size")); intro _ _ _; (try k_sweep)))
  (k_with "m subscriptTail Name Name ref int" => k_dflt (walk_at "my item"))
  (k_with "m my nat" => first | with_reducible exact natAdd1 _ | with_reducible exact natAdd2 _ | with_reducible exact (Int.natCast_add _ _).symm | with_reducible exact rfl)
  (k_with "m call builtin:min" => ((with_reducible show wpAny _ _ (call (Value.builtin _) [Value.int _ _, Value.int _ _]) _ _ _); k_dflt (refine' min_nat ?r22x ?r22y ?r22hh ?r22F ?r22N ?_; (case r22F => k_asm); (case r22N => k_asm); (case r22hh => with_unfolding_all rfl); (case r22x => walk_at "my nat"); (case r22y => walk_at "my nat")); intro _ _ _ _ _; (try k_sweep)))
  (k_with "m exec For Name Name cons nil" => ((with_reducible show wpAny _ _ (exec (Stmt.For _ _ _ _ _) _) _ _ _); k_dflt (refine for_mine ?_)))
  (k_with "m exec For Name Call cons nil" => ((with_reducible show wpAny _ _ (exec (Stmt.For _ _ _ _ _) _) _ _ _); k_dflt (refine for_mine ?_)))
  (k_with "m exec For Name Subscript cons nil" => ((with_reducible show wpAny _ _ (exec (Stmt.For _ _ _ _ _) _) _ _ _); k_dflt (refine for_mine ?_)))
  (k_with "m exec For Tuple Name cons nil" => ((with_reducible show wpAny _ _ (exec (Stmt.For _ _ _ _ _) _) _ _ _); k_dflt (refine for_mine ?_)))
  (k_with "m truthy str" => ((refine' truthy_S ?r23k1 ?_; (case r23k1 => first | omega | (simp only [List.length_drop, List.length_take]; omega) | walk_at "my size")); intro _))
  (k_with "m call builtin:len" => ((with_reducible show wpAny _ _ (call (Value.builtin "len") [Value.str _ _]) _ _ _); (refine' len_strS ?r24k1 ?_; (case r24k1 => walk_at "my size")); intro _ _))
  (k_with "m my isw" => first | assumption | (refine isW_drop ?_ _; walk_at "my isw") | (refine isW_take ?_ _; walk_at "my isw"))
  (k_with "m my small" => first | omega | (simp only [List.length_drop, List.length_take]; omega) | exact drop_ne (by assumption) | exact take_ne (by assumption) | exact emp_ne (by assumption) | exact emp_k (by assumption) (by omega) | (have := drop_ne (by assumption); omega) | (have := take_ne (by assumption); omega) | (have := emp_ne (by assumption); omega))
  (k_with "m my slice" => ((with_reducible rename Fr _ _ _ _ => F'); (with_reducible rename News _ _ _ _ => N'); first | ((with_reducible show wpAny _ _ (subscriptTail _ (Expr.Slice (some _) none none _) _ _) _ _ _); (refine' sl_from (s := ⟨_, _, _, _, _⟩) ?r27z ?r27k1 ?r27k2 F' N' ?_; (case r27z => walk_at "my nat"); (case r27k1 => walk_at "my isw"); (case r27k2 => walk_at "my small")); clear F' N'; intro _ _ _ _ _) | ((with_reducible show wpAny _ _ (subscriptTail _ (Expr.Slice none (some _) none _) _ _) _ _ _); (refine' sl_nn (s := ⟨_, _, _, _, _⟩) ?r27k1 F' N' ?_; (case r27k1 => walk_at "my isw")); clear F' N'; intro _ _ _ _ _) | ((with_reducible show wpAny _ _ (subscriptTail _ (Expr.Slice none (some _) none _) _ _) _ _ _); (refine' sl_neg (s := ⟨_, _, _, _, _⟩) ?r27k1 ?r27k2 ?r27k3 F' N' ?_; (case r27k1 => walk_at "my isw"); (case r27k2 => omega); (case r27k3 => walk_at "my small")); clear F' N'; intro _ _ _ _ _) | ((with_reducible show wpAny _ _ (subscriptTail _ (Expr.Slice none (some _) none _) _ _) _ _ _); (refine' sl_to (s := ⟨_, _, _, _, _⟩) ?r27z ?r27k1 ?r27k2 F' N' ?_; (case r27z => walk_at "my nat"); (case r27k1 => walk_at "my isw"); (case r27k2 => walk_at "my small")); clear F' N'; intro _ _ _ _ _)))
  (k_with "m subscriptTail Name Slice str ref" => walk_at "my slice")
  (k_with "m my sitem" => ((with_reducible show wpAny _ _ (subscriptTail _ _ (Value.str (S _) _) (Value.int _ _)) _ _ _); first | ((refine' it_neg ?r29z ?r29k1 ?r29k2 ?r29k3 ?_; (case r29z => exact negsub _); (case r29k1 => walk_at "my small"); (case r29k2 => omega); (case r29k3 => walk_at "my small")); intro _ _) | ((refine' it_pos ?r29z ?r29k1 ?r29k2 ?_; (case r29z => walk_at "my nat"); (case r29k1 => walk_at "my small"); (case r29k2 => walk_at "my small")); intro _ _)))
  (k_with "m subscriptTail Name Name str int" => walk_at "my sitem")
  (k_with "m subscriptTail Name BinOp str int" => walk_at "my sitem")
  exact True.intro
section
theorem kw27 : True := by
  (k_with "m my rsm" => first | exact rg1_small (by omega) | (simp only [natAdd1]; exact rg1_small (by omega)) | decide | rfl)
  (k_with "m my rsz" => first | exact rg1_size _ | (simp only [natAdd1]; exact rg1_size _) | rfl | decide)
  (k_with "m eval ListComp" => (lcg_look; k_dflt (refine LCg.ListComp_U (F₀ := by k_asm) (by rfl) (by decide) (by rfl) (by decide) (by rfl) ?_); k_dflt lcg_toSrc))
  (k_with "m CompSrc" => (k_dflt (first | (refine LCg.CompSrc.range (by rfl) (by k_asm) (by k_asm) (by assumption) (by walk_at "my rsm") (by walk_at "my rsz") (by walk_at "my size") ?_; intro _; refine hold ?_))))
  exact True.intro
inductive RowsAre : List (Addr × Obj) → List (List Nat) → Prop
  | nil : RowsAre [] []
  | snoc {ts ds} (a : Addr) (vs : List Value) (n : Nat) (l : List Nat) (h : RowsAre ts ds) (hv : IntsAre vs (l.map Int.ofNat)) : RowsAre (ts ++ [(a, listOf vs.toArray n)]) (ds ++ [l])
theorem RowsAre.cls {ts : List (Addr × Obj)} {ds : List (List Nat)} (h : RowsAre ts ds) : ∀ p ∈ ts, p.2.cls = .type "list" := by
  induction h with
  | nil => intro p hp; cases hp
  | snoc a vs n l h hv ih =>
    intro p hp
    simp only [List.mem_append, List.mem_singleton] at hp
    rcases hp with hp | rfl
    · exact ih p hp
    · rfl
theorem RowsAre.len {ts : List (Addr × Obj)} {ds : List (List Nat)} (h : RowsAre ts ds) : ts.length = ds.length := by
  induction h with
  | nil => rfl
  | snoc _ _ _ _ _ _ ih => simp [ih]
theorem kw28 : True := by
  (k_with "m my item" => ((with_reducible show wpAny _ _ (subscriptTail _ _ (Value.ref _) (Value.int _ _)) _ _ _); (refine' item_at ?r104k1 ?r104k2 ?r104k3 ?r104k4 ?_; (case r104k1 => walk_at "my list"); (case r104k2 => walk_at "my idx"); (case r104k4 => with_reducible assumption); (case r104k3 => walk_at "my size"))))
  exact True.intro
local macro_rules | `(tactic| k_all) => `(tactic| with_reducible assumption)
theorem kw29 : True := by
  (k_with "m my last" => ((refine' item_neg1 ?r105k1 ?r105k2 ?_; (case r105k1 => walk_at "my list"); (case r105k2 => exact last_snoc _ _))))
  (k_with "m subscriptTail Name UnaryOp ref int" => ((with_reducible show wpAny _ _ (subscriptTail _ _ (Value.ref _) (Value.int (-1) _)) _ _ _); k_dflt (walk_at "my last")))
  (k_with "m subscriptTail Subscript UnaryOp ref int" => ((with_reducible show wpAny _ _ (subscriptTail _ _ (Value.ref _) (Value.int (-1) _)) _ _ _); k_dflt (walk_at "my last")))
  (k_with "m call builtin:min" => ((with_reducible show wpAny _ _ (call (Value.builtin _) [Value.ref _]) _ _ _); k_dflt (refine' min_row ?r108hh ?r108F ?r108N ?r108l ?r108i ?r108ne ?_; (case r108hh => with_unfolding_all rfl); (case r108F => k_asm); (case r108N => k_asm); (case r108l => walk_at "my list"); (case r108i => with_reducible assumption); (case r108ne => with_reducible assumption)); intro _ _ _ _ _; (try k_sweep)))
  (k_with "m call builtin:min" => ((with_reducible show wpAny _ _ (call (Value.builtin _) [Value.int _ _, Value.int _ _, Value.int _ _]) _ _ _); k_dflt (refine' min_3nat ?r109x ?r109y ?r109z ?r109hh ?r109F ?r109N ?_; (case r109F => k_asm); (case r109N => k_asm); (case r109hh => with_unfolding_all rfl); (case r109x => walk_at "my nat"); (case r109y => walk_at "my nat"); (case r109z => walk_at "my nat")); intro _ _ _ _ _; (try k_sweep)))
  (k_with "m subscriptTail Name Slice ref ref" => ((with_reducible show wpAny _ _ (subscriptTail _ (PySem.Expr.Slice none _ none _) (Value.ref _) (Value.ref _)) _ _ _); k_dflt (refine' slice_to ?r110F ?r110N ?r110l ?r110p ?r110q ?r110y ?r110z ?_ ?r110s ?r110t; (case r110F => k_asm); (case r110N => k_asm); (case r110l => walk_at "my list"); (case r110p => kmk_part); (case r110q => kmk_part); (case r110y => walk_at "my nat"); (case r110s => with_unfolding_all rfl); (case r110t => kmk_pure); (case r110z => walk_at "my size")); intro _ _ _ _ l1; (try k_lt l1); (revert l1; intro _); (try k_sweep)))
  (k_with "m execs cons" => ((with_reducible show wpAny _ _ (execs (Stmt.If (PySem.Expr.BoolOp _ _ _) _ _ _ :: _) _) _ _ _); refine hold ?_))
  (k_with "m execs cons" => ((with_reducible show wpAny _ _ (execs (Stmt.For (PySem.Expr.Name ("sign" : Str) _) _ _ _ _ :: _) _) _ _ _); refine hold ?_))
  (k_with "m execs cons" => ((with_reducible show wpAny _ _ (execs (Stmt.If (PySem.Expr.Compare _ _ _ _) _ (_ :: _) _ :: _) _) _ _ _); refine hold ?_))
  exact True.intro
theorem exec_cut2 {prog : Program} {w : World} {A : Around} {E : Value → Shared → Prop} {s : Shared} {env : Env} {h₀ : Heap} {L : Addr} {Q : Flow → Shared → Prop} {σ : Type} (ps : σ → List (Str × Value)) (Led : σ → List (Addr × Obj)) (X : σ → Prop) {st : Stmt} {rest : List Stmt}
    (h1 : wpAny (model prog w) A (exec st env) (fun f s₂ => (f = .next ∧ FEnd h₀ L ps Led X [] s s₂) ∨ (f ≠ .next ∧ Q f s₂)) E s)
    (h2 : ∀ c u h tk, X c → Fr h₀ L h (kstB u (ps c)) → News h₀ L h (Led c) → wpAny (model prog w) A (execs rest env) Q E { s with heap := h, toks := tk }) :
    wpAny (model prog w) A (execs (st :: rest) env) Q E s := by
  refine wpAny_execs_cons (wpAny_mono h1 (fun f s₂ p => ?_) fun _ _ x => x)
  rcases p with ⟨rfl, c', h', tk', m', nx', rfl, F', N', hn, hm', hX⟩ | ⟨hf, hq⟩
  · exact h2 c' m' h' tk' hX (fr_forget F' hm') fun p hp => N' p (hn p (List.mem_append_left _ hp))
  · cases f with
    | next => exact absurd rfl hf
    | _ => exact hq
theorem RowsAre.take {ts : List (Addr × Obj)} {ds : List (List Nat)} (h : RowsAre ts ds) : ∀ n, RowsAre (ts.take n) (ds.take n) := by
  induction h with
  | nil => intro n; simpa using RowsAre.nil
  | @snoc ts ds a vs k l h hv ih =>
    intro n
    have e := h.len
    by_cases hn : n ≤ ts.length
    · rw [List.take_append_of_le_length hn, List.take_append_of_le_length (by omega)]
      exact ih n
    · rw [List.take_of_length_le (by simp; omega), List.take_of_length_le (by simp; omega)]
      exact .snoc _ _ _ _ h hv
theorem cost_eq {c d : Nat} (h : (S [c] == S [d]) = true) : (costN c d : Int) = 0 := by
  rw [beq_S] at h
  have h : c = d := by simpa using h
  rw [costN, if_pos h]; rfl
theorem cost_any {c d : Nat} : ([Str.ofString "aA", Str.ofString "Aa"].any fun x => x == S [c] ++ S [d]) = decide ((c = 97 ∧ d = 65) ∨ (c = 65 ∧ d = 97)) := by
  rw [S_append, show Str.ofString "aA" = S [97, 65] from rfl, show Str.ofString "Aa" = S [65, 97] from rfl]
  simp only [List.any_cons, List.any_nil, beq_S, Bool.or_false, List.cons_append, List.nil_append, List.cons.injEq, and_true, eq_comm (a := 97), eq_comm (a := 65), Bool.decide_or]
theorem cost_one {c d : Nat} (h : (S [c] == S [d]) = false) (h2 : ([Str.ofString "aA", Str.ofString "Aa"].any fun x => x == S [c] ++ S [d]) = true) : (costN c d : Int) = 1 := by
  rw [beq_S] at h
  rw [cost_any] at h2
  have h : ¬ c = d := by simpa using h
  rw [costN, if_neg h, if_pos (of_decide_eq_true h2)]; rfl
theorem cost_two {c d : Nat} (h : (S [c] == S [d]) = false) (h2 : ([Str.ofString "aA", Str.ofString "Aa"].any fun x => x == S [c] ++ S [d]) = false) : (costN c d : Int) = 2 := by
  rw [beq_S] at h
  rw [cost_any] at h2
  have h : ¬ c = d := by simpa using h
  rw [costN, if_neg h, if_neg (of_decide_eq_false h2)]; rfl
theorem news_cls {h₀ h : Heap} {L : Addr} {nx : List (Addr × Obj)} (N : News h₀ L h nx) {a b : Addr} {o o' : Obj} (hp : (a, o) ∈ nx) (hq : (b, o') ∈ nx) (hc : o.cls ≠ o'.cls) : a ≠ b := by
  rintro rfl
  have e1 := (N _ hp).1
  have e2 := (N _ hq).1
  dsimp only at e1 e2
  rw [e1] at e2
  exact hc (congrArg Obj.cls (Option.some.inj e2))
theorem ints_last {vs : List Value} {l : List Int} {x : Int} (h : IntsAre vs (l ++ [x])) : ∃ vs' t, vs = vs' ++ [.int x t] := by
  induction l generalizing vs with
  | nil => cases h with | cons y t hr => cases hr; exact ⟨[], t, rfl⟩
  | cons a l ih =>
    cases h with
    | cons y t hr =>
      obtain ⟨vs', t', rfl⟩ := ih hr
      exact ⟨_ :: vs', t', rfl⟩
theorem snoc_of {α : Type} {l : List α} (h : l ≠ []) : ∃ l' x, l = l' ++ [x] := ⟨l.dropLast, l.getLast h, (List.dropLast_concat_getLast h).symm⟩
theorem lineF_len (c : Nat) (t above : List Nat) : ∀ k, (lineF c t above k).length = k + 1
  | 0 => rfl
  | k + 1 => by rw [lineF, List.length_append, lineF_len c t above k]; rfl
def nrD (nr : List (Nat × Nat)) : List (PyData × PyData) := nr.map fun p => (PyData.int (p.1 : Nat), PyData.int (p.2 : Nat))
theorem nrD_put {nr : List (Nat × Nat)} {i v : Nat} (h : ∀ p ∈ nr, p.1 < i) : PyProof.V.putD (PyData.int (i : Nat)) (PyData.int (v : Nat)) (nrD nr) = nrD (nr ++ [(i, v)]) := by
  unfold PyProof.V.putD
  rw [if_neg]
  · simp [nrD]
  · intro e
    obtain ⟨q, hq, e⟩ := List.any_eq_true.mp e
    obtain ⟨p, hp, rfl⟩ := List.mem_map.mp hq
    have e : ((p.1 : Int) == (i : Int)) = true := e
    have := h p hp
    have e := eq_of_beq e
    omega
theorem kw30 : True := by
  (k_with "m setItem ref int" => (k_here; k_dflt (refine' setItem_K PyProof.V.same_int (intKind_is _ _ _ _) ?r114v ?r114F ?r114N ?r114U ?r114d ?r114f ?_ ?r114z; (case r114F => k_asm); (case r114N => k_asm); (case r114U => k_updF); (case r114d => k_asm); (case r114f => k_asm); (case r114z => with_reducible assumption); (case r114v => exact PyProof.V.Flat.int _ _)); intro _ _ _ N' hd'8 hf'8; (try dsimp only at N'); (revert N' hd'8 hf'8; intro _ _ _); (try k_sweep)))
  exact True.intro
def TupsIn (h : Heap) (vs : List Value) (ds : List (Nat × List Nat)) : Prop := vs.length = ds.length ∧ ∀ (i : Nat) d, ds[i]? = some d → ∃ a t t', vs[i]? = some (.ref a) ∧ IsTup h a #[.int (d.1 : Nat) t, .str (S d.2) t']
theorem kw31 : True := by
  (k_with "m subscriptTail Name BinOp ref int" => k_dflt (walk_at "my item"))
  exact True.intro
set_option maxHeartbeats 4000000 in
theorem c_near {prog : Program} {w : World} {p : Program} {loose : List Str} {mean : ExcName → Option Value} {mg mb : Str → Option Value} {dp un : Nat} {fr : Option (List Env)} {gd : Option (List Code)} {s : Shared} {Q E : Value → Shared → Prop} {h₀ : Heap} {L : Addr} {m : Str → Option Value} {news : List (Addr × Obj)} (r : Addr) (rvs : List Value) (ds : List (Nat × List Nat)) (t : List Nat) (tt : Tok) (reach : Nat) (tr : Tok)
   (F : Fr h₀ L s.heap m) (N : News h₀ L s.heap news) (X : (hdP.heap_39 w.params).In h₀) (T : Top p loose mean mg mb h₀) (hd : dp + 10 < recursionLimit) (hu : un + 100 < cLine) (hr : s.heap.IsList r rvs.toArray) (hrv : TupsIn s.heap rvs ds) (hlen : ds.length ≤ 100) (hds : ∀ d ∈ ds, d.1 + d.2.length ≤ 4 ∧ isW d.2) (hW : isW t)
   (hret : ∀ nd o kvs h' tk', Fr h₀ L h' m → News h₀ L h' ((nd, o) :: news) → (∀ p ∈ news, p.1 ≠ nd) → Obj.IsDictOf (intKind prog w) o kvs → PyProof.V.FlatPairs PyData.int kvs (nrD (nearRun reach t ds 0 [(List.range (t.length + 1)).map (fun k => 2 * k)] []).2) → (nd == sysModules) = false → Q (.ref nd) {s with heap := h', toks := tk'}) : wpAny (model prog w) (ar dp un fr gd) (call (.ref 102) [.ref r, .str (S t) tt, .int (reach : Nat) tr]) Q E s := by
  have X' := X.keeps F.keep
  have T' := T.keeps F.keep
  have htl := hW.1
  have hrl := hrv.1
  refine wpAny_call ?_
  walk_at "my enter"
  intro L' h₁ F' N'
  walk_at "my go"
  refine compRest_ind (fun i ys => IntsAre ys (((List.range i).map (fun k => 2 * k)).map Int.ofNat)) _ ?cstep ?cfin _ 0 [] (Nat.zero_add _) .nil
  case cstep =>
    intro i ys v I oI C oC D m₂ h tk E' hi hJ hP hC hx F2 N2 off ne
    obtain ⟨t0, rfl⟩ := hP
    walk_at "my go"
    rw [List.range_succ, List.map_append, List.map_append]
    refine ints_append hJ ?_
    have e : (2 : Int) * (0 + (i : Int)) = Int.ofNat (2 * i) := by simp
    rw [e]
    exact .cons _ _ .nil
  case cfin =>
    intro ys hJ
    walk_at "my go"
    rename_i D9 _ _ _ ta0 _ l1a _ nd _ o0 lo0 hs0 fs0 hi0 fi0 l1b _ _ _ _ _ _ _ _ _ _ hrng F9 N9 _
    have hn1 := ltN (a := ta0) (b := nd) l1b.1
    have hn2 := ltN (a := D9) (b := nd) l1b.2
    have hn3 := ltN (a := D9) (b := ta0) l1a
    have N8 := news_sub (l := (ta0, listOf ([(D9, listOf ys.toArray ys.length)].map (fun p : Addr × Obj => Value.ref p.1)).toArray 0) :: (nd, o0) :: [(D9, listOf ys.toArray ys.length)]) N9 (by
      intro p hp
      simp only [List.mem_cons, List.not_mem_nil, or_false] at hp ⊢
      rcases hp with rfl | rfl | rfl
      · exact .inr (.inl rfl)
      · exact .inl rfl
      · exact .inr (.inr rfl))
    refine' for_rangeP (σ := Addr × Nat × List (List Nat) × List (Addr × Obj) × Obj × List (Int × Value) × List (Nat × Nat))
      (fun c => [(Str.ofString "packed", .ref r), (Str.ofString "sought", .str (S t) tt), (Str.ofString "reach", .int (reach : Nat) tr), (Str.ofString "table", .ref c.1), (Str.ofString "near", .ref nd)])
      (fun c => (c.1, listOf (c.2.2.2.1.map (fun p : Addr × Obj => Value.ref p.1)).toArray c.2.1) :: (nd, c.2.2.2.2.1) :: c.2.2.2.1)
      (fun i c => RowsAre c.2.2.2.1 c.2.2.1 ∧ c.2.2.1.length ≤ 5 ∧ 1 ≤ c.2.2.1.length ∧ (∀ row ∈ c.2.2.1, row.length = t.length + 1) ∧ (∀ p ∈ c.2.2.2.1, p.1 ≠ c.1 ∧ p.1 ≠ nd) ∧ c.1 ≠ nd ∧ Obj.IsDictOf (intKind prog w) c.2.2.2.2.1 c.2.2.2.2.2.1 ∧ PyProof.V.FlatPairs PyData.int c.2.2.2.2.2.1 (nrD c.2.2.2.2.2.2) ∧ (∀ p ∈ c.2.2.2.2.2.2, p.1 < i) ∧ c.2.2.2.2.2.2.length ≤ i ∧ nearRun reach t (ds.drop i) i c.2.2.1 c.2.2.2.2.2.2 = nearRun reach t ds 0 [(List.range (t.length + 1)).map (fun k => 2 * k)] [])
      (ta0, 0, [(List.range (t.length + 1)).map (fun k => 2 * k)], [(D9, listOf ys.toArray ys.length)], o0, [], []) rfl hrng (rg1_small (by omega)) (rg1_size _) F9 N8 ?a1 ?a2 ?hcls ⟨_, _, rfl⟩ ?turn ?done
    case a1 => kst_all
    case a2 =>
      refine ⟨.snoc _ _ _ _ .nil hJ, by simp, by simp, ?_, ?_, Nat.ne_of_lt hn1, hi0, fi0, ?_, Nat.le_refl _, rfl⟩
      · intro row hrow
        rw [List.mem_singleton.mp hrow]; simp
      · intro p hp
        rw [List.mem_singleton.mp hp]
        exact ⟨Nat.ne_of_lt hn3, Nat.ne_of_lt hn2⟩
      · intro p hp; cases hp
    case hcls =>
      rintro i c hP p hp
      rcases List.mem_cons.mp hp with rfl | hp
      · exact .inl (by dsimp only; decide)
      rcases List.mem_cons.mp hp with rfl | hp
      · exact .inr (by simp)
      · exact .inl (by rw [hP.1.cls p hp]; decide)
    case turn =>
      clear F9 N9 N8
      rintro i ti ⟨ta, kt, tb, ros, o, kvs, nr⟩ u h tk I oI hi ⟨r1, r2, r3, r4, r5, r6, r7, r8, r9, r10, r11⟩ hI hoI F2 N2
      dsimp only at F2 N2 r1 r2 r3 r4 r5 r6 r7 r8 r9 r10 r11 ⊢
      have hrt := r1.len
      obtain ⟨tb, row, ros, ra, rvs9, rn, rfl, rfl, q1, q2⟩ : ∃ tb' row ros' ra rvs9 rn, tb = tb' ++ [row] ∧ ros = ros' ++ [(ra, listOf rvs9.toArray rn)] ∧ RowsAre ros' tb' ∧ IntsAre rvs9 (row.map Int.ofNat) := by
        cases r1 with
        | nil => exact absurd r3 (by decide)
        | snoc a vs n l h hv => exact ⟨_, _, _, _, _, _, rfl, rfl, h, hv⟩
      have hrow : row ≠ [] := by
        have := r4 row (by simp)
        intro e; rw [e] at this; simp at this
      simp only [List.map_append, List.map_cons, List.map_nil] at N2
      have hil : i < ds.length := by omega
      obtain ⟨pa, t1, t2, hpa, hpt⟩ := hrv.2 i ds[i] (by simp [hil])
      rw [List.drop_eq_getElem_cons hil, nearRun] at r11
      obtain ⟨hd4, hdW⟩ := hds ds[i] (List.getElem_mem hil)
      generalize ds[i] = d9 at hpa hpt r11 hd4 hdW
      obtain ⟨sh, rest⟩ := d9
      dsimp only at hpt r11 hd4 hdW
      simp only [Int.zero_add]
      have N2 := news_sub (l := (ta, listOf (ros.map (fun p : Addr × Obj => Value.ref p.1) ++ [Value.ref ra]).toArray kt) :: (nd, o) :: (I, oI) :: (ra, listOf rvs9.toArray rn) :: ros) N2 (by intro p hp; simp only [List.mem_cons, List.mem_append, List.not_mem_nil, or_false, List.cons_append] at hp ⊢; rcases hp with h | h | h | h | h; exact .inl h; exact .inr (.inl h); exact .inr (.inr (.inr h)); exact .inr (.inr (.inl (.inr h))); exact .inr (.inr (.inl (.inl h))))
      have hIta : I ≠ ta := fun e => by
        have e1 := (N2 (I, oI) (.tail _ (.tail _ (.head _)))).1
        have e2 := (N2 (ta, _) (.head _)).1
        dsimp only at e1 e2
        rw [e, e2] at e1
        rw [← Option.some.inj e1] at hoI
        have hoI' : Value.type "list" = Value.type "range_iterator" := hoI
        exact absurd hoI' (by decide)
      have rta : ∀ p ∈ ros, p.1 ≠ ta := fun p hp => (r5 p (List.mem_append_left _ hp)).1
      have rnd : ∀ p ∈ ros, p.1 ≠ nd := fun p hp => (r5 p (List.mem_append_left _ hp)).2
      have rat := neN (a := ra) (b := ta) (r5 (ra, _) (List.mem_append_right _ (.head _))).1
      have rnt := neN (a := ra) (b := nd) (r5 (ra, _) (List.mem_append_right _ (.head _))).2
      have tnd := neN (a := ta) (b := nd) r6
      have rl : ros.length ≤ 5 := by simp only [List.length_append, List.length_singleton] at r2 hrt; omega
      have lnI := ltN (a := nd) (b := I) (hI _ (.tail _ (.head _)))
      have hnz : (nrD nr).length ≤ sizeLine := by rw [sizeLine_eq, nrD, List.length_map]; omega
      clear hI
      walk_at "my go"
      (rename Fr s.heap _ _ _ => F9); (rename News s.heap _ _ _ => N9)
      unfold Hold
      refine exec_cut2 (h₀ := s.heap) (L := L') (σ := Tok × Tok) (fun c => [(Str.ofString "packed", .ref r), (Str.ofString "sought", .str (S t) tt), (Str.ofString "reach", .int (reach : Nat) tr), (Str.ofString "table", .ref ta), (Str.ofString "near", .ref nd), (Str.ofString "place", .int (i : Nat) c.1), (Str.ofString "shared", .int (sh : Nat) t1), (Str.ofString "rest", .str (S rest) c.2)])
        (fun c => (ta, listOf (ros.map (fun p : Addr × Obj => Value.ref p.1) ++ [Value.ref ra]).toArray kt) :: (nd, o) :: (I, oI) :: (ra, listOf rvs9.toArray rn) :: ros) (fun _ => ¬ (reach < minL row ∧ (tb ++ [row]).length - 1 ≤ sh)) ?cut ?after
      case cut =>
        have hq1 := q1.len
        walk_at "my go"
        · (rename Fr s.heap _ _ _ => F9); (rename News s.heap _ _ _ => N9)
          rename ((reach : Int) < (minL row : Int)) => c1
          rename ((_ : Int) - 1 ≤ (sh : Int)) => c2
          simp only [List.length_append, List.length_map, List.length_singleton] at c2
          have hc : reach < minL ((tb ++ [row]).getLastD []) ∧ (tb ++ [row]).length - 1 ≤ (sh, rest).1 := by
            rw [getLastD_snoc]
            refine ⟨by omega, ?_⟩
            simp only [List.length_append, List.length_singleton]
            omega
          rw [nearStep, if_pos hc] at r11
          refine .inr ⟨(fun h => by cases h), ?_⟩
          refine' FEnd.intro (ta, kt, tb ++ [row], ros ++ [(ra, listOf rvs9.toArray rn)], o, kvs, nr) F9 (news_sub (l := (ta, listOf ((ros ++ [(ra, listOf rvs9.toArray rn)]).map (fun p : Addr × Obj => Value.ref p.1)).toArray kt) :: (nd, o) :: (ros ++ [(ra, listOf rvs9.toArray rn)]) ++ [(I, oI)]) N9 ?b0) ?b1 ?b2 ?b3
          case b0 =>
            intro p hp
            simp only [List.mem_cons, List.mem_append, List.not_mem_nil, or_false, List.cons_append, List.map_append, List.map_cons, List.map_nil] at hp ⊢
            rcases hp with h | h | (h | h) | h
            · exact .inl h
            · exact .inr (.inl h)
            · exact .inr (.inr (.inr (.inr h)))
            · exact .inr (.inr (.inr (.inl h)))
            · exact .inr (.inr (.inl h))
          case b1 => intro p hp; exact hp
          case b2 => kst_all
          case b3 => exact ⟨r1, r2, r3, r4, r5, r6, r7, r8, fun p hp => Nat.lt_succ_of_lt (r9 p hp), Nat.le_succ_of_le r10, by simpa using r11⟩
        · (rename Fr s.heap _ _ _ => F9); (rename News s.heap _ _ _ => N9)
          rename (¬ (_ : Int) - 1 ≤ (sh : Int)) => c2
          simp only [List.length_append, List.length_map, List.length_singleton] at c2
          refine .inl ⟨rfl, ?_⟩
          refine' FEnd.intro (_, _) F9 N9 ?b1 ?b2 ?b3
          case b1 => intro p hp; simpa using hp
          case b2 => kst_all
          case b3 =>
            rintro ⟨_, c3⟩
            simp only [List.length_append, List.length_singleton] at c3
            omega
        · (rename Fr s.heap _ _ _ => F9); (rename News s.heap _ _ _ => N9)
          rename (¬ (reach : Int) < (minL row : Int)) => c1
          refine .inl ⟨rfl, ?_⟩
          refine' FEnd.intro (_, _) F9 N9 ?b1 ?b2 ?b3
          case b1 => intro p hp; simpa using hp
          case b2 => kst_all
          case b3 =>
            rintro ⟨c3, _⟩
            omega
      case after =>
        clear F9 N9
        rintro ⟨t3, t4⟩ u h tk hX F2 N2
        dsimp only at F2 N2 hX ⊢
        walk_at "my go"
        rename (ta < _ ∧ _) => l19
        (rename Fr s.heap _ _ _ => F9); (rename News s.heap _ _ _ => N9)
        rename_i D9 _ _
        have lDt := ltN (a := ta) (b := D9) l19.1
        have lDn := ltN (a := nd) (b := D9) l19.2.1
        have lDI := ltN (a := I) (b := D9) l19.2.2.1
        have lDr := ltN (a := ra) (b := D9) l19.2.2.2.1
        have lDros : ∀ p ∈ ros, p.1 ≠ D9 := fun p hp => Nat.ne_of_lt (allLt_mem l19.2.2.2.2 p hp)
        rw [nearStep, if_neg (by rw [getLastD_snoc]; exact hX)] at r11
        dsimp only at r11
        have hq1 := q1.len
        have g1 := r1.take (sh + 1)
        have g2 : ∀ p ∈ (ros ++ [(ra, listOf rvs9.toArray rn)]).take (sh + 1), p.1 ≠ D9 ∧ p.1 ≠ nd ∧ p.1 ≠ I := by
          intro p hp
          have hp := List.mem_of_mem_take hp
          have hc := r1.cls p hp
          have hn : p ∈ (ra, listOf rvs9.toArray rn) :: ros := by
            simp only [List.mem_append, List.mem_singleton] at hp
            rcases hp with h | h
            · exact .tail _ h
            · rw [h]; exact .head _
          have hN := N2 p (.tail _ (.tail _ (.tail _ hn)))
          refine ⟨?_, (r5 p hp).2, fun e => ?_⟩
          · rcases List.mem_cons.mp hn with h | h
            · rw [h]; exact Nat.ne_of_lt lDr
            · exact lDros p h
          · have e1 := hN.1
            have e2 := (N2 (I, oI) (.tail _ (.tail _ (.head _)))).1
            dsimp only at e2
            rw [e, e2] at e1
            rw [Option.some.inj e1, hc] at hoI
            exact absurd hoI (by decide)
        have g3 : ∀ row' ∈ (tb ++ [row]).take (sh + 1), row'.length = t.length + 1 := fun x hx => r4 x (List.mem_of_mem_take hx)
        have g4 : 1 ≤ ((tb ++ [row]).take (sh + 1)).length := by simp only [List.length_take, List.length_append, List.length_singleton]; omega
        have g5 : ((tb ++ [row]).take (sh + 1)).length + rest.length ≤ 5 := by simp only [List.length_take]; omega
        have N7 := news_sub (l := (D9, listOf (((ros ++ [(ra, listOf rvs9.toArray rn)]).take (sh + 1)).map (fun p : Addr × Obj => Value.ref p.1)).toArray 0) :: (nd, o) :: (I, oI) :: (ros ++ [(ra, listOf rvs9.toArray rn)]).take (sh + 1)) N9 (by
          intro p hp
          simp only [List.mem_cons, List.map_take, List.map_append, List.map_cons, List.map_nil] at hp ⊢
          rcases hp with h | h | h | h
          · exact .inl h
          · exact .inr (.inr (.inl h))
          · exact .inr (.inr (.inr (.inl h)))
          · have := List.mem_of_mem_take h
            simp only [List.mem_append, List.mem_singleton] at this
            rcases this with h | h
            · exact .inr (.inr (.inr (.inr (.inr h))))
            · exact .inr (.inr (.inr (.inr (.inl h)))))
        clear N9
        generalize (ros ++ [(ra, listOf rvs9.toArray rn)]).take (sh + 1) = rs0 at g1 g2 N7
        generalize (tb ++ [row]).take (sh + 1) = tb0 at g1 g3 g4 g5 r11
        unfold Hold
        refine exec_cut (h₀ := s.heap) (L := L') (σ := Nat × List (Addr × Obj) × Tok × Tok × Tok) (fun c => [(Str.ofString "packed", .ref r), (Str.ofString "sought", .str (S t) tt), (Str.ofString "reach", .int (reach : Nat) tr), (Str.ofString "table", .ref D9), (Str.ofString "near", .ref nd), (Str.ofString "place", .int (i : Nat) c.2.2.1)])
          (fun c => (D9, listOf (c.2.1.map (fun p : Addr × Obj => Value.ref p.1)).toArray c.1) :: (nd, o) :: (I, oI) :: c.2.1) (fun c => RowsAre c.2.1 (signsF reach t tb0 rest) ∧ (∀ p ∈ c.2.1, p.1 ≠ D9 ∧ p.1 ≠ nd ∧ p.1 ≠ I) ∧ (∀ row' ∈ signsF reach t tb0 rest, row'.length = t.length + 1) ∧ 1 ≤ (signsF reach t tb0 rest).length ∧ (signsF reach t tb0 rest).length ≤ 5) ?scut ?safter
        case scut =>
          walk_at "my go"
          (rename Fr s.heap _ _ _ => F9); (rename News s.heap _ _ _ => N9)
          refine' for_strP (σ := Nat × List (Addr × Obj) × List (List Nat) × Tok × Tok × Tok) (fun c => [(Str.ofString "packed", .ref r), (Str.ofString "sought", .str (S t) tt), (Str.ofString "reach", .int (reach : Nat) tr), (Str.ofString "table", .ref D9), (Str.ofString "near", .ref nd), (Str.ofString "place", .int (i : Nat) c.2.2.2.1)])
            (fun c => (D9, listOf (c.2.1.map (fun p : Addr × Obj => Value.ref p.1)).toArray c.1) :: (nd, o) :: (I, oI) :: c.2.1)
            (fun j c => RowsAre c.2.1 c.2.2.1 ∧ (∀ p ∈ c.2.1, p.1 ≠ D9 ∧ p.1 ≠ nd ∧ p.1 ≠ I) ∧ (∀ row' ∈ c.2.2.1, row'.length = t.length + 1) ∧ 1 ≤ c.2.2.1.length ∧ c.2.2.1.length ≤ tb0.length + j ∧ signsF reach t c.2.2.1 (rest.drop j) = signsF reach t tb0 rest)
            (0, rs0, tb0, _, 0, 0) rfl F9 N9 ?e1 ?e2 ?ecls ⟨_, _, rfl⟩ ?eturn ?edone
          case e1 => kst_all
          case e2 => exact ⟨g1, g2, g3, g4, Nat.le_refl _, rfl⟩
          case ecls =>
            rintro i c hP p hp
            rcases List.mem_cons.mp hp with rfl | hp
            · exact .inr (by simp)
            rcases List.mem_cons.mp hp with rfl | hp
            · exact .inr (by simp)
            rcases List.mem_cons.mp hp with rfl | hp
            · exact .inr (by simp)
            · refine .inl ?_
              rw [hP.1.cls p hp]
              exact ⟨by decide, by decide⟩
          case eturn =>
            clear F9 N9
            rintro j cp0 t5 ⟨kD, rs, tbl, t6, t7, t8⟩ u h tk J oJ hj ⟨p1, p2, p3, p4, p5, p6⟩ hJ F2 N2
            dsimp only at F2 N2 p1 p2 p3 p4 p5 p6 ⊢
            have hjr : rest[j]? = some cp0 := by simpa [S] using hj
            have hjl : j < rest.length := (List.getElem?_eq_some_iff.mp hjr).1
            rw [List.drop_eq_getElem_cons hjl, (List.getElem?_eq_some_iff.mp hjr).2, signsF] at p6
            obtain ⟨tbl, row5, rs, rb, bvs, bn, rfl, rfl, u1, u2⟩ : ∃ tb' row ros' ra rvs9 rn, tbl = tb' ++ [row] ∧ rs = ros' ++ [(ra, listOf rvs9.toArray rn)] ∧ RowsAre ros' tb' ∧ IntsAre rvs9 (row.map Int.ofNat) := by
              cases p1 with
              | nil => exact absurd p4 (by decide)
              | snoc a vs n l h hv => exact ⟨_, _, _, _, _, _, rfl, rfl, h, hv⟩
            have hr5 := p3 row5 (by simp)
            rw [getLastD_snoc] at p6
            simp only [List.map_append, List.map_cons, List.map_nil] at N2
            have N2 := news_sub (l := (D9, listOf (rs.map (fun p : Addr × Obj => Value.ref p.1) ++ [Value.ref rb]).toArray kD) :: (nd, o) :: (I, oI) :: (J, oJ) :: (rb, listOf bvs.toArray bn) :: rs) N2 (by
              intro p hp
              simp only [List.mem_cons, List.mem_append, List.not_mem_nil, or_false, List.cons_append] at hp ⊢
              rcases hp with h | h | h | h | h | h
              · exact .inl h
              · exact .inr (.inl h)
              · exact .inr (.inr (.inl h))
              · exact .inr (.inr (.inr (.inr h)))
              · exact .inr (.inr (.inr (.inl (.inr h))))
              · exact .inr (.inr (.inr (.inl (.inl h)))))
            walk_at "my go"
            rename (∀ b o, _ → _) => hst9
            rename News s.heap _ _ _ => N9
            rename Fr s.heap _ _ _ => F9
            rename IsRange _ _ _ _ _ _ _ _ => hrng5
            have e5 : ((row5.map Int.ofNat).getD (Int.toNat 0) 0 + 2 : Int) = Int.ofNat (row5.getD 0 0 + 2) := by
              cases row5 with
              | nil => simp at hr5
              | cons a r => rfl
            rw [e5] at N9
            rename (D9 < _ ∧ _) => l15
            rename_i ln _ _ _ _ _ _ _ _ _ _ _
            refine' for_range (σ := Nat × List Value × Tok × Tok × Tok × Tok) (fun c => [(Str.ofString "packed", .ref r), (Str.ofString "sought", .str (S t) tt), (Str.ofString "reach", .int (reach : Nat) tr), (Str.ofString "table", .ref D9), (Str.ofString "near", .ref nd), (Str.ofString "place", .int (i : Nat) c.2.2.1), (Str.ofString "above", .ref rb), (Str.ofString "line", .ref ln), (Str.ofString "sign", .str (S [cp0]) c.2.2.2.1)])
              (fun c => (ln, listOf c.2.1.toArray c.1) :: (D9, listOf (rs.map (fun p : Addr × Obj => Value.ref p.1) ++ [Value.ref rb]).toArray kD) :: (nd, o) :: (I, oI) :: (J, oJ) :: (rb, listOf bvs.toArray bn) :: rs)
              (fun k c => IntsAre c.2.1 ((lineF cp0 t row5 k).map Int.ofNat)) (0, [.int (Int.ofNat (row5.getD 0 0 + 2)) _], _, _, 0, 0) rfl hrng5 (rg1_small (by omega)) (rg1_size _) F9 N9 ?k1 ?k2 (led_same fun _ => rfl) ⟨_, _, rfl⟩ ?kturn ?kdone
            case k1 => kst_all
            case k2 => exact .cons _ _ .nil
            case kturn =>
              clear F9 N9
              rintro q tq ⟨kl, lvs, t16, t17, t18, t19⟩ u h tk K oK hq z1 hK hoK F2 N2
              dsimp only at F2 N2 z1 ⊢
              simp only [Int.zero_add]
              simp only [List.cons_append] at N2
              have hN2 := N2
              walk_at "my go"
              (rename Fr s.heap _ _ _ => F9); (rename News s.heap _ _ _ => N9)
              unfold Hold
              refine exec_cut (h₀ := s.heap) (L := L') (σ := Tok × Tok × Tok) (fun c => [(Str.ofString "packed", .ref r), (Str.ofString "sought", .str (S t) tt), (Str.ofString "reach", .int (reach : Nat) tr), (Str.ofString "table", .ref D9), (Str.ofString "near", .ref nd), (Str.ofString "place", .int (i : Nat) t16), (Str.ofString "above", .ref rb), (Str.ofString "line", .ref ln), (Str.ofString "sign", .str (S [cp0]) t17), (Str.ofString "k", .int (q : Nat) c.1), (Str.ofString "change", .int (costN cp0 (t.getD q 0) : Nat) c.2.1)])
                (fun _ => (ln, listOf lvs.toArray kl) :: (D9, listOf (rs.map (fun p : Addr × Obj => Value.ref p.1) ++ [Value.ref rb]).toArray kD) :: (nd, o) :: (I, oI) :: (J, oJ) :: (rb, listOf bvs.toArray bn) :: (rs ++ [(K, oK)])) (fun _ => True) ?icut ?iafter
              case icut =>
                walk_at "my go"
                · (rename Fr s.heap _ _ _ => F9); (rename News s.heap _ _ _ => N9)
                  rename ((S [cp0] == S [t.getD q 0]) = true) => c1
                  refine' FEnd.intro (_, _, 0) F9 N9 ?b1 ?b2 ?b3
                  case b1 => intro p hp; rw [List.append_nil] at hp; exact hp
                  case b2 => dsimp only; rw [cost_eq c1]; kst_all
                  case b3 => trivial
                · (rename Fr s.heap _ _ _ => F9); (rename News s.heap _ _ _ => N9)
                  rename ((S [cp0] == S [t.getD q 0]) = false) => c1
                  rename (List.any _ _ = true) => c2
                  refine' FEnd.intro (_, _, 0) F9 N9 ?b1 ?b2 ?b3
                  case b1 => intro p hp; rw [List.append_nil] at hp; exact .tail _ hp
                  case b2 => dsimp only; rw [cost_one c1 c2]; kst_all
                  case b3 => trivial
                · (rename Fr s.heap _ _ _ => F9); (rename News s.heap _ _ _ => N9)
                  rename ((S [cp0] == S [t.getD q 0]) = false) => c1
                  rename (List.any _ _ = false) => c2
                  refine' FEnd.intro (_, _, 0) F9 N9 ?b1 ?b2 ?b3
                  case b1 => intro p hp; rw [List.append_nil] at hp; exact .tail _ hp
                  case b2 => dsimp only; rw [cost_two c1 c2]; kst_all
                  case b3 => trivial
              case iafter =>
                clear F9 N9 N2 hN2
                rintro ⟨t20, t21, t22⟩ u h tk hX F2 N2
                dsimp only at F2 N2 hX ⊢
                have N2 := news_sub (l := (ln, listOf lvs.toArray kl) :: (D9, listOf (rs.map (fun p : Addr × Obj => Value.ref p.1) ++ [Value.ref rb]).toArray kD) :: (nd, o) :: (I, oI) :: (J, oJ) :: (rb, listOf bvs.toArray bn) :: (K, oK) :: rs) N2 (by
                  intro p hp
                  simp only [List.mem_cons, List.mem_append, List.not_mem_nil, or_false] at hp ⊢
                  rcases hp with h | h | h | h | h | h | h | h
                  · exact .inl h
                  · exact .inr (.inl h)
                  · exact .inr (.inr (.inl h))
                  · exact .inr (.inr (.inr (.inl h)))
                  · exact .inr (.inr (.inr (.inr (.inl h))))
                  · exact .inr (.inr (.inr (.inr (.inr (.inl h)))))
                  · exact .inr (.inr (.inr (.inr (.inr (.inr (.inr h))))))
                  · exact .inr (.inr (.inr (.inr (.inr (.inr (.inl h)))))))
                have hll := lineF_len cp0 t row5 q
                have hlv : lvs.length = q + 1 := by rw [z1.length, List.length_map, hll]
                have y1 := ltN (a := D9) (b := ln) l15.1
                have y2 := ltN (a := nd) (b := ln) l15.2.1
                have y3 := ltN (a := I) (b := ln) l15.2.2.1
                have y4 := ltN (a := J) (b := ln) l15.2.2.2.1
                have y5 := ltN (a := rb) (b := ln) l15.2.2.2.2.1
                have y6 : ∀ p ∈ rs, p.1 ≠ ln := fun p hp => Nat.ne_of_lt (allLt_mem l15.2.2.2.2.2 p hp)
                have y7 := ltN (a := ln) (b := K) (hK _ (.head _))
                clear hK
                walk_at "my go"
                (rename Fr s.heap _ _ _ => F9); (rename News s.heap _ _ _ => N9)
                rw [List.push_toArray] at N9
                rename_i tz9 _ _ _
                refine' FEnd.intro (kl + 1, lvs ++ [.int (min (min (row5.getD q 0 + costN cp0 (t.getD q 0)) (row5.getD (q + 1) 0 + 2)) ((lineF cp0 t row5 q).getD q 0 + 2) : Nat) tz9], _, _, 0, 0) F9 N9 ?b1 ?b2 ?b3
                case b1 =>
                  intro p hp
                  simp only [List.mem_cons, List.mem_append, List.not_mem_nil, or_false, List.cons_append] at hp ⊢
                  rcases hp with h | h | h | h | h | h | h | h
                  · exact .inl h
                  · exact .inr (.inl h)
                  · exact .inr (.inr (.inl h))
                  · exact .inr (.inr (.inr (.inl h)))
                  · exact .inr (.inr (.inr (.inr (.inl h))))
                  · exact .inr (.inr (.inr (.inr (.inr (.inl h)))))
                  · exact .inr (.inr (.inr (.inr (.inr (.inr (.inr h))))))
                  · exact .inr (.inr (.inr (.inr (.inr (.inr (.inl h))))))
                case b2 => kst_all
                case b3 =>
                  dsimp only
                  rw [lineF, List.map_append]
                  exact ints_append z1 (.cons _ _ .nil)
            case kdone =>
              clear F9 N9
              rintro ⟨kl, lvs, t16, t17, t18, t19⟩ u h tk z1 F2 N2
              dsimp only at F2 N2 z1 ⊢
              have hll := lineF_len cp0 t row5 t.length
              have y1 := ltN (a := D9) (b := ln) l15.1
              have y2 := ltN (a := nd) (b := ln) l15.2.1
              have y3 := ltN (a := I) (b := ln) l15.2.2.1
              have y4 := ltN (a := J) (b := ln) l15.2.2.2.1
              have y5 := ltN (a := rb) (b := ln) l15.2.2.2.2.1
              have y6 : ∀ p ∈ rs, p.1 ≠ ln := fun p hp => Nat.ne_of_lt (allLt_mem l15.2.2.2.2.2 p hp)
              have hrw : lineF cp0 t row5 t.length = rowF cp0 t row5 := rfl
              have hne : rowF cp0 t row5 ≠ [] := by
                intro e; rw [hrw, e] at hll; cases hll
              rw [hrw] at z1 hll
              have hrs : rs.length ≤ 6 := by rw [u1.len]; simp only [List.length_append, List.length_singleton] at p5; omega
              have y8 := ltN (a := D9) (b := J) (hJ _ (.head _))
              have y9 := neN (a := rb) (b := D9) (p2 (rb, listOf bvs.toArray bn) (by simp)).1
              have y10 : ∀ p ∈ rs, p.1 ≠ D9 := fun p hp => (p2 p (by simp [hp])).1
              have fA : RowsAre ((rs ++ [(rb, listOf bvs.toArray bn)]) ++ [(ln, listOf lvs.toArray kl)]) ((tbl ++ [row5]) ++ [rowF cp0 t row5]) := .snoc _ _ _ _ p1 z1
              have fB : ∀ p ∈ (rs ++ [(rb, listOf bvs.toArray bn)]) ++ [(ln, listOf lvs.toArray kl)], p.1 ≠ D9 ∧ p.1 ≠ nd ∧ p.1 ≠ I := by
                intro p hp
                rcases List.mem_append.mp hp with hp | hp
                · exact p2 p hp
                · rw [List.mem_singleton.mp hp]
                  exact ⟨Nat.ne_of_gt y1, Nat.ne_of_gt y2, Nat.ne_of_gt y3⟩
              have fC : ∀ row' ∈ (tbl ++ [row5]) ++ [rowF cp0 t row5], row'.length = t.length + 1 := by
                intro x hx
                rcases List.mem_append.mp hx with hx | hx
                · exact p3 x hx
                · rw [List.mem_singleton.mp hx]; exact hll
              have fD : ((tbl ++ [row5]) ++ [rowF cp0 t row5]).length ≤ tb0.length + (j + 1) := by
                rw [List.length_append, List.length_singleton]; omega
              have fE : 1 ≤ ((tbl ++ [row5]) ++ [rowF cp0 t row5]).length := by simp
              have fN : ∀ p, p ∈ ((D9, listOf (((rs ++ [(rb, listOf bvs.toArray bn)]) ++ [(ln, listOf lvs.toArray kl)]).map (fun p : Addr × Obj => Value.ref p.1)).toArray (kD + 1)) :: (nd, o) :: (I, oI) :: (((rs ++ [(rb, listOf bvs.toArray bn)]) ++ [(ln, listOf lvs.toArray kl)]) ++ [(J, oJ)])) → p ∈ (ln, listOf lvs.toArray kl) :: (D9, listOf (rs.map (fun p : Addr × Obj => Value.ref p.1) ++ [Value.ref rb] ++ [Value.ref ln]).toArray (kD + 1)) :: (nd, o) :: (I, oI) :: (J, oJ) :: (rb, listOf bvs.toArray bn) :: rs := by
                intro p hp
                simp only [List.mem_cons, List.mem_append, List.not_mem_nil, or_false, List.map_append, List.map_cons, List.map_nil] at hp ⊢
                rcases hp with h | h | h | ((h | h) | h) | h
                · exact .inr (.inl h)
                · exact .inr (.inr (.inl h))
                · exact .inr (.inr (.inr (.inl h)))
                · exact .inr (.inr (.inr (.inr (.inr (.inr h)))))
                · exact .inr (.inr (.inr (.inr (.inr (.inl h)))))
                · exact .inl h
                · exact .inr (.inr (.inr (.inr (.inl h))))
              walk_at "my go"
              all_goals (rename Fr s.heap _ _ _ => F9; rename News s.heap _ _ _ => N9)
              all_goals rw [List.push_toArray] at N9
              all_goals have N9 := news_sub N9 fN
              · rename ((reach : Int) < (minL _ : Int)) => c1
                rw [if_pos (by omega)] at p6
                refine ⟨rfl, ?_⟩
                refine' FEnd.intro (kD + 1, (rs ++ [(rb, listOf bvs.toArray bn)]) ++ [(ln, listOf lvs.toArray kl)], _, 0, 0) F9 N9 ?b1 ?b2 ?b3
                case b1 =>
                  intro p hp
                  simp only [List.append_nil] at hp
                  rcases List.mem_cons.mp hp with rfl | hp
                  · exact .head _
                  refine .tail _ ?_
                  rcases List.mem_cons.mp hp with rfl | hp
                  · exact .head _
                  refine .tail _ ?_
                  rcases List.mem_cons.mp hp with rfl | hp
                  · exact .head _
                  exact .tail _ (List.mem_append_left _ hp)
                case b2 => kst_all
                case b3 =>
                  rw [← p6]
                  exact ⟨fA, fB, fC, fE, by omega⟩
              · rename (¬ (reach : Int) < (minL _ : Int)) => c1
                rw [if_neg (by omega)] at p6
                refine' FEnd.intro (kD + 1, (rs ++ [(rb, listOf bvs.toArray bn)]) ++ [(ln, listOf lvs.toArray kl)], (tbl ++ [row5]) ++ [rowF cp0 t row5], _, 0, 0) F9 N9 ?b1 ?b2 ?b3
                case b1 =>
                  intro p hp
                  exact hp
                case b2 => kst_all
                case b3 => exact ⟨fA, fB, fC, fE, fD, p6⟩
          case edone =>
            clear F9 N9
            rintro ⟨kD, rs, tbl, t6, t7, t8⟩ u h tk ⟨p1, p2, p3, p4, p5, p6⟩ F2 N2
            dsimp only at F2 N2 p1 p2 p3 p4 p5 p6 ⊢
            have hrl : (S rest).cps.size = rest.length := by simp [S]
            rw [hrl] at p5 p6
            rw [List.drop_length, signsF] at p6
            refine ⟨rfl, ?_⟩
            refine' FEnd.intro (kD, rs, t6, 0, 0) F2 N2 ?b1 ?b2 ?b3
            case b1 => intro p hp; rw [List.append_nil] at hp; exact hp
            case b2 => kst_all
            case b3 =>
              rw [← p6]
              exact ⟨p1, p2, p3, p4, by omega⟩
        case safter =>
          clear N7 F9
          rintro ⟨kD, rs, t6, t7, t8⟩ u h tk ⟨p1, p2, p3, p4, p5⟩ F2 N2
          generalize signsF reach t tb0 rest = tbf at p1 p3 p4 p5 r11
          dsimp only at F2 N2 p1 p2 ⊢
          obtain ⟨tbl, row5, rs, rb, bvs, bn, rfl, rfl, u1, u2⟩ : ∃ tb' row ros' ra rvs9 rn, tbf = tb' ++ [row] ∧ rs = ros' ++ [(ra, listOf rvs9.toArray rn)] ∧ RowsAre ros' tb' ∧ IntsAre rvs9 (row.map Int.ofNat) := by
            cases p1 with
            | nil => exact absurd p4 (by decide)
            | snoc a vs n l h hv => exact ⟨_, _, _, _, _, _, rfl, rfl, h, hv⟩
          have hr5 := p3 row5 (by simp)
          obtain ⟨rowp, lastv, rfl⟩ := snoc_of (l := row5) (by intro e; rw [e] at hr5; cases hr5)
          rw [List.map_append] at u2
          obtain ⟨bvs, lt, rfl⟩ := ints_last u2
          clear u2
          rw [getLastD_snoc, getLastD_snoc] at r11
          simp only [List.map_append, List.map_cons, List.map_nil] at N2
          have N2 := news_sub (l := (D9, listOf (rs.map (fun p : Addr × Obj => Value.ref p.1) ++ [Value.ref rb]).toArray kD) :: (nd, o) :: (I, oI) :: (rb, listOf (bvs ++ [Value.int (Int.ofNat lastv) lt]).toArray bn) :: rs) N2 (by
            intro p hp
            simp only [List.mem_cons, List.mem_append, List.not_mem_nil, or_false] at hp ⊢
            rcases hp with h | h | h | h | h
            · exact .inl h
            · exact .inr (.inl h)
            · exact .inr (.inr (.inl h))
            · exact .inr (.inr (.inr (.inr h)))
            · exact .inr (.inr (.inr (.inl h))))
          have hrs : rs.length ≤ 6 := by rw [u1.len]; simp only [List.length_append, List.length_singleton] at p5; omega
          have y9 := neN (a := rb) (b := D9) (p2 (rb, listOf (bvs ++ [Value.int (Int.ofNat lastv) lt]).toArray bn) (by simp)).1
          have y10 : ∀ p ∈ rs, p.1 ≠ D9 := fun p hp => (p2 p (by simp [hp])).1
          have y11 := neN (a := rb) (b := nd) (p2 (rb, listOf (bvs ++ [Value.int (Int.ofNat lastv) lt]).toArray bn) (by simp)).2.1
          have y12 : ∀ p ∈ rs, p.1 ≠ nd := fun p hp => (p2 p (by simp [hp])).2.1
          walk_at "my go"
          · (rename Fr s.heap _ _ _ => F9); (rename News s.heap _ _ _ => N9)
            rename Int.ofNat lastv ≤ (reach : Int) => c1
            have c1 : lastv ≤ reach := Int.ofNat_le.mp c1
            rw [if_pos c1] at r11
            rename Obj.IsDictOf _ _ (stored _ _ _) => d1
            rename PyProof.V.FlatPairs _ (stored _ _ _) _ => d2
            have d2 := (nrD_put (v := lastv) r9) ▸ d2
            rename_i o9 _
            refine' FEnd.intro (D9, kD, tbl ++ [rowp ++ [lastv]], rs ++ [(rb, listOf (bvs ++ [Value.int (Int.ofNat lastv) lt]).toArray bn)], o9, stored kvs (i : Int) (Value.int (Int.ofNat lastv) lt), nr ++ [(i, lastv)]) F9 (news_sub N9 ?b0) ?b1 ?b2 ?b3
            case b1 => intro p hp; exact hp
            case b0 =>
              intro p hp
              simp only [List.mem_cons, List.mem_append, List.not_mem_nil, or_false, List.map_append, List.map_cons, List.map_nil, List.cons_append] at hp ⊢
              rcases hp with h | h | (h | h) | h
              · exact .inl h
              · exact .inr (.inl h)
              · exact .inr (.inr (.inr (.inr h)))
              · exact .inr (.inr (.inr (.inl h)))
              · exact .inr (.inr (.inl h))
            case b2 => kst_all
            case b3 =>
              refine ⟨p1, p5, p4, p3, fun p hp => ⟨(p2 p hp).1, (p2 p hp).2.1⟩, Nat.ne_of_gt lDn, d1, d2, ?_, ?_, r11⟩
              · intro p hp
                rcases List.mem_append.mp hp with hp | hp
                · exact Nat.lt_succ_of_lt (r9 p hp)
                · rw [List.mem_singleton.mp hp]; exact Nat.lt_succ_self _
              · dsimp only
                rw [List.length_append]
                exact Nat.succ_le_succ r10
          · (rename Fr s.heap _ _ _ => F9); (rename News s.heap _ _ _ => N9)
            rename ¬ (Int.ofNat lastv ≤ (reach : Int)) => c1
            have c1 : ¬ lastv ≤ reach := fun h => c1 (Int.ofNat_le.mpr h)
            rw [if_neg c1] at r11
            refine' FEnd.intro (D9, kD, tbl ++ [rowp ++ [lastv]], rs ++ [(rb, listOf (bvs ++ [Value.int (Int.ofNat lastv) lt]).toArray bn)], o, kvs, nr) F9 (news_sub N9 ?b0) ?b1 ?b2 ?b3
            case b1 => intro p hp; exact hp
            case b0 =>
              intro p hp
              simp only [List.mem_cons, List.mem_append, List.not_mem_nil, or_false, List.map_append, List.map_cons, List.map_nil, List.cons_append] at hp ⊢
              rcases hp with h | h | (h | h) | h
              · exact .inl h
              · exact .inr (.inl h)
              · exact .inr (.inr (.inr (.inr h)))
              · exact .inr (.inr (.inr (.inl h)))
              · exact .inr (.inr (.inl h))
            case b2 => kst_all
            case b3 =>
              refine ⟨p1, p5, p4, p3, fun p hp => ⟨(p2 p hp).1, (p2 p hp).2.1⟩, Nat.ne_of_gt lDn, r7, r8, fun p hp => Nat.lt_succ_of_lt (r9 p hp), Nat.le_succ_of_le r10, by simpa using r11⟩
    case done =>
      clear F9 N9 N8
      rintro ⟨ta, kt, tb, ros, o, kvs, nr⟩ u h tk ⟨r1, r2, r3, r4, r5, r6, r7, r8, r9, r10, r11⟩ F2 N2
      dsimp only at F2 N2 r1 r2 r3 r4 r5 r6 r7 r8 r9 r10 r11 ⊢
      walk_at "my go"
      rw [hrl, List.drop_length, nearRun] at r11
      rw [← r11] at hret
      exact hret nd o kvs h _ (stays_fr F F2.keep) (news_cons F (stays_news N F2.keep) (N2.fresh (List.Mem.tail _ (List.Mem.head _))) (N2.get (List.Mem.tail _ (List.Mem.head _)))) (fresh_ne N (N2.fresh (List.Mem.tail _ (List.Mem.head _)))) r7 r8 lo0
end

-- c_lamk
theorem kw32 : True := by
  k_with_none
  (k_with "m exec While Compare cons nil" => ((with_reducible show wpAny _ _ (exec (Stmt.While _ _ _ _) _) _ _ _); refine hold ?_))
  (k_with "m exec While BoolOp cons nil" => ((with_reducible show wpAny _ _ (exec (Stmt.While _ _ _ _) _) _ _ _); refine hold ?_))
  (k_with "m exec While BinOp cons nil" => ((with_reducible show wpAny _ _ (exec (Stmt.While _ _ _ _) _) _ _ _); refine hold ?_))
  (k_with "m my enter" => k_dflt (refine' enter ?r8k1 ?r8k2 ?r8k6 ?r8k7 ?r8k8 ?r8k9 ?r8kB ?_ ?r8c2 ?r8c3 ?r8c4 ?r8c5; (case r8k1 => k_asm); (case r8k2 => k_asm); (case r8k6 => k_is); (case r8k7 => k_is); (case r8k8 => ktr_room); (case r8k9 => first | exact BindsTo.of_eq rfl | exact kp_binds (by assumption) (fun _ => rfl)); (case r8c5 => decide); (case r8kB => exact locs rfl); (case r8c2 => exact rfl); (case r8c3 => exact rfl); (case r8c4 => exact rfl)))
  (k_with "m my go" => ((try k_fold); (repeat' (first | (k_unfold; (try dsimp only)) | walk1 | (dsimp only; first | k_unfold | walk1))); (all_goals (try dsimp only))))
  (k_with "m my size" => first | omega | (simp only [len_S, len_toArr, List.length_map, List.size_toArray, Str.length_append, PySem.Str.length_append, sizeLine_eq, List.length_append, List.length_cons, List.length_nil] at *; omega) | (simp only [len_S, Str.length_append, sizeLine_eq] at *; size_fits))
  (k_with "m binaryOp Add str str" => ((with_reducible show wpAny _ _ (binaryOp Operator.Add (Value.str _ _) (Value.str _ _)) _ _ _); (refine' PyProof.Rows.add_str ?_ ?r11hsz); (case r11hsz => walk_at "my size"); intro _ _))
  (k_with "m call builtin:list.insert" => (k_here; (with_reducible show wpAny _ _ (call (Value.builtin _) [Value.ref _, Value.int _ _, _]) _ _ _); k_dflt (refine' kl_insert ?r12F ?r12N ?r12f ?r12e ?r12U ?r12z ?_; (case r12F => k_asm); (case r12N => k_asm); (case r12U => k_upd); (case r12e => exact rfl); (case r12f => walk_at "my fit"); (case r12z => walk_at "my size")); intro _ _ _; (try k_sweep)))
  (k_with "m my fit" => first | with_reducible exact fits0 | exact fits_nat (by omega) | exact fits_nat (by walk_at "my size"))
  (k_with "m my mem" => ((try dsimp only [List.cons_append, List.nil_append, List.append_nil]); kst_allIn))
  (k_with "m my list" => first | (with_reducible assumption) | assumption | exact Fr.lst (by k_asm) (by assumption) | exact News.isList (by k_asm) (by k_mem))
  (k_with "m call builtin:len" => ((with_reducible show wpAny _ _ (call (Value.builtin "len") [Value.ref _]) _ _ _); (refine' len_at ?r16k1 ?r16k2 ?_; (case r16k1 => walk_at "my list"); (case r16k2 => walk_at "my size")); intro _ _))
  (k_with "m my idx" => first | exact fdm2 _ _ | exact rfl | exact (Int.natCast_add _ _).symm)
  (k_with "m my item" => ((with_reducible show wpAny _ _ (subscriptTail _ _ (Value.ref _) (Value.int _ _)) _ _ _); first | ((refine' item_strs ?r18k1 ?r18k2 ?r18k3 ?r18k4 ?r18k5 ?_; (case r18k1 => walk_at "my list"); (case r18k2 => with_reducible assumption); (case r18k3 => walk_at "my idx"); (case r18k4 => walk_at "my size"); (case r18k5 => walk_at "my size")); intro _) | ((refine' item_ints ?r18k1 ?r18k2 ?r18k3 ?r18k4 ?r18k5 ?_; (case r18k1 => walk_at "my list"); (case r18k2 => with_reducible assumption); (case r18k3 => walk_at "my idx"); (case r18k4 => walk_at "my size"); (case r18k5 => walk_at "my size")); intro _)))
  (k_with "m setItem ref int" => ((with_reducible show wpAny _ _ (setItem (Value.ref _) (Value.int _ _) _) _ _ _); k_dflt (refine' set_atL ?r19F ?r19N ?r19z ?r19i ?r19b ?r19U ?_; (case r19F => k_asm); (case r19N => k_asm); (case r19U => k_upd); (case r19z => walk_at "my idx"); (case r19i => walk_at "my size"); (case r19b => walk_at "my size")); intro _ _ _; (try k_sweep)))
  (k_with "m subscriptTail Name Name ref int" => k_dflt (walk_at "my item"))
  (k_with "m my nat" => first | with_reducible exact natAdd1 _ | with_reducible exact natAdd2 _ | with_reducible exact (Int.natCast_add _ _).symm | with_reducible exact rfl)
  (k_with "m call builtin:min" => ((with_reducible show wpAny _ _ (call (Value.builtin _) [Value.int _ _, Value.int _ _]) _ _ _); k_dflt (refine' min_nat ?r22x ?r22y ?r22hh ?r22F ?r22N ?_; (case r22F => k_asm); (case r22N => k_asm); (case r22hh => with_unfolding_all rfl); (case r22x => walk_at "my nat"); (case r22y => walk_at "my nat")); intro _ _ _ _ _; (try k_sweep)))
  (k_with "m exec For Name Name cons nil" => ((with_reducible show wpAny _ _ (exec (Stmt.For _ _ _ _ _) _) _ _ _); k_dflt (refine for_mine ?_)))
  (k_with "m exec For Name Call cons nil" => ((with_reducible show wpAny _ _ (exec (Stmt.For _ _ _ _ _) _) _ _ _); k_dflt (refine for_mine ?_)))
  (k_with "m exec For Name Subscript cons nil" => ((with_reducible show wpAny _ _ (exec (Stmt.For _ _ _ _ _) _) _ _ _); k_dflt (refine for_mine ?_)))
  (k_with "m exec For Tuple Name cons nil" => ((with_reducible show wpAny _ _ (exec (Stmt.For _ _ _ _ _) _) _ _ _); k_dflt (refine for_mine ?_)))
  (k_with "m truthy str" => ((refine' truthy_S ?r23k1 ?_; (case r23k1 => first | omega | (simp only [List.length_drop, List.length_take]; omega) | walk_at "my size")); intro _))
  (k_with "m call builtin:len" => ((with_reducible show wpAny _ _ (call (Value.builtin "len") [Value.str _ _]) _ _ _); (refine' len_strS ?r24k1 ?_; (case r24k1 => walk_at "my size")); intro _ _))
  (k_with "m my isw" => first | assumption | (refine isW_drop ?_ _; walk_at "my isw") | (refine isW_take ?_ _; walk_at "my isw"))
  (k_with "m my small" => first | omega | (simp only [List.length_drop, List.length_take]; omega) | exact drop_ne (by assumption) | exact take_ne (by assumption) | exact emp_ne (by assumption) | exact emp_k (by assumption) (by omega) | (have := drop_ne (by assumption); omega) | (have := take_ne (by assumption); omega) | (have := emp_ne (by assumption); omega))
  (k_with "m my slice" => ((with_reducible rename Fr _ _ _ _ => F'); (with_reducible rename News _ _ _ _ => N'); first | ((with_reducible show wpAny _ _ (subscriptTail _ (Expr.Slice (some _) none none _) _ _) _ _ _); (refine' sl_from (s := ⟨_, _, _, _, _⟩) ?r27z ?r27k1 ?r27k2 F' N' ?_; (case r27z => walk_at "my nat"); (case r27k1 => walk_at "my isw"); (case r27k2 => walk_at "my small")); clear F' N'; intro _ _ _ _ _) | ((with_reducible show wpAny _ _ (subscriptTail _ (Expr.Slice none (some _) none _) _ _) _ _ _); (refine' sl_nn (s := ⟨_, _, _, _, _⟩) ?r27k1 F' N' ?_; (case r27k1 => walk_at "my isw")); clear F' N'; intro _ _ _ _ _) | ((with_reducible show wpAny _ _ (subscriptTail _ (Expr.Slice none (some _) none _) _ _) _ _ _); (refine' sl_neg (s := ⟨_, _, _, _, _⟩) ?r27k1 ?r27k2 ?r27k3 F' N' ?_; (case r27k1 => walk_at "my isw"); (case r27k2 => omega); (case r27k3 => walk_at "my small")); clear F' N'; intro _ _ _ _ _) | ((with_reducible show wpAny _ _ (subscriptTail _ (Expr.Slice none (some _) none _) _ _) _ _ _); (refine' sl_to (s := ⟨_, _, _, _, _⟩) ?r27z ?r27k1 ?r27k2 F' N' ?_; (case r27z => walk_at "my nat"); (case r27k1 => walk_at "my isw"); (case r27k2 => walk_at "my small")); clear F' N'; intro _ _ _ _ _)))
  (k_with "m subscriptTail Name Slice str ref" => walk_at "my slice")
  (k_with "m my sitem" => ((with_reducible show wpAny _ _ (subscriptTail _ _ (Value.str (S _) _) (Value.int _ _)) _ _ _); first | ((refine' it_neg ?r29z ?r29k1 ?r29k2 ?r29k3 ?_; (case r29z => exact negsub _); (case r29k1 => walk_at "my small"); (case r29k2 => omega); (case r29k3 => walk_at "my small")); intro _ _) | ((refine' it_pos ?r29z ?r29k1 ?r29k2 ?_; (case r29z => walk_at "my nat"); (case r29k1 => walk_at "my small"); (case r29k2 => walk_at "my small")); intro _ _)))
  (k_with "m subscriptTail Name Name str int" => walk_at "my sitem")
  (k_with "m subscriptTail Name BinOp str int" => walk_at "my sitem")
  exact True.intro
section
section
variable {M : Model} {A : Around} {E : Value → Shared → Prop} {s : Shared} {h₀ : Heap} {L a : Addr} {m : Str → Option Value} {cn : Str} {cs : Scope} {ccd : Value} {cl : List (Str × Addr)} {x : Str} {pos : Pos} {v : Value} {Q : Value → Shared → Prop} {c : Addr} {o : Obj}
theorem nameX_FB (F : Fr h₀ L s.heap m) (hc : cl.lookup x = some c) (ho : h₀.get? c = some o) (hd : o.data = .cell (some v)) (hk : cs.kind = .function) (hx : (envX cn cs L a ccd cl).kindOf x = some .free) (h : Q v s)
    (hb : (x == ("__debug__" : Str)) = false := by decide) (hn : (x == ("__classdict__" : Str)) = false := by decide) :
    wpAny M A (eval (.Name x pos) (envX cn cs L a ccd cl)) Q E s := wpAny_Name (wpAny_loadName_free hk hx hc ⟨o, F.keep _ _ ho, hd⟩ h hn) hb
theorem nameX_LB (F : Fr h₀ L s.heap m) (hv : m x = some v) (hk : cs.kind = .function) (hx : (envX cn cs L a ccd cl).kindOf x = some .local) (h : Q v s) (hb : (x == ("__debug__" : Str)) = false := by decide) :
    wpAny M A (eval (.Name x pos) (envX cn cs L a ccd cl)) Q E s := nameX_L F hv h hk hx hb
end
theorem kw33 : True := by
  (k_with "m eval Name" => (k_dflt (first | (refine' nameX_FB ?r116F ?r116c ?r116o ?r116d ?r116k ?r116x ?_; (case r116F => k_asm); (case r116k => with_reducible assumption); (case r116x => with_reducible assumption); (case r116c => with_reducible assumption); (case r116o => with_reducible assumption); (case r116d => with_reducible assumption)) | (refine' nameX_LB ?r116F ?r116c ?r116k ?r116x ?_; (case r116F => k_asm); (case r116k => with_reducible assumption); (case r116x => with_reducible assumption); (case r116c => exact rfl)))))
  exact True.intro
set_option maxHeartbeats 4000000 in
theorem lam_key {prog : Program} {w : World} {gd : Option (List Code)} {h : Heap} {ka c' csz : Addr} {name qual : Str} {params : Arguments} {scope : Scope} {cl : List (Str × Addr)} {pm ctv : Value} {p1 p2 p3 p4 : Pos} {osz og : Obj} {kn : Nat} {tz : Tok} {ws : List (List Nat)}
   (X : (hdP.heap_39 w.params).In h) (hg : h.get? ka = some og) (hog : og = kla_obj name qual params (.Subscript (.Name (Str.ofString "word") p1) (.Slice none (some (.Name (Str.ofString "size") p2)) none p3) p4) scope cl pm c' ctv)
   (hrec : h.CodeRec (.ref c') qual) (hcl : cl.lookup (Str.ofString "size") = some csz) (hsz : h.get? csz = some osz) (hd9 : osz.data = .cell (some (.int (kn : Nat) tz))) (hlim : h.NoLimit) (hk8 : kn ≤ 8) (hW : ∀ x ∈ ws, isW x)
   (hbind : ∀ x t, bindArgs (kla_fn name qual params (.Subscript (.Name (Str.ofString "word") p1) (.Slice none (some (.Name (Str.ofString "size") p2)) none p3) p4) scope cl pm (.ref c') ctv) ⟨[.str x t], []⟩ = pure [(Str.ofString "word", .str x t)])
   (hco : scope.isCoroutine = false) (hgen : scope.isGenerator = false) (hk : scope.kind = .function) (hcell : ∀ x ∈ scope.names, x.2 ≠ .cell) (hlw : scope.names.lookup (Str.ofString "word") = some .local)
   (hkw : ∀ L a, (envX qual scope L a (.ref c') cl).kindOf (Str.ofString "word") = some .local) (hks : ∀ L a, (envX qual scope L a (.ref c') cl).kindOf (Str.ofString "size") = some .free) : KeySays prog w gd ka kn ws h := by
  subst hog
  intro wd t s' dp' un' fr' Q' E' hd1 hu1 hst hw k
  have hwd := hW wd hw
  refine wpAny_call ?_
  refine kla_callFunE (show dp' < recursionLimit by omega) (hst _ _ hg) rfl hco hgen rfl (hrec.keeps hst) ?_
  rw [hbind]
  refine wpAny_pure (wpAny_newFunctionEnv hcell (by intro y hy; rw [List.mem_singleton.mp hy]; exact hlw) (fun h₁ hns hsb => ⟨(hlim.keeps hst).fresh _ hsb, ?_⟩) hk)
  show codeAny _ _ (.expr (.Subscript (.Name (Str.ofString "word") p1) (.Slice none (some (.Name (Str.ofString "size") p2)) none p3) p4) (envX qual scope s'.heap.objs.size ka (.ref c') cl)) _ _
  have hk₁ : ∀ b o, s'.heap.get? b = some o → h₁.get? b = some o := fun b o e => hsb.extBut b o (Nat.ne_of_lt (Heap.lt_size e)) (Heap.get?_push_of_some _ e)
  refine kla_codeExpr ?_
  have X' := X.keeps hst
  have hsz' := hst _ _ hsz
  have hkw' := hkw s'.heap.objs.size ka
  have hks' := hks s'.heap.objs.size ka
  have F9 : Fr s'.heap s'.heap.objs.size h₁ (fun y => if y = Str.ofString "word" then some (.str (S wd) t) else none) := ⟨by
    have e : (fun y => List.lookup y [(Str.ofString "word", Value.str (S wd) t)].reverse) = (fun y => if y = Str.ofString "word" then some (.str (S wd) t) else none) := by
      funext y
      cases hb : (y == Str.ofString "word") with
      | true => rw [if_pos (eq_of_beq hb)]; simp only [List.reverse_cons, List.reverse_nil, List.nil_append, List.lookup, hb]
      | false => rw [if_neg (fun e => by rw [e] at hb; simp at hb)]; simp only [List.reverse_cons, List.reverse_nil, List.nil_append, List.lookup, hb]
    rw [← e]; exact hns, hk₁, Nat.le_refl _⟩
  have N9 : News s'.heap s'.heap.objs.size h₁ [] := News.nil
  generalize s'.heap.objs.size = L9 at *
  walk_at "my go"
  rename Fr s'.heap _ _ _ => F8
  exact k _ _ _ F8.keep
end
section
section
variable {prog : Program} {w : World} {A : Around} {E : Value → Shared → Prop} {s : Shared} {h₀ : Heap} {L : Addr} {m : Str → Option Value} {news : List (Addr × Obj)} {Q : Value → Shared → Prop}
theorem slice_from {value slice : PySem.Expr} {l : Addr} {vs : List Value} {ns : List Int} {y : Int} {b : Nat} {vl vu : Value} (F : Fr h₀ L s.heap m) (N : News h₀ L s.heap news) (hl : s.heap.IsList l vs.toArray) (pl : IsPart vl (some y)) (pu : IsPart vu none) (hy : y = (b : Int)) (hi : IntsAre vs ns) (hz : vs.length ≤ 100000)
    (h : ∀ D ws h', Fr h₀ L h' m → News h₀ L h' ((D, listOf (List.toArray ws) 0) :: news) → (∀ p ∈ news, p.1 < D) → IntsAre ws (ns.drop b) → Q (.ref D) { s with heap := h' })
    (hs : subscripted slice false (.ref l) (.ref s.heap.objs.size) = operate [.ref s.heap.objs.size, .ref l] (getItem (.ref l) (.ref s.heap.objs.size))) :
    wpAny (model prog w) A (subscriptTail value slice (.ref l) (.ref s.heap.objs.size)) Q E { s with heap := s.heap.push { cls := .type "slice", data := .fields #[vl, vu, .none] } } := by
  subst hy
  refine tail_any (Heap.IsList.typeIs (s := { s with heap := s.heap.push { cls := .type "slice", data := .fields #[vl, vu, .none] } }) (hl.push _)) list_getitem_lookup
    (wpAny_getItem_list_slice (hl.push _) (Heap.IsSliceOf.new ..) pl pu .none (by simp) ?_ (by rw [sizeLine_eq]; simp; omega)) hs
  have e : sliceBounds (some (b : Int)) none none vs.toArray.size = (((min b vs.toArray.size : Nat) : Int), ((vs.toArray.size : Nat) : Int), 1) := by
    simp only [sliceBounds, Option.getD_none, show (1 : Int) > 0 by decide, if_true, if_neg (show ¬ ((b : Int) < 0) by omega)]
    congr 1
    omega
  have e2 : (slicePick vs.toArray (some (b : Int)) none none).toList = vs.drop b := by
    rw [kmk_pick_nat _ e, List.size_toArray]
    rcases Nat.le_total b vs.length with hb | hb
    · rw [Nat.min_eq_left hb, List.take_of_length_le (by simp)]
    · rw [Nat.min_eq_right hb, List.drop_of_length_le hb, List.drop_of_length_le (by simp)]
      simp
  have N1 := News.push (F.push { cls := .type "slice", data := .fields #[vl, vu, .none] }) (N.grown fun _ _ e => Heap.get?_push_of_some _ e) { cls := .type "list", data := .seq (slicePick vs.toArray (some (b : Int)) none none) }
  have e3 : slicePick vs.toArray (some (b : Int)) none none = (vs.drop b).toArray := by rw [← e2]
  rw [e3] at N1
  rw [e3]
  exact h _ (vs.drop b) _ ((F.push _).push _) N1 (fun p hp => Heap.lt_size ((N.grown (h' := s.heap.push _) fun _ _ e => Heap.get?_push_of_some _ e) p hp).1) (hi.drop b)
end
theorem c_wordZ {prog : Program} {w : World} {p : Program} {loose : List Str} {mean : ExcName → Option Value} {mg mb : Str → Option Value} {dp un : Nat} {fr : Option (List Env)} {gd : Option (List Code)} {s : Shared} {Q E : Value → Shared → Prop} {h₀ : Heap} {L : Addr} {m : Str → Option Value} {news : List (Addr × Obj)} {x : Int} {tn : Tok}
   (F : Fr h₀ L s.heap m) (N : News h₀ L s.heap news) (X : (hdP.heap_39 w.params).In h₀) (T : Top p loose mean mg mb h₀) (hd : dp + 5 < recursionLimit) (hu : un + 50 < cLine) (hx : 0 ≤ x ∧ x ≤ 120)
   (hret : ∀ t h' tk', Fr h₀ L h' m → News h₀ L h' news → Q (.str (S (wf x.toNat [])) t) {s with heap := h', toks := tk'}) : wpAny (model prog w) (ar dp un fr gd) (call (.ref 76) [.int x tn]) Q E s := by
  have e : x = ((x.toNat : Nat) : Int) := (Int.toNat_of_nonneg hx.1).symm
  rw [e]
  exact c_word _ _ F N X T hd hu (by omega) (by simpa using hret)
theorem fm27 (z : Int) : 0 ≤ 13 + Int.fmod z 27 ∧ 13 + Int.fmod z 27 ≤ 120 := by
  have h1 := Int.fmod_nonneg_of_pos z (show (0 : Int) < 27 by decide)
  have h2 := Int.fmod_lt_of_pos z (show (0 : Int) < 27 by decide)
  omega
theorem fm120 (z : Int) : 0 ≤ 1 + Int.fmod z 120 ∧ 1 + Int.fmod z 120 ≤ 120 := by
  have h1 := Int.fmod_nonneg_of_pos z (show (0 : Int) < 120 by decide)
  have h2 := Int.fmod_lt_of_pos z (show (0 : Int) < 120 by decide)
  omega
theorem ints_at {vs : List Value} {ns : List Int} (h : IntsAre vs ns) {i : Nat} {v : Value} (hv : vs[i]? = some v) : ∃ x t, ns[i]? = some x ∧ v = .int x t := by
  have hl := (List.getElem?_eq_some_iff.mp hv).1
  rw [h.length] at hl
  obtain ⟨t, ht⟩ := ints_get h i ns[i] (by simp [hl])
  rw [hv] at ht
  exact ⟨ns[i], t, by simp [hl], Option.some.inj ht⟩
theorem take_foldl {α β : Type} (f : β → α → β) (b : β) (l : List α) {i : Nat} {x : α} (h : l[i]? = some x) : (l.take (i + 1)).foldl f b = f ((l.take i).foldl f b) x := by
  rw [List.take_succ, h]
  simp [List.foldl_append]
theorem sum4 (z : Int) : ∃ k : Nat, 1 + Int.fmod z 4 = (k : Int) ∧ 1 ≤ k ∧ k ≤ 4 := by
  have h1 := Int.fmod_nonneg_of_pos z (show (0 : Int) < 4 by decide)
  have h2 := Int.fmod_lt_of_pos z (show (0 : Int) < 4 by decide)
  exact ⟨(1 + Int.fmod z 4).toNat, by omega, by omega, by omega⟩
theorem insW_len (ws : List (List Nat)) (x : List Nat) : (insW ws x).length = ws.length + 1 := by
  have h := bR_le (fun i => decide (x < ws.getD i [])) ws.length 0 ws.length (Nat.le_refl _) (Nat.zero_le _)
  unfold insW
  simp only [List.length_append, List.length_take, List.length_cons, List.length_drop]
  omega
def insZ (r : List (List Nat)) (x : Int) : List (List Nat) := insW r (wf (1 + Int.fmod x 120).toNat [])
theorem TupsAre.facts {ts : List (Addr × Obj)} {ds : List (Nat × List Nat)} (h : TupsAre ts ds) : ∀ p ∈ ts, p.2.cls = .type "tuple" ∧ ∀ v, p.2.data ≠ .cell v := by
  induction h with
  | nil => intro p hp; cases hp
  | snoc a o n l t t' x h ho hd ih =>
    intro p hp
    rcases List.mem_append.mp hp with hp | hp
    · exact ih p hp
    · rw [List.mem_singleton.mp hp]
      exact ⟨ho, fun v e => by rw [hd] at e; cases e⟩
theorem news_ne {h₀ h : Heap} {L : Addr} {nx : List (Addr × Obj)} (N : News h₀ L h nx) {a b : Addr} {o o' : Obj} (hp : (a, o) ∈ nx) (hq : (b, o') ∈ nx) (hc : o.data ≠ o'.data) : a ≠ b := by
  rintro rfl
  have e1 := (N _ hp).1
  have e2 := (N _ hq).1
  dsimp only at e1 e2
  rw [e1] at e2
  exact hc (congrArg Obj.data (Option.some.inj e2))
theorem tups_in {h₀ h : Heap} {L : Addr} {news : List (Addr × Obj)} (N : News h₀ L h news) {ts : List (Addr × Obj)} {ds : List (Nat × List Nat)} (ht : TupsAre ts ds) (hs : ∀ p ∈ ts, p ∈ news) : TupsIn h (ts.map fun p => Value.ref p.1) ds := by
  induction ht with
  | nil => exact ⟨rfl, fun i d hd => by simp at hd⟩
  | @snoc ts ds a o n l t t' x h ho hd ih =>
    have ih := ih (fun p hp => hs p (List.mem_append_left _ hp))
    have hl := h.len
    refine ⟨by simp [hl], fun i d hdi => ?_⟩
    by_cases hi : i < ds.length
    · rw [List.getElem?_append_left hi] at hdi
      obtain ⟨a', t1, t2, e1, e2⟩ := ih.2 i d hdi
      refine ⟨a', t1, t2, ?_, e2⟩
      rw [List.map_append, List.getElem?_append_left (by simp; omega)]
      exact e1
    · have : i = ds.length := by
        have := (List.getElem?_eq_some_iff.mp hdi).1
        simp at this
        omega
      subst this
      simp at hdi
      subst hdi
      refine ⟨a, t, t', ?_, ?_⟩
      · rw [List.map_append, List.getElem?_append_right (by simp; omega)]
        simp [hl]
      · have := (N (a, o) (hs _ (List.mem_append_right _ (.head _)))).1
        exact ⟨o, this, ho, x, hd⟩
theorem packD_get : ∀ (ws : List (List Nat)) (ah : List Nat) (i : Nat) (w : List Nat), ws[i]? = some w → (packD ah ws)[i]? = some (cp w ((ah :: ws).getD i []), w.drop (cp w ((ah :: ws).getD i [])))
  | [], _, _, _, h => by simp at h
  | a :: r, ah, 0, w, h => by
    simp at h
    subst h
    rfl
  | a :: r, ah, i + 1, w, h => by
    have := packD_get r a i w (by simpa using h)
    rw [packD, List.getElem?_cons_succ, this]
    rfl
theorem cp_take : ∀ (a b : List Nat), b.take (cp a b) ++ a.drop (cp a b) = a
  | [], b => by rw [cp_nil_l]; simp
  | a :: r, [] => by rw [cp_nil_r]; simp
  | a :: r, b :: t => by
    unfold cp
    split
    · rename_i h
      subst h
      simp [cp_take r t]
    · simp
theorem strs_append {vs ws : List Value} {ys zs : List Str} (h : StrsAre vs ys) (h2 : StrsAre ws zs) : StrsAre (vs ++ ws) (ys ++ zs) := by
  induction h with
  | nil => exact h2
  | cons y t _ ih => exact .cons _ _ ih
theorem rg5 : ∀ a < 7, ∀ b < 7, a ≤ b → Builtin.Range.small ((a : Nat) : Int) ((b : Nat) : Int) 1 = true ∧ Builtin.Range.rangeSize ((a : Nat) : Int) ((b : Nat) : Int) 1 = ((b - a : Nat) : Int) := by decide
def leastN (ws : List (List Nat)) (i : Nat) : Nat → Nat
  | 0 => (ws.getD i []).length
  | d + 1 => min (leastN ws i d) (cp (ws.getD (i + 1 + d) []) (ws.getD (i + d) []))
theorem tups_mem {ts : List (Addr × Obj)} {ds : List (Nat × List Nat)} (ht : TupsAre ts ds) : ∀ {i : Nat} {d : Nat × List Nat}, ds[i]? = some d → ∃ a o t t' x, (ts.map fun p => Value.ref p.1)[i]? = some (.ref a) ∧ (a, o) ∈ ts ∧ o.cls = .type "tuple" ∧ o.data = .seq #[.int (d.1 : Nat) t, .str (S d.2) t'] x := by
  induction ht with
  | nil => intro i d h; simp at h
  | @snoc ts ds a o n l t t' x h ho hd ih =>
    intro i d hdi
    have hl := h.len
    by_cases hi : i < ds.length
    · rw [List.getElem?_append_left hi] at hdi
      obtain ⟨a', o', t1, t2, x', e1, e2, e3⟩ := ih hdi
      refine ⟨a', o', t1, t2, x', ?_, List.mem_append_left _ e2, e3⟩
      rw [List.map_append, List.getElem?_append_left (by simp; omega)]
      exact e1
    · have : i = ds.length := by
        have := (List.getElem?_eq_some_iff.mp hdi).1
        simp at this
        omega
      subst this
      simp at hdi
      subst hdi
      refine ⟨a, o, t, t', x, ?_, List.mem_append_right _ (.head _), ho, hd⟩
      rw [List.map_append, List.getElem?_append_right (by simp; omega)]
      simp [hl]
theorem packD_ok : ∀ (ws : List (List Nat)) (ah : List Nat), (∀ x ∈ ws, isW x) → ∀ d ∈ packD ah ws, d.1 + d.2.length ≤ 4 ∧ isW d.2
  | [], _, _, d, h => by simp [packD] at h
  | a :: r, ah, hW, d, h => by
    rw [packD] at h
    rcases List.mem_cons.mp h with rfl | h
    · have h1 := hW a (.head _)
      refine ⟨?_, isW_drop h1 _⟩
      have h2 := cp_le a ah
      have h3 := h1.1
      dsimp only
      rw [List.length_drop]
      omega
    · exact packD_ok r a (fun x hx => hW x (.tail _ hx)) d h
theorem ltCps_iff : ∀ (a b : List Nat), PySem.Spec.ltCps a b = decide (a < b)
  | [], [] => by simp [PySem.Spec.ltCps]
  | [], _ :: _ => by simp [PySem.Spec.ltCps]
  | _ :: _, [] => by simp [PySem.Spec.ltCps]
  | a :: r, b :: t => by
    rw [PySem.Spec.ltCps, ltCps_iff r t, Bool.eq_iff_iff]
    simp [List.cons_lt_cons_iff]
theorem nl_trans {a b c : List Nat} (h1 : a ≤ b) (h2 : b ≤ c) : a ≤ c := List.le_trans h1 h2
theorem nl_anti {a b : List Nat} (h1 : a ≤ b) (h2 : b ≤ a) : a = b := List.le_antisymm h1 h2
theorem nl_total (a b : List Nat) : a ≤ b ∨ b ≤ a := List.le_total a b
theorem rising_pw : ∀ (ss : List (List Nat)) (p : List Nat), risingS (S p) (ss.map S) = true → (p :: ss).Pairwise (· ≤ ·)
  | [], p, _ => by simp
  | x :: r, p, h => by
    simp only [List.map_cons, risingS, Bool.and_eq_true, Bool.not_eq_true'] at h
    have h1 : p ≤ x := by
      have := h.1
      rw [ltCps_iff] at this
      have := of_decide_eq_false this
      simpa [S] using this
    have ih := rising_pw r x h.2
    rw [List.pairwise_cons] at ih ⊢
    refine ⟨fun y hy => ?_, List.pairwise_cons.mpr ih⟩
    rcases List.mem_cons.mp hy with rfl | hy
    · exact h1
    · exact nl_trans h1 (ih.1 y hy)
theorem sortedS_pw {ss : List (List Nat)} (h : sortedS (ss.map S) = true) : ss.Pairwise (· ≤ ·) := by
  cases ss with
  | nil => exact .nil
  | cons x r => exact rising_pw r x h
theorem bR_spec (p : Nat → Bool) (n : Nat) (hm : ∀ i j, i ≤ j → j < n → p i = true → p j = true) : ∀ (k lo hi : Nat), hi - lo ≤ k → lo ≤ hi → hi ≤ n → lo ≤ bR p lo hi ∧ bR p lo hi ≤ hi ∧ (∀ i, lo ≤ i → i < bR p lo hi → p i = false) ∧ (∀ i, bR p lo hi ≤ i → i < hi → p i = true)
  | 0, lo, hi, h1, h2, h3 => by
    have e : lo = hi := by omega
    subst e
    rw [bR, dif_neg (by omega)]
    exact ⟨Nat.le_refl _, Nat.le_refl _, fun i a b => by omega, fun i a b => by omega⟩
  | k + 1, lo, hi, h1, h2, h3 => by
    rw [bR]
    split
    · rename_i h
      split
      · rename_i hp
        obtain ⟨a, b, c, d⟩ := bR_spec p n hm k lo ((lo + hi) / 2) (by omega) (by omega) (by omega)
        refine ⟨a, by omega, c, fun i q1 q2 => ?_⟩
        by_cases hi2 : i < (lo + hi) / 2
        · exact d i q1 hi2
        · exact hm ((lo + hi) / 2) i (by omega) (by omega) hp
      · rename_i hp
        have hp : p ((lo + hi) / 2) = false := by simpa using hp
        obtain ⟨a, b, c, d⟩ := bR_spec p n hm k ((lo + hi) / 2 + 1) hi (by omega) (by omega) h3
        refine ⟨by omega, b, fun i q1 q2 => ?_, d⟩
        by_cases hi2 : i ≤ (lo + hi) / 2
        · cases hq : p i with
          | false => rfl
          | true => rw [hm i ((lo + hi) / 2) hi2 (by omega) hq] at hp; cases hp
        · exact c i (by omega) q2
    · exact ⟨Nat.le_refl _, h2, fun i a b => by omega, fun i a b => by omega⟩
theorem getD_get {ws : List (List Nat)} {i : Nat} (h : i < ws.length) : ws.getD i [] = ws[i] := by simp [List.getD, h]
theorem pw_mono {ws : List (List Nat)} (h : ws.Pairwise (· ≤ ·)) {i j : Nat} (hij : i ≤ j) (hj : j < ws.length) : ws.getD i [] ≤ ws.getD j [] := by
  rw [getD_get (by omega), getD_get hj]
  rcases Nat.lt_or_eq_of_le hij with h2 | rfl
  · exact List.pairwise_iff_getElem.mp h i j (by omega) hj h2
  · exact List.le_refl _
theorem insW_perm (ws : List (List Nat)) (x : List Nat) : (insW ws x).Perm (x :: ws) := by
  unfold insW
  refine List.perm_middle.trans ?_
  rw [List.take_append_drop]
theorem insW_sorted {ws : List (List Nat)} (x : List Nat) (h : ws.Pairwise (· ≤ ·)) : (insW ws x).Pairwise (· ≤ ·) := by
  have sp := bR_spec (fun i => decide (x < ws.getD i [])) ws.length (fun i j hij hj hp => by
    have hp := of_decide_eq_true hp
    exact decide_eq_true (Classical.byContradiction fun hn => nl_trans (pw_mono h hij hj) (show ws.getD j [] ≤ x from hn) hp)) ws.length 0 ws.length (Nat.le_refl _) (Nat.zero_le _) (Nat.le_refl _)
  unfold insW
  generalize bR (fun i => decide (x < ws.getD i [])) 0 ws.length = b at sp
  obtain ⟨_, hb, hf, ht⟩ := sp
  have hlow : ∀ a ∈ ws.take b, a ≤ x := by
    intro a ha
    obtain ⟨i, hi, rfl⟩ := List.getElem_of_mem ha
    rw [List.length_take] at hi
    have := of_decide_eq_false (hf i (Nat.zero_le _) (by omega))
    rw [getD_get (by omega)] at this
    rw [List.getElem_take]
    exact this
  have hhigh : ∀ a ∈ ws.drop b, x ≤ a := by
    intro a ha
    obtain ⟨i, hi, rfl⟩ := List.getElem_of_mem ha
    rw [List.length_drop] at hi
    have := of_decide_eq_true (ht (b + i) (Nat.le_add_right _ _) (by omega))
    rw [getD_get (by omega)] at this
    rw [List.getElem_drop]
    exact List.le_of_lt this
  rw [List.pairwise_append, List.pairwise_cons]
  refine ⟨h.sublist (List.take_sublist _ _), ⟨hhigh, h.sublist (List.drop_sublist _ _)⟩, ?_⟩
  intro a ha c hc
  rcases List.mem_cons.mp hc with rfl | hc
  · exact hlow a ha
  · exact nl_trans (hlow a ha) (hhigh c hc)
theorem foldZ_facts : ∀ (l : List Int) (ws : List (List Nat)), ws.Pairwise (· ≤ ·) → (l.foldl insZ ws).Pairwise (· ≤ ·) ∧ (l.foldl insZ ws).Perm (l.map (fun x => wf (1 + Int.fmod x 120).toNat []) ++ ws)
  | [], ws, h => ⟨h, .refl _⟩
  | a :: l, ws, h => by
    obtain ⟨h1, h2⟩ := foldZ_facts l (insZ ws a) (insW_sorted _ h)
    refine ⟨h1, h2.trans ?_⟩
    rw [List.map_cons, List.cons_append]
    exact (List.Perm.append_left _ (insW_perm ws _)).trans List.perm_middle
theorem sorted_eq {nums : List Int} {ss : List (List Nat)} (hp : ss.Perm (nums.map (fun x => wf (1 + Int.fmod x 120).toNat []))) (hs : ss.Pairwise (· ≤ ·)) : ss = nums.foldl insZ [] := by
  obtain ⟨h1, h2⟩ := foldZ_facts nums [] .nil
  rw [List.append_nil] at h2
  exact List.Perm.eq_of_pairwise (fun a b _ _ x y => nl_anti x y) hs h1 (hp.trans h2.symm)
section
open PyProof.V PySem.SeqAt
theorem noMix_strs : ∀ ns ms : List Str, noMixAll (ns.map PyData.str) (ms.map PyData.str) = true
  | [], [] => by simp [noMixAll]
  | [], _ :: _ => by simp [noMixAll]
  | _ :: _, [] => by simp [noMixAll]
  | _ :: r, _ :: q => by simp [noMixAll, noMix, noMix_strs r q]
theorem same_strs : ∀ ns : List Str, PySem.Spec.sameAll (ns.map PyData.str) (ns.map PyData.str) = true
  | [] => by simp [PySem.Spec.sameAll]
  | n :: r => by simp [PySem.Spec.sameAll, PySem.Spec.same, same_strs r]
theorem strOk_S : ∀ {l : List Nat}, isW l → PyData.strOk (S l) = true := by
  intro l h
  have : ∀ l ∈ Wall, PyData.strOk (S l) = true := by decide +kernel
  exact this l (mem_Wall h)
theorem shaped_S {ws : List (List Nat)} (h : ∀ x ∈ ws, isW x) : shaped (.list ((ws.map S).map PyData.str)) = true := by
  have h2 : PyData.depth (.list ((ws.map S).map PyData.str)) ≤ 64 := by simp only [PyData.depth, depthAll_strs']; omega
  show (PyData.canLay0 (.list ((ws.map S).map PyData.str)) && decide (PyData.depth (.list ((ws.map S).map PyData.str)) ≤ 64)) = true
  rw [Bool.and_eq_true]
  refine ⟨?_, decide_eq_true h2⟩
  simp only [PyData.canLay0, canLayAll_strs', List.all_map]
  exact List.all_eq_true.mpr fun x hx => strOk_S (h x hx)
section
variable {prog : Program} {w : World} {A : Around} {E : Value → Shared → Prop} {s : Shared} {Q : Value → Shared → Prop}
theorem reads_S {h : Heap} {a : Addr} {vs : List Value} {ss : List Str} (hl : h.IsList a vs.toArray) (hi : StrsAre vs ss) : Reads h (.ref a) (.list (ss.map PyData.str)) [a] := by
  obtain ⟨o, ho, hc, n, hd⟩ := hl
  exact Reads.list ho hc hd (by simpa using StrsAre.reads h hi)
theorem ne_strs {a b : Addr} {vs us : List Value} {ws : List (List Nat)} (hl : s.heap.IsList a vs.toArray) (hi : StrsAre vs (ws.map S)) (hl' : s.heap.IsList b us.toArray) (hi' : StrsAre us (ws.map S)) (hW : ∀ x ∈ ws, isW x) (hu : A.units + 64 < cLine)
    (h : Q (.bool false) s) : wpAny (model prog w) A (compareOp .NotEq (.ref a) (.ref b)) Q E s :=
  ne_dataH_same (reads_S hl hi) (reads_S hl' hi') (shaped_S hW) (shaped_S hW) hu (by simp only [noMix]; exact noMix_strs _ _) (by simp only [PySem.Spec.same]; rw [same_strs]; exact h)
theorem sorted_S {h₀ : Heap} {L : Addr} {m : Str → Option Value} {news : List (Addr × Obj)} {l : Addr} {vs : List Value} {nums : List Int} {ws : List (List Nat)} (F : Fr h₀ L s.heap m) (N : News h₀ L s.heap news) (hl : s.heap.IsList l vs.toArray)
    (hS : StrsAre vs ((nums.map (fun x => wf (1 + Int.fmod x 120).toNat [])).map S)) (h64 : nums.length < 64) (hw : ws = nums.foldl insZ [])
    (h : ∀ D vs' e h', Fr h₀ L h' m → News h₀ L h' ((D, listOf (List.toArray vs') e) :: news) → (∀ p ∈ news, p.1 < D) → StrsAre vs' (ws.map S) → Q (.ref D) { s with heap := h' }) : wpAny (model prog w) A (call (.builtin "sorted") [.ref l]) Q E s := by
  refine sorted_N_str F N hl hS (by rw [hS.length]; simpa using h64) fun h' vs' ss' e F' N' hS' hp hs => ?_
  obtain ⟨us, hus⟩ : ∃ us : List (List Nat), ss' = us.map S := ⟨ss'.map (fun x => x.cps.toList), by rw [List.map_map]; exact (List.map_id' ss').symm.trans (List.map_congr_left fun x _ => rfl)⟩
  subst hus
  have hp2 := hp.map (fun x : Str => x.cps.toList)
  have e1 : ∀ l : List (List Nat), (l.map S).map (fun x : Str => x.cps.toList) = l := fun l => by rw [List.map_map]; exact (List.map_congr_left fun x _ => rfl).trans (List.map_id' l)
  rw [e1, e1] at hp2
  have := sorted_eq hp2 (sortedS_pw hs)
  exact h _ vs' e h' F' N' (fun p hp => Nat.lt_succ_of_lt (Heap.lt_size (N p hp).1)) (by rw [hw, ← this]; exact hS')
end
end
theorem sgn_sg (r : Nat) : sgn r ∈ sg := by
  unfold sgn sg
  split
  · simp
  · split <;> simp
def Bw : Nat → Nat
  | 0 => 0
  | k + 1 => 3 * Bw k + 3
theorem wf_len : ∀ (k r : Nat) (w : List Nat), r ≤ Bw k → (wf r w).length ≤ w.length + k
  | 0, r, w, h => by
    have h : r = 0 := Nat.le_zero.mp h
    subst h
    rw [wf]; simp
  | k + 1, r, w, h => by
    rw [wf]
    split
    · omega
    · have := wf_len k ((r - 1) / 3) (sgn (r - 1) :: w) (by simp only [Bw] at h; omega)
      simp only [List.length_cons] at this
      omega
theorem wf_ge : ∀ (k r : Nat) (w : List Nat), Bw k < r → w.length + k < (wf r w).length
  | 0, r, w, h => by
    rw [wf, dif_neg (by simp only [Bw] at h; omega)]
    have : ∀ (k r : Nat) (w : List Nat), r ≤ k → w.length ≤ (wf r w).length := by
      intro k
      induction k with
      | zero => intro r w h; have h : r = 0 := by omega
                subst h; rw [wf]; simp
      | succ k ih =>
        intro r w h
        rw [wf]
        split
        · exact Nat.le_refl _
        · have := ih ((r - 1) / 3) (sgn (r - 1) :: w) (by omega)
          simp only [List.length_cons] at this
          omega
    have := this ((r - 1) / 3) _ (sgn (r - 1) :: w) (Nat.le_refl _)
    simp only [List.length_cons] at this
    omega
  | k + 1, r, w, h => by
    rw [wf, dif_neg (by omega)]
    have := wf_ge k ((r - 1) / 3) (sgn (r - 1) :: w) (by simp only [Bw] at h; omega)
    simp only [List.length_cons] at this
    omega
theorem wf_sg : ∀ (k r : Nat) (w : List Nat), r ≤ k → (∀ c ∈ w, c ∈ sg) → ∀ c ∈ wf r w, c ∈ sg
  | 0, r, w, h, hw => by
    have h : r = 0 := by omega
    subst h
    rw [wf]; simpa using hw
  | k + 1, r, w, h, hw => by
    rw [wf]
    split
    · exact hw
    · exact wf_sg k _ _ (by omega) (fun c hc => by
        rcases List.mem_cons.mp hc with rfl | hc
        · exact sgn_sg _
        · exact hw c hc)
theorem wf_isW {r : Nat} (h : r ≤ 120) : isW (wf r []) := by
  refine ⟨?_, wf_sg r r [] (Nat.le_refl _) (by simp)⟩
  have := wf_len 4 r [] h
  simpa using this
theorem wf_len3 {r : Nat} (h1 : 13 ≤ r) (h2 : r ≤ 39) : (wf r []).length = 3 := by
  have a := wf_len 3 r [] h2
  have b := wf_ge 2 r [] h1
  simp only [List.length_nil] at a b
  omega
theorem insW_mem {ws : List (List Nat)} {x y : List Nat} (h : y ∈ insW ws x) : y = x ∨ y ∈ ws := by
  unfold insW at h
  rcases List.mem_append.mp h with h | h
  · exact .inr (List.mem_of_mem_take h)
  · rcases List.mem_cons.mp h with h | h
    · exact .inl h
    · exact .inr (List.mem_of_mem_drop h)
theorem wz_isW (x : Int) : isW (wf (1 + Int.fmod x 120).toNat []) := wf_isW (by have := fm120 x; omega)
theorem fold_isW : ∀ (l : List Int) (ws : List (List Nat)), (∀ x ∈ ws, isW x) → ∀ x ∈ l.foldl insZ ws, isW x
  | [], ws, h => h
  | a :: l, ws, h => fold_isW l _ (fun x hx => by
      rcases insW_mem hx with rfl | hx
      · exact wz_isW a
      · exact h x hx)
theorem sw_facts (z : Int) : isW (wf (13 + Int.fmod z 27).toNat []) ∧ (wf (13 + Int.fmod z 27).toNat []).length = 3 := by
  have h1 := Int.fmod_nonneg_of_pos z (show (0 : Int) < 27 by decide)
  have h2 := Int.fmod_lt_of_pos z (show (0 : Int) < 27 by decide)
  exact ⟨wf_isW (by omega), wf_len3 (by omega) (by omega)⟩
theorem fold_len : ∀ (l : List Int) (ws : List (List Nat)), (l.foldl insZ ws).length = ws.length + l.length
  | [], ws => rfl
  | a :: l, ws => by rw [List.foldl_cons, fold_len l, insZ, insW_len, List.length_cons]; omega
theorem cp_self (a : List Nat) : cp a a = a.length := by
  induction a with
  | nil => rfl
  | cons x a ih => simp [cp, ih]
theorem cp_le_r : ∀ (a b : List Nat), cp a b ≤ b.length
  | [], b => by rw [cp_nil_l]; exact Nat.zero_le _
  | x :: a, [] => by rw [cp_nil_r]; exact Nat.zero_le _
  | x :: a, y :: b => by
    unfold cp
    split
    · have := cp_le_r a b; simp only [List.length_cons]; omega
    · exact Nat.zero_le _
theorem cons_le {x y : Nat} {a b : List Nat} (h : x :: a ≤ y :: b) : x < y ∨ (x = y ∧ a ≤ b) := by
  rcases Nat.lt_trichotomy x y with h1 | h1 | h1
  · exact .inl h1
  · refine .inr ⟨h1, fun hc => h ?_⟩
    rw [List.cons_lt_cons_iff]; exact .inr ⟨h1.symm, hc⟩
  · exact absurd (List.cons_lt_cons_iff.mpr (.inl h1)) h
theorem not_cons_le_nil {x : Nat} {a : List Nat} (h : x :: a ≤ []) : False := h (List.nil_lt_cons _ _)
theorem cp_min : ∀ {a b c : List Nat}, a ≤ b → b ≤ c → cp c a = min (cp b a) (cp c b)
  | [], b, c, _, _ => by rw [cp_nil_r, cp_nil_r]; simp
  | x :: a, [], c, h1, _ => (not_cons_le_nil h1).elim
  | x :: a, y :: b, [], _, h2 => (not_cons_le_nil h2).elim
  | x :: a, y :: b, z :: c, h1, h2 => by
    rcases cons_le h1 with l1 | ⟨rfl, e1⟩
    · have hz : x < z := by
        rcases cons_le h2 with l2 | ⟨rfl, _⟩
        · omega
        · exact l1
      simp only [cp]
      rw [if_neg (by omega), if_neg (by omega)]
      simp
    · rcases cons_le h2 with l2 | ⟨rfl, e2⟩
      · simp only [cp]
        rw [if_neg (show ¬ z = x by omega), if_neg (show ¬ z = x by omega)]
        simp
      · simp only [cp, if_true]
        have := cp_min e1 e2
        omega
theorem leastN_eq {ws : List (List Nat)} (hs : ws.Pairwise (· ≤ ·)) (i : Nat) : ∀ d, i + 1 + d < ws.length → leastN ws i (d + 1) = cp (ws.getD (i + 1 + d) []) (ws.getD i [])
  | 0, h => by
    show min (ws.getD i []).length (cp (ws.getD (i + 1) []) (ws.getD i [])) = _
    have := cp_le_r (ws.getD (i + 1) []) (ws.getD i [])
    show _ = cp (ws.getD (i + 1) []) (ws.getD i [])
    omega
  | d + 1, h => by
    rw [leastN, leastN_eq hs i d (by omega)]
    have := cp_min (a := ws.getD i []) (b := ws.getD (i + (d + 1)) []) (c := ws.getD (i + 1 + (d + 1)) []) (pw_mono hs (by omega) (by omega)) (pw_mono hs (by omega) (by omega))
    rw [this, show i + 1 + d = i + (d + 1) by omega]
theorem pre_cp : ∀ (a c : List Nat) (z : Nat), z ≤ a.length → (a.take z).isPrefixOf c = decide (z ≤ cp c a)
  | a, c, 0, _ => by simp
  | [], c, z + 1, h => by simp at h
  | x :: a, [], z + 1, _ => by rw [cp_nil_l]; simp
  | x :: a, y :: c, z + 1, h => by
    have ih := pre_cp a c z (by simpa using h)
    rw [List.take_succ_cons, List.isPrefixOf]
    by_cases e : x = y
    · subst e
      have e2 : cp (x :: c) (x :: a) = cp c a + 1 := by simp [cp]
      rw [e2, ih]
      simp
    · have e2 : cp (y :: c) (x :: a) = 0 := by simp only [cp]; rw [if_neg (fun h => e h.symm)]
      rw [e2]
      simp [e]
theorem prefix_law {ws : List (List Nat)} (hs : ws.Pairwise (· ≤ ·)) {i d z : Nat} (h : i + 1 + d < ws.length) (hz : z ≤ (ws.getD i []).length) :
    ((((ws.getD i []).take z).isPrefixOf (ws.getD (i + 1 + d) []) == true) != decide ((z : Int) ≤ (leastN ws i (d + 1) : Nat))) = false := by
  rw [pre_cp _ _ _ hz, leastN_eq hs i d h]
  have e : decide ((z : Int) ≤ ((cp (ws.getD (i + 1 + d) []) (ws.getD i []) : Nat) : Int)) = decide (z ≤ cp (ws.getD (i + 1 + d) []) (ws.getD i [])) := by
    simp only [Int.ofNat_le]
  rw [e]
  cases decide (z ≤ cp (ws.getD (i + 1 + d) []) (ws.getD i [])) <;> rfl
theorem take_pre {h w : List Nat} {z : Nat} (hz : h.length = z) : h.isPrefixOf w = decide (w.take z = h) := by
  subst hz
  rw [Bool.eq_iff_iff, List.isPrefixOf_iff_prefix, decide_eq_true_iff, List.prefix_iff_eq_take]
  exact eq_comm
theorem take_le : ∀ {a b : List Nat} (z : Nat), a ≤ b → a.take z ≤ b.take z
  | a, b, 0, _ => by simp
  | [], b, z + 1, _ => by simp
  | x :: a, [], z + 1, h => (not_cons_le_nil h).elim
  | x :: a, y :: b, z + 1, h => by
    rw [List.take_succ_cons, List.take_succ_cons]
    rcases cons_le h with l | ⟨rfl, e⟩
    · intro hc
      rcases List.cons_lt_cons_iff.mp hc with h1 | ⟨h1, _⟩ <;> omega
    · intro hc
      rcases List.cons_lt_cons_iff.mp hc with h1 | ⟨_, h1⟩
      · omega
      · exact take_le z e h1
theorem filter_range {p : Nat → Bool} : ∀ (n b e : Nat), b ≤ e → e ≤ n → (∀ i, i < n → (p i = true ↔ b ≤ i ∧ i < e)) → (List.range n).filter p = (List.range (e - b)).map (fun k => b + k)
  | 0, b, e, h1, h2, _ => by
    have : e - b = 0 := by omega
    rw [this]; rfl
  | n + 1, b, e, h1, h2, hp => by
    rw [List.range_succ, List.filter_append]
    by_cases he : e = n + 1
    · subst he
      by_cases hb : b = n + 1
      · subst hb
        rw [filter_range n n n (Nat.le_refl _) (Nat.le_refl _) (fun i hi => ⟨fun h => by have := (hp i (by omega)).mp h; omega, fun h => by omega⟩)]
        have : p n = false := by
          cases hq : p n with
          | false => rfl
          | true => have := (hp n (by omega)).mp hq; omega
        simp [this]
      · rw [filter_range n b n (by omega) (Nat.le_refl _) (fun i hi => ⟨fun h => by have := (hp i (by omega)).mp h; omega, fun h => (hp i (by omega)).mpr (by omega)⟩)]
        have : p n = true := (hp n (by omega)).mpr (by omega)
        rw [show n + 1 - b = (n - b) + 1 by omega, List.range_succ, List.map_append]
        simp [this, show b + (n - b) = n by omega]
    · rw [filter_range n b e h1 (by omega) (fun i hi => hp i (by omega))]
      have : p n = false := by
        cases hq : p n with
        | false => rfl
        | true => have := (hp n (by omega)).mp hq; omega
      simp [this]
theorem fits_law {ws : List (List Nat)} (hs : ws.Pairwise (· ≤ ·)) {hd : List Nat} {z bg en : Nat} (hz : hd.length = z)
    (hbg : bR (fun i => !decide ((ws.getD i []).take z < hd)) 0 ws.length = bg) (hen : bR (fun i => decide (hd < (ws.getD i []).take z)) bg ws.length = en) :
    bg ≤ en ∧ en ≤ ws.length ∧ (List.range ws.length).filter (fun p => hd.isPrefixOf (ws.getD p [])) = (List.range (en - bg)).map (fun k => bg + k) := by
  have s1 := bR_spec (fun i => !decide ((ws.getD i []).take z < hd)) ws.length (fun i j hij hj hp => by
    have hp : ¬ (ws.getD i []).take z < hd := by simpa using hp
    have h1 : hd ≤ (ws.getD i []).take z := hp
    have h2 := nl_trans h1 (take_le z (pw_mono hs hij hj))
    simpa using (show ¬ (ws.getD j []).take z < hd from h2)) ws.length 0 ws.length (Nat.le_refl _) (Nat.zero_le _) (Nat.le_refl _)
  rw [hbg] at s1
  obtain ⟨_, b2, b3, b4⟩ := s1
  have s2 := bR_spec (fun i => decide (hd < (ws.getD i []).take z)) ws.length (fun i j hij hj hp => by
    have hp := of_decide_eq_true hp
    exact decide_eq_true (Classical.byContradiction fun hn => nl_trans (take_le z (pw_mono hs hij hj)) (show (ws.getD j []).take z ≤ hd from hn) hp)) ws.length bg ws.length (by omega) b2 (Nat.le_refl _)
  rw [hen] at s2
  obtain ⟨e1, e2, e3, e4⟩ := s2
  refine ⟨e1, e2, filter_range _ _ _ e1 e2 fun i hi => ?_⟩
  rw [take_pre hz, decide_eq_true_iff]
  constructor
  · intro h
    refine ⟨?_, ?_⟩
    · rcases Nat.lt_or_ge i bg with hlt | hge
      · have := b3 i (Nat.zero_le _) hlt
        rw [h] at this
        simp [List.lt_irrefl] at this
      · exact hge
    · rcases Nat.lt_or_ge i en with hlt | hge
      · exact hlt
      · have := of_decide_eq_true (e4 i hge hi)
        rw [h] at this
        exact absurd this (List.lt_irrefl _)
  · rintro ⟨h1, h2⟩
    have q1 := b4 i h1 hi
    have q2 := e3 i h1 h2
    have q1 : ¬ (ws.getD i []).take z < hd := by simpa using q1
    have q2 : ¬ hd < (ws.getD i []).take z := by simpa using q2
    exact nl_anti (show _ ≤ _ from q2) (show _ ≤ _ from q1)
section
variable {prog : Program} {w : World} {A : Around} {E : Value → Shared → Prop} {s : Shared} {Q : Value → Shared → Prop}
theorem ne_intsE {a b : Addr} {vs us : List Value} {ns ms : List Int} (hl : s.heap.IsList a vs.toArray) (hi : IntsAre vs ns) (hl' : s.heap.IsList b us.toArray) (hi' : IntsAre us ms) (e : ns = ms) (hu : A.units + 64 < cLine)
    (h : Q (.bool false) s) : wpAny (model prog w) A (compareOp .NotEq (.ref a) (.ref b)) Q E s := by
  subst e
  exact ne_intsK hl hi hl' hi' hu (by simpa using h)
end
section
variable {prog : Program} {w : World} {A : Around} {E : Value → Shared → Prop} {s : Shared} {Q : Value → Shared → Prop} {D : List (PyData × PyData)} {d : Addr} {i : Int} {t : Tok}
theorem in_near {b : Bool} (T : IntTab prog w s.heap d D) (hb : (PySem.Spec.lookup (.int i) D).isSome = b) (h : Q (.bool b) { s with toks := s.toks + 1 }) : wpAny (model prog w) A (compareOp .In (.int i t) (.ref d)) Q E s := by
  subst hb; exact in_intTab T h
theorem notin_near {b : Bool} (T : IntTab prog w s.heap d D) (hb : (PySem.Spec.lookup (.int i) D).isSome = b) (h : Q (.bool (!b)) { s with toks := s.toks + 1 }) : wpAny (model prog w) A (compareOp .NotIn (.int i t) (.ref d)) Q E s := by
  subst hb; exact notin_intTab T h
theorem item_near {value slice : PySem.Expr} {v : Int} (T : IntTab prog w s.heap d D) (hl : PySem.Spec.lookup (.int i) D = some (.int v)) (h : ∀ u, Q (.int v u) { s with toks := s.toks + 1 })
    (hs : subscripted slice false (.ref d) (.int i t) = operate [.ref d, .int i t] (getItem (.ref d) (.int i t)) := by with_unfolding_all rfl) (hg : ∀ r, letTemporaryGo value (.ref d) r = pure () := by intro _; with_unfolding_all rfl) :
    wpAny (model prog w) A (subscriptTail value slice (.ref d) (.int i t)) Q E s :=
  item_intTab T hl (fun x hx => by have hx := hx s.heap; cases hx; exact h _) hs hg
end
theorem c_ellipE {prog : Program} {w : World} {p : Program} {loose : List Str} {mean : ExcName → Option Value} {mg mb : Str → Option Value} {dp un : Nat} {fr : Option (List Env)} {gd : Option (List Code)} {s : Shared} {Q E : Value → Shared → Prop} {h₀ : Heap} {L : Addr} {m : Str → Option Value} {news : List (Addr × Obj)} {a b : List Nat} {x : Str} {ta tb : Tok}
   (F : Fr h₀ L s.heap m) (N : News h₀ L s.heap news) (X : (hdP.heap_39 w.params).In h₀) (T : Top p loose mean mg mb h₀) (hd : dp + 5 < recursionLimit) (hu : un + 50 < cLine) (hx : x = S (a ++ [46, 46, 46])) (ha : isW a) (hb : isW b)
   (hret : ∀ h' tk', Fr h₀ L h' m → News h₀ L h' news → Q (.bool (a.isPrefixOf b)) {s with heap := h', toks := tk'}) : wpAny (model prog w) (ar dp un fr gd) (call (.ref 69) [.str x ta, .str (S b) tb]) Q E s := by
  subst hx
  exact c_ellip _ _ _ _ F N X T hd hu ha hb hret
theorem dots_app (a : List Nat) : S a ++ Str.ofString "..." = S (a ++ [46, 46, 46]) := S_append a [46, 46, 46]
theorem item_tup0 {prog : Program} {w : World} {A : Around} {E : Value → Shared → Prop} {s : Shared} {value slice : PySem.Expr} {t : Addr} {x y : Value} {u : Tok} {Q : Value → Shared → Prop} (ht : IsTup s.heap t #[x, y]) (h : Q x s)
    (hs : subscripted slice false (.ref t) (.int 0 u) = operate [.ref t, .int 0 u] (getItem (.ref t) (.int 0 u)) := by with_unfolding_all rfl) :
    wpAny (model prog w) A (subscriptTail value slice (.ref t) (.int 0 u)) Q E s :=
  tail_any ht.typeIs slot_tuple_getitem.lookup (getItem_tuple (j := 0) ht (by decide) (by decide) (by show seqIndex? 0 2 = some 0; decide) rfl h) hs
theorem c_levE {prog : Program} {w : World} {p : Program} {loose : List Str} {mean : ExcName → Option Value} {mg mb : Str → Option Value} {dp un : Nat} {fr : Option (List Env)} {gd : Option (List Code)} {s : Shared} {Q E : Value → Shared → Prop} {h₀ : Heap} {L : Addr} {m : Str → Option Value} {news : List (Addr × Obj)} {a b : List Nat} {ta tb tc : Tok} {c lv : Nat}
   (e : levF a b c = lv) (F : Fr h₀ L s.heap m) (N : News h₀ L s.heap news) (X : (hdP.heap_39 w.params).In h₀) (T : Top p loose mean mg mb h₀) (hd : dp + 10 < recursionLimit) (hu : un + 100 < cLine) (ha : isW a) (hb : isW b)
   (hret : ∀ t h' tk', Fr h₀ L h' m → News h₀ L h' news → Q (.int (lv : Nat) t) {s with heap := h', toks := tk'}) : wpAny (model prog w) (ar dp un fr gd) (call (.ref 28) [.str (S a) ta, .str (S b) tb, .int (c : Nat) tc]) Q E s := by
  subst e
  exact c_lev _ _ _ _ _ _ F N X T hd hu ha hb hret
end
section
def rowOf (t w : List Nat) : List Nat := w.foldl (fun ab c => rowF c t ab) ((List.range (t.length + 1)).map (fun k => 2 * k))
def DD (t w : List Nat) : Nat := (rowOf t w).getLastD 0
theorem lineF_ln (c : Nat) (t ab : List Nat) : ∀ k, (lineF c t ab k).length = k + 1
  | 0 => rfl
  | k + 1 => by rw [lineF, List.length_append, lineF_ln c t ab k]; rfl
theorem gtD_mem {l : List Nat} {i : Nat} (h : i < l.length) : l.getD i 0 ∈ l := by
  rw [show l.getD i 0 = l[i] by simp [h]]
  exact List.getElem_mem h
theorem lineF_ge {c m : Nat} {t ab : List Nat} : ∀ k, k < ab.length → (∀ x ∈ ab, m ≤ x) → ∀ x ∈ lineF c t ab k, m ≤ x
  | 0, hk, h, x, hx => by
    rw [lineF, List.mem_singleton] at hx
    have := h _ (gtD_mem (l := ab) (i := 0) hk)
    omega
  | k + 1, hk, h, x, hx => by
    rw [lineF] at hx
    have ih := lineF_ge (c := c) (m := m) (t := t) (ab := ab) k (by omega) h
    rcases List.mem_append.mp hx with hx | hx
    · exact ih x hx
    · rw [List.mem_singleton] at hx
      have a1 := h _ (gtD_mem (l := ab) (i := k) (by omega))
      have a2 := h _ (gtD_mem (l := ab) (i := k + 1) hk)
      have a3 := ih _ (gtD_mem (l := lineF c t ab k) (i := k) (by rw [lineF_ln]; omega))
      omega
theorem fold_row {t : List Nat} {m : Nat} : ∀ (w ab : List Nat), ab.length = t.length + 1 → (w.foldl (fun ab c => rowF c t ab) ab).length = t.length + 1 ∧ ((∀ x ∈ ab, m ≤ x) → ∀ x ∈ w.foldl (fun ab c => rowF c t ab) ab, m ≤ x)
  | [], ab, h => ⟨h, fun h => h⟩
  | c :: w, ab, h => by
    have ih := fold_row (t := t) (m := m) w (rowF c t ab) (lineF_ln _ _ _ _)
    exact ⟨ih.1, fun hm => ih.2 (lineF_ge _ (by omega) hm)⟩
theorem rowOf_len (t w : List Nat) : (rowOf t w).length = t.length + 1 := (fold_row (m := 0) w _ (by simp)).1
theorem rowOf_snoc (t w : List Nat) (c : Nat) : rowOf t (w ++ [c]) = rowF c t (rowOf t w) := by
  unfold rowOf; rw [List.foldl_append]; rfl
theorem rowOf_ge {t w : List Nat} {k m : Nat} (h : ∀ x ∈ rowOf t (w.take k), m ≤ x) : ∀ x ∈ rowOf t w, m ≤ x := by
  have e : rowOf t w = (w.drop k).foldl (fun ab c => rowF c t ab) (rowOf t (w.take k)) := by
    unfold rowOf; rw [← List.foldl_append, List.take_append_drop]
  rw [e]
  exact (fold_row _ _ (rowOf_len _ _)).2 h
theorem last_mem {l : List Nat} (h : l ≠ []) : l.getLastD 0 ∈ l := by
  rw [List.getLastD_eq_getLast?, List.getLast?_eq_some_getLast h]
  exact List.getLast_mem h
theorem rowOf_ne (t w : List Nat) : rowOf t w ≠ [] := fun e => by have := rowOf_len t w; rw [e] at this; cases this
theorem DD_gt {t w : List Nat} {k rc : Nat} (h : rc < minL (rowOf t (w.take k))) : rc < DD t w := by
  have h1 := (minL_spec (rowOf_ne t (w.take k))).2
  have h2 := rowOf_ge (w := w) h1 _ (last_mem (rowOf_ne t w))
  exact Nat.lt_of_lt_of_le h h2
def TB (t w : List Nat) (k : Nat) : List (List Nat) := (List.range (k + 1)).map fun j => rowOf t (w.take j)
theorem TB_len (t w : List Nat) (k : Nat) : (TB t w k).length = k + 1 := by simp [TB]
theorem TB_last (t w : List Nat) (k : Nat) : (TB t w k).getLastD [] = rowOf t (w.take k) := by
  unfold TB; rw [List.range_succ, List.map_append]
  exact getLastD_snoc _ _ _
theorem TB_take {t w : List Nat} {k s : Nat} (h : s ≤ k) : (TB t w k).take (s + 1) = TB t w s := by
  unfold TB
  rw [← List.map_take, List.take_range, Nat.min_eq_left (by omega)]
theorem TB_congr {t w w' : List Nat} {s : Nat} (h : w.take s = w'.take s) : TB t w s = TB t w' s := by
  unfold TB
  refine List.map_congr_left fun j hj => ?_
  have hj : j < s + 1 := List.mem_range.mp hj
  have e1 : w.take j = (w.take s).take j := by rw [List.take_take, Nat.min_eq_left (by omega)]
  have e2 : w'.take j = (w'.take s).take j := by rw [List.take_take, Nat.min_eq_left (by omega)]
  rw [e1, e2, h]
theorem take_snoc {w : List Nat} {k c : Nat} {r : List Nat} (h : w.drop k = c :: r) : k < w.length ∧ w.take (k + 1) = w.take k ++ [c] ∧ w.drop (k + 1) = r := by
  have hk : k < w.length := by
    rcases Nat.lt_or_ge k w.length with h1 | h1
    · exact h1
    · rw [List.drop_eq_nil_of_le h1] at h; cases h
  have e := List.drop_eq_getElem_cons hk
  rw [h] at e
  injection e with e1 e2
  refine ⟨hk, ?_, e2.symm⟩
  rw [e1, List.take_append_getElem]
theorem signs_TB {t w : List Nat} {rc : Nat} : ∀ (r : List Nat) (k : Nat), k ≤ w.length → w.drop k = r → ∃ k', k ≤ k' ∧ k' ≤ w.length ∧ signsF rc t (TB t w k) r = TB t w k' ∧ (k' = w.length ∨ rc < minL (rowOf t (w.take k')))
  | [], k, hk, h => by
    have : w.length ≤ k := List.drop_eq_nil_iff.mp h
    exact ⟨k, Nat.le_refl _, hk, rfl, .inl (by omega)⟩
  | c :: r, k, hk, h => by
    obtain ⟨h1, h2, h3⟩ := take_snoc h
    have e1 : rowF c t ((TB t w k).getLastD []) = rowOf t (w.take (k + 1)) := by rw [TB_last, h2, rowOf_snoc]
    have e2 : TB t w k ++ [rowOf t (w.take (k + 1))] = TB t w (k + 1) := by
      unfold TB; rw [List.range_succ (n := k + 1), List.map_append]; rfl
    rw [signsF, e1, e2]
    split
    · rename_i hlt
      exact ⟨k + 1, by omega, by omega, rfl, .inr hlt⟩
    · obtain ⟨k', a, b, c', d⟩ := signs_TB (t := t) (rc := rc) r (k + 1) h1 h3
      exact ⟨k', by omega, b, c', d⟩
def NInv (t : List Nat) (rc : Nat) (tb : List (List Nat)) (w : List Nat) : Prop := ∃ k, k ≤ w.length ∧ tb = TB t w k ∧ (k = w.length ∨ rc < minL (rowOf t (w.take k)))
theorem cp_pre : ∀ (a b : List Nat), a.take (cp a b) = b.take (cp a b)
  | [], b => by rw [cp_nil_l]; simp
  | a :: r, [] => by rw [cp_nil_r]; simp
  | a :: r, b :: t => by
    unfold cp
    split
    · rename_i h
      subst h
      rw [List.take_succ_cons, List.take_succ_cons, cp_pre r t]
    · simp
theorem near_step {t : List Nat} {rc : Nat} {tb : List (List Nat)} {w w' : List Nat} (h : NInv t rc tb w) :
    NInv t rc (nearStep rc t tb (cp w' w, w'.drop (cp w' w))).1 w' ∧ (nearStep rc t tb (cp w' w, w'.drop (cp w' w))).2 = if DD t w' ≤ rc then some (DD t w') else none := by
  obtain ⟨k, hk, rfl, hor⟩ := h
  have hc := cp_pre w' w
  have hl := cp_le w' w
  have hr := cp_le_r w' w
  generalize cp w' w = s at *
  unfold nearStep
  dsimp only
  rw [TB_len, TB_last, Nat.add_sub_cancel]
  by_cases hskip : rc < minL (rowOf t (w.take k)) ∧ k ≤ s
  · rw [if_pos hskip]
    have e : w.take k = w'.take k := by
      have e1 : w.take k = (w.take s).take k := by rw [List.take_take, Nat.min_eq_left hskip.2]
      have e2 : w'.take k = (w'.take s).take k := by rw [List.take_take, Nat.min_eq_left hskip.2]
      rw [e1, e2, hc]
    have hm := hskip.1
    rw [e] at hm
    refine ⟨⟨k, by omega, TB_congr e, .inr hm⟩, ?_⟩
    rw [if_neg (by have := DD_gt hm; omega)]
  · rw [if_neg hskip]
    have hsk : s ≤ k := by
      rcases hor with h1 | h1
      · omega
      · rcases Nat.lt_or_ge s k with h2 | h2
        · omega
        · exact absurd ⟨h1, h2⟩ hskip
    rw [TB_take hsk, TB_congr (w' := w') hc.symm]
    obtain ⟨k', a, b, c, d⟩ := signs_TB (t := t) (rc := rc) (w'.drop s) s hl rfl
    rw [c]
    refine ⟨⟨k', b, rfl, d⟩, ?_⟩
    dsimp only
    rw [TB_last]
    rcases d with rfl | d
    · rw [List.take_length]; rfl
    · have h1 := DD_gt (w := w') d
      have h2 := DD_gt (w := w'.take k') (k := k') (by rw [List.take_take, Nat.min_self]; exact d)
      have h3 : rc < (rowOf t (w'.take k')).getLastD 0 := h2
      rw [if_neg (by omega), if_neg (by omega)]
def foundN (t : List Nat) (rc : Nat) : List (List Nat) → Nat → List (Nat × Nat)
  | [], _ => []
  | w :: ws, i => ((if DD t w ≤ rc then some (DD t w) else none).toList.map fun v => (i, v)) ++ foundN t rc ws (i + 1)
theorem near_run {t : List Nat} {rc : Nat} : ∀ (ws : List (List Nat)) (ah : List Nat) (i : Nat) (tb : List (List Nat)) (nr : List (Nat × Nat)), NInv t rc tb ah → (nearRun rc t (packD ah ws) i tb nr).2 = nr ++ foundN t rc ws i
  | [], _, _, _, _, _ => by simp [packD, nearRun, foundN]
  | w :: ws, ah, i, tb, nr, h => by
    obtain ⟨h1, h2⟩ := near_step (w' := w) h
    rw [packD, nearRun, near_run ws w (i + 1) _ _ h1, h2, foundN, List.append_assoc]
def gStep (y : Nat) (a : List Nat) (j : Nat) (st : LvSt) : LvSt :=
  let sub := st.d + costN y (a.getD j 0)
  let d' := st.row.getD j 0
  let r' := min (min st.r d' + 2) sub
  ⟨st.row.set j r', d', r', if r' < st.mn then r' else st.mn⟩
def gIn (y : Nat) (a : List Nat) : Nat → Nat → LvSt → LvSt
  | 0, _, st => st
  | n + 1, j, st => gIn y a n (j + 1) (gStep y a j st)
def gx (a b : List Nat) : Nat → Nat → List Nat → Nat → Nat × Nat
  | 0, _, _, res => (0, res)
  | n + 1, i, row, _ =>
    let st := gIn (b.getD i 0) a a.length 0 ⟨row, 2 * i, 2 * i, 9223372036854775807⟩
    let p := gx a b n (i + 1) st.row st.r
    (max st.mn p.1, p.2)
def gx3 (a b : List Nat) : Nat × Nat :=
  let p := gx a b b.length 0 (lvRow a.length) 0
  (max ((b.length - a.length) * 2) p.1, p.2)
def gx2 (a b : List Nat) : Nat × Nat :=
  if a.isEmpty || b.isEmpty then (0, 2 * (a.length + b.length)) else if b.length < a.length then gx3 b a else gx3 a b
def gx1 (a b : List Nat) : Nat × Nat := gx2 (a.take (a.length - suf a b)) (b.take (b.length - suf a b))
def gxF (a b : List Nat) : Nat × Nat := if a = b then (0, 0) else gx1 (a.drop (cp a b)) (b.drop (cp a b))
theorem gIn_eq {y : Nat} {a : List Nat} (hc : ∀ x ∈ sg, ∀ z ∈ sg, substF [x] [z] = costN x z) (hy : y ∈ sg) (ha : ∀ c ∈ a, c ∈ sg) : ∀ (n j : Nat) (st : LvSt), j + n ≤ a.length → lvIn y a n j st = gIn y a n j st
  | 0, _, _, _ => rfl
  | n + 1, j, st, h => by
    have hj : j < a.length := by omega
    have e : substF [y] [a.getD j 0] = costN y (a.getD j 0) := hc _ hy _ (by rw [show a.getD j 0 = a[j] by simp [hj]]; exact ha _ (List.getElem_mem hj))
    have e2 : lvStep y a j st = gStep y a j st := by unfold lvStep gStep; rw [e]
    rw [lvIn, gIn, e2]
    exact gIn_eq hc hy ha n (j + 1) _ (by omega)
theorem ite_mx {c x y r : Nat} : (if c < x then c + 1 else if c < y then c + 1 else r) = if c < max x y then c + 1 else r := by
  by_cases h1 : c < x
  · rw [if_pos h1, if_pos (by omega)]
  · rw [if_neg h1]
    by_cases h2 : c < y
    · rw [if_pos h2, if_pos (by omega)]
    · rw [if_neg h2, if_neg (by omega)]
theorem gOut_eq {a b : List Nat} (hc : ∀ x ∈ sg, ∀ z ∈ sg, substF [x] [z] = costN x z) (ha : ∀ c ∈ a, c ∈ sg) (hb : ∀ c ∈ b, c ∈ sg) (c : Nat) : ∀ (n i : Nat) (row : List Nat) (res : Nat), i + n ≤ b.length → lvOut a b c n i row res = if c < (gx a b n i row res).1 then c + 1 else (gx a b n i row res).2
  | 0, _, _, _, _ => by simp [lvOut, gx]
  | n + 1, i, row, res, h => by
    have hi : i < b.length := by omega
    have hy : b.getD i 0 ∈ sg := by rw [show b.getD i 0 = b[i] by simp [hi]]; exact hb _ (List.getElem_mem hi)
    have e := gIn_eq hc hy ha a.length 0 ⟨row, 2 * i, 2 * i, 9223372036854775807⟩ (by omega)
    have ih := gOut_eq hc ha hb c n (i + 1) (gIn (b.getD i 0) a a.length 0 ⟨row, 2 * i, 2 * i, 9223372036854775807⟩).row (gIn (b.getD i 0) a a.length 0 ⟨row, 2 * i, 2 * i, 9223372036854775807⟩).r (by omega)
    rw [lvOut, e]
    show (if c < _ then c + 1 else lvOut a b c n (i + 1) _ _) = _
    rw [ih]
    exact ite_mx
theorem g3_eq {a b : List Nat} (hc : ∀ x ∈ sg, ∀ z ∈ sg, substF [x] [z] = costN x z) (ha : ∀ c ∈ a, c ∈ sg) (hb : ∀ c ∈ b, c ∈ sg) (c : Nat) : lv3 a b c = if c < (gx3 a b).1 then c + 1 else (gx3 a b).2 := by
  have e := gOut_eq hc ha hb c b.length 0 (lvRow a.length) 0 (by omega)
  rw [lv3, e]
  exact ite_mx
theorem gF_eq {a b : List Nat} (hc : ∀ x ∈ sg, ∀ z ∈ sg, substF [x] [z] = costN x z) (ha : ∀ c ∈ a, c ∈ sg) (hb : ∀ c ∈ b, c ∈ sg) (c : Nat) : levF a b c = if c < (gxF a b).1 then c + 1 else (gxF a b).2 := by
  unfold levF gxF
  by_cases h : a = b
  · rw [if_pos h, if_pos h]; simp
  · rw [if_neg h, if_neg h]
    have ha1 : ∀ x ∈ (a.drop (cp a b)).take ((a.drop (cp a b)).length - suf (a.drop (cp a b)) (b.drop (cp a b))), x ∈ sg := fun x hx => ha x (List.mem_of_mem_drop (List.mem_of_mem_take hx))
    have hb1 : ∀ x ∈ (b.drop (cp a b)).take ((b.drop (cp a b)).length - suf (a.drop (cp a b)) (b.drop (cp a b))), x ∈ sg := fun x hx => hb x (List.mem_of_mem_drop (List.mem_of_mem_take hx))
    unfold lv1 gx1
    generalize (a.drop (cp a b)).take _ = a1 at *
    generalize (b.drop (cp a b)).take _ = b1 at *
    unfold lv2 gx2
    split
    · simp
    · split
      · exact g3_eq hc hb1 ha1 c
      · exact g3_eq hc ha1 hb1 c
def mB (a b : Nat) : Nat := cond (Nat.ble a b) a b
def xB (a b : Nat) : Nat := cond (Nat.ble a b) b a
def cB (c d : Nat) : Nat := cond (Nat.beq c d) 0 (cond (cond (Nat.beq c 97) (Nat.beq d 65) (cond (Nat.beq c 65) (Nat.beq d 97) false)) 1 2)
theorem mB_eq (a b : Nat) : mB a b = min a b := by
  unfold mB
  cases h : Nat.ble a b with
  | true => have := Nat.le_of_ble_eq_true h; show a = min a b; omega
  | false =>
    have : ¬ a ≤ b := fun e => by rw [Nat.ble_eq_true_of_le e] at h; cases h
    show b = min a b; omega
theorem xB_eq (a b : Nat) : xB a b = max a b := by
  unfold xB
  cases h : Nat.ble a b with
  | true => have := Nat.le_of_ble_eq_true h; show b = max a b; omega
  | false =>
    have : ¬ a ≤ b := fun e => by rw [Nat.ble_eq_true_of_le e] at h; cases h
    show a = max a b; omega
theorem beqN (a b : Nat) : Nat.beq a b = decide (a = b) := by
  cases h : Nat.beq a b with
  | true => rw [Nat.eq_of_beq_eq_true h]; simp
  | false => rw [decide_eq_false (Nat.ne_of_beq_eq_false h)]
theorem cB_eq (c d : Nat) : cB c d = costN c d := by
  unfold cB costN
  simp only [beqN]
  by_cases h1 : c = d
  · simp [h1]
  · by_cases h2 : c = 97
    · subst h2
      by_cases h3 : d = 65 <;> simp [h1, h3]
    · by_cases h4 : c = 65
      · subst h4
        by_cases h5 : d = 97 <;> simp [h1, h5]
      · simp [h1, h2, h4]
def eIn (y : Nat) : List Nat → List Nat → Nat → Nat → Nat → List Nat → (List Nat → Nat → Nat → Nat × Nat) → Nat × Nat
  | x :: a, p :: row, d, r, mn, acc, k => (fun r' => eIn y a row p r' (mB mn r') (r' :: acc) k) (mB (Nat.add (mB r p) 2) (Nat.add d (cB y x)))
  | _, _, _, r, mn, acc, k => k acc.reverse r mn
def ex (a : List Nat) : List Nat → Nat → List Nat → Nat → Nat × Nat
  | [], _, _, res => (0, res)
  | y :: b, i, row, _ => eIn y a row i i 9223372036854775807 [] fun row' r mn => (fun p : Nat × Nat => (xB mn p.1, p.2)) (ex a b (Nat.add i 2) row' r)
def lB (c : Nat) : List Nat → List Nat → Nat → List Nat
  | x :: t, p :: q :: ab, l => (fun v => v :: lB c t (q :: ab) v) (mB (mB (Nat.add p (cB c x)) (Nat.add q 2)) (Nat.add l 2))
  | _, _, _ => []
def rB (c : Nat) (t : List Nat) : List Nat → List Nat
  | [] => []
  | p :: ab => (fun l => l :: lB c t (p :: ab) l) (Nat.add p 2)
theorem drop_head {l : List Nat} {j x : Nat} {r : List Nat} (h : l.drop j = x :: r) : l.getD j 0 = x ∧ l.drop (j + 1) = r := by
  have hj : j < l.length := by
    rcases Nat.lt_or_ge j l.length with h1 | h1
    · exact h1
    · rw [List.drop_eq_nil_of_le h1] at h; cases h
  have e := List.drop_eq_getElem_cons hj
  rw [h] at e
  injection e with e1 e2
  exact ⟨by simp [hj, e1], e2.symm⟩
theorem mid_get {acc rs : List Nat} {j p : Nat} (h : acc.length = j) : (acc.reverse ++ p :: rs).getD j 0 = p := by
  subst h
  simp [List.getD]
theorem mid_set {acc rs : List Nat} {j p v : Nat} (h : acc.length = j) : (acc.reverse ++ p :: rs).set j v = (v :: acc).reverse ++ rs := by
  subst h
  rw [List.set_append_right _ _ (by simp)]
  simp
theorem eIn_eq {y : Nat} {a : List Nat} : ∀ (as rs acc : List Nat) (j d r mn : Nat), a.drop j = as → acc.length = j → rs.length = as.length → ∀ k,
    eIn y as rs d r mn acc k = k (gIn y a as.length j ⟨acc.reverse ++ rs, d, r, mn⟩).row (gIn y a as.length j ⟨acc.reverse ++ rs, d, r, mn⟩).r (gIn y a as.length j ⟨acc.reverse ++ rs, d, r, mn⟩).mn
  | [], [], acc, j, d, r, mn, _, _, _, k => by simp [eIn, gIn]
  | [], _ :: _, _, _, _, _, _, _, _, h, _ => by simp at h
  | _ :: _, [], _, _, _, _, _, _, _, h, _ => by simp at h
  | x :: as, p :: rs, acc, j, d, r, mn, h1, h2, h3, k => by
    obtain ⟨e1, e2⟩ := drop_head h1
    have ih := eIn_eq (y := y) as rs (min (min r p + 2) (d + costN y x) :: acc) (j + 1) p (min (min r p + 2) (d + costN y x)) (min mn (min (min r p + 2) (d + costN y x))) e2 (by simp [h2]) (by simpa using h3) k
    have es : gStep y a j ⟨acc.reverse ++ p :: rs, d, r, mn⟩ = ⟨(min (min r p + 2) (d + costN y x) :: acc).reverse ++ rs, p, min (min r p + 2) (d + costN y x), min mn (min (min r p + 2) (d + costN y x))⟩ := by
      unfold gStep
      dsimp only
      rw [e1, mid_get h2, mid_set h2]
      congr 1
      split <;> omega
    rw [List.length_cons, gIn, es, ← ih, eIn]
    simp only [mB_eq, cB_eq]
    rfl
theorem gIn_len (y : Nat) (a : List Nat) : ∀ (n j : Nat) (st : LvSt), (gIn y a n j st).row.length = st.row.length
  | 0, _, _ => rfl
  | n + 1, j, st => by rw [gIn, gIn_len y a n]; simp [gStep]
theorem ex_eq {a b : List Nat} : ∀ (bs : List Nat) (i : Nat) (row : List Nat) (res : Nat), b.drop i = bs → row.length = a.length → ex a bs (2 * i) row res = gx a b bs.length i row res
  | [], _, _, _, _, _ => rfl
  | y :: bs, i, row, res, h1, h2 => by
    obtain ⟨e1, e2⟩ := drop_head h1
    have hl := gIn_len y a a.length 0 ⟨row, 2 * i, 2 * i, 9223372036854775807⟩
    rw [ex, eIn_eq (a := a) a row [] 0 _ _ _ (by rfl) rfl h2, List.length_cons, gx]
    dsimp only [List.reverse_nil, List.nil_append] at hl ⊢
    rw [e1]
    generalize gIn y a a.length 0 ⟨row, 2 * i, 2 * i, 9223372036854775807⟩ = st at *
    have ih := ex_eq (a := a) bs (i + 1) st.row st.r e2 (by omega)
    rw [show 2 * (i + 1) = Nat.add (2 * i) 2 by show _ = 2 * i + 2; omega] at ih
    rw [ih, xB_eq]
theorem lB_eq {c : Nat} {t ab : List Nat} (hab : ab.length = t.length + 1) : ∀ (ts : List Nat) (k l : Nat) (pre : List Nat), t.drop k = ts → k + ts.length = t.length → pre.length = k → lineF c t ab k = pre ++ [l] →
    lineF c t ab t.length = (pre ++ [l]) ++ lB c ts (ab.drop k) l
  | [], k, l, pre, _, h2, _, h4 => by
    have : k = t.length := by simpa using h2
    subst this
    rw [h4, lB]; simp
    all_goals simp
  | x :: ts, k, l, pre, h1, h2, h3, h4 => by
    obtain ⟨e1, e2⟩ := drop_head h1
    rw [List.length_cons] at h2
    have hk : k < ab.length := by omega
    have hk1 : k + 1 < ab.length := by omega
    have d1 := List.drop_eq_getElem_cons hk
    have d2 := List.drop_eq_getElem_cons hk1
    have g1 : ab.getD k 0 = ab[k] := by simp [hk]
    have g2 : ab.getD (k + 1) 0 = ab[k + 1] := by simp [hk1]
    have g3 : (pre ++ [l]).getD k 0 = l := by subst h3; simp [List.getD]
    have step : lineF c t ab (k + 1) = (pre ++ [l]) ++ [min (min (ab[k] + costN c x) (ab[k + 1] + 2)) (l + 2)] := by
      rw [lineF, h4, g1, g2, e1, g3]
    have ih := lB_eq hab ts (k + 1) _ (pre ++ [l]) e2 (by omega) (by simp [h3]) step
    rw [ih, d1, d2, lB]
    simp only [mB_eq, cB_eq, List.append_assoc, List.cons_append, List.nil_append]
    rfl
theorem rB_eq {c : Nat} {t ab : List Nat} (hab : ab.length = t.length + 1) : rB c t ab = rowF c t ab := by
  cases ab with
  | nil => simp at hab
  | cons p ab =>
    have := lB_eq (c := c) hab t 0 (p + 2) [] rfl (Nat.zero_add _) rfl rfl
    unfold rowF
    rw [this, rB]
    rfl
theorem fold_rB {t : List Nat} : ∀ (w ab : List Nat), ab.length = t.length + 1 → w.foldl (fun ab c => rB c t ab) ab = w.foldl (fun ab c => rowF c t ab) ab
  | [], _, _ => rfl
  | c :: w, ab, h => by
    rw [List.foldl_cons, List.foldl_cons, rB_eq h]
    exact fold_rB w _ (lineF_ln _ _ _ _)
def ex3 (a b : List Nat) : Nat × Nat := (fun p : Nat × Nat => (xB ((b.length - a.length) * 2) p.1, p.2)) (ex a b 0 (lvRow a.length) 0)
def ex2 (a b : List Nat) : Nat × Nat := cond (a.isEmpty || b.isEmpty) (0, 2 * (a.length + b.length)) (cond (Nat.ble a.length b.length) (ex3 a b) (ex3 b a))
def ex1 (a b : List Nat) : Nat × Nat := ex2 (a.take (a.length - suf a b)) (b.take (b.length - suf a b))
def exF (a b : List Nat) : Nat × Nat := if a = b then (0, 0) else ex1 (a.drop (cp a b)) (b.drop (cp a b))
theorem ex3_eq (a b : List Nat) : ex3 a b = gx3 a b := by
  unfold ex3 gx3
  have := ex_eq (a := a) (b := b) b 0 (lvRow a.length) 0 rfl (by simp [lvRow])
  rw [Nat.mul_zero] at this
  rw [this]
  dsimp only
  rw [xB_eq]
theorem exF_eq (a b : List Nat) : exF a b = gxF a b := by
  unfold exF gxF
  split
  · rfl
  · unfold ex1 gx1
    generalize (a.drop (cp a b)).take _ = a1
    generalize (b.drop (cp a b)).take _ = b1
    unfold ex2 gx2
    rw [ex3_eq, ex3_eq]
    cases h : (a1.isEmpty || b1.isEmpty) with
    | true => simp
    | false =>
      cases h2 : Nat.ble a1.length b1.length with
      | true => have := Nat.le_of_ble_eq_true h2; simp; omega
      | false =>
        have : ¬ a1.length ≤ b1.length := fun e => by rw [Nat.ble_eq_true_of_le e] at h2; cases h2
        simp; omega
def DDB (t w : List Nat) : Nat := (w.foldl (fun ab c => rB c t ab) ((List.range (t.length + 1)).map (fun k => 2 * k))).getLastD 0
theorem DDB_eq (t w : List Nat) : DDB t w = DD t w := by
  unfold DDB DD rowOf
  rw [fold_rB w _ (by simp)]
def chkD (t w : List Nat) : Bool := (fun d p => Nat.beq p.2 d && Nat.ble p.1 d) (DDB t w) (exF t w)
theorem chk1 : ((Wn 3).take 9).all (fun t => Wall.all fun w => chkD t w) = true := by decide +kernel
theorem chk2 : (((Wn 3).drop 9).take 9).all (fun t => Wall.all fun w => chkD t w) = true := by decide +kernel
theorem chk3 : ((Wn 3).drop 18).all (fun t => Wall.all fun w => chkD t w) = true := by decide +kernel
theorem chk_all {t w : List Nat} (ht : t ∈ Wn 3) (hw : w ∈ Wall) : chkD t w = true := by
  rw [← List.take_append_drop 9 (Wn 3)] at ht
  rcases List.mem_append.mp ht with h | h
  · exact List.all_eq_true.mp (List.all_eq_true.mp chk1 t h) w hw
  · rw [← List.take_append_drop 9 ((Wn 3).drop 9)] at h
    rcases List.mem_append.mp h with h | h
    · exact List.all_eq_true.mp (List.all_eq_true.mp chk2 t h) w hw
    · rw [List.drop_drop] at h
      exact List.all_eq_true.mp (List.all_eq_true.mp chk3 t h) w hw
theorem lev_DD {t w : List Nat} (hc : ∀ x ∈ sg, ∀ z ∈ sg, substF [x] [z] = costN x z) (ht : isW t) (h3 : t.length = 3) (hw : isW w) (c : Nat) : (DD t w ≤ c → levF t w c = DD t w) ∧ (c < DD t w → c < levF t w c) := by
  have hm := mem_Wn t ht.2
  rw [h3] at hm
  have hk := chk_all hm (mem_Wall hw)
  rw [gF_eq hc ht.2 hw.2 c]
  simp only [chkD, DDB_eq, exF_eq, Bool.and_eq_true] at hk
  have h1 := Nat.eq_of_beq_eq_true hk.1
  have h2 := Nat.le_of_ble_eq_true hk.2
  generalize DD t w = d at *
  generalize gxF t w = p at *
  refine ⟨fun h => ?_, fun h => ?_⟩
  · rw [if_neg (by omega), h1]
  · split <;> omega
theorem same_int (a b : Int) : PySem.Spec.same (.int a) (.int b) = decide (a = b) := by
  rw [PySem.Spec.same]
  first | rfl | (by_cases h : a = b <;> simp [h])
theorem lookup_skip {l r : List (Nat × Nat)} {q : Nat} (h : ∀ p ∈ l, p.1 ≠ q) : PySem.Spec.lookup (.int (q : Nat)) (nrD (l ++ r)) = PySem.Spec.lookup (.int (q : Nat)) (nrD r) := by
  induction l with
  | nil => rfl
  | cons p l ih =>
    show PySem.Spec.lookup _ ((PyData.int (p.1 : Nat), PyData.int (p.2 : Nat)) :: nrD (l ++ r)) = _
    have h1 := h p (.head _)
    rw [PySem.Spec.lookup, same_int, if_neg (by simpa using fun e => h1 (Int.ofNat_inj.mp e))]
    exact ih fun p hp => h p (.tail _ hp)
theorem found_keys {t : List Nat} {rc : Nat} : ∀ (ws : List (List Nat)) (i : Nat), ∀ p ∈ foundN t rc ws i, i ≤ p.1
  | [], _, p, hp => (nomatch hp)
  | w :: ws, i, p, hp => by
    rw [foundN] at hp
    rcases List.mem_append.mp hp with hp | hp
    · obtain ⟨v, _, rfl⟩ := List.mem_map.mp hp
      exact Nat.le_refl _
    · have := found_keys ws (i + 1) p hp
      omega
theorem lookup_none {r : List (Nat × Nat)} {q : Nat} (h : ∀ p ∈ r, p.1 ≠ q) : PySem.Spec.lookup (.int (q : Nat)) (nrD r) = none := by
  have := lookup_skip (r := []) h
  rw [List.append_nil] at this
  rw [this]; rfl
theorem found_look {t : List Nat} {rc : Nat} : ∀ (ws : List (List Nat)) (i q : Nat), q < ws.length → PySem.Spec.lookup (.int ((i + q : Nat) : Int)) (nrD (foundN t rc ws i)) = if DD t (ws.getD q []) ≤ rc then some (.int ((DD t (ws.getD q []) : Nat) : Int)) else none
  | [], _, _, h => (nomatch h)
  | w :: ws, i, 0, _ => by
    rw [foundN, List.getD_cons_zero, Nat.add_zero]
    split
    · show PySem.Spec.lookup _ ((PyData.int (i : Nat), PyData.int (DD t w : Nat)) :: _) = _
      rw [PySem.Spec.lookup, same_int, if_pos (by simp)]
    · exact lookup_none fun p hp => by have := found_keys ws (i + 1) p hp; omega
  | w :: ws, i, q + 1, h => by
    rw [foundN, List.getD_cons_succ, lookup_skip, show i + (q + 1) = (i + 1) + q by omega]
    · exact found_look ws (i + 1) q (by simpa using h)
    · intro p hp
      obtain ⟨v, _, rfl⟩ := List.mem_map.mp hp
      show i ≠ i + (q + 1)
      omega
theorem subst_cost : ∀ x ∈ sg, ∀ z ∈ sg, substF [x] [z] = costN x z := by decide +kernel
theorem near_lev {ws : List (List Nat)} {sw : List Nat} {rc : Nat} (hs : ws.Pairwise (· ≤ ·)) (hW : ∀ x ∈ ws, isW x) (hsW : isW sw) (hsl : sw.length = 3) (h1 : 1 ≤ rc) (h4 : rc ≤ 4) {q : Nat} (hq : q < ws.length) :
    (∃ v : Nat, PySem.Spec.lookup (.int (q : Nat)) (nrD (nearRun rc sw (packD [] ws) 0 [(List.range (sw.length + 1)).map (fun k => 2 * k)] []).2) = some (.int (v : Nat)) ∧ levF sw (ws.getD q []) rc = v) ∨
    (PySem.Spec.lookup (.int (q : Nat)) (nrD (nearRun rc sw (packD [] ws) 0 [(List.range (sw.length + 1)).map (fun k => 2 * k)] []).2) = none ∧ rc < levF sw (ws.getD q []) rc) := by
  have hI : NInv sw rc [(List.range (sw.length + 1)).map (fun k => 2 * k)] [] := ⟨0, Nat.le_refl _, rfl, .inl rfl⟩
  have hl := found_look (t := sw) (rc := rc) ws 0 q hq
  rw [Nat.zero_add] at hl
  rw [near_run ws [] 0 _ [] hI, List.nil_append, hl]
  have hwq : isW (ws.getD q []) := by rw [getD_get hq]; exact hW _ (List.getElem_mem hq)
  obtain ⟨d1, d2⟩ := lev_DD subst_cost hsW hsl hwq rc
  by_cases h : DD sw (ws.getD q []) ≤ rc
  · exact .inl ⟨_, if_pos h, d1 h⟩
  · exact .inr ⟨if_neg h, d2 (by omega)⟩
end
theorem kw34 : True := by
  k_with_none
  (k_with "m exec While Compare cons nil" => ((with_reducible show wpAny _ _ (exec (Stmt.While _ _ _ _) _) _ _ _); refine hold ?_))
  (k_with "m exec While BoolOp cons nil" => ((with_reducible show wpAny _ _ (exec (Stmt.While _ _ _ _) _) _ _ _); refine hold ?_))
  (k_with "m exec While BinOp cons nil" => ((with_reducible show wpAny _ _ (exec (Stmt.While _ _ _ _) _) _ _ _); refine hold ?_))
  (k_with "m my enter" => k_dflt (refine' enter ?r8k1 ?r8k2 ?r8k6 ?r8k7 ?r8k8 ?r8k9 ?r8kB ?_ ?r8c2 ?r8c3 ?r8c4 ?r8c5; (case r8k1 => k_asm); (case r8k2 => k_asm); (case r8k6 => k_is); (case r8k7 => k_is); (case r8k8 => ktr_room); (case r8k9 => first | exact BindsTo.of_eq rfl | exact kp_binds (by assumption) (fun _ => rfl)); (case r8c5 => decide); (case r8kB => exact locs rfl); (case r8c2 => exact rfl); (case r8c3 => exact rfl); (case r8c4 => exact rfl)))
  (k_with "m my go" => ((try k_fold); (repeat' (first | (k_unfold; (try dsimp only)) | walk1 | (dsimp only; first | k_unfold | walk1))); (all_goals (try dsimp only))))
  (k_with "m my size" => first | omega | (simp only [len_S, len_toArr, List.length_map, List.size_toArray, Str.length_append, PySem.Str.length_append, sizeLine_eq, List.length_append, List.length_cons, List.length_nil] at *; omega) | (simp only [len_S, Str.length_append, sizeLine_eq] at *; size_fits))
  (k_with "m binaryOp Add str str" => ((with_reducible show wpAny _ _ (binaryOp Operator.Add (Value.str _ _) (Value.str _ _)) _ _ _); (refine' PyProof.Rows.add_str ?_ ?r11hsz); (case r11hsz => walk_at "my size"); intro _ _))
  (k_with "m call builtin:list.insert" => (k_here; (with_reducible show wpAny _ _ (call (Value.builtin _) [Value.ref _, Value.int _ _, _]) _ _ _); k_dflt (refine' kl_insert ?r12F ?r12N ?r12f ?r12e ?r12U ?r12z ?_; (case r12F => k_asm); (case r12N => k_asm); (case r12U => k_upd); (case r12e => exact rfl); (case r12f => walk_at "my fit"); (case r12z => walk_at "my size")); intro _ _ _; (try k_sweep)))
  (k_with "m my fit" => first | with_reducible exact fits0 | exact fits_nat (by omega) | exact fits_nat (by walk_at "my size"))
  (k_with "m my mem" => ((try dsimp only [List.cons_append, List.nil_append, List.append_nil]); kst_allIn))
  (k_with "m my list" => first | (with_reducible assumption) | assumption | exact Fr.lst (by k_asm) (by assumption) | exact News.isList (by k_asm) (by k_mem))
  (k_with "m call builtin:len" => ((with_reducible show wpAny _ _ (call (Value.builtin "len") [Value.ref _]) _ _ _); (refine' len_at ?r16k1 ?r16k2 ?_; (case r16k1 => walk_at "my list"); (case r16k2 => walk_at "my size")); intro _ _))
  (k_with "m my idx" => first | exact fdm2 _ _ | exact rfl | exact (Int.natCast_add _ _).symm)
  (k_with "m my item" => ((with_reducible show wpAny _ _ (subscriptTail _ _ (Value.ref _) (Value.int _ _)) _ _ _); first | ((refine' item_strs ?r18k1 ?r18k2 ?r18k3 ?r18k4 ?r18k5 ?_; (case r18k1 => walk_at "my list"); (case r18k2 => with_reducible assumption); (case r18k3 => walk_at "my idx"); (case r18k4 => walk_at "my size"); (case r18k5 => walk_at "my size")); intro _) | ((refine' item_ints ?r18k1 ?r18k2 ?r18k3 ?r18k4 ?r18k5 ?_; (case r18k1 => walk_at "my list"); (case r18k2 => with_reducible assumption); (case r18k3 => walk_at "my idx"); (case r18k4 => walk_at "my size"); (case r18k5 => walk_at "my size")); intro _)))
  (k_with "m setItem ref int" => ((with_reducible show wpAny _ _ (setItem (Value.ref _) (Value.int _ _) _) _ _ _); k_dflt (refine' set_atL ?r19F ?r19N ?r19z ?r19i ?r19b ?r19U ?_; (case r19F => k_asm); (case r19N => k_asm); (case r19U => k_upd); (case r19z => walk_at "my idx"); (case r19i => walk_at "my size"); (case r19b => walk_at "my size")); intro _ _ _; (try k_sweep)))
  (k_with "m subscriptTail Name Name ref int" => k_dflt (walk_at "my item"))
  (k_with "m my nat" => first | with_reducible exact natAdd1 _ | with_reducible exact natAdd2 _ | with_reducible exact (Int.natCast_add _ _).symm | with_reducible exact rfl)
  (k_with "m call builtin:min" => ((with_reducible show wpAny _ _ (call (Value.builtin _) [Value.int _ _, Value.int _ _]) _ _ _); k_dflt (refine' min_nat ?r22x ?r22y ?r22hh ?r22F ?r22N ?_; (case r22F => k_asm); (case r22N => k_asm); (case r22hh => with_unfolding_all rfl); (case r22x => walk_at "my nat"); (case r22y => walk_at "my nat")); intro _ _ _ _ _; (try k_sweep)))
  (k_with "m exec For Name Name cons nil" => ((with_reducible show wpAny _ _ (exec (Stmt.For _ _ _ _ _) _) _ _ _); k_dflt (refine for_mine ?_)))
  (k_with "m exec For Name Call cons nil" => ((with_reducible show wpAny _ _ (exec (Stmt.For _ _ _ _ _) _) _ _ _); k_dflt (refine for_mine ?_)))
  (k_with "m exec For Name Subscript cons nil" => ((with_reducible show wpAny _ _ (exec (Stmt.For _ _ _ _ _) _) _ _ _); k_dflt (refine for_mine ?_)))
  (k_with "m exec For Tuple Name cons nil" => ((with_reducible show wpAny _ _ (exec (Stmt.For _ _ _ _ _) _) _ _ _); k_dflt (refine for_mine ?_)))
  (k_with "m truthy str" => ((refine' truthy_S ?r23k1 ?_; (case r23k1 => first | omega | (simp only [List.length_drop, List.length_take]; omega) | walk_at "my size")); intro _))
  (k_with "m call builtin:len" => ((with_reducible show wpAny _ _ (call (Value.builtin "len") [Value.str _ _]) _ _ _); (refine' len_strS ?r24k1 ?_; (case r24k1 => walk_at "my size")); intro _ _))
  (k_with "m my isw" => first | assumption | (refine isW_drop ?_ _; walk_at "my isw") | (refine isW_take ?_ _; walk_at "my isw"))
  (k_with "m my small" => first | omega | (simp only [List.length_drop, List.length_take]; omega) | exact drop_ne (by assumption) | exact take_ne (by assumption) | exact emp_ne (by assumption) | exact emp_k (by assumption) (by omega) | (have := drop_ne (by assumption); omega) | (have := take_ne (by assumption); omega) | (have := emp_ne (by assumption); omega))
  (k_with "m my slice" => ((with_reducible rename Fr _ _ _ _ => F'); (with_reducible rename News _ _ _ _ => N'); first | ((with_reducible show wpAny _ _ (subscriptTail _ (Expr.Slice (some _) none none _) _ _) _ _ _); (refine' sl_from (s := ⟨_, _, _, _, _⟩) ?r27z ?r27k1 ?r27k2 F' N' ?_; (case r27z => walk_at "my nat"); (case r27k1 => walk_at "my isw"); (case r27k2 => walk_at "my small")); clear F' N'; intro _ _ _ _ _) | ((with_reducible show wpAny _ _ (subscriptTail _ (Expr.Slice none (some _) none _) _ _) _ _ _); (refine' sl_nn (s := ⟨_, _, _, _, _⟩) ?r27k1 F' N' ?_; (case r27k1 => walk_at "my isw")); clear F' N'; intro _ _ _ _ _) | ((with_reducible show wpAny _ _ (subscriptTail _ (Expr.Slice none (some _) none _) _ _) _ _ _); (refine' sl_neg (s := ⟨_, _, _, _, _⟩) ?r27k1 ?r27k2 ?r27k3 F' N' ?_; (case r27k1 => walk_at "my isw"); (case r27k2 => omega); (case r27k3 => walk_at "my small")); clear F' N'; intro _ _ _ _ _) | ((with_reducible show wpAny _ _ (subscriptTail _ (Expr.Slice none (some _) none _) _ _) _ _ _); (refine' sl_to (s := ⟨_, _, _, _, _⟩) ?r27z ?r27k1 ?r27k2 F' N' ?_; (case r27z => walk_at "my nat"); (case r27k1 => walk_at "my isw"); (case r27k2 => walk_at "my small")); clear F' N'; intro _ _ _ _ _)))
  (k_with "m subscriptTail Name Slice str ref" => walk_at "my slice")
  (k_with "m my sitem" => ((with_reducible show wpAny _ _ (subscriptTail _ _ (Value.str (S _) _) (Value.int _ _)) _ _ _); first | ((refine' it_neg ?r29z ?r29k1 ?r29k2 ?r29k3 ?_; (case r29z => exact negsub _); (case r29k1 => walk_at "my small"); (case r29k2 => omega); (case r29k3 => walk_at "my small")); intro _ _) | ((refine' it_pos ?r29z ?r29k1 ?r29k2 ?_; (case r29z => walk_at "my nat"); (case r29k1 => walk_at "my small"); (case r29k2 => walk_at "my small")); intro _ _)))
  (k_with "m subscriptTail Name Name str int" => walk_at "my sitem")
  (k_with "m subscriptTail Name BinOp str int" => walk_at "my sitem")
  (k_with "m my elt" => first | with_reducible exact List.mem_cons_self | (with_reducible refine List.mem_cons_of_mem _ ?_; walk_at "my elt") | (with_reducible refine List.mem_append_right _ ?_; walk_at "my elt") | (with_reducible refine List.mem_append_left _ ?_; walk_at "my elt"))
  (k_with "m my sub" => first | with_reducible exact sb_nil | with_reducible exact sb_rfl | (with_reducible refine sb_keep ?_; walk_at "my sub") | (with_reducible refine sb_app ?_ ?_; (walk_at "my sub"); (walk_at "my sub")) | (with_reducible refine sb_cons ?_ ?_; (walk_at "my elt"); (walk_at "my sub")) | (with_reducible refine sb_tl ?_; walk_at "my sub") | (with_reducible refine sb_l ?_; walk_at "my sub") | (with_reducible refine sb_r ?_; walk_at "my sub"))
  (k_with "m my sb" => ((try dsimp only [List.cons_append, List.nil_append, List.append_nil]); walk_at "my sub"))
  (k_with "m my step" => (first | (k_unfold; (try dsimp only)) | walk1 | (dsimp only; first | k_unfold | walk1)))
  (k_with "m subscriptTail List cons Slice ref ref" => ((with_reducible show wpAny _ _ (subscriptTail _ (PySem.Expr.Slice _ none none _) (Value.ref _) (Value.ref _)) _ _ _); k_dflt (refine' slice_from ?r36sfF ?r36sfN ?r36sfl ?r36sfp ?r36sfq ?r36sfy ?r36sfi ?r36sfz ?_ ?r36sfs; (case r36sfF => k_asm); (case r36sfN => k_asm); (case r36sfl => walk_at "my list"); (case r36sfp => kmk_part); (case r36sfq => kmk_part); (case r36sfy => exact rfl); (case r36sfi => exact .cons _ _ (.cons _ _ (.cons _ _ (.cons _ _ .nil)))); (case r36sfs => with_unfolding_all rfl); (case r36sfz => exact Nat.le_of_ble_eq_true rfl)); intro _ _ _ _ _ l1 _; (try k_lt l1); (revert l1; intro _); (try k_sweep)))
  (k_with "m eval ListComp" => (lcg_look; k_dflt (refine LCg.ListComp_U (F₀ := by k_asm) (by rfl) (by decide) (by rfl) (by decide) (by rfl) ?_); k_dflt lcg_toSrc))
  (k_with "m my csz" => (rw [sizeLine_eq, List.size_toArray]; omega))
  (k_with "m CompSrc" => (k_dflt (refine LCg.CompSrc.ledger (by rfl) (by k_asm) (by k_asm) (by k_mem) (by walk_at "my csz") ?_; intro _; refine hold ?_)))
  (k_with "m call builtin:sorted" => ((with_reducible show wpAny _ _ (call (Value.builtin _) [Value.ref _]) _ _ _); k_dflt (refine' sorted_S (ws := _) ?r40ssF ?r40ssN ?r40ssl ?r40ssS ?r40ss6 ?r40ssw ?_; (case r40ssF => k_asm); (case r40ssN => k_asm); (case r40ssl => walk_at "my list"); (case r40ssS => with_reducible assumption); (case r40ssw => with_reducible assumption); (case r40ss6 => omega)); intro _ _ _ _ _ _ l1 _; (try k_lt l1); (revert l1; intro _); (try k_sweep)))
  (k_with "m call ref" => ((with_reducible show wpAny _ _ (call (Value.ref 102) _) _ _ _); k_dflt (refine' c_near _ _ _ _ _ _ _ ?r41cnF ?r41cnN ?r41cnX ?r41cnT ?r41cnd ?r41cnu ?r41cnr ?r41cnv ?r41cnl ?r41cno ?r41cnW ?_; (case r41cnF => k_asm); (case r41cnN => k_asm); (case r41cnX => k_asm); (case r41cnT => k_asm); (case r41cnd => walk_at "my room"); (case r41cnu => walk_at "my room"); (case r41cnr => walk_at "my list"); (case r41cnv => exact tups_in (by k_asm) (by with_reducible assumption) (fun p hp => by simp [hp])); (case r41cnl => omega); (case r41cno => with_reducible assumption); (case r41cnW => with_reducible assumption)); intro _ _ _ _ _ _ _ _ _ _ _; (try k_sweep)))
  (k_with "m call ref" => ((with_reducible show wpAny _ _ (call (Value.ref 28) _) _ _ _); k_dflt (refine' c_levE ?r42cle ?r42clF ?r42clN ?r42clX ?r42clT ?r42cld ?r42clu ?r42cla ?r42clb ?_; (case r42cle => with_reducible assumption); (case r42clF => k_asm); (case r42clN => k_asm); (case r42clX => k_asm); (case r42clT => k_asm); (case r42cld => walk_at "my room"); (case r42clu => walk_at "my room"); (case r42cla => with_reducible assumption); (case r42clb => with_reducible assumption)); intro _ _ _ _ _; (try k_sweep)))
  (k_with "m compareOp In int ref" => ((with_reducible show wpAny _ _ (compareOp CmpOp.In (Value.int _ _) (Value.ref _)) _ _ _); k_dflt (refine' in_near ?r43inT ?r43inb ?_; (case r43inT => k_tabat); (case r43inb => with_reducible assumption))))
  (k_with "m compareOp NotIn int ref" => ((with_reducible show wpAny _ _ (compareOp CmpOp.NotIn (Value.int _ _) (Value.ref _)) _ _ _); k_dflt (refine' notin_near ?r44inT ?r44inb ?_; (case r44inT => k_tabat); (case r44inb => with_reducible assumption))))
  (k_with "m subscriptTail Name Name ref int" => ((with_reducible show wpAny _ _ (subscriptTail _ _ (Value.ref _) (Value.int _ _)) _ _ _); k_dflt (refine' item_near ?r45inT ?r45inl ?_; (case r45inT => k_tabat); (case r45inl => with_reducible assumption)); intro _))
  (k_with "m call type:list" => ((with_reducible show wpAny _ _ (call (Value.type "list") [Value.ref _]) _ _ _); k_dflt (refine' list_range_mine ?r46lrh ?r46lrF ?r46lrN ?r46lrr ?r46lrs ?r46lrn ?r46lrl ?_; (case r46lrh => exact rfl); (case r46lrF => k_asm); (case r46lrN => k_asm); (case r46lrr => assumption); (case r46lrs => with_reducible assumption); (case r46lrn => with_reducible assumption); (case r46lrl => omega)); intro _ _ _ _ _ _ _ _ _; (try k_sweep)))
  (k_with "m compareOp NotEq ref ref" => ((with_reducible show wpAny _ _ (compareOp CmpOp.NotEq (Value.ref _) (Value.ref _)) _ _ _); k_dflt (refine' ne_intsE ?r47nsl ?r47nsi ?r47nsm ?r47nsj ?r47nse ?r47nsu ?_; (case r47nsl => walk_at "my list"); (case r47nsi => with_reducible assumption); (case r47nsm => walk_at "my list"); (case r47nsj => with_reducible assumption); (case r47nse => with_reducible assumption); (case r47nsu => walk_at "my room"))))
  (k_with "m compareOp NotEq ref ref" => ((with_reducible show wpAny _ _ (compareOp CmpOp.NotEq (Value.ref _) (Value.ref _)) _ _ _); k_dflt (refine' ne_strs ?r48nsl ?r48nsi ?r48nsm ?r48nsj ?r48nsW ?r48nsu ?_; (case r48nsl => walk_at "my list"); (case r48nsi => with_reducible assumption); (case r48nsm => walk_at "my list"); (case r48nsj => with_reducible assumption); (case r48nsW => with_reducible assumption); (case r48nsu => walk_at "my room"))))
  (k_with "m my item" => ((with_reducible show wpAny _ _ (subscriptTail _ _ (Value.ref _) (Value.int _ _)) _ _ _); (refine' item_at ?r49k1 ?r49k2 ?r49k3 ?r49k4 ?_; (case r49k1 => walk_at "my list"); (case r49k2 => walk_at "my idx"); (case r49k4 => with_reducible assumption); (case r49k3 => walk_at "my size"))))
  (k_with "m my memt" => first | with_reducible assumption | (refine' List.mem_cons_of_mem _ ?_; walk_at "my memt"))
  (k_with "m subscriptTail Subscript Name Name Constant ref int" => ((with_reducible show wpAny _ _ (subscriptTail _ _ (Value.ref _) (Value.int 0 _)) _ _ _); k_dflt (refine' item_tup0 ?r51itt ?_; (case r51itt => exact ⟨_, News.get (by k_asm) (by walk_at "my memt"), by assumption, _, by assumption⟩))))
  (k_with "m call ref" => ((with_reducible show wpAny _ _ (call (Value.ref 69) _) _ _ _); k_dflt (refine' c_ellipE ?r52ceF ?r52ceN ?r52ceX ?r52ceT ?r52ced ?r52ceu ?r52cex ?r52cea ?r52ceb ?_; (case r52ceF => k_asm); (case r52ceN => k_asm); (case r52ceX => k_asm); (case r52ceT => k_asm); (case r52ced => walk_at "my room"); (case r52ceu => walk_at "my room"); (case r52cex => exact dots_app _); (case r52cea => walk_at "my isw"); (case r52ceb => walk_at "my isw")); intro _ _ _ _; (try k_sweep)))
  (k_with "m subscriptTail Subscript Name Name Slice str ref" => walk_at "my slice")
  (k_with "m my key" => (k_dflt (refine' lam_key ?r54lX ?r54lg ?r54lo ?r54lr ?r54lc ?r54ls ?r54ld ?r54ll ?r54l8 ?r54lW ?r54lb ?r54l1 ?r54l2 ?r54l3 ?r54l4 ?r54l5 ?r54l6 ?r54l7; (case r54lX => exact Frag.In.keeps (by assumption) (Fr.keep (by k_asm))); (case r54lg => exact News.get (by k_asm) (by k_mem)); (case r54lo => exact rfl); (case r54lr => exact codeRec_news (by k_asm) (by k_mem) (by assumption) (by assumption)); (case r54lc => exact rfl); (case r54ls => exact News.get (by k_asm) (by k_mem)); (case r54ld => assumption); (case r54ll => exact (Top.nolimit (by k_asm)).keeps (Fr.keep (by k_asm))); (case r54l8 => omega); (case r54lW => with_reducible assumption); (case r54lb => intro _ _; rfl); (case r54l1 => exact rfl); (case r54l2 => exact rfl); (case r54l3 => exact rfl); (case r54l4 => decide); (case r54l5 => exact rfl); (case r54l6 => intro _ _; rfl); (case r54l7 => intro _ _; rfl))))
  (k_with "m call ref" => ((with_reducible show wpAny _ _ (call (Value.ref 55) _ _) _ _ _); k_dflt (refine' c_bleftk _ _ _ _ _ _ _ ?r55blf ?r55blk ?r55blF ?r55blN ?r55blX ?r55blT ?r55bld ?r55blu ?r55blr ?r55blv ?r55bll ?_; (case r55blF => k_asm); (case r55blN => k_asm); (case r55blX => k_asm); (case r55blT => k_asm); (case r55bld => walk_at "my room"); (case r55blu => walk_at "my room"); (case r55blr => walk_at "my list"); (case r55blv => with_reducible assumption); (case r55bll => omega); (case r55blf => exact ⟨_, _, _, _, News.get (by k_asm) (by k_mem)⟩); (case r55blk => walk_at "my key")); intro _ _ _ _ _; (try k_sweep)))
  (k_with "m call ref" => ((with_reducible show wpAny _ _ (call (Value.ref 46) _ _) _ _ _); k_dflt (refine' c_brightk _ _ _ _ _ _ _ ?r56bro _ _ ?r56brf ?r56brk ?r56brF ?r56brN ?r56brX ?r56brT ?r56brd ?r56bru ?r56brr ?r56brv ?r56brl ?_; (case r56brF => k_asm); (case r56brN => k_asm); (case r56brX => k_asm); (case r56brT => k_asm); (case r56brd => walk_at "my room"); (case r56bru => walk_at "my room"); (case r56brr => walk_at "my list"); (case r56brv => with_reducible assumption); (case r56brl => omega); (case r56bro => omega); (case r56brf => exact ⟨_, _, _, _, News.get (by k_asm) (by k_mem)⟩); (case r56brk => walk_at "my key")); intro _ _ _ _ _; (try k_sweep)))
  (k_with "m CompSrcT" => (k_dflt (refine LCt.CompSrcT.range (by rfl) (by k_asm) (by k_asm) (by assumption) (rg1_small (by omega)) (rg1_size _) (by rw [sizeLine_eq]; omega) ?_; intro _; refine hold ?_)))
  (k_with "m execs cons" => ((with_reducible show wpAny _ _ (execs (Stmt.Assign [PySem.Expr.Name ("begin" : Str) _] _ _ :: _) _) _ _ _); refine hold ?_))
  (k_with "m execs cons" => ((with_reducible show wpAny _ _ (execs (Stmt.Assign [PySem.Expr.Name ("end" : Str) _] _ _ :: _) _) _ _ _); refine hold ?_))
  (k_with "m my room" => exact Nat.le_of_ble_eq_true (by with_unfolding_all rfl))
  (k_with "m call ref" => ((with_reducible show wpAny _ _ (call (Value.ref 90) _) _ _ _); k_dflt (refine' c_pack _ _ _ ?r61cpF ?r61cpN ?r61cpX ?r61cpT ?r61cpd ?r61cpu ?r61cpr ?r61cpv ?r61cpl ?r61cpW ?_; (case r61cpF => k_asm); (case r61cpN => k_asm); (case r61cpX => k_asm); (case r61cpT => k_asm); (case r61cpd => walk_at "my room"); (case r61cpu => walk_at "my room"); (case r61cpr => walk_at "my list"); (case r61cpv => with_reducible assumption); (case r61cpl => omega); (case r61cpW => with_reducible assumption)); intro _ _ _ _ _ _ _ _ _; (try k_sweep)))
  (k_with "m call ref" => ((with_reducible show wpAny _ _ (call (Value.ref 97) _) _ _ _); k_dflt (refine' c_read _ _ _ _ _ ?r62crB ?r62crF ?r62crN ?r62crX ?r62crT ?r62crf ?r62crk ?r62crd ?r62cru ?r62crr ?r62crv ?r62cro ?r62crW ?r62crl ?_; (case r62crB => assumption); (case r62crF => k_asm); (case r62crN => k_asm); (case r62crX => k_asm); (case r62crT => k_asm); (case r62crf => exact rfl); (case r62crk => exact rfl); (case r62crd => walk_at "my room"); (case r62cru => walk_at "my room"); (case r62crr => exact List.Mem.head _); (case r62crv => with_reducible assumption); (case r62cro => exact rfl); (case r62crW => with_reducible assumption); (case r62crl => omega)); intro _ _ _ _ _ _ _ _ _; (try k_sweep)))
  (k_with "m call ref" => ((with_reducible show wpAny _ _ (call (Value.ref 37) _) _ _ _); k_dflt (refine' c_insort _ _ _ _ _ _ ?r63ciF ?r63ciN ?r63ciU ?r63ciX ?r63ciT ?r63cid ?r63ciu ?r63civ ?r63cil ?_; (case r63ciF => k_asm); (case r63ciN => k_asm); (case r63ciU => k_updF); (case r63ciX => k_asm); (case r63ciT => k_asm); (case r63cid => walk_at "my room"); (case r63ciu => walk_at "my room"); (case r63civ => with_reducible assumption); (case r63cil => omega)); intro _ _ _ _ _ _ N'; (try dsimp only at N'); (revert N'; intro _); (try k_sweep)))
  (k_with "m call ref" => ((with_reducible show wpAny _ _ (call (Value.ref 76) _) _ _ _); k_dflt (refine' c_wordZ ?r64cwF ?r64cwN ?r64cwX ?r64cwT ?r64cwd ?r64cwu ?r64cwh ?_; (case r64cwF => k_asm); (case r64cwN => k_asm); (case r64cwX => k_asm); (case r64cwT => k_asm); (case r64cwd => walk_at "my room"); (case r64cwu => walk_at "my room"); (case r64cwh => first | exact fm27 _ | exact fm120 _)); intro _ _ _ _ _; (try k_sweep)))
  exact True.intro
section
local macro_rules | `(tactic| k_all) => `(tactic| with_reducible assumption)

set_option maxHeartbeats 8000000 in
def lawA : PSigma (fun P : Prop => Hid P → PySem.Challenge.rw_ty0034_01.Holds) := by
  apply PSigma.mk
  case snd =>
    intro hole
    refine hdP.2 ⟨?_⟩
    unfold hdP
    dsimp only
    k_go0
    all_goals (try k_fold)
    rename_i w s0 s1 mg mb G9 Y9 fa o9 pm9 doc9 ho9 hg9 X9 V9 T9 B9 TE9 TW9 hcd9 ns hs9 hlay9 hL9 hr9 hl29 wl1 wl2 la vs wl3 hLs9 ra9 w19 r09 hI hr99 hcond hcond2 hD9 h1 tk1 o1 o2 o3 c1 c2 c3 X0 X T K F N l0
    have hlen : ns.length ≤ 63 := by omega
    clear hcond hcond2 hD9 hr99 r09 w19 ra9 hLs9 hl29 hr9 hL9 hlay9 hs9 hcd9 hT9 TW9 TE9 B9 T9 V9 X9 hT8 Y9 G9
    clear X0 ho9
    replace codeHd : CodeHd (ghostOf s1.heap [(106, 104)]) 106 104 := codeHd
    replace c1 : o1.data = Data.cell none := c1
    replace c2 : o2.data = Data.cell none := c2
    replace c3 : o3.data = Data.cell none := c3
    replace F : Fr (ghostOf s1.heap [(106, 104)]) s1.heap.objs.size h1 (kstB (fun _ => none) [(Str.ofString "script", .ref la)]) := F
    generalize ghostOf s1.heap [(106, 104)] = h₀ at X T K F lifted N codeHd
    generalize s1.heap.objs.size = L at F N l0 ⊢
    have htk := hI.take 5
    dsimp only
    refine exec_cut (h₀ := h₀) (L := L) (σ := Addr × List Value) (fun c => [(Str.ofString "script", .ref la), (Str.ofString "numbers", .ref c.1)])
      (fun c => [(c.1, listOf c.2.toArray 0), (L + 1 + 1 + 1, o1), (L + 1 + 1, o2), (L + 1, o3), (104, tabObj #[])])
      (fun c => IntsAre c.2 (ns.take 5 ++ [8, 86, 94, 32].drop (ns.take 5).length) ∧ L + 1 + 1 + 1 < c.1) ?s1 ?r1
    case s1 =>
      walk_at "my go"
      rename Fr h₀ _ _ _ => F9
      rename News h₀ _ _ _ => N9
      rename IntsAre _ (List.take 5 ns ++ _) => hnv
      rename (_ < _ ∧ _) => l9
      rename_i nb nvs _ _
      refine' FEnd.intro (nb, nvs) F9 N9 ?b1 ?b2 ?b3
      case b1 => walk_at "my mem"
      case b2 => kst_all
      case b3 => exact ⟨hnv, l9.2.2.2.2.1⟩
    case r1 =>
      clear F N
      rintro ⟨nb, nvs⟩ u h tk ⟨hnv, lnb⟩ F2 N2
      dsimp only at F2 N2 hnv lnb ⊢
      replace lnb := ltN (a := L + 1 + 1 + 1) (b := nb) lnb
      generalize hnums : ns.take 5 ++ [8, 86, 94, 32].drop (ns.take 5).length = nums at hnv
      have hnl : nums.length ≤ 5 := by
        rw [← hnums]
        simp only [List.length_append, List.length_take, List.length_drop, List.length_cons, List.length_nil]
        omega
      walk_at "my go"
      rename Fr h₀ _ _ _ => F9
      rename News h₀ _ _ _ => N9
      rename (_ < _ ∧ _) => l9
      rename_i ra _ _
      generalize hsw : wf (13 + ((List.take 5 ns).sum + 17).fmod 27).toNat [] = sw at F9
      obtain ⟨rc, hrc, hrc1, hrc4⟩ := sum4 ((List.take 5 ns).sum.fdiv 27 + 1)
      rw [hrc] at F9
      have N8 := news_sub (l := [(ra, listOf ([] : List Value).toArray 0), (nb, listOf nvs.toArray 0), (L + 1 + 1 + 1, o1), (L + 1 + 1, o2), (L + 1, o3), (104, tabObj #[])]) N9 (by
        intro p hp
        rcases List.mem_cons.mp hp with rfl | hp
        · exact .head _
        · exact .tail _ (.tail _ hp))
      have lra := ltN (a := nb) (b := ra) l9.2.1
      refine' for_listN (σ := List Value × Nat × List (List Nat) × Tok × Tok)
        (fun c => [(Str.ofString "numbers", .ref nb), (Str.ofString "sought", .str (S sw) c.2.2.2.1), (Str.ofString "reach", .int (rc : Nat) c.2.2.2.2), (Str.ofString "row", .ref ra)])
        (fun c => [(ra, listOf c.1.toArray c.2.1), (nb, listOf nvs.toArray 0), (L + 1 + 1 + 1, o1), (L + 1 + 1, o2), (L + 1, o3), (104, tabObj #[])])
        (fun i c => StrsAre c.1 (c.2.2.1.map S) ∧ c.2.2.1 = (nums.take i).foldl insZ [] ∧ c.2.2.1.length ≤ i)
        ([], 0, [], _, _) rfl F9 N8 ?a1 ?a2 ?a3 (led_same fun _ => rfl) (.inl ⟨_, _, rfl⟩) ?turn ?done
      case a1 => kst_all
      case a2 => exact ⟨.nil, rfl, Nat.le_refl _⟩
      case a3 => intro c u h F N; exact News.isList N (.tail _ (.head _))
      case turn =>
        clear F9 N9 N8
        rintro Q8 E8 hE8 i v ⟨rvs, k, ws, ts, tr⟩ u h tk I oI hv ⟨p1, p2, p3⟩ hI9 hoI F2 N2
        dsimp only at F2 N2 p1 p2 p3 ⊢
        obtain ⟨x, t, hx, rfl⟩ := ints_at hnv hv
        have hi5 : i < 5 := Nat.lt_of_lt_of_le (List.getElem?_eq_some_iff.mp hx).1 hnl
        have g1 := ltN (a := ra) (b := I) (hI9 _ (.head _))
        have g2 := ltN (a := nb) (b := I) (hI9 _ (.tail _ (.head _)))
        clear hI9
        walk_at "my go"
        (rename Fr h₀ _ _ _ => F9); (rename News h₀ _ _ _ => N9)
        rename StrsAre _ (List.map S (insW _ _)) => q1
        rename_i vs9 n9 _ _
        refine' FEnd.intro (vs9, n9, insW ws (wf (1 + x.fmod 120).toNat []), ts, tr) F9 N9 ?b1 ?b2 ?b3
        case b1 => walk_at "my mem"
        case b2 => kst_all
        case b3 =>
          refine ⟨q1, ?_, ?_⟩
          · rw [take_foldl _ _ _ hx, ← p2]; rfl
          · dsimp only; rw [insW_len]; omega
      case done =>
        clear F9 N9 N8 l9
        rintro ⟨rvs, k, ws, ts, tr⟩ u h tk ⟨p1, p2, p3⟩ F2 N2
        dsimp only at F2 N2 p1 p2 p3 ⊢
        have hnvl := hnv.length
        rw [hnvl, List.take_length] at p2
        have hW : ∀ x ∈ ws, isW x := p2 ▸ fold_isW nums [] (by simp)
        have hwl : ws.length ≤ 5 := by omega
        have hsW := (sw_facts ((List.take 5 ns).sum + 17)).1
        have hsl := (sw_facts ((List.take 5 ns).sum + 17)).2
        rw [hsw] at hsW hsl
        clear hrc hsw
        refine hold ?_
        revert w hg9 la vs ns o1 o2 o3 c1 c2 c3 h₀ X T K lifted codeHd L l0 nb nvs nums hnv hnl sw rc hrc1 hrc4 ws ts tr u h tk p1 p2 F2 N2 hnvl hW hwl hsW hsl
        repeat (rename _ => hzz; first | exact hzz.out | clear hzz | revert hzz)

set_option maxHeartbeats 8000000 in
def lawB : PSigma (fun P : Prop => Hid P → lawA.1) := by
  apply PSigma.mk
  case snd =>
    intro hole
    w_top off
    intro hz0
    set_option tactic.hygienic false in intros
    unfold Hold
    refine exec_cut (h₀ := h₀) (L := L) (σ := Addr × Nat × List (Addr × Obj) × Tok × Tok)
      (fun c => [(Str.ofString "numbers", .ref nb), (Str.ofString "sought", .str (S sw) c.2.2.2.1), (Str.ofString "reach", .int (rc : Nat) c.2.2.2.2), (Str.ofString "packed", .ref c.1)])
      (fun c => (c.1, listOf (c.2.2.1.map (fun p : Addr × Obj => Value.ref p.1)).toArray c.2.1) :: (nb, listOf nvs.toArray 0) :: (L + 1 + 1 + 1, o1) :: (L + 1 + 1, o2) :: (L + 1, o3) :: (104, tabObj #[]) :: c.2.2.1)
      (fun c => TupsAre c.2.2.1 (packD [] ws) ∧ c.1 ≠ 104) ?s7 ?r7
    case s7 =>
      walk_at "my go"
      (rename Fr h₀ _ _ _ => F9); (rename News h₀ _ _ _ => N9)
      rename TupsAre _ _ => q1
      rename_i pk k2 tups _ _ _ _ q2 _
      refine' FEnd.intro (pk, k2, tups, ts, tr) F9 N9 ?b1 ?b2 ?b3
      case b1 =>
        walk_at "my sb"









      case b2 => kst_all
      case b3 => exact ⟨q1, fun e => q2 (104, tabObj #[]) (by simp) e.symm⟩
    case r7 =>
      clear F2 N2 p1 p3 lra
      rintro ⟨pk, k2, tups, ts, tr⟩ u h tk ⟨q1, z8⟩ F2 N2
      dsimp only at F2 N2 q1 z8 ⊢
      replace z8 := neN (a := pk) (b := 104) z8
      have z7 : ∀ p ∈ tups, p.1 ≠ 104 := fun p hp => news_cls N2 (o := p.2) (o' := tabObj #[]) (by simp [hp]) (by simp) (by rw [(q1.facts p hp).1]; decide)
      have hL : ∀ p ∈ tups, p.1 ≠ L + 1 ∧ p.1 ≠ L + 1 + 1 ∧ p.1 ≠ L + 1 + 1 + 1 := fun p hp =>
        ⟨news_ne N2 (o := p.2) (o' := o3) (by simp [hp]) (by simp) (by rw [c3]; exact (q1.facts p hp).2 _), news_ne N2 (o := p.2) (o' := o2) (by simp [hp]) (by simp) (by rw [c2]; exact (q1.facts p hp).2 _), news_ne N2 (o := p.2) (o' := o1) (by simp [hp]) (by simp) (by rw [c1]; exact (q1.facts p hp).2 _)⟩
      have hLp : pk ≠ L + 1 ∧ pk ≠ L + 1 + 1 ∧ pk ≠ L + 1 + 1 + 1 :=
        ⟨news_ne N2 (o := listOf (tups.map (fun p : Addr × Obj => Value.ref p.1)).toArray k2) (o' := o3) (by simp) (by simp) (by rw [c3]; intro e; cases e), news_ne N2 (o := listOf (tups.map (fun p : Addr × Obj => Value.ref p.1)).toArray k2) (o' := o2) (by simp) (by simp) (by rw [c2]; intro e; cases e), news_ne N2 (o := listOf (tups.map (fun p : Addr × Obj => Value.ref p.1)).toArray k2) (o' := o1) (by simp) (by simp) (by rw [c1]; intro e; cases e)⟩
      have z1 := neN (a := pk) (b := L + 1) hLp.1
      have z2 := neN (a := pk) (b := L + 1 + 1) hLp.2.1
      have z3 := neN (a := pk) (b := L + 1 + 1 + 1) hLp.2.2
      have z4 : ∀ p ∈ tups, p.1 ≠ L + 1 := fun p hp => (hL p hp).1
      have z5 : ∀ p ∈ tups, p.1 ≠ L + 1 + 1 := fun p hp => (hL p hp).2.1
      have z6 : ∀ p ∈ tups, p.1 ≠ L + 1 + 1 + 1 := fun p hp => (hL p hp).2.2; clear hL hLp
      walk_at "my go"
      (rename Fr h₀ _ _ _ => F9); (rename News h₀ _ _ _ => N9)
      rename (pk < _ ∧ _) => l9
      rename (_ = Data.cell (some _)) => cw
      rename_i wl _ _ ow _
      have y1 := ltN (a := pk) (b := wl) l9.1
      have y2 := ltN (a := nb) (b := wl) l9.2.1
      have y3 : ∀ p ∈ tups, p.1 ≠ wl := fun p hp => Nat.ne_of_lt (allLt_mem l9.2.2.2.2.2.2 p hp)
      have y4 := ltN (a := L + 1 + 1 + 1) (b := wl) l9.2.2.1
      clear l9
      refine' for_listPN (σ := List Value × Nat × List Nat × Tok × Tok × Tok)
        (fun c => [(Str.ofString "numbers", .ref nb), (Str.ofString "sought", .str (S sw) c.2.2.2.1), (Str.ofString "reach", .int (rc : Nat) c.2.2.2.2.1), (Str.ofString "packed", .ref pk), (Str.ofString "ahead", .str (S c.2.2.1) c.2.2.2.2.2)])
        (fun c => (wl, listOf c.1.toArray c.2.1) :: (pk, listOf (tups.map (fun p : Addr × Obj => Value.ref p.1)).toArray k2) :: (nb, listOf nvs.toArray 0) :: (L + 1 + 1 + 1, o1) :: (L + 1 + 1, o2) :: (L + 1, ow) :: (104, tabObj #[]) :: tups)
        (fun i c => StrsAre c.1 ((ws.take i).map S) ∧ c.2.2.1 = ([] :: ws).getD i [])
        ([], 0, [], _, _, _) rfl F9 N9 ?a1 ?a2 ?a3 (fun i c hP p hp => .inr (by simpa using List.mem_map_of_mem (f := fun p : Addr × Obj => p.1) hp)) (.inr ⟨_, _, _, rfl⟩) ?wturn ?wdone
      case a1 => kst_all
      case a2 => exact ⟨.nil, rfl⟩
      case a3 => intro i c u h hP F N; exact News.isList N (.tail _ (.head _))
      case wturn =>
        clear F9 N9
        rintro Q8 E8 hE8 i v ⟨wvs, kw, ah, ts, tr, ta⟩ u h tk I oI hv ⟨p1, p2⟩ hI9 hoI F2 N2
        dsimp only at F2 N2 p1 p2 ⊢
        dsimp only [List.cons_append] at N2
        have g1 := ltN (a := wl) (b := I) (hI9 _ (.head _))
        have g2 : ∀ p ∈ tups, p.1 ≠ I := fun p hp => Nat.ne_of_lt (hI9 p (by simp [hp]))
        clear hI9
        have N2 := news_sub (l := (wl, listOf wvs.toArray kw) :: (pk, listOf (tups.map (fun p : Addr × Obj => Value.ref p.1)).toArray k2) :: (nb, listOf nvs.toArray 0) :: (L + 1 + 1 + 1, o1) :: (L + 1 + 1, o2) :: (L + 1, ow) :: (104, tabObj #[]) :: (I, oI) :: tups) N2 (by
          walk_at "my sb")











        have hti := tups_in N2 q1 (fun p hp => by simp [hp])
        have hil : i < ws.length := by
          have := (List.getElem?_eq_some_iff.mp hv).1
          rw [hti.1, packD_len] at this
          exact this
        have hwi : ws[i]? = some ws[i] := by simp [hil]
        obtain ⟨pa, t1, t2, e1, hpt⟩ := hti.2 i _ (packD_get ws [] i _ hwi)
        rw [e1] at hv
        obtain rfl := Option.some.inj hv
        rw [← p2] at hpt
        have hwW := hW _ (List.getElem_mem hil)
        have hahW : isW ah := by
          rw [p2]
          cases i with
          | zero => exact ⟨Nat.zero_le _, fun _ h => (nomatch h)⟩
          | succ j =>
            have hj : j < ws.length := by omega
            rw [List.getD_cons_succ, show ws.getD j [] = ws[j] by simp [List.getD, hj]]
            exact hW _ (List.getElem_mem hj)
        have hct := cp_take ws[i] ah
        have hcl := cp_le ws[i] ah
        generalize hwe : ws[i] = wi at *
        have hwl4 := hwW.1
        have hal4 := hahW.1
        have hi5 : i < 5 := by omega
        have hdW := isW_drop hwW (cp wi ah)
        have htW := isW_take hahW (cp wi ah)
        have hdl := hdW.1
        have htl := htW.1
        generalize cp wi ah = sh at *
        generalize hdr : wi.drop sh = dr at *
        have hwvl := p1.length
        rw [List.length_map, List.length_take] at hwvl
        walk_at "my go"
        dsimp only at *
        (rename Fr h₀ _ _ _ => F9); (rename News h₀ _ _ _ => N9)
        rw [S_append, hct] at F9 N9
        rw [List.push_toArray] at N9
        rename_i ta9 _ _ _
        refine' FEnd.intro (wvs ++ [.str (S wi) ta9], kw + 1, wi, ts, tr, ta9) F9 N9 ?b1 ?b2 ?b3
        case b1 =>
          walk_at "my sb"











        case b2 => kst_all
        case b3 =>
          refine ⟨?_, ?_⟩
          · dsimp only
            rw [List.take_succ, List.getElem?_eq_getElem hil, hwe, List.map_append]
            exact strs_append p1 (.cons _ _ .nil)
          · dsimp only
            rw [List.getD_cons_succ]
            simp [List.getD, hil, hwe]
      case wdone =>
        clear F9 N9
        rintro ⟨wvs, kw, ah, ts, tr, ta⟩ u h tk ⟨p1, p2⟩ F2 N2
        dsimp only at F2 N2 p1 p2 ⊢
        clear p2
        have e9 : (tups.map (fun p : Addr × Obj => Value.ref p.1)).length = ws.length := by rw [List.length_map, q1.len, packD_len]
        rw [e9, List.take_length] at p1
        clear e9
        refine hold ?_
        revert w hg9 ns o1 o2 c1 c2 h₀ X T K codeHd L l0 nb nvs nums hnv hnl sw rc hrc1 hrc4 ws hnvl hW hwl hsW hsl p2 tups q1 z7 z4 z5 z6 z8 wl ow cw y1 y2 y3 y4 k2 pk z1 z2 z3 wvs kw ah ts tr ta u h tk p1 F2 N2
        repeat (rename _ => hzz; first | exact hzz.out | clear hzz | revert hzz)

set_option maxHeartbeats 8000000 in
def lawC : PSigma (fun P : Prop => PSigma (fun R : Prop => Hid P → Hid R → lawB.1)) := by
  apply PSigma.mk
  case snd =>
    apply PSigma.mk
    case snd =>
      intro hole1 hole2
      w_top off
      intro hz0
      set_option tactic.hygienic false in intros
      unfold Hold
      refine exec_cut (h₀ := h₀) (L := L) (σ := Tok × Tok)
        (fun c => [(Str.ofString "sought", .str (S sw) c.1), (Str.ofString "reach", .int (rc : Nat) c.2), (Str.ofString "packed", .ref pk)])
        (fun c => (wl, listOf wvs.toArray kw) :: (pk, listOf (tups.map (fun p : Addr × Obj => Value.ref p.1)).toArray k2) :: (L + 1 + 1 + 1, o1) :: (L + 1 + 1, o2) :: (L + 1, ow) :: (104, tabObj #[]) :: tups)
        (fun c => True) ?s10 ?r10
      case s10 =>
        walk_at "my go"
        unfold Hold
        refine compRest_ind (fun i ys => StrsAre ys (((nums.take i).map (fun x => wf (1 + Int.fmod x 120).toNat [])).map S)) _ ?cstep ?cfin _ 0 [] (Nat.zero_add _) .nil
        case cstep =>
          intro i ys v I oI C oC D m₂ h tk E' hi hJ hP hC hx F2 N2 off ne
          obtain ⟨x, t, hx9, rfl⟩ := ints_at hnv (by simpa using hP)
          walk_at "my go"
          (rename Fr h₀ _ _ _ => F9); (rename News h₀ _ _ _ => N9)
          refine ⟨_, _, _, rfl, F9, N9, off, .inr ⟨_, .tail _ (.tail _ (.head _)), rfl, _, rfl⟩, rfl, ?_⟩
          rw [List.take_succ, hx9, Option.toList_some, List.map_append, List.map_append]
          exact strs_append hJ (.cons _ _ .nil)
        case cfin =>
          intro ys hJ
          rw [List.size_toArray, hnvl, List.take_length] at hJ
          walk_at "my go"
          (rename Fr h₀ _ _ _ => F9); (rename News h₀ _ _ _ => N9)
          refine' FEnd.intro (_, _) F9 N9 ?b1 ?b2 ?b3
          case b1 =>
            walk_at "my sb"









          case b2 => kst_all
          case b3 => trivial
      case r10 =>
        clear F2 N2
        rintro ⟨ts, tr⟩ u h tk - F2 N2
        dsimp only at F2 N2 ⊢
        have hsr := foldZ_facts nums [] .nil
        rw [← p2] at hsr
        have hsrt := hsr.1
        clear hsr hnv hnl hnvl p2 lnb y2 htk
        have hwvl := p1.length
        rw [List.length_map] at hwvl
        walk_at "my go"
        (rename Fr h₀ _ _ _ => F9); (rename News h₀ _ _ _ => N9); rename IsRange _ _ _ _ _ _ _ _ => hrng
        refine' for_rangeN (σ := Obj × Tok × Tok)
          (fun c => [(Str.ofString "sought", .str (S sw) c.2.1), (Str.ofString "reach", .int (rc : Nat) c.2.2), (Str.ofString "packed", .ref pk)])
          (fun c => (wl, listOf wvs.toArray kw) :: (pk, listOf (tups.map (fun p : Addr × Obj => Value.ref p.1)).toArray k2) :: (L + 1 + 1 + 1, c.1) :: (L + 1 + 1, o2) :: (L + 1, ow) :: (104, tabObj #[]) :: tups)
          (fun i c => ∃ v, c.1.data = .cell v) (o1, _, _) rfl hrng (rg1_small (by omega)) (rg1_size _) F9 N9 ?a1 ?a2 (led_same fun _ => rfl) ⟨_, _, rfl⟩ ?iturn ?idone
        case a1 => kst_all
        case a2 => exact ⟨_, c1⟩
        case iturn =>
          clear F9 N9
          clear hole2
          repeat (with_reducible rename IsRange _ _ _ _ _ _ _ _ => hzz; clear hzz)
          repeat (with_reducible rename Fr _ _ _ _ => hzz; clear hzz)
          repeat (with_reducible rename News _ _ _ _ => hzz; clear hzz)
          refine hold ?_
          revert w hg9 o1 o2 c1 c2 h₀ X T K codeHd L l0 sw rc hrc1 hrc4 ws hW hwl hsW hsl hsrt tups q1 z7 z4 z5 z6 z8 wl ow cw y1 y3 y4 k2 pk z1 z2 z3 wvs kw p1 hwvl ts tr
          repeat (rename _ => hzz; first | exact hzz.out | clear hzz | revert hzz)
        case idone =>
          clear F9 N9
          clear hole1
          repeat (with_reducible rename IsRange _ _ _ _ _ _ _ _ => hzz; clear hzz)
          repeat (with_reducible rename Fr _ _ _ _ => hzz; clear hzz)
          repeat (with_reducible rename News _ _ _ _ => hzz; clear hzz)
          refine hold ?_
          revert w hg9 o1 o2 c1 c2 h₀ X T K codeHd L l0 sw rc hrc1 hrc4 ws hW hwl hsW hsl hsrt tups q1 z7 z4 z5 z6 z8 wl ow cw y1 y3 y4 k2 pk z1 z2 z3 wvs kw p1 hwvl ts tr
          repeat (rename _ => hzz; first | exact hzz.out | clear hzz | revert hzz)

set_option maxHeartbeats 8000000 in
def lawD : PSigma (fun P : Prop => Hid P → lawC.1) := by
  apply PSigma.mk
  case snd =>
    intro hole
    w_top off
    intro hz0
    set_option tactic.hygienic false in intros
    unfold Hold
    rintro Q8 E8 hE8 i ti ⟨os, ts, tr⟩ u h tk I oI hi ⟨vz, hz⟩ hI hoI F2 N2
    dsimp only at F2 N2 hz ⊢
    simp only [Int.zero_add]
    dsimp only [List.cons_append] at N2
    have g1 := ltN (a := wl) (b := I) (hI _ (.head _))
    have g2 := ltN (a := pk) (b := I) (hI _ (.tail _ (.head _)))
    have g3 := ltN (a := L + 1 + 1 + 1) (b := I) (hI _ (.tail _ (.tail _ (.head _))))
    clear hI
    have N2 := news_sub (l := (wl, listOf wvs.toArray kw) :: (pk, listOf (tups.map (fun p : Addr × Obj => Value.ref p.1)).toArray k2) :: (L + 1 + 1 + 1, os) :: (L + 1 + 1, o2) :: (L + 1, ow) :: (104, tabObj #[]) :: (I, oI) :: tups) N2 (by
      walk_at "my sb")










    have hil : i < ws.length := by omega
    have hwiW : isW (ws.getD i []) := by rw [getD_get hil]; exact hW _ (List.getElem_mem hil)
    have hwi4 := hwiW.1
    walk_at "my go"
    (rename Fr h₀ _ _ _ => F9); (rename News h₀ _ _ _ => N9); rename IsRange _ _ _ _ _ _ _ _ => hrng
    have hrg := rg5 (i + 1) (by omega) wvs.length (by omega) (by omega)
    refine' for_rangeN (σ := Obj × Nat × Tok × Tok × Tok × Tok)
      (fun c => [(Str.ofString "sought", .str (S sw) c.2.2.1), (Str.ofString "reach", .int (rc : Nat) c.2.2.2.1), (Str.ofString "packed", .ref pk), (Str.ofString "i", .int (i : Nat) c.2.2.2.2.1), (Str.ofString "least", .int (c.2.1 : Nat) c.2.2.2.2.2)])
      (fun c => (wl, listOf wvs.toArray kw) :: (pk, listOf (tups.map (fun p : Addr × Obj => Value.ref p.1)).toArray k2) :: (L + 1 + 1 + 1, c.1) :: (L + 1 + 1, o2) :: (L + 1, ow) :: (104, tabObj #[]) :: (I, oI) :: tups)
      (fun d c => (∃ v, c.1.data = .cell v) ∧ c.2.1 = leastN ws i d) (os, leastN ws i 0, _, _, _, _) rfl hrng hrg.1 hrg.2 F9 N9 ?a1 ?a2 (led_same fun _ => rfl) ⟨_, _, rfl⟩ ?jturn ?jdone
    case a1 => kst_all
    case a2 => exact ⟨⟨_, hz⟩, rfl⟩
    case jturn =>
      clear F9 N9 hrg F2 N2
      repeat (with_reducible rename IsRange _ _ _ _ _ _ _ _ => hzz; clear hzz)
      repeat (with_reducible rename Fr _ _ _ _ => hzz; clear hzz)
      repeat (with_reducible rename News _ _ _ _ => hzz; clear hzz)
      refine hold ?_
      revert w X T K codeHd L h₀ l0 ws hW hwl hwvl hsrt tups q1 z7 z4 z5 z6 z8 wl ow y1 y3 y4 k2 pk z1 z2 z3 wvs kw p1 sw rc i hil hwiW hwi4 I oI hoI g1 g2 g3 os hz hE8 ti ts tr cw o2 c2
      repeat (rename _ => hzz; first | exact hzz.out | clear hzz | revert hzz)
    case jdone =>
      clear F9 N9 N2
      rintro ⟨os, le, ts, tr, ti, tl⟩ u h tk ⟨⟨vz, hz⟩, hle⟩ F2 N2
      dsimp only at F2 N2 hz ⊢
      walk_at "my go"
      refine' FEnd.intro (os, ts, tr) F2 N2 ?b1 ?b2 ?b3
      case b1 =>
        walk_at "my sb"










      case b2 => kst_all
      case b3 => exact ⟨_, hz⟩

set_option maxHeartbeats 8000000 in
def lawE : PSigma (fun P : Prop => Hid P → lawD.1) := by
  apply PSigma.mk
  case snd =>
    intro hole
    w_top off
    intro hz0
    set_option tactic.hygienic false in intros
    unfold Hold
    rintro Q8 E8 hE8 d tj ⟨os, le, ts, tr, ti, tl⟩ u h tk J oJ hd ⟨⟨vz, hz⟩, hle⟩ hJ hoJ F2 N2
    dsimp only at F2 N2 hz hle ⊢
    rw [show ((i : Int) + 1 + (d : Int)) = ((i + 1 + d : Nat) : Int) by omega]
    dsimp only [List.cons_append] at N2
    have k3 := ltN (a := L + 1 + 1 + 1) (b := J) (hJ _ (.tail _ (.tail _ (.head _))))
    clear hJ
    have N2 := news_sub (l := (wl, listOf wvs.toArray kw) :: (pk, listOf (tups.map (fun p : Addr × Obj => Value.ref p.1)).toArray k2) :: (L + 1 + 1 + 1, os) :: (L + 1 + 1, o2) :: (L + 1, ow) :: (104, tabObj #[]) :: (I, oI) :: (J, oJ) :: tups) N2 (by
      walk_at "my sb")











    have hjl : i + 1 + d < ws.length := by omega
    have hwjW : isW (ws.getD (i + 1 + d) []) := by rw [getD_get hjl]; exact hW _ (List.getElem_mem hjl)
    have hwj4 := hwjW.1
    obtain ⟨pa, po, t1, t2, px, hpa, hpm, hpc, hpt⟩ := tups_mem q1 (packD_get ws [] (i + 1 + d) _ (List.getElem?_eq_getElem hjl))
    dsimp only at hpt
    have ecp : cp ws[i + 1 + d] (([] :: ws).getD (i + 1 + d) []) = cp (ws.getD (i + 1 + d) []) (ws.getD (i + d) []) := by
      rw [← getD_get hjl, show i + 1 + d = (i + d) + 1 by omega, List.getD_cons_succ]
    rw [ecp] at hpt
    clear ecp
    have hxs : (tups.map (fun p : Addr × Obj => Value.ref p.1)).length = ws.length := by rw [List.length_map, q1.len, packD_len]
    walk_at "my go"
    (rename Fr h₀ _ _ _ => F9); (rename News h₀ _ _ _ => N9); rename IsRange _ _ _ _ _ _ _ _ => hrng
    rw [hle, show min (leastN ws i d) (cp (ws.getD (i + 1 + d) []) (ws.getD (i + d) [])) = leastN ws i (d + 1) from rfl] at F9
    refine' for_rangeN (σ := Obj × Tok × Tok × Tok × Tok × Tok)
      (fun c => [(Str.ofString "sought", .str (S sw) c.2.1), (Str.ofString "reach", .int (rc : Nat) c.2.2.1), (Str.ofString "packed", .ref pk), (Str.ofString "i", .int (i : Nat) c.2.2.2.1), (Str.ofString "least", .int (leastN ws i (d + 1) : Nat) c.2.2.2.2.1), (Str.ofString "j", .int (i + 1 + d : Nat) c.2.2.2.2.2)])
      (fun c => (wl, listOf wvs.toArray kw) :: (pk, listOf (tups.map (fun p : Addr × Obj => Value.ref p.1)).toArray k2) :: (L + 1 + 1 + 1, c.1) :: (L + 1 + 1, o2) :: (L + 1, ow) :: (104, tabObj #[]) :: (I, oI) :: (J, oJ) :: tups)
      (fun d c => (∃ v, c.1.data = .cell v)) (os, _, _, _, _, _) rfl hrng (by simp only [natAdd1]; exact rg1_small (by omega)) (by simp only [natAdd1]; exact rg1_size _) F9 N9 ?a1 ?a2 (led_same fun _ => rfl) ⟨_, _, rfl⟩ ?zturn ?zdone
    case a1 => kst_all
    case a2 => exact ⟨_, hz⟩
    case zturn =>
      clear F9 N9 N2
      repeat (with_reducible rename IsRange _ _ _ _ _ _ _ _ => hzz; clear hzz)
      repeat (with_reducible rename Fr _ _ _ _ => hzz; clear hzz)
      repeat (with_reducible rename News _ _ _ _ => hzz; clear hzz)
      refine hold ?_
      revert w X T K codeHd L h₀ l0 ws hW hwl hwvl hsrt tups q1 z7 z4 z5 z6 z8 wl ow y1 y3 y4 k2 pk z1 z2 z3 wvs kw p1 sw rc i hil hwiW hwi4 I oI hoI g1 g2 g3 hE8 cw o2 c2 d hd J oJ hoJ k3 hjl hwjW hwj4
      repeat (rename _ => hzz; first | exact hzz.out | clear hzz | revert hzz)
    case zdone =>
      clear F9 N9 N2
      rintro ⟨os, ts, tr, ti, tl, tj⟩ u h tk ⟨vz, hz⟩ F2 N2
      dsimp only at F2 N2 hz ⊢
      walk_at "my go"
      refine' FEnd.intro (os, leastN ws i (d + 1), ts, tr, ti, tl) F2 N2 ?b1 ?b2 ?b3
      case b1 =>
        walk_at "my sb"











      case b2 => kst_all
      case b3 => exact ⟨⟨_, hz⟩, rfl⟩

set_option maxHeartbeats 8000000 in
theorem lawF : lawE.1 := by
  w_top off
  intro hz0
  set_option tactic.hygienic false in intros
  unfold Hold
  rintro Q8 E8 hE8 z tz ⟨os, ts, tr, ti, tl, tj⟩ u h tk Z oZ hz5 ⟨vz, hz⟩ hZ hoZ F2 N2
  dsimp only at F2 N2 hz ⊢
  simp only [Int.zero_add]
  dsimp only [List.cons_append] at N2
  have k4 := ltN (a := L + 1 + 1 + 1) (b := Z) (hZ _ (.tail _ (.tail _ (.head _))))
  clear hZ
  have N2 := news_sub (l := (wl, listOf wvs.toArray kw) :: (pk, listOf (tups.map (fun p : Addr × Obj => Value.ref p.1)).toArray k2) :: (L + 1 + 1 + 1, os) :: (L + 1 + 1, o2) :: (L + 1, ow) :: (104, tabObj #[]) :: (I, oI) :: (J, oJ) :: (Z, oZ) :: tups) N2 (by
    walk_at "my sb")












  have hz4 : z ≤ 4 := by omega
  have htW := isW_take hwiW z
  have htl := htW.1
  walk_at "my go"
  · rename ((_ != _) = true) => c9
    rw [prefix_law hsrt hjl (by omega)] at c9
    cases c9
  · (rename Fr h₀ _ _ _ => F9); (rename News h₀ _ _ _ => N9)
    rename (_ = Data.cell (some (Value.int _ _))) => d9
    obtain ⟨o9, N9, d9⟩ : ∃ o9 : Obj, News h₀ L _ ((wl, listOf wvs.toArray kw) :: (pk, listOf (tups.map (fun p : Addr × Obj => Value.ref p.1)).toArray k2) :: (L + 1 + 1 + 1, o9) :: (L + 1 + 1, o2) :: (L + 1, ow) :: (104, tabObj #[]) :: (I, oI) :: (J, oJ) :: (Z, oZ) :: tups) ∧ ∃ v, o9.data = .cell v := ⟨_, N9, _, d9⟩
    refine' FEnd.intro (o9, ts, tr, ti, tl, tj) F9 N9 ?b1 ?b2 ?b3
    case b1 =>
      walk_at "my sb"












    case b2 => kst_all
    case b3 => exact d9

set_option maxHeartbeats 8000000 in
def lawG : PSigma (fun P : Prop => PSigma (fun R : Prop => Hid P → Hid R → lawC.2.1)) := by
  apply PSigma.mk
  case snd =>
    apply PSigma.mk
    case snd =>
      intro hole1 hole2
      w_top off
      intro hz0
      set_option tactic.hygienic false in intros
      unfold Hold
      rintro ⟨os, ts, tr⟩ u h tk ⟨vz, hz⟩ F2 N2
      dsimp only at F2 N2 hz ⊢
      have hs4 := hsW.1
      walk_at "my go"
      (rename Fr h₀ _ _ _ => F9); (rename News h₀ _ _ _ => N9); rename IsRange _ _ _ _ _ _ _ _ => hrng
      refine' for_rangeZN (σ := Obj × Obj × Array Value × List (Addr × Obj) × Tok × Tok)
        (fun c => [(Str.ofString "sought", .str (S sw) c.2.2.2.2.1), (Str.ofString "reach", .int (rc : Nat) c.2.2.2.2.2), (Str.ofString "packed", .ref pk)])
        (fun c => (wl, listOf wvs.toArray kw) :: (pk, listOf (tups.map (fun p : Addr × Obj => Value.ref p.1)).toArray k2) :: (L + 1 + 1 + 1, c.1) :: (L + 1 + 1, c.2.1) :: (L + 1, ow) :: (104, tabObj c.2.2.1) :: (c.2.2.2.1 ++ tups))
        (fun I i c => (∃ v, c.1.data = .cell v) ∧ (∃ v, c.2.1.data = .cell v) ∧ (TabS I (L + 1 + 1 + 1) 0 c.2.2.1 c.2.2.2.1 ∨ TabS I (L + 1 + 1 + 1) 2 c.2.2.1 c.2.2.2.1)) (os, o2, #[], [], _, _) rfl hrng (by simp only [natAdd1]; exact rg1_small (by omega)) (by simp only [natAdd1]; exact rg1_size _) F9 N9 ?a1 ?a2 ?a3 ⟨_, _, rfl⟩ ?sturn ?sdone
      case a1 => kst_all
      case a2 => exact ⟨⟨_, hz⟩, ⟨_, c2⟩, .inl .zero⟩
      case a3 =>
        rintro I i c hI ⟨_, _, hT⟩ p hp
        refine .inr ?_
        simp only [List.mem_cons, List.mem_append] at hp
        rcases hp with h | h | h | h | h | h | h | h
        · rw [h]; exact Nat.ne_of_lt (hI _ (.head _))
        · rw [h]; exact Nat.ne_of_lt (hI _ (.tail _ (.head _)))
        · rw [h]; exact Nat.ne_of_lt (hI (L + 1 + 1 + 1, os) (.tail _ (.tail _ (.head _))))
        · rw [h]; exact Nat.ne_of_lt (hI (L + 1 + 1, o2) (.tail _ (.tail _ (.tail _ (.head _)))))
        · rw [h]; exact Nat.ne_of_lt (hI _ (.tail _ (.tail _ (.tail _ (.tail _ (.head _))))))
        · rw [h]; exact Nat.ne_of_lt (hI (104, tabObj #[]) (.tail _ (.tail _ (.tail _ (.tail _ (.tail _ (.head _)))))))
        · rcases hT with hT | hT
          · exact Nat.ne_of_gt (hT.gt p h).1
          · exact Nat.ne_of_gt (hT.gt p h).1
        · exact Nat.ne_of_lt (hI p (by simp [h]))
      case sturn =>
        clear F9 N9
        clear hole2
        repeat (with_reducible rename IsRange _ _ _ _ _ _ _ _ => hzz; clear hzz)
        repeat (with_reducible rename Fr _ _ _ _ => hzz; clear hzz)
        repeat (with_reducible rename News _ _ _ _ => hzz; clear hzz)
        refine hold ?_
        revert w hg9 X T K codeHd L h₀ l0 ws hW hwl hwvl hsrt tups q1 z7 z4 z5 z6 z8 wl ow cw y1 y3 y4 k2 pk z1 z2 z3 wvs kw p1 sw hsW hsl hs4 rc hrc1 hrc4 o2 c2
        repeat (rename _ => hzz; first | exact hzz.out | clear hzz | revert hzz)
      case sdone =>
        clear F9 N9
        clear hole1
        repeat (with_reducible rename IsRange _ _ _ _ _ _ _ _ => hzz; clear hzz)
        repeat (with_reducible rename Fr _ _ _ _ => hzz; clear hzz)
        repeat (with_reducible rename News _ _ _ _ => hzz; clear hzz)
        refine hold ?_
        revert w hg9 X T K codeHd L h₀ l0 ws hW hwl hwvl hsrt tups q1 z7 z4 z5 z6 z8 wl ow cw y1 y3 y4 k2 pk z1 z2 z3 wvs kw p1 sw hsW hsl hs4 rc hrc1 hrc4 o2 c2
        repeat (rename _ => hzz; first | exact hzz.out | clear hzz | revert hzz)

set_option maxHeartbeats 8000000 in
def lawH : PSigma (fun P : Prop => Hid P → lawG.1) := by
  apply PSigma.mk
  case snd =>
    intro hole
    w_top off
    intro hz0
    set_option tactic.hygienic false in intros
    unfold Hold
    rintro Q8 E8 hE8 z tz ⟨os, oh, tab, ex, ts, tr⟩ u h tk Z oZ hz5 ⟨⟨vz, hz⟩, ⟨vh, hh⟩, hT⟩ hZ hoZ F2 N2
    dsimp only at F2 N2 hz hh hZ hT ⊢
    simp only [Int.zero_add]
    dsimp only [List.cons_append] at N2
    have k1 := ltN (a := wl) (b := Z) (hZ _ (.head _))
    have k3 := ltN (a := L + 1 + 1 + 1) (b := Z) (hZ _ (.tail _ (.tail _ (.head _))))
    have k6 : ∀ p ∈ tups, p.1 ≠ Z := fun p hp => Nat.ne_of_lt (hZ p (by simp [hp]))
    clear hZ
    have hex : ∀ p ∈ ex, L + 1 + 1 + 1 < p.1 := fun p hp => by
      rcases hT with hT | hT
      · exact (hT.gt p hp).2
      · exact (hT.gt p hp).2
    have m1 : ∀ p ∈ ex ++ tups, p.1 ≠ L + 1 + 1 + 1 := fun p hp => (List.mem_append.mp hp).elim (fun h => Nat.ne_of_gt (hex p h)) (z6 p)
    have m2 : ∀ p ∈ ex ++ tups, p.1 ≠ L + 1 + 1 := fun p hp => (List.mem_append.mp hp).elim (fun h => Nat.ne_of_gt (Nat.lt_of_succ_lt (hex p h))) (z5 p)
    have N2 := news_sub (l := (wl, listOf wvs.toArray kw) :: (pk, listOf (tups.map (fun p : Addr × Obj => Value.ref p.1)).toArray k2) :: (L + 1 + 1 + 1, os) :: (L + 1 + 1, oh) :: (L + 1, ow) :: (104, tabObj tab) :: (Z, oZ) :: (ex ++ tups)) N2 (by
      walk_at "my sb")










    have hz4 : z ≤ 4 := by omega
    have htW := isW_take hsW z
    have htl := htW.1
    walk_at "my go"
    (rename Fr h₀ _ _ _ => F9); (rename News h₀ _ _ _ => N9)
    rename (_ = Data.cell (some (Value.int _ _))) => dz9
    rename (_ = Data.cell (some (Value.str _ _))) => dh9
    obtain ⟨oz, oh, th, N9, dz, dh⟩ : ∃ (oz oh : Obj) (th : Tok), News h₀ L _ ((wl, listOf wvs.toArray kw) :: (pk, listOf (tups.map (fun p : Addr × Obj => Value.ref p.1)).toArray k2) :: (L + 1 + 1 + 1, oz) :: (L + 1 + 1, oh) :: (L + 1, ow) :: (104, tabObj tab) :: (Z, oZ) :: (ex ++ tups)) ∧ oz.data = .cell (some (.int (z : Nat) tz)) ∧ oh.data = .cell (some (.str (S (sw.take z)) th)) := ⟨_, _, _, N9, dz9, dh9⟩; clear dz9 dh9
    unfold Hold
    generalize hbg : bR (fun i => !decide (List.take z (ws.getD i []) < List.take z sw)) 0 ws.length = bg
    refine exec_cut (h₀ := h₀) (L := L) (σ := Array Value × List (Addr × Obj) × Tok)
      (fun c => [(Str.ofString "sought", .str (S sw) ts), (Str.ofString "reach", .int (rc : Nat) tr), (Str.ofString "packed", .ref pk), (Str.ofString "begin", .int (bg : Nat) c.2.2)])
      (fun c => (wl, listOf wvs.toArray kw) :: (pk, listOf (tups.map (fun p : Addr × Obj => Value.ref p.1)).toArray k2) :: (L + 1 + 1 + 1, oz) :: (L + 1 + 1, oh) :: (L + 1, ow) :: (104, tabObj c.1) :: (Z, oZ) :: (c.2.1 ++ tups))
      (fun c => TabS Z (L + 1 + 1 + 1) 1 c.1 c.2.1 ∨ TabS Z (L + 1 + 1 + 1) 2 c.1 c.2.1) ?bcut ?brest
    case bcut =>
      rcases hT with hT | hT
      · cases hT
        dsimp only [List.nil_append] at N9
        walk_at "my go"
        (rename Fr h₀ _ _ _ => F9); (rename News h₀ _ _ _ => N9)
        rename (_ = Data.fields _) => d1
        rename (_ = some (Value.str _ _)) => d2
        rename (wl < _ ∧ _) => l9
        obtain ⟨a1, kk1, v1, t1, N8, la, ld, lv⟩ : ∃ (a1 : Addr) (kk1 : Obj) (v1 : Array Value) (t1 : Tok), News h₀ L _ ((a1, kk1) :: (wl, listOf wvs.toArray kw) :: (pk, listOf (tups.map (fun p : Addr × Obj => Value.ref p.1)).toArray k2) :: (L + 1 + 1 + 1, oz) :: (L + 1 + 1, oh) :: (L + 1, ow) :: (104, tabObj #[rawInt 227, rawInt 45, .ref a1]) :: (Z, oZ) :: tups) ∧ (wl < a1 ∧ pk < a1 ∧ L + 1 + 1 + 1 < a1 ∧ L + 1 + 1 < a1 ∧ L + 1 < a1 ∧ 104 < a1 ∧ Z < a1 ∧ AllLt a1 tups) ∧ kk1.data = .fields v1 ∧ v1[1]? = some (.str QL t1) := ⟨_, _, _, _, news_sub N9 (fun p hp => List.mem_cons_of_mem _ hp), l9, d1, d2⟩
        rw [hbg] at F9
        refine' FEnd.intro (#[rawInt 227, rawInt 45, .ref a1], [(a1, kk1)], _) F9 N8 ?b1 ?b2 ?b3
        case b1 =>
          walk_at "my sb"











        case b2 => kst_all
        case b3 => exact .inl (.one a1 kk1 v1 t1 la.2.2.2.2.2.2.1 la.2.2.1 ld lv)
      · rcases hT with _ | _ | ⟨a1, a2, kk1, kk2, v1, v2, t1, t2, q1, q2, q3, q4, q5, q6, q7, q8⟩
        dsimp only [List.cons_append, List.nil_append] at N9
        walk_at "my go"
        (rename Fr h₀ _ _ _ => F9); (rename News h₀ _ _ _ => N9)
        rw [hbg] at F9
        refine' FEnd.intro (#[rawInt 227, rawInt 45, .ref a1, rawInt 228, rawInt 51, .ref a2], [(a1, kk1), (a2, kk2)], _) F9 N9 ?b1 ?b2 ?b3
        case b1 => intro p hp; rw [List.append_nil] at hp; exact List.mem_cons_of_mem _ hp
        case b2 => kst_all
        case b3 => exact .inr (.two a1 a2 kk1 kk2 v1 v2 t1 t2 q1 q2 q3 q4 q5 q6 q7 q8)
    case brest =>
      clear hT hex m1 m2
      repeat (with_reducible rename IsRange _ _ _ _ _ _ _ _ => hzz; clear hzz)
      repeat (with_reducible rename Fr _ _ _ _ => hzz; clear hzz)
      repeat (with_reducible rename News _ _ _ _ => hzz; clear hzz)
      refine hold ?_
      revert w hg9 X T K codeHd L h₀ l0 ws hW hwl hwvl hsrt tups q1 z7 z4 z5 z6 z8 wl ow cw y1 y3 y4 k2 pk z1 z2 z3 wvs kw p1 sw hsW hsl hs4 rc hrc1 hrc4 z tz ts tr Z oZ hz5 hz4 htW htl hoZ oz oh th dz dh k1 k3 k6 hbg bg hE8
      repeat (rename _ => hzz; first | exact hzz.out | clear hzz | revert hzz)

set_option maxHeartbeats 8000000 in
def lawI : PSigma (fun P : Prop => Hid P → lawH.1) := by
  apply PSigma.mk
  case snd =>
    intro hole
    w_top off
    intro hz0
    set_option tactic.hygienic false in intros
    unfold Hold
    have hbgl : bg ≤ ws.length := hbg ▸ bR_le _ _ _ _ (Nat.le_refl _) (Nat.zero_le _)
    rintro ⟨tab, ex, tb⟩ u h tk hT F2 N2
    dsimp only at F2 N2 hT ⊢
    generalize hen : bR (fun i => decide (List.take z sw < List.take z (ws.getD i []))) bg ws.length = en
    walk_at "my go"
    (rename Fr h₀ _ _ _ => F9); (rename News h₀ _ _ _ => N9)
    unfold Hold
    refine exec_cut (h₀ := h₀) (L := L) (σ := Array Value × List (Addr × Obj) × Tok × Tok)
      (fun c => [(Str.ofString "sought", .str (S sw) ts), (Str.ofString "reach", .int (rc : Nat) tr), (Str.ofString "packed", .ref pk), (Str.ofString "begin", .int (bg : Nat) c.2.2.1), (Str.ofString "end", .int (en : Nat) c.2.2.2)])
      (fun c => (wl, listOf wvs.toArray kw) :: (pk, listOf (tups.map (fun p : Addr × Obj => Value.ref p.1)).toArray k2) :: (L + 1 + 1 + 1, oz) :: (L + 1 + 1, oh) :: (L + 1, ow) :: (104, tabObj c.1) :: (Z, oZ) :: (c.2.1 ++ tups))
      (fun c => TabS Z (L + 1 + 1 + 1) 2 c.1 c.2.1) ?ecut ?erest
    case ecut =>
      rcases hT with hT | hT
      · rcases hT with _ | ⟨a1, kk1, v1, t1, q1, q2, q3, q4⟩
        dsimp only [List.cons_append, List.nil_append] at N9
        have q2 := ltN (a := L + 1 + 1 + 1) (b := a1) q2
        walk_at "my go"
        (rename Fr h₀ _ _ _ => F9); (rename News h₀ _ _ _ => N9)
        rename (_ = Data.fields _) => d1
        rename (_ = some (Value.str _ _)) => d2
        rename (wl < _ ∧ _) => l9
        obtain ⟨a2, kk2, v2, t2, N8, la, ld, lv⟩ : ∃ (a2 : Addr) (kk2 : Obj) (v2 : Array Value) (t2 : Tok), News h₀ L _ ((a2, kk2) :: (wl, listOf wvs.toArray kw) :: (pk, listOf (tups.map (fun p : Addr × Obj => Value.ref p.1)).toArray k2) :: (L + 1 + 1 + 1, oz) :: (L + 1 + 1, oh) :: (L + 1, ow) :: (104, tabObj #[rawInt 227, rawInt 45, .ref a1, rawInt 228, rawInt 51, .ref a2]) :: (Z, oZ) :: (a1, kk1) :: tups) ∧ (wl < a2 ∧ pk < a2 ∧ L + 1 + 1 + 1 < a2 ∧ L + 1 + 1 < a2 ∧ L + 1 < a2 ∧ 104 < a2 ∧ Z < a2 ∧ a1 < a2 ∧ AllLt a2 tups) ∧ kk2.data = .fields v2 ∧ v2[1]? = some (.str QL t2) := ⟨_, _, _, _, news_sub N9 (fun p hp => List.mem_cons_of_mem _ hp), l9, d1, d2⟩
        rw [hen] at F9
        refine' FEnd.intro (#[rawInt 227, rawInt 45, .ref a1, rawInt 228, rawInt 51, .ref a2], [(a1, kk1), (a2, kk2)], tb, _) F9 N8 ?b1 ?b2 ?b3
        case b1 =>
          walk_at "my sb"












        case b2 => kst_all
        case b3 => exact .two a1 a2 kk1 kk2 v1 v2 t1 t2 q1 q2 q3 q4 la.2.2.2.2.2.2.1 la.2.2.1 ld lv
      · rcases hT with _ | _ | ⟨a1, a2, kk1, kk2, v1, v2, t1, t2, q1, q2, q3, q4, q5, q6, q7, q8⟩
        dsimp only [List.cons_append, List.nil_append] at N9
        walk_at "my go"
        (rename Fr h₀ _ _ _ => F9); (rename News h₀ _ _ _ => N9)
        rw [hen] at F9
        refine' FEnd.intro (#[rawInt 227, rawInt 45, .ref a1, rawInt 228, rawInt 51, .ref a2], [(a1, kk1), (a2, kk2)], tb, _) F9 N9 ?b1 ?b2 ?b3
        case b1 => intro p hp; rw [List.append_nil] at hp; exact List.mem_cons_of_mem _ hp
        case b2 => kst_all
        case b3 => exact .two a1 a2 kk1 kk2 v1 v2 t1 t2 q1 q2 q3 q4 q5 q6 q7 q8
    case erest =>
      clear hT
      repeat (with_reducible rename IsRange _ _ _ _ _ _ _ _ => hzz; clear hzz)
      repeat (with_reducible rename Fr _ _ _ _ => hzz; clear hzz)
      repeat (with_reducible rename News _ _ _ _ => hzz; clear hzz)
      refine hold ?_
      revert w hg9 X T K codeHd L h₀ l0 ws hW hwl hwvl hsrt tups q1 z7 z4 z5 z6 z8 wl ow cw y1 y3 y4 k2 pk z1 z2 z3 wvs kw p1 sw hsW hsl hs4 rc hrc1 hrc4 z tz ts tr Z oZ hz5 hz4 htW htl hoZ oz oh th dz dh k1 k3 k6 hbg bg hE8 hen en hbgl
      repeat (rename _ => hzz; first | exact hzz.out | clear hzz | revert hzz)

set_option maxHeartbeats 8000000 in
theorem lawJ : lawI.1 := by
  w_top off
  intro hz0
  set_option tactic.hygienic false in intros
  unfold Hold
  rintro ⟨tab, ex, tb, te⟩ u h tk hT F2 N2
  dsimp only at F2 N2 hT ⊢
  walk_at "my go"
  unfold Hold
  refine compRestT_ind (fun i ys => IntsAre ys (((List.range i).filter (fun p => (sw.take z).isPrefixOf (ws.getD p []))).map Int.ofNat)) _ ?fstep ?ffin _ 0 [] (Nat.zero_add _) .nil
  case fstep =>
    intro i ys v I oI C oC D m₂ h tk E' hi hJ hP hC hx F2 N2 off ne
    obtain ⟨t0, rfl⟩ := hP
    simp only [Int.zero_add] at hx
    have hil : i < ws.length := by omega
    have hwiW : isW (ws.getD i []) := by rw [getD_get hil]; exact hW _ (List.getElem_mem hil)
    have hwi4 := hwiW.1
    walk_at "my go"
    · (rename Fr h₀ _ _ _ => F9); (rename News h₀ _ _ _ => N9)
      rename ((_ == true) = true) => c9
      refine ⟨_, _, _, rfl, F9, N9, off, trivial, rfl, ?_⟩
      have c9 : (sw.take z).isPrefixOf (ws.getD i []) = true := by simpa using c9
      rw [List.range_succ, List.filter_append, List.map_append]
      refine ints_append hJ ?_
      simp only [List.filter_cons, List.filter_nil, c9, if_true]
      exact .cons _ _ .nil
    · (rename Fr h₀ _ _ _ => F9); (rename News h₀ _ _ _ => N9)
      rename ((_ == true) = false) => c9
      refine ⟨_, _, _, rfl, F9, N9, off, trivial, rfl, ?_⟩
      have c9 : (sw.take z).isPrefixOf (ws.getD i []) = false := by simpa using c9
      rw [List.range_succ, List.filter_append, List.map_append]
      simp only [List.filter_cons, List.filter_nil, c9, Bool.false_eq_true, if_false, List.map_nil, List.append_nil]
      exact hJ
  case ffin =>
    intro ys hJ
    rw [hwvl] at hJ
    obtain ⟨f1, f2, f3⟩ := fits_law hsrt (hd := sw.take z) (z := z) (by rw [List.length_take]; omega) hbg hen
    rw [f3] at hJ
    have hrgb := rg5 bg (by omega) en (by omega) f1
    have hrb1 := hrgb.1
    have hrb2 := hrgb.2
    clear hrgb
    have hfe : ((List.range (en - bg)).map (fun k => bg + k)).map Int.ofNat = rangeInts (bg : Nat) 1 (en - bg) := by
      rw [rangeInts, List.map_map]
      exact List.map_congr_left fun k _ => by simp
    walk_at "my go"
    (rename Fr h₀ _ _ _ => F9); (rename News h₀ _ _ _ => N9)
    refine' FEnd.intro (oz, oh, tab, ex, ts, tr) F9 N9 ?b1 ?b2 ?b3
    case b1 =>
      walk_at "my sb"











    case b2 => kst_all
    case b3 => exact ⟨⟨_, dz⟩, ⟨_, dh⟩, .inr hT⟩

set_option maxHeartbeats 8000000 in
def lawK : PSigma (fun P : Prop => Hid P → lawG.2.1) := by
  apply PSigma.mk
  case snd =>
    intro hole
    w_top off
    intro hz0
    set_option tactic.hygienic false in intros
    unfold Hold
    rintro I ⟨os, oh, tab, ex, ts, tr⟩ u h tk - F2 N2
    dsimp only at F2 N2 ⊢
    have N2 := news_sub (l := (wl, listOf wvs.toArray kw) :: (pk, listOf (tups.map (fun p : Addr × Obj => Value.ref p.1)).toArray k2) :: (L + 1, ow) :: (104, tabObj tab) :: tups) N2 (by
      walk_at "my sb")







    have hpl := packD_len ws []
    have hpo := packD_ok ws [] hW
    walk_at "my go"
    (rename Fr h₀ _ _ _ => F9); (rename News h₀ _ _ _ => N9); rename IsRange _ _ _ _ _ _ _ _ => hrng
    rename Obj.IsDictOf _ _ _ => dd1
    rename PyProof.V.FlatPairs _ _ _ => dd2
    rename ((_ == sysModules) = false) => dd3
    obtain ⟨nd, o, kvs, F9, N9, dd1, dd2, dd3⟩ : ∃ (nd : Addr) (o : Obj) (kvs : List (Int × Value)), Fr h₀ L _ (fun y => if y = Str.ofString "near" then some (Value.ref nd) else kstB u [(Str.ofString "sought", .str (S sw) ts), (Str.ofString "reach", .int (rc : Nat) tr), (Str.ofString "packed", .ref pk)] y) ∧ News h₀ L _ ((nd, o) :: (wl, listOf wvs.toArray kw) :: (L + 1, ow) :: (104, tabObj tab) :: []) ∧ Obj.IsDictOf (intKind _ w) o kvs ∧ PyProof.V.FlatPairs PyData.int kvs _ ∧ (nd == sysModules) = false := ⟨_, _, _, F9, news_sub N9 (by walk_at "my sb"), dd1, dd2, dd3⟩






    have hnl := fun {q} hq => near_lev (q := q) hsrt hW hsW hsl hrc1 hrc4 hq
    clear hpl hpo
    generalize nrD (nearRun rc sw (packD [] ws) 0 [(List.range (sw.length + 1)).map (fun k => 2 * k)] []).2 = DN at dd2 hnl
    refine' for_rangeN (σ := Tok × Tok)
      (fun c => [(Str.ofString "sought", .str (S sw) c.1), (Str.ofString "reach", .int (rc : Nat) c.2), (Str.ofString "near", .ref nd)])
      (fun c => [(nd, o), (wl, listOf wvs.toArray kw), (L + 1, ow), (104, tabObj tab)])
      (fun i c => True) (ts, tr) rfl hrng (rg1_small (by omega)) (rg1_size _) F9 N9 ?a1 ?a2 (led_same (c₀ := (ts, tr)) fun _ => rfl) ⟨_, _, rfl⟩ ?pturn ?pdone
    case a1 => kst_all
    case a2 => trivial
    case pturn =>
      clear F9 N9
      repeat (with_reducible rename IsRange _ _ _ _ _ _ _ _ => hzz; clear hzz)
      repeat (with_reducible rename Fr _ _ _ _ => hzz; clear hzz)
      repeat (with_reducible rename News _ _ _ _ => hzz; clear hzz)
      refine hold ?_
      revert w hg9 X T K codeHd L h₀ l0 ws hW hwl hwvl wl ow y4 wvs kw p1 sw hsW hsl hs4 rc hrc1 hrc4 DN tab nd o kvs dd1 dd2 dd3 hnl
      repeat (rename _ => hzz; first | exact hzz.out | clear hzz | revert hzz)
    case pdone =>
      clear F9 N9
      rintro ⟨ts, tr⟩ u h tk - F2 N2
      dsimp only at F2 N2 ⊢
      iterate 4 (walk_at "my step")
      · wrow_close
      · walk_at "GrownAll"

set_option maxHeartbeats 8000000 in
theorem lawL : lawK.1 := by
  w_top off
  intro hz0
  set_option tactic.hygienic false in intros
  unfold Hold
  rintro Q8 E8 hE8 q tq ⟨ts, tr⟩ u h tk I oI hq - hI hoI F2 N2
  dsimp only at F2 N2 ⊢
  simp only [Int.zero_add]
  dsimp only [List.cons_append, List.nil_append] at N2
  clear hI
  have hql : q < ws.length := by omega
  have hwqW : isW (ws.getD q []) := by rw [getD_get hql]; exact hW _ (List.getElem_mem hql)
  have hwq4 := hwqW.1
  replace hnl := hnl hql
  generalize hlv : levF sw (ws.getD q []) rc = lv at hnl
  rcases hnl with ⟨v, hlk, rfl⟩ | ⟨hlk, hlt⟩
  · have hls : (PySem.Spec.lookup (.int (q : Nat)) DN).isSome = true := by rw [hlk]; rfl
    walk_at "my go"
    · rename ¬ (((lv : Nat) : Int) = _) => c9
      exact absurd rfl c9
    · (rename Fr h₀ _ _ _ => F9); (rename News h₀ _ _ _ => N9)
      refine' FEnd.intro (ts, tr) F9 N9 (fun p hp => hp) ?b2 trivial
      case b2 => kst_all
  · have hls : (PySem.Spec.lookup (.int (q : Nat)) DN).isSome = false := by rw [hlk]; rfl
    walk_at "my go"
    (rename Fr h₀ _ _ _ => F9); (rename News h₀ _ _ _ => N9)
    refine' FEnd.intro (ts, tr) F9 N9 (fun p hp => hp) ?b2 trivial
    case b2 => kst_all
end
end Mine
theorem PySem.Challenge.cw_ty0034_01_holds : PySem.Challenge.rw_ty0034_01.Holds :=
  Mine.lawA.2 ⟨Mine.lawB.2 ⟨Mine.lawC.2.2 ⟨Mine.lawD.2 ⟨Mine.lawE.2 ⟨Mine.lawF⟩⟩⟩ ⟨Mine.lawG.2.2 ⟨Mine.lawH.2 ⟨Mine.lawI.2 ⟨Mine.lawJ⟩⟩⟩ ⟨Mine.lawK.2 ⟨Mine.lawL⟩⟩⟩⟩⟩
