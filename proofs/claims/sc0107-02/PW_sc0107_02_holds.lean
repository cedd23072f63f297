import PyProof.Rows.All
import Wide.All
import OpenK.AllK
import Wide.FinOn
import PySem.Challenge.RW_sc0107_02
set_option Elab.async false
set_option maxRecDepth 100000
set_option maxHeartbeats 8000000
set_option linter.unusedVariables false
section
open PySem PySem.W PyProof.Rows
set_option maxRecDepth 100000
set_option maxHeartbeats 8000000
namespace Mine2
noncomputable def kept (l : List Stmt) : List Stmt := l.take 1 ++ ((l.drop 2).take 2 ++ ((l.drop 5).take 7 ++ ((l.drop 13).take 1 ++ ((l.drop 15).take 5 ++ l.drop 21))))
noncomputable def view : Program := { PySem.Challenge.rw_sc0107_02.row.toRowW.prog with main := { PySem.Challenge.rw_sc0107_02.row.toRowW.prog.main with body := kept PySem.Challenge.rw_sc0107_02.row.toRowW.prog.main.body } }
local macro_rules | `(tactic| o_law) => `(tactic| refine holds_law (by decide +kernel) fun _ => ?_)
set_option hygiene false in
local macro_rules | `(tactic| o_head $H) => `(tactic| (
  refine holds_open (r := PySem.Challenge.rw_sc0107_02.row) (q := Mine2.view) (loose := [PySem.Str.ofString "Whitespace"]) (Xt := fun s => xlAt Mine2.view [] s && recOk (RowW.records PySem.Challenge.rw_sc0107_02.row.toRowW) s) (XP := XL Mine2.view []) (Yf := Hook.obs $H) (Ya := Hook.val $H) (YP := Hook.says $H) (N := 2502) ?hl (Hook.of $H) (Hook.keeps $H) (fun s e => xl_of s (Bool.and_eq_true_iff.mp e).1) XL.keeps (by rfl) (by rfl) (by rfl) (fun s e => recFacts_of (Bool.and_eq_true_iff.mp e).2) (by rfl) (by first | assumption | decide +kernel) (by decide +kernel) ⟨rfl, rfl, rfl, rfl, rfl, by decide +kernel⟩ ?hw ?hc
  case hl => exact LeftO.of_split "special-get-raises" (fun w => by kernel_rfl)))
open_top hd for PySem.Challenge.rw_sc0107_02
end Mine2
end
open PySem PySem.W PySem.Calls PyProof.Rows
namespace Mine
local macro_rules | `(tactic| omega) => `(tactic| lia)
section
theorem execs_one {M : Model} {A : Around} {env : Env} {st : Stmt} {Q : Flow → Shared → Prop} {E : Value → Shared → Prop} {s : Shared}
    (h : wpAny M A (exec st env) Q E s) : wpAny M A (execs [st] env) Q E s :=
  wpAny_execs_cons (wpAny_mono h (fun f s' q => by cases f <;> first | exact q | exact wpAny_execs_nil q) fun _ _ x => x)
section
variable {prog : Program} {w : World} {A A₀ : Around} {E : Value → Shared → Prop} {s : Shared} {K : Frag} {L : Addr} {h₀ base : Heap} {m mg mb : Str → Option Value} {p : Program} {loose : List Str} {mean : ExcName → Option Value}
/-- a call into a def: the whole heap at the call is the callee's base, its ledger is empty -/
theorem code_pure {env : Env} {outer : List Env} {R : Result → Shared → Prop} {name qual : Str} {params : Arguments} {body : List Stmt} {scope : Scope} {dV kV doc pm cdv ct oc : Value} {an od : Option Addr} {osl : Array (Option Value)} {f : Addr} {args : Args} {binds : List (Str × Value)}
    (B : Below A₀ base outer h₀) (F : Fr h₀ L s.heap m) (X₀ : K.In h₀) (T : Top p loose mean mg mb h₀) (hA : A.frames = some (env :: outer)) (hf : env.frame = some L) (hke : env.scope.kind = .function)
    (ho : K.lookup f = some ⟨oc, od, .func (fnOf name qual params body scope dV kV doc pm an cdv ct), osl⟩) (hcd : codeIn K cdv qual = true) (hroom : A.depth < recursionLimit)
    (hbind : BindsTo s (fnOf name qual params body scope dV kV doc pm an cdv ct) args binds) (hloc : ∀ y ∈ binds, scope.names.lookup y.1 = some .local)
    (h : ∀ g L' h₁, s.heap = g → Fr g L' h₁ (fun y => binds.reverse.lookup y) → News g L' h₁ [] → Below A base (env :: outer) g → K.In g → Top p loose mean mg mb g →
      wpAny (model prog w) (A.deeper (envOf qual scope L' f cdv)) (execs body (envOf qual scope L' f cdv))
        (fun fl s' => R (.ok (.ret (match fl with | .ret v => v | _ => .none))) s')
        (fun e s' => wpAny (model prog w) (A.deeper (envOf qual scope L' f cdv)) (leaving (envOf qual scope L' f cdv) e) (fun _ s'' => R (.error e) s'') (fun e' s'' => R (.error e') s'') s')
        { s with heap := h₁, toks := s.toks + binds.length })
    (hco : scope.isCoroutine = false) (hgen : scope.isGenerator = false) (hk : scope.kind = .function)
    (hcell : ∀ x ∈ scope.names, x.2 ≠ .cell) : codeAny (model prog w) A (.call (.ref f) args) R s := by
  have XS := X₀.keeps F.keep
  have B₁ := pushX B F hf hke
  have B₂ : Below A base (env :: outer) s.heap := ⟨hA, B₁.stays, B₁.frames⟩
  refine codeAny_call_def (fd := fnOf name qual params body scope dV kV doc pm an cdv ct) (body := body) (binds := binds) hroom (XS _ _ ho) rfl (T.nolimit.keeps F.keep) (codeRec_of XS hcd) rfl hbind hcell hloc (fun h₁ hns hk₁ => ?_) hco hgen hk
  exact h s.heap s.heap.objs.size h₁ rfl ⟨hns, hk₁, Nat.le_refl _⟩ News.nil B₂ XS (T.keeps F.keep)
end
/-- the contract of a def that changes nothing that stands: at every caller -/
def Spec (prog : Program) (w : World) (K : Frag) (D U : Nat) (f : Addr) (vs : List Value) (H : Heap → Prop) (Post : Value → Heap → Heap → Prop) : Prop :=
  ∀ (p : Program) (loose : List Str) (mean : ExcName → Option Value) (mg mb : Str → Option Value) (dp un : Nat) (gd : Option (List Code)) (cn : Str) (cs : Scope) (a : Addr) (ccd : Value) (cl : List (Str × Addr)) (outer : List Env) (A₀ : Around) (base h₀ : Heap) (L : Addr) (m : Str → Option Value) (s : Shared) (Q E : Value → Shared → Prop),
    Below A₀ base outer h₀ → Fr h₀ L s.heap m → K.In h₀ → Top p loose mean mg mb h₀ → cs.kind = .function → H s.heap → dp ≤ D → un ≤ U →
    (∀ v h' tk', s.heap.StaysIn h' → Post v s.heap h' → Q v { s with heap := h', toks := tk' }) →
    wpAny (model prog w) (ktrTop dp un gd cn cs L a ccd cl outer) (call (.ref f) vs) Q E s
theorem wpAny_more {α : Type} {M : Model} {A : Around} {t : Sem α} {Q : α → Shared → Prop} {E : Value → Shared → Prop} {s : Shared} {u d : Nat} (h : wpAny M A t Q E s) (hd : d ≤ A.depth) (hu : u ≤ A.units) : wpAny M { A with units := u, depth := d } t Q E s :=
  fun Γ p hΓ => h Γ p ⟨hΓ.1, Nat.le_trans hΓ.2.1 hd, hΓ.2.2.1, hΓ.2.2.2.1, Nat.le_trans hΓ.2.2.2.2 hu⟩
theorem fr_stay {h₀ h h' : Heap} {L : Addr} {m : Str → Option Value} (F : Fr h₀ L h m) (k : h.StaysIn h') : Fr h₀ L h' m := by
  (try k_fold)
  obtain ⟨oL, es, ep, hL, r⟩ := F.ns
  exact ⟨⟨oL, es, ep, k _ _ hL, r⟩, fun b o e => k _ _ (F.keep b o e), F.above⟩
theorem news_stay {h₀ h h' : Heap} {L : Addr} {news : List (Addr × Obj)} (N : News h₀ L h news) (k : h.StaysIn h') : News h₀ L h' news :=
  fun p hp => ⟨k _ _ (N p hp).1, (N p hp).2⟩
theorem news_add {h₀ h h' : Heap} {L a : Addr} {o : Obj} {m : Str → Option Value} {news : List (Addr × Obj)} (F : Fr h₀ L h m) (N : News h₀ L h' news) (ho : h'.get? a = some o) (hn : h.objs.size ≤ a) : News h₀ L h' ((a, o) :: news) := by
  intro p hp
  rcases List.mem_cons.mp hp with rfl | hp
  · refine ⟨ho, Nat.ne_of_gt (Nat.lt_of_lt_of_le F.ns.lt hn), ?_⟩
    cases q : h₀.get? a with
    | none => rfl
    | some o' => exact absurd (Nat.lt_of_lt_of_le (Heap.lt_size (F.keep _ _ q)) hn) (Nat.lt_irrefl _)
  · exact N p hp
section
variable {prog : Program} {w : World} {A₀ : Around} {E : Value → Shared → Prop} {s : Shared} {K : Frag} {L : Addr} {h₀ base : Heap} {m mg mb : Str → Option Value} {p : Program} {loose : List Str} {mean : ExcName → Option Value} {news : List (Addr × Obj)}
theorem spec_call {D U : Nat} {f : Addr} {vs : List Value} {H : Heap → Prop} {Post : Value → Heap → Heap → Prop} {dp un : Nat} {gd : Option (List Code)} {cn : Str} {cs : Scope} {a : Addr} {ccd : Value} {cl : List (Str × Addr)} {outer : List Env} {Q : Value → Shared → Prop}
    (S : Spec prog w K D U f vs H Post) (B : Below A₀ base outer h₀) (F : Fr h₀ L s.heap m) (X : K.In h₀) (N : News h₀ L s.heap news) (T : Top p loose mean mg mb h₀) (hk : cs.kind = .function) (hH : H s.heap) (hd : dp ≤ D) (hu : un ≤ U)
    (h : ∀ v h' tk', Fr h₀ L h' m → News h₀ L h' news → s.heap.StaysIn h' → Post v s.heap h' → Q v { s with heap := h', toks := tk' }) :
    wpAny (model prog w) (ktrTop dp un gd cn cs L a ccd cl outer) (call (.ref f) vs) Q E s :=
  S p loose mean mg mb dp un gd cn cs a ccd cl outer A₀ base h₀ L m s Q E B F X T hk hH hd hu fun v h' tk' k P => h v h' tk' (fr_stay F k) (news_stay N k) k P
end
def Lk (m : Str → Option Value) : List (Str × Value) → Prop
  | [] => True
  | p :: r => m p.1 = some p.2 ∧ Lk m r
theorem Lk.all {m : Str → Option Value} : ∀ {l : List (Str × Value)}, Lk m l → ∀ p ∈ l, m p.1 = some p.2
  | _ :: _, h, _, .head _ => h.1
  | _ :: _, h, _, .tail _ hp => Lk.all h.2 _ hp
theorem Lk.kst {m : Str → Option Value} {l : List (Str × Value)} (h : Lk m l) : kstB m l = m := funext fun _ => kstB_eq h.all fun _ => rfl
def EndT {σ : Type} (h₀ : Heap) (L : Addr) (Led : σ → List (Addr × Obj)) (ps : σ → List (Str × Value)) (Inv : σ → Prop) (own : List (Addr × Obj)) (s₁ s₂ : Shared) : Prop :=
  ∃ (c : σ) (h' : Heap) (tk : Nat) (m' : Str → Option Value) (news' : List (Addr × Obj)), s₂ = { s₁ with heap := h', toks := tk } ∧ Fr h₀ L h' m' ∧ News h₀ L h' news' ∧ (∀ p ∈ Led c, p ∈ news') ∧ (∀ p ∈ own, p ∈ news') ∧ OwnOff own ((Led c).map (·.1)) ∧ Lk m' (ps c) ∧ Inv c
def PostT {σ : Type} (h₀ : Heap) (L : Addr) (Led : σ → List (Addr × Obj)) (ps : σ → List (Str × Value)) (Inv : σ → Prop) (own : List (Addr × Obj)) (s₁ : Shared) (Q : Flow → Shared → Prop) (f : Flow) (s₂ : Shared) : Prop :=
  match f with
  | .ret v => Q (.ret v) s₂
  | .brk => Q .next s₂
  | _ => EndT h₀ L Led ps Inv own s₁ s₂
theorem endT {σ : Type} {h₀ : Heap} {L : Addr} {Led : σ → List (Addr × Obj)} {ps : σ → List (Str × Value)} {Inv : σ → Prop} {own : List (Addr × Obj)} {s₁ : Shared} {h' : Heap} {tk : Nat} {m' : Str → Option Value} {news' : List (Addr × Obj)} (c : σ)
    (F : Fr h₀ L h' m') (N : News h₀ L h' news') (h1 : ∀ p ∈ Led c, p ∈ news') (h2 : ∀ p ∈ own, p ∈ news') (h3 : OwnOff own ((Led c).map (·.1))) (hk : Lk m' (ps c)) (hi : Inv c) :
    EndT h₀ L Led ps Inv own s₁ { s₁ with heap := h', toks := tk } := ⟨c, h', tk, m', news', rfl, F, N, h1, h2, h3, hk, hi⟩
section
variable {prog : Program} {w : World} {A : Around} {E : Value → Shared → Prop} {s : Shared} {env : Env} {h₀ : Heap} {x : Str} {body : List Stmt} {Q : Flow → Shared → Prop}
theorem loop_g {σ : Type} {I : Addr} {fp wr : List Addr} {n : Nat} {P : Nat → Value → Prop} {St : Nat → Heap → Prop} {m₀ : Str → Option Value} {news : List (Addr × Obj)} (kept : List (Addr × Obj)) (Led : σ → List (Addr × Obj)) (ps : σ → List (Str × Value)) (Inv : Nat → σ → Prop) (c₀ : σ)
    (W : Walks prog w A I fp wr n P St) (hlive : ∀ i h b, b ∈ wr → St i h → ∃ o, h.get? b = some o) (hkl : ∀ c : σ, ∀ p ∈ kept, p ∈ Led c) (hfp : ∀ b ∈ fp, b ∉ wr → h₀.get? b = none → ∃ o, (b, o) ∈ kept)
    (hLf : env.locals ∉ fp) (hwr : ∀ b ∈ wr, h₀.get? b = none) (hnw : ∀ p ∈ Led c₀, p.1 ∉ wr) (hst : St 0 s.heap) (F : Fr h₀ env.locals s.heap m₀) (N : News h₀ env.locals s.heap news) (hs : ∀ p ∈ Led c₀, p ∈ news) (hk : Lk m₀ (ps c₀)) (hi : Inv 0 c₀)
    (turn : ∀ i v c u h tk own, i < n → P i v → Inv i c → OwnOff own ((Led c).map (·.1)) → Fr h₀ env.locals h (fun y => if y = x then some v else kstB u (ps c) y) → News h₀ env.locals h (Led c ++ own) →
      wpAny (model prog w) A (execs body env) (PostT h₀ env.locals Led ps (Inv (i + 1)) own { s with heap := h, toks := tk } Q) E { s with heap := h, toks := tk })
    (done : ∀ c u h tk, Inv n c → Fr h₀ env.locals h (kstB u (ps c)) → News h₀ env.locals h (Led c) → Q .next { s with heap := h, toks := tk }) :
    LoopAtV prog w A h₀ env x body Q E (.ref I) s := by
  refine ⟨I, fp, wr, n, P, St, m₀, Led c₀, fun i m nx => ∃ c, nx = Led c ∧ Lk m (ps c) ∧ Inv i c, rfl, W, hLf, hwr, hnw, hst, F, fun p hp => N p (hs p hp), ⟨c₀, rfl, hk, hi⟩, ?_, ?_⟩
  · rintro i v m₁ news₁ s₁ own ⟨h, tk, rfl⟩ hin hP ⟨c, rfl, hk₁, hi₁⟩ hoff hsub hget hall hst₁ F₁ N₁
    have N₁' : News h₀ env.locals h (Led c) := fun p hp => N₁ p (List.mem_append_right _ hp)
    have hF : Fr h₀ env.locals h (fun y => if y = x then some v else kstB m₁ (ps c) y) := by rw [hk₁.kst]; exact F₁
    have hN : News h₀ env.locals h (Led c ++ own.filter fun p => decide (p.1 ∈ wr)) := fun p hp => N₁ p ((List.mem_append.mp hp).elim (List.mem_append_right _) fun q => List.mem_append_left _ (List.mem_filter.mp q).1)
    have hO : OwnOff (own.filter fun p => decide (p.1 ∈ wr)) ((Led c).map (·.1)) := by
      intro p hp b hb e
      (try k_fold)
      obtain ⟨q, hq, rfl⟩ := List.mem_map.mp hb
      have hp2 := (List.mem_filter.mp hp).2
      exact hoff q hq (e ▸ of_decide_eq_true hp2)
    refine wpAny_mono (turn i v c m₁ h tk _ hin hP hi₁ hO hF hN) (fun f s₂ q => ?_) fun _ _ e => e
    have fin : EndT h₀ env.locals Led ps (Inv (i + 1)) (own.filter fun p => decide (p.1 ∈ wr)) { s with heap := h, toks := tk } s₂ → LoopStepU h₀ env.locals wr own (fun m nx => ∃ c, nx = Led c ∧ Lk m (ps c) ∧ Inv (i + 1) c) { s with heap := h, toks := tk } .next s₂ := by
      rintro ⟨c', h', tk', m', news', rfl, F', N', h1, h2, h3, hk', hi'⟩
      have NL : News h₀ env.locals h' (Led c') := fun p hp => N' p (h1 p hp)
      have off' : ∀ p ∈ Led c', p.1 ∉ wr := by
        intro p hp hw
        (try k_fold)
        obtain ⟨o, ho⟩ := hlive _ _ _ hw hst₁
        have hm := hall _ (W.sub _ hw) (hwr _ hw) o ho
        exact h3 (p.1, o) (List.mem_filter.mpr ⟨hm, decide_eq_true hw⟩) p.1 (List.mem_map_of_mem hp) rfl
      refine ⟨rfl, h', tk', m', Led c', rfl, F', fun p hp => ?_, off', c', rfl, hk', hi'⟩
      rcases List.mem_append.mp hp with hp | hp
      · by_cases hw : p.1 ∈ wr
        · exact N' p (h2 p (List.mem_filter.mpr ⟨hp, decide_eq_true hw⟩))
        · have hn : h₀.get? p.1 = none := (N₁ p (List.mem_append_left _ hp)).2.2
          (try k_fold)
          obtain ⟨o, ho⟩ := hfp p.1 (hsub p hp) hw hn
          have e1 := (N₁' _ (hkl c _ ho)).1
          have e2 := hget p hp
          have e3 : p = (p.1, o) := by
            rw [e1] at e2
            exact Prod.ext rfl (Option.some.inj e2).symm
          rw [e3]
          exact NL _ (hkl c' _ ho)
      · exact NL p hp
    cases f with
    | ret v => exact q
    | brk => exact q
    | next => exact fin q
    | cont => exact fin q
  · rintro h' tk m' news' F' N' _ ⟨c, rfl, hk', hi'⟩
    refine done c m' h' tk hi' ?_ N'
    rw [hk'.kst]; exact F'
theorem loop_str {σ : Type} {L : Addr} {xt : Str} {tx : Tok} {m₀ : Str → Option Value} {news : List (Addr × Obj)} (Led : σ → List (Addr × Obj)) (ps : σ → List (Str × Value)) (Inv : Nat → σ → Prop) (c₀ : σ)
    (hL : env.locals = L) (hh : A.handled = none) (F : Fr h₀ L s.heap m₀) (N : News h₀ L s.heap news) (hs : ∀ p ∈ Led c₀, p ∈ news) (hk : Lk m₀ (ps c₀)) (hi : Inv 0 c₀)
    (turn : ∀ i cp t c u h tk own, xt.cps[i]? = some cp → Inv i c → OwnOff own ((Led c).map (·.1)) → Fr h₀ L h (fun y => if y = x then some (.str ⟨#[cp]⟩ t) else kstB u (ps c) y) → News h₀ L h (Led c ++ own) →
      wpAny (model prog w) A (execs body env) (PostT h₀ L Led ps (Inv (i + 1)) own { s with heap := h, toks := tk } Q) E { s with heap := h, toks := tk })
    (done : ∀ c u h tk, Inv xt.cps.size c → Fr h₀ L h (kstB u (ps c)) → News h₀ L h (Led c) → Q .next { s with heap := h, toks := tk }) :
    wpAny (model prog w) A (pyIter (.str xt tx)) (fun it s₂ => LoopAtV prog w A h₀ env x body Q E it s₂) E s := by
  subst hL
  have key : ∀ (o : Obj) (hf : o.isFreed = false) (St : Nat → Heap → Prop), Walks prog w A s.heap.objs.size [s.heap.objs.size] [s.heap.objs.size] xt.cps.size (SignAt xt) St → (∀ i h, St i h → ∃ o, h.get? s.heap.objs.size = some o) → St 0 (s.heap.push o) →
      LoopAtV prog w A h₀ env x body Q E (.ref s.heap.objs.size) { s with heap := s.heap.push o } := by
    intro o hf St W hl hst
    refine loop_g (s := { s with heap := s.heap.push o }) [] Led ps Inv c₀ W (fun i h b hb st => by rw [List.mem_singleton.mp hb]; exact hl i h st) (fun _ _ hp => nomatch hp) (fun b hb hw => absurd hb hw) ?_ ?_ ?_ hst (F.push _) (fun p hp => ⟨Heap.get?_push_of_some _ (N p hp).1, (N p hp).2⟩) hs hk hi ?_ done
    · intro hm
      exact absurd F.ns.lt ((List.mem_singleton.mp hm) ▸ Nat.lt_irrefl _)
    · intro b hb
      rw [List.mem_singleton.mp hb]
      exact next_is_new F
    · intro p hp hI
      exact absurd (Heap.lt_size (N p (hs p hp)).1) ((List.mem_singleton.mp hI) ▸ Nat.lt_irrefl _)
    · rintro i v c u h tk own hin ⟨cp, t, hc, rfl⟩ hi' hO F' N'
      exact turn i cp t c u h tk own hc hi' hO F' N'
  cases ha : xt.cps.all (· < 128)
  · exact wpAny_pyIter_wide ha (key _ rfl _ (Walks.strWide hh _ xt tx) (fun i h st => ⟨_, st.choose_spec.1⟩) ⟨_, Heap.get?_push_size _ rfl, rfl, rfl⟩)
  · exact wpAny_pyIter_ascii ha (key _ rfl _ (Walks.strAscii hh _ xt tx) (fun i h st => ⟨_, st.choose_spec.1⟩) ⟨_, Heap.get?_push_size _ rfl, rfl, rfl⟩)
theorem loop_range {σ : Type} {L : Addr} {r : Addr} {a₀ b₀ : Int} {t₀ u₀ v₀ : Tok} {n : Nat} {m₀ : Str → Option Value} {news : List (Addr × Obj)} (Led : σ → List (Addr × Obj)) (ps : σ → List (Str × Value)) (Inv : Nat → σ → Prop) (c₀ : σ)
    (hL : env.locals = L) (hh : A.handled = none) (hr : IsRange s.heap r a₀ b₀ 1 t₀ u₀ v₀) (hsmall : Builtin.Range.small a₀ b₀ 1 = true) (hn : Builtin.Range.rangeSize a₀ b₀ 1 = (n : Int)) (F : Fr h₀ L s.heap m₀) (N : News h₀ L s.heap news) (hs : ∀ p ∈ Led c₀, p ∈ news) (hk : Lk m₀ (ps c₀)) (hi : Inv 0 c₀)
    (turn : ∀ (i : Nat) t c u h tk own, i < n → Inv i c → OwnOff own ((Led c).map (·.1)) → Fr h₀ L h (fun y => if y = x then some (.int (a₀ + (i : Int)) t) else kstB u (ps c) y) → News h₀ L h (Led c ++ own) →
      wpAny (model prog w) A (execs body env) (PostT h₀ L Led ps (Inv (i + 1)) own { s with heap := h, toks := tk } Q) E { s with heap := h, toks := tk })
    (done : ∀ c u h tk, Inv n c → Fr h₀ L h (kstB u (ps c)) → News h₀ L h (Led c) → Q .next { s with heap := h, toks := tk }) :
    wpAny (model prog w) A (pyIter (.ref r)) (fun it s₂ => LoopAtV prog w A h₀ env x body Q E it s₂) E s := by
  subst hL
  refine wpAny_pyIter_range hr hsmall ?_
  have W : Walks prog w A s.heap.objs.size [s.heap.objs.size] [s.heap.objs.size] n (fun i v => ∃ t, v = .int (a₀ + i * 1) t)
      (fun i h => IsRangeIter h s.heap.objs.size (a₀ + (i : Nat) * 1) ((n : Int) - (i : Nat)) 1) := Walks.range hh _ a₀ 1 n
  refine loop_g [] Led ps Inv c₀ W (fun i h b hb st => by rw [List.mem_singleton.mp hb]; exact ⟨_, st⟩) (fun _ _ hp => nomatch hp) (fun b hb hw => absurd hb hw) ?_ ?_ ?_ (by show IsRangeIter _ _ _ _ _; rw [hn]; simpa using Heap.get?_push_size _ rfl) (F.push _) (fun p hp => ⟨Heap.get?_push_of_some _ (N p hp).1, (N p hp).2⟩) hs hk hi ?_ done
  · intro hm
    exact absurd F.ns.lt ((List.mem_singleton.mp hm) ▸ Nat.lt_irrefl _)
  · intro b hb
    rw [List.mem_singleton.mp hb]
    exact next_is_new F
  · intro p hp hI
    exact absurd (Heap.lt_size (N p (hs p hp)).1) ((List.mem_singleton.mp hI) ▸ Nat.lt_irrefl _)
  · rintro i v c u h tk own hin ⟨t, rfl⟩ hi' hO F' N'
    have e : a₀ + (i : Int) * 1 = a₀ + (i : Int) := by omega
    rw [e] at F'
    exact turn i t c u h tk own hin hi' hO F' N'
/-- over a list that stands in the base heap, or in the ledger at every turn -/
theorem loop_list {σ : Type} {L : Addr} {l : Addr} {vs : List Value} {nn : Nat} {m₀ : Str → Option Value} {news : List (Addr × Obj)} (Led : σ → List (Addr × Obj)) (ps : σ → List (Str × Value)) (Inv : Nat → σ → Prop) (c₀ : σ)
    (hL : env.locals = L) (hh : A.handled = none) (hl : h₀.IsList l vs.toArray ∨ (∀ c : σ, (l, listOf vs.toArray nn) ∈ Led c)) (F : Fr h₀ L s.heap m₀) (N : News h₀ L s.heap news) (hs : ∀ p ∈ Led c₀, p ∈ news) (hk : Lk m₀ (ps c₀)) (hi : Inv 0 c₀)
    (turn : ∀ i v c u h tk own, vs[i]? = some v → Inv i c → OwnOff own ((Led c).map (·.1)) → Fr h₀ L h (fun y => if y = x then some v else kstB u (ps c) y) → News h₀ L h (Led c ++ own) →
      wpAny (model prog w) A (execs body env) (PostT h₀ L Led ps (Inv (i + 1)) own { s with heap := h, toks := tk } Q) E { s with heap := h, toks := tk })
    (done : ∀ c u h tk, Inv vs.length c → Fr h₀ L h (kstB u (ps c)) → News h₀ L h (Led c) → Q .next { s with heap := h, toks := tk }) :
    wpAny (model prog w) A (pyIter (.ref l)) (fun it s₂ => LoopAtV prog w A h₀ env x body Q E it s₂) E s := by
  subst hL
  have hls : s.heap.IsList l vs.toArray := by
    rcases hl with hl | hl
    · exact hl.at fun o e => F.keep l o e
    · exact ⟨_, (N _ (hs _ (hl c₀))).1, rfl, nn, rfl⟩
  (try k_fold)
  obtain ⟨ol, hol, _⟩ := id hls
  have hlt : l < s.heap.objs.size := Heap.lt_size hol
  have hne : l ≠ s.heap.objs.size := Nat.ne_of_lt hlt
  have hlL : l ≠ env.locals := by
    rcases hl with hl | hl
    · obtain ⟨ol', hol', _⟩ := id hl
      exact Nat.ne_of_lt (Nat.lt_of_lt_of_le (Heap.lt_size hol') F.above)
    · exact (N _ (hs _ (hl c₀))).2.1
  refine wpAny_pyIter_list hls ?_
  have W := Walks.list (prog := prog) (w := w) hh s.heap.objs.size l hne vs.toArray
  have key : ∀ kept : List (Addr × Obj), (∀ c : σ, ∀ p ∈ kept, p ∈ Led c) → (h₀.get? l = none → ∃ o, (l, o) ∈ kept) → LoopAtV prog w A h₀ env x body Q E (.ref s.heap.objs.size) { s with heap := s.heap.push { cls := .type "list_iterator", data := .fields #[.ref l, .int 0 0] } } := by
    intro kept hk1 hk2
    refine loop_g kept Led ps Inv c₀ W (fun i h b hb st => by rw [List.mem_singleton.mp hb]; exact ⟨_, st.1.choose_spec.1⟩) hk1 (fun b hb hw hn => ?_) ?_ ?_ ?_ ⟨⟨_, Heap.get?_push_size _ rfl, rfl, rfl⟩, hls.at fun o e => Heap.get?_push_of_some _ e⟩ (F.push _) (fun p hp => ⟨Heap.get?_push_of_some _ (N p hp).1, (N p hp).2⟩) hs hk hi ?_ ?_
    · rcases List.mem_cons.mp hb with rfl | hb
      · exact absurd (List.mem_singleton.mpr rfl) hw
      · rw [List.mem_singleton.mp hb] at hn ⊢
        exact hk2 hn
    · intro hm
      rcases List.mem_cons.mp hm with e | hm
      · exact absurd F.ns.lt (e ▸ Nat.lt_irrefl _)
      · exact hlL (List.mem_singleton.mp hm).symm
    · intro b hb
      rw [List.mem_singleton.mp hb]
      exact next_is_new F
    · intro p hp hI
      exact absurd (Heap.lt_size (N p (hs p hp)).1) ((List.mem_singleton.mp hI) ▸ Nat.lt_irrefl _)
    · rintro i v c u h tk own hin hv hi' hO F' N'
      exact turn i v c u h tk own (by simpa using hv) hi' hO F' N'
    · intro c u h tk hi' F' N'
      exact done c u h tk (by simpa using hi') F' N'
  rcases hl with hl | hl
  · refine key [] (fun _ _ hp => nomatch hp) fun hn => ?_
    (try k_fold)
    obtain ⟨ol', hol', _⟩ := id hl
    rw [hn] at hol'; cases hol'
  · exact key [(l, listOf vs.toArray nn)] (fun c p hp => by rw [List.mem_singleton.mp hp]; exact hl c) fun _ => ⟨_, .head _⟩
end
def EndW {σ : Type} (h₀ : Heap) (L : Addr) (Led : σ → List (Addr × Obj)) (ps : σ → List (Str × Value)) (Inv : σ → Prop) (μ : σ → Nat) (n : Nat) (s₁ s₂ : Shared) : Prop :=
  ∃ (c : σ) (h' : Heap) (tk : Nat) (m' : Str → Option Value) (news' : List (Addr × Obj)), s₂ = { s₁ with heap := h', toks := tk } ∧ Fr h₀ L h' m' ∧ News h₀ L h' news' ∧ (∀ p ∈ Led c, p ∈ news') ∧ Lk m' (ps c) ∧ Inv c ∧ μ c < n
def PostW {σ : Type} (h₀ : Heap) (L : Addr) (Led : σ → List (Addr × Obj)) (ps : σ → List (Str × Value)) (Inv : σ → Prop) (μ : σ → Nat) (n : Nat) (s₁ : Shared) (Q : Flow → Shared → Prop) (f : Flow) (s₂ : Shared) : Prop :=
  match f with
  | .ret v => Q (.ret v) s₂
  | .brk => Q .next s₂
  | _ => EndW h₀ L Led ps Inv μ n s₁ s₂
theorem postT_ret {σ : Type} {h₀ : Heap} {L : Addr} {Led : σ → List (Addr × Obj)} {ps : σ → List (Str × Value)} {Inv : σ → Prop} {own : List (Addr × Obj)} {s₁ s : Shared} {Q : Flow → Shared → Prop} {v : Value} (h : Q (.ret v) s) : PostT h₀ L Led ps Inv own s₁ Q (.ret v) s := h
theorem postT_brk {σ : Type} {h₀ : Heap} {L : Addr} {Led : σ → List (Addr × Obj)} {ps : σ → List (Str × Value)} {Inv : σ → Prop} {own : List (Addr × Obj)} {s₁ s : Shared} {Q : Flow → Shared → Prop} (h : Q .next s) : PostT h₀ L Led ps Inv own s₁ Q .brk s := h
theorem postW_ret {σ : Type} {h₀ : Heap} {L : Addr} {Led : σ → List (Addr × Obj)} {ps : σ → List (Str × Value)} {Inv : σ → Prop} {μ : σ → Nat} {n : Nat} {s₁ s : Shared} {Q : Flow → Shared → Prop} {v : Value} (h : Q (.ret v) s) : PostW h₀ L Led ps Inv μ n s₁ Q (.ret v) s := h
theorem postT_next {σ : Type} {h₀ : Heap} {L : Addr} {Led : σ → List (Addr × Obj)} {ps : σ → List (Str × Value)} {Inv : σ → Prop} {own : List (Addr × Obj)} {s₁ s : Shared} {Q : Flow → Shared → Prop} (h : EndT h₀ L Led ps Inv own s₁ s) : PostT h₀ L Led ps Inv own s₁ Q .next s := h
theorem postW_next {σ : Type} {h₀ : Heap} {L : Addr} {Led : σ → List (Addr × Obj)} {ps : σ → List (Str × Value)} {Inv : σ → Prop} {μ : σ → Nat} {n : Nat} {s₁ s : Shared} {Q : Flow → Shared → Prop} (h : EndW h₀ L Led ps Inv μ n s₁ s) : PostW h₀ L Led ps Inv μ n s₁ Q .next s := h
theorem endW {σ : Type} {h₀ : Heap} {L : Addr} {Led : σ → List (Addr × Obj)} {ps : σ → List (Str × Value)} {Inv : σ → Prop} {μ : σ → Nat} {n : Nat} {s₁ : Shared} {h' : Heap} {tk : Nat} {m' : Str → Option Value} {news' : List (Addr × Obj)} (c : σ)
    (F : Fr h₀ L h' m') (N : News h₀ L h' news') (h1 : ∀ p ∈ Led c, p ∈ news') (hk : Lk m' (ps c)) (hi : Inv c) (hm : μ c < n) :
    EndW h₀ L Led ps Inv μ n s₁ { s₁ with heap := h', toks := tk } := ⟨c, h', tk, m', news', rfl, F, N, h1, hk, hi, hm⟩
section
variable {prog : Program} {w : World} {A : Around} {E : Value → Shared → Prop} {Q : Flow → Shared → Prop} {s : Shared} {env : Env} {h₀ : Heap} {L : Addr}
theorem while_g {σ : Type} {test : Expr} {body : List Stmt} {pos : Pos} {m₀ : Str → Option Value} {news : List (Addr × Obj)} (Led : σ → List (Addr × Obj)) (ps : σ → List (Str × Value)) (Inv : σ → Prop) (μ : σ → Nat) (c₀ : σ)
    (F : Fr h₀ L s.heap m₀) (N : News h₀ L s.heap news) (hs : ∀ p ∈ Led c₀, p ∈ news) (hk : Lk m₀ (ps c₀)) (hi : Inv c₀)
    (turn : ∀ c u h tk, Inv c → Fr h₀ L h (kstB u (ps c)) → News h₀ L h (Led c) →
      wpAny (model prog w) A (isTrue test env (eval test env)) (fun b s₂ =>
        if b = true then wpAny (model prog w) A (execs body env) (PostW h₀ L Led ps Inv μ (μ c) s Q) E s₂ else Q .next s₂) E { s with heap := h, toks := tk })
    (hE : PassesOwn (model prog w) A env E := by passes_own) :
    wpAny (model prog w) A (exec (.While test body [] pos) env) Q E s := by
  refine While_inv2 (fun n m nx => ∃ c : σ, nx = Led c ∧ μ c = n ∧ Lk m (ps c) ∧ Inv c) F (fun p hp => N p (hs p hp)) ⟨c₀, rfl, rfl, hk, hi⟩ ?_ hE
  rintro n m₁ nx h tk F₁ N₁ ⟨c, rfl, rfl, hk₁, hi₁⟩
  refine wpAny_mono (turn c m₁ h tk hi₁ (by rw [hk₁.kst]; exact F₁) N₁) (fun b s₂ p => ?_) fun _ _ x => x
  cases b with
  | false => simpa using p
  | true =>
    simp only [if_true] at p ⊢
    refine wpAny_mono p (fun f s₃ q => ?_) fun _ _ x => x
    have fin : EndW h₀ L Led ps Inv μ (μ c) s s₃ → ∃ h' tk m₂ news₂ n', s₃ = { s with heap := h', toks := tk } ∧ Fr h₀ L h' m₂ ∧ News h₀ L h' news₂ ∧ n' < μ c ∧ ∃ c : σ, news₂ = Led c ∧ μ c = n' ∧ Lk m₂ (ps c) ∧ Inv c := by
      rintro ⟨c', h', tk', m', news', rfl, F', N', h1, hk', hi', hm⟩
      exact ⟨h', tk', m', Led c', μ c', rfl, F', fun p hp => N' p (h1 p hp), hm, c', rfl, rfl, hk', hi'⟩
    cases f with
    | ret v => exact q
    | brk => exact q
    | next => exact fin q
    | cont => exact fin q
end
def EndX {σ : Type} (h₀ : Heap) (L : Addr) (Led : σ → List (Addr × Obj)) (ps : σ → List (Str × Value)) (InvE : σ → Prop) (s₁ s₂ : Shared) : Prop :=
  ∃ (c : σ) (h' : Heap) (tk : Nat) (m' : Str → Option Value) (news' : List (Addr × Obj)), s₂ = { s₁ with heap := h', toks := tk } ∧ Fr h₀ L h' m' ∧ News h₀ L h' news' ∧ (∀ p ∈ Led c, p ∈ news') ∧ Lk m' (ps c) ∧ InvE c
theorem endX {σ : Type} {h₀ : Heap} {L : Addr} {Led : σ → List (Addr × Obj)} {ps : σ → List (Str × Value)} {InvE : σ → Prop} {s₁ : Shared} {h' : Heap} {tk : Nat} {m' : Str → Option Value} {news' : List (Addr × Obj)} (c : σ)
    (F : Fr h₀ L h' m') (N : News h₀ L h' news') (h1 : ∀ p ∈ Led c, p ∈ news') (hk : Lk m' (ps c)) (hi : InvE c) :
    EndX h₀ L Led ps InvE s₁ { s₁ with heap := h', toks := tk } := ⟨c, h', tk, m', news', rfl, F, N, h1, hk, hi⟩
section
variable {prog : Program} {w : World} {A : Around} {E : Value → Shared → Prop} {Q : Flow → Shared → Prop} {s : Shared} {env : Env} {h₀ : Heap} {L : Addr}
/-- a while whose ways out meet before the rest is walked -/
theorem while_d {σ : Type} {test : Expr} {body : List Stmt} {pos : Pos} {m₀ : Str → Option Value} {news : List (Addr × Obj)} (Led : σ → List (Addr × Obj)) (ps : σ → List (Str × Value)) (Inv : σ → Prop) (μ : σ → Nat) (InvE : σ → Prop) (c₀ : σ)
    (F : Fr h₀ L s.heap m₀) (N : News h₀ L s.heap news) (hs : ∀ p ∈ Led c₀, p ∈ news) (hk : Lk m₀ (ps c₀)) (hi : Inv c₀)
    (turn : ∀ c u h tk, Inv c → Fr h₀ L h (kstB u (ps c)) → News h₀ L h (Led c) →
      wpAny (model prog w) A (isTrue test env (eval test env)) (fun b s₂ =>
        if b = true then wpAny (model prog w) A (execs body env) (PostW h₀ L Led ps Inv μ (μ c) s Q) E s₂ else EndX h₀ L Led ps InvE s s₂) E { s with heap := h, toks := tk })
    (done : ∀ c u h tk, InvE c → Fr h₀ L h (kstB u (ps c)) → News h₀ L h (Led c) → Q .next { s with heap := h, toks := tk })
    (hE : PassesOwn (model prog w) A env E := by passes_own) :
    wpAny (model prog w) A (exec (.While test body [] pos) env) Q E s := by
  refine while_g Led ps Inv μ c₀ F N hs hk hi (fun c u h tk hc F₁ N₁ => wpAny_mono (turn c u h tk hc F₁ N₁) (fun b s₂ p => ?_) fun _ _ x => x) hE
  cases b with
  | true => exact p
  | false =>
    simp only [Bool.false_eq_true, if_false] at p ⊢
    (try k_fold)
    obtain ⟨c', h', tk', m', news', rfl, F', N', h1, hk', hi'⟩ := p
    exact done c' m' h' tk' hi' (by rw [hk'.kst]; exact F') fun q hq => N' q (h1 q hq)
end
/-- what a for runs over here: a list that stands, or a range by ones -/
def Src (h : Heap) (xv : Value) (n : Nat) (P : Nat → Value → Prop) : Prop :=
  (∃ ax vs, xv = .ref ax ∧ h.IsList ax (vs : List Value).toArray ∧ n = vs.length ∧ ∀ i v, vs[i]? = some v → P i v) ∨
  (∃ r a b t u v, xv = .ref r ∧ IsRange h r a b 1 t u v ∧ Builtin.Range.small a b 1 = true ∧ Builtin.Range.rangeSize a b 1 = (n : Int) ∧ ∀ (i : Nat) v, i < n → (∃ t, v = .int (a + (i : Int)) t) → P i v)
theorem Src.list {h : Heap} {ax : Addr} {vs : List Value} (hl : h.IsList ax vs.toArray) : Src h (.ref ax) vs.length (fun i v => vs[i]? = some v) := .inl ⟨ax, vs, rfl, hl, rfl, fun _ _ e => e⟩
theorem Src.range {h : Heap} {r : Addr} {a b : Int} {t u v : Tok} {n : Nat} (hr : IsRange h r a b 1 t u v) (hs : Builtin.Range.small a b 1 = true) (hn : Builtin.Range.rangeSize a b 1 = (n : Int)) : Src h (.ref r) n (fun i v => i < n ∧ ∃ t, v = .int (a + (i : Int)) t) :=
  .inr ⟨r, a, b, t, u, v, rfl, hr, hs, hn, fun _ _ h1 h2 => ⟨h1, h2⟩⟩
section
variable {prog : Program} {w : World} {A : Around} {E : Value → Shared → Prop} {s : Shared}
theorem src_iter {xv : Value} {n : Nat} {P : Nat → Value → Prop} {Q : Value → Shared → Prop} (S : Src s.heap xv n P) (hh : A.handled = none)
    (h : ∀ (o : Obj) fp St, o.isFreed = false → Walks prog w A s.heap.objs.size fp [s.heap.objs.size] n P St → St 0 (s.heap.push o) → (∀ b ∈ fp, b < s.heap.objs.size + 1) → Q (.ref s.heap.objs.size) { s with heap := s.heap.push o }) :
    wpAny (model prog w) A (pyIter xv) Q E s := by
  rcases S with ⟨ax, vs, rfl, hl, rfl, hP⟩ | ⟨r, a, b, t, u, v, rfl, hr, hsm, hn, hP⟩
  · obtain ⟨ol, hol, _⟩ := id hl
    have hlt : ax < s.heap.objs.size := Heap.lt_size hol
    have hne : ax ≠ s.heap.objs.size := Nat.ne_of_lt hlt
    have W := Walks.list (prog := prog) (w := w) hh s.heap.objs.size ax hne vs.toArray
    refine wpAny_pyIter_list hl (h _ _ _ rfl (?_ : Walks prog w A s.heap.objs.size [s.heap.objs.size, ax] [s.heap.objs.size] vs.length P (fun i h => h.IsListIter s.heap.objs.size ax i ∧ h.IsList ax vs.toArray)) ⟨⟨_, Heap.get?_push_size _ rfl, rfl, rfl⟩, hl.at fun o e => Heap.get?_push_of_some _ e⟩ ?_)
    · have e : vs.toArray.size = vs.length := List.size_toArray
      rw [e] at W
      exact { sub := W.sub, frame := W.frame, done := W.done, self := W.self, item := fun i s Q E hi st hQ => W.item i s Q E hi st fun v h' tk hv => hQ v h' tk (hP i v (by simpa using hv)) }
    · intro b hb
      rcases List.mem_cons.mp hb with rfl | hb
      · exact Nat.lt_succ_self _
      · rw [List.mem_singleton.mp hb]; exact Nat.lt_succ_of_lt hlt
  · have W : Walks prog w A s.heap.objs.size [s.heap.objs.size] [s.heap.objs.size] n (fun i v => i < n ∧ ∃ t, v = .int (a + i * 1) t)
      (fun i h => IsRangeIter h s.heap.objs.size (a + (i : Nat) * 1) ((n : Int) - (i : Nat)) 1) := (Walks.range hh _ a 1 n).bound
    refine wpAny_pyIter_range hr hsm (h _ _ _ rfl (?_ : Walks prog w A s.heap.objs.size [s.heap.objs.size] [s.heap.objs.size] n P (fun i h => IsRangeIter h s.heap.objs.size (a + (i : Nat) * 1) ((n : Int) - (i : Nat)) 1)) (by show IsRangeIter _ _ _ _ _; rw [hn]; simpa using Heap.get?_push_size _ rfl) ?_)
    · exact { sub := W.sub, frame := W.frame, done := W.done, self := W.self, item := fun i s Q E hi st hQ => W.item i s Q E hi st fun v h' tk hv => hQ v h' tk (hP i v hv.1 (by obtain ⟨_, t, rfl⟩ := hv; exact ⟨t, by rw [Int.mul_one]⟩)) }
    · intro b hb
      rw [List.mem_singleton.mp hb]; exact Nat.lt_succ_self _
/-- a comprehension's test and element, at every item -/
structure CompIn (prog : Program) (w : World) (A : Around) (h₀ : Heap) (L : Addr) (m : Str → Option Value) (news : List (Addr × Obj)) (env : Env) (scope : Scope) (cl : List (Str × Addr)) (x : Str) (ifs : List Expr) (elt : Expr) (P : Nat → Value → Prop) (p : Value → Bool) (G : Value → Value → Prop) : Prop where
  tests : ∀ C i v (s₃ : Shared) m₃ E', P i v → Fr h₀ L s₃.heap m → News h₀ L s₃.heap news → s₃.heap.Ns C m₃ → m₃ x = some v →
    wpAny (model prog w) A (forIn ifs true fun c r => if r = true then do let ok ← isTrue c (compEnvC scope cl C env) (eval c (compEnvC scope cl C env)); pure (ForInStep.yield ok) else pure (ForInStep.yield r))
      (fun ok s₄ => ok = p v ∧ Keeps s₃ s₄) E' s₃
  elt : ∀ C i v (s₃ : Shared) m₃ E', P i v → p v = true → Fr h₀ L s₃.heap m → News h₀ L s₃.heap news → s₃.heap.Ns C m₃ → m₃ x = some v →
    wpAny (model prog w) A (eval elt (compEnvC scope cl C env)) (fun y s₄ => G v y ∧ Keeps s₃ s₄) E' s₃
theorem CompIn.plain {h₀ : Heap} {L : Addr} {m : Str → Option Value} {news : List (Addr × Obj)} {env : Env} {scope : Scope} {cl : List (Str × Addr)} {x : Str} {elt : Expr} {P : Nat → Value → Prop} {G : Value → Value → Prop}
    (h : ∀ C i v (s₃ : Shared) m₃ E', P i v → Fr h₀ L s₃.heap m → News h₀ L s₃.heap news → s₃.heap.Ns C m₃ → m₃ x = some v →
      wpAny (model prog w) A (eval elt (compEnvC scope cl C env)) (fun y s₄ => G v y ∧ Keeps s₃ s₄) E' s₃) : CompIn prog w A h₀ L m news env scope cl x [] elt P (fun _ => true) G where
  tests := fun C i v s₃ m₃ E' _ _ _ _ _ => wpAny_tests_nil ⟨rfl, s₃.heap, s₃.toks, rfl, fun _ _ e => e⟩
  elt := fun C i v s₃ m₃ E' hP _ F N hn hm => h C i v s₃ m₃ E' hP F N hn hm
variable {env : Env} {h₀ : Heap} {L : Addr} {m : Str → Option Value}
theorem comp_eval {elt iter : Expr} {x : Str} {px : Pos} {ifs : List Expr} {scope : Scope} {cl : List (Str × Addr)} {pos : Pos} {Q : Value → Shared → Prop} (p : Value → Bool) (G : Value → Value → Prop) (_F : Fr h₀ L s.heap m)
    (hclos : closureFor scope env = pure cl) (hcell : ∀ y ∈ scope.names, y.2 ≠ .cell) (hkind : scope.kind = .function)
    (hnames : ∀ y ∈ scope.names, y.2 = .local → scope.names.lookup y.1 = some .local) (hx : scope.names.lookup x = some .local)
    (h : wpAny (model prog w) A (eval iter env) (fun xv s₁ => ∃ n P news, Src s₁.heap xv n P ∧ n ≤ sizeLine ∧ A.handled = none ∧ Fr h₀ L s₁.heap m ∧ News h₀ L s₁.heap news ∧ CompIn prog w A h₀ L m news env scope cl x ifs elt P p G ∧
      (∀ D (ys vs : List Value) h' tk k, Fr h₀ L h' m → News h₀ L h' ((D, listOf ys.toArray k) :: news) → (∀ p ∈ news, p.1 ≠ D) → vs.length = n → (∀ j v, vs[j]? = some v → P j v) → Paired G (vs.filter p) ys → Q (.ref D) { s₁ with heap := h', toks := tk })) E s)
    (hs : ∀ x, foldedSetIterable iter env x = pure x := by intro _; rfl) :
    wpAny (model prog w) A (eval (.ListComp elt [⟨.Name x px, iter, ifs, 0⟩] scope pos) env) Q E s := by
  refine wpAny_ListComp_free p G hclos hcell hkind hnames hx (wpAny_mono h (fun xv s₁ h₁ => ?_) fun _ _ e => e) hs
  (try k_fold)
  obtain ⟨n, P, news, S, hsz, hh, F, N, CI, hQ⟩ := h₁
  refine src_iter S hh fun o fp St hfr W hst hfp => ⟨_, fp, _, n, P, St, rfl, W, hsz, hst, (by intro b hb; show b < (s₁.heap.push o).objs.size; rw [Heap.size_push]; exact hfp b hb), ⟨?_, ?_⟩, ?_⟩
  · intro C i v s₃ m₃ E' _ hP hn hm hk _
    have st : s₁.heap.StaysIn s₃.heap := fun b o' e => hk b o' (fun hm => by rw [List.mem_singleton.mp hm] at e; exact Nat.lt_irrefl _ (Heap.lt_size e)) (Heap.get?_push_of_some _ e)
    exact CI.tests C i v s₃ m₃ E' hP (fr_stay F st) (news_stay N st) hn hm
  · intro C i v s₃ m₃ E' _ hP hp hn hm hk _
    have st : s₁.heap.StaysIn s₃.heap := fun b o' e => hk b o' (fun hm => by rw [List.mem_singleton.mp hm] at e; exact Nat.lt_irrefl _ (Heap.lt_size e)) (Heap.get?_push_of_some _ e)
    exact CI.elt C i v s₃ m₃ E' hP hp (fr_stay F st) (news_stay N st) hn hm
  · intro D h' tk ys vs hnew hlD hpl hlen hP hF hk
    have st : s₁.heap.StaysIn h' := fun b o' e => hk b o' (fun hm => by rw [List.mem_singleton.mp hm] at e; exact Nat.lt_irrefl _ (Heap.lt_size e)) (Heap.get?_push_of_some _ e)
    (try k_fold)
    obtain ⟨k, hD⟩ := hpl
    have hnD : s₁.heap.get? D = none := by
      cases q : s₁.heap.get? D with
      | none => rfl
      | some o' => have := Heap.get?_push_of_some o q; rw [show (s₁.heap.push o).get? D = none from hnew] at this; cases this
    have hne : ∀ p ∈ news, p.1 ≠ D := fun p hp e => by have := (N p hp).1; rw [e, hnD] at this; cases this
    refine hQ D ys.toList vs h' tk k (fr_stay F st) ?_ hne hlen hP hF
    intro p hp
    rcases List.mem_cons.mp hp with rfl | hp
    · refine ⟨by simpa using hD, ?_, ?_⟩
      · intro e
        (try k_fold)
        obtain ⟨oL, _, _, hL, _⟩ := F.ns
        have e' : D = L := e
        rw [e', hL] at hnD; cases hnD
      · cases q : h₀.get? D with
        | none => rfl
        | some o' => have := F.keep _ _ q; rw [hnD] at this; cases this
    · exact news_stay N st p hp
theorem comp_asg {elt iter : Expr} {x y : Str} {px py : Pos} {ifs : List Expr} {scope : Scope} {cl : List (Str × Addr)} {pos spos : Pos} {Q : Flow → Shared → Prop} (p : Value → Bool) (G : Value → Value → Prop) (_F : Fr h₀ L s.heap m)
    (hsw : swapsWith (.ListComp elt [⟨.Name x px, iter, ifs, 0⟩] scope pos) (some (.Name y py)) spos.line env = pure true) (hL : env.locals = L)
    (hclos : closureFor scope env = pure cl) (hcell : ∀ z ∈ scope.names, z.2 ≠ .cell) (hkind : scope.kind = .function)
    (hnames : ∀ z ∈ scope.names, z.2 = .local → scope.names.lookup z.1 = some .local) (hx : scope.names.lookup x = some .local)
    (hy : env.kindOf y = some .local) (hp : (env.scope.kind == .class || (env.scope.kind == .module && env.locals != env.globals)) = false)
    (h : wpAny (model prog w) A (eval iter env) (fun xv s₁ => ∃ n P news, Src s₁.heap xv n P ∧ n ≤ sizeLine ∧ A.handled = none ∧ Fr h₀ L s₁.heap m ∧ News h₀ L s₁.heap news ∧ CompIn prog w A h₀ L m news env scope cl x ifs elt P p G ∧
      (∀ D (ys vs : List Value) h' tk k, Fr h₀ L h' (fun z => if z = y then some (.ref D) else m z) → News h₀ L h' ((D, listOf ys.toArray k) :: news) → (∀ p ∈ news, p.1 ≠ D) → vs.length = n → (∀ j v, vs[j]? = some v → P j v) → Paired G (vs.filter p) ys → Q .next { s₁ with heap := h', toks := tk })) E s)
    (hs : ∀ x, foldedSetIterable iter env x = pure x := by intro _; rfl) :
    wpAny (model prog w) A (exec (.Assign [.Name y py] (.ListComp elt [⟨.Name x px, iter, ifs, 0⟩] scope pos) spos) env) Q E s := by
  subst hL
  refine wpAny_Assign_ListComp_free p G hsw hclos hcell hkind hnames hx hy hp (wpAny_mono h (fun xv s₁ h₁ => ?_) fun _ _ e => e) hs
  (try k_fold)
  obtain ⟨n, P, news, S, hsz, hh, F, N, CI, hQ⟩ := h₁
  have hLlt : env.locals < s₁.heap.objs.size := F.ns.lt
  refine src_iter S hh fun o fp St hfr W hst hfp => ⟨_, fp, _, n, P, St, m, rfl, W, hsz, hst, (by intro b hb; show b < (s₁.heap.push o).objs.size; rw [Heap.size_push]; exact hfp b hb), (by intro hm; exact Nat.ne_of_lt hLlt (List.mem_singleton.mp hm)), (F.push _).ns, ⟨?_, ?_⟩, ?_⟩
  · intro C i v s₃ m₃ E' _ hP hn hm hk _
    have st : s₁.heap.StaysIn s₃.heap := fun b o' e => hk b o' (fun hm => by rw [List.mem_singleton.mp hm] at e; exact Nat.lt_irrefl _ (Heap.lt_size e)) (Heap.get?_push_of_some _ e)
    exact CI.tests C i v s₃ m₃ E' hP (fr_stay F st) (news_stay N st) hn hm
  · intro C i v s₃ m₃ E' _ hP hp hn hm hk _
    have st : s₁.heap.StaysIn s₃.heap := fun b o' e => hk b o' (fun hm => by rw [List.mem_singleton.mp hm] at e; exact Nat.lt_irrefl _ (Heap.lt_size e)) (Heap.get?_push_of_some _ e)
    exact CI.elt C i v s₃ m₃ E' hP hp (fr_stay F st) (news_stay N st) hn hm
  · intro D h' tk ys vs hnew hlD hpl hlen hP hF hn' hk
    have st : ∀ b o', b ≠ env.locals → s₁.heap.get? b = some o' → h'.get? b = some o' := fun b o' hb e => hk b o' hb (fun hm => by rw [List.mem_singleton.mp hm] at e; exact Nat.lt_irrefl _ (Heap.lt_size e)) (Heap.get?_push_of_some _ e)
    (try k_fold)
    obtain ⟨k, hD⟩ := hpl
    have hnD : s₁.heap.get? D = none := by
      cases q : s₁.heap.get? D with
      | none => rfl
      | some o' => have := Heap.get?_push_of_some o q; rw [show (s₁.heap.push o).get? D = none from hnew] at this; cases this
    have hne : ∀ p ∈ news, p.1 ≠ D := fun p hp e => by have := (N p hp).1; rw [e, hnD] at this; cases this
    refine hQ D ys.toList vs h' tk k ⟨hn', fun b o' e => st b o' (Nat.ne_of_lt (Nat.lt_of_lt_of_le (Heap.lt_size e) F.above)) (F.keep b o' e), F.above⟩ ?_ hne hlen hP hF
    intro p hp
    rcases List.mem_cons.mp hp with rfl | hp
    · refine ⟨by simpa using hD, ?_, ?_⟩
      · intro e
        (try k_fold)
        obtain ⟨oL, _, _, hL, _⟩ := F.ns
        have e' : D = env.locals := e
        rw [e', hL] at hnD; cases hnD
      · cases q : h₀.get? D with
        | none => rfl
        | some o' => have := F.keep _ _ q; rw [hnD] at this; cases this
    · exact ⟨st _ _ (N p hp).2.1 (N p hp).1, (N p hp).2⟩
end
end
section
def T (l : List Nat) : Str := ⟨l.toArray⟩
theorem T_add (a b : List Nat) : T a ++ T b = T (a ++ b) := by
  show Str.mk (a.toArray ++ b.toArray) = _
  simp [T]
theorem T_len (a : List Nat) : (T a).length = a.length := by simp [T, Str.length]
theorem T_inj {a b : List Nat} : T a = T b ↔ a = b := by simp [T]
theorem mul_go (l : List Nat) (n : Nat) (acc : Array Nat) : (List.replicate n l.toArray).foldl (· ++ ·) acc = acc ++ (List.replicate n l).flatten.toArray := by
  induction n generalizing acc with
  | zero => simp
  | succ n ih => rw [List.replicate_succ, List.foldl_cons, ih, List.replicate_succ, List.flatten_cons]; simp [Array.append_assoc]
theorem T_mul (l : List Nat) (n : Int) : Txt.mul (T l) n = T (List.replicate n.toNat l).flatten := by
  unfold Txt.mul
  split
  · have : n.toNat = 0 := by omega
    rw [this]; rfl
  · split
    · rename_i h1 h2
      rcases Bool.or_eq_true_iff.mp h2 with h | h
      · have : n = 1 := by simpa using h
        subst this; simp
      · have : l = [] := by simpa [T, Str.length] using h
        subst this
        congr 1
        simp
    · show Str.mk ((List.replicate n.toNat l.toArray).foldl (· ++ ·) #[]) = _
      rw [mul_go]; simp [T]
theorem T_mulOk (l : List Nat) (n : Int) (h : l.length * n.toNat ≤ 100000) (hl : l.length ≤ 1000) (hn : n ≤ 100000) (hn' : -100000 ≤ n) : MulOk (T l) n := by
  refine ⟨?_, ?_, ?_⟩
  · simp only [Bool.or_eq_false_iff, decide_eq_false_iff_not]; omega
  · intro h1 _
    rw [T_len]
    have : (1000 : Int) ≤ (2 ^ 63 - 1) / n := by
      rw [Int.le_ediv_iff_mul_le (by omega)]
      omega
    omega
  · intro _ _
    rw [T_len]
    unfold Builtin.Str.tooLong
    rw [decide_eq_false]
    rw [show sizeLine = 16777216 from rfl]
    omega
section
variable {prog : Program} {w : World} {A : Around} {E : Value → Shared → Prop} {s : Shared} {Q : Value → Shared → Prop}
theorem str_mul {l : List Nat} {t u : Tok} {n : Int} (h : l.length * n.toNat ≤ 100000) (hl : l.length ≤ 1000) (hn : n ≤ 100000) (hn' : -100000 ≤ n)
    (hq : ∀ t' k, Q (.str (T (List.replicate n.toNat l).flatten) t') { s with toks := k }) : wpAny (model prog w) A (binaryOp .Mult (.str (T l) t) (.int n u)) Q E s :=
  SB.mul (T_mulOk l n h hl hn hn') fun t' k => by rw [T_mul]; exact hq t' k
theorem str_add {a b : List Nat} {t u : Tok} (h : a.length + b.length ≤ 1000000)
    (hq : ∀ t' k, Q (.str (T (a ++ b)) t') { s with toks := k }) : wpAny (model prog w) A (binaryOp .Add (.str (T a) t) (.str (T b) u)) Q E s :=
  SB.add (fun t' k => by rw [T_add]; exact hq t' k) (by rw [T_len, T_len]; exact Nat.le_trans h (by decide))
theorem str_lit {x : String} {l : List Nat} (h : Str.ofString x = T l) (t : Tok) : Value.str (Str.ofString x) t = Value.str (T l) t := by rw [h]
end
theorem range_small {a b : Int} (h1 : -1000000 ≤ a) (h2 : a ≤ 1000000) (h3 : -1000000 ≤ b) (h4 : b ≤ 1000000) : Builtin.Range.small a b 1 = true := small_one (by omega) (by omega) (by omega) (by omega)
theorem range_size (a b : Int) : Builtin.Range.rangeSize a b 1 = ((b - a).toNat : Int) := rangeSize_nat a b
theorem lit_nil : Str.ofString "" = T [] := by decide
theorem lit_sp : Str.ofString " " = T [32] := by decide
theorem lit_tab : Str.ofString "\t" = T [9] := by decide
theorem lit_dots : Str.ofString "..." = T [46, 46, 46] := by decide
theorem lit_x : Str.ofString "x\t " = T [120, 9, 32] := by decide
section
variable {M : Model} {A : Around} {E : Value → Shared → Prop} {s : Shared} {Q : Value → Shared → Prop} {env : Env}
theorem const_str {x : Str} {l : List Nat} {k : Nat} {pos : Pos} (e : x = T l) (h : Q (.str (T l) s.toks) { s with toks := s.toks + 1 }) : wpAny M A (eval (.Constant (.str x) k pos) env) Q E s := by
  subst e; exact Calls.Constant_str h
end
def sg (b : Bool) : Nat := if b then 9 else 32
theorem sum_le_mul {α : Type} (f : α → Nat) (B : Nat) : ∀ (l : List α), (∀ x ∈ l, f x ≤ B) → (l.map f).sum ≤ l.length * B
  | [], _ => by simp
  | a :: r, h => by
    have := sum_le_mul f B r fun x hx => h x (.tail _ hx)
    have := h a (.head _)
    simp only [List.map_cons, List.sum_cons, List.length_cons, Nat.add_mul]; omega
theorem str_eq {a b : List Nat} {t : Tok} (h : a = b) : Value.str (T a) t = Value.str (T b) t := by rw [h]
theorem rep_flat (n x : Nat) : (List.replicate n [x]).flatten = List.replicate n x := by simp
theorem pget {α β : Type} {F : α → β → Prop} {l₁ : List α} {l₂ : List β} (h : Paired F l₁ l₂) : ∀ (i : Nat) (a : α), l₁[i]? = some a → ∃ b, l₂[i]? = some b ∧ F a b := by
  induction h with
  | nil => intro i a h; simp at h
  | @cons a b l₁ l₂ h t ih =>
    intro i a' e
    cases i with
    | zero => simp at e; subst e; exact ⟨b, by simp, h⟩
    | succ i => simpa using ih i a' (by simpa using e)
theorem list_same {α : Type} {vs' vs : List α} (hl : vs'.length = vs.length) (h : ∀ (j : Nat) (v : α), vs'[j]? = some v → vs[j]? = some v) : vs' = vs := by
  apply List.ext_getElem?
  intro j
  cases q : vs'[j]? with
  | some v => exact (h j v q).symm
  | none =>
    have := List.getElem?_eq_none_iff.mp q
    exact (List.getElem?_eq_none_iff.mpr (by omega)).symm
theorem strs_of_paired {α : Type} {f : α → List Nat} {R : Value → α → Prop} : ∀ {vs : List Value} {ys : List Value} {ns : List α}, Paired R vs ns → Paired (fun v y => ∃ n u, R v n ∧ y = .str (T (f n)) u) vs ys → (∀ v n n', R v n → R v n' → n = n') → StrsAre ys ((ns.map f).map T)
  | _, _, _, .nil, .nil, _ => .nil
  | _, _, _, .cons h t, .cons h' t', u => by
    obtain ⟨n, tk, hr, rfl⟩ := h'
    have := u _ _ _ h hr
    subst this
    exact .cons _ _ (strs_of_paired t t' u)
theorem ints_paired {vs : List Value} {ns : List Int} (h : IntsAre vs ns) : Paired (fun v n => ∃ t, v = .int n t) vs ns := by
  induction h with
  | nil => exact .nil
  | cons n t _ ih => exact .cons ⟨t, rfl⟩ ih
theorem ints_get {vs : List Value} {ns : List Int} (h : IntsAre vs ns) {i : Nat} {v : Value} (e : vs[i]? = some v) : ∃ n t, ns[i]? = some n ∧ v = .int n t := by
  obtain ⟨n, hn, t, rfl⟩ := pget (ints_paired h) i v e
  exact ⟨n, t, hn, rfl⟩
theorem T_sjoin (sep : List Nat) (ls : List (List Nat)) : Str.join (T sep) (ls.map T) = T (sep.intercalate ls) := by
  induction ls with
  | nil => rfl
  | cons a r ih =>
    cases r with
    | nil => show T a = _; simp [List.intercalate]
    | cons b r =>
      show T a ++ T sep ++ Str.join (T sep) ((b :: r).map T) = _
      rw [ih, T_add, T_add]
      congr 1
      simp [List.intercalate, List.intersperse]
theorem T_join (sep : List Nat) (ls : List (List Nat)) : Txt.join (T sep) (ls.map T) = T (sep.intercalate ls) := by
  rw [← T_sjoin]; exact StrLaws.glued_eq_join _ _
theorem T_join_nil (ls : List (List Nat)) : Txt.join (T []) (ls.map T) = T ls.flatten := by
  rw [T_join]
  congr 1
  induction ls with
  | nil => rfl
  | cons a r ih =>
    cases r with
    | nil => simp [List.intercalate]
    | cons b r => simp [List.intercalate, List.intersperse] at ih ⊢; exact ih
end
section
open PySem.StrLaws PySem.Builtin PySem.Builtin.Str
theorem gives_find4 (x y : Str) (i : Int) (t u v v' : Tok) : Gives (Builtin.«str.find» ⟨[.str x t, .str y u, .int i v, .int (x.length : Int) v'], []⟩) (.int (match occurrences x y (fromIndex x.length i) x.length 1 with | k :: _ => (k : Int) | [] => -1)) := by
  have e : min (fromIndex x.length (x.length : Int)) x.length = x.length := by
    unfold fromIndex
    rw [if_neg (by omega)]
    omega
  show Gives (match occurrences x y (fromIndex x.length i) (min (fromIndex x.length (x.length : Int)) x.length) 1 with | k :: _ => retInt k | [] => (do rule "str.find.not-found"; retInt (-1))) _
  rw [e]
  cases occurrences x y (fromIndex x.length i) x.length 1 with
  | nil => exact .rule (.of_eq rfl)
  | cons k _ => exact .of_eq rfl
/-- the text behind the first place where p stands -/
def cut (p : List Nat) : List Nat → Option (List Nat)
  | [] => if p = [] then some [] else none
  | c :: g => if p <+: (c :: g) then some ((c :: g).drop p.length) else cut p g
theorem cut_nil (g : List Nat) : cut [] g = some g := by cases g <;> simp [cut]
theorem cut_spec (p : List Nat) : ∀ g : List Nat, (cut p g = none ∧ ∀ i, i + p.length ≤ g.length → ¬ p <+: g.drop i) ∨ ∃ i, cut p g = some (g.drop (i + p.length)) ∧ i + p.length ≤ g.length ∧ p <+: g.drop i ∧ ∀ k, k < i → ¬ p <+: g.drop k
  | [] => by
    unfold cut
    by_cases h : p = []
    · subst h; exact .inr ⟨0, by simp⟩
    · rw [if_neg h]
      refine .inl ⟨rfl, fun i hi hp => h ?_⟩
      simp at hp; exact hp
  | c :: g => by
    unfold cut
    by_cases h : p <+: (c :: g)
    · rw [if_pos h]
      exact .inr ⟨0, by simp, by simpa using h.length_le, by simpa using h, fun k hk => absurd hk (Nat.not_lt_zero _)⟩
    · rw [if_neg h]
      rcases cut_spec p g with ⟨h1, h2⟩ | ⟨i, h1, h2, h3, h4⟩
      · refine .inl ⟨h1, fun i hi => ?_⟩
        cases i with
        | zero => simpa using h
        | succ i => simp only [List.length_cons] at hi; simpa using h2 i (by omega)
      · refine .inr ⟨i + 1, ?_, by simp only [List.length_cons]; omega, by simpa using h3, fun k hk => ?_⟩
        · rw [h1]; congr 1
          rw [show i + 1 + p.length = (i + p.length) + 1 by omega, List.drop_succ_cons]
        · cases k with
          | zero => simpa using h
          | succ k => simpa using h4 k (by omega)
theorem at_iff (g p : List Nat) (i : Nat) : At (T g) (T p) (T g).length i ↔ i + p.length ≤ g.length ∧ p <+: g.drop i := by
  unfold At
  rw [subAt_eq, T_len, T_len, show (T g).cps.toList = g from rfl, show (T p).cps.toList = p from rfl]
  constructor
  · rintro ⟨h1, h2⟩
    refine ⟨h1, ?_⟩
    rw [List.prefix_iff_eq_take]
    exact (eq_of_beq h2).symm
  · rintro ⟨h1, h2⟩
    refine ⟨h1, ?_⟩
    rw [List.prefix_iff_eq_take] at h2
    exact beq_iff_eq.mpr h2.symm
/-- what find gives from lo on, by cut -/
theorem find_cut (g p : List Nat) (lo : Nat) (h : lo ≤ g.length) : (cut p (g.drop lo) = none ∧ (match occurrences (T g) (T p) lo (T g).length 1 with | k :: _ => (k : Int) | [] => -1) = -1) ∨
    ∃ k : Nat, cut p (g.drop lo) = some (g.drop (k + p.length)) ∧ (match occurrences (T g) (T p) lo (T g).length 1 with | k :: _ => (k : Int) | [] => -1) = (k : Int) ∧ k + p.length ≤ g.length ∧ lo ≤ k := by
  rcases occ_head_from (T g) (T p) lo 1 (Nat.le_refl 1) with ⟨h0, hn⟩ | ⟨i, r, h0, hlo, hA, hn⟩
  · refine .inl ⟨?_, by rw [h0]⟩
    rcases cut_spec p (g.drop lo) with ⟨h1, _⟩ | ⟨k, h1, h2, h3, h4⟩
    · exact h1
    · exfalso
      refine hn (lo + k) (by omega) ((at_iff g p _).mpr ⟨?_, ?_⟩)
      · rw [List.length_drop] at h2; omega
      · rw [← List.drop_drop]; exact h3
  · refine .inr ⟨i, ?_, by rw [h0], ((at_iff g p _).mp hA).1, hlo⟩
    have hA' := (at_iff g p _).mp hA
    have e : i = lo + (i - lo) := by omega
    rcases cut_spec p (g.drop lo) with ⟨h1, h2⟩ | ⟨k, h1, h2, h3, h4⟩
    · exfalso
      refine h2 (i - lo) (by rw [List.length_drop]; omega) ?_
      rw [List.drop_drop, ← e]; exact hA'.2
    · have hk : k = i - lo := by
        rcases Nat.lt_trichotomy k (i - lo) with hlt | heq | hgt
        · exfalso
          refine hn (lo + k) (by omega) (by omega) ((at_iff g p _).mpr ⟨?_, ?_⟩)
          · rw [List.length_drop] at h2; omega
          · rw [← List.drop_drop]; exact h3
        · exact heq
        · exfalso
          refine h4 (i - lo) hgt ?_
          rw [List.drop_drop, ← e]; exact hA'.2
      rw [h1, List.drop_drop, hk]
      congr 2
      omega
def ellL : List (List Nat) → List Nat → Bool
  | [], _ => true
  | p :: ps, g => match cut p g with
    | none => false
    | some g' => ellL ps g'
theorem ellL_nil_cons (ps : List (List Nat)) (g : List Nat) : ellL ([] :: ps) g = ellL ps g := by simp [ellL, cut_nil]
theorem ellL_snoc_nil : ∀ (ps : List (List Nat)) (g : List Nat), ellL (ps ++ [[]]) g = ellL ps g
  | [], g => by simp [ellL, cut_nil]
  | p :: ps, g => by
    simp only [List.cons_append, ellL]
    cases cut p g with
    | none => rfl
    | some g' => exact ellL_snoc_nil ps g'
/-- a text put together with dots between falls apart into its pieces -/
def dots : List Nat := [46, 46, 46]
theorem inter_cons (a b : List Nat) (r : List (List Nat)) : dots.intercalate (a :: b :: r) = a ++ dots ++ dots.intercalate (b :: r) := by
  simp [List.intercalate, List.intersperse]
theorem inter_one (a : List Nat) : dots.intercalate [a] = a := by simp [List.intercalate]
theorem no_at (g : List Nat) (a : Nat) (p rest : List Nat) (hp : 46 ∉ p) (h : g.drop a = p ++ rest) (k : Nat) (h1 : a ≤ k) (h2 : k < a + p.length) : ¬ At (T g) (T dots) (T g).length k := by
  rw [at_iff]
  rintro ⟨_, h3⟩
  have e : g.drop k = (p ++ rest).drop (k - a) := by rw [← h, List.drop_drop]; congr 1; omega
  rw [e, List.drop_append_of_le_length (by omega)] at h3
  have : (p.drop (k - a) ++ rest)[0]? = some 46 := by
    obtain ⟨z, hz⟩ := h3
    rw [← hz]; rfl
  rw [List.getElem?_append_left (by rw [List.length_drop]; omega)] at this
  exact hp (List.mem_of_mem_drop (List.mem_of_getElem? this))
theorem parts_of (g : List Nat) : ∀ (ps : List (List Nat)) (a : Nat) (cuts : List Nat) (f : Nat), ps ≠ [] → (∀ p ∈ ps, 46 ∉ p) → a ≤ g.length → g.drop a = dots.intercalate ps → ChainG (T g) (T dots) (T g).length a cuts f → (∀ k, f ≤ k → ¬ At (T g) (T dots) (T g).length k) →
    partsFrom (T g) 3 a cuts = ps.map T
  | [], _, _, _, hne, _, _, _, _, _ => absurd rfl hne
  | [p], a, cuts, f, _, hp, ha, h, hc, hf => by
    rw [inter_one] at h
    cases cuts with
    | nil =>
      show [strSub (T g) a (T g).length] = [T p]
      congr 1
      apply Str.ext'
      apply Array.toList_inj.mp
      rw [strSub_toList]
      show (g.drop a).take _ = p
      rw [h, T_len, List.take_of_length_le]
      have := congrArg List.length h
      rw [List.length_drop] at this; omega
    | cons c r =>
      exfalso
      obtain ⟨h1, h2, _⟩ := hc
      have h3 := (at_iff g dots c).mp h2
      have hl := congrArg List.length h
      rw [List.length_drop] at hl
      have hd : dots.length = 3 := rfl
      exact no_at g a p [] (hp p (.head _)) (by rw [h, List.append_nil]) c h1 (by have := h3.1; omega) h2
  | p :: q :: ps, a, cuts, f, _, hp, ha, h, hc, hf => by
    rw [inter_cons, List.append_assoc] at h
    have hl := congrArg List.length h
    rw [List.length_drop, List.length_append, List.length_append] at hl
    have hd : dots.length = 3 := rfl
    have hat : At (T g) (T dots) (T g).length (a + p.length) := by
      rw [at_iff]
      refine ⟨by omega, ?_⟩
      rw [← List.drop_drop, h, List.drop_left]
      exact List.prefix_append _ _
    cases cuts with
    | nil =>
      exfalso
      have e : f = a := hc
      exact hf (a + p.length) (by omega) hat
    | cons c r =>
      obtain ⟨h1, h2, h3, h4⟩ := hc
      have hce : c = a + p.length := by
        rcases Nat.lt_trichotomy c (a + p.length) with hlt | heq | hgt
        · exact absurd h2 (no_at g a p _ (hp p (.head _)) h c h1 hlt)
        · exact heq
        · exact absurd hat (h3 _ (by omega) hgt)
      have hd3 : (T dots).length = 3 := rfl
      show strSub (T g) a c :: partsFrom (T g) 3 (c + 3) r = T p :: (q :: ps).map T
      rw [hd3] at h4
      rw [parts_of g (q :: ps) (c + 3) r f (by simp) (fun x hx => hp x (.tail _ hx)) (by omega) ?_ h4 hf]
      · congr 1
        apply Str.ext'
        apply Array.toList_inj.mp
        rw [strSub_toList]
        show (g.drop a).take _ = p
        rw [h, show c - a = p.length by omega, List.take_left]
      · rw [hce, Nat.add_assoc, ← List.drop_drop, h, ← List.drop_drop, List.drop_left, show (3 : Nat) = dots.length from rfl, List.drop_left]
theorem split_dots (ps : List (List Nat)) (hne : 2 ≤ ps.length) (hp : ∀ p ∈ ps, 46 ∉ p) (hsm : ∀ p ∈ ps, ∀ c ∈ p, c < 256) : Txt.split (T (dots.intercalate ps)) (T dots) = ps.map T := by
  obtain ⟨f, hG, hn⟩ := occ_tight (T (dots.intercalate ps)) (T dots) (by decide)
  have hparts := parts_of _ ps 0 _ f (by intro e; subst e; simp at hne) hp (Nat.zero_le _) (by simp) hG hn
  unfold Txt.split
  have hlen : 3 ≤ (T (dots.intercalate ps)).length := by
    rw [T_len]
    match ps, hne with
    | a :: b :: r, _ => rw [inter_cons]; simp [dots]; omega
  have hd3 : (T dots).length = 3 := rfl
  have hk : Builtin.Str.strKind (T dots) = 1 := by decide +kernel
  have hk2 : ∀ x, 1 ≤ Builtin.Str.strKind x := fun x => by unfold Builtin.Str.strKind; split <;> (try split) <;> omega
  rw [if_neg (by
    rw [Bool.or_eq_true, decide_eq_true_eq, decide_eq_true_eq]
    have := hk2 (T (dots.intercalate ps))
    omega)]
  rw [if_neg]
  · rw [partsBetween_eq]; exact hparts
  · intro hemp
    have h0 : occurrences (T (dots.intercalate ps)) (T dots) 0 (T (dots.intercalate ps)).length ((T (dots.intercalate ps)).length + 1) = [] := List.isEmpty_iff.mp hemp
    rw [h0] at hparts
    have := congrArg List.length hparts
    simp [partsFrom] at this
    omega
theorem lit_dotsK : (Str.ofString "..." : Str) = T dots := by decide
theorem dots_found (ps : List (List Nat)) (h : (occurrences (T (dots.intercalate ([] :: ps ++ [[]]))) (T dots) 0 (T (dots.intercalate ([] :: ps ++ [[]]))).length 1).isEmpty = true) : False := by
  have := (found_iff (T (dots.intercalate ([] :: ps ++ [[]]))) (T dots)).mpr ⟨0, (at_iff _ _ 0).mpr ?_⟩
  · rw [h] at this; cases this
  · have e : dots.intercalate ([] :: ps ++ [[]]) = dots ++ dots.intercalate (ps ++ [[]]) := by
      cases ps with
      | nil => rfl
      | cons p r => rw [List.cons_append, List.cons_append, inter_cons]; rfl
    rw [e]
    exact ⟨by simp, by simp⟩
section
variable {prog : Program} {w : World} {A : Around} {E : Value → Shared → Prop} {s : Shared} {h₀ : Heap} {L : Addr} {news : List (Addr × Obj)}
theorem item_l {value slice : PySem.Expr} {l : Addr} {vs : List Value} {k : Int} {u : Tok} {v : Value} {Q : Value → Shared → Prop}
    (hl : s.heap.IsList l vs.toArray) (h0 : 0 ≤ k) (hhi : k < 2 ^ 63) (hx : vs[k.toNat]? = some v) (h : Q v s)
    (hs : subscripted slice false (.ref l) (.int k u) = operate [.ref l, .int k u] (getItem (.ref l) (.int k u)) := by with_unfolding_all rfl) :
    wpAny (model prog w) A (subscriptTail value slice (.ref l) (.int k u)) Q E s :=
  tail_any hl.typeIs slot_list_getitem.lookup (wpAny_getItem_list hl h0 hhi (by simpa using hx) h) hs
theorem item_last {value slice : PySem.Expr} {l : Addr} {vs : List Value} {u : Tok} {v : Value} {Q : Value → Shared → Prop}
    (hl : s.heap.IsList l (vs ++ [v]).toArray) (h : Q v s)
    (hs : subscripted slice false (.ref l) (.int (-1) u) = operate [.ref l, .int (-1) u] (getItem (.ref l) (.int (-1) u)) := by with_unfolding_all rfl) :
    wpAny (model prog w) A (subscriptTail value slice (.ref l) (.int (-1) u)) Q E s := by
  have e : ((vs ++ [v]).toArray.size : Int) = vs.length + 1 := by simp
  refine tail_any hl.typeIs slot_list_getitem.lookup (wpAny_getItem_list_neg hl (by decide) (by omega) (by decide) ?_ h) hs
  rw [e, show ((-1 : Int) + (vs.length + 1)).toNat = vs.length by omega]
  simp
theorem len_l {l : Addr} {us : List Value} {Q : Value → Shared → Prop} (hl : s.heap.IsList l us.toArray) (hfit : us.length < 2 ^ 62)
    (h : Q (.int (us.length : Int) (s.toks + 1)) { s with toks := s.toks + 1 + 1 }) : wpAny (model prog w) A (call (.builtin "len") [.ref l]) Q E s := by
  have e2 : us.toArray.size = us.length := List.size_toArray
  exact len_list hl (by rw [e2]; omega) (by rw [e2]; exact h)
theorem find4 {g p : List Nat} {t u v v' : Tok} {lo : Nat} {Q : Value → Shared → Prop} (hlo : lo ≤ g.length)
    (h1 : cut p (g.drop lo) = none → Q (.int (-1) s.toks) { s with toks := s.toks + 1 })
    (h2 : ∀ k : Nat, cut p (g.drop lo) = some (g.drop (k + p.length)) → k + p.length ≤ g.length → Q (.int (k : Int) s.toks) { s with toks := s.toks + 1 }) :
    wpAny (model prog w) A (call (.builtin "str.find") [.str (T g) t, .str (T p) u, .int (lo : Int) v, .int (g.length : Int) v']) Q E s := by
  have hg : ((T g).length : Int) = (g.length : Int) := by rw [T_len]
  rw [← hg]
  refine call_gives F.slot_str_find (typeIs_str _ _ _) F.entry_str_find (F.args_str_find_4 _ _ _ _) (gives_find4 (T g) (T p) lo t u v v') ?_
  have e : fromIndex (T g).length (lo : Int) = lo := by unfold fromIndex; rw [if_neg (by omega)]; omega
  rw [e]
  rcases find_cut g p lo hlo with ⟨c1, c2⟩ | ⟨k, c1, c2, c3, c4⟩
  · rw [c2]; exact h1 c1
  · rw [c2]; exact h2 k c1 c3
theorem len_T {g : List Nat} {t : Tok} {Q : Value → Shared → Prop} (hg : g.length ≤ 1000000) (h : Q (.int (g.length : Int) (s.toks + 1)) { s with toks := s.toks + 1 + 1 }) : wpAny (model prog w) A (call (.builtin "len") [.str (T g) t]) Q E s := by
  have e : ((T g).length : Int) = (g.length : Int) := by rw [T_len]
  exact P.len_str (by rw [e]; omega) (by rw [e]; exact h)
theorem truthy_T {g : List Nat} {t : Tok} {Q : Bool → Shared → Prop} (hg : g.length ≤ 1000000) (h : Q (!g.isEmpty) { s with toks := s.toks + 1 + 1 }) : wpAny (model prog w) A (truthy (.str (T g) t)) Q E s := by
  have e : ((T g).length : Int) = (g.length : Int) := by rw [T_len]
  have e2 : (((T g).length : Int) != 0) = !g.isEmpty := by rw [e]; cases g <;> simp <;> omega
  exact P.truthy_str (by rw [e]; omega) (by rw [e2]; exact h)
end
end
section
open PySem.StrLaws PySem.Builtin PySem.Builtin.Str
theorem sl_from {a : List Nat} {k : Nat} (hk : k ≤ a.length) : Txt.slice (T a) (some (k : Int)) none = T (a.drop k) := by
  show sliceText (T a) (some (k : Int)) none = _
  rw [sliceText_from ⟨by omega, by show (k : Int) ≤ (a.length : Int); omega⟩]
  show Str.mk ((a.drop ((k : Int).toNat)).take ((a.length : Int) - k).toNat).toArray = _
  rw [List.take_of_length_le (by rw [List.length_drop]; omega)]
  rfl
theorem sl_to {a : List Nat} {k : Nat} (hk : k ≤ a.length) : Txt.slice (T a) none (some (k : Int)) = T (a.take k) := by
  show sliceText (T a) none (some (k : Int)) = _
  rw [sliceText_to ⟨by omega, by show (k : Int) ≤ (a.length : Int); omega⟩]
  show Str.mk ((a.drop 0).take ((k : Int) - 0).toNat).toArray = _
  rw [List.drop_zero, show ((k : Int) - 0).toNat = k by omega]
  rfl
theorem sl_neg {a : List Nat} {k : Nat} (h0 : 0 < k) (hk : k ≤ a.length) : Txt.slice (T a) none (some (-(k : Int))) = T (a.take (a.length - k)) := by
  show sliceText (T a) none (some (-(k : Int))) = _
  have e : (T a).length = a.length := T_len a
  rw [sliceText_to_neg (by omega) (by rw [e]; omega), e]
  show Str.mk ((a.drop 0).take (-(k : Int) + a.length - 0).toNat).toArray = _
  rw [List.drop_zero, show (-(k : Int) + a.length - 0).toNat = a.length - k by omega]
  rfl
theorem sl_all {a : List Nat} : Txt.slice (T a) none none = T a := by
  show sliceText (T a) none none = _
  unfold sliceText
  rw [sliceIdx_none_lo, sliceIdx_none_hi, show (0 : Int) = ((0 : Nat) : Int) from rfl, strSliceIndices_plain (Nat.zero_le _) (Nat.le_refl _)]
  simp
theorem T_le {a : List Nat} (h : a.length ≤ 1000000) : (T a).length ≤ sizeLine := by rw [T_len]; exact Nat.le_trans h (by decide)
section
variable {prog : Program} {w : World} {A : Around} {E : Value → Shared → Prop} {s : Shared} {h₀ : Heap} {L : Addr} {m : Str → Option Value} {news : List (Addr × Obj)} {a : List Nat} {t : Tok} {Q : Value → Shared → Prop} {value slice : PySem.Expr}
theorem slT_from {k : Nat} {i : Int} {ui : Tok} (hF : Fr h₀ L s.heap m) (hN : News h₀ L s.heap news) (hi : i = (k : Int)) (hk : k ≤ a.length) (hsz : a.length ≤ 1000000)
    (h : ∀ h' t' k', Fr h₀ L h' m → News h₀ L h' news → Q (.str (T (a.drop k)) t') { s with heap := h', toks := k' })
    (hs : subscripted slice false (.str (T a) t) (.ref s.heap.objs.size) = operate [.ref s.heap.objs.size, .str (T a) t] (getItem (.str (T a) t) (.ref s.heap.objs.size)) := by with_unfolding_all rfl)
    (ht : ∀ r, letTemporaryGo value (.str (T a) t) r = pure () := by intro _; with_unfolding_all rfl) :
    wpAny (model prog w) A (subscriptTail value slice (.str (T a) t) (.ref s.heap.objs.size)) Q E { s with heap := s.heap.push { cls := .type "slice", data := .fields #[.int i ui, .none, .none] } } := by
  subst hi
  exact slice_strN_sn hF hN (fun h' t' k' a' b' => by rw [sl_from hk]; exact h h' t' k' a' b') hs ht (T_le hsz)
theorem slT_to {k : Nat} {i : Int} {ui : Tok} (hF : Fr h₀ L s.heap m) (hN : News h₀ L s.heap news) (hi : i = (k : Int)) (hk : k ≤ a.length) (hsz : a.length ≤ 1000000)
    (h : ∀ h' t' k', Fr h₀ L h' m → News h₀ L h' news → Q (.str (T (a.take k)) t') { s with heap := h', toks := k' })
    (hs : subscripted slice false (.str (T a) t) (.ref s.heap.objs.size) = operate [.ref s.heap.objs.size, .str (T a) t] (getItem (.str (T a) t) (.ref s.heap.objs.size)) := by with_unfolding_all rfl)
    (ht : ∀ r, letTemporaryGo value (.str (T a) t) r = pure () := by intro _; with_unfolding_all rfl) :
    wpAny (model prog w) A (subscriptTail value slice (.str (T a) t) (.ref s.heap.objs.size)) Q E { s with heap := s.heap.push { cls := .type "slice", data := .fields #[.none, .int i ui, .none] } } := by
  subst hi
  exact slice_strN_ns hF hN (fun h' t' k' a' b' => by rw [sl_to hk]; exact h h' t' k' a' b') hs ht (T_le hsz)
theorem slT_neg {k : Nat} {i : Int} {ui : Tok} (hF : Fr h₀ L s.heap m) (hN : News h₀ L s.heap news) (hi : i = -(k : Int)) (h0 : 0 < k) (hk : k ≤ a.length) (hsz : a.length ≤ 1000000)
    (h : ∀ h' t' k', Fr h₀ L h' m → News h₀ L h' news → Q (.str (T (a.take (a.length - k))) t') { s with heap := h', toks := k' })
    (hs : subscripted slice false (.str (T a) t) (.ref s.heap.objs.size) = operate [.ref s.heap.objs.size, .str (T a) t] (getItem (.str (T a) t) (.ref s.heap.objs.size)) := by with_unfolding_all rfl)
    (ht : ∀ r, letTemporaryGo value (.str (T a) t) r = pure () := by intro _; with_unfolding_all rfl) :
    wpAny (model prog w) A (subscriptTail value slice (.str (T a) t) (.ref s.heap.objs.size)) Q E { s with heap := s.heap.push { cls := .type "slice", data := .fields #[.none, .int i ui, .none] } } := by
  subst hi
  exact slice_strN_ns hF hN (fun h' t' k' a' b' => by rw [sl_neg h0 hk]; exact h h' t' k' a' b') hs ht (T_le hsz)
theorem slT_all (hF : Fr h₀ L s.heap m) (hN : News h₀ L s.heap news) (hsz : a.length ≤ 1000000)
    (h : ∀ h' t' k', Fr h₀ L h' m → News h₀ L h' news → Q (.str (T a) t') { s with heap := h', toks := k' })
    (hs : subscripted slice false (.str (T a) t) (.ref s.heap.objs.size) = operate [.ref s.heap.objs.size, .str (T a) t] (getItem (.str (T a) t) (.ref s.heap.objs.size)) := by with_unfolding_all rfl)
    (ht : ∀ r, letTemporaryGo value (.str (T a) t) r = pure () := by intro _; with_unfolding_all rfl) :
    wpAny (model prog w) A (subscriptTail value slice (.str (T a) t) (.ref s.heap.objs.size)) Q E { s with heap := s.heap.push { cls := .type "slice", data := .fields #[.none, .none, .none] } } :=
  slice_strN_nn hF hN (fun h' t' k' a' b' => by rw [sl_all]; exact h h' t' k' a' b') hs ht (T_le hsz)
theorem itT {i : Int} {u : Tok} {c : Nat} (h0 : 0 ≤ i) (hfit : i ≤ 1000000) (hx : a[i.toNat]? = some c)
    (h : Q (.str (T [c]) s.toks) { s with toks := s.toks + 1 })
    (hs : subscripted slice false (.str (T a) t) (.int i u) = operate [.str (T a) t, .int i u] (getItem (.str (T a) t) (.int i u)) := by with_unfolding_all rfl)
    (ht : ∀ r, letTemporaryGo value (.str (T a) t) r = pure () := by intro _; with_unfolding_all rfl) :
    wpAny (model prog w) A (subscriptTail value slice (.str (T a) t) (.int i u)) Q E s := by
  refine tail_any (typeIs_str s (T a) t) F.slot_str_getitem.lookup (P.getItem_str (c := c) ?_ (at_nonneg h0 (by simpa [T] using hx)) h) hs
  simp only [Bool.or_eq_false_iff, decide_eq_false_iff_not]; omega
theorem itT_neg {i : Int} {u : Tok} {c k : Nat} (hi : i = -(k : Int)) (h0 : 0 < k) (hk : k ≤ a.length) (hfit : a.length ≤ 1000000) (hx : a[a.length - k]? = some c)
    (h : Q (.str (T [c]) s.toks) { s with toks := s.toks + 1 })
    (hs : subscripted slice false (.str (T a) t) (.int i u) = operate [.str (T a) t, .int i u] (getItem (.str (T a) t) (.int i u)) := by with_unfolding_all rfl)
    (ht : ∀ r, letTemporaryGo value (.str (T a) t) r = pure () := by intro _; with_unfolding_all rfl) :
    wpAny (model prog w) A (subscriptTail value slice (.str (T a) t) (.int i u)) Q E s := by
  have e : (T a).length = a.length := T_len a
  refine tail_any (typeIs_str s (T a) t) F.slot_str_getitem.lookup (P.getItem_str (c := c) ?_ (at_neg (by omega) (by rw [e]; omega) ?_) h) hs
  · simp only [Bool.or_eq_false_iff, decide_eq_false_iff_not]; omega
  · rw [e, hi, show (-(k : Int) + a.length).toNat = a.length - k by omega]
    simpa [T] using hx
end
theorem T_beq (a b : List Nat) : (T a == T b) = decide (a = b) := by
  by_cases h : a = b
  · subst h; simp
  · have : T a ≠ T b := fun e => h (T_inj.mp e)
    simp [h, this]
theorem truthy_Tn {prog : Program} {w : World} {A : Around} {E : Value → Shared → Prop} {s : Shared} {g : List Nat} {n : Nat} {t : Tok} {Q : Bool → Shared → Prop} (hn : g.length = n) (hg : n ≤ 1000000) (h : Q (decide (n ≠ 0)) { s with toks := s.toks + 1 + 1 }) : wpAny (model prog w) A (truthy (.str (T g) t)) Q E s := by
  subst hn
  refine truthy_T hg ?_
  have e : (!g.isEmpty) = decide (g.length ≠ 0) := by cases g <;> simp
  rw [e]; exact h
section
variable {prog : Program} {w : World} {A : Around} {E : Value → Shared → Prop} {s : Shared} {h₀ : Heap} {L : Addr} {m : Str → Option Value} {news : List (Addr × Obj)} {a : List Nat} {t : Tok} {value slice : PySem.Expr} {env : Env}
theorem or_none {x : PySem.Expr} {ck : Nat} {cp pos : Pos} {Q : Value → Shared → Prop} (h : wpAny (model prog w) A (eval x env) (fun v s₁ => ∃ i t, v = .int i t ∧ Q (if i = 0 then .none else .int i t) s₁) E s) :
    wpAny (model prog w) A (eval (.BoolOp .Or [x, .Constant .none ck cp] pos) env) Q E s := by
  refine wpAny_Or2 (wpAny_mono h (fun v s₁ h₁ => ?_) fun _ _ e => e)
  obtain ⟨i, t, rfl, hq⟩ := h₁
  refine P.truthy_int ?_
  by_cases hi : i = 0
  · subst hi
    rw [if_pos rfl] at hq
    rw [show ((0 : Int) != 0) = false from rfl, if_neg (by decide)]
    exact wpAny_Constant_none hq
  · rw [if_neg hi] at hq
    rw [show (i != 0) = true by simpa using hi, if_pos rfl]
    exact hq
theorem slT_or {k : Nat} {i : Int} {ui : Tok} {Q : Value → Shared → Prop} (hF : Fr h₀ L s.heap m) (hN : News h₀ L s.heap news) (hi : i = -(k : Int)) (hk : k ≤ a.length) (hsz : a.length ≤ 1000000)
    (h : ∀ h' t' k', Fr h₀ L h' m → News h₀ L h' news → Q (.str (T (a.take (a.length - k))) t') { s with heap := h', toks := k' })
    (hs : subscripted slice false (.str (T a) t) (.ref s.heap.objs.size) = operate [.ref s.heap.objs.size, .str (T a) t] (getItem (.str (T a) t) (.ref s.heap.objs.size)) := by with_unfolding_all rfl)
    (ht : ∀ r, letTemporaryGo value (.str (T a) t) r = pure () := by intro _; with_unfolding_all rfl) :
    wpAny (model prog w) A (subscriptTail value slice (.str (T a) t) (.ref s.heap.objs.size)) Q E { s with heap := s.heap.push { cls := .type "slice", data := .fields #[.none, (if i = 0 then .none else .int i ui), .none] } } := by
  by_cases h0 : k = 0
  · subst h0
    have e : i = 0 := by omega
    rw [if_pos e]
    refine slT_all hF hN hsz (fun h' t' k' a' b' => ?_) hs ht
    have := h h' t' k' a' b'
    rw [Nat.sub_zero, List.take_length] at this
    exact this
  · rw [if_neg (by omega)]
    exact slT_neg hF hN hi (by omega) hk hsz h hs ht
end
section
variable {prog : Program} {w : World} {A : Around} {E : Value → Shared → Prop} {s : Shared} {h₀ : Heap} {L : Addr} {m : Str → Option Value} {news : List (Addr × Obj)} {a : List Nat} {t : Tok} {value slice : PySem.Expr} {env : Env}
theorem slG_from {k : Nat} {i : Int} {ui : Tok} {Q : Value → Shared → Prop} (hF : Fr h₀ L s.heap m) (hN : News h₀ L s.heap news) (hi : i = (k : Int)) (hk : k ≤ a.length) (hsz : a.length ≤ 1000000)
    (h : ∀ h' t' k' (b : List Nat), b = a.drop k → b.length + k = a.length → Fr h₀ L h' m → News h₀ L h' news → Q (.str (T b) t') { s with heap := h', toks := k' })
    (hs : subscripted slice false (.str (T a) t) (.ref s.heap.objs.size) = operate [.ref s.heap.objs.size, .str (T a) t] (getItem (.str (T a) t) (.ref s.heap.objs.size)) := by with_unfolding_all rfl)
    (ht : ∀ r, letTemporaryGo value (.str (T a) t) r = pure () := by intro _; with_unfolding_all rfl) :
    wpAny (model prog w) A (subscriptTail value slice (.str (T a) t) (.ref s.heap.objs.size)) Q E { s with heap := s.heap.push { cls := .type "slice", data := .fields #[.int i ui, .none, .none] } } :=
  slT_from hF hN hi hk hsz (fun h' t' k' F' N' => h h' t' k' _ rfl (by rw [List.length_drop]; omega) F' N') hs ht
theorem slG_to {k : Nat} {i : Int} {ui : Tok} {Q : Value → Shared → Prop} (hF : Fr h₀ L s.heap m) (hN : News h₀ L s.heap news) (hi : i = (k : Int)) (hk : k ≤ a.length) (hsz : a.length ≤ 1000000)
    (h : ∀ h' t' k' (b : List Nat), b = a.take k → b.length = k → Fr h₀ L h' m → News h₀ L h' news → Q (.str (T b) t') { s with heap := h', toks := k' })
    (hs : subscripted slice false (.str (T a) t) (.ref s.heap.objs.size) = operate [.ref s.heap.objs.size, .str (T a) t] (getItem (.str (T a) t) (.ref s.heap.objs.size)) := by with_unfolding_all rfl)
    (ht : ∀ r, letTemporaryGo value (.str (T a) t) r = pure () := by intro _; with_unfolding_all rfl) :
    wpAny (model prog w) A (subscriptTail value slice (.str (T a) t) (.ref s.heap.objs.size)) Q E { s with heap := s.heap.push { cls := .type "slice", data := .fields #[.none, .int i ui, .none] } } :=
  slT_to hF hN hi hk hsz (fun h' t' k' F' N' => h h' t' k' _ rfl (by rw [List.length_take]; omega) F' N') hs ht
theorem slG_or {k : Nat} {i : Int} {ui : Tok} {Q : Value → Shared → Prop} (hF : Fr h₀ L s.heap m) (hN : News h₀ L s.heap news) (hi : i = -(k : Int)) (hk : k ≤ a.length) (hsz : a.length ≤ 1000000)
    (h : ∀ h' t' k' (b : List Nat), b = a.take (a.length - k) → b.length + k = a.length → Fr h₀ L h' m → News h₀ L h' news → Q (.str (T b) t') { s with heap := h', toks := k' })
    (hs : subscripted slice false (.str (T a) t) (.ref s.heap.objs.size) = operate [.ref s.heap.objs.size, .str (T a) t] (getItem (.str (T a) t) (.ref s.heap.objs.size)) := by with_unfolding_all rfl)
    (ht : ∀ r, letTemporaryGo value (.str (T a) t) r = pure () := by intro _; with_unfolding_all rfl) :
    wpAny (model prog w) A (subscriptTail value slice (.str (T a) t) (.ref s.heap.objs.size)) Q E { s with heap := s.heap.push { cls := .type "slice", data := .fields #[.none, (if i = 0 then .none else .int i ui), .none] } } :=
  slT_or hF hN hi hk hsz (fun h' t' k' F' N' => h h' t' k' _ rfl (by rw [List.length_take]; omega) F' N') hs ht
end
section
variable {prog : Program} {w : World} {A : Around} {E : Value → Shared → Prop} {s : Shared} {h₀ : Heap} {L : Addr} {m : Str → Option Value} {news rest : List (Addr × Obj)}
theorem list_rng {r : Addr} {a b c : Int} {t u v : Tok} {n : Nat} {Q : Value → Shared → Prop} (hh : A.handled = none) (Fh : Fr h₀ L s.heap m) (N : News h₀ L s.heap news)
    (hr : IsRange s.heap r a b c t u v) (hsmall : Builtin.Range.small a b c = true) (hn : Builtin.Range.rangeSize a b c = (n : Int)) (hlen : n ≤ 2 ^ 24)
    (hQ : ∀ h' tk (ys : List Value) D k, Fr h₀ L h' m → News h₀ L h' ((D, listOf ys.toArray k) :: news) → (∀ p ∈ news, p.1 ≠ D) → IntsAre ys (rangeInts a c n) → Q (.ref D) { s with heap := h', toks := tk }) :
    wpAny (model prog w) A (call (.type "list") [.ref r]) Q E s := by
  refine list_rangeD hh Fh N hr hsmall hn hlen fun h' tk ys F' N' k hn0 hl hp hc => ?_
  obtain ⟨⟨k', hk'⟩, hne⟩ := hp
  refine hQ h' tk ys _ k' F' (fun q hq => ?_) hne (IntsAre.ofCarried hc)
  rcases List.mem_cons.mp hq with rfl | hq
  · exact ⟨hk', Nat.ne_of_gt Fh.ns.lt, hn0⟩
  · exact N' q hq
theorem set_l {D : Addr} {vs : List Value} {ns : List Int} {n : Nat} {k x : Int} {t u : Tok} {Q : Unit → Shared → Prop} (F : Fr h₀ L s.heap m) (N : News h₀ L s.heap ((D, listOf vs.toArray n) :: rest)) (hr : ∀ p ∈ rest, p.1 ≠ D) (hi : IntsAre vs ns) (h0 : 0 ≤ k) (h1 : k < ns.length) (hfit : k < 2 ^ 63)
    (h : ∀ h', Fr h₀ L h' m → News h₀ L h' ((D, listOf (vs.set k.toNat (.int x u)).toArray n) :: rest) → IntsAre (vs.set k.toNat (.int x u)) (ns.set k.toNat x) → Q () { s with heap := h' }) :
    wpAny (model prog w) A (setItem (.ref D) (.int k t) (.int x u)) Q E s :=
  ksa_set F N (Upd.head hr) hi h0 h1 hfit fun h' F' N' hi' _ _ => h h' F' N' hi'
end
/-- a cut behind a statement -/
theorem cut_exec {α : Type} {M : Model} {A : Around} {E : Value → Shared → Prop} {s : Shared} {h₀ : Heap} {L : Addr} {t : Sem Flow} {Q : Flow → Shared → Prop} {m : Str → Option Value} (_F : Fr h₀ L s.heap m) (Led : α → List (Addr × Obj)) (ps : α → List (Str × Value)) (InvE : α → Prop)
    (h : wpAny M A t (fun f s' => match f with | .next => EndX h₀ L Led ps InvE s s' | f => Q f s') E s)
    (done : ∀ c u h tk, InvE c → Fr h₀ L h (kstB u (ps c)) → News h₀ L h (Led c) → Q .next { s with heap := h, toks := tk }) : wpAny M A t Q E s := by
  refine wpAny_mono h (fun f s' p => ?_) fun _ _ e => e
  cases f with
  | next =>
    obtain ⟨c', h', tk', m', news', rfl, F', N', h1, hk', hi'⟩ := p
    exact done c' m' h' tk' hi' (by rw [hk'.kst]; exact F') fun q hq => N' q (h1 q hq)
  | brk => exact p
  | cont => exact p
  | ret v => exact p
end
section
def cst (x y : Nat) : Int := if x = y then 0 else 2
def istep (bc : Nat) (a : List Nat) (row : List Int) (d0 : Int) : Nat → Int × Int × Int × List Int
  | 0 => (d0, d0, 9223372036854775807, [])
  | j + 1 =>
    let S := istep bc a row d0 j
    let r' := min (min S.2.1 (row.getD j 0) + 2) (S.1 + cst bc (a.getD j 0))
    (row.getD j 0, r', if r' < S.2.2.1 then r' else S.2.2.1, S.2.2.2 ++ [r'])
def rows (a b : List Nat) : Nat → List Int × Int
  | 0 => (rangeInts 2 2 a.length, 0)
  | i + 1 =>
    let S := istep (b.getD i 0) a (rows a b i).1 (2 * (i : Int)) a.length
    (S.2.2.2, S.2.1)
def rmin (a b : List Nat) (i : Nat) : Int := (istep (b.getD i 0) a (rows a b i).1 (2 * (i : Int)) a.length).2.2.1
open Classical in
noncomputable def levD (a b : List Nat) (mx : Int) : Int := if (∃ i, i < b.length ∧ rmin a b i > mx) then mx + 1 else (rows a b b.length).2
noncomputable def levC (a b : List Nat) (mx : Int) : Int :=
  if a = [] ∨ b = [] then 2 * ((a.length : Int) + b.length)
  else if b.length < a.length then (if 2 * ((a.length : Int) - b.length) > mx then mx + 1 else levD b a mx)
  else (if 2 * ((b.length : Int) - a.length) > mx then mx + 1 else levD a b mx)
def LevR (a b : List Nat) (mx r : Int) : Prop := ∃ p a2 b2 q, a = p ++ a2 ++ q ∧ b = p ++ b2 ++ q ∧ r = levC a2 b2 mx
theorem levC_le {a b : List Nat} {mx : Int} {x y : List Nat} (hx0 : x.length ≠ 0) (hxy : x.length ≤ y.length) (hor : (x = a ∧ y = b) ∨ (x = b ∧ y = a ∧ b.length < a.length)) :
    levC a b mx = if ((y.length : Int) - x.length) * 2 > mx then mx + 1 else levD x y mx := by
  unfold levC
  have hne : ∀ z : List Nat, z.length ≠ 0 → z ≠ [] := fun z h e => h (by rw [e]; rfl)
  rcases hor with ⟨rfl, rfl⟩ | ⟨rfl, rfl, h⟩
  · rw [if_neg (by rintro (e | e); exact hne _ hx0 e; exact hne y (by omega) e), if_neg (by omega), Int.mul_comm]
  · rw [if_neg (by rintro (e | e); exact hne y (by omega) e; exact hne _ hx0 e), if_pos h, Int.mul_comm]
theorem range2_size (n : Nat) (hn : n ≠ 0) : Builtin.Range.rangeSize 2 (2 * ((n : Int) + 1)) 2 = (n : Int) := by
  unfold Builtin.Range.rangeSize
  rw [if_pos (by decide), if_pos (by omega)]
  omega
theorem range2_small (n : Nat) (hn : n ≠ 0) (h : n ≤ 1000) : Builtin.Range.small 2 (2 * ((n : Int) + 1)) 2 = true := by
  have e : ∀ i : Int, -1000000 ≤ i → i ≤ 1000000 → Builtin.Range.rangeFitsLong i = true := fun i h1 h2 => by
    unfold Builtin.Range.rangeFitsLong
    rw [Bool.and_eq_true, decide_eq_true_eq, decide_eq_true_eq]
    exact ⟨by omega, by omega⟩
  unfold Builtin.Range.small
  rw [range2_size n hn]
  rw [if_pos (by decide), e (2 * ((n : Int) + 1) + (2 - 1)) (by omega) (by omega), e (2 * ((n : Int) + 1)) (by omega) (by omega), e (n : Int) (by omega) (by omega), e 2 (by omega) (by omega)]
  simp
theorem istep_len (bc : Nat) (a : List Nat) (row : List Int) (d0 : Int) (j : Nat) : (istep bc a row d0 j).2.2.2.length = j := by
  induction j with
  | zero => rfl
  | succ j ih => simp [istep, ih]
theorem rows_len (a b : List Nat) (i : Nat) : (rows a b i).1.length = a.length := by
  cases i with
  | zero => simp [rows, rangeInts]
  | succ i => simp only [rows]; exact istep_len _ _ _ _ _
structure LSt where
  vs : List Value
  ns : List Int
  d : Int
  r : Int
  mn : Int
  td : Tok
  tr : Tok
  tm : Tok
  tb : Tok
theorem rows_succ {x y : List Nat} {i : Nat} {bc : Nat} {ns : List Int} {res : Int} (h : (ns, res) = rows x y i) (hb : y[i]? = some bc) : rows x y (i + 1) = ((istep bc x ns (2 * (i : Int)) x.length).2.2.2, (istep bc x ns (2 * (i : Int)) x.length).2.1) := by
  have e : y.getD i 0 = bc := by rw [List.getD_eq_getElem?_getD, hb]; rfl
  simp only [rows, e, ← h]
theorem istep_turn {bc : Nat} {a : List Nat} {ns ns6 : List Int} {d0 d6 r6 mn6 r' : Int} {j ac : Nat} (hj : j < ns.length) (hac : a[j]? = some ac)
    (h1 : ns6 = (istep bc a ns d0 j).2.2.2 ++ ns.drop j) (hd : d6 = (istep bc a ns d0 j).1) (hr : r6 = (istep bc a ns d0 j).2.1) (hm : mn6 = (istep bc a ns d0 j).2.2.1)
    (hr' : r' = if d6 + cst bc ac < (if ns6.getD ((0 : Int) + (j : Int)).toNat 0 < r6 then ns6.getD ((0 : Int) + (j : Int)).toNat 0 else r6) + 2 then d6 + cst bc ac else (if ns6.getD ((0 : Int) + (j : Int)).toNat 0 < r6 then ns6.getD ((0 : Int) + (j : Int)).toNat 0 else r6) + 2) :
    ns6.set ((0 : Int) + (j : Int)).toNat r' = (istep bc a ns d0 (j + 1)).2.2.2 ++ ns.drop (j + 1) ∧ ns6.getD ((0 : Int) + (j : Int)).toNat 0 = (istep bc a ns d0 (j + 1)).1 ∧ r' = (istep bc a ns d0 (j + 1)).2.1 ∧ (if r' < mn6 then r' else mn6) = (istep bc a ns d0 (j + 1)).2.2.1 := by
  have e0 : ((0 : Int) + (j : Int)).toNat = j := by omega
  have eg : ns6.getD j 0 = ns.getD j 0 := by
    rw [h1, List.getD_eq_getElem?_getD, List.getElem?_append_right (by rw [istep_len]; exact Nat.le_refl _), istep_len, Nat.sub_self, List.getElem?_drop, Nat.add_zero, ← List.getD_eq_getElem?_getD]
  have ea : a.getD j 0 = ac := by rw [List.getD_eq_getElem?_getD, hac]; rfl
  rw [e0, eg] at hr' ⊢
  have er : r' = (istep bc a ns d0 (j + 1)).2.1 := by
    rw [hr']
    simp only [istep, ea, ← hd, ← hr]
    split <;> split <;> omega
  refine ⟨?_, ?_, er, ?_⟩
  · have : (istep bc a ns d0 (j + 1)).2.2.2 = (istep bc a ns d0 j).2.2.2 ++ [r'] := by rw [er]; rfl
    rw [this, h1, List.set_append_right _ _ (by rw [istep_len]; exact Nat.le_refl _), istep_len, Nat.sub_self, List.append_assoc]
    congr 1
    rw [List.drop_eq_getElem_cons hj]
    rfl
  · simp only [istep]
  · rw [hm, er]; rfl
theorem rmin_eq {x y : List Nat} {i : Nat} {bc : Nat} {ns : List Int} {res : Int} (h : (ns, res) = rows x y i) (hb : y[i]? = some bc) : rmin x y i = (istep bc x ns (2 * (i : Int)) x.length).2.2.1 := by
  have e : y.getD i 0 = bc := by rw [List.getD_eq_getElem?_getD, hb]; rfl
  simp only [rmin, e, ← h]
end
section
/-- the contract of a def that changes the objects of `Hid` at most -/
def SpecG (prog : Program) (w : World) (K : Frag) (D U : Nat) (f : Addr) (vs : List Value) (Hid : List (Addr × Obj)) (H : Heap → Prop) (Post : Value → Heap → Heap → Prop) : Prop :=
  ∀ (p : Program) (loose : List Str) (mean : ExcName → Option Value) (mg mb : Str → Option Value) (dp un : Nat) (gd : Option (List Code)) (cn : Str) (cs : Scope) (a : Addr) (ccd : Value) (cl : List (Str × Addr)) (outer : List Env) (A₀ : Around) (base h₀ : Heap) (L : Addr) (m : Str → Option Value) (s : Shared) (Q E : Value → Shared → Prop),
    Below A₀ base outer h₀ → Fr h₀ L s.heap m → K.In h₀ → Top p loose mean mg mb h₀ → cs.kind = .function → News h₀ L s.heap Hid → H s.heap → dp ≤ D → un ≤ U →
    (∀ v h' tk', (∀ b o, b ∉ Hid.map (·.1) → s.heap.get? b = some o → h'.get? b = some o) → Post v s.heap h' → Q v { s with heap := h', toks := tk' }) →
    wpAny (model prog w) (ktrTop dp un gd cn cs L a ccd cl outer) (call (.ref f) vs) Q E s
theorem hide_keep {h g h' : Heap} {l : List Addr} (eg : g = hideAll h l) (k : ∀ b o, g.get? b = some o → h'.get? b = some o) : ∀ b o, b ∉ l → h.get? b = some o → h'.get? b = some o :=
  fun b o hb e => k b o (by rw [eg]; exact hideAll_get _ e hb)
theorem codeHd_hide {h : Heap} {c P : Addr} {l : List Addr} (x : CodeHd h c P) (hc : c ∉ l) : CodeHd (hideAll h l) c P :=
  let ⟨o, vs, file, tf, flags, tg, inF, text, tt, e, r⟩ := x; ⟨o, vs, file, tf, flags, tg, inF, text, tt, hideAll_get _ e hc, r⟩
theorem news_put {h₀ h' : Heap} {L a : Addr} {o : Obj} {news : List (Addr × Obj)} (N : News h₀ L h' news) (h1 : a ≠ L) (h2 : h₀.get? a = none) (h3 : h'.get? a = some o) : News h₀ L h' ((a, o) :: news) := by
  intro p hp
  rcases List.mem_cons.mp hp with rfl | hp
  · exact ⟨h3, h1, h2⟩
  · exact N p hp
section
variable {prog : Program} {w : World} {A A₀ : Around} {E : Value → Shared → Prop} {s : Shared} {K : Frag} {L : Addr} {h₀ base : Heap} {m mg mb : Str → Option Value} {p : Program} {loose : List Str} {mean : ExcName → Option Value} {news Hid : List (Addr × Obj)}
theorem spec_callG {D U : Nat} {f : Addr} {vs : List Value} {H : Heap → Prop} {Post : Value → Heap → Heap → Prop} {dp un : Nat} {gd : Option (List Code)} {cn : Str} {cs : Scope} {a : Addr} {ccd : Value} {cl : List (Str × Addr)} {outer : List Env} {Q : Value → Shared → Prop}
    (S : SpecG prog w K D U f vs Hid H Post) (B : Below A₀ base outer h₀) (F : Fr h₀ L s.heap m) (X : K.In h₀) (N : News h₀ L s.heap news) (T : Top p loose mean mg mb h₀) (hk : cs.kind = .function) (rest : List (Addr × Obj))
    (h1 : ∀ p ∈ Hid, p ∈ news) (h2 : ∀ p ∈ rest, p ∈ news) (h3 : ∀ p ∈ rest, p.1 ∉ Hid.map (·.1)) (hH : H s.heap) (hd : dp ≤ D) (hu : un ≤ U)
    (h : ∀ v h' tk', Fr h₀ L h' m → News h₀ L h' rest → (∀ b o, b ∉ Hid.map (·.1) → s.heap.get? b = some o → h'.get? b = some o) → (∀ q ∈ Hid, q.1 ≠ L ∧ h₀.get? q.1 = none) → Post v s.heap h' → Q v { s with heap := h', toks := tk' }) :
    wpAny (model prog w) (ktrTop dp un gd cn cs L a ccd cl outer) (call (.ref f) vs) Q E s := by
  have NH : News h₀ L s.heap Hid := fun q hq => N q (h1 q hq)
  have off : ∀ q ∈ Hid, q.1 ≠ L ∧ h₀.get? q.1 = none := fun q hq => (NH q hq).2
  have nh : ∀ b o, h₀.get? b = some o → b ∉ Hid.map (·.1) := fun b o e q => by
    obtain ⟨r, hr, rfl⟩ := List.mem_map.mp q
    rw [(off r hr).2] at e; cases e
  refine S p loose mean mg mb dp un gd cn cs a ccd cl outer A₀ base h₀ L m s Q E B F X T hk NH hH hd hu fun v h' tk' k P => h v h' tk' ?_ ?_ k off P
  · obtain ⟨oL, es, ep, hL, r⟩ := F.ns
    refine ⟨⟨oL, es, ep, k _ _ (fun q => ?_) hL, r⟩, fun b o e => k _ _ (nh b o e) (F.keep b o e), F.above⟩
    obtain ⟨r', hr, e⟩ := List.mem_map.mp q
    exact (off r' hr).1 e
  · exact fun q hq => ⟨k _ _ (h3 q hq) (N q (h2 q hq)).1, (N q (h2 q hq)).2⟩
variable {env : Env} {outer : List Env} {R : Result → Shared → Prop} {name qual : Str} {params : Arguments} {body : List Stmt} {scope : Scope} {dV kV doc pm cdv ct oc : Value} {an od : Option Addr} {osl : Array (Option Value)} {f : Addr} {args : Args} {binds : List (Str × Value)}
theorem code_hide
    (B : Below A₀ base outer h₀) (F : Fr h₀ L s.heap m) (X₀ : K.In h₀) (N : News h₀ L s.heap Hid) (T : Top p loose mean mg mb h₀) (hA : A.frames = some (env :: outer)) (hf : env.frame = some L) (hke : env.scope.kind = .function)
    (ho : K.lookup f = some ⟨oc, od, .func (fnOf name qual params body scope dV kV doc pm an cdv ct), osl⟩) (hcd : codeIn K cdv qual = true) (hroom : A.depth < recursionLimit)
    (hbind : BindsTo s (fnOf name qual params body scope dV kV doc pm an cdv ct) args binds) (hloc : ∀ y ∈ binds, scope.names.lookup y.1 = some .local)
    (h : ∀ g L' h₁, g = hideAll s.heap (Hid.map (·.1)) → Fr g L' h₁ (fun y => binds.reverse.lookup y) → News g L' h₁ Hid → Below A base (env :: outer) g → K.In g → Top p loose mean mg mb g → s.heap.StaysIn h₁ →
      wpAny (model prog w) (A.deeper (envOf qual scope L' f cdv)) (execs body (envOf qual scope L' f cdv))
        (fun fl s' => R (.ok (.ret (match fl with | .ret v => v | _ => .none))) s')
        (fun e s' => wpAny (model prog w) (A.deeper (envOf qual scope L' f cdv)) (leaving (envOf qual scope L' f cdv) e) (fun _ s'' => R (.error e) s'') (fun e' s'' => R (.error e') s'') s')
        { s with heap := h₁, toks := s.toks + binds.length })
    (hco : scope.isCoroutine = false) (hgen : scope.isGenerator = false) (hk : scope.kind = .function)
    (hcell : ∀ x ∈ scope.names, x.2 ≠ .cell) : codeAny (model prog w) A (.call (.ref f) args) R s := by
  have XS := X₀.keeps F.keep
  obtain ⟨FG, BG, st, lv⟩ := groundX (R := R) B F N hA hf hke
  refine codeAny_call_def (fd := fnOf name qual params body scope dV kV doc pm an cdv ct) (body := body) (binds := binds) hroom (XS _ _ ho) rfl (T.nolimit.keeps F.keep) (codeRec_of XS hcd) rfl hbind hcell hloc (fun h₁ hns hk₁ => ?_) hco hgen hk
  exact h _ s.heap.objs.size h₁ rfl ⟨hns, fun b o e => hk₁ b o (of_hideAll _ e), Nat.le_of_eq (hideAll_size _ _)⟩
    (fun p hp => ⟨hk₁ _ _ (N p hp).1, Nat.ne_of_lt (Heap.lt_size (N p hp).1), hideAll_none _ (List.mem_map_of_mem hp)⟩) BG (X₀.keeps st) (T.keeps st) hk₁
theorem code_hide_cells
    (B : Below A₀ base outer h₀) (F : Fr h₀ L s.heap m) (X₀ : K.In h₀) (N : News h₀ L s.heap Hid) (T : Top p loose mean mg mb h₀) (hA : A.frames = some (env :: outer)) (hf : env.frame = some L) (hke : env.scope.kind = .function)
    (ho : K.lookup f = some ⟨oc, od, .func (fnOf name qual params body scope dV kV doc pm an cdv ct), osl⟩) (hcd : codeIn K cdv qual = true) (hroom : A.depth < recursionLimit)
    (hbind : BindsTo s (fnOf name qual params body scope dV kV doc pm an cdv ct) args binds)
    (hkind : ∀ n, ∀ x ∈ binds, scope.names.lookup x.1 = some .local ∨ (scope.names.lookup x.1 = some .cell ∧ ((cellsFrom n scope.names []).lookup x.1).isSome = true))
    (hnd : ((cellsFrom 0 scope.names []).map (·.1)).Nodup)
    (h : ∀ g L' h₁ tk cells, g = hideAll s.heap (Hid.map (·.1)) → Fr g L' h₁ (bindL (envOfC qual scope L' f cdv).kindOf binds fun _ => none) → News g L' h₁ (cells ++ Hid) →
      CellsAre (bindC (envOfC qual scope L' f cdv).kindOf binds fun _ => none) (cellsFrom (L' + 1) scope.names []) cells → Below A base (env :: outer) g → K.In g → Top p loose mean mg mb g → s.heap.StaysIn h₁ → (∀ q ∈ Hid, q.1 < L') → L' = s.heap.objs.size →
      wpAny (model prog w) (A.deeper (envOfC qual scope L' f cdv)) (execs body (envOfC qual scope L' f cdv))
        (fun fl s' => R (.ok (.ret (match fl with | .ret v => v | _ => .none))) s')
        (fun e s' => wpAny (model prog w) (A.deeper (envOfC qual scope L' f cdv)) (leaving (envOfC qual scope L' f cdv) e) (fun _ s'' => R (.error e) s'') (fun e' s'' => R (.error e') s'') s')
        { s with heap := h₁, toks := tk })
    (hco : scope.isCoroutine = false) (hgen : scope.isGenerator = false) (hk : scope.kind = .function) : codeAny (model prog w) A (.call (.ref f) args) R s := by
  have XS := X₀.keeps F.keep
  obtain ⟨FG, BG, st, lv⟩ := groundX (R := R) B F N hA hf hke
  refine codeAny_call_function hroom (XS _ _ ho) rfl hco hgen rfl (codeRec_of XS hcd) (hbind _ _ _ _ ?_)
  refine wpAny_newFunctionEnv_cells hk (hkind _) fun env' he s' x => ?_
  subst he
  refine ⟨(T.nolimit.keeps F.keep).keeps x.toInCall.keep, codeAny_func ?_⟩
  obtain ⟨h₁, tk, rfl, _⟩ := x.done
  have hk₁ := x.toInCall.keep
  obtain ⟨cells, NC, Y⟩ := Cl.news (h₀ := s.heap) (Nat.le_refl _) fun n c hm => ⟨x.cell n c (lookup_of_mem_nodup (cellsFrom_names scope.names 0 (s.heap.objs.size + 1) [] [] rfl ▸ hnd) hm), x.above n c hm⟩
  refine h _ s.heap.objs.size h₁ tk cells rfl ⟨x.toInCall.ns, fun b o e => hk₁ b o (of_hideAll _ e), Nat.le_of_eq (hideAll_size _ _)⟩ (fun p hp => ?_) Y BG (X₀.keeps st) (T.keeps st) hk₁ (fun q hq => Heap.lt_size (N q hq).1) rfl
  rcases List.mem_append.mp hp with hp | hp
  · refine ⟨(NC p hp).1, (NC p hp).2.1, ?_⟩
    cases q : (hideAll s.heap (Hid.map (·.1))).get? p.1 with
    | none => rfl
    | some o => have := of_hideAll _ q; rw [(NC p hp).2.2] at this; cases this
  · exact ⟨hk₁ _ _ (N p hp).1, Nat.ne_of_lt (Heap.lt_size (N p hp).1), hideAll_none _ (List.mem_map_of_mem hp)⟩
theorem code_hide_nest {cl : List (Str × Addr)} {fo : Obj}
    (B : Below A₀ base outer h₀) (F : Fr h₀ L s.heap m) (X₀ : K.In h₀) (N : News h₀ L s.heap Hid) (T : Top p loose mean mg mb h₀) (hA : A.frames = some (env :: outer)) (hf : env.frame = some L) (hke : env.scope.kind = .function)
    (ho : s.heap.get? f = some fo) (hd : fo.data = .func (fnX name qual params body scope cl dV kV doc pm an cdv ct)) (hcd : s.heap.CodeRec cdv qual) (hroom : A.depth < recursionLimit)
    (hbind : BindsTo s (fnX name qual params body scope cl dV kV doc pm an cdv ct) args binds) (hloc : ∀ y ∈ binds, scope.names.lookup y.1 = some .local)
    (h : ∀ g L' h₁, g = hideAll s.heap (Hid.map (·.1)) → Fr g L' h₁ (fun y => binds.reverse.lookup y) → News g L' h₁ Hid → Below A base (env :: outer) g → K.In g → Top p loose mean mg mb g → s.heap.StaysIn h₁ →
      wpAny (model prog w) (A.deeper (envX qual scope L' f cdv cl)) (execs body (envX qual scope L' f cdv cl))
        (fun fl s' => R (.ok (.ret (match fl with | .ret v => v | _ => .none))) s')
        (fun e s' => wpAny (model prog w) (A.deeper (envX qual scope L' f cdv cl)) (leaving (envX qual scope L' f cdv cl) e) (fun _ s'' => R (.error e) s'') (fun e' s'' => R (.error e') s'') s')
        { s with heap := h₁, toks := s.toks + binds.length })
    (hco : scope.isCoroutine = false) (hgen : scope.isGenerator = false) (hk : scope.kind = .function)
    (hcell : ∀ x ∈ scope.names, x.2 ≠ .cell) : codeAny (model prog w) A (.call (.ref f) args) R s := by
  obtain ⟨FG, BG, st, lv⟩ := groundX (R := R) B F N hA hf hke
  refine codeAny_call_def (fd := fnX name qual params body scope cl dV kV doc pm an cdv ct) (body := body) (binds := binds) hroom ho hd (T.nolimit.keeps F.keep) hcd rfl hbind hcell hloc (fun h₁ hns hk₁ => ?_) hco hgen hk
  exact h _ s.heap.objs.size h₁ rfl ⟨hns, fun b o e => hk₁ b o (of_hideAll _ e), Nat.le_of_eq (hideAll_size _ _)⟩
    (fun p hp => ⟨hk₁ _ _ (N p hp).1, Nat.ne_of_lt (Heap.lt_size (N p hp).1), hideAll_none _ (List.mem_map_of_mem hp)⟩) BG (X₀.keeps st) (T.keeps st) hk₁
end
theorem call_clsS {prog : Program} {w : World} {A : Around} {E : Value → Shared → Prop} {s : Shared} {K : Frag} {L C : Addr} {h₀ : Heap} {m : Str → Option Value} {news : List (Addr × Obj)} {pos : List Value} {kw : List (Str × Value)} {fI : Addr} {Q : Value → Shared → Prop}
    (F : Fr h₀ L s.heap m) (X₀ : K.In h₀) (N : News h₀ L s.heap news) (hm : makesIn K C = true) (hi : findIn K (.ref C) "__init__" = some (some (.ref fI))) (hf : isFn K (.ref fI) = true)
    (h : ∀ x dx h', Fr h₀ L h' m → News h₀ L h' ((x, instObj C dx) :: (dx, dictOf [] 0) :: news) → s.heap.StaysIn h' → s.heap.get? x = none → s.heap.get? dx = none → dx < x →
      codeAny (model prog w) (A.under (.builtin "type.__call__" ⟨.ref C :: pos, kw⟩)) (.call (.ref fI) ⟨.ref x :: pos, kw⟩) (InitBack x fun r s' => match r with | .ok (.ret v) => Q v s' | .ok _ => False | .error e => E e s') { s with heap := h' }) :
    wpAny (model prog w) A (call (.ref C) pos kw) Q E s := by
  have X := X₀.keeps F.keep
  refine wpAny_call ?_
  obtain ⟨hh, g, d, t, os⟩ := s
  refine make_core (makes_of X hm) (looks_findIn X hi) (fun self => bind_fn X self (beq_iff_eq.mp hf)) (.inl rfl) (h _ hh.objs.size _ ((F.push _).push _) ?_ (fun b o e => Heap.get?_push_of_some _ (Heap.get?_push_of_some _ e)) (Heap.get?_none_of_le (Nat.le_succ _)) (Heap.get?_none_of_le (Nat.le_refl _)) (Nat.lt_succ_self _))
  have := (N.push F emptyDict).push (F.push _) (instObj C hh.objs.size)
  rwa [Heap.size_push] at this
/-- over reversed(list) -/
theorem loop_rev {σ : Type} {prog : Program} {w : World} {A : Around} {E : Value → Shared → Prop} {s : Shared} {env : Env} {h₀ : Heap} {x : Str} {body : List Stmt} {Q : Flow → Shared → Prop} {L I l : Addr} {vs : List Value} {nn : Nat} {m₀ : Str → Option Value} {news : List (Addr × Obj)} (Led : σ → List (Addr × Obj)) (ps : σ → List (Str × Value)) (Inv : Nat → σ → Prop) (c₀ : σ)
    (hL : env.locals = L) (hh : A.handled = none) (hI : (I, revObj l ((vs.length : Int) - 1)) ∈ news) (hl : ∀ c : σ, (l, listOf vs.toArray nn) ∈ Led c) (hoff : ∀ p ∈ Led c₀, p.1 ≠ I) (F : Fr h₀ L s.heap m₀) (N : News h₀ L s.heap news) (hs : ∀ p ∈ Led c₀, p ∈ news) (hk : Lk m₀ (ps c₀)) (hi : Inv 0 c₀)
    (turn : ∀ i v c u h tk own, i < vs.length → vs[vs.length - 1 - i]? = some v → Inv i c → OwnOff own ((Led c).map (·.1)) → Fr h₀ L h (fun y => if y = x then some v else kstB u (ps c) y) → News h₀ L h (Led c ++ own) →
      wpAny (model prog w) A (execs body env) (PostT h₀ L Led ps (Inv (i + 1)) own { s with heap := h, toks := tk } Q) E { s with heap := h, toks := tk })
    (done : ∀ c u h tk, Inv vs.length c → Fr h₀ L h (kstB u (ps c)) → News h₀ L h (Led c) → Q .next { s with heap := h, toks := tk }) :
    wpAny (model prog w) A (pyIter (.ref I)) (fun it s₂ => LoopAtV prog w A h₀ env x body Q E it s₂) E s := by
  subst hL
  have hIx := N _ hI
  have hlx := N _ (hs _ (hl c₀))
  have hne : l ≠ I := hoff _ (hl c₀)
  have hls : s.heap.IsList l vs.toArray := ⟨_, hlx.1, rfl, nn, rfl⟩
  have hit : s.heap.IsRevIter I l ((vs.length : Int) - 1) := ⟨_, hIx.1, rfl, rfl⟩
  refine wpAny_pyIter_revIter hit ?_
  have W := Walks.listRev (prog := prog) (w := w) hh I l hne vs.toArray
  have hlen : vs.toArray.size = vs.length := by simp
  rw [hlen] at W
  refine loop_g [(l, listOf vs.toArray nn)] Led ps Inv c₀ W (fun i h b hb st => by rw [List.mem_singleton.mp hb]; exact ⟨_, st.2.1.choose_spec.1⟩) (fun c p hp => by rw [List.mem_singleton.mp hp]; exact hl c) (fun b hb hw hn => ?_) ?_ ?_ ?_ ⟨Nat.zero_le _, ?_, hls⟩ F N hs hk hi ?_ ?_
  · rcases List.mem_cons.mp hb with rfl | hb
    · exact absurd (List.mem_singleton.mpr rfl) hw
    · rw [List.mem_singleton.mp hb]; exact ⟨_, List.mem_cons_self ..⟩
  · intro hm
    rcases List.mem_cons.mp hm with e | hm
    · exact hIx.2.1 e.symm
    · exact hlx.2.1 (List.mem_singleton.mp hm).symm
  · intro b hb
    rw [List.mem_singleton.mp hb]
    exact hIx.2.2
  · intro p hp hw
    exact hoff p hp (List.mem_singleton.mp hw)
  · have e : (vs.length : Int) - 1 - ((0 : Nat) : Int) = (vs.length : Int) - 1 := by omega
    rw [e]
    exact hit
  · rintro i v c u h tk own hin hv hi' hO F' N'
    exact turn i v c u h tk own hin (by simpa using hv) hi' hO F' N'
  · intro c u h tk hi' F' N'
    exact done c u h tk hi' F' N'
/-- a free name: its cell stands in the base -/
theorem nameF0 {M : Model} {A : Around} {E : Value → Shared → Prop} {s : Shared} {h₀ : Heap} {L a : Addr} {m : Str → Option Value} {cn : Str} {cs : Scope} {ccd : Value} {cl : List (Str × Addr)} {x : Str} {pos : Pos} {v : Value} {Q : Value → Shared → Prop} {c : Addr}
    (F : Fr h₀ L s.heap m) (hv : h₀.IsCell c (some v)) (hc : cl.lookup x = some c) (h : Q v s)
    (hk : cs.kind = .function := by rfl) (hx : (envX cn cs L a ccd cl).kindOf x = some .free := by rfl) (hb : (x == ("__debug__" : Str)) = false := by decide) (hn : (x == ("__classdict__" : Str)) = false := by decide) :
    wpAny M A (eval (.Name x pos) (envX cn cs L a ccd cl)) Q E s := wpAny_Name (wpAny_loadName_free hk hx hc (hv.keeps F.keep) h hn) hb
theorem fnAt_keep {q : Addr} {h h' : Heap} (x : FnAt q h) (k : ∀ b o, h.get? b = some o → h'.get? b = some o) : FnAt q h' := let ⟨a, b, c, d, e⟩ := x; ⟨a, b, c, d, k _ _ e⟩
theorem with_inner {M : Model} {A : Around} {E : Value → Shared → Prop} {s : Shared} {env : Env} {name : Str} {params : Arguments} {body : List Stmt} {scope : Scope} {pos : Pos} {Q : Flow → Shared → Prop} (key : Arguments → List Stmt → Scope → Prop) (hk : key params body scope)
    (h : key params body scope → wpAny M A (exec (.FunctionDef name params body [] none [] scope none name pos) env) Q E s) : wpAny M A (exec (.FunctionDef name params body [] none [] scope none name pos) env) Q E s := h hk
end
section
section
variable {prog : Program} {w : World} {A : Around} {E : Value → Shared → Prop} {R : Result → Shared → Prop} {s : Shared}
abbrev LC2 (elt : PySem.Expr) (x0 : Str) (p0 : Pos) (i0 : PySem.Expr) (x1 : Str) (p1 : Pos) (i1 : PySem.Expr) (scope : Scope) (pos : Pos) : PySem.Expr := .ListComp elt [⟨.Name x0 p0, i0, [], 0⟩, ⟨.Name x1 p1, i1, [], 0⟩] scope pos
theorem compTurn_in (elt i0 i1 : PySem.Expr) (x0 x1 : Str) (p0 p1 : Pos) (scope : Scope) (pos : Pos) (it acc : Value) (env : Env) :
    compTurn (LC2 elt x0 p0 i0 x1 p1 i1 scope pos) 1 it acc env = (standAt i1.pos >>= fun _ => pyNext it >>= fun r => match r with
      | none => pure (.done .next)
      | some v => letOwnedTupleGo (.Name x1 p1) it v >>= fun _ => assign (.Name x1 p1) env v >>= fun _ =>
        (eval elt env >>= fun x => call (.builtin "list.append") [acc, x] >>= fun _ => pure ()) >>= fun _ =>
          again (.compLoop (LC2 elt x0 p0 i0 x1 p1 i1 scope pos) 1 it acc env)) := by rfl
theorem compTurn_out (elt i0 i1 : PySem.Expr) (x0 x1 : Str) (p0 p1 : Pos) (scope : Scope) (pos : Pos) (it acc : Value) (env : Env) :
    compTurn (LC2 elt x0 p0 i0 x1 p1 i1 scope pos) 0 it acc env = (standAt i0.pos >>= fun _ => pyNext it >>= fun r => match r with
      | none => pure (.done .next)
      | some v => letOwnedTupleGo (.Name x0 p0) it v >>= fun _ => assign (.Name x0 p0) env v >>= fun _ =>
        (eval i1 env >>= fun x => standAt i1.pos >>= fun _ => foldedSetIterable i1 env x >>= fun x => holding [x] (pyIter x) >>= fun it' => runOwn (.compStart (LC2 elt x0 p0 i0 x1 p1 i1 scope pos) 1 it' acc env) env >>= fun _ => again (.compLoop (LC2 elt x0 p0 i0 x1 p1 i1 scope pos) 0 it acc env))) := by rfl
/-- the inner loop -/
theorem comp_in {elt i0 i1 : PySem.Expr} {x0 x1 : Str} {p0 p1 : Pos} {scope : Scope} {pos : Pos} {I D : Addr} {fp wr : List Addr} {n : Nat} {P : Nat → Value → Prop} {St : Nat → Heap → Prop} {cenv : Env} {m : Str → Option Value} {v0 : Value} {ys0 : Array Value}
    (W : Walks prog w A I fp wr n P St) (G : Nat → Value → Prop) (hx : cenv.kindOf x1 = some .local) (hp : (cenv.scope.kind == .class || (cenv.scope.kind == .module && cenv.locals != cenv.globals)) = false)
    (hDC : D ≠ cenv.locals) (hDf : D ∉ fp) (hCf : cenv.locals ∉ fp) (hst : St 0 s.heap) (hacc : s.heap.PlainList D ys0) (hn : s.heap.Ns cenv.locals m) (hm : m x0 = some v0) (hxx : x0 ≠ x1)
    (helt : ∀ j v (s₂ : Shared) m₂ E', P j v → s₂.heap.Ns cenv.locals m₂ → m₂ x1 = some v → m₂ x0 = some v0 → (∀ b o, b ≠ cenv.locals → b ∉ wr → b ≠ D → s.heap.get? b = some o → s₂.heap.get? b = some o) →
      wpAny (model prog w) A (eval elt cenv) (fun y s₃ => G j y ∧ Keeps s₂ s₃) E' s₂)
    (hR : ∀ h' tk m' (zs : List Value), h'.Ns cenv.locals m' → h'.PlainList D (ys0 ++ zs.toArray) → zs.length = n → (∀ j y, zs[j]? = some y → G j y) → (∀ b o, b ≠ cenv.locals → b ∉ wr → b ≠ D → s.heap.get? b = some o → h'.get? b = some o) → R (.ok .next) { s with heap := h', toks := tk })
    (hsz : ys0.size + n ≤ sizeLine) :
    codeAny (model prog w) A (.compLoop (LC2 elt x0 p0 i0 x1 p1 i1 scope pos) 1 (.ref I) (.ref D) cenv) R s := by
  have hCw : cenv.locals ∉ wr := fun h => hCf (W.sub _ h)
  have hDw : D ∉ wr := fun h => hDf (W.sub _ h)
  refine codeAny_loop rfl (fun k s' => ∃ h' tk m' zs, s' = { s with heap := h', toks := tk } ∧ St zs.length h' ∧ h'.PlainList D (ys0 ++ (zs : List Value).toArray) ∧ h'.Ns cenv.locals m' ∧ m' x0 = some v0 ∧ (∀ j y, zs[j]? = some y → G j y) ∧ zs.length ≤ n ∧ k = n + 1 - zs.length ∧
      (∀ b o, b ≠ cenv.locals → b ∉ wr → b ≠ D → s.heap.get? b = some o → h'.get? b = some o)) (fun k s' hI => ?_) (n + 1) ⟨s.heap, s.toks, m, [], rfl, hst, by simpa using hacc, hn, hm, fun j y e => by simp at e, Nat.zero_le _, rfl, fun _ _ _ _ _ e => e⟩
  show wpAny _ A ((compTurn (LC2 elt x0 p0 i0 x1 p1 i1 scope pos) 1 (.ref I) (.ref D) cenv).onRaise (fun x => do noteFrame x cenv; theTreesLotGoes x)) _ _ s'
  refine wpAny_noted ?_
  rw [compTurn_in]
  refine wpAny_bind (wpAny_standAt (wpAny_bind ?_))
  (try k_fold)
  obtain ⟨H, tk, m', zs, rfl, hst', hacc', hn', hm', hG, hle, rfl, hk⟩ := hI
  by_cases hlt : zs.length < n
  · refine W.item zs.length _ _ _ hlt hst' fun v h₁ tk₁ hPv hst₁ hk₁ => ?_
    refine wpAny_bind (wpAny_of_eq (show letOwnedTupleGo (.Name x1 p1) (.ref I) v = pure () from rfl) (wpAny_bind (wpAny_assign_Name (wpAny_storeName_local hx (hn'.at' fun o e => hk₁ _ o hCw e) (fun h₂ hn₂ hs₂ => ?_) hp))))
    have up₂ : ∀ b o, b ≠ cenv.locals → b ∉ wr → H.get? b = some o → h₂.get? b = some o := fun b o hbC hbf e => hs₂.extBut b o hbC (hk₁ b o hbf e)
    have hst₂ : St (zs.length + 1) h₂ := W.frame _ _ _ hst₁ fun b hb o e => hs₂.extBut b o (fun h => hCf (h ▸ hb)) e
    refine wpAny_bind (wpAny_bind (wpAny_mono (helt zs.length v _ _ _ hPv hn₂ (by simp) (by simpa [hxx] using hm') (fun b o hbC hbf hbD e => up₂ b o hbC hbf (hk b o hbC hbf hbD e))) (fun y s₃ h₃ => ?_) fun _ _ e => e))
    (try k_fold)
    obtain ⟨hGy, h₃, tk₃, rfl, hk₃⟩ := h₃
    have hacc₃ : h₃.PlainList D (ys0 ++ zs.toArray) := hacc'.at fun o e => hk₃ _ o (up₂ D o hDC hDw e)
    refine wpAny_bind (wpAny_list_append_plain (hsz := by simp; omega) hacc₃ fun h₅ hl₅ hs₅ => wpAny_pure (wpAny_pure ⟨rfl, n + 1 - (zs.length + 1), by omega, h₅, tk₃, _, zs ++ [y], rfl, ?_, ?_, ((hn₂.keeps hk₃).sameBut hs₅ (Ne.symm hDC)), by simpa [hxx] using hm', ?_, by simp; omega, by simp, ?_⟩))
    · have := W.frame _ _ h₅ hst₂ fun b hb o e => hs₅.extBut b o (fun h => hDf (h ▸ hb)) (hk₃ b o e)
      simpa using this
    · simpa using hl₅
    · intro j u hj
      rcases Nat.lt_trichotomy j zs.length with h | h | h
      · exact hG j u (by rwa [List.getElem?_append_left h] at hj)
      · subst h; simp at hj; subst hj; exact hGy
      · rw [List.getElem?_eq_none (by rw [List.length_append, List.length_singleton]; omega)] at hj; cases hj
    · exact fun b o hbC hbf hbD e => hs₅.extBut b o hbD (hk₃ b o (up₂ b o hbC hbf (hk b o hbC hbf hbD e)))
  · have hin : zs.length = n := by omega
    refine W.done _ _ _ (hin ▸ hst') fun h₁ tk₁ hk₁ => ?_
    exact wpAny_pure (hR h₁ tk₁ m' zs (hn'.at' fun o e => hk₁ _ o hCw e) (hacc'.at fun o e => hk₁ _ o hDw e) hin hG fun b o hbC hbf hbD e => hk₁ b o hbf (hk b o hbC hbf hbD e))
theorem comp_in_start {elt i0 i1 : PySem.Expr} {x0 x1 : Str} {p0 p1 : Pos} {scope : Scope} {pos : Pos} {it acc : Value} {env : Env}
    (h0 : codeAny (model prog w) A (.compLoop (LC2 elt x0 p0 i0 x1 p1 i1 scope pos) 1 it acc env) R s)
    (h : wpAny (model prog w) A (pyIter it) (fun it' s' => codeAny (model prog w) A (.compLoop (LC2 elt x0 p0 i0 x1 p1 i1 scope pos) 1 it' acc env) R s')
      (notedBy (model prog w) A env fun x s' => R (.error x) s') s) :
    codeAny (model prog w) A (.compStart (LC2 elt x0 p0 i0 x1 p1 i1 scope pos) 1 it acc env) R s := by
  refine codeAny_of_tree ?_
  show wpAny _ _ ((compStart (LC2 elt x0 p0 i0 x1 p1 i1 scope pos) 1 it acc env).onRaise (fun x => do noteFrame x env; standAt theWindowsPlace)) _ _ s
  refine wpAny_notedAt ?_
  unfold compStart
  show wpAny _ _ (ask >>= _) _ _ s
  refine wpAny_bind (wpAny_askSetting (wpAny_ite ?_))
  split
  · first
      | exact wpAny_bind (wpAny_pure (wpAny_pure (And.intro rfl h0)))
      | exact wpAny_pure (And.intro rfl h0)
  · first
      | exact wpAny_bind (wpAny_rule (wpAny_bind (wpAny_standAt (wpAny_bind (wpAny_mono h (fun it' s' h' => wpAny_pure (And.intro rfl h')) fun _ _ x => x)))))
      | (refine wpAny_bind (wpAny_rule ?_); show wpAny _ _ (standAt i1.pos >>= _) _ _ s; exact wpAny_bind (wpAny_standAt (wpAny_bind (wpAny_mono h (fun it' s' h' => wpAny_pure (And.intro rfl h')) fun _ _ x => x))))
/-- what a for runs over here, ranges of any step -/
def SrcC (h : Heap) (xv : Value) (n : Nat) (P : Nat → Value → Prop) : Prop :=
  (∃ ax vs, xv = .ref ax ∧ h.IsList ax (vs : List Value).toArray ∧ n = vs.length ∧ ∀ i v, vs[i]? = some v → P i v) ∨
  (∃ r a b c t u v, xv = .ref r ∧ IsRange h r a b c t u v ∧ Builtin.Range.small a b c = true ∧ Builtin.Range.rangeSize a b c = (n : Int) ∧ ∀ (i : Nat) v, i < n → (∃ t, v = .int (a + (i : Int) * c) t) → P i v)
theorem SrcC.list {h : Heap} {ax : Addr} {vs : List Value} (hl : h.IsList ax vs.toArray) : SrcC h (.ref ax) vs.length (fun i v => vs[i]? = some v) := .inl ⟨ax, vs, rfl, hl, rfl, fun _ _ e => e⟩
theorem SrcC.range {h : Heap} {r : Addr} {a b c : Int} {t u v : Tok} {n : Nat} (hr : IsRange h r a b c t u v) (hs : Builtin.Range.small a b c = true) (hn : Builtin.Range.rangeSize a b c = (n : Int)) : SrcC h (.ref r) n (fun i v => i < n ∧ ∃ t, v = .int (a + (i : Int) * c) t) :=
  .inr ⟨r, a, b, c, t, u, v, rfl, hr, hs, hn, fun _ _ h1 h2 => ⟨h1, h2⟩⟩
theorem src_iter2 {xv : Value} {n : Nat} {P : Nat → Value → Prop} {E : Value → Shared → Prop} {Q : Value → Shared → Prop} (S : SrcC s.heap xv n P) (hh : A.handled = none)
    (h : ∀ (o : Obj) fp St, o.isFreed = false → Walks prog w A s.heap.objs.size fp [s.heap.objs.size] n P St → St 0 (s.heap.push o) → (∀ b ∈ fp, b = s.heap.objs.size ∨ (xv = .ref b ∧ ∃ vs, s.heap.IsList b vs)) → Q (.ref s.heap.objs.size) { s with heap := s.heap.push o }) :
    wpAny (model prog w) A (pyIter xv) Q E s := by
  rcases S with ⟨ax, vs, rfl, hl, rfl, hP⟩ | ⟨r, a, b, c, t, u, v, rfl, hr, hsm, hn, hP⟩
  · obtain ⟨ol, hol, _⟩ := id hl
    have hlt : ax < s.heap.objs.size := Heap.lt_size hol
    have hne : ax ≠ s.heap.objs.size := Nat.ne_of_lt hlt
    have W := Walks.list (prog := prog) (w := w) hh s.heap.objs.size ax hne vs.toArray
    refine wpAny_pyIter_list hl (h _ _ _ rfl (?_ : Walks prog w A s.heap.objs.size [s.heap.objs.size, ax] [s.heap.objs.size] vs.length P (fun i h => h.IsListIter s.heap.objs.size ax i ∧ h.IsList ax vs.toArray)) ⟨⟨_, Heap.get?_push_size _ rfl, rfl, rfl⟩, hl.at fun o e => Heap.get?_push_of_some _ e⟩ ?_)
    · have e : vs.toArray.size = vs.length := List.size_toArray
      rw [e] at W
      exact { sub := W.sub, frame := W.frame, done := W.done, self := W.self, item := fun i s Q E hi st hQ => W.item i s Q E hi st fun v h' tk hv => hQ v h' tk (hP i v (by simpa using hv)) }
    · intro b hb
      rcases List.mem_cons.mp hb with rfl | hb
      · exact .inl rfl
      · rw [List.mem_singleton.mp hb]; exact .inr ⟨rfl, _, hl⟩
  · have W : Walks prog w A s.heap.objs.size [s.heap.objs.size] [s.heap.objs.size] n (fun i v => i < n ∧ ∃ t, v = .int (a + i * c) t)
      (fun i h => IsRangeIter h s.heap.objs.size (a + (i : Nat) * c) ((n : Int) - (i : Nat)) c) := (Walks.range hh _ a c n).bound
    refine wpAny_pyIter_range hr hsm (h _ _ _ rfl (?_ : Walks prog w A s.heap.objs.size [s.heap.objs.size] [s.heap.objs.size] n P (fun i h => IsRangeIter h s.heap.objs.size (a + (i : Nat) * c) ((n : Int) - (i : Nat)) c)) (by show IsRangeIter _ _ _ _ _; rw [hn]; simpa using Heap.get?_push_size _ rfl) ?_)
    · exact { sub := W.sub, frame := W.frame, done := W.done, self := W.self, item := fun i s Q E hi st hQ => W.item i s Q E hi st fun v h' tk hv => hQ v h' tk (hP i v hv.1 hv.2) }
    · intro b hb
      rw [List.mem_singleton.mp hb]; exact .inl rfl
/-- the outer loop -/
theorem comp_out {elt i0 i1 : PySem.Expr} {x0 x1 : Str} {p0 p1 : Pos} {scope : Scope} {pos : Pos} {I D : Addr} {fp wr : List Addr} {n M : Nat} {P : Nat → Value → Prop} {St : Nat → Heap → Prop} {cenv : Env} {m : Str → Option Value}
    (W : Walks prog w A I fp wr n P St) (cnt : Nat → Nat) (El : Nat → Nat → Value → Prop) (hh : A.handled = none) (hx0 : cenv.kindOf x0 = some .local) (hx1 : cenv.kindOf x1 = some .local) (hp : (cenv.scope.kind == .class || (cenv.scope.kind == .module && cenv.locals != cenv.globals)) = false)
    (hDC : D ≠ cenv.locals) (hDf : D ∉ fp) (hCf : cenv.locals ∉ fp) (hst : St 0 s.heap) (hacc : s.heap.PlainList D #[]) (hn : s.heap.Ns cenv.locals m) (hxx : x0 ≠ x1) (hfs : ∀ x, foldedSetIterable i1 cenv x = pure x)
    (hcn : ∀ i, cnt i ≤ M) (hsz : n * M ≤ sizeLine)
    (hit : ∀ i v (s₂ : Shared) m₂ E' oD, i < n → P i v → s₂.heap.Ns cenv.locals m₂ → m₂ x0 = some v → s₂.heap.get? D = some oD → (∀ b o, b ≠ cenv.locals → b ∉ wr → b ≠ D → s.heap.get? b = some o → s₂.heap.get? b = some o) →
      wpAny (model prog w) A (eval i1 cenv) (fun yv s₃ => Keeps s₂ s₃ ∧ ∃ P', SrcC s₃.heap yv (cnt i) P' ∧ (∀ ax vs, yv = .ref ax → s₃.heap.IsList ax vs → ax ≠ D) ∧
        (∀ j v' (s₄ : Shared) m₄ E', P' j v' → s₄.heap.Ns cenv.locals m₄ → m₄ x1 = some v' → m₄ x0 = some v → (∀ b o, b ≠ cenv.locals → b ∉ wr → b ≠ D → s.heap.get? b = some o → s₄.heap.get? b = some o) →
          wpAny (model prog w) A (eval elt cenv) (fun y s₅ => El i j y ∧ Keeps s₄ s₅) E' s₄)) E' s₂)
    (hR : ∀ h' tk m' (yss : List (List Value)), h'.Ns cenv.locals m' → h'.PlainList D yss.flatten.toArray → yss.length = n → (∀ i zs, yss[i]? = some zs → zs.length = cnt i ∧ ∀ j y, zs[j]? = some y → El i j y) → (∀ b o, b ≠ cenv.locals → b ∉ wr → b ≠ D → s.heap.get? b = some o → h'.get? b = some o) → R (.ok .next) { s with heap := h', toks := tk }) :
    codeAny (model prog w) A (.compLoop (LC2 elt x0 p0 i0 x1 p1 i1 scope pos) 0 (.ref I) (.ref D) cenv) R s := by
  have hCw : cenv.locals ∉ wr := fun h => hCf (W.sub _ h)
  have hDw : D ∉ wr := fun h => hDf (W.sub _ h)
  refine codeAny_loop rfl (fun k s' => ∃ h' tk m' yss, s' = { s with heap := h', toks := tk } ∧ St yss.length h' ∧ h'.PlainList D (yss : List (List Value)).flatten.toArray ∧ h'.Ns cenv.locals m' ∧ (∀ i zs, yss[i]? = some zs → zs.length = cnt i ∧ ∀ j y, zs[j]? = some y → El i j y) ∧ yss.flatten.length ≤ yss.length * M ∧ yss.length ≤ n ∧ k = n + 1 - yss.length ∧
      (∀ b o, b ≠ cenv.locals → b ∉ wr → b ≠ D → s.heap.get? b = some o → h'.get? b = some o)) (fun k s' hI => ?_) (n + 1) ⟨s.heap, s.toks, m, [], rfl, hst, by simpa using hacc, hn, fun j y e => by simp at e, by simp, Nat.zero_le _, rfl, fun _ _ _ _ _ e => e⟩
  show wpAny _ A ((compTurn (LC2 elt x0 p0 i0 x1 p1 i1 scope pos) 0 (.ref I) (.ref D) cenv).onRaise (fun x => do noteFrame x cenv; theTreesLotGoes x)) _ _ s'
  refine wpAny_noted ?_
  rw [compTurn_out]
  refine wpAny_bind (wpAny_standAt (wpAny_bind ?_))
  (try k_fold)
  obtain ⟨H, tk, m', yss, rfl, hst', hacc', hn', hG, hfl, hle, rfl, hk⟩ := hI
  by_cases hlt : yss.length < n
  · refine W.item yss.length _ _ _ hlt hst' fun v h₁ tk₁ hPv hst₁ hk₁ => ?_
    refine wpAny_bind (wpAny_of_eq (show letOwnedTupleGo (.Name x0 p0) (.ref I) v = pure () from rfl) (wpAny_bind (wpAny_assign_Name (wpAny_storeName_local hx0 (hn'.at' fun o e => hk₁ _ o hCw e) (fun h₂ hn₂ hs₂ => ?_) hp))))
    have up₂ : ∀ b o, b ≠ cenv.locals → b ∉ wr → H.get? b = some o → h₂.get? b = some o := fun b o hbC hbf e => hs₂.extBut b o hbC (hk₁ b o hbf e)
    have hst₂ : St (yss.length + 1) h₂ := W.frame _ _ _ hst₁ fun b hb o e => hs₂.extBut b o (fun h => hCf (h ▸ hb)) e
    (try k_fold)
    obtain ⟨kD, hD2⟩ := hacc'.at fun o e => up₂ D o hDC hDw e
    refine wpAny_bind (wpAny_mono (hit yss.length v _ _ _ _ hlt hPv hn₂ (by simp) hD2 (fun b o hbC hbf hbD e => up₂ b o hbC hbf (hk b o hbC hbf hbD e))) (fun yv s₃ h₃ => ?_) fun _ _ e => e)
    (try k_fold)
    obtain ⟨⟨h₃, tk₃, rfl, hk₃⟩, P', S, hax, helt⟩ := h₃
    refine wpAny_bind (wpAny_standAt (wpAny_bind (wpAny_of_eq (hfs yv) (wpAny_bind (wpAny_holding (src_iter2 S hh fun o fp' St' hfr W' hst3 hfp' => wpAny_bind (wpAny_runOwn ?_)))))))
    dsimp only at S W' hst3 hfp' ⊢
    have hsame : ∀ b o', h₃.get? b = some o' → (h₃.push o).get? b = some o' := fun b o' e => Heap.get?_push_of_some _ e
    have hD3 : h₃.get? D = some _ := hk₃ _ _ hD2
    have hn₃ : (h₃.push o).Ns cenv.locals _ := (hn₂.keeps hk₃).at' fun o e => hsame _ _ e
    have hDs : D ≠ h₃.objs.size := Nat.ne_of_lt (Heap.lt_size hD3)
    have hCs : cenv.locals ≠ h₃.objs.size := by
      (try k_fold)
      obtain ⟨oC, _, _, hoC, _⟩ := hn₂.keeps hk₃
      exact Nat.ne_of_lt (Heap.lt_size hoC)
    have hDf' : D ∉ fp' := fun hm => by
      rcases hfp' D hm with e | ⟨e, vs, hl⟩
      · exact hDs e
      · exact hax D vs e hl rfl
    have hCf' : cenv.locals ∉ fp' := fun hm => by
      rcases hfp' _ hm with e | ⟨_, vs, hl⟩
      · exact hCs e
      · obtain ⟨oC, _, _, hoC, hdC, _⟩ := hn₂.keeps hk₃
        (try k_fold)
        obtain ⟨oL, hoL, _, _, hdL⟩ := hl
        rw [hoC] at hoL
        cases hoL
        rw [hdC] at hdL
        cases hdL
    have hwr' : ∀ b o', b ≠ cenv.locals → b ∉ wr → b ≠ D → s.heap.get? b = some o' → (h₃.push o).get? b = some o' ∧ b ≠ h₃.objs.size := fun b o' hbC hbf hbD e => by
      have e3 := hk₃ b o' (up₂ b o' hbC hbf (hk b o' hbC hbf hbD e))
      exact ⟨hsame _ _ e3, Nat.ne_of_lt (Heap.lt_size e3)⟩
    have loop : codeAny (model prog w) A (.compLoop (LC2 elt x0 p0 i0 x1 p1 i1 scope pos) 1 (.ref h₃.objs.size) (.ref D) cenv)
        (fun r s' => match r with
          | .ok f => wpAny (model prog w) A (again (.compLoop (LC2 elt x0 p0 i0 x1 p1 i1 scope pos) 0 (.ref I) (.ref D) cenv)) (fun fin s'' => match fin with
              | .done f => R (.ok f) s''
              | .again c' => c' = .compLoop (LC2 elt x0 p0 i0 x1 p1 i1 scope pos) 0 (.ref I) (.ref D) cenv ∧ ∃ m_1, m_1 < n + 1 - yss.length ∧ ∃ h' tk m' yss, s'' = { s with heap := h', toks := tk } ∧ St yss.length h' ∧ h'.PlainList D (yss : List (List Value)).flatten.toArray ∧ h'.Ns cenv.locals m' ∧ (∀ i zs, yss[i]? = some zs → zs.length = cnt i ∧ ∀ j y, zs[j]? = some y → El i j y) ∧ yss.flatten.length ≤ yss.length * M ∧ yss.length ≤ n ∧ m_1 = n + 1 - yss.length ∧
                  (∀ b o, b ≠ cenv.locals → b ∉ wr → b ≠ D → s.heap.get? b = some o → h'.get? b = some o)) (notedBy (model prog w) A cenv fun e s' => R (.error e) s') s'
          | .error e => cameBackBy (model prog w) A cenv (notedBy (model prog w) A cenv fun e s' => R (.error e) s') e s') { s with heap := h₃.push o, toks := tk₃ } := by
      refine comp_in (ys0 := yss.flatten.toArray) (v0 := v) W' (El yss.length) hx1 hp hDC hDf' hCf' hst3 ⟨kD, hsame _ _ hD3⟩ hn₃ (by simp) hxx ?_ ?_ ?_
      · intro j v' s₄ m₄ E' hPj hn4 hm1 hm0 hk4
        refine helt j v' s₄ m₄ E' hPj hn4 hm1 hm0 fun b o' hbC hbf hbD e => ?_
        (try k_fold)
        obtain ⟨e3, hbs⟩ := hwr' b o' hbC hbf hbD e
        exact hk4 b o' hbC (fun hm => hbs (List.mem_singleton.mp hm)) hbD e3
      · intro h' tk' m'' zs hn' hpl hzl hzE hk'
        refine wpAny_pure ⟨rfl, n + 1 - (yss.length + 1), by omega, h', tk', m'', yss ++ [zs], rfl, ?_, ?_, hn', ?_, ?_, by simp; omega, by simp, ?_⟩
        · have := W.frame _ _ h' hst₂ fun b hb o' e => ?_
          · simpa using this
          · have e3 := hk₃ b o' e
            exact hk' b o' (fun h => hCf (h ▸ hb)) (fun hm => Nat.ne_of_lt (Heap.lt_size e3) (List.mem_singleton.mp hm)) (fun h => hDf (h ▸ hb)) (hsame _ _ e3)
        · simpa using hpl
        · intro i zs' hi
          rcases Nat.lt_trichotomy i yss.length with h | h | h
          · exact hG i zs' (by rwa [List.getElem?_append_left h] at hi)
          · subst h; simp at hi; subst hi; exact ⟨hzl, hzE⟩
          · rw [List.getElem?_eq_none (by rw [List.length_append, List.length_singleton]; omega)] at hi; cases hi
        · have := hcn yss.length
          simp only [List.flatten_append, List.length_append, List.flatten_cons, List.flatten_nil, List.append_nil, List.length_singleton, Nat.succ_mul]
          omega
        · intro b o' hbC hbf hbD e
          (try k_fold)
          obtain ⟨e3, hbs⟩ := hwr' b o' hbC hbf hbD e
          exact hk' b o' hbC (fun hm => hbs (List.mem_singleton.mp hm)) hbD e3
      · have h1 := hcn yss.length
        have h2 : (yss.length + 1) * M ≤ n * M := Nat.mul_le_mul_right _ hlt
        rw [Nat.succ_mul] at h2
        simp only [List.size_toArray]
        omega
    exact comp_in_start loop (W'.self 0 _ _ _ hst3 loop)
  · have hin : yss.length = n := by omega
    refine W.done _ _ _ (hin ▸ hst') fun h₁ tk₁ hk₁ => ?_
    exact wpAny_pure (hR h₁ tk₁ m' yss (hn'.at' fun o e => hk₁ _ o hCw e) (hacc'.at fun o e => hk₁ _ o hDw e) hin hG fun b o hbC hbf hbD e => hk₁ b o hbf (hk b o hbC hbf hbD e))
theorem comp2_block {env : Env} {E : Value → Shared → Prop} {s₂ : Shared} {elt i0 i1 : PySem.Expr} {x0 x1 : Str} {p0 p1 : Pos} {scope : Scope} {cl : List (Str × Addr)} {pos : Pos} {I : Addr} {fp wr : List Addr} {n M : Nat} {P : Nat → Value → Prop} {St : Nat → Heap → Prop}
    (W : Walks prog w A I fp wr n P St) (cnt : Nat → Nat) (El : Nat → Nat → Value → Prop) (hh : A.handled = none) {RR : Value → Addr → Result → Shared → Prop}
    (hcell : ∀ y ∈ scope.names, y.2 ≠ .cell) (hkind : scope.kind = .function) (hx0 : scope.names.lookup x0 = some .local) (hx1 : scope.names.lookup x1 = some .local) (hst : St 0 s₂.heap) (hfp : ∀ b ∈ fp, b < s₂.heap.objs.size) (hxx : x0 ≠ x1)
    (hfs : ∀ C x, foldedSetIterable i1 (compEnvC scope cl C env) x = pure x) (hcn : ∀ i, cnt i ≤ M) (hsz : n * M ≤ sizeLine)
    (hit : ∀ C D i v (s₃ : Shared) m₃ E' oD, i < n → P i v → s₂.heap.get? D = none → s₃.heap.Ns C m₃ → m₃ x0 = some v → s₃.heap.get? D = some oD → (∀ b o, b ∉ wr → s₂.heap.get? b = some o → s₃.heap.get? b = some o) →
      wpAny (model prog w) A (eval i1 (compEnvC scope cl C env)) (fun yv s₄ => Keeps s₃ s₄ ∧ ∃ P', SrcC s₄.heap yv (cnt i) P' ∧ (∀ ax vs, yv = .ref ax → s₄.heap.IsList ax vs → ax ≠ D) ∧
        (∀ j v' (s₅ : Shared) m₅ E', P' j v' → s₅.heap.Ns C m₅ → m₅ x1 = some v' → m₅ x0 = some v → (∀ b o, b ∉ wr → s₂.heap.get? b = some o → s₅.heap.get? b = some o) →
          wpAny (model prog w) A (eval elt (compEnvC scope cl C env)) (fun y s₆ => El i j y ∧ Keeps s₅ s₆) E' s₅)) E' s₃)
    (hRR : ∀ D C h' tk m' (yss : List (List Value)), s₂.heap.get? D = none → s₂.heap.get? C = none → D ≠ C → h'.Ns C m' → h'.PlainList D yss.flatten.toArray → yss.length = n → (∀ i zs, yss[i]? = some zs → zs.length = cnt i ∧ ∀ j y, zs[j]? = some y → El i j y) →
      (∀ b o, b ∉ wr → s₂.heap.get? b = some o → h'.get? b = some o) → RR (.ref D) C (.ok .next) { s₂ with heap := h', toks := tk }) :
    wpAny (model prog w) A (newList []) (fun acc s₃ => wpAny (model prog w) A (newFunctionEnv scope env.globals cl [] env.qual none .none (some env)) (fun cenv s₄ =>
      codeAny (model prog w) A (.compStart (LC2 elt x0 p0 i0 x1 p1 i1 scope pos) 0 (.ref I) acc { cenv with scope := relabel scope env }) (RR acc cenv.locals) s₄) E s₃) E s₂ := by
  refine wpAny_newObj_type (wpAny_newFunctionEnv hcell (by intro y hy; simp at hy) (fun h₁ hns₁ hsb₁ => ?_) hkind)
  dsimp only at hns₁ hsb₁ ⊢
  generalize hH2 : s₂.heap.push { cls := .type "list", dict := none, data := .seq ([] : List Value).toArray } = H2 at hns₁ hsb₁ ⊢
  have hC : H2.objs.size = s₂.heap.objs.size + 1 := by rw [← hH2, Heap.size_push]
  have hDC : s₂.heap.objs.size ≠ H2.objs.size := by rw [hC]; exact Nat.ne_of_lt (Nat.lt_succ_self _)
  have hCle : s₂.heap.objs.size ≤ H2.objs.size := by rw [hC]; exact Nat.le_succ _
  have below : ∀ b, b < s₂.heap.objs.size → b ≠ H2.objs.size ∧ b ≠ s₂.heap.objs.size := fun b hb => ⟨by rw [hC]; exact Nat.ne_of_lt (Nat.lt_succ_of_lt hb), Nat.ne_of_lt hb⟩
  have hDf : s₂.heap.objs.size ∉ fp := fun hm => Nat.lt_irrefl _ (hfp _ hm)
  have hCf : H2.objs.size ∉ fp := fun hm => by have := hfp _ hm; rw [hC] at this; exact Nat.lt_irrefl _ (Nat.lt_of_succ_lt this)
  have old : ∀ b o, s₂.heap.get? b = some o → h₁.get? b = some o := fun b o e => hsb₁.extBut b o (below b (Heap.lt_size e)).1 (Heap.get?_push_of_some _ (hH2 ▸ Heap.get?_push_of_some _ e))
  have hacc : h₁.PlainList s₂.heap.objs.size #[] := ⟨_, hsb₁.extBut _ _ hDC (Heap.get?_push_of_some _ (hH2 ▸ Heap.get?_push_size _ rfl))⟩
  have hst₁ : St 0 h₁ := W.frame _ _ _ hst fun b _ o e => old b o e
  have fresh : ∀ a, s₂.heap.objs.size ≤ a → s₂.heap.get? a = none := fun a ha => by
    cases e : s₂.heap.get? a with
    | none => rfl
    | some o' => exact absurd (Heap.lt_size e) (Nat.not_lt.mpr ha)
  have loop : ∀ s₃ : Shared, s₃ = { s₂ with heap := h₁, toks := s₂.toks + ([] : List (Str × Value)).length } →
      codeAny (model prog w) A (.compLoop (LC2 elt x0 p0 i0 x1 p1 i1 scope pos) 0 (.ref I) (.ref s₂.heap.objs.size) (compEnvC scope cl H2.objs.size env))
        (RR (.ref s₂.heap.objs.size) H2.objs.size) s₃ := by
    rintro s₃ rfl
    refine comp_out (M := M) (cenv := compEnvC scope cl H2.objs.size env) W cnt El hh (lookup_relabel_local hx0) (lookup_relabel_local hx1) (by simp [compEnvC, relabel, hkind]) hDC hDf hCf hst₁ hacc hns₁ hxx (hfs _) hcn hsz ?_ ?_
    · intro i v s₃ m₃ E' oD hin hPv hn hm hD hk
      refine wpAny_mono (hit H2.objs.size s₂.heap.objs.size i v s₃ m₃ E' oD hin hPv (fresh _ (Nat.le_refl _)) hn hm hD (fun b o hbf e => hk b o (below b (Heap.lt_size e)).1 hbf (below b (Heap.lt_size e)).2 (old b o e))) (fun yv s₄ q => ?_) fun _ _ e => e
      (try k_fold)
      obtain ⟨q1, P', q2, q3, q4⟩ := q
      exact ⟨q1, P', q2, q3, fun j v' s₅ m₅ E'' hP' hn5 h1 h0 hk5 => q4 j v' s₅ m₅ E'' hP' hn5 h1 h0 fun b o hbf e => hk5 b o (below b (Heap.lt_size e)).1 hbf (below b (Heap.lt_size e)).2 (old b o e)⟩
    · intro h' tk m' yss hn hpl hlen hE hk
      exact hRR _ _ h' tk m' yss (fresh _ (Nat.le_refl _)) (fresh _ (by rw [hC]; exact Nat.le_succ _)) hDC hn hpl hlen hE fun b o hbf e =>
        hk b o (below b (Heap.lt_size e)).1 hbf (below b (Heap.lt_size e)).2 (old b o e)
  exact codeAny_compStart_list (loop _ rfl) (W.self 0 _ _ _ hst₁ (loop _ rfl))
theorem comp2_asg {env : Env} {h₀ : Heap} {L : Addr} {E : Value → Shared → Prop} {elt i0 i1 : PySem.Expr} {x0 x1 y : Str} {p0 p1 py : Pos} {scope : Scope} {cl : List (Str × Addr)} {pos spos : Pos} {Q : Flow → Shared → Prop} {m : Str → Option Value}
    (M : Nat) (cnt : Nat → Nat) (El : Nat → Nat → Value → Prop) (_F : Fr h₀ L s.heap m)
    (hsw : swapsWith (LC2 elt x0 p0 i0 x1 p1 i1 scope pos) (some (.Name y py)) spos.line env = pure true) (hL : env.locals = L)
    (hclos : closureFor scope env = pure cl) (hcell : ∀ z ∈ scope.names, z.2 ≠ .cell) (hkind : scope.kind = .function)
    (hnames : ∀ z ∈ scope.names, z.2 = .local → scope.names.lookup z.1 = some .local) (hx0 : scope.names.lookup x0 = some .local) (hx1 : scope.names.lookup x1 = some .local)
    (hy : env.kindOf y = some .local) (hp : (env.scope.kind == .class || (env.scope.kind == .module && env.locals != env.globals)) = false) (hxx : x0 ≠ x1)
    (h : wpAny (model prog w) A (eval i0 env) (fun xv s₁ => ∃ n P news, Src s₁.heap xv n P ∧ (∀ i, cnt i ≤ M) ∧ n * M ≤ sizeLine ∧ A.handled = none ∧ Fr h₀ L s₁.heap m ∧ News h₀ L s₁.heap news ∧
      (∀ C D i v (s₃ : Shared) m₃ E' oD, i < n → P i v → Fr h₀ L s₃.heap m → News h₀ L s₃.heap ((D, oD) :: news) → (∀ p ∈ news, p.1 ≠ D) → s₃.heap.Ns C m₃ → m₃ x0 = some v →
        wpAny (model prog w) A (eval i1 (compEnvC scope cl C env)) (fun yv s₄ => Keeps s₃ s₄ ∧ ∃ P', SrcC s₄.heap yv (cnt i) P' ∧ (∀ ax vs, yv = .ref ax → s₄.heap.IsList ax vs → ax ≠ D) ∧
          (∀ j v' (s₅ : Shared) m₅ E', P' j v' → Fr h₀ L s₅.heap m → News h₀ L s₅.heap news → s₅.heap.Ns C m₅ → m₅ x1 = some v' → m₅ x0 = some v →
            wpAny (model prog w) A (eval elt (compEnvC scope cl C env)) (fun y s₆ => El i j y ∧ Keeps s₅ s₆) E' s₅)) E' s₃) ∧
      (∀ D (yss : List (List Value)) h' tk k, Fr h₀ L h' (fun z => if z = y then some (.ref D) else m z) → News h₀ L h' ((D, listOf yss.flatten.toArray k) :: news) → (∀ p ∈ news, p.1 ≠ D) → yss.length = n → (∀ i zs, yss[i]? = some zs → zs.length = cnt i ∧ ∀ j y, zs[j]? = some y → El i j y) → Q .next { s₁ with heap := h', toks := tk })) E s)
    (hs : ∀ x, foldedSetIterable i0 env x = pure x := by intro _; rfl) (hfs : ∀ C x, foldedSetIterable i1 (compEnvC scope cl C env) x = pure x := by intro _ _; rfl) :
    wpAny (model prog w) A (exec (.Assign [.Name y py] (LC2 elt x0 p0 i0 x1 p1 i1 scope pos) spos) env) Q E s := by
  subst hL
  rw [exec_Assign_Name_used _ _ _ _ hsw]
  refine wpAny_bind (wpAny_standAt (wpAny_bind ?_))
  show wpAny _ A (do let _ ← comprehension (LC2 elt x0 p0 i0 x1 p1 i1 scope pos) scope env _ (newList []) false (eval i0 env) (some (assign (.Name y py) env))) _ _ s
  refine wpAny_bind (wpAny_mono (wpAny_comprehension_free (use := some (assign (.Name y py) env)) (Q := fun _ s' => Q .next s') rfl hs hclos hkind hnames
    (wpAny_mono h (fun xv s₁ h₁ => ?_) fun _ _ e => e)) (fun _ s' hq => wpAny_pure (wpAny_pure hq)) fun _ _ e => e)
  (try k_fold)
  obtain ⟨n, P, news, S, hcn, hsz, hh, F, N, hit, hQ⟩ := h₁
  have hLlt : env.locals < s₁.heap.objs.size := F.ns.lt
  refine src_iter S hh fun o fp St hfr W hst hfp => ?_
  have stay : ∀ {h3 : Heap}, (∀ b o', b ∉ [s₁.heap.objs.size] → (s₁.heap.push o).get? b = some o' → h3.get? b = some o') → s₁.heap.StaysIn h3 := fun hk b o' e => hk b o' (fun hm => by rw [List.mem_singleton.mp hm] at e; exact Nat.lt_irrefl _ (Heap.lt_size e)) (Heap.get?_push_of_some _ e)
  refine comp2_block (M := M) (RR := fun acc C => compPost (model prog w) A E (some (assign (.Name y py) env)) (fun _ s' => Q .next s') acc C) W cnt El hh hcell hkind hx0 hx1 hst (by intro b hb; show b < (s₁.heap.push o).objs.size; rw [Heap.size_push]; exact hfp b hb) hxx hfs hcn hsz ?_ ?_
  · intro C D i v s₃ m₃ E' oD hin hPv hDn hn hm hD hk
    have st := stay hk
    have hDn1 : s₁.heap.get? D = none := by
      cases q : s₁.heap.get? D with
      | none => rfl
      | some o' => have := Heap.get?_push_of_some o q; rw [show (s₁.heap.push o).get? D = none from hDn] at this; cases this
    have hne : ∀ p ∈ news, p.1 ≠ D := fun p hp e => by have := (N p hp).1; rw [e, hDn1] at this; cases this
    have ND : News h₀ env.locals s₃.heap ((D, oD) :: news) := by
      intro p hp
      rcases List.mem_cons.mp hp with rfl | hp
      · refine ⟨hD, ?_, ?_⟩
        · intro e
          (try k_fold)
          obtain ⟨oL, _, _, hL, _⟩ := F.ns
          have e' : D = env.locals := e
          rw [e', hL] at hDn1; cases hDn1
        · cases q : h₀.get? D with
          | none => rfl
          | some o' => have := F.keep _ _ q; rw [hDn1] at this; cases this
      · exact news_stay N st p hp
    refine wpAny_mono (hit C D i v s₃ m₃ E' oD hin hPv (fr_stay F st) ND hne hn hm) (fun yv s₄ q => ?_) fun _ _ e => e
    (try k_fold)
    obtain ⟨q1, P', q2, q3, q4⟩ := q
    exact ⟨q1, P', q2, q3, fun j v' s₅ m₅ E'' hP' hn5 h1 h0 hk5 => q4 j v' s₅ m₅ E'' hP' (fr_stay F (stay hk5)) (news_stay N (stay hk5)) hn5 h1 h0⟩
  · intro D C h' tk m' yss hD hC hDC hnC hplD hlen hE hk
    (try k_fold)
    obtain ⟨oL0, _, _, hoL0, _⟩ := F.ns
    have hLC : env.locals ≠ C := by rintro rfl; have := Heap.get?_push_of_some o hoL0; rw [show (s₁.heap.push o).get? env.locals = none from hC] at this; cases this
    have hLD : env.locals ≠ D := by rintro rfl; have := Heap.get?_push_of_some o hoL0; rw [show (s₁.heap.push o).get? env.locals = none from hD] at this; cases this
    have st := stay hk
    show wpAny _ A (assign (.Name y py) env (.ref D)) _ _ _
    refine wpAny_assign_Name (wpAny_storeName_local hy (F.ns.at' fun o e => st _ o e) (fun h₂ hn₂ hs₂ => ?_) hp)
    refine ⟨m', hnC.sameBut hs₂ (Ne.symm hLC), fun h₃ hs₃ => ?_⟩
    have hDn1 : s₁.heap.get? D = none := by
      cases q : s₁.heap.get? D with
      | none => rfl
      | some o' => have := Heap.get?_push_of_some o q; rw [show (s₁.heap.push o).get? D = none from hD] at this; cases this
    have hCn1 : s₁.heap.get? C = none := by
      cases q : s₁.heap.get? C with
      | none => rfl
      | some o' => have := Heap.get?_push_of_some o q; rw [show (s₁.heap.push o).get? C = none from hC] at this; cases this
    have st3 : ∀ b o', b ≠ env.locals → s₁.heap.get? b = some o' → h₃.get? b = some o' := fun b o' hb e =>
      hs₃.extBut b o' (by rintro rfl; rw [hCn1] at e; cases e) (hs₂.extBut b o' hb (st b o' e))
    have hne : ∀ p ∈ news, p.1 ≠ D := fun p hp e => by have := (N p hp).1; rw [e, hDn1] at this; cases this
    (try k_fold)
    obtain ⟨k, hDk⟩ := (hplD.extBut hs₂.extBut (Ne.symm hLD)).extBut hs₃.extBut hDC
    refine hQ D yss h₃ _ k ⟨hn₂.sameBut hs₃ hLC, fun b o' e => st3 b o' (Nat.ne_of_lt (Nat.lt_of_lt_of_le (Heap.lt_size e) F.above)) (F.keep b o' e), F.above⟩ ?_ hne hlen hE
    intro p hp
    rcases List.mem_cons.mp hp with rfl | hp
    · refine ⟨hDk, Ne.symm hLD, ?_⟩
      cases q : h₀.get? D with
      | none => rfl
      | some o' => have := F.keep _ _ q; rw [hDn1] at this; cases this
    · exact ⟨st3 _ _ (N p hp).2.1 (N p hp).1, (N p hp).2⟩
end
end
end Mine
namespace Mine2
open Mine
local macro_rules | `(tactic| omega) => `(tactic| lia)
theorem fill1 : PySem.Challenge.rw_sc0107_02 = PySem.Challenge.rw_sc0107_02 ∧ Mine2.hd.heap_1 = Mine2.hd.heap_1 := by
  w_top off
  k_fill
  exact ⟨rfl, rfl⟩
local macro_rules | `(tactic| end_is "my call") => `(tactic| (
  refine' code_pure ?k1 ?k2 ?k3 ?k5 ?kA ?kF ?kK ?k6 ?k7 ?k8 ?k9 ?kB ?_ ?c2 ?c3 ?c4 ?c5; (case kA => exact rfl); (case kF => exact rfl); (case kK => assumption); (case k1 => k_asm); (case k2 => k_asm); (case k3 => k_asm);(case k5 => k_asm); (case k6 => k_is); (case k7 => k_is); (case k8 => ktr_room); (case k9 => exact BindsTo.of_eq rfl); (case c5 => decide); (case kB => exact locs rfl); (case c2 => exact rfl); (case c3 => exact rfl); (case c4 => exact rfl)))
local macro_rules | `(tactic| end_is "my hide") => `(tactic| (
  refine' code_hide ?k1 ?k2 ?k3 ?k4 ?k5 ?kA ?kF ?kK ?k6 ?k7 ?k8 ?k9 ?kB ?_ ?c2 ?c3 ?c4 ?c5; (case kA => exact rfl); (case kF => exact rfl); (case kK => assumption); (case k1 => k_asm); (case k2 => k_asm); (case k3 => k_asm);(case k4 => k_asm);(case k5 => k_asm); (case k6 => k_is); (case k7 => k_is); (case k8 => ktr_room); (case k9 => exact BindsTo.of_eq rfl); (case c5 => decide); (case kB => exact locs rfl); (case c2 => exact rfl); (case c3 => exact rfl); (case c4 => exact rfl)))
local macro_rules | `(tactic| end_is "my cells") => `(tactic| (
  refine' code_hide_cells ?k1 ?k2 ?k3 ?k4 ?k5 ?kA ?kF ?kK ?k6 ?k7 ?k8 ?k9 ?kB ?kD ?_ ?c2 ?c3 ?c4; (case kA => exact rfl); (case kF => exact rfl); (case kK => assumption); (case k1 => k_asm); (case k2 => k_asm); (case k3 => k_asm);(case k4 => k_asm);(case k5 => k_asm); (case k6 => k_is); (case k7 => k_is); (case k8 => ktr_room); (case k9 => exact BindsTo.of_eq rfl); (case kB => exact kindsX rfl); (case kD => decide +kernel); (case c2 => exact rfl); (case c3 => exact rfl); (case c4 => exact rfl)))
local macro_rules | `(tactic| end_is "my nest") => `(tactic| (
  refine' code_hide_nest ?k1 ?k2 ?k3 ?k4 ?k5 ?kA ?kF ?kK ?k6 ?k66 ?k7 ?k8 ?k9 ?kB ?_ ?c2 ?c3 ?c4 ?c5; (case kA => exact rfl); (case kF => exact rfl); (case kK => assumption); (case k1 => k_asm); (case k2 => k_asm); (case k3 => k_asm); (case k4 => k_asm); (case k5 => k_asm); (case k6 => assumption); (case k66 => exact rfl); (case k7 => assumption); (case k8 => ktr_room); (case k9 => exact BindsTo.of_eq rfl); (case c5 => decide); (case kB => exact locs rfl); (case c2 => exact rfl); (case c3 => exact rfl); (case c4 => exact rfl)))
local macro_rules | `(tactic| end_is "my name") => `(tactic| ((with_reducible show wpAny _ _ (eval (Expr.Name _ _) _) _ _ _); refine' nameF0 ?kF ?kV ?kC ?_ ?kh ?kx ?kb ?kn; (case kx => rfl); (case kC => rfl); (case kh => rfl); (case kb => decide); (case kn => decide); (case kF => k_asm); (case kV => assumption)))
local macro_rules | `(tactic| end_is "my fn") => `(tactic| ((with_reducible show wpAny _ _ (callWith _ (Value.ref _) _ _ _) _ _ _); refine callWith_F (fnAt_keep (by assumption) (Fr.keep (by k_asm))) ?_))
local macro_rules | `(tactic| end_is "my sub") => `(tactic| first | exact List.forall_mem_nil _ | (refine' List.forall_mem_cons.mpr ⟨?a, ?b⟩; (case a => k_mem); (case b => end_is "my sub")))
local macro_rules | `(tactic| end_is "my stop") => `(tactic| first
  | (with_reducible show wpAny _ _ (exec (Stmt.For _ _ _ _ _) _) _ _ _)
  | (with_reducible show wpAny _ _ (exec (Stmt.While _ _ _ _) _) _ _ _)
  | (with_reducible show wpAny _ _ (call (Value.ref _) _) _ _ _)
  | (with_reducible show wpAny _ _ (eval (Expr.ListComp _ _ _ _) _) _ _ _)
  | (with_reducible show wpAny _ _ (exec (Stmt.Assign _ (Expr.ListComp _ _ _ _) _) _) _ _ _)
  | (with_reducible show wpAny _ _ (pyIter _) _ _ _)
  | (with_reducible show wpAny _ _ (exec (Stmt.If (Expr.Compare (Expr.Call _ _ _ _) [CmpOp.Lt] [Expr.Call _ _ _ _] _) _ _ _) _) _ _ _)
  | (with_reducible show wpAny _ _ (setItem (Value.ref _) _ _) _ _ _)
  | (with_reducible show wpAny _ _ (subscriptTail (Expr.List _ _) _ _ _) _ _ _)
  | (with_reducible show wpAny _ _ (subscriptTail _ (Expr.Slice (some _) none none _) (Value.ref _) (Value.ref _)) _ _ _))
local macro_rules | `(tactic| end_is "my stop2") => `(tactic| (with_reducible show wpAny _ _ (subscriptTail _ _ (Value.ref _) (Value.int _ _)) _ _ _))
local macro_rules | `(tactic| end_is "my A") => `(tactic| ((show (let A' := _; wpAny _ A' _ _ _ _)); intro A'))
local macro_rules | `(tactic| end_is "my norm") => `(tactic| (
  (try dsimp only); (try ((with_reducible show (let tk' := _; wpAny _ _ _ _ _ (Shared.mk _ _ _ tk' _))); intro tk'))))
local macro_rules | `(tactic| end_is "my step") => `(tactic| first
  | (k_unfold; (try dsimp only))
  | ((with_reducible show wpAny _ _ (execs [_] _) _ _ _); refine execs_one ?_)
  | ((with_reducible show wpAny _ _ (execs (_ :: _) _) _ _ _); refine wpAny_execs_cons ?_; (try dsimp only); (try k_fold))
  | (with_reducible first | refine postT_ret ?_ | refine postT_brk ?_ | refine postT_next ?_ | refine postW_next ?_ | refine postW_ret ?_)
  | ((fail_if_success end_is "my stop"); (fail_if_success end_is "my stop2"); (with_reducible show wpAny _ _ _ _ _ _); first | walk1 | (dsimp only; walk1))
  | (with_reducible show ite _ _ _; first | walk1 | (dsimp only; walk1))
  | ((with_reducible show ∃ (i : Int) (t : Tok), _ = Value.int i t ∧ _); refine ⟨_, _, rfl, ?_⟩))
local macro_rules | `(tactic| end_is "my go") => `(tactic| ((try end_is "my norm"); repeat' (end_is "my step")))
local macro_rules | `(tactic| end_is "my goO") => `(tactic| ((try end_is "my norm"); repeat' (first | ((with_reducible show wpAny _ _ (subscriptTail _ _ (Value.ref _) (Value.int _ _)) _ _ _); first | walk1 | (dsimp only; walk1)) | end_is "my step")))
local macro_rules | `(tactic| end_is "my nested") => `(tactic| ((try end_is "my norm"); repeat' (first | end_is "my name" | end_is "my fn" | end_is "my step")))
local macro_rules | `(tactic| walk_at "eval Constant str") => `(tactic| first | refine const_str lit_nil ?_ | refine const_str lit_sp ?_ | refine const_str lit_tab ?_ | refine const_str lit_dots ?_ | refine const_str lit_x ?_)
local macro_rules | `(tactic| walk_at "binaryOp Mult str int") => `(tactic| (refine str_mul ?_ ?_ ?_ ?_ ?_; (iterate 4 (first | omega | (simp; omega) | skip; rotate_left)); intro _ _))
local macro_rules | `(tactic| walk_at "binaryOp Add str str") => `(tactic| (refine str_add (by first | omega | (simp; omega)) ?_; intro _ _))
local macro_rules | `(tactic| walk_at "call builtin:len") => `(tactic| first | refine len_T (by omega) ?_ | refine len_l (News.isList (by assumption) (by k_mem)) (by omega) ?_)
local macro_rules | `(tactic| walk_at "truthy str") => `(tactic| (refine truthy_Tn rfl (by first | omega | (simp; done) | (simp; omega)) ?_))
local macro_rules | `(tactic| walk_at "subscriptTail Name Slice str ref") => `(tactic| first
  | ((with_reducible show wpAny _ _ (subscriptTail _ (Expr.Slice (some _) none none _) _ _) _ _ _); refine slG_from (s := ⟨_, _, _, _, _⟩) (by assumption) (by assumption) rfl (by omega) (by omega) ?_; intro _ _ _ bG hG1 hG2 _ _)
  | ((with_reducible show wpAny _ _ (subscriptTail _ (Expr.Slice none (some (Expr.BoolOp _ _ _)) none _) _ _) _ _ _); refine slG_or (s := ⟨_, _, _, _, _⟩) (by assumption) (by assumption) rfl (by omega) (by omega) ?_; intro _ _ _ bG hG1 hG2 _ _)
  | ((with_reducible show wpAny _ _ (subscriptTail _ (Expr.Slice none (some (Expr.Name _ _)) none _) _ _) _ _ _); refine slG_to (s := ⟨_, _, _, _, _⟩) (by assumption) (by assumption) rfl (by omega) (by omega) ?_; intro _ _ _ bG hG1 hG2 _ _))
local macro_rules | `(tactic| walk_at "subscriptTail Name Name str int") => `(tactic| (refine itT (by omega) (by omega) (by first | assumption | rfl) ?_))
local macro_rules | `(tactic| walk_at "subscriptTail Name BinOp str int") => `(tactic| (refine itT_neg (by assumption) (by omega) (by omega) (by omega) (by first | assumption | rfl) ?_))
local macro_rules | `(tactic| walk_at "eval BoolOp") => `(tactic| (refine or_none ?_))
local macro_rules | `(tactic| walk_at "binaryOp LShift int int") => `(tactic| (refine lshift_int ?_ ?_ ?_))
local macro_rules | `(tactic| walk_at "binaryOp RShift int int") => `(tactic| (first | refine rshift_int (by decide) ?_ | refine rshift_int ?_ ?_))
section
abbrev P1 : Program := PySem.Challenge.rw_sc0107_02.row.prog
/-- the least multiple of size from s on, s itself among them -/
def upto (size s : Int) : Int := s + (-s) % size
def col (size : Int) (l : List Nat) : Int := l.foldl (fun st b => if b = 9 then upto size (st + 1) else st + 1) 0
theorem upto_ge (size s : Int) (h : 0 < size) : s ≤ upto size s := by
  have := Int.emod_nonneg (-s) (Int.ne_of_gt h)
  unfold upto; omega
theorem upto_of_zero (size s : Int) (_h : 0 < size) (h0 : s % size = 0) : upto size s = s := by
  unfold upto
  rw [Int.emod_eq_zero_of_dvd (Int.dvd_neg.mpr (Int.dvd_of_emod_eq_zero h0))]
  omega
theorem upto_step (size s : Int) (h : 0 < size) (h0 : s % size ≠ 0) : upto size (s + 1) = upto size s := by
  have h1 : 0 ≤ (-s) % size := Int.emod_nonneg _ (Int.ne_of_gt h)
  have h2 : (-s) % size < size := Int.emod_lt_of_pos _ h
  have h3 : (-s) % size ≠ 0 := by
    intro e
    apply h0
    have := Int.dvd_of_emod_eq_zero e
    exact Int.emod_eq_zero_of_dvd (by simpa using (Int.dvd_neg.mpr this))
  have h4 : (-(s + 1)) % size = (-s) % size - 1 := by
    have e : -(s + 1) = ((-s) % size - 1) + size * ((-s) / size) := by
      have := Int.emod_add_mul_ediv (-s) size
      omega
    rw [e, Int.add_mul_emod_self_left]
    exact Int.emod_eq_of_lt (by omega) (by omega)
  unfold upto
  rw [h4]; omega
theorem upto_gt (size s : Int) (h : 0 < size) (h0 : s % size ≠ 0) : s + 1 ≤ upto size s := by
  have := upto_step size s h h0
  have := upto_ge size (s + 1) h
  omega
theorem col_snoc (size : Int) (l : List Nat) (i : Nat) (b : Nat) (h : l[i]? = some b) : col size (l.take (i + 1)) = if b = 9 then upto size (col size (l.take i) + 1) else col size (l.take i) + 1 := by
  unfold col
  rw [List.take_add_one, h]
  simp
theorem sg_tab {b : Nat} : (({ cps := #[b] } : Str) == Str.ofString "\t") = decide (b = 9) := by
  rw [lit_tab]
  show decide (({ cps := #[b] } : Str) = T [9]) = _
  simp [T]
theorem sg_tabT {b : Nat} : (({ cps := #[b] } : Str) == T [9]) = decide (b = 9) := by rw [← lit_tab]; exact sg_tab
theorem col_spec (w : World) (l : List Nat) (size : Int) (hs : 0 < size) (tl ts : Tok) : Spec P1 w (Mine2.hd.heap_1 w.params) 500 500 164 [.str (T l) tl, .int size ts] (fun _ => True) (fun v _ _ => ∃ t, v = .int (col size l) t) := by
  intro p loose mean mg mb dp un gd cn cs a ccd cl outer A₀ base h₀ L m s Q E B F X T hk hH hd hu hret
  obtain ⟨hpS, gnS, drS, tkS, osS⟩ := s
  (try dsimp only at F)
  (try dsimp only at hH)
  (try dsimp only at hret)
  refine wpAny_more (A := ktrTop 500 500 gd cn cs L a ccd cl outer) ?_ hd hu
  refine wpAny_call ?_
  k_dflt end_is "my call"
  intro g' L' h' eg F' N' B' X' T'
  (try dsimp only at eg)
  subst eg
  (try dsimp only)
  (try k_fold)
  end_is "my A"
  clear B F X T hH
  end_is "my go"
  refine For_invVF (by assumption) rfl rfl ?_
  end_is "my go"
  refine loop_str (σ := Int × Tok) (fun _ => []) (fun c => [("signs", .str (T l) tl), ("size", .int size ts), ("stand", .int c.1 c.2)]) (fun i c => c.1 = col size (l.take i)) (0, _) rfl rfl (by assumption) (by assumption) (fun _ h => nomatch h) ⟨rfl, rfl, rfl, trivial⟩ rfl ?_ ?_
  · intro i cp t cZ1 u h tk own hcp hinv hoff F1 N1
    (try k_fold)
    obtain ⟨st, tst⟩ := cZ1
    have hb : l[i]? = some cp := by simpa [T] using hcp
    (try dsimp only at hinv F1)
    (try k_fold)
    end_is "my go"
    clear F1 N1
    refine while_g (σ := Int × Tok) (fun _ => own) (fun c => [("signs", .str (T l) tl), ("size", .int size ts), ("stand", .int c.1 c.2), ("sign", .str ⟨#[cp]⟩ t)]) (fun c => if cp = 9 then c.1 ≤ upto size (st + 1) ∧ upto size c.1 = upto size (st + 1) else c.1 = st + 1) (fun c => (upto size (st + 1) - c.1).toNat) (st + 1, _) (by assumption) (by assumption) (fun _ h => by simpa using h) ⟨rfl, rfl, rfl, rfl, trivial⟩ ?_ ?_
    · (try dsimp only)
      have := upto_ge size (st + 1) hs
      by_cases hb9 : cp = 9 <;> simp [this, hb9]
    intro cZ1 u2 h2 tk2 hz F2 N2
    (try k_fold)
    obtain ⟨z, tz⟩ := cZ1
    (try dsimp only at hz F2)
    end_is "my go"
    · rename (_ == _) = true => hb1
      rename Int.fmod _ _ ≠ 0 => hm
      rw [sg_tabT] at hb1
      have hb1 := of_decide_eq_true hb1
      subst hb1
      rw [Int.fmod_eq_emod_of_nonneg _ (Int.le_of_lt hs)] at hm
      have q1 := upto_step size z hs hm
      have q2 := upto_gt size z hs hm
      simp only [if_true] at hz
      refine endW (z + 1, _) (by assumption) (by assumption) (fun _ h => h) ⟨rfl, rfl, rfl, rfl, trivial⟩ ?_ ?_
      · (try dsimp only)
        rw [if_pos rfl]
        omega
      · (try dsimp only)
        omega
    · rename (_ == _) = true => hb1
      rename Int.fmod _ _ = 0 => hm
      rw [sg_tabT] at hb1
      have hb1 := of_decide_eq_true hb1
      subst hb1
      rw [Int.fmod_eq_emod_of_nonneg _ (Int.le_of_lt hs)] at hm
      simp only [if_true] at hz
      refine endT (z, _) F2 N2 (fun _ h => nomatch h) (fun _ h => h) hoff ⟨rfl, rfl, rfl, trivial⟩ ?_
      (try dsimp only)
      rw [col_snoc size l i 9 hb, ← hinv, if_pos rfl, ← hz.2, upto_of_zero size z hs hm]
    · rename (_ == _) = false => hb1
      rw [sg_tabT] at hb1
      have hb2 := of_decide_eq_false hb1
      refine endT (z, _) F2 N2 (fun _ h => nomatch h) (fun _ h => h) hoff ⟨rfl, rfl, rfl, trivial⟩ ?_
      (try dsimp only)
      rw [col_snoc size l i cp hb, ← hinv, if_neg hb2]
      rw [if_neg hb2] at hz
      exact hz
  · intro cZ1 u h tk hinv F1 N1
    (try k_fold)
    obtain ⟨st, tst⟩ := cZ1
    (try k_fold)
    end_is "my go"
    have e : l.take (T l).cps.size = l := by simp [T]
    (try dsimp only at hinv)
    rw [e] at hinv
    subst hinv
    exact hret _ _ _ (Fr.keep (by assumption)) ⟨_, rfl⟩
end
section
local macro_rules | `(tactic| walk_at "truthy str") => `(tactic| (refine truthy_T (by first | assumption | omega | (simp; done) | (simp; omega)) ?_))
theorem strs_split {ls : List Str} {vs : List Value} {a : Str} (h : StrsAre vs (a :: ls)) : ∃ t vs', vs = .str a t :: vs' ∧ StrsAre vs' ls := by
  cases h with
  | cons x t h => exact ⟨t, _, rfl, h⟩
theorem strs_snoc : ∀ {ls : List Str} {vs : List Value} {a : Str}, StrsAre vs (ls ++ [a]) → ∃ t vs', vs = vs' ++ [.str a t] ∧ StrsAre vs' ls
  | [], vs, a, h => by
    obtain ⟨t, vs', rfl, h'⟩ := strs_split h
    cases h'
    exact ⟨t, [], rfl, .nil⟩
  | b :: ls, vs, a, h => by
    obtain ⟨t, vs', rfl, h'⟩ := strs_split h
    obtain ⟨t', vs'', rfl, h''⟩ := strs_snoc h'
    exact ⟨t', .str b t :: vs'', rfl, .cons _ _ h''⟩
theorem strs_get {ls : List Str} {vs : List Value} (h : StrsAre vs ls) : ∀ (i : Nat) (v : Value), vs[i]? = some v → ∃ x t, ls[i]? = some x ∧ v = .str x t := by
  induction h with
  | nil => intro i v e; simp at e
  | cons x t h ih =>
    intro i v e
    cases i with
    | zero => simp at e; exact ⟨x, t, by simp, e.symm⟩
    | succ i => simpa using ih i v (by simpa using e)
theorem ell_spec (w : World) (ps : List (List Nat)) (g : List Nat) (hp : ∀ p ∈ ps, 46 ∉ p) (hsm : ∀ p ∈ ps, ∀ c ∈ p, c < 256) (hlen : (dots.intercalate ([] :: ps ++ [[]])).length ≤ 100000) (hk : ps.length ≤ 1000) (hg : g.length ≤ 100000) (tw tg : Tok) : Spec P1 w (Mine2.hd.heap_1 w.params) 500 500 28 [.str (T (dots.intercalate ([] :: ps ++ [[]]))) tw, .str (T g) tg] (fun _ => True) (fun v _ _ => v = .bool (ellL ps g)) := by
  intro p loose mean mg mb dp un gd cn cs a ccd cl outer A₀ base h₀ L m s Q E B F X TT hk hH hd hu hret
  obtain ⟨hpS, gnS, drS, tkS, osS⟩ := s
  (try dsimp only at F)
  (try dsimp only at hH)
  (try dsimp only at hret)
  refine wpAny_more (A := ktrTop 500 500 gd cn cs L a ccd cl outer) ?_ hd hu
  refine wpAny_call ?_
  k_dflt end_is "my call"
  intro g' L' h' eg F' N' B' X' T'
  (try dsimp only at eg)
  subst eg
  (try dsimp only)
  (try k_fold)
  end_is "my A"
  clear B F X TT
  end_is "my go"
  · exfalso
    rename List.isEmpty _ = true => hem
    exact dots_found ps (by rw [← lit_dotsK]; exact hem)
  rename List.isEmpty _ = false => hem
  clear hem
  rw [lit_dotsK]
  refine KSpl.split1 (by assumption) (by assumption) (by decide) ?_ (by rw [T_len]; exact Nat.le_trans (Nat.add_le_add_right hlen 2) (by decide))
  intro D l' h2 k2 e2 a2 F2 N2 l2
  rw [e2, ← List.cons_append, split_dots _ (by simp) (by
    intro x hx
    rcases List.mem_cons.mp hx with rfl | hx
    · simp
    · rcases List.mem_append.mp hx with hx | hx
      · exact hp x hx
      · rw [List.mem_singleton.mp hx]; simp) (by
    intro x hx
    rcases List.mem_cons.mp hx with rfl | hx
    · simp
    · rcases List.mem_append.mp hx with hx | hx
      · exact hsm x hx
      · rw [List.mem_singleton.mp hx]; simp)] at a2
  generalize strValues l' = vs at *
  clear e2 l2
  have a3 := a2
  rw [List.map_append] at a3
  obtain ⟨t0, vs0, e0, h0⟩ := strs_split (by simpa using a2)
  obtain ⟨t1, vs1, e1, h1⟩ := strs_snoc a3
  have hvl : vs.length = ps.length + 2 := by rw [StrsAre.length a2]; simp
  (try k_fold)
  end_is "my go"
  refine item_l (News.isList (by assumption) (by k_mem)) (by decide) (by decide) (by rw [e0]; rfl) ?_
  end_is "my go"
  refine item_last (vs := vs1) (v := .str (T []) t1) (by rw [← e1]; exact News.isList (by assumption) (by k_mem)) ?_
  end_is "my go"
  refine For_invVF (by assumption) rfl rfl ?_
  end_is "my go"
  refine loop_list (σ := Nat × Tok × Tok) (fun _ => [(D, listOf vs.toArray 0)]) (fun c => [("got", .str (T g) tg), ("startpos", .int (c.1 : Int) c.2.1), ("endpos", .int (g.length : Int) c.2.2)]) (fun i c => c.1 ≤ g.length ∧ ellL (([] :: ps ++ [[]]).drop i) (g.drop c.1) = ellL ps g) (0, _, _) rfl rfl (.inr fun _ => .head _) (by assumption) (by assumption) (fun q hq => by rw [List.mem_singleton.mp hq]; k_mem) ⟨rfl, rfl, rfl, trivial⟩ ⟨Nat.zero_le _, by rw [List.drop_zero, List.drop_zero, List.cons_append, ellL_nil_cons, ellL_snoc_nil]⟩ ?_ ?_
  · intro i v cZ1 u hh tk3 own hvi cZ2 hoff F3 N3
    (try k_fold)
    obtain ⟨k, tk, te⟩ := cZ1
    obtain ⟨hk1, hk2⟩ := cZ2
    obtain ⟨x, t, hx, rfl⟩ := strs_get a2 i v hvi
    obtain ⟨q, hq, rfl⟩ : ∃ q, ([] :: ps ++ [[]])[i]? = some q ∧ T q = x := by
      rw [List.getElem?_map] at hx
      cases hq : ([] :: ps ++ [[]])[i]? with
      | none => rw [hq] at hx; cases hx
      | some q => rw [hq] at hx; exact ⟨q, rfl, Option.some.inj hx⟩
    (try dsimp only at hk1 hk2 F3)
    have hdrop : ([] :: ps ++ [[]]).drop i = q :: ([] :: ps ++ [[]]).drop (i + 1) := by
      obtain ⟨h1, h2⟩ := List.getElem?_eq_some_iff.mp hq
      rw [List.drop_eq_getElem_cons h1, h2]
    rw [hdrop] at hk2
    (try k_fold)
    end_is "my go"
    refine find4 hk1 (fun hc => ?_) (fun j hc hj => ?_)
    · (try k_fold)
      end_is "my go"
      have hf : ellL ps g = false := by rw [← hk2]; simp only [ellL, hc]
      refine hret _ _ _ (Fr.keep (by assumption)) ?_
      (try dsimp only)
      rw [hf]
    · have hql : q.length ≤ 100000 := by omega
      (try k_fold)
      end_is "my go"
      refine endT (j + q.length, _, _) (by assumption) (by assumption) (fun _ h => List.mem_append_left _ h) (fun _ h => List.mem_append_right _ h) hoff ⟨rfl, rfl, rfl, trivial⟩ ⟨hj, ?_⟩
      first | (rw [← hk2]; simp only [ellL, hc]; done) | (rw [← hk2]; simp only [ellL, hc]; rfl)
  · intro cZ1 u hh tk3 cZ2 F3 N3
    (try k_fold)
    obtain ⟨k, tk, te⟩ := cZ1
    obtain ⟨hk1, hk2⟩ := cZ2
    (try k_fold)
    end_is "my go"
    have hf : ellL ps g = true := by
      rw [← hk2, List.drop_of_length_le]
      · rfl
      · rw [hvl]; simp
    refine hret _ _ _ (Fr.keep (by assumption)) ?_
    (try dsimp only)
    rw [hf]
end
section
theorem sub_spec (w : World) (x y : Nat) (hx : x = 9 ∨ x = 32) (hy : y = 9 ∨ y = 32) (t1 t2 : Tok) : Spec P1 w (Mine2.hd.heap_1 w.params) 500 500 143 [.str (T [x]) t1, .str (T [y]) t2] (fun _ => True) (fun v _ _ => ∃ t, v = .int (cst x y) t) := by
  intro p loose mean mg mb dp un gd cn cs a ccd cl outer A₀ base h₀ L m s Q E B F X TT hk hH hd hu hret
  obtain ⟨hpS, gnS, drS, tkS, osS⟩ := s
  (try dsimp only at F)
  (try dsimp only at hH)
  (try dsimp only at hret)
  refine wpAny_more (A := ktrTop 500 500 gd cn cs L a ccd cl outer) ?_ hd hu
  refine wpAny_call ?_
  k_dflt end_is "my call"
  intro g' L' h' eg F' N' B' X' T'
  (try dsimp only at eg)
  subst eg
  (try dsimp only)
  (try k_fold)
  end_is "my A"
  clear B F X TT
  rcases hx with rfl | rfl <;> rcases hy with rfl | rfl <;> end_is "my go"
  all_goals exact hret _ _ _ (Fr.keep (by assumption)) ⟨_, rfl⟩
theorem lev_spec (w : World) (a b : List Nat) (mx : Int) (ha : ∀ c ∈ a, c = 9 ∨ c = 32) (hb : ∀ c ∈ b, c = 9 ∨ c = 32) (hal : a.length ≤ 40) (hbl : b.length ≤ 40) (ta tb tm : Tok) : Spec P1 w (Mine2.hd.heap_1 w.params) 490 490 150 [.str (T a) ta, .str (T b) tb, .int mx tm] (fun _ => True) (fun v _ _ => ∃ r t, v = .int r t ∧ LevR a b mx r) := by
  intro p loose mean mg mb dp un gd cn cs ad ccd cl outer A₀ base h₀ L m s Q E B F X TT hk hH hd hu hret
  obtain ⟨hpS, gnS, drS, tkS, osS⟩ := s
  (try dsimp only at F)
  (try dsimp only at hH)
  (try dsimp only at hret)
  refine wpAny_more (A := ktrTop 490 490 gd cn cs L ad ccd cl outer) ?_ hd hu
  refine wpAny_call ?_
  k_dflt end_is "my call"
  intro g' L' h' eg F' N' B' X' T'
  (try dsimp only at eg)
  subst eg
  (try dsimp only)
  (try k_fold)
  end_is "my A"
  clear B F X TT
  end_is "my go"
  · rename (_ == _) = true => he
    rw [T_beq] at he
    have he := of_decide_eq_true he
    subst he
    exact hret _ _ _ (Fr.keep (by assumption)) ⟨0, _, rfl, a, [], [], [], by simp, by simp, by simp [levC]⟩
  rename (_ == _) = false => hne
  clear hne
  refine while_d (σ := Nat × Tok) (fun _ => []) (fun c => [("a", .str (T a) ta), ("b", .str (T b) tb), ("max_cost", .int mx tm), ("pre", .int (c.1 : Int) c.2)]) (fun c => c.1 ≤ a.length ∧ c.1 ≤ b.length ∧ a.take c.1 = b.take c.1) (fun c => a.length - c.1) (fun c => c.1 ≤ a.length ∧ c.1 ≤ b.length ∧ a.take c.1 = b.take c.1) (0, _) (by assumption) (by assumption) (fun _ h => nomatch h) ⟨rfl, rfl, rfl, rfl, trivial⟩ ⟨Nat.zero_le _, Nat.zero_le _, rfl⟩ ?_ ?_
  · intro cZ1 u1 h1 tk1 cZ2 F1 N1
    (try k_fold)
    obtain ⟨k, tk0⟩ := cZ1
    obtain ⟨hka, hkb, htk⟩ := cZ2
    (try dsimp only at hka hkb htk F1)
    (try k_fold)
    rcases Nat.lt_or_ge k a.length with hlt | hge
    · rcases Nat.lt_or_ge k b.length with hlt2 | hge2
      · obtain ⟨ca, hca⟩ : ∃ c, a[k]? = some c := ⟨a[k], by simp [hlt]⟩
        obtain ⟨cb, hcb⟩ : ∃ c, b[k]? = some c := ⟨b[k], by simp [hlt2]⟩
        have hca' : a[(k : Int).toNat]? = some ca := by simpa using hca
        have hcb' : b[(k : Int).toNat]? = some cb := by simpa using hcb
        end_is "my go"
        · rename (_ == _) = true => he
          rw [T_beq] at he
          have he := of_decide_eq_true he
          have he : ca = cb := by simpa using he
          subst he
          refine endW (k + 1, _) (by assumption) (by assumption) (fun _ h => nomatch h) ⟨rfl, rfl, rfl, rfl, trivial⟩ ⟨hlt, hlt2, ?_⟩ ?_
          · (try dsimp only); rw [List.take_add_one, List.take_add_one, htk, hca, hcb]
          · (try dsimp only); omega
        · exact endX (k, _) (by assumption) (by assumption) (fun _ h => nomatch h) ⟨rfl, rfl, rfl, rfl, trivial⟩ ⟨hka, hkb, htk⟩
      · end_is "my go"
        exact endX (k, _) (by assumption) (by assumption) (fun _ h => nomatch h) ⟨rfl, rfl, rfl, rfl, trivial⟩ ⟨hka, hkb, htk⟩
    · end_is "my go"
      exact endX (k, _) (by assumption) (by assumption) (fun _ h => nomatch h) ⟨rfl, rfl, rfl, rfl, trivial⟩ ⟨hka, hkb, htk⟩
  intro cZ1 u1 h1 tk1 cZ2 F1 N1
  (try k_fold)
  obtain ⟨k, tk0⟩ := cZ1
  obtain ⟨hka, hkb, htk⟩ := cZ2
  (try dsimp only at hka hkb htk F1)
  (try k_fold)
  end_is "my go"
  rename _ = List.drop k b => hb1
  rename _ = List.drop k a => ha1
  obtain ⟨a1, ea1⟩ : ∃ x, x = List.drop k a := ⟨_, rfl⟩
  obtain ⟨b1, eb1⟩ : ∃ x, x = List.drop k b := ⟨_, rfl⟩
  have e1 := ea1.trans ha1.symm
  have e2 := eb1.trans hb1.symm
  subst e1 e2
  obtain ⟨pr, hpa, hpb⟩ : ∃ pr, a = pr ++ a1 ∧ b = pr ++ b1 := ⟨a.take k, by rw [ha1, List.take_append_drop], by rw [htk, hb1, List.take_append_drop]⟩
  have haw : ∀ c ∈ a1, c = 9 ∨ c = 32 := fun c hc => ha c (by rw [hpa]; exact List.mem_append_right _ hc)
  have hbw : ∀ c ∈ b1, c = 9 ∨ c = 32 := fun c hc => hb c (by rw [hpb]; exact List.mem_append_right _ hc)
  clear ha1 hb1 ea1 eb1 hka hkb htk ha hb
  refine while_d (σ := Nat × Tok × Tok × Tok) (fun _ => []) (fun c => [("a", .str (T a1) c.2.2.1), ("b", .str (T b1) c.2.2.2), ("max_cost", .int mx tm), ("post", .int (-(c.1 : Int)) c.2.1)]) (fun c => c.1 ≤ a1.length ∧ c.1 ≤ b1.length ∧ a1.drop (a1.length - c.1) = b1.drop (b1.length - c.1)) (fun c => a1.length - c.1) (fun c => c.1 ≤ a1.length ∧ c.1 ≤ b1.length ∧ a1.drop (a1.length - c.1) = b1.drop (b1.length - c.1)) (0, _, _, _) (by assumption) (by assumption) (fun _ h => nomatch h) ⟨rfl, rfl, rfl, rfl, trivial⟩ ⟨Nat.zero_le _, Nat.zero_le _, by simp⟩ ?_ ?_
  · intro cZ1 u2 h2 tk2 cZ2 F2 N2
    (try k_fold)
    obtain ⟨j, tj, ta1, tb1⟩ := cZ1
    obtain ⟨hja, hjb, htj⟩ := cZ2
    (try dsimp only at hja hjb htj F2)
    (try k_fold)
    have hpost : -(j : Int) - 1 = -((j + 1 : Nat) : Int) := by omega
    rcases Nat.lt_or_ge j a1.length with hlt | hge
    · rcases Nat.lt_or_ge j b1.length with hlt2 | hge2
      · obtain ⟨ca, hca⟩ : ∃ c, a1[a1.length - (j + 1)]? = some c := ⟨_, List.getElem?_eq_getElem (by omega)⟩
        obtain ⟨cb, hcb⟩ : ∃ c, b1[b1.length - (j + 1)]? = some c := ⟨_, List.getElem?_eq_getElem (by omega)⟩
        end_is "my go"
        · rename (_ == _) = true => he
          rw [T_beq] at he
          have he := of_decide_eq_true he
          have he : ca = cb := by simpa using he
          subst he
          refine endW (j + 1, _, _, _) (by assumption) (by assumption) (fun _ h => nomatch h) ⟨rfl, rfl, rfl, (by rw [← hpost]; rfl), trivial⟩ ⟨hlt, hlt2, ?_⟩ ?_
          · (try dsimp only)
            rw [show a1.length - j = a1.length - (j + 1) + 1 by omega, show b1.length - j = b1.length - (j + 1) + 1 by omega] at htj
            rw [List.drop_eq_getElem?_toList_append, htj, List.drop_eq_getElem?_toList_append (l := b1) (i := b1.length - (j + 1)), hca, hcb]
          · (try dsimp only); omega
        · exact endX (j, _, _, _) (by assumption) (by assumption) (fun _ h => nomatch h) ⟨rfl, rfl, rfl, rfl, trivial⟩ ⟨hja, hjb, htj⟩
      · end_is "my go"
        exact endX (j, _, _, _) (by assumption) (by assumption) (fun _ h => nomatch h) ⟨rfl, rfl, rfl, rfl, trivial⟩ ⟨hja, hjb, htj⟩
    · end_is "my go"
      exact endX (j, _, _, _) (by assumption) (by assumption) (fun _ h => nomatch h) ⟨rfl, rfl, rfl, rfl, trivial⟩ ⟨hja, hjb, htj⟩
  intro cZ1 u2 h2 tk2 cZ2 F2 N2
  (try k_fold)
  obtain ⟨j, tj, ta1, tb1⟩ := cZ1
  obtain ⟨hja, hjb, htj⟩ := cZ2
  (try dsimp only at hja hjb htj F2)
  (try k_fold)
  end_is "my go"
  all_goals (
    rename _ = List.take (b1.length - j) b1 => hb2
    rename _ = List.take (a1.length - j) a1 => ha2
    obtain ⟨a2, ea2⟩ : ∃ x, x = List.take (a1.length - j) a1 := ⟨_, rfl⟩
    obtain ⟨b2, eb2⟩ : ∃ x, x = List.take (b1.length - j) b1 := ⟨_, rfl⟩
    have e1 := ea2.trans ha2.symm
    have e2 := eb2.trans hb2.symm
    subst e1 e2
    clear ea2 eb2
    have hpa' : a = pr ++ a2 ++ List.drop (a1.length - j) a1 := by rw [List.append_assoc, ha2, List.take_append_drop]; exact hpa
    have hpb' : b = pr ++ b2 ++ List.drop (a1.length - j) a1 := by rw [List.append_assoc, htj, hb2, List.take_append_drop]; exact hpb
    have hR : ∀ r, r = levC a2 b2 mx → LevR a b mx r := fun r hr => ⟨pr, a2, b2, _, hpa', hpb', hr⟩
    have haw2 : ∀ c ∈ a2, c = 9 ∨ c = 32 := fun c hc => haw c (by rw [ha2] at hc; exact List.mem_of_mem_take hc)
    have hbw2 : ∀ c ∈ b2, c = 9 ∨ c = 32 := fun c hc => hbw c (by rw [hb2] at hc; exact List.mem_of_mem_take hc)
    clear ha2 hb2 htj hpa hpb hpa' hpb' haw hbw)
  · rename a2.length ≠ 0 => ha0
    rename b2.length ≠ 0 => hb0
    refine cut_exec (α := List Nat × List Nat × Tok × Tok) (by assumption) (fun _ => []) (fun c => [("a", .str (T c.1) c.2.2.1), ("b", .str (T c.2.1) c.2.2.2), ("max_cost", .int mx tm)]) (fun c => c.1.length ≤ c.2.1.length ∧ c.1.length ≠ 0 ∧ c.2.1.length ≤ 40 ∧ (∀ x ∈ c.1, x = 9 ∨ x = 32) ∧ (∀ x ∈ c.2.1, x = 9 ∨ x = 32) ∧ ((c.1 = a2 ∧ c.2.1 = b2) ∨ (c.1 = b2 ∧ c.2.1 = a2 ∧ b2.length < a2.length))) ?_ ?_
    · walk1
      end_is "my go"
      · refine endX (b2, a2, _, _) (by assumption) (by assumption) (fun _ h => nomatch h) ⟨rfl, rfl, rfl, trivial⟩ ⟨by (try dsimp only); omega, by (try dsimp only); omega, by (try dsimp only); omega, hbw2, haw2, .inr ⟨rfl, rfl, by omega⟩⟩
      · refine endX (a2, b2, _, _) (by assumption) (by assumption) (fun _ h => nomatch h) ⟨rfl, rfl, rfl, trivial⟩ ⟨by (try dsimp only); omega, by (try dsimp only); omega, by (try dsimp only); omega, haw2, hbw2, .inl ⟨rfl, rfl⟩⟩
    · intro cZ1 u3 h3 tk3 cZ2 F3 N3
      (try k_fold)
      obtain ⟨x, y, tx, ty⟩ := cZ1
      obtain ⟨hxy, hx0, hy40, hxw, hyw, hor⟩ := cZ2
      (try dsimp only at hxy hx0 hy40 hxw hyw hor F3)
      (try k_fold)
      end_is "my go"
      · rename _ > mx => hgt
        exact hret _ _ _ (Fr.keep (by assumption)) ⟨_, _, rfl, hR _ (by rw [levC_le hx0 hxy hor, if_pos hgt])⟩
      rename ¬ (_ > mx) => hgt
      have hR2 : ∀ r, r = levD x y mx → LevR a b mx r := fun r hr => hR r (by rw [levC_le hx0 hxy hor, if_neg hgt]; exact hr)
      clear hR hgt hor
      refine list_rng (n := x.length) rfl (by assumption) (by assumption) (by assumption) (range2_small _ hx0 (by omega)) (range2_size _ hx0) (by omega) ?_
      intro h4 tk4 ys D k4 F4 N4 hne4 hI4
      (try k_fold)
      end_is "my go"
      refine For_invVF (by assumption) rfl rfl ?_
      end_is "my go"
      refine loop_range (n := y.length) (σ := List Value × List Int × Int × Tok) (fun c => [(D, listOf c.1.toArray k4)]) (fun c => [("a", .str (T x) tx), ("b", .str (T y) ty), ("max_cost", .int mx tm), ("row", .ref D), ("result", .int c.2.2.1 c.2.2.2)]) (fun i c => IntsAre c.1 c.2.1 ∧ (c.2.1, c.2.2.1) = rows x y i ∧ ∀ k, k < i → ¬ rmin x y k > mx) (ys, _, 0, _) rfl rfl (by assumption) (range_small (by omega) (by omega) (by omega) (by omega)) (by rw [range_size]; omega) (by assumption) (by assumption) (fun q hq => by rw [List.mem_singleton.mp hq]; k_mem) ⟨rfl, rfl, rfl, rfl, rfl, trivial⟩ ⟨hI4, rfl, fun k hk => absurd hk (Nat.not_lt_zero _)⟩ ?_ ?_
      · intro i ti cZ1 u5 h5 tk5 own hi cZ2 hoff F5 N5
        (try k_fold)
        obtain ⟨vs, ns, res, tres⟩ := cZ1
        obtain ⟨hI5, hrow, hmin⟩ := cZ2
        (try dsimp only at hI5 hrow hmin F5 N5)
        obtain ⟨bc, hbc⟩ : ∃ c, y[i]? = some c := ⟨_, List.getElem?_eq_getElem (by omega)⟩
        have hbc' : y[((0 : Int) + (i : Int)).toNat]? = some bc := by simpa using hbc
        (try k_fold)
        end_is "my go"
        have hnl : ns.length = x.length := by have := rows_len x y i; rw [← hrow] at this; exact this
        refine For_invVF (by assumption) rfl rfl ?_
        end_is "my go"
        refine loop_range (n := x.length) (σ := LSt) (fun c => (D, listOf c.vs.toArray k4) :: own) (fun c => [("a", .str (T x) tx), ("b", .str (T y) ty), ("max_cost", .int mx tm), ("row", .ref D), ("bchar", .str (T [bc]) c.tb), ("distance", .int c.d c.td), ("result", .int c.r c.tr), ("minimum", .int c.mn c.tm)]) (fun j c => IntsAre c.vs c.ns ∧ c.ns = (istep bc x ns (2 * (i : Int)) j).2.2.2 ++ ns.drop j ∧ c.d = (istep bc x ns (2 * (i : Int)) j).1 ∧ c.r = (istep bc x ns (2 * (i : Int)) j).2.1 ∧ c.mn = (istep bc x ns (2 * (i : Int)) j).2.2.1) ⟨vs, ns, (0 + (i : Int)) * 2, (0 + (i : Int)) * 2, 9223372036854775807, _, _, _, _⟩ rfl rfl (by assumption) (range_small (by omega) (by omega) (by omega) (by omega)) (by rw [range_size]; omega) (by assumption) (by assumption) (fun q hq => by simpa using hq) ⟨rfl, rfl, rfl, rfl, rfl, rfl, rfl, rfl, trivial⟩ ⟨hI5, by simp [istep], by simp [istep]; omega, by simp [istep]; omega, rfl⟩ ?_ ?_
        · intro j tj2 cZ1 u6 h6 tk6 own6 hj cZ2 hoff6 F6 N6
          (try k_fold)
          obtain ⟨vs6, ns6, d6, r6, mn6, td6, tr6, tm6, tb6⟩ := cZ1
          obtain ⟨hI6, hns6, hd6, hr6, hmn6⟩ := cZ2
          (try dsimp only at hI6 hns6 hd6 hr6 hmn6 F6 N6)
          obtain ⟨ac, hac⟩ : ∃ c, x[j]? = some c := ⟨_, List.getElem?_eq_getElem hj⟩
          have hac' : x[((0 : Int) + (j : Int)).toNat]? = some ac := by simpa using hac
          (try k_fold)
          end_is "my go"
          refine ⟨X'.keeps F6.keep, ?_⟩
          end_is "my go"
          refine spec_call (sub_spec w bc ac (hyw _ (List.mem_of_getElem? hbc)) (hxw _ (List.mem_of_getElem? hac)) _ _) B' (by assumption) X' (by assumption) T' rfl trivial (Nat.le_of_ble_eq_true rfl) (Nat.le_of_ble_eq_true rfl) ?_
          intro v h7 tk7 F7 N7 st7 cZ1
          (try k_fold)
          obtain ⟨tv, rfl⟩ := cZ1
          (try k_fold)
          have hl6 : ns6.length = x.length := by rw [hns6, List.length_append, istep_len, List.length_drop]; omega
          end_is "my go"
          refine ksa_sub (by assumption) (List.mem_cons_self ..) hI6 (by omega) (by omega) (by omega) ?_ (by with_unfolding_all rfl)
          intro tg
          (try k_fold)
          end_is "my go"
          refine set_l (rest := own ++ own6) (by assumption) (by assumption) (fun p hp => (List.mem_append.mp hp).elim (fun h => hoff p h D (List.mem_cons_self ..)) fun h => hoff6 p h D (List.mem_cons_self ..)) hI6 (by omega) (by omega) (by omega) ?_
          intro h8 F8 N8 hI8
          obtain ⟨q1, q2, q3, q4⟩ := istep_turn (by omega) hac hns6 hd6 hr6 hmn6 rfl
          (try k_fold)
          end_is "my go"
          · rename _ < mn6 => hlt
            rw [if_pos hlt] at q4
            refine endT ⟨_, _, _, _, _, _, _, _, _⟩ (by assumption) (by assumption) (by exact fun p hp => (List.mem_append_left own6 hp : p ∈ (_ :: own) ++ own6)) (by exact fun p hp => List.mem_cons_of_mem _ (List.mem_append_right _ hp)) (by exact hoff6) (by exact ⟨rfl, rfl, rfl, rfl, rfl, rfl, rfl, rfl, trivial⟩) ⟨hI8, q1, q2, q3, q4⟩
          · rename ¬ (_ < mn6) => hlt
            rw [if_neg hlt] at q4
            refine endT ⟨_, _, _, _, _, _, _, _, _⟩ (by assumption) (by assumption) (by exact fun p hp => (List.mem_append_left own6 hp : p ∈ (_ :: own) ++ own6)) (by exact fun p hp => List.mem_cons_of_mem _ (List.mem_append_right _ hp)) (by exact hoff6) (by exact ⟨rfl, rfl, rfl, rfl, rfl, rfl, rfl, rfl, trivial⟩) ⟨hI8, q1, q2, q3, q4⟩
        · intro cZ1 u6 h6 tk6 cZ2 F6 N6
          (try k_fold)
          obtain ⟨vs6, ns6, d6, r6, mn6, td6, tr6, tm6, tb6⟩ := cZ1
          obtain ⟨hI6, hns6, hd6, hr6, hmn6⟩ := cZ2
          (try dsimp only at hI6 hns6 hd6 hr6 hmn6 F6 N6)
          (try k_fold)
          end_is "my go"
          · rename _ > mx => hgt
            exact hret _ _ _ (Fr.keep (by assumption)) ⟨_, _, rfl, hR2 _ (by rw [levD, if_pos ⟨i, hi, by rw [rmin_eq hrow hbc, ← hmn6]; exact hgt⟩])⟩
          · rename ¬ (_ > mx) => hgt
            refine endT (vs6, ns6, r6, tr6) (by assumption) (by assumption) (by exact fun p hp => by rw [List.mem_singleton.mp hp]; exact List.mem_cons_self ..) (by exact fun p hp => List.mem_cons_of_mem _ hp) (by exact hoff) (by exact ⟨rfl, rfl, rfl, rfl, rfl, trivial⟩) ⟨hI6, ?_, ?_⟩
            · (try dsimp only)
              rw [rows_succ hrow hbc, ← hr6, hns6, List.drop_eq_nil_of_le (by omega), List.append_nil]
            · intro k hk
              rcases Nat.lt_or_ge k i with h | h
              · exact hmin k h
              · obtain rfl : k = i := by omega
                rw [rmin_eq hrow hbc, ← hmn6]; exact hgt
      · intro cZ1 u6 h6 tk6 cZ2 F6 N6
        (try k_fold)
        obtain ⟨vs5, ns5, r5, tr5⟩ := cZ1
        obtain ⟨hI5, hrow, hmin⟩ := cZ2
        (try dsimp only at hI5 hrow hmin F6 N6)
        (try k_fold)
        end_is "my go"
        exact hret _ _ _ (Fr.keep (by assumption)) ⟨_, _, rfl, hR2 _ (by rw [levD, if_neg (fun ⟨i, h1, h2⟩ => hmin i h1 h2), ← hrow])⟩
  · rename ¬ (b2.length ≠ 0) => hb0
    have hb0 : b2 = [] := List.length_eq_zero_iff.mp (by omega)
    exact hret _ _ _ (Fr.keep (by assumption)) ⟨_, _, rfl, hR _ (by rw [levC, if_pos (.inr hb0)])⟩
  · rename ¬ (a2.length ≠ 0) => ha0
    have ha0 : a2 = [] := List.length_eq_zero_iff.mp (by omega)
    exact hret _ _ _ (Fr.keep (by assumption)) ⟨_, _, rfl, hR _ (by rw [levC, if_pos (.inl ha0)])⟩
end
section
local macro_rules | `(tactic| end_is "my stop") => `(tactic| (with_reducible show wpAny _ _ (exec (Stmt.FunctionDef _ _ _ _ _ _ _ _ _ _) _) _ _ _))
def pol (B : Int) : List Int → Int
  | [] => 0
  | d :: r => d + B * pol B r
def TabC (h : Heap) (line col : Nat) (qual : Str) (ps : Array Value) : Prop :=
  ps = #[] ∨ ∃ (c' : Addr) (oc : Obj) (vs : Array Value) (t : Tok), ps = #[rawInt line, rawInt col, .ref c'] ∧ h.get? c' = some oc ∧ oc.data = .fields vs ∧ vs[1]? = some (.str qual t)
theorem pol_append (B : Int) (a b : List Int) : pol B (a ++ b) = pol B a + B ^ a.length * pol B b := by
  induction a with
  | nil => simp [pol]
  | cons d r ih => simp only [List.cons_append, pol, ih, List.length_cons, Int.pow_succ]; rw [Int.mul_add, Int.add_assoc, ← Int.mul_assoc, Int.mul_comm B (B ^ r.length)]
theorem pol_bound (n : Nat) (hn : n ≤ 5000) (l : List Int) (h : ∀ d ∈ l, d.natAbs < 2 ^ 5000) : (pol (2 ^ n) l).natAbs < 2 ^ (5001 * l.length) := by
  induction l with
  | nil => simp [pol]
  | cons d r ih =>
    have h1 := h d (List.mem_cons_self ..)
    have h2 := ih fun x hx => h x (List.mem_cons_of_mem _ hx)
    simp only [pol, List.length_cons]
    have e1 : (d + 2 ^ n * pol (2 ^ n) r).natAbs ≤ d.natAbs + 2 ^ n * (pol (2 ^ n) r).natAbs := by
      refine Nat.le_trans (Int.natAbs_add_le _ _) ?_
      rw [Int.natAbs_mul, Int.natAbs_pow]
      exact Nat.le_refl _
    have e2 : 2 ^ n ≤ 2 ^ 5000 := Nat.pow_le_pow_right (by decide) hn
    have e3 : 2 ^ n * (pol (2 ^ n) r).natAbs + 2 ^ n ≤ 2 ^ 5000 * 2 ^ (5001 * r.length) := by
      refine Nat.le_trans (m := 2 ^ n * 2 ^ (5001 * r.length)) ?_ (Nat.mul_le_mul_right _ e2)
      rw [← Nat.mul_succ]
      exact Nat.mul_le_mul_left _ h2
    have e4 : 2 ^ 5000 ≤ 2 ^ 5000 * 2 ^ (5001 * r.length) := Nat.le_mul_of_pos_right _ (Nat.pow_pos (by decide))
    have e5 : 2 ^ (5001 * (r.length + 1)) = 2 * (2 ^ 5000 * 2 ^ (5001 * r.length)) := by
      rw [← Nat.pow_add, ← Nat.pow_succ']
      congr 1; omega
    have e6 : 0 < 2 ^ n := Nat.pow_pos (by decide)
    omega
theorem bits_le {a : Int} {m : Nat} (h : a.natAbs < 2 ^ m) : Builtin.Int.intBits a ≤ m := by
  unfold Builtin.Int.intBits
  split
  · exact Nat.zero_le _
  · rename_i hne
    have hne : a.natAbs ≠ 0 := by
      intro e
      have : a = 0 := Int.natAbs_eq_zero.mp e
      rw [this] at hne; exact hne rfl
    exact (Nat.log2_lt hne).mpr h
def slc (ds : List Int) (lo hi : Nat) : List Int := (ds.drop lo).take (hi - lo)
theorem slc_len {ds : List Int} {lo hi : Nat} (h : lo ≤ hi) (h2 : hi ≤ ds.length) : (slc ds lo hi).length = hi - lo := by
  unfold slc; rw [List.length_take, List.length_drop]; omega
theorem slc_app {ds : List Int} {lo mid hi : Nat} (h : lo ≤ mid) (h2 : mid ≤ hi) : slc ds lo hi = slc ds lo mid ++ slc ds mid hi := by
  unfold slc
  rw [show hi - lo = (mid - lo) + (hi - mid) by omega, List.take_add, List.drop_drop, show lo + (mid - lo) = mid by omega]
theorem slc_one {ds : List Int} {lo : Nat} (h : lo < ds.length) : slc ds lo (lo + 1) = [ds.getD lo 0] := by
  unfold slc
  rw [show lo + 1 - lo = 1 by omega, List.drop_eq_getElem_cons h, List.take_succ_cons, List.take_zero]
  simp [List.getD_eq_getElem?_getD, h]
theorem slc_all (ds : List Int) : slc ds 0 ds.length = ds := by unfold slc; simp
theorem slc_mem {ds : List Int} {lo hi : Nat} {x : Int} (h : x ∈ slc ds lo hi) : x ∈ ds := List.mem_of_mem_drop (List.mem_of_mem_take h)
theorem mid_eq (lo hi : Nat) : ((lo : Int) + (hi : Int)).fdiv (2 ^ (1 : Int).toNat) = (((lo + hi) / 2 : Nat) : Int) := by
  show ((lo : Int) + (hi : Int)).fdiv 2 = _
  rw [Int.fdiv_eq_ediv_of_nonneg _ (by decide)]; omega
local macro_rules | `(tactic| walk_at "binaryOp LShift int int") => `(tactic| (refine lshift_int ?hsh1 ?hsh2 ?_))
local macro_rules | `(tactic| walk_at "binaryOp RShift int int") => `(tactic| (refine rshift_int (by decide) ?_))
theorem shift_fits {n : Int} {ds : List Int} {lo mid hi : Nat} (hn1 : n ≤ 5000) (hn0 : 0 ≤ n) (hdb : ∀ d ∈ ds, d.natAbs < 2 ^ 5000) (h1 : lo ≤ mid) (h2 : mid ≤ hi) (h3 : hi ≤ ds.length) (hl : ds.length ≤ 200) :
    (Builtin.Int.intBits (pol (2 ^ n.toNat) (slc ds mid hi)) : Int) + ((mid : Int) - (lo : Int)) * n ≤ 2 ^ 27 := by
  have e1 := bits_le (pol_bound n.toNat (by omega) (slc ds mid hi) fun d hd => hdb d (slc_mem hd))
  rw [slc_len h2 h3] at e1
  have e2 : 5001 * (hi - mid) ≤ 5001 * 200 := Nat.mul_le_mul_left _ (by omega)
  have e3 : ((mid : Int) - (lo : Int)) * n ≤ 200 * 5000 := Int.mul_le_mul (by omega) hn1 hn0 (by omega)
  generalize ((mid : Int) - (lo : Int)) * n = x at *
  generalize Builtin.Int.intBits _ = y at *
  omega
theorem pol_join {n : Int} {ds : List Int} {lo mid hi : Nat} (hn0 : 0 < n) (h1 : lo ≤ mid) (h2 : mid ≤ hi) (h3 : hi ≤ ds.length) :
    pol (2 ^ n.toNat) (slc ds mid hi) * 2 ^ (((mid : Int) - (lo : Int)) * n).toNat + pol (2 ^ n.toNat) (slc ds lo mid) = pol (2 ^ n.toNat) (slc ds lo hi) := by
  rw [slc_app h1 h2, pol_append, slc_len h1 (by omega), Int.add_comm]
  congr 1
  rw [Int.mul_comm]
  congr 1
  obtain ⟨k, rfl⟩ : ∃ k : Nat, n = k := ⟨n.toNat, by omega⟩
  rw [← Int.pow_mul]
  congr 1
  rw [show (mid : Int) - (lo : Int) = ((mid - lo : Nat) : Int) by omega, ← Int.natCast_mul, Int.toNat_natCast, Int.toNat_natCast, Nat.mul_comm]
def TabD (P : Addr) (line col : Nat) (qual : Str) (ps : Array Value) (h h' : Heap) : Prop :=
  ∃ (c' : Addr) (oc : Obj) (vs : Array Value) (t : Tok), h'.get? P = some (tabObj #[rawInt line, rawInt col, .ref c']) ∧ h'.get? c' = some oc ∧ oc.data = .fields vs ∧ vs[1]? = some (.str qual t) ∧ ((ps = #[] ∧ h.objs.size ≤ c') ∨ ps = #[rawInt line, rawInt col, .ref c'])
theorem mid_lt1 {lo hi n0 : Nat} (h1 : lo + n0 = hi) (h2 : (lo : Int) + 1 ≠ hi) (h0 : 0 < n0) : hi - (lo + hi) / 2 < n0 := by omega
theorem mid_lt2 {lo hi n0 : Nat} (h1 : lo + n0 = hi) (h2 : (lo : Int) + 1 ≠ hi) (h0 : 0 < n0) : (lo + hi) / 2 - lo < n0 := by omega
theorem room1 {n0 k : Nat} (h : k < n0) (h2 : n0 ≤ 200) : 700 - n0 + 1 ≤ 700 - k := by omega
theorem room2 {n0 k : Nat} (h : k < n0) (h2 : n0 ≤ 200) : 1200 - 3 * n0 + 3 ≤ 1200 - 3 * k := by omega
theorem d2i_spec (w : World) (D : Addr) (vs : List Value) (ds : List Int) (n : Int) (tn : Tok) (ps : Array Value) (hl : ds.length ≤ 200) (hn0 : 0 < n) (hn1 : n ≤ 5000) (hdb : ∀ d ∈ ds, d.natAbs < 2 ^ 5000) :
    SpecG P1 w (Mine2.hd.heap_1 w.params) 480 480 56 [.ref D, .int n tn] [(51, tabObj ps)] (fun h => h.IsList D vs.toArray ∧ IntsAre vs ds ∧ CodeHd h 55 51 ∧ TabC h 80 4 "_digits2int.<locals>.inner" ps) (fun v h h' => (∃ t, v = .int (pol (2 ^ n.toNat) ds) t) ∧ TabD 51 80 4 "_digits2int.<locals>.inner" ps h h') := by
  intro p loose mean mg mb dp un gd cn cs ad ccd cl outer A₀ base h₀ L m s Q E B F X TT hk N hH hd hu hret
  obtain ⟨hpS, gnS, drS, tkS, osS⟩ := s
  (try dsimp only at F)
  (try dsimp only at N)
  (try dsimp only at hH)
  (try dsimp only at hret)
  refine wpAny_more (A := ktrTop 480 480 gd cn cs L ad ccd cl outer) ?_ hd hu
  refine wpAny_call ?_
  k_dflt end_is "my cells"
  intro g' L' h' tk' cells' eg F' N' Y' B' X' T' st' l1 eL
  (try k_lt l1)
  k_cells Y'
  (try simp only [List.cons_append, List.nil_append] at N')
  (try dsimp only)
  (try k_fold)
  end_is "my A"
  obtain ⟨hDl, hI, hC, hT⟩ := hH
  have hcd : CodeHd g' 55 51 := by rw [eg]; exact codeHd_hide hC (by simp)
  have hP := (N _ (List.mem_cons_self ..)).1
  (try dsimp only at hP)
  clear B F X TT N
  have hc58 : ∀ {c0 : Addr} {oc0 : Obj} {vs0 : Array Value} {q : Str} {t0 : Tok} {z : Value}, hpS.get? c0 = some oc0 → oc0.data = .fields vs0 → vs0[1]? = some (.str q t0) → ps = #[rawInt (80 : Nat), rawInt (4 : Nat), z] → c0 ≠ 51 := by
    intro c0 oc0 vs0 q t0 z hc0 hc1 hc2 e q
    subst e q; rw [hP] at hc0; cases hc0; cases hc1; simp [rawInt] at hc2
  end_is "my go"
  refine with_inner (fun prm bdy scp => ∀ (f1 c : Addr) (h2 : Heap) (doc pm ctv : Value) (o5 o6 o7 : Obj), h2.get? f1 = some (fnMade "inner" "_digits2int.<locals>.inner" prm bdy scp [("n", L' + 1 + 1), ("inner", L' + 1 + 1 + 1), ("digits", L' + 1)] doc pm c ctv) →
      h2.get? (L' + 1) = some o5 → o5.data = .cell (some (.ref D)) → h2.get? (L' + 1 + 1) = some o6 → o6.data = .cell (some (.int n tn)) → h2.get? (L' + 1 + 1 + 1) = some o7 → o7.data = .cell (some (.ref f1)) →
      h2.CodeRec (.ref c) "_digits2int.<locals>.inner" → (∀ hx : Heap, h2.StaysIn hx → hx.IsList D vs.toArray) → ∀ n0 : Nat, ∀ (lo hi : Nat) (t1 t2 : Tok), lo + n0 = hi → 0 < n0 → hi ≤ ds.length → SpecG P1 w (Mine2.hd.heap_1 w.params) (700 - n0) (1200 - 3 * n0) f1 [.int lo t1, .int hi t2] [] (fun h => h2.StaysIn h) (fun v _ _ => ∃ t, v = .int (pol (2 ^ n.toNat) (slc ds lo hi)) t)) ?_ ?_
  · intro f1 c h2 doc pm ctv o5 o6 o7 hfo ho5 hd5 ho6 hd6 ho7 hd7 hcr hDs2
    intro n0
    induction n0 using Nat.strongRecOn with
    | _ n0 ih =>
    intro lo hi t1 t2 hlo hn hhi
    intro p loose mean mg mb dp un gd cn cs ad ccd cl outer A₀ base h₀ L m s Q E B F X TT hk N hH hd hu hret
    obtain ⟨hpS, gnS, drS, tkS, osS⟩ := s
    (try dsimp only at F)
    (try dsimp only at N)
    (try dsimp only at hH)
    (try dsimp only at hret)
    refine wpAny_more (A := ktrTop (700 - n0) (1200 - 3 * n0) gd cn cs L ad ccd cl outer) ?_ hd hu
    refine wpAny_call ?_
    have hfo' := hH _ _ hfo
    have hcr' := hcr.keeps hH
    have hn2 : n0 ≤ 200 := by omega
    k_dflt end_is "my nest"
    intro g3 L3 h3 eg3 F3 N3 B3 X3 T3 st3
    (try dsimp only)
    (try k_fold)
    end_is "my A"
    have eg4 : g3 = hpS := eg3
    have hA1 : g3.IsCell (L' + 1) (some (.ref D)) := ⟨o5, by rw [eg4]; exact hH _ _ ho5, hd5⟩
    have hA2 : g3.IsCell (L' + 1 + 1) (some (.int n tn)) := ⟨o6, by rw [eg4]; exact hH _ _ ho6, hd6⟩
    have hA3 : g3.IsCell (L' + 1 + 1 + 1) (some (.ref f1)) := ⟨o7, by rw [eg4]; exact hH _ _ ho7, hd7⟩
    clear B F X TT N
    have hD3 : g3.IsList D vs.toArray := by rw [eg4]; exact hDs2 _ hH
    have hFA : FnAt f1 g3 := by rw [eg4]; exact ⟨_, _, _, _, hfo'⟩
    have hms : ∀ t1 t2 : Tok, (lo : Int) + 1 ≠ hi → SpecG P1 w (Mine2.hd.heap_1 w.params) (700 - (hi - (lo + hi) / 2)) (1200 - 3 * (hi - (lo + hi) / 2)) f1 [.int (((lo : Int) + (hi : Int)).fdiv (2 ^ (1 : Int).toNat)) t1, .int hi t2] [] (fun h => h2.StaysIn h) (fun v _ _ => ∃ t, v = .int (pol (2 ^ n.toNat) (slc ds ((lo + hi) / 2) hi)) t) := fun t1 t2 hne => by
      rw [mid_eq]; exact ih (hi - (lo + hi) / 2) (by omega) ((lo + hi) / 2) hi t1 t2 (by omega) (by omega) hhi
    have hms2 : ∀ t1 t2 : Tok, (lo : Int) + 1 ≠ hi → SpecG P1 w (Mine2.hd.heap_1 w.params) (700 - ((lo + hi) / 2 - lo)) (1200 - 3 * ((lo + hi) / 2 - lo)) f1 [.int lo t1, .int (((lo : Int) + (hi : Int)).fdiv (2 ^ (1 : Int).toNat)) t2] [] (fun h => h2.StaysIn h) (fun v _ _ => ∃ t, v = .int (pol (2 ^ n.toNat) (slc ds lo ((lo + hi) / 2))) t) := fun t1 t2 hne => by
      rw [mid_eq]; exact ih ((lo + hi) / 2 - lo) (by omega) lo ((lo + hi) / 2) t1 t2 (by omega) (by omega) (by omega)
    have hS3 : ∀ b o, h2.get? b = some o → g3.get? b = some o := by rw [eg4]; exact hH
    clear ih
    end_is "my nested"
    · rename (lo : Int) + 1 = _ => hb
      refine item_anyK (hD3.at fun o e => Fr.keep (by assumption) _ _ e) hI (by omega) (by omega) (by omega) ?_ (by with_unfolding_all rfl)
      intro tg
      end_is "my nested"
      refine hret _ _ _ (fun b o _ e => Fr.keep (by assumption) b o (by rw [eg4]; exact e)) ⟨tg, ?_⟩
      have e1 : hi = lo + 1 := by omega
      rw [e1, slc_one (by omega)]
      simp [pol]
    · rename (lo : Int) + 1 ≠ _ => hb
      refine ⟨fnAt_keep hFA (Fr.keep (by k_asm)), ?_⟩
      refine spec_callG (rest := []) (hms _ _ hb) B3 (by assumption) X3 (by assumption) T3 rfl (fun _ h => nomatch h) (fun _ h => nomatch h) (fun _ h => nomatch h) (fun b o e => Fr.keep (by assumption) b o (hS3 b o e)) (by show 700 - n0 + 1 ≤ _; exact room1 (mid_lt1 hlo hb hn) hn2) (by show 1200 - 3 * n0 + 3 ≤ _; exact room2 (mid_lt1 hlo hb hn) hn2) ?_
      intro v5 h5 tk5 F5 N5 k5 _ cZ1
      (try k_fold)
      obtain ⟨tv, rfl⟩ := cZ1
      (try k_fold)
      end_is "my nested"
      case hsh1 => rw [mid_eq]; exact Int.mul_nonneg (by omega) (by omega)
      case hsh2 => rw [mid_eq]; exact shift_fits hn1 (by omega) hdb (by omega) (by omega) (by omega) hl
      refine ⟨fnAt_keep hFA (Fr.keep (by k_asm)), ?_⟩
      refine spec_callG (rest := []) (hms2 _ _ hb) B3 (by assumption) X3 (by assumption) T3 rfl (fun _ h => nomatch h) (fun _ h => nomatch h) (fun _ h => nomatch h) (fun b o e => Fr.keep (by assumption) b o (hS3 b o e)) (by show 700 - n0 + 1 ≤ _; exact room1 (mid_lt2 hlo hb hn) hn2) (by show 1200 - 3 * n0 + 3 ≤ _; exact room2 (mid_lt2 hlo hb hn) hn2) ?_
      intro v6 h6 tk6 F6 N6 k6 _ cZ1
      (try k_fold)
      obtain ⟨tv6, rfl⟩ := cZ1
      (try k_fold)
      end_is "my nested"
      refine hret _ _ _ (fun b o _ e => Fr.keep (by assumption) b o (by rw [eg4]; exact e)) ⟨_, congrArg (fun x => Value.int x _) ?_⟩
      rw [mid_eq]
      exact pol_join hn0 (by omega) (by omega) hhi
  intro keyG
  rcases hT with rfl | ⟨c0, oc0, vs0, t0, rfl, hc0, hc1, hc2⟩
  · first | walk1 | (dsimp only; walk1)
    end_is "my go"
    rename_i f1 c1 oc1 vs1 t1 ct1 dc1 h1 tk1 d1 d2 l1 l2 _ h2 o1 F2 N2 d3
    have hDs : ∀ hx : Heap, g'.StaysIn hx → hx.IsList D vs.toArray := fun hx k => by
      refine hDl.at fun o e => k _ _ ?_
      rw [eg]
      refine hideAll_get _ e ?_
      intro hm
      obtain ⟨oD, hoD, hcD, _⟩ := hDl
      have e58 : D = 51 := by simpa using hm
      subst e58
      rw [hP] at hoD
      cases hoD; cases hcD
    have hvl : vs.length = ds.length := by simpa using hI.length
    obtain ⟨o5, ho5, hd5⟩ : ∃ o, h2.get? (L' + 1) = some o ∧ o.data = .cell (some (.ref D)) := ⟨_, (N2 (L' + 1, _) (by k_mem)).1, by k_dflt k_asm⟩
    obtain ⟨o6, ho6, hd6⟩ : ∃ o, h2.get? (L' + 1 + 1) = some o ∧ o.data = .cell (some (.int n tn)) := ⟨_, (N2 (L' + 1 + 1, _) (by k_mem)).1, by k_dflt k_asm⟩
    obtain ⟨o7, ho7, hd7⟩ : ∃ o, h2.get? (L' + 1 + 1 + 1) = some o ∧ o.data = .cell (some (.ref f1)) := ⟨_, (N2 (L' + 1 + 1 + 1, _) (by k_mem)).1, by k_dflt k_asm⟩
    have hfo := (N2 _ (List.mem_cons_self ..)).1
    have hcr : h2.CodeRec (.ref c1) "_digits2int.<locals>.inner" := codeRec_news N2 (by k_mem) d1 d2
    have key := keyG f1 c1 h2 _ _ _ o5 o6 o7 hfo ho5 hd5 ho6 hd6 ho7 hd7 hcr (fun hx k => hDs hx fun b o e => k _ _ (F2.keep _ _ e))
    refine wpAny_truthy_list (hDs _ fun o e => Fr.keep F2 o e) (by simp only [List.size_toArray]; omega) ?_
    end_is "my go"
    · rename Array.isEmpty _ = true => hne
      have hlen : ds = [] := by
        have : vs = [] := by cases vs with | nil => rfl | cons a b => cases hne
        exact List.length_eq_zero_iff.mp (by rw [← hvl, this]; rfl)
      end_is "my go"
      rename News _ _ _ _ => NX
      refine hret _ _ _ (hide_keep eg (Fr.keep (by assumption))) ⟨⟨_, by rw [hlen]; rfl⟩, ⟨c1, oc1, vs1, t1, (NX (51, _) (by k_mem)).1, (NX (c1, _) (by k_mem)).1, d1, d2, .inl ⟨rfl, eL ▸ Nat.le_of_lt (by omega : @LT.lt Nat _ L' c1)⟩⟩⟩
    · rename Array.isEmpty _ = false => hne
      have hlen : ds.length ≠ 0 := by
        intro e
        have : vs = [] := List.length_eq_zero_iff.mp (by omega)
        rw [this] at hne; cases hne
      refine len_l (hDs _ fun o e => Fr.keep (by assumption) o e) (by omega) ?_
      end_is "my go"
      refine ⟨fnAt_keep (FnAt.of N2 (List.mem_cons_self ..)) (fun b o e => by first | exact e | fail), ?_⟩
      rw [hvl]
      refine spec_callG (rest := _) (key ds.length 0 ds.length _ _ (by omega) (by omega) (by omega)) B' (by assumption) X' (by assumption) T' rfl (fun _ h => nomatch h) (fun _ h => h) (fun _ _ h => nomatch h) (fun b o e => e) (by show 481 ≤ _; omega) (by show 483 ≤ _; omega) ?_
      intro v6 h6 tk6 F6 N6 k6 _ cZ1
      (try k_fold)
      obtain ⟨tv6, rfl⟩ := cZ1
      (try k_fold)
      end_is "my go"
      rename News _ _ _ _ => NX
      refine hret _ _ _ (hide_keep eg (Fr.keep (by assumption))) ⟨⟨_, by rw [slc_all]⟩, ⟨c1, oc1, vs1, t1, (NX (51, _) (by k_mem)).1, (NX (c1, _) (by k_mem)).1, d1, d2, .inl ⟨rfl, eL ▸ Nat.le_of_lt (by omega : @LT.lt Nat _ L' c1)⟩⟩⟩
  · have hc58 := hc58 hc0 hc1 hc2 rfl
    first | walk1 | (dsimp only; walk1)
    end_is "my go"
    rename_i f1 ct1 dc1 h1 tk1 l1 _ h2 o1 F2 N2 d3
    have hDs : ∀ hx : Heap, g'.StaysIn hx → hx.IsList D vs.toArray := fun hx k => by
      refine hDl.at fun o e => k _ _ ?_
      rw [eg]
      refine hideAll_get _ e ?_
      intro hm
      obtain ⟨oD, hoD, hcD, _⟩ := hDl
      have e58 : D = 51 := by simpa using hm
      subst e58
      rw [hP] at hoD
      cases hoD; cases hcD
    have hvl : vs.length = ds.length := by simpa using hI.length
    obtain ⟨o5, ho5, hd5⟩ : ∃ o, h2.get? (L' + 1) = some o ∧ o.data = .cell (some (.ref D)) := ⟨_, (N2 (L' + 1, _) (by k_mem)).1, by k_dflt k_asm⟩
    obtain ⟨o6, ho6, hd6⟩ : ∃ o, h2.get? (L' + 1 + 1) = some o ∧ o.data = .cell (some (.int n tn)) := ⟨_, (N2 (L' + 1 + 1, _) (by k_mem)).1, by k_dflt k_asm⟩
    obtain ⟨o7, ho7, hd7⟩ : ∃ o, h2.get? (L' + 1 + 1 + 1) = some o ∧ o.data = .cell (some (.ref f1)) := ⟨_, (N2 (L' + 1 + 1 + 1, _) (by k_mem)).1, by k_dflt k_asm⟩
    have hfo := (N2 _ (List.mem_cons_self ..)).1
    have hcr : h2.CodeRec (.ref c0) "_digits2int.<locals>.inner" := ⟨c0, oc0, vs0, t0, rfl, F2.keep _ _ (by rw [eg]; exact hideAll_get _ hc0 (by simpa using hc58)), hc1, hc2⟩
    have key := keyG f1 c0 h2 _ _ _ o5 o6 o7 hfo ho5 hd5 ho6 hd6 ho7 hd7 hcr (fun hx k => hDs hx fun b o e => k _ _ (F2.keep _ _ e))
    refine wpAny_truthy_list (hDs _ fun o e => Fr.keep F2 o e) (by simp only [List.size_toArray]; omega) ?_
    have hgc : g'.get? c0 = some oc0 := by rw [eg]; exact hideAll_get _ hc0 (by simpa using hc58)
    end_is "my go"
    · rename Array.isEmpty _ = true => hne
      have hlen : ds = [] := by
        have : vs = [] := by cases vs with | nil => rfl | cons a b => cases hne
        exact List.length_eq_zero_iff.mp (by rw [← hvl, this]; rfl)
      end_is "my go"
      rename News _ _ _ _ => NX
      refine hret _ _ _ (hide_keep eg (Fr.keep (by assumption))) ⟨⟨_, by rw [hlen]; rfl⟩, ⟨c0, oc0, vs0, t0, (NX (51, _) (by k_mem)).1, Fr.keep (by assumption) _ _ hgc, hc1, hc2, .inr rfl⟩⟩
    · rename Array.isEmpty _ = false => hne
      have hlen : ds.length ≠ 0 := by
        intro e
        have : vs = [] := List.length_eq_zero_iff.mp (by omega)
        rw [this] at hne; cases hne
      refine len_l (hDs _ fun o e => Fr.keep (by assumption) o e) (by omega) ?_
      end_is "my go"
      refine ⟨fnAt_keep (FnAt.of N2 (List.mem_cons_self ..)) (fun b o e => by first | exact e | fail), ?_⟩
      rw [hvl]
      refine spec_callG (rest := _) (key ds.length 0 ds.length _ _ (by omega) (by omega) (by omega)) B' (by assumption) X' (by assumption) T' rfl (fun _ h => nomatch h) (fun _ h => h) (fun _ _ h => nomatch h) (fun b o e => e) (by show 481 ≤ _; omega) (by show 483 ≤ _; omega) ?_
      intro v6 h6 tk6 F6 N6 k6 _ cZ1
      (try k_fold)
      obtain ⟨tv6, rfl⟩ := cZ1
      (try k_fold)
      end_is "my go"
      rename News _ _ _ _ => NX
      refine hret _ _ _ (hide_keep eg (Fr.keep (by assumption))) ⟨⟨_, by rw [slc_all]⟩, ⟨c0, oc0, vs0, t0, (NX (51, _) (by k_mem)).1, Fr.keep (by assumption) _ _ hgc, hc1, hc2, .inr rfl⟩⟩
end
section
local macro_rules | `(tactic| end_is "my stop") => `(tactic| (with_reducible show wpAny _ _ (exec (Stmt.FunctionDef _ _ _ _ _ _ _ _ _ _) _) _ _ _))
local macro_rules | `(tactic| end_is "my stop") => `(tactic| (with_reducible show wpAny _ _ (binaryOp _ (Value.ref _) _) _ _ _))
theorem ints_repl (n : Nat) (t : Tok) : IntsAre (List.replicate n (.int 0 t)) (List.replicate n 0) := by
  induction n with
  | zero => exact .nil
  | succ n ih => exact .cons _ _ ih
theorem a_lt {n : Int} {a : Nat} (hn0 : 0 < n) : a < 2 ^ (n.toNat * ((Builtin.Int.intBits a + n.toNat - 1) / n.toNat)) := by
  have h0 : 0 < n.toNat := by omega
  have hb : a < 2 ^ Builtin.Int.intBits a := by
    unfold Builtin.Int.intBits
    split
    · rename_i h
      have : (a : Int) = 0 := by simpa using h
      have : a = 0 := by omega
      rw [this]; exact Nat.pow_pos (by decide)
    · rw [Int.natAbs_natCast]; exact Nat.lt_log2_self
  refine Nat.lt_of_lt_of_le hb (Nat.pow_le_pow_right (by decide) ?_)
  have := Nat.div_add_mod (Builtin.Int.intBits a + n.toNat - 1) n.toNat
  have := Nat.mod_lt (Builtin.Int.intBits a + n.toNat - 1) h0
  omega
theorem hide_none {h g : Heap} {D P : Addr} (eg : g = hideAll h [P]) (hD : g.get? D = none) (hn : D ≠ P) : h.get? D = none := by
  cases e : h.get? D with
  | none => rfl
  | some o => rw [eg, hideAll_get [P] e (by simpa using hn)] at hD; cases hD
theorem cnt_eq {n : Int} (hn0 : 0 < n) (k : Nat) : ((k : Int) + n - 1).fdiv n = (((k + n.toNat - 1) / n.toNat : Nat) : Int) := by
  obtain ⟨m, rfl⟩ : ∃ m : Nat, n = m := ⟨n.toNat, by omega⟩
  rw [Int.fdiv_eq_ediv_of_nonneg _ (by omega), Int.toNat_natCast]
  have : (k : Int) + (m : Int) - 1 = ((k + m - 1 : Nat) : Int) := by omega
  rw [this]; rfl
theorem rep_flatG {α : Type} (n : Nat) (x : α) : (List.replicate n [x]).flatten = List.replicate n x := by simp
theorem cnt_le {n : Int} {a : Nat} (hn0 : 0 < n) (ha : a < 2 ^ (n.toNat * 200)) : (Builtin.Int.intBits a + n.toNat - 1) / n.toNat ≤ 200 := by
  have h1 := bits_le (a := (a : Int)) (m := n.toNat * 200) (by simpa using ha)
  have h0 : 0 < n.toNat := by omega
  rw [Nat.div_le_iff_le_mul_add_pred h0]
  omega
theorem and_high (x s : Nat) : x &&& (x / 2 ^ s * 2 ^ s) = x / 2 ^ s * 2 ^ s := by
  apply Nat.eq_of_testBit_eq
  intro i
  rw [Nat.testBit_and, Nat.testBit_mul_two_pow, Nat.testBit_div_two_pow]
  by_cases h : s ≤ i
  · simp [h, show s + (i - s) = i by omega]
  · simp [h]
theorem xor_low (x s : Nat) : Builtin.bitXor (x : Int) (((x / 2 ^ s : Nat) : Int) * 2 ^ s) = ((x % 2 ^ s : Nat) : Int) := by
  rw [bitXor_and]
  have e0 : (((x / 2 ^ s : Nat) : Int) * 2 ^ s) = ((x / 2 ^ s * 2 ^ s : Nat) : Int) := by push_cast; rfl
  have e1 : Builtin.bitAnd (x : Int) ((x / 2 ^ s * 2 ^ s : Nat) : Int) = ((x &&& (x / 2 ^ s * 2 ^ s) : Nat) : Int) := by
    unfold Builtin.bitAnd
    have d1 : decide ((0 : Int) ≤ (x : Int)) = true := decide_eq_true (by omega)
    have d2 : decide ((0 : Int) ≤ ((x / 2 ^ s * 2 ^ s : Nat) : Int)) = true := decide_eq_true (Int.natCast_nonneg _)
    simp only [d1, d2, Int.toNat_natCast]
  rw [e0, e1, and_high]
  have := Nat.div_add_mod x (2 ^ s)
  rw [Nat.mul_comm] at this
  generalize x / 2 ^ s * 2 ^ s = u at *
  omega
theorem sh_eq {n : Int} (hn0 : 0 < n) {lo mid : Nat} (h : lo ≤ mid) : (((mid : Int) - (lo : Int)) * n).toNat = n.toNat * (mid - lo) := by
  obtain ⟨k, rfl⟩ : ∃ k : Nat, n = k := ⟨n.toNat, by omega⟩
  rw [show (mid : Int) - (lo : Int) = ((mid - lo : Nat) : Int) by omega, ← Int.natCast_mul, Int.toNat_natCast, Int.toNat_natCast, Nat.mul_comm]
theorem up_eq (x s : Nat) : (x : Int).fdiv (2 ^ s) = ((x / 2 ^ s : Nat) : Int) := by
  have : (2 : Int) ^ s = ((2 ^ s : Nat) : Int) := by push_cast; rfl
  rw [this, Int.fdiv_eq_ediv_of_nonneg _ (Int.natCast_nonneg _)]; rfl
theorem up_fits {n : Int} {lo mid x n0 s : Nat} (hn1 : n ≤ 5000) (hn0 : 0 ≤ n) (hx : x < 2 ^ (n.toNat * n0)) (h0 : n0 ≤ 200) (h1 : lo ≤ mid) (h2 : mid - lo ≤ 200) :
    (Builtin.Int.intBits ((x / 2 ^ s : Nat) : Int) : Int) + ((mid : Int) - (lo : Int)) * n ≤ 2 ^ 27 := by
  have e1 := bits_le (a := ((x / 2 ^ s : Nat) : Int)) (m := n.toNat * n0) (by rw [Int.natAbs_natCast]; exact Nat.lt_of_le_of_lt (Nat.div_le_self _ _) hx)
  have e2 : n.toNat * n0 ≤ 5000 * 200 := Nat.mul_le_mul (by omega) h0
  have e3 : ((mid : Int) - (lo : Int)) * n ≤ 200 * 5000 := Int.mul_le_mul (by omega) hn1 hn0 (by omega)
  generalize ((mid : Int) - (lo : Int)) * n = z at *
  generalize Builtin.Int.intBits _ = y at *
  omega
def Res (n : Int) (ds : List Int) (lo hi x : Nat) (ds' : List Int) : Prop :=
  ∃ E : List Int, ds' = ds.take lo ++ E ++ ds.drop hi ∧ E.length = hi - lo ∧ (∀ d ∈ E, 0 ≤ d ∧ d < 2 ^ n.toNat) ∧ pol (2 ^ n.toNat) E = x
theorem res_one {n : Int} {ds : List Int} {lo x : Nat} (h : lo < ds.length) (hx : x < 2 ^ n.toNat) : Res n ds lo (lo + 1) x (ds.set lo (x : Int)) := by
  refine ⟨[(x : Int)], ?_, by simp, ?_, by simp [pol]⟩
  · rw [List.set_eq_take_append_cons_drop, if_pos h]; simp
  · intro d hd
    rw [List.mem_singleton.mp hd]
    refine ⟨by omega, ?_⟩
    have : (2 : Int) ^ n.toNat = ((2 ^ n.toNat : Nat) : Int) := by push_cast; rfl
    rw [this]; omega
theorem res_two {n : Int} {ds ds1 ds2 : List Int} {lo mid hi x : Nat} (h1 : lo ≤ mid) (h2 : mid ≤ hi) (h3 : hi ≤ ds.length)
    (r1 : Res n ds lo mid (x % 2 ^ (n.toNat * (mid - lo))) ds1) (r2 : Res n ds1 mid hi (x / 2 ^ (n.toNat * (mid - lo))) ds2) : Res n ds lo hi x ds2 := by
  obtain ⟨E1, e1, l1, b1, p1⟩ := r1
  obtain ⟨E2, e2, l2, b2, p2⟩ := r2
  have hA : (ds.take lo ++ E1).length = mid := by rw [List.length_append, List.length_take, l1]; omega
  refine ⟨E1 ++ E2, ?_, by rw [List.length_append]; omega, fun d hd => (List.mem_append.mp hd).elim (b1 d) (b2 d), ?_⟩
  · have t1 : ds1.take mid = ds.take lo ++ E1 := by rw [e1, ← hA, List.take_left]
    have t2 : ds1.drop hi = ds.drop hi := by
      rw [e1, List.drop_append, List.drop_eq_nil_of_le (by omega), hA, List.drop_drop, show mid + (hi - mid) = hi by omega, List.nil_append]
    rw [e2, t1, t2]; simp [List.append_assoc]
  · rw [pol_append, p1, p2, l1, ← Int.pow_mul]
    have := Nat.div_add_mod x (2 ^ (n.toNat * (mid - lo)))
    have e : (x : Int) = ((2 ^ (n.toNat * (mid - lo)) * (x / 2 ^ (n.toNat * (mid - lo))) + x % 2 ^ (n.toNat * (mid - lo)) : Nat) : Int) := by rw [this]
    rw [e]; push_cast; omega
theorem res_all {n : Int} {ds ds' : List Int} {q x : Nat} (hl : ds.length = q) (r : Res n ds 0 q x ds') : (∀ d ∈ ds', 0 ≤ d ∧ d < 2 ^ n.toNat) ∧ ds'.length = q ∧ pol (2 ^ n.toNat) ds' = x := by
  obtain ⟨E, e, l, b, p⟩ := r
  rw [List.take_zero, List.drop_eq_nil_of_le (by omega), List.nil_append, List.append_nil] at e
  subst e
  exact ⟨b, by omega, p⟩
theorem i2d_spec (w : World) (a : Nat) (n : Int) (ta tn : Tok) (ps : Array Value) (hn0 : 0 < n) (hn1 : n ≤ 5000) (ha : a < 2 ^ (n.toNat * 200)) :
    SpecG P1 w (Mine2.hd.heap_1 w.params) 480 480 49 [.int (a : Int) ta, .int n tn] [(44, tabObj ps)] (fun h => CodeHd h 48 44 ∧ TabC h 65 4 "_int2digits.<locals>.inner" ps)
      (fun v h h' => (∃ D vs k ds, v = .ref D ∧ h'.get? D = some (listOf (vs : List Value).toArray k) ∧ h.get? D = none ∧ IntsAre vs ds ∧ (∀ d ∈ ds, 0 ≤ d ∧ d < 2 ^ n.toNat) ∧ ds.length = (Builtin.Int.intBits a + n.toNat - 1) / n.toNat ∧ pol (2 ^ n.toNat) ds = a) ∧ TabD 44 65 4 "_int2digits.<locals>.inner" ps h h') := by
  intro p loose mean mg mb dp un gd cn cs ad ccd cl outer A₀ base h₀ L m s Q E B F X TT hk N hH hd hu hret
  obtain ⟨hpS, gnS, drS, tkS, osS⟩ := s
  (try dsimp only at F)
  (try dsimp only at N)
  (try dsimp only at hH)
  (try dsimp only at hret)
  refine wpAny_more (A := ktrTop 480 480 gd cn cs L ad ccd cl outer) ?_ hd hu
  refine wpAny_call ?_
  k_dflt end_is "my cells"
  intro g' L' h' tk' cells' eg F' N' Y' B' X' T' st' l1 eL
  (try k_lt l1)
  k_cells Y'
  (try simp only [List.cons_append, List.nil_append] at N')
  (try dsimp only)
  (try k_fold)
  end_is "my A"
  obtain ⟨hC, hT⟩ := hH
  have hcd : CodeHd g' 48 44 := by rw [eg]; exact codeHd_hide hC (by simp)
  have hP := (N _ (List.mem_cons_self ..)).1
  (try dsimp only at hP)
  clear B F X TT N
  have hq := cnt_le hn0 ha
  obtain ⟨q, eq⟩ : ∃ q, q = (Builtin.Int.intBits a + n.toNat - 1) / n.toNat := ⟨_, rfl⟩
  rw [← eq] at hq
  end_is "my go"
  rw [cnt_eq hn0, ← eq]
  refine KMa.mul (by k_asm) (by k_asm) (News.isList (by k_asm) (by k_mem)) (by omega) (by omega) (by simp; omega) (rep_flatG _ _) ?_
  intro D hD FD ND lD
  (try k_lt lD)
  have hc51 : ∀ {c0 : Addr} {oc0 : Obj} {vs0 : Array Value} {q : Str} {t0 : Tok} {z : Value}, hpS.get? c0 = some oc0 → oc0.data = .fields vs0 → vs0[1]? = some (.str q t0) → ps = #[rawInt (65 : Nat), rawInt (4 : Nat), z] → c0 ≠ 44 := by
    intro c0 oc0 vs0 q t0 z hc0 hc1 hc2 e q
    subst e q; rw [hP] at hc0; cases hc0; cases hc1; simp [rawInt] at hc2
  end_is "my go"
  refine with_inner (fun prm bdy scp => ∀ (f1 c : Addr) (h2 : Heap) (doc pm ctv : Value) (o5 o6 o7 : Obj), h2.get? f1 = some (fnMade "inner" "_int2digits.<locals>.inner" prm bdy scp [("n", L' + 1), ("inner", L' + 1 + 1 + 1), ("a_digits", L' + 1 + 1)] doc pm c ctv) →
      h2.get? (L' + 1 + 1) = some o5 → o5.data = .cell (some (.ref D)) → h2.get? (L' + 1) = some o6 → o6.data = .cell (some (.int n tn)) → h2.get? (L' + 1 + 1 + 1) = some o7 → o7.data = .cell (some (.ref f1)) →
      f1 ≠ D → L' + 1 ≠ D → L' + 1 + 1 ≠ D → L' + 1 + 1 + 1 ≠ D → (∀ h : Heap, (∀ b o, b ≠ D → h2.get? b = some o → h.get? b = some o) → h.CodeRec (.ref c) "_int2digits.<locals>.inner") → ∀ n0 : Nat, ∀ (lo hi x : Nat) (vs : List Value) (ds : List Int) (tx t1 t2 : Tok), lo + n0 = hi → 0 < n0 → IntsAre vs ds → ds.length = q → hi ≤ q → x < 2 ^ (n.toNat * n0) →
          SpecG P1 w (Mine2.hd.heap_1 w.params) (700 - n0) (1200 - 3 * n0) f1 [.int x tx, .int lo t1, .int hi t2] [(D, listOf vs.toArray 0)] (fun h => ∀ b o, b ≠ D → h2.get? b = some o → h.get? b = some o)
            (fun v _ h' => v = .none ∧ ∃ vs' ds', h'.get? D = some (listOf (vs' : List Value).toArray 0) ∧ IntsAre vs' ds' ∧ Res n ds lo hi x ds')) ?_ ?_
  · intro f1 c h2 doc pm ctv o5 o6 o7 hfo ho5 hd5 ho6 hd6 ho7 hd7 hfD hDc1 hDc2 hDc3 hDcr
    intro n0
    induction n0 using Nat.strongRecOn with
    | _ n0 ih =>
    intro lo hi x vs ds tx t1 t2 hlo hn hI hdl hhi hx
    intro p loose mean mg mb dp un gd cn cs ad ccd cl outer A₀ base h₀ L m s Q E B F X TT hk N hH hd hu hret
    obtain ⟨hpS, gnS, drS, tkS, osS⟩ := s
    (try dsimp only at F)
    (try dsimp only at N)
    (try dsimp only at hH)
    (try dsimp only at hret)
    refine wpAny_more (A := ktrTop (700 - n0) (1200 - 3 * n0) gd cn cs L ad ccd cl outer) ?_ hd hu
    refine wpAny_call ?_
    have hfo' := hH _ _ hfD hfo
    have hcr' := hDcr _ hH
    have hn2 : n0 ≤ 200 := by omega
    k_dflt end_is "my nest"
    intro g3 L3 h3 eg3 F3 N3 B3 X3 T3 st3
    (try dsimp only)
    (try k_fold)
    end_is "my A"
    have hS3 : ∀ b o, b ≠ D → h2.get? b = some o → g3.get? b = some o := fun b o hb e => by rw [eg3]; exact hideAll_get _ (hH _ _ hb e) (by simpa using hb)
    have hA1 : g3.IsCell (L' + 1 + 1) (some (.ref D)) := ⟨o5, hS3 _ _ hDc2 ho5, hd5⟩
    have hA2 : g3.IsCell (L' + 1) (some (.int n tn)) := ⟨o6, hS3 _ _ hDc1 ho6, hd6⟩
    have hA3 : g3.IsCell (L' + 1 + 1 + 1) (some (.ref f1)) := ⟨o7, hS3 _ _ hDc3 ho7, hd7⟩
    have hFA : FnAt f1 g3 := ⟨_, _, _, _, hS3 _ _ hfD hfo⟩
    clear B F X TT N
    have hms1 : ∀ (tx t1 t2 : Tok), (lo : Int) + 1 ≠ hi → SpecG P1 w (Mine2.hd.heap_1 w.params) (700 - ((lo + hi) / 2 - lo)) (1200 - 3 * ((lo + hi) / 2 - lo)) f1
        [.int (Builtin.bitXor (x : Int) ((x : Int).fdiv (2 ^ ((((lo : Int) + (hi : Int)).fdiv (2 ^ (1 : Int).toNat) - lo) * n).toNat) * 2 ^ ((((lo : Int) + (hi : Int)).fdiv (2 ^ (1 : Int).toNat) - lo) * n).toNat)) tx, .int lo t1, .int (((lo : Int) + (hi : Int)).fdiv (2 ^ (1 : Int).toNat)) t2]
        [(D, listOf vs.toArray 0)] (fun h => ∀ b o, b ≠ D → h2.get? b = some o → h.get? b = some o)
        (fun v _ h' => v = .none ∧ ∃ vs' ds', h'.get? D = some (listOf (vs' : List Value).toArray 0) ∧ IntsAre vs' ds' ∧ Res n ds lo ((lo + hi) / 2) (x % 2 ^ (n.toNat * ((lo + hi) / 2 - lo))) ds') := fun tx t1 t2 hne => by
      rw [mid_eq, sh_eq hn0 (by omega), up_eq, xor_low]
      exact ih ((lo + hi) / 2 - lo) (by omega) lo ((lo + hi) / 2) _ vs ds tx t1 t2 (by omega) (by omega) hI hdl (by omega) (Nat.mod_lt _ (Nat.pow_pos (by decide)))
    have hms2 : ∀ (vs1 : List Value) (ds1 : List Int) (tx t1 t2 : Tok), (lo : Int) + 1 ≠ hi → IntsAre vs1 ds1 → ds1.length = q → SpecG P1 w (Mine2.hd.heap_1 w.params) (700 - (hi - (lo + hi) / 2)) (1200 - 3 * (hi - (lo + hi) / 2)) f1
        [.int ((x : Int).fdiv (2 ^ ((((lo : Int) + (hi : Int)).fdiv (2 ^ (1 : Int).toNat) - lo) * n).toNat)) tx, .int (((lo : Int) + (hi : Int)).fdiv (2 ^ (1 : Int).toNat)) t1, .int hi t2]
        [(D, listOf vs1.toArray 0)] (fun h => ∀ b o, b ≠ D → h2.get? b = some o → h.get? b = some o)
        (fun v _ h' => v = .none ∧ ∃ vs' ds', h'.get? D = some (listOf (vs' : List Value).toArray 0) ∧ IntsAre vs' ds' ∧ Res n ds1 ((lo + hi) / 2) hi (x / 2 ^ (n.toNat * ((lo + hi) / 2 - lo))) ds') := fun vs1 ds1 tx t1 t2 hne hI1 hl1 => by
      rw [mid_eq, sh_eq hn0 (by omega), up_eq]
      refine ih (hi - (lo + hi) / 2) (by omega) ((lo + hi) / 2) hi _ vs1 ds1 tx t1 t2 (by omega) (by omega) hI1 hl1 hhi ?_
      refine Nat.div_lt_of_lt_mul ?_
      rw [← Nat.pow_add, ← Nat.mul_add, show (lo + hi) / 2 - lo + (hi - (lo + hi) / 2) = n0 by omega]
      exact hx
    clear ih
    end_is "my nested"
    · rename (lo : Int) + 1 = _ => hb
      have e1 : hi = lo + 1 := by omega
      have e0 : n0 = 1 := by omega
      subst e1 e0
      refine set_l (rest := []) (by assumption) (by assumption) (fun _ h => nomatch h) hI (by omega) (by omega) (by omega) ?_
      intro h8 F8 N8 hI8
      end_is "my nested"
      refine hret _ _ _ (hide_keep eg3 (Fr.keep (by assumption))) ⟨rfl, _, _, (N8 _ (List.mem_cons_self ..)).1, hI8, ?_⟩
      rw [Int.toNat_natCast]
      exact res_one (by omega) (by simpa using hx)
    · rw [mid_eq]; exact Int.mul_nonneg (by omega) (by omega)
    · rw [mid_eq]; exact Int.mul_nonneg (by omega) (by omega)
    · rw [mid_eq, sh_eq hn0 (by omega), up_eq]; exact up_fits hn1 (by omega) hx hn2 (by omega) (by omega)
    · rename (lo : Int) + 1 ≠ _ => hb
      refine ⟨fnAt_keep hFA (Fr.keep (by k_asm)), ?_⟩
      refine spec_callG (rest := []) (hms1 _ _ _ hb) B3 (by assumption) X3 (by assumption) T3 rfl (fun _ h => h) (fun _ h => nomatch h) (fun _ h => nomatch h) (fun b o hb e => Fr.keep (by assumption) b o (hS3 b o hb e)) (by show 700 - n0 + 1 ≤ _; exact room1 (mid_lt2 hlo hb hn) hn2) (by show 1200 - 3 * n0 + 3 ≤ _; exact room2 (mid_lt2 hlo hb hn) hn2) ?_
      intro v5 h5 tk5 F5 N5 k5 o5 cZ1
      (try k_fold)
      obtain ⟨rfl, vs5, ds5, g5, hI5, hR5⟩ := cZ1
      have N5' := news_put N5 (o5 _ (List.mem_cons_self ..)).1 (o5 _ (List.mem_cons_self ..)).2 g5
      have hl5 : ds5.length = q := by
        obtain ⟨E9, e9, l9, _⟩ := hR5
        rw [e9, List.length_append, List.length_append, List.length_take, List.length_drop, l9]; omega
      (try k_fold)
      end_is "my nested"
      refine ⟨fnAt_keep hFA (Fr.keep (by k_asm)), ?_⟩
      refine spec_callG (rest := []) (hms2 _ _ _ _ _ hb hI5 hl5) B3 (by assumption) X3 (by assumption) T3 rfl (fun _ h => h) (fun _ h => nomatch h) (fun _ h => nomatch h) (fun b o hb e => Fr.keep (by assumption) b o (hS3 b o hb e)) (by show 700 - n0 + 1 ≤ _; exact room1 (mid_lt1 hlo hb hn) hn2) (by show 1200 - 3 * n0 + 3 ≤ _; exact room2 (mid_lt1 hlo hb hn) hn2) ?_
      intro v6 h6 tk6 F6 N6 k6 o6 cZ1
      (try k_fold)
      obtain ⟨rfl, vs6, ds6, g6, hI6, hR6⟩ := cZ1
      have N6' := news_put N6 (o6 _ (List.mem_cons_self ..)).1 (o6 _ (List.mem_cons_self ..)).2 g6
      (try k_fold)
      end_is "my nested"
      refine hret _ _ _ (hide_keep eg3 (Fr.keep (by assumption))) ⟨rfl, _, _, (N6' _ (List.mem_cons_self ..)).1, hI6, res_two (by omega) (by omega) (by omega) hR5 hR6⟩
  intro keyG
  rcases hT with rfl | ⟨c0, oc0, vs0, t0, rfl, hc0, hc1, hc2⟩
  · first | walk1 | (dsimp only; walk1)
    end_is "my go"
    · rename_i f1 c1 oc1 vs1 t1 ct1 dc1 h1 tk1 d1 d2 l1 l2 _ h2 o1 F2 N2 d3 hz
      obtain ⟨o6, ho6, hd6⟩ : ∃ o, h2.get? (L' + 1) = some o ∧ o.data = .cell (some (.int n tn)) := ⟨_, (N2 (L' + 1, _) (by k_mem)).1, by k_dflt k_asm⟩
      obtain ⟨o5, ho5, hd5⟩ : ∃ o, h2.get? (L' + 1 + 1) = some o ∧ o.data = .cell (some (.ref D)) := ⟨_, (N2 (L' + 1 + 1, _) (by k_mem)).1, by k_dflt k_asm⟩
      obtain ⟨o7, ho7, hd7⟩ : ∃ o, h2.get? (L' + 1 + 1 + 1) = some o ∧ o.data = .cell (some (.ref f1)) := ⟨_, (N2 (L' + 1 + 1 + 1, _) (by k_mem)).1, by k_dflt k_asm⟩
      have hfo := (N2 _ (List.mem_cons_self ..)).1
      have hcr : h2.CodeRec (.ref c1) "_int2digits.<locals>.inner" := codeRec_news N2 (by k_mem) d1 d2
      have hfD : f1 ≠ D := Nat.ne_of_gt (by omega : @LT.lt Nat _ D f1)
      have hDc1 : L' + 1 ≠ D := Nat.ne_of_lt (by omega : @LT.lt Nat _ (L' + 1) D)
      have hDc2 : L' + 1 + 1 ≠ D := Nat.ne_of_lt (by omega : @LT.lt Nat _ (L' + 1 + 1) D)
      have hDc3 : L' + 1 + 1 + 1 ≠ D := Nat.ne_of_lt (by omega : @LT.lt Nat _ (L' + 1 + 1 + 1) D)
      have hDcr : ∀ h : Heap, (∀ b o, b ≠ D → h2.get? b = some o → h.get? b = some o) → h.CodeRec (.ref c1) "_int2digits.<locals>.inner" := fun h hh => by
        obtain ⟨c9, o9, v9, t9, e9, g9, r9, r8⟩ := hcr
        refine ⟨c9, o9, v9, t9, e9, hh _ _ (fun q => ?_) g9, r9, r8⟩
        have gD := (N2 (D, _) (by k_mem)).1
        rw [← q, g9] at gD
        cases gD; cases r9
      have key := keyG f1 c1 h2 _ _ _ o5 o6 o7 hfo ho5 hd5 ho6 hd6 ho7 hd7 hfD hDc1 hDc2 hDc3 hDcr
      have hD51 : D ≠ 44 := Nat.ne_of_gt (by omega : @LT.lt Nat _ 44 D)
      have hDcc : c1 ≠ D := Nat.ne_of_gt (by omega : @LT.lt Nat _ D c1)
      have hfr : hpS.get? D = none := hide_none eg (N2 (D, _) (by k_mem)).2.2 hD51
      have N3 := news_put N2 (N2 (L' + 1 + 1, _) (by k_mem)).2.1 (N2 (L' + 1 + 1, _) (by k_mem)).2.2 ho5
      have hqp : 0 < q := by
        rcases Nat.eq_zero_or_pos q with e | e
        · have := a_lt (a := a) hn0
          rw [← eq, e] at this
          simp at this; omega
        · exact e
      refine len_l (News.isList N2 (by k_mem)) (by rw [List.length_replicate]; omega) ?_
      end_is "my go"
      refine ⟨FnAt.of N2 (List.mem_cons_self ..), ?_⟩
      rw [List.length_replicate]
      refine spec_callG (rest := [(L' + 1 + 1, o5), (44, tabObj #[rawInt (65 : Nat), rawInt (4 : Nat), .ref c1]), (c1, oc1)]) (key q 0 q a (List.replicate q (.int 0 _)) (List.replicate q 0) _ _ _ (by omega) hqp (ints_repl _ _) (by simp) (by omega) (by rw [eq]; exact a_lt hn0)) B' (by assumption) X' N3 T' rfl (List.forall_mem_cons.mpr ⟨by k_mem, fun _ h => nomatch h⟩) (List.forall_mem_cons.mpr ⟨by k_mem, List.forall_mem_cons.mpr ⟨by k_mem, List.forall_mem_cons.mpr ⟨by k_mem, fun _ h => nomatch h⟩⟩⟩) (List.forall_mem_cons.mpr ⟨fun hm => hDc2 (List.mem_singleton.mp hm), List.forall_mem_cons.mpr ⟨fun hm => hD51 (List.mem_singleton.mp hm).symm, List.forall_mem_cons.mpr ⟨fun hm => hDcc (List.mem_singleton.mp hm), fun _ h => nomatch h⟩⟩⟩) (fun b o _ e => e) (by show 481 ≤ _; omega) (by show 483 ≤ _; omega) ?_
      intro v6 h6 tk6 F6 N6 k6 o6 cZ1
      (try k_fold)
      obtain ⟨rfl, vs6, ds6, g6, hI6, hR6⟩ := cZ1
      have N7 := news_put N6 (o6 _ (List.mem_cons_self ..)).1 (o6 _ (List.mem_cons_self ..)).2 g6
      clear N6
      (try k_fold)
      end_is "my go"
      rename News _ _ _ _ => NX
      obtain ⟨r1, r2, r3⟩ := res_all (by simp) hR6
      refine hret _ _ _ (hide_keep eg (Fr.keep (by assumption))) ⟨⟨D, vs6, 0, ds6, rfl, (NX (D, _) (by k_mem)).1, hfr, hI6, r1, by rw [r2, eq], r3⟩, ⟨c1, oc1, vs1, t1, (NX (44, _) (by k_mem)).1, (NX (c1, _) (by k_mem)).1, d1, d2, .inl ⟨rfl, eL ▸ Nat.le_of_lt (by omega : @LT.lt Nat _ L' c1)⟩⟩⟩
    · rename_i f1 c1 oc1 vs1 t1 ct1 dc1 h1 tk1 d1 d2 l1 l2 _ h2 o1 F2 N2 d3 hz
      have hD51 : D ≠ 44 := Nat.ne_of_gt (by omega : @LT.lt Nat _ 44 D)
      have hfr : hpS.get? D = none := hide_none eg (N2 (D, _) (by k_mem)).2.2 hD51
      have ha0 : a = 0 := by omega
      subst ha0
      have hq0 : q = 0 := by
        rw [eq]
        show (0 + n.toNat - 1) / n.toNat = 0
        exact Nat.div_eq_of_lt (by omega)
      refine hret _ _ _ (hide_keep eg (Fr.keep (by assumption))) ⟨⟨D, _, 0, List.replicate q 0, rfl, (N2 (D, _) (by k_mem)).1, hfr, ints_repl _ _, ?_, by rw [List.length_replicate, eq], ?_⟩, ⟨c1, oc1, vs1, t1, (N2 (44, _) (by k_mem)).1, (N2 (c1, _) (by k_mem)).1, d1, d2, .inl ⟨rfl, eL ▸ Nat.le_of_lt (by omega : @LT.lt Nat _ L' c1)⟩⟩⟩
      · intro d hd; rw [hq0] at hd; cases hd
      · rw [hq0]; rfl
  · have hc51 := hc51 hc0 hc1 hc2 rfl
    first | walk1 | (dsimp only; walk1)
    end_is "my go"
    · rename_i f1 ct1 dc1 h1 tk1 l1 _ h2 o1 F2 N2 d3 hz
      obtain ⟨o6, ho6, hd6⟩ : ∃ o, h2.get? (L' + 1) = some o ∧ o.data = .cell (some (.int n tn)) := ⟨_, (N2 (L' + 1, _) (by k_mem)).1, by k_dflt k_asm⟩
      obtain ⟨o5, ho5, hd5⟩ : ∃ o, h2.get? (L' + 1 + 1) = some o ∧ o.data = .cell (some (.ref D)) := ⟨_, (N2 (L' + 1 + 1, _) (by k_mem)).1, by k_dflt k_asm⟩
      obtain ⟨o7, ho7, hd7⟩ : ∃ o, h2.get? (L' + 1 + 1 + 1) = some o ∧ o.data = .cell (some (.ref f1)) := ⟨_, (N2 (L' + 1 + 1 + 1, _) (by k_mem)).1, by k_dflt k_asm⟩
      have hfo := (N2 _ (List.mem_cons_self ..)).1
      have hcr : h2.CodeRec (.ref c0) "_int2digits.<locals>.inner" := ⟨c0, oc0, vs0, t0, rfl, F2.keep _ _ (by rw [eg]; exact hideAll_get _ hc0 (by simpa using hc51)), hc1, hc2⟩
      have hfD : f1 ≠ D := Nat.ne_of_gt (by omega : @LT.lt Nat _ D f1)
      have hDc1 : L' + 1 ≠ D := Nat.ne_of_lt (by omega : @LT.lt Nat _ (L' + 1) D)
      have hDc2 : L' + 1 + 1 ≠ D := Nat.ne_of_lt (by omega : @LT.lt Nat _ (L' + 1 + 1) D)
      have hDc3 : L' + 1 + 1 + 1 ≠ D := Nat.ne_of_lt (by omega : @LT.lt Nat _ (L' + 1 + 1 + 1) D)
      have hDcr : ∀ h : Heap, (∀ b o, b ≠ D → h2.get? b = some o → h.get? b = some o) → h.CodeRec (.ref c0) "_int2digits.<locals>.inner" := fun h hh => by
        obtain ⟨c9, o9, v9, t9, e9, g9, r9, r8⟩ := hcr
        refine ⟨c9, o9, v9, t9, e9, hh _ _ (fun q => ?_) g9, r9, r8⟩
        have gD := (N2 (D, _) (by k_mem)).1
        rw [← q, g9] at gD
        cases gD; cases r9
      have key := keyG f1 c0 h2 _ _ _ o5 o6 o7 hfo ho5 hd5 ho6 hd6 ho7 hd7 hfD hDc1 hDc2 hDc3 hDcr
      have hD51 : D ≠ 44 := Nat.ne_of_gt (by omega : @LT.lt Nat _ 44 D)
      have hfr : hpS.get? D = none := hide_none eg (N2 (D, _) (by k_mem)).2.2 hD51
      have N3 := news_put N2 (N2 (L' + 1 + 1, _) (by k_mem)).2.1 (N2 (L' + 1 + 1, _) (by k_mem)).2.2 ho5
      have hqp : 0 < q := by
        rcases Nat.eq_zero_or_pos q with e | e
        · have := a_lt (a := a) hn0
          rw [← eq, e] at this
          simp at this; omega
        · exact e
      refine len_l (News.isList N2 (by k_mem)) (by rw [List.length_replicate]; omega) ?_
      end_is "my go"
      refine ⟨FnAt.of N2 (List.mem_cons_self ..), ?_⟩
      rw [List.length_replicate]
      refine spec_callG (rest := [(L' + 1 + 1, o5), (44, tabObj #[rawInt (65 : Nat), rawInt (4 : Nat), .ref c0])]) (key q 0 q a (List.replicate q (.int 0 _)) (List.replicate q 0) _ _ _ (by omega) hqp (ints_repl _ _) (by simp) (by omega) (by rw [eq]; exact a_lt hn0)) B' (by assumption) X' N3 T' rfl (List.forall_mem_cons.mpr ⟨by k_mem, fun _ h => nomatch h⟩) (List.forall_mem_cons.mpr ⟨by k_mem, List.forall_mem_cons.mpr ⟨by k_mem, fun _ h => nomatch h⟩⟩) (List.forall_mem_cons.mpr ⟨fun hm => hDc2 (List.mem_singleton.mp hm), List.forall_mem_cons.mpr ⟨fun hm => hD51 (List.mem_singleton.mp hm).symm, fun _ h => nomatch h⟩⟩) (fun b o _ e => e) (by show 481 ≤ _; omega) (by show 483 ≤ _; omega) ?_
      intro v6 h6 tk6 F6 N6 k6 o6 cZ1
      (try k_fold)
      obtain ⟨rfl, vs6, ds6, g6, hI6, hR6⟩ := cZ1
      have N7 := news_put N6 (o6 _ (List.mem_cons_self ..)).1 (o6 _ (List.mem_cons_self ..)).2 g6
      clear N6
      (try k_fold)
      end_is "my go"
      rename News _ _ _ _ => NX
      obtain ⟨r1, r2, r3⟩ := res_all (by simp) hR6
      refine hret _ _ _ (hide_keep eg (Fr.keep (by assumption))) ⟨⟨D, vs6, 0, ds6, rfl, (NX (D, _) (by k_mem)).1, hfr, hI6, r1, by rw [r2, eq], r3⟩, ⟨c0, oc0, vs0, t0, (NX (44, _) (by k_mem)).1, Fr.keep (by assumption) _ _ (by rw [eg]; exact hideAll_get _ hc0 (by simpa using hc51)), hc1, hc2, .inr rfl⟩⟩
    · rename_i f1 ct1 dc1 h1 tk1 l1 _ h2 o1 F2 N2 d3 hz
      have hD51 : D ≠ 44 := Nat.ne_of_gt (by omega : @LT.lt Nat _ 44 D)
      have hfr : hpS.get? D = none := hide_none eg (N2 (D, _) (by k_mem)).2.2 hD51
      have ha0 : a = 0 := by omega
      subst ha0
      have hq0 : q = 0 := by
        rw [eq]
        show (0 + n.toNat - 1) / n.toNat = 0
        exact Nat.div_eq_of_lt (by omega)
      refine hret _ _ _ (hide_keep eg (Fr.keep (by assumption))) ⟨⟨D, _, 0, List.replicate q 0, rfl, (N2 (D, _) (by k_mem)).1, hfr, ints_repl _ _, ?_, by rw [List.length_replicate, eq], ?_⟩, ⟨c0, oc0, vs0, t0, (N2 (44, _) (by k_mem)).1, Fr.keep (by assumption) _ _ (by rw [eg]; exact hideAll_get _ hc0 (by simpa using hc51)), hc1, hc2, .inr rfl⟩⟩
      · intro d hd; rw [hq0] at hd; cases hd
      · rw [hq0]; rfl
end
section
abbrev tup2 (x y : Int) (t1 t2 : Tok) : Obj := { cls := .type "tuple", data := .seq #[.int x t1, .int y t2] }
theorem nat_fdiv (a b : Nat) : (a : Int).fdiv (b : Int) = ((a / b : Nat) : Int) := by
  rw [Int.fdiv_eq_ediv_of_nonneg _ (Int.natCast_nonneg _)]; rfl
theorem nat_fmod (a b : Nat) : (a : Int).fmod (b : Int) = ((a % b : Nat) : Int) := by
  rw [Int.fmod_eq_emod_of_nonneg _ (Int.natCast_nonneg _)]; rfl
theorem log_small {b : Nat} (hb : 0 < b) (h : b < 2 ^ 5000) : (b : Int).natAbs.log2 < 9000 := by
  rw [Int.natAbs_natCast]
  have := (Nat.log2_lt (by omega)).mpr h
  omega
theorem div_spec (w : World) (a b : Nat) (n : Int) (ta tb tn : Tok) (hb : 0 < b) (hbb : b < 2 ^ 5000) (hs : (Builtin.Int.intBits a : Int) - n ≤ 4000) :
    Spec P1 w (Mine2.hd.heap_1 w.params) 470 470 35 [.int (a : Int) ta, .int (b : Int) tb, .int n tn] (fun _ => True) (fun v h h' => ∃ T t1 t2, v = .ref T ∧ h'.get? T = some (tup2 ((a / b : Nat) : Int) ((a % b : Nat) : Int) t1 t2) ∧ h.get? T = none) := by
  intro p loose mean mg mb dp un gd cn cs ad ccd cl outer A₀ base h₀ L m s Q E B F X TT hk hH hd hu hret
  obtain ⟨hpS, gnS, drS, tkS, osS⟩ := s
  (try dsimp only at F)
  (try dsimp only at hH)
  (try dsimp only at hret)
  refine wpAny_more (A := ktrTop 470 470 gd cn cs L ad ccd cl outer) ?_ hd hu
  refine wpAny_call ?_
  k_dflt end_is "my call"
  intro g' L' h' eg F' N' B' X' T'
  (try dsimp only at eg)
  subst eg
  (try dsimp only)
  (try k_fold)
  end_is "my A"
  clear B F X TT
  have hb0 : (b : Int) ≠ 0 := by omega
  end_is "my go"
  refine divmod_N (by assumption) (by assumption) hb0 ?_ (.inl (PyProof.noPylong_of_log2 (log_small hb hbb)))
  intro h2 F2 N2
  rw [nat_fdiv, nat_fmod] at N2
  end_is "my go"
  exact hret _ _ _ (Fr.keep (by assumption)) ⟨_, _, _, rfl, (N2 _ (List.mem_cons_self ..)).1, (N2 _ (List.mem_cons_self ..)).2.2⟩
theorem news_new {h₀ h h' : Heap} {L a : Addr} {m : Str → Option Value} {o : Obj} {news : List (Addr × Obj)} (F : Fr h₀ L h m) (N : News h₀ L h' news) (hn : h.get? a = none) (ho : h'.get? a = some o) : News h₀ L h' ((a, o) :: news) := by
  refine news_put N (fun e => ?_) ?_ ho
  · obtain ⟨oL, _, _, hL, _⟩ := F.ns
    rw [e, hL] at hn; cases hn
  · cases q : h₀.get? a with
    | none => rfl
    | some o' => rw [F.keep _ _ q] at hn; cases hn
theorem bits_pos {b : Nat} (hb : 0 < b) : 0 < Builtin.Int.intBits b := by
  unfold Builtin.Int.intBits
  rw [if_neg (by simp; omega)]
  exact Nat.succ_pos _
theorem lt_bits (b : Nat) : b < 2 ^ Builtin.Int.intBits b := by
  unfold Builtin.Int.intBits
  split
  · rename_i h
    have : (b : Int) = 0 := by simpa using h
    have : b = 0 := by omega
    rw [this]; exact Nat.pow_pos (by decide)
  · rw [Int.natAbs_natCast]; exact Nat.lt_log2_self
theorem hide_none2 {h g : Heap} {D P P2 : Addr} {o1 o2 : Obj} (eg : g = hideAll h (List.map (·.1) [(P, o1), (P2, o2)])) (hD : g.get? D = none) (hn : D ≠ P) (hn2 : D ≠ P2) : h.get? D = none := by
  cases e : h.get? D with
  | none => rfl
  | some o => rw [eg, hideAll_get _ e (by simp; exact ⟨hn, hn2⟩)] at hD; cases hD
theorem div_final {a b r : Nat} {P : Int} (hb : 0 < b) (h : (a : Int) = b * P + r) (hr : r < b) : P = ((a / b : Nat) : Int) ∧ r = a % b := by
  have h1 : (a : Int) / b = P := by
    rw [h, Int.add_comm, Int.add_mul_ediv_left _ _ (by omega), Int.ediv_eq_zero_of_lt (by omega) (by omega)]; omega
  have h2 : (a : Int) % b = r := by
    rw [h, Int.add_comm, Int.add_mul_emod_self_left, Int.emod_eq_of_lt (by omega) (by omega)]
  exact ⟨h1.symm, by omega⟩
theorem tabC_keeps {h h' : Heap} {l c : Nat} {q : Str} {ps : Array Value} (x : TabC h l c q ps) (k : ∀ b o, h.get? b = some o → h'.get? b = some o) : TabC h' l c q ps := by
  rcases x with e | ⟨c', oc, vs, t, e, g, r⟩
  · exact .inl e
  · exact .inr ⟨c', oc, vs, t, e, k _ _ g, r⟩
structure DSt where
  qv : List Value
  qs : List Int
  k : Nat
  r : Nat
  tr : Tok
  tn : Tok
theorem div_turn {ds qs : List Int} {nb b r dn i : Nat} (hb : 0 < b) (hbl : b < 2 ^ nb) (hi : i < ds.length) (hd : ds[ds.length - 1 - i]? = some (dn : Int)) (hdn : dn < 2 ^ nb)
    (hp : pol (2 ^ nb) (ds.drop (ds.length - i)) = b * pol (2 ^ nb) qs.reverse + r) (hr : r < b) :
    pol (2 ^ nb) (ds.drop (ds.length - (i + 1))) = b * pol (2 ^ nb) (qs ++ [(((r * 2 ^ nb + dn) / b : Nat) : Int)]).reverse + (((r * 2 ^ nb + dn) % b : Nat) : Int) ∧ (r * 2 ^ nb + dn) % b < b ∧ (r * 2 ^ nb + dn) / b < 2 ^ nb ∧ r * 2 ^ nb + dn < 2 ^ (nb + nb) := by
  have hx : r * 2 ^ nb + dn < b * 2 ^ nb := by
    have : (r + 1) * 2 ^ nb ≤ b * 2 ^ nb := Nat.mul_le_mul_right _ hr
    rw [Nat.succ_mul] at this
    omega
  refine ⟨?_, Nat.mod_lt _ hb, Nat.div_lt_of_lt_mul hx, ?_⟩
  · have hlt : ds.length - 1 - i < ds.length := by omega
    have e1 : ds.drop (ds.length - (i + 1)) = (dn : Int) :: ds.drop (ds.length - i) := by
      rw [show ds.length - (i + 1) = ds.length - 1 - i by omega, List.drop_eq_getElem_cons hlt, show ds.length - 1 - i + 1 = ds.length - i by omega]
      congr 1
      rw [List.getElem?_eq_getElem hlt] at hd
      exact Option.some.inj hd
    rw [e1, List.reverse_append]
    simp only [List.reverse_cons, List.reverse_nil, List.nil_append, List.cons_append, pol]
    rw [hp]
    have := Nat.div_add_mod (r * 2 ^ nb + dn) b
    have h2 : ((b * ((r * 2 ^ nb + dn) / b) + (r * 2 ^ nb + dn) % b : Nat) : Int) = ((r * 2 ^ nb + dn : Nat) : Int) := by rw [this]
    generalize (r * 2 ^ nb + dn) / b = q at *
    generalize (r * 2 ^ nb + dn) % b = r' at *
    push_cast at h2
    rw [Int.mul_add, Int.mul_add, Int.mul_left_comm (2 ^ nb) (b : Int), Int.mul_comm (2 ^ nb) (r : Int)]
    omega
  · refine Nat.lt_trans hx ?_
    rw [Nat.pow_add]
    exact Nat.mul_lt_mul_of_pos_right hbl (Nat.pow_pos (by decide))
theorem dmp_spec (w : World) (a b : Nat) (ta tb : Tok) (ps2 : Array Value) (hb : 0 < b) (hbb : b < 2 ^ 4000) (ha : a < 2 ^ (Builtin.Int.intBits b * 200)) :
    SpecG P1 w (Mine2.hd.heap_1 w.params) 460 460 63 [.int (a : Int) ta, .int (b : Int) tb] [(44, tabObj #[]), (51, tabObj ps2)] (fun h => CodeHd h 48 44 ∧ CodeHd h 55 51 ∧ TabC h 80 4 "_digits2int.<locals>.inner" ps2)
      (fun v h h' => (∃ T t1 t2, v = .ref T ∧ h'.get? T = some (tup2 ((a / b : Nat) : Int) ((a % b : Nat) : Int) t1 t2) ∧ h.get? T = none) ∧ TabD 44 65 4 "_int2digits.<locals>.inner" #[] h h' ∧ TabD 51 80 4 "_digits2int.<locals>.inner" ps2 h h') := by
  intro p loose mean mg mb dp un gd cn cs ad ccd cl outer A₀ base h₀ L m s Q E B F X TT hk N hH hd hu hret
  obtain ⟨hpS, gnS, drS, tkS, osS⟩ := s
  (try dsimp only at F)
  (try dsimp only at N)
  (try dsimp only at hH)
  (try dsimp only at hret)
  refine wpAny_more (A := ktrTop 460 460 gd cn cs L ad ccd cl outer) ?_ hd hu
  refine wpAny_call ?_
  k_dflt end_is "my hide"
  intro g' L' h' eg F' N' B' X' T' st'
  (try dsimp only)
  (try k_fold)
  end_is "my A"
  obtain ⟨hC1, hC2, hT⟩ := hH
  have hP1 := (N _ (List.mem_cons_self ..)).1
  have hP2 := (N _ (List.mem_cons_of_mem _ (List.mem_cons_self ..))).1
  (try dsimp only at hP1 hP2)
  have hG1 : CodeHd g' 48 44 := by rw [eg]; exact codeHd_hide hC1 (by simp)
  have hG2 : CodeHd g' 55 51 := by rw [eg]; exact codeHd_hide hC2 (by simp)
  have hGT : TabC g' 80 4 "_digits2int.<locals>.inner" ps2 := by
    rcases hT with rfl | ⟨c0, oc0, vs0, t0, rfl, hc0, hc1, hc2⟩
    · exact .inl rfl
    · refine .inr ⟨c0, oc0, vs0, t0, rfl, ?_, hc1, hc2⟩
      rw [eg]
      refine hideAll_get _ hc0 ?_
      intro hm
      rcases List.mem_cons.mp hm with e | hm
      · subst e; rw [hP1] at hc0; cases hc0; cases hc1; simp at hc2
      · have e : c0 = 51 := List.mem_singleton.mp hm
        subst e; rw [hP2] at hc0; cases hc0; cases hc1; simp [rawInt] at hc2
  have hsz : g'.objs.size = hpS.objs.size := by rw [eg]; exact hideAll_size _ _
  have hnb := bits_pos hb
  have hnb2 : Builtin.Int.intBits (b : Int) ≤ 4000 := bits_le (by simpa using hbb)
  have hbl := lt_bits b
  obtain ⟨nb, enb⟩ : ∃ k : Nat, k = Builtin.Int.intBits (b : Int) := ⟨_, rfl⟩
  clear B F X TT N
  end_is "my go"
  refine ⟨X'.keeps (Fr.keep (by assumption)), ?_⟩
  rw [← enb] at hnb hnb2 hbl ha ⊢
  rename Fr g' L' _ _ => F1
  rw [← enb] at F1
  have hsL : hpS.objs.size ≤ L' := hsz ▸ F1.above
  refine spec_callG (rest := [(51, tabObj ps2)]) (i2d_spec w a nb _ _ #[] (by omega) (by omega) (by simpa using ha)) B' (by assumption) X' (by assumption) T' rfl (List.forall_mem_cons.mpr ⟨by k_mem, fun _ h => nomatch h⟩) (List.forall_mem_cons.mpr ⟨by k_mem, fun _ h => nomatch h⟩) (List.forall_mem_cons.mpr ⟨by simp, fun _ h => nomatch h⟩) ⟨hG1.keeps F1.keep, .inl rfl⟩ (Nat.le_of_ble_eq_true rfl) (Nat.le_of_ble_eq_true rfl) ?_
  intro v2 h2 tk2 F2 N2 k2 o2 cZ1
  (try k_fold)
  obtain ⟨⟨D, vs, k, ds, rfl, gD, hDn, hI, hds, hlen, hpol⟩, c1, oc1, vs1, t1, gT, gc1, hoc1, hvc1, hps⟩ := cZ1
  have hc1 : L' < c1 := by
    rcases hps with ⟨_, h⟩ | h
    · exact Nat.lt_of_lt_of_le F1.ns.lt h
    · cases h
  have N3 := news_put N2 (Nat.ne_of_gt hc1) (Heap.get?_none_of_le (by rw [hsz]; exact Nat.le_of_lt (Nat.lt_of_le_of_lt hsL hc1))) gc1
  have N4 := news_put N3 (o2 _ (List.mem_cons_self ..)).1 (o2 _ (List.mem_cons_self ..)).2 gT
  have N5 := news_new F1 N4 hDn gD
  clear N2 N3 N4
  (try k_fold)
  end_is "my go"
  rename_i lQ hQ l1Q hQ2 FQ NQ
  refine For_invVF (by assumption) rfl rfl ?_
  end_is "my go"
  rename_i I hI1 FI NI lI
  refine loop_rev (l := D) (vs := vs) (nn := k) (σ := DSt) (fun c => [(lQ, listOf c.qv.toArray c.k), (D, listOf vs.toArray k), (44, tabObj #[rawInt (65 : Nat), rawInt (4 : Nat), .ref c1]), (c1, oc1), (51, tabObj ps2)])
    (fun c => [("b", .int (b : Int) tb), ("n", .int (nb : Int) c.tn), ("a_digits", .ref D), ("q_digits", .ref lQ), ("r", .int (c.r : Int) c.tr)])
    (fun i c => IntsAre c.qv c.qs ∧ c.qs.length = i ∧ pol (2 ^ nb) (ds.drop (ds.length - i)) = b * pol (2 ^ nb) c.qs.reverse + c.r ∧ c.r < b ∧ (∀ q ∈ c.qs, 0 ≤ q ∧ q < 2 ^ nb)) ⟨[], [], 0, 0, _, _⟩ rfl rfl (I := I) (F := FI) (N := NI) (by exact List.mem_cons_self ..) (fun _ => List.mem_cons_of_mem _ (List.mem_cons_self ..)) ?_ ?_ ⟨rfl, rfl, rfl, rfl, rfl, trivial⟩ ⟨.nil, rfl, ?_, hb, fun _ h => nomatch h⟩ ?_ ?_
  · exact List.forall_mem_cons.mpr ⟨Nat.ne_of_lt (by omega : @LT.lt Nat _ lQ I), List.forall_mem_cons.mpr ⟨Nat.ne_of_lt (by omega : @LT.lt Nat _ D I), List.forall_mem_cons.mpr ⟨Nat.ne_of_lt (by omega : @LT.lt Nat _ 44 I), List.forall_mem_cons.mpr ⟨Nat.ne_of_lt (by omega : @LT.lt Nat _ c1 I), List.forall_mem_cons.mpr ⟨Nat.ne_of_lt (by omega : @LT.lt Nat _ 51 I), fun _ h => nomatch h⟩⟩⟩⟩⟩
  · exact List.forall_mem_cons.mpr ⟨by k_mem, List.forall_mem_cons.mpr ⟨by k_mem, List.forall_mem_cons.mpr ⟨by k_mem, List.forall_mem_cons.mpr ⟨by k_mem, List.forall_mem_cons.mpr ⟨by k_mem, fun _ h => nomatch h⟩⟩⟩⟩⟩
  · simp [pol]
  · have hvl : vs.length = ds.length := by simpa using hI.length
    intro i v cZ1 u6 h6 tk6 own hi hv cZ2 hoff F6 N6
    (try k_fold)
    obtain ⟨qv, qs, kq, r, tr, tn⟩ := cZ1
    obtain ⟨hQI, hQl, hQp, hQr, hQb⟩ := cZ2
    (try dsimp only at hQI hQl hQp hQr hQb F6 N6)
    obtain ⟨d, td, hd, rfl⟩ := ints_get hI hv
    obtain ⟨hd0, hd1⟩ := hds d (List.mem_of_getElem? hd)
    obtain ⟨dn, rfl⟩ : ∃ k : Nat, d = k := ⟨d.toNat, by omega⟩
    have hdn : dn < 2 ^ nb := by
      have e : (2 : Int) ^ (nb : Int).toNat = ((2 ^ nb : Nat) : Int) := by rw [Int.toNat_natCast]; push_cast; rfl
      rw [e] at hd1; omega
    rw [hvl] at hd hi
    obtain ⟨z1, z2, z3, z4⟩ := div_turn hb hbl hi hd hdn hQp hQr
    have hSp : ∀ t1 t2 t3, Spec P1 w (Mine2.hd.heap_1 w.params) 470 470 35 [.int ((r : Int) * 2 ^ (nb : Int).toNat + (dn : Int)) t1, .int (b : Int) t2, .int (nb : Int) t3] (fun _ => True) (fun v h h' => ∃ T t1 t2, v = .ref T ∧ h'.get? T = some (tup2 (((r * 2 ^ nb + dn) / b : Nat) : Int) (((r * 2 ^ nb + dn) % b : Nat) : Int) t1 t2) ∧ h.get? T = none) := fun t1 t2 t3 => by
      have e : (r : Int) * 2 ^ (nb : Int).toNat + (dn : Int) = ((r * 2 ^ nb + dn : Nat) : Int) := by rw [Int.toNat_natCast]; push_cast; rfl
      have hbt := bits_le (a := ((r * 2 ^ nb + dn : Nat) : Int)) (m := nb + nb) (by rw [Int.natAbs_natCast]; exact z4)
      rw [e]
      exact div_spec w _ b nb t1 t2 t3 hb (Nat.lt_of_lt_of_le hbb (Nat.pow_le_pow_right (by decide) (by decide))) (by omega)
    (try k_fold)
    end_is "my go"
    · omega
    · have hbt := bits_le (a := (r : Int)) (m := nb) (by rw [Int.natAbs_natCast]; omega)
      omega
    refine ⟨X'.keeps (Fr.keep (by assumption)), ?_⟩
    end_is "my go"
    rename Fr g' L' h6 _ => FC
    refine spec_call (hSp _ _ _) B' FC X' N6 T' rfl trivial (Nat.le_of_ble_eq_true rfl) (Nat.le_of_ble_eq_true rfl) ?_
    intro v7 h7 tk7 F7 N7 k7 cZ1
    (try k_fold)
    obtain ⟨T, u1, u2, rfl, gT, hTn⟩ := cZ1
    have N8 := news_new FC N7 hTn gT
    clear N7
    (try k_fold)
    end_is "my go"
    rename News g' L' _ _ => NA
    have NB : News g' L' _ ((lQ, listOf qv.toArray kq) :: ([(D, listOf vs.toArray k), (44, tabObj #[rawInt (65 : Nat), rawInt (4 : Nat), .ref c1]), (c1, oc1), (51, tabObj ps2)] ++ own)) := fun p hp => NA p (List.mem_cons_of_mem _ hp)
    have hne0 : ∀ p ∈ ([(D, listOf vs.toArray k), (44, tabObj #[rawInt (65 : Nat), rawInt (4 : Nat), .ref c1]), (c1, oc1), (51, tabObj ps2)] : List (Addr × Obj)), p.1 ≠ lQ :=
      List.forall_mem_cons.mpr ⟨Nat.ne_of_lt (by omega : @LT.lt Nat _ D lQ), List.forall_mem_cons.mpr ⟨Nat.ne_of_lt (by omega : @LT.lt Nat _ 44 lQ), List.forall_mem_cons.mpr ⟨Nat.ne_of_lt (by omega : @LT.lt Nat _ c1 lQ), List.forall_mem_cons.mpr ⟨Nat.ne_of_lt (by omega : @LT.lt Nat _ 51 lQ), fun _ h => nomatch h⟩⟩⟩⟩
    have hne : ∀ p ∈ ([(D, listOf vs.toArray k), (44, tabObj #[rawInt (65 : Nat), rawInt (4 : Nat), .ref c1]), (c1, oc1), (51, tabObj ps2)] : List (Addr × Obj)) ++ own, p.1 ≠ lQ := fun p hp => (List.mem_append.mp hp).elim (hne0 p) (fun h => hoff p h lQ (List.mem_cons_self ..))
    refine append_K (by assumption) NB (Upd.head hne) ?_ ?_
    · intro h9 F9 N9
      rw [List.push_toArray] at N9
      end_is "my go"
      refine endT ⟨_, qs ++ [(((r * 2 ^ nb + dn) / b : Nat) : Int)], _, (r * 2 ^ nb + dn) % b, _, _⟩ (by assumption) (by assumption) (by exact fun p hp => List.mem_append_left own hp) (by exact fun p hp => List.mem_cons_of_mem _ (List.mem_append_right _ hp)) (by exact hoff) (by exact ⟨rfl, rfl, rfl, rfl, rfl, trivial⟩) ⟨hQI.append (.cons _ _ .nil), by simp [hQl], z1, z2, ?_⟩
      intro q hq
      rcases List.mem_append.mp hq with hq | hq
      · exact hQb q hq
      · rw [List.mem_singleton.mp hq]
        have e : (2 : Int) ^ nb = ((2 ^ nb : Nat) : Int) := by push_cast; rfl
        exact ⟨Int.natCast_nonneg _, by rw [e]; exact Int.ofNat_lt.mpr z3⟩
    · rw [List.size_toArray]
      have hqvl : qv.length = qs.length := by simpa using hQI.length
      have hql2 : ds.length ≤ 200 := by rw [hlen]; exact cnt_le (n := nb) (by omega) (by simpa using ha)
      exact Nat.le_trans (by omega : qv.length ≤ 200) (by decide)
  · have hvl : vs.length = ds.length := by simpa using hI.length
    intro cZ1 u6 h6 tk6 cZ2 F6 N6
    (try k_fold)
    obtain ⟨qv, qs, kq, r, tr, tn⟩ := cZ1
    obtain ⟨hQI, hQl, hQp, hQr, hQb⟩ := cZ2
    (try dsimp only at hQI hQl hQp hQr hQb F6 N6)
    (try k_fold)
    end_is "my go"
    have hqvl : qv.length = qs.length := by simpa using hQI.length
    have hql2 : qs.length ≤ 200 := by
      rw [hQl, hvl, hlen]; exact cnt_le (n := nb) (by omega) (by simpa using ha)
    have hql3 : qv.length ≤ sizeLine := Nat.le_trans (by omega : qv.length ≤ 200) (by decide)
    refine kl_reverse (l := qv.reverse) (by assumption) (by assumption) rfl (by k_upd) hql3 ?_
    intro h7 F7 N7
    end_is "my go"
    refine ⟨X'.keeps (Fr.keep (by assumption)), ?_⟩
    end_is "my go"
    rename Fr g' L' h7 _ => FC
    have hrb : ∀ d ∈ qs.reverse, d.natAbs < 2 ^ 5000 := by
      intro d hd
      obtain ⟨b0, b1⟩ := hQb d (List.mem_reverse.mp hd)
      have e : (2 : Int) ^ nb = ((2 ^ nb : Nat) : Int) := by push_cast; rfl
      rw [e] at b1
      have : 2 ^ nb ≤ 2 ^ 5000 := Nat.pow_le_pow_right (by decide) (by omega)
      omega
    refine spec_callG (rest := [(44, tabObj #[rawInt (65 : Nat), rawInt (4 : Nat), .ref c1]), (c1, oc1)]) (d2i_spec w lQ qv.reverse qs.reverse nb _ ps2 (by simpa using hql2) (by omega) (by omega) hrb) B' FC X' N7 T' rfl (List.forall_mem_cons.mpr ⟨by k_mem, fun _ h => nomatch h⟩) (List.forall_mem_cons.mpr ⟨by k_mem, List.forall_mem_cons.mpr ⟨by k_mem, fun _ h => nomatch h⟩⟩) (List.forall_mem_cons.mpr ⟨by simp, List.forall_mem_cons.mpr ⟨?_, fun _ h => nomatch h⟩⟩) ⟨News.isList N7 (by k_mem), hQI.reverse, hG2.keeps FC.keep, ?_⟩ (Nat.le_of_ble_eq_true rfl) (Nat.le_of_ble_eq_true rfl) ?_
    · intro hm
      have e : c1 = 51 := List.mem_singleton.mp hm
      exact Nat.ne_of_gt (Nat.lt_trans (Nat.lt_of_lt_of_le (Heap.lt_size hP2) hsL) hc1) e
    · exact tabC_keeps hGT FC.keep
    intro v8 h8 tk8 F8 N8 k8 o8 cZ1
    (try k_fold)
    obtain ⟨⟨tq, rfl⟩, c2, oc2, vs2, t2, gT2, gc2, hoc2, hvc2, hps2⟩ := cZ1
    have N9 := news_put N8 (o8 _ (List.mem_cons_self ..)).1 (o8 _ (List.mem_cons_self ..)).2 gT2
    clear N8
    obtain ⟨e1, e2⟩ : pol (2 ^ nb) qs.reverse = ((a / b : Nat) : Int) ∧ r = a % b := by
      rw [hvl, Nat.sub_self, List.drop_zero] at hQp
      rw [Int.toNat_natCast] at hpol
      exact div_final hb (hpol.symm.trans hQp) hQr
    have hsz3 : hpS.objs.size ≤ c1 := Nat.le_trans hsL (Nat.le_of_lt hc1)
    rcases hps2 with ⟨hp0, hz⟩ | hp0
    · have hc2 : L' < c2 := Nat.lt_of_lt_of_le FC.ns.lt hz
      have N10 := news_put N9 (Nat.ne_of_gt hc2) (Heap.get?_none_of_le (by rw [hsz]; exact Nat.le_of_lt (Nat.lt_of_le_of_lt hsL hc2))) gc2
      clear N9
      (try k_fold)
      end_is "my go"
      rename_i hh DT hT2 FT NT lT
      refine hret _ _ _ (hide_keep eg FT.keep) ⟨⟨DT, tq, tr, rfl, ?_, hide_none2 eg (NT (DT, _) (List.mem_cons_self ..)).2.2 (Nat.ne_of_gt (by omega : @LT.lt Nat _ 44 DT)) (Nat.ne_of_gt (by omega : @LT.lt Nat _ 51 DT))⟩, ⟨c1, oc1, vs1, t1, (NT (44, _) (by k_mem)).1, (NT (c1, _) (by k_mem)).1, hoc1, hvc1, .inl ⟨rfl, hsz3⟩⟩, ⟨c2, oc2, vs2, t2, (NT (51, _) (by k_mem)).1, (NT (c2, _) (by k_mem)).1, hoc2, hvc2, .inl ⟨hp0, Nat.le_trans hsL (Nat.le_of_lt hc2)⟩⟩⟩
      rw [← e1, ← e2]; exact (NT (DT, _) (List.mem_cons_self ..)).1
    · rcases hGT with e | ⟨c0, oc0, vs0, t0, e, g0, hoc0, hvc0⟩
      · rw [e] at hp0; cases hp0
      have ec : c0 = c2 := by
        have := e.symm.trans hp0
        simpa using this
      subst ec
      (try k_fold)
      end_is "my go"
      rename_i hh DT hT2 FT NT lT
      refine hret _ _ _ (hide_keep eg FT.keep) ⟨⟨DT, tq, tr, rfl, ?_, hide_none2 eg (NT (DT, _) (List.mem_cons_self ..)).2.2 (Nat.ne_of_gt (by omega : @LT.lt Nat _ 44 DT)) (Nat.ne_of_gt (by omega : @LT.lt Nat _ 51 DT))⟩, ⟨c1, oc1, vs1, t1, (NT (44, _) (by k_mem)).1, (NT (c1, _) (by k_mem)).1, hoc1, hvc1, .inl ⟨rfl, hsz3⟩⟩, ⟨c0, oc0, vs0, t0, (NT (51, _) (by k_mem)).1, FT.keep _ _ g0, hoc0, hvc0, .inr hp0⟩⟩
      rw [← e1, ← e2]; exact (NT (DT, _) (List.mem_cons_self ..)).1
end
section
theorem tabC_hide2 {h g : Heap} {ps2 : Array Value} {q : Str} (eg : g = hideAll h (List.map (·.1) [(44, tabObj #[]), (51, tabObj ps2)])) (hP1 : h.get? 44 = some (tabObj #[])) (hP2 : h.get? 51 = some (tabObj ps2)) (hT : TabC h 80 4 q ps2) : TabC g 80 4 q ps2 := by
  rcases hT with rfl | ⟨c0, oc0, vs0, t0, rfl, hc0, hc1, hc2⟩
  · exact .inl rfl
  · refine .inr ⟨c0, oc0, vs0, t0, rfl, ?_, hc1, hc2⟩
    rw [eg]
    refine hideAll_get _ hc0 ?_
    intro hm
    rcases List.mem_cons.mp hm with e | hm
    · subst e; rw [hP1] at hc0; cases hc0; cases hc1; simp at hc2
    · have e : c0 = 51 := List.mem_singleton.mp hm
      subst e; rw [hP2] at hc0; cases hc0; cases hc1; simp [rawInt] at hc2
theorem tabD_mono {P : Addr} {l c : Nat} {q : Str} {ps : Array Value} {h h1 h' : Heap} (x : TabD P l c q ps h1 h') (hs : h.objs.size ≤ h1.objs.size) : TabD P l c q ps h h' := by
  obtain ⟨c', oc, vs, t, g, gc, r, r2, r3⟩ := x
  exact ⟨c', oc, vs, t, g, gc, r, r2, r3.imp (fun z => ⟨z.1, Nat.le_trans hs z.2⟩) id⟩
theorem imd0_spec (w : World) (a b : Nat) (ta tb : Tok) (ps2 : Array Value) (hb : 0 < b) (hbb : b < 2 ^ 4000) (ha : a < 2 ^ (Builtin.Int.intBits b * 200)) :
    SpecG P1 w (Mine2.hd.heap_1 w.params) 450 450 70 [.int (a : Int) ta, .int (b : Int) tb] [(44, tabObj #[]), (51, tabObj ps2)] (fun h => CodeHd h 48 44 ∧ CodeHd h 55 51 ∧ TabC h 80 4 "_digits2int.<locals>.inner" ps2)
      (fun v h h' => (∃ T t1 t2, v = .ref T ∧ h'.get? T = some (tup2 ((a / b : Nat) : Int) ((a % b : Nat) : Int) t1 t2) ∧ h.get? T = none) ∧ TabD 44 65 4 "_int2digits.<locals>.inner" #[] h h' ∧ TabD 51 80 4 "_digits2int.<locals>.inner" ps2 h h') := by
  intro p loose mean mg mb dp un gd cn cs ad ccd cl outer A₀ base h₀ L m s Q E B F X TT hk N hH hd hu hret
  obtain ⟨hpS, gnS, drS, tkS, osS⟩ := s
  (try dsimp only at F)
  (try dsimp only at N)
  (try dsimp only at hH)
  (try dsimp only at hret)
  refine wpAny_more (A := ktrTop 450 450 gd cn cs L ad ccd cl outer) ?_ hd hu
  refine wpAny_call ?_
  k_dflt end_is "my hide"
  intro g' L' h' eg F' N' B' X' T' st'
  (try dsimp only)
  (try k_fold)
  end_is "my A"
  obtain ⟨hC1, hC2, hT⟩ := hH
  have hP1 := (N _ (List.mem_cons_self ..)).1
  have hP2 := (N _ (List.mem_cons_of_mem _ (List.mem_cons_self ..))).1
  (try dsimp only at hP1 hP2)
  have hG1 : CodeHd g' 48 44 := by rw [eg]; exact codeHd_hide hC1 (by simp)
  have hG2 : CodeHd g' 55 51 := by rw [eg]; exact codeHd_hide hC2 (by simp)
  have hGT : TabC g' 80 4 "_digits2int.<locals>.inner" ps2 := tabC_hide2 eg hP1 hP2 hT
  have hsz : g'.objs.size = hpS.objs.size := by rw [eg]; exact hideAll_size _ _
  clear B F X TT N
  have hb0 : (b : Int) ≠ 0 := by omega
  have hb1 : ¬ ((b : Int) < 0) := by omega
  have ha1 : ¬ ((a : Int) < 0) := by omega
  end_is "my go"
  · refine ⟨X'.keeps (Fr.keep (by assumption)), ?_⟩
    end_is "my go"
    rename Fr g' L' h' _ => FC
    have hss : hpS.objs.size ≤ h'.objs.size := Nat.le_trans (hsz ▸ FC.above) (Nat.le_of_lt FC.ns.lt)
    refine spec_callG (rest := []) (dmp_spec w a b _ _ ps2 hb hbb ha) B' FC X' N' T' rfl (fun _ h => h) (fun _ h => nomatch h) (fun _ h => nomatch h) ⟨hG1.keeps FC.keep, hG2.keeps FC.keep, tabC_keeps hGT FC.keep⟩ (Nat.le_of_ble_eq_true rfl) (Nat.le_of_ble_eq_true rfl) ?_
    intro v6 h6 tk6 F6 N6 k6 o6 cZ1
    (try k_fold)
    obtain ⟨⟨T, u1, u2, rfl, gT, hTn⟩, hD1, hD2⟩ := cZ1
    (try k_fold)
    end_is "my go"
    refine hret _ _ _ (fun b o hb e => k6 b o hb (st' _ _ e)) ⟨⟨T, u1, u2, rfl, gT, ?_⟩, tabD_mono hD1 hss, tabD_mono hD2 hss⟩
    cases e : hpS.get? T with
    | none => rfl
    | some o => exact absurd (hTn.symm.trans (st' _ _ e)) (fun h => nomatch h)
theorem neg_div (a : Int) (b : Nat) (hb : 0 < b) (ha : a < 0) : -((((-a - 1).toNat / b : Nat) : Int)) - 1 = a / b ∧ (b : Int) + (-((((-a - 1).toNat % b : Nat) : Int)) - 1) = a % b := by
  obtain ⟨k, hk⟩ : ∃ k : Nat, -a - 1 = k := ⟨(-a - 1).toNat, by omega⟩
  rw [hk, Int.toNat_natCast]
  have h1 := Nat.div_add_mod k b
  have h2 := Nat.mod_lt k hb
  have h3 : a = (b : Int) * (-((k / b : Nat) : Int) - 1) + ((b : Int) - 1 - ((k % b : Nat) : Int)) := by
    have : a = -(k : Int) - 1 := by omega
    rw [this]
    have : (k : Int) = ((b * (k / b) + k % b : Nat) : Int) := by rw [h1]
    rw [this]; push_cast
    rw [Int.mul_sub, Int.mul_neg]
    omega
  have h4 : ((k % b : Nat) : Int) < b := by omega
  have h5 : 0 ≤ ((k % b : Nat) : Int) := Int.natCast_nonneg _
  constructor
  · have : a / b = -((k / b : Nat) : Int) - 1 := by
      rw [h3, Int.add_comm, Int.add_mul_ediv_left _ _ (by omega), Int.ediv_eq_zero_of_lt (by omega) (by omega)]; omega
    rw [this]
  · have : a % b = (b : Int) - 1 - ((k % b : Nat) : Int) := by
      conv => lhs; rw [h3]
      rw [Int.add_comm, Int.add_mul_emod_self_left, Int.emod_eq_of_lt (by omega) (by omega)]
    rw [this]; omega
theorem imd_spec (w : World) (a : Int) (b : Nat) (ta tb : Tok) (ps2 : Array Value) (hb : 0 < b) (hbb : b < 2 ^ 4000) (ha : a.natAbs < 2 ^ (Builtin.Int.intBits b * 200)) :
    SpecG P1 w (Mine2.hd.heap_1 w.params) 440 440 70 [.int a ta, .int (b : Int) tb] [(44, tabObj #[]), (51, tabObj ps2)] (fun h => CodeHd h 48 44 ∧ CodeHd h 55 51 ∧ TabC h 80 4 "_digits2int.<locals>.inner" ps2)
      (fun v h h' => (∃ T t1 t2, v = .ref T ∧ h'.get? T = some (tup2 (a / b) (a % b) t1 t2) ∧ h.get? T = none) ∧ TabD 44 65 4 "_int2digits.<locals>.inner" #[] h h' ∧ TabD 51 80 4 "_digits2int.<locals>.inner" ps2 h h') := by
  rcases (by omega : a < 0 ∨ 0 ≤ a) with hneg | hpos
  · intro p loose mean mg mb dp un gd cn cs ad ccd cl outer A₀ base h₀ L m s Q E B F X TT hk N hH hd hu hret
    obtain ⟨hpS, gnS, drS, tkS, osS⟩ := s
    (try dsimp only at F)
    (try dsimp only at N)
    (try dsimp only at hH)
    (try dsimp only at hret)
    refine wpAny_more (A := ktrTop 440 440 gd cn cs L ad ccd cl outer) ?_ hd hu
    refine wpAny_call ?_
    k_dflt end_is "my hide"
    intro g' L' h' eg F' N' B' X' T' st'
    (try dsimp only)
    (try k_fold)
    end_is "my A"
    obtain ⟨hC1, hC2, hT⟩ := hH
    have hP1 := (N _ (List.mem_cons_self ..)).1
    have hP2 := (N _ (List.mem_cons_of_mem _ (List.mem_cons_self ..))).1
    (try dsimp only at hP1 hP2)
    have hG1 : CodeHd g' 48 44 := by rw [eg]; exact codeHd_hide hC1 (by simp)
    have hG2 : CodeHd g' 55 51 := by rw [eg]; exact codeHd_hide hC2 (by simp)
    have hGT : TabC g' 80 4 "_digits2int.<locals>.inner" ps2 := tabC_hide2 eg hP1 hP2 hT
    have hsz : g'.objs.size = hpS.objs.size := by rw [eg]; exact hideAll_size _ _
    clear B F X TT N
    have hb0 : (b : Int) ≠ 0 := by omega
    have hb1 : ¬ ((b : Int) < 0) := by omega
    end_is "my go"
    refine ⟨X'.keeps (Fr.keep (by assumption)), ?_⟩
    end_is "my go"
    rename Fr g' L' h' _ => FC
    have hss : hpS.objs.size ≤ h'.objs.size := Nat.le_trans (hsz ▸ FC.above) (Nat.le_of_lt FC.ns.lt)
    obtain ⟨kk, hkk⟩ : ∃ k : Nat, Builtin.bitNot a = k := ⟨(Builtin.bitNot a).toNat, by unfold Builtin.bitNot; omega⟩
    have hkb : kk < 2 ^ (Builtin.Int.intBits b * 200) := by
      have : (kk : Int) = -a - 1 := hkk.symm
      omega
    have hq1 : Builtin.bitNot ((kk / b : Nat) : Int) = a / b := by
      have := (neg_div a b hb hneg).1
      have h9 : -a - 1 = (kk : Int) := hkk
      rw [show (-a - 1).toNat = kk by omega] at this
      exact this
    have hq2 : (b : Int) + Builtin.bitNot ((kk % b : Nat) : Int) = a % b := by
      have := (neg_div a b hb hneg).2
      have h9 : -a - 1 = (kk : Int) := hkk
      rw [show (-a - 1).toNat = kk by omega] at this
      exact this
    rw [hkk]
    refine spec_callG (rest := []) (imd0_spec w kk b _ _ ps2 hb hbb hkb) B' FC X' N' T' rfl (fun _ h => h) (fun _ h => nomatch h) (fun _ h => nomatch h) ⟨hG1.keeps FC.keep, hG2.keeps FC.keep, tabC_keeps hGT FC.keep⟩ (Nat.le_of_ble_eq_true rfl) (Nat.le_of_ble_eq_true rfl) ?_
    intro v6 h6 tk6 F6 N6 k6 o6 cZ1
    (try k_fold)
    obtain ⟨⟨T, u1, u2, rfl, gT, hTn⟩, ⟨c1, oc1, vs1, t1, gT1, gc1, hoc1, hvc1, hps1⟩, c2, oc2, vs2, t2, gT2, gc2, hoc2, hvc2, hps2⟩ := cZ1
    have hsL : hpS.objs.size ≤ L' := hsz ▸ FC.above
    have hc1 : L' < c1 := by
      rcases hps1 with ⟨_, h⟩ | h
      · exact Nat.lt_of_lt_of_le FC.ns.lt h
      · cases h
    have hsz3 : hpS.objs.size ≤ c1 := Nat.le_trans hsL (Nat.le_of_lt hc1)
    have N7 := news_put N6 (Nat.ne_of_gt hc1) (Heap.get?_none_of_le (by rw [hsz]; exact Nat.le_of_lt (Nat.lt_of_le_of_lt hsL hc1))) gc1
    have N8 := news_put N7 (o6 (44, _) (by k_mem)).1 (o6 (44, _) (by k_mem)).2 gT1
    have N9 := news_put N8 (o6 (51, _) (by k_mem)).1 (o6 (51, _) (by k_mem)).2 gT2
    have N10 := news_new FC N9 hTn gT
    clear N6 N7 N8 N9
    rcases hps2 with ⟨hp0, hz⟩ | hp0
    · have hc2 : L' < c2 := Nat.lt_of_lt_of_le FC.ns.lt hz
      have N11 := news_put N10 (Nat.ne_of_gt hc2) (Heap.get?_none_of_le (by rw [hsz]; exact Nat.le_of_lt (Nat.lt_of_le_of_lt hsL hc2))) gc2
      clear N10
      (try k_fold)
      end_is "my go"
      rename_i hh DT hT2 FT NT lT
      have hTT := (NT (DT, _) (List.mem_cons_self ..)).1
      rw [hq1, hq2] at hTT
      refine hret _ _ _ (hide_keep eg FT.keep) ⟨⟨DT, _, _, rfl, hTT, hide_none2 eg (NT (DT, _) (List.mem_cons_self ..)).2.2 (Nat.ne_of_gt (by omega : @LT.lt Nat _ 44 DT)) (Nat.ne_of_gt (by omega : @LT.lt Nat _ 51 DT))⟩, ⟨c1, oc1, vs1, t1, (NT (44, _) (by k_mem)).1, (NT (c1, _) (by k_mem)).1, hoc1, hvc1, .inl ⟨rfl, hsz3⟩⟩, ⟨c2, oc2, vs2, t2, (NT (51, _) (by k_mem)).1, (NT (c2, _) (by k_mem)).1, hoc2, hvc2, .inl ⟨hp0, Nat.le_trans hsL (Nat.le_of_lt hc2)⟩⟩⟩
    · rcases hGT with e | ⟨c0, oc0, vs0, t0, e, g0, hoc0, hvc0⟩
      · rw [e] at hp0; cases hp0
      have ec : c0 = c2 := by
        have := e.symm.trans hp0
        simpa using this
      subst ec
      (try k_fold)
      end_is "my go"
      rename_i hh DT hT2 FT NT lT
      have hTT := (NT (DT, _) (List.mem_cons_self ..)).1
      rw [hq1, hq2] at hTT
      refine hret _ _ _ (hide_keep eg FT.keep) ⟨⟨DT, _, _, rfl, hTT, hide_none2 eg (NT (DT, _) (List.mem_cons_self ..)).2.2 (Nat.ne_of_gt (by omega : @LT.lt Nat _ 44 DT)) (Nat.ne_of_gt (by omega : @LT.lt Nat _ 51 DT))⟩, ⟨c1, oc1, vs1, t1, (NT (44, _) (by k_mem)).1, (NT (c1, _) (by k_mem)).1, hoc1, hvc1, .inl ⟨rfl, hsz3⟩⟩, ⟨c0, oc0, vs0, t0, (NT (51, _) (by k_mem)).1, FT.keep _ _ g0, hoc0, hvc0, .inr hp0⟩⟩
  · obtain ⟨k, rfl⟩ : ∃ k : Nat, a = k := ⟨a.toNat, by omega⟩
    intro p loose mean mg mb dp un gd cn cs ad ccd cl outer A₀ base h₀ L m s Q E B F X TT hk N hH hd hu hret
    obtain ⟨hpS, gnS, drS, tkS, osS⟩ := s
    (try dsimp only at F)
    (try dsimp only at N)
    (try dsimp only at hH)
    (try dsimp only at hret)
    exact imd0_spec w k b ta tb ps2 hb hbb (by simpa using ha) p loose mean mg mb dp un gd cn cs ad ccd cl outer A₀ base h₀ L m _ Q E B F X TT hk N hH (by omega) (by omega) hret
end
section
local macro_rules | `(tactic| end_is "my stop") => `(tactic| (with_reducible show wpAny _ _ (call (Value.type "tuple") _) _ _ _))
def bump (cs : List Int) (b : Nat) : List Int :=
  let cs' := if cs.length ≤ b then cs ++ List.replicate (b - cs.length + 1) 0 else cs
  cs'.set b (cs'.getD b 0 + 1)
def wstep (st : List Int × Nat × Nat × Nat) (c : Nat) : List Int × Nat × Nat × Nat :=
  if c = 32 then (st.1, st.2.1 + 1, st.2.2.1 + 1, st.2.2.2) else (bump st.1 st.2.1, 0, st.2.2.1 + 1, st.2.2.2 + 1)
def isSg (c : Nat) : Bool := decide (c = 32) || decide (c = 9)
def wsF (l : List Nat) : List Int × Nat × Nat × Nat := (l.takeWhile isSg).foldl wstep ([], 0, 0, 0)
structure WSt where
  D : Addr
  cv : List Value
  cs : List Int
  k : Nat
  b : Nat
  n : Nat
  nt : Nat
  tb : Tok
  tn : Tok
  tm : Tok
  tk : Tok
theorem take_all {l : List Nat} {i : Nat} (h : ∀ c ∈ l.take i, isSg c = true) (e : l[i]? = none ∨ ∃ c, l[i]? = some c ∧ isSg c = false) : l.takeWhile isSg = l.take i := by
  induction l generalizing i with
  | nil => simp
  | cons a r ih =>
    cases i with
    | zero =>
      rcases e with e | ⟨c, e, hc⟩
      · simp at e
      · simp at e; subst e
        rw [List.takeWhile_cons, hc]; simp
    | succ i =>
      have ha : isSg a = true := h a (by simp)
      rw [List.takeWhile_cons, ha, List.take_succ_cons]
      simp only [if_true]
      rw [ih (fun c hc => h c (by rw [List.take_succ_cons]; exact List.mem_cons_of_mem _ hc)) (by simpa using e)]
theorem ws_snoc {l : List Nat} {i c : Nat} (h : l[i]? = some c) (st : List Int × Nat × Nat × Nat) : (l.take (i + 1)).foldl wstep st = wstep ((l.take i).foldl wstep st) c := by
  rw [List.take_add_one, h, List.foldl_append]; rfl
theorem sg_tab2 {b : Nat} : (({ cps := #[b] } : Str) == Str.ofString "\t") = decide (b = 9) := by
  rw [lit_tab]
  show decide (({ cps := #[b] } : Str) = T [9]) = _
  simp [T]
theorem sg_sp {b : Nat} : (({ cps := #[b] } : Str) == Str.ofString " ") = decide (b = 32) := by
  rw [lit_sp]
  show decide (({ cps := #[b] } : Str) = T [32]) = _
  simp [T]
theorem allLt_mem {d : Addr} {l : List (Addr × Obj)} (h : AllLt d l) (p : Addr × Obj) (hp : p ∈ l) : @LT.lt Nat _ p.1 d := by
  induction l with
  | nil => cases hp
  | cons q r ih =>
    rcases List.mem_cons.mp hp with e | hp
    · rw [e]; exact h.1
    · exact ih h.2 hp
theorem bump_ge {cs : List Int} {b : Nat} (h : cs.length ≤ b) : (cs ++ List.replicate (b - cs.length + 1) 0).set b ((cs ++ List.replicate (b - cs.length + 1) 0).getD b 0 + 1) = bump cs b := by
  unfold bump; rw [if_pos h]
theorem bump_lt {cs : List Int} {b : Nat} (h : ¬ cs.length ≤ b) : cs.set b (cs.getD b 0 + 1) = bump cs b := by
  unfold bump; rw [if_neg h]
theorem bump_len (cs : List Int) (b : Nat) : (bump cs b).length = max cs.length (b + 1) := by
  unfold bump
  split
  · simp; omega
  · simp; omega
theorem endL4 {a b c d e f : Addr × Obj} (own : List (Addr × Obj)) : ∀ p ∈ [a, e, f], p ∈ a :: b :: c :: ([d, e, f] ++ own) := by
  intro p hp
  rcases List.mem_cons.mp hp with rfl | hp
  · exact List.mem_cons_self ..
  · exact List.mem_cons_of_mem _ (List.mem_cons_of_mem _ (List.mem_cons_of_mem _ (List.mem_append_left _ (List.mem_cons_of_mem _ hp))))
theorem endLa {a b c : Addr × Obj} (own : List (Addr × Obj)) : ∀ p ∈ [a, b, c], p ∈ a :: ([b, c] ++ own) := fun p hp => List.mem_append_left own hp
theorem endRa {a b c : Addr × Obj} (own : List (Addr × Obj)) : ∀ p ∈ own, p ∈ a :: ([b, c] ++ own) := fun p hp => List.mem_append_right [a, b, c] hp
theorem ownL {own : List (Addr × Obj)} {D D' : Addr} {r : List Addr} (h : OwnOff own (D :: r)) (h2 : ∀ p ∈ own, @LT.lt Nat _ p.1 D') : OwnOff own (D' :: r) := by
  intro p hp b hb
  rcases List.mem_cons.mp hb with rfl | hb
  · exact Nat.ne_of_lt (h2 p hp)
  · exact h p hp b (List.mem_cons_of_mem _ hb)
def tupO (vs : Array Value) : Obj := { cls := .type "tuple", data := .seq vs }
def wsEnts (w : World) (l : List Nat) (tl k1 k2 k3 k4 k5 tn tm : Tok) (n nt : Nat) (tN : Addr) (v5 : Value) : List DictEntry :=
  [{ hash := PyData.keyHash w.params (Str.ofString "raw"), key := .str (Str.ofString "raw") k1, val := .str (T l) tl }, { hash := PyData.keyHash w.params (Str.ofString "n"), key := .str (Str.ofString "n") k2, val := .int (n : Int) tn },
   { hash := PyData.keyHash w.params (Str.ofString "nt"), key := .str (Str.ofString "nt") k3, val := .int (nt : Int) tm }, { hash := PyData.keyHash w.params (Str.ofString "norm"), key := .str (Str.ofString "norm") k4, val := .ref tN },
   { hash := PyData.keyHash w.params (Str.ofString "is_simple"), key := .str (Str.ofString "is_simple") k5, val := v5 }]
/-- a Whitespace of the text l has been made -/
def WsPost (w : World) (C : Addr) (l : List Nat) (tl : Tok) (v : Value) (h h' : Heap) : Prop :=
  ∃ (x dx tC tN : Addr) (cv : List Value) (cs : List Int) (b n nt : Nat) (k1 k2 k3 k4 k5 tn tm tb : Tok) (v5 : Value), v = .ref x ∧ IntsAre cv cs ∧ (cs, b, n, nt) = wsF l ∧ @LT.lt Nat _ dx x ∧ @LT.lt Nat _ x tC ∧ @LT.lt Nat _ tC tN ∧
    (∀ p ∈ [(tN, tupO #[.ref tC, .int (b : Int) tb]), (tC, tupO cv.toArray), (x, instObj C dx), (dx, dictOf (wsEnts w l tl k1 k2 k3 k4 k5 tn tm n nt tN v5) 5)], h'.get? p.1 = some p.2 ∧ h.get? p.1 = none) ∧ cs.length ≤ 10000
theorem ws_spec (w : World) (l : List Nat) (tl : Tok) (hl : l.length ≤ 10000) : Spec P1 w (Mine2.hd.heap_1 w.params) 470 470 132 [.str (T l) tl] (fun _ => True)
    (fun v h h' => WsPost w 132 l tl v h h') := by
  intro p loose mean mg mb dp un gd cn cs ad ccd cl outer A₀ base h₀ L m s Q E B F X TT hk hH hd hu hret
  obtain ⟨hpS, gnS, drS, tkS, osS⟩ := s
  (try dsimp only at F)
  (try dsimp only at hH)
  (try dsimp only at hret)
  refine wpAny_more (A := ktrTop 470 470 gd cn cs L ad ccd cl outer) ?_ hd hu
  k_dflt (refine' call_clsS F X News.nil ?k4 ?k5 ?k6 ?_)
  case k4 => k_is
  case k5 => k_is
  case k6 => k_is
  intro x dx h1 F1 N1 st1 hx hdx hlt
  k_lt2 hlt
  k_dflt (refine' code_hide ?k1 ?k2 ?k3 ?k4 ?k5 ?kA ?kF ?kK ?k6 ?k7 ?k8 ?k9 ?kB ?_ ?c2 ?c3 ?c4 ?c5)
  case kA => exact rfl
  case kF => exact rfl
  case kK => assumption
  case k1 => k_asm
  case k2 => k_asm
  case k3 => k_asm
  case k4 => k_asm
  case k5 => k_asm
  case k6 => k_is
  case k7 => k_is
  case k8 => ktr_room
  case k9 => exact BindsTo.of_eq rfl
  case c5 => decide
  case kB => exact locs rfl
  case c2 => exact rfl
  case c3 => exact rfl
  case c4 => exact rfl
  intro g' L' h' eg F' N' B' X' T' st'
  (try dsimp only)
  (try k_fold)
  clear B F X TT F1
  end_is "my go"
  rename_i lQ hq1 lq hq2 _ _ hq3 hq4 hq5 FQ NQ
  refine cut_exec (α := WSt) (by assumption) (fun c => [(c.D, listOf c.cv.toArray c.k), (x, instObj 132 dx), (dx, dictOf [{ hash := PyData.keyHash w.params (Str.ofString "raw"), key := .str (Str.ofString "raw") c.tk, val := .str (T l) tl }] 1)])
    (fun c => [("self", .ref x), ("count", .ref c.D), ("b", .int (c.b : Int) c.tb), ("n", .int (c.n : Int) c.tn), ("nt", .int (c.nt : Int) c.tm)])
    (fun c => IntsAre c.cv c.cs ∧ (c.cs, c.b, c.n, c.nt) = wsF l ∧ @LT.lt Nat _ x c.D ∧ (c.cs.length ≤ 10000 ∨ False)) ?_ ?_
  · refine For_invVF (by assumption) rfl rfl ?_
    end_is "my go"
    refine loop_str (σ := WSt) (fun c => [(c.D, listOf c.cv.toArray c.k), (x, instObj 132 dx), (dx, dictOf [{ hash := PyData.keyHash w.params (Str.ofString "raw"), key := .str (Str.ofString "raw") c.tk, val := .str (T l) tl }] 1)])
      (fun c => [("self", .ref x), ("count", .ref c.D), ("b", .int (c.b : Int) c.tb), ("n", .int (c.n : Int) c.tn), ("nt", .int (c.nt : Int) c.tm), ("S", .str (Str.ofString " ") 307), ("T", .str (Str.ofString "\t") 308)])
      (fun i c => IntsAre c.cv c.cs ∧ (c.cs, c.b, c.n, c.nt) = (l.take i).foldl wstep ([], 0, 0, 0) ∧ @LT.lt Nat _ x c.D ∧ (∀ ch ∈ l.take i, isSg ch = true) ∧ c.b ≤ i ∧ c.cs.length ≤ i) ⟨lQ, [], [], 0, 0, 0, 0, _, _, _, _⟩ rfl rfl (by assumption) (by assumption) (by exact List.forall_mem_cons.mpr ⟨by k_mem, List.forall_mem_cons.mpr ⟨by k_mem, List.forall_mem_cons.mpr ⟨by k_mem, fun _ h => nomatch h⟩⟩⟩) ⟨rfl, rfl, rfl, rfl, rfl, rfl, rfl, trivial⟩ ⟨.nil, rfl, by (try dsimp only); omega, (by intro ch h; simp at h), Nat.le_refl _, Nat.le_refl _⟩ ?_ ?_
    · intro i cp t cZ1 u6 h6 tk6 own hcp cZ2 hoff F6 N6
      (try k_fold)
      obtain ⟨D, cv, cs, k, b, n, nt, tb, tn, tm, tkr⟩ := cZ1
      obtain ⟨hI, hW, hxD, hsg, hbi, hci⟩ := cZ2
      have hb : l[i]? = some cp := by simpa [T] using hcp
      have hil : i < l.length := (List.getElem?_eq_some_iff.mp hb).1
      (try dsimp only at hI hW hxD hsg hbi hci F6 N6)
      (try k_fold)
      end_is "my go"
      · rename (_ == _) = true => he
        rw [sg_sp] at he
        have he := of_decide_eq_true he
        subst he
        refine endT ⟨D, cv, cs, k, b + 1, n + 1, nt, _, _, _, tkr⟩ (by assumption) (by assumption) (by exact fun p hp => List.mem_append_left own hp) (by exact fun p hp => List.mem_append_right _ hp) (by exact hoff) (by exact ⟨rfl, rfl, rfl, rfl, rfl, rfl, rfl, trivial⟩) ⟨hI, ?_, hxD, ?_, by (try dsimp only); omega, by (try dsimp only); omega⟩
        · rw [ws_snoc hb, ← hW]; rfl
        · intro ch hch
          rw [List.take_add_one, hb] at hch
          rcases List.mem_append.mp hch with h | h
          · exact hsg ch h
          · simp at h; subst h; rfl
      · rename (_ == Str.ofString "\t") = true => he
        rename (_ == Str.ofString " ") = false => hs
        rw [sg_tab2] at he
        have he := of_decide_eq_true he
        subst he
        have hsgN : ∀ ch ∈ l.take (i + 1), isSg ch = true := by
          intro ch hch
          rw [List.take_add_one, hb] at hch
          rcases List.mem_append.mp hch with h | h
          · exact hsg ch h
          · simp at h; subst h; rfl
        rename IntsAre _ (cs ++ _) => hI2
        rename (_ ∧ _ ∧ AllLt _ _) => lA
        rename News g' L' _ _ => NA
        rename Fr g' L' _ _ => FA
        have hbc : cs.length ≤ b := by omega
        have e1 : ((b : Int) - (cs.length : Int) + 1).toNat = b - cs.length + 1 := by omega
        rw [rep_flatG, e1] at hI2
        have hl2 : (cs ++ List.replicate (b - cs.length + 1) (0 : Int)).length = b + 1 := by simp; omega
        refine ksa_sub NA (List.mem_cons_self ..) hI2 (by omega) (by omega) (by omega) ?_ (by with_unfolding_all rfl)
        intro tg
        end_is "my go"
        refine set_l (by assumption) (by assumption) ?_ hI2 (by omega) (by omega) (by omega) ?_
        · intro p hp
          rcases List.mem_cons.mp hp with rfl | hp
          · exact Nat.ne_of_lt lA.1
          rcases List.mem_cons.mp hp with rfl | hp
          · exact Nat.ne_of_lt lA.2.1
          exact Nat.ne_of_lt (allLt_mem lA.2.2 p hp)
        intro h9 F9 N9 hI9
        end_is "my go"
        have lown : ∀ p ∈ own, @LT.lt Nat _ p.1 _ := fun p hp => allLt_mem lA.2.2 p (List.mem_append_right _ hp)
        have lx := lA.2.2.2.1
        rw [Int.toNat_natCast, bump_ge hbc] at hI9
        refine endT ⟨_, _, bump cs b, _, 0, n + 1, nt + 1, _, _, _, tkr⟩ (by assumption) (by assumption) (endL4 own) (by exact fun p hp => (List.mem_cons_of_mem _ (List.mem_cons_of_mem _ (List.mem_cons_of_mem _ (List.mem_append_right _ hp))))) (ownL hoff lown) (by exact ⟨rfl, rfl, rfl, rfl, rfl, rfl, rfl, trivial⟩) ⟨hI9, ?_, lx, hsgN, Nat.zero_le _, by rw [bump_len]; omega⟩
        rw [ws_snoc hb, ← hW]; rfl
      · rename (_ == Str.ofString "\t") = true => he
        rename (_ == Str.ofString " ") = false => hs
        rw [sg_tab2] at he
        have he := of_decide_eq_true he
        subst he
        have hsgN : ∀ ch ∈ l.take (i + 1), isSg ch = true := by
          intro ch hch
          rw [List.take_add_one, hb] at hch
          rcases List.mem_append.mp hch with h | h
          · exact hsg ch h
          · simp at h; subst h; rfl
        have hbc : ¬ cs.length ≤ b := by omega
        refine ksa_sub (by assumption) (List.mem_cons_self ..) hI (by omega) (by omega) (by omega) ?_ (by with_unfolding_all rfl)
        intro tg
        end_is "my go"
        refine set_l (by assumption) (by assumption) ?_ hI (by omega) (by omega) (by omega) ?_
        · intro p hp
          rcases List.mem_cons.mp hp with rfl | hp
          · exact Nat.ne_of_lt hxD
          rcases List.mem_cons.mp hp with rfl | hp
          · exact Nat.ne_of_lt (Nat.lt_trans hlt hxD)
          exact hoff p hp _ (List.mem_cons_self ..)
        intro h9 F9 N9 hI9
        end_is "my go"
        rw [Int.toNat_natCast, bump_lt hbc] at hI9
        refine endT ⟨_, _, bump cs b, _, 0, n + 1, nt + 1, _, _, _, tkr⟩ (by assumption) (by assumption) (endLa own) (endRa own) (by exact hoff) (by exact ⟨rfl, rfl, rfl, rfl, rfl, rfl, rfl, trivial⟩) ⟨hI9, ?_, hxD, hsgN, Nat.zero_le _, by rw [bump_len]; omega⟩
        rw [ws_snoc hb, ← hW]; rfl
      · rename (_ == Str.ofString "\t") = false => he
        rename (_ == Str.ofString " ") = false => hs
        rw [sg_tab2] at he
        rw [sg_sp] at hs
        have he := of_decide_eq_false he
        have hs := of_decide_eq_false hs
        refine endX ⟨D, cv, cs, k, b, n, nt, _, _, _, tkr⟩ (by assumption) (by assumption) (by exact fun p hp => List.mem_append_left own hp) (by exact ⟨rfl, rfl, rfl, rfl, rfl, trivial⟩) ⟨hI, ?_, hxD, .inl (by (try dsimp only); omega)⟩
        rw [wsF, take_all hsg (.inr ⟨cp, hb, by simp [isSg, he, hs]⟩)]; exact hW
    · intro cZ1 u6 h6 tk6 cZ2 F6 N6
      (try k_fold)
      obtain ⟨D, cv, cs, k, b, n, nt, tb, tn, tm, tkr⟩ := cZ1
      obtain ⟨hI, hW, hxD, hsg, hbi, hci⟩ := cZ2
      (try dsimp only at hI hW hxD hsg hbi hci F6 N6)
      have e : (T l).cps.size = l.length := by simp [T]
      rw [e] at hci
      (try k_fold)
      refine endX ⟨D, cv, cs, k, b, n, nt, _, _, _, tkr⟩ (by assumption) (by assumption) (by exact fun p hp => hp) (by exact ⟨rfl, rfl, rfl, rfl, rfl, trivial⟩) ⟨hI, ?_, hxD, .inl (by (try dsimp only); omega)⟩
      rw [wsF, take_all hsg (.inl (by simp [T]))]; exact hW
  · intro cZ1 u3 h3 tk3 cZ2 F3 N3
    (try k_fold)
    obtain ⟨D, cv, cs, k, b, n, nt, tb, tn, tm, tkr⟩ := cZ1
    obtain ⟨hI, hW, hxD, hcl⟩ := cZ2
    (try dsimp only at hI hW hxD hcl F3 N3)
    (try k_fold)
    end_is "my go"
    have hcv : cv.length ≤ 10000 := by rw [hI.length]; exact hcl.resolve_right id
    refine kde_tupleOf (zs := cv) (by assumption) (by assumption) (News.isList (by assumption) (List.mem_cons_self ..)) (by rw [List.size_toArray]; omega) rfl ?_
    intro tC hC FC NC lC
    (try k_lt lC)
    end_is "my go"
    rename tC < _ ∧ _ => lN
    rename_i hE tE FE NE
    refine ⟨rfl, ?_⟩
    have hfr : ∀ a, g'.get? a = none → a ≠ x → a ≠ dx → hpS.get? a = none := by
      intro a ha h1 h2
      have h3 := hide_none2 eg ha h1 h2
      cases e : hpS.get? a with
      | none => rfl
      | some o => exact absurd (h3.symm.trans (st1 _ _ e)) (fun h => nomatch h)
    have q1 := NE _ (List.mem_cons_self ..)
    have q2 := NE (tC, _) (by k_mem)
    have q3 := NE (x, _) (by k_mem)
    have q4 := NE (dx, _) (by k_mem)
    have hst : hpS.StaysIn tE := by
      intro b o e
      refine hide_keep eg FE.keep b o ?_ (st1 _ _ e)
      intro hm
      rcases List.mem_cons.mp hm with q | hm
      · subst q; rw [hx] at e; cases e
      · rw [List.mem_singleton.mp hm, hdx] at e; cases e
    exact hret _ _ _ hst ⟨x, dx, tC, _, cv, cs, b, n, nt, _, _, _, _, _, _, _, _, _, rfl, hI, hW, hlt, Nat.lt_trans hxD lC.1, lN.1,
      List.forall_mem_cons.mpr ⟨⟨q1.1, hfr _ q1.2.2 (Nat.ne_of_gt (Nat.lt_trans (Nat.lt_trans hxD lC.1) lN.1)) (Nat.ne_of_gt (Nat.lt_trans hlt (Nat.lt_trans (Nat.lt_trans hxD lC.1) lN.1)))⟩,
      List.forall_mem_cons.mpr ⟨⟨q2.1, hfr _ q2.2.2 (Nat.ne_of_gt (Nat.lt_trans hxD lC.1)) (Nat.ne_of_gt (Nat.lt_trans hlt (Nat.lt_trans hxD lC.1)))⟩,
      List.forall_mem_cons.mpr ⟨⟨q3.1, hx⟩, List.forall_mem_cons.mpr ⟨⟨q4.1, hdx⟩, fun _ h => nomatch h⟩⟩⟩⟩, hcl.resolve_right id⟩
end
section
structure WT where
  x : Addr
  dx : Addr
  tC : Addr
  tN : Addr
  cv : List Value
  b : Nat
  n : Nat
  nt : Nat
  k1 : Tok
  k2 : Tok
  k3 : Tok
  k4 : Tok
  k5 : Tok
  tn : Tok
  tm : Tok
  tb : Tok
  tl : Tok
  v5 : Value
def WT.led (w : World) (C : Addr) (l : List Nat) (q : WT) : List (Addr × Obj) :=
  [(q.tN, tupO #[.ref q.tC, .int (q.b : Int) q.tb]), (q.tC, tupO q.cv.toArray), (q.x, instObj C q.dx), (q.dx, dictOf (wsEnts w l q.tl q.k1 q.k2 q.k3 q.k4 q.k5 q.tn q.tm q.n q.nt q.tN q.v5) 5)]
def WT.ok (l : List Nat) (q : WT) : Prop :=
  IntsAre q.cv (wsF l).1 ∧ q.b = (wsF l).2.1 ∧ q.n = (wsF l).2.2.1 ∧ q.nt = (wsF l).2.2.2 ∧ (wsF l).1.length ≤ 10000
theorem ws_made {w : World} {C : Addr} {l : List Nat} {tl : Tok} {v : Value} {h h' : Heap} (P : WsPost w C l tl v h h') : ∃ q : WT, v = .ref q.x ∧ q.ok l ∧ (∀ p ∈ q.led w C l, h'.get? p.1 = some p.2 ∧ h.get? p.1 = none) := by
  obtain ⟨x, dx, tC, tN, cv, cs, b, n, nt, k1, k2, k3, k4, k5, tn, tm, tb, v5, rfl, hI, hW, l1, l2, l3, hh, hl⟩ := P
  refine ⟨⟨x, dx, tC, tN, cv, b, n, nt, k1, k2, k3, k4, k5, tn, tm, tb, tl, v5⟩, rfl, ?_, hh⟩
  have e1 : cs = (wsF l).1 := congrArg (·.1) hW
  have e2 : b = (wsF l).2.1 := congrArg (·.2.1) hW
  have e3 : n = (wsF l).2.2.1 := congrArg (·.2.2.1) hW
  have e4 : nt = (wsF l).2.2.2 := congrArg (·.2.2.2) hW
  subst e1
  exact ⟨hI, e2, e3, e4, hl⟩
theorem news_ws {w : World} {C : Addr} {l : List Nat} {q : WT} {h₀ h h' : Heap} {L : Addr} {m : Str → Option Value} {news : List (Addr × Obj)} (F : Fr h₀ L h m) (N : News h₀ L h' news) (hh : ∀ p ∈ q.led w C l, h'.get? p.1 = some p.2 ∧ h.get? p.1 = none) : News h₀ L h' (q.led w C l ++ news) := by
  intro p hp
  rcases List.mem_append.mp hp with hp | hp
  · obtain ⟨h1, h2⟩ := hh p hp
    exact news_new F N h2 h1 p (List.mem_cons_self ..)
  · exact N p hp
end
section
section
variable {prog : Program} {w : World} {A A₀ : Around} {E : Value → Shared → Prop} {s : Shared} {K : Frag} {L : Addr} {h₀ base : Heap} {m mg mb : Str → Option Value} {p : Program} {loose : List Str} {mean : ExcName → Option Value} {news Hid : List (Addr × Obj)}
/-- a contract that reads the objects of Hid and leaves them as they stand -/
theorem spec_callR {D U : Nat} {f : Addr} {vs : List Value} {H : Heap → Prop} {Post : Value → Heap → Heap → Prop} {dp un : Nat} {gd : Option (List Code)} {cn : Str} {cs : Scope} {a : Addr} {ccd : Value} {cl : List (Str × Addr)} {outer : List Env} {Q : Value → Shared → Prop}
    (S : SpecG prog w K D U f vs Hid H Post) (hP : ∀ v h h', Post v h h' → ∀ p ∈ Hid, h'.get? p.1 = some p.2) (B : Below A₀ base outer h₀) (F : Fr h₀ L s.heap m) (X : K.In h₀) (N : News h₀ L s.heap news) (T : Top p loose mean mg mb h₀) (hk : cs.kind = .function)
    (h1 : ∀ p ∈ Hid, p ∈ news) (hH : H s.heap) (hd : dp ≤ D) (hu : un ≤ U)
    (h : ∀ v h' tk', Fr h₀ L h' m → News h₀ L h' news → s.heap.StaysIn h' → Post v s.heap h' → Q v { s with heap := h', toks := tk' }) :
    wpAny (model prog w) (ktrTop dp un gd cn cs L a ccd cl outer) (call (.ref f) vs) Q E s := by
  have NH : News h₀ L s.heap Hid := fun q hq => N q (h1 q hq)
  refine S p loose mean mg mb dp un gd cn cs a ccd cl outer A₀ base h₀ L m s Q E B F X T hk NH hH hd hu fun v h' tk' k P => ?_
  have st : s.heap.StaysIn h' := by
    intro b o e
    by_cases hb : b ∈ Hid.map (·.1)
    · obtain ⟨r, hr, rfl⟩ := List.mem_map.mp hb
      have e2 := (NH r hr).1
      rw [e] at e2
      rw [hP v _ _ P r hr]; exact e2.symm
    · exact k b o hb e
  exact h v h' tk' (fr_stay F st) (news_stay N st) st P
end
def ilF (tab : Int) (cs : List Int) : Nat → Int
  | 0 => 0
  | k + 1 => ilF tab cs k + (tab + (k : Int)) / tab * cs.getD (tab + (k : Int)).toNat 0
def indV (l : List Nat) (tab : Int) : Int := (wsF l).2.1 + tab * (ilF tab (wsF l).1 ((wsF l).1.length - tab.toNat) + (wsF l).2.2.2)
theorem len_tp {prog : Program} {w : World} {A : Around} {E : Value → Shared → Prop} {s : Shared} {l : Addr} {us : List Value} {Q : Value → Shared → Prop} (hl : IsTup s.heap l us.toArray) (hfit : us.length < 2 ^ 62)
    (h : Q (.int (us.length : Int) (s.toks + 1)) { s with toks := s.toks + 1 + 1 }) : wpAny (model prog w) A (call (.builtin "len") [.ref l]) Q E s := by
  have e2 : us.toArray.size = us.length := List.size_toArray
  exact len_tuple hl (by rw [e2]; omega) (by rw [e2]; exact h)
theorem ind_spec (w : World) (l : List Nat) (q : WT) (ok : q.ok l) (tab : Int) (ht : 1 ≤ tab ∧ tab ≤ 100) (tt : Tok) : SpecG P1 w (Mine2.hd.heap_1 w.params) 480 480 101 [.ref q.x, .int tab tt] (q.led w 132 l) (fun _ => True)
    (fun v _ h' => (∃ t, v = .int (indV l tab) t) ∧ ∀ p ∈ q.led w 132 l, h'.get? p.1 = some p.2) := by
  intro p loose mean mg mb dp un gd cn cs ad ccd cl outer A₀ base h₀ L m s Q E B F X TT hk N hH hd hu hret
  obtain ⟨hpS, gnS, drS, tkS, osS⟩ := s
  (try dsimp only at F)
  (try dsimp only at N)
  (try dsimp only at hH)
  (try dsimp only at hret)
  refine wpAny_more (A := ktrTop 480 480 gd cn cs L ad ccd cl outer) ?_ hd hu
  refine wpAny_call ?_
  k_dflt end_is "my hide"
  intro g' L' h' eg F' N' B' X' T' st'
  obtain ⟨hI, hb, hn, hnt, hlen⟩ := ok
  dsimp only [WT.led, wsEnts, tupO] at N'
  (try dsimp only)
  (try k_fold)
  end_is "my A"
  clear B F X TT
  have hcl : q.cv.length = (wsF l).1.length := hI.length
  end_is "my go"
  refine For_invVF (by assumption) rfl rfl ?_
  end_is "my go"
  refine len_tp (News.isTup (by assumption) (by k_mem)) (by omega) ?_
  rw [hcl]
  end_is "my go"
  refine loop_range (n := ((wsF l).1.length - tab.toNat)) (σ := Int × Tok) (fun _ => q.led w 132 l) (fun c => [("self", .ref q.x), ("tabsize", .int tab tt), ("count", .ref q.tC), ("trailing", .int (q.b : Int) q.tb), ("il", .int c.1 c.2)]) (fun i c => c.1 = ilF tab (wsF l).1 i) (0, _) rfl rfl (by assumption) (range_small (by omega) (by omega) (by omega) (by omega)) (by rw [range_size]; omega) (by assumption) (by assumption) (fun _ h => h) ⟨rfl, rfl, rfl, rfl, rfl, trivial⟩ rfl ?_ ?_
  · intro i t cZ1 u6 h6 tk6 own hi hinv hoff F6 N6
    (try k_fold)
    obtain ⟨z, tz⟩ := cZ1
    dsimp only [WT.led, wsEnts, tupO, List.cons_append, List.nil_append] at hinv F6 N6
    (try k_fold)
    end_is "my go"
    refine item_anyT (News.isTup (by assumption) (by k_mem)) hI (by omega) (by omega) (by omega) ?_ (by with_unfolding_all rfl)
    intro tg
    have hq : 0 ≤ (tab + (i : Int)).fdiv tab ∧ (tab + (i : Int)).fdiv tab ≤ 20000 := by
      rw [Int.fdiv_eq_ediv_of_nonneg _ (by omega : 0 ≤ tab)]
      have h1 : 0 ≤ (tab + (i : Int)) / tab := Int.ediv_nonneg (by omega) (by omega)
      have h2 : (tab + (i : Int)) / tab ≤ tab + (i : Int) := Int.ediv_le_self _ (by omega)
      omega
    end_is "my go"
    refine endT (σ := Int × Tok) (Led := fun _ => q.led w 132 l) (ps := fun c => [("self", .ref q.x), ("tabsize", .int tab tt), ("count", .ref q.tC), ("trailing", .int (q.b : Int) q.tb), ("il", .int c.1 c.2)]) (_, _) (by assumption) (by assumption) (fun p hp => List.mem_append_left own hp) (fun p hp => List.mem_append_right (q.led w 132 l) hp) hoff ⟨rfl, rfl, rfl, rfl, rfl, trivial⟩ ?_
    (try dsimp only)
    rw [hinv, Int.fdiv_eq_ediv_of_nonneg _ (by omega : 0 ≤ tab)]
    rfl
  · intro cZ1 u6 h6 tk6 hinv F6 N6
    (try k_fold)
    obtain ⟨z, tz⟩ := cZ1
    have N7 := N6
    dsimp only [WT.led, wsEnts, tupO] at hinv F6 N6
    (try k_fold)
    end_is "my go"
    refine hret _ _ _ (hide_keep eg F6.keep) ⟨⟨_, congrArg (fun x => Value.int x _) ?_⟩, fun p hp => (N7 p hp).1⟩
    rw [hinv, hb, hnt]; rfl
end
section
def leadStep (s : List Nat) (n : Int) : List Nat := if n % 3 = 1 ∧ s.count 9 < 3 then s ++ [9] else s ++ [32]
def leadL (ns : List Int) : List Nat := ns.foldl leadStep []
theorem leadStep_len (s : List Nat) (n : Int) : (leadStep s n).length = s.length + 1 := by unfold leadStep; split <;> simp
theorem lead_fold_len (ns : List Int) : ∀ s : List Nat, (ns.foldl leadStep s).length = s.length + ns.length := by
  induction ns with
  | nil => intro s; rfl
  | cons n r ih => intro s; rw [List.foldl_cons, ih, leadStep_len, List.length_cons]; omega
theorem leadL_len (ns : List Int) : (leadL ns).length = ns.length := by unfold leadL; rw [lead_fold_len]; simp
theorem leadL_snoc (ns : List Int) (i : Nat) (n : Int) (h : ns[i]? = some n) : leadL (ns.take (i + 1)) = leadStep (leadL (ns.take i)) n := by
  unfold leadL; rw [List.take_add_one, h, List.foldl_append]; rfl
theorem leadStep_sg {s : List Nat} {n : Int} (h : ∀ c ∈ s, c = 9 ∨ c = 32) : ∀ c ∈ leadStep s n, c = 9 ∨ c = 32 := by
  intro c hc
  unfold leadStep at hc
  split at hc <;> rcases List.mem_append.mp hc with hc | hc
  · exact h c hc
  · exact .inl (List.mem_singleton.mp hc)
  · exact h c hc
  · exact .inr (List.mem_singleton.mp hc)
theorem lead_fold_sg (ns : List Int) : ∀ s : List Nat, (∀ c ∈ s, c = 9 ∨ c = 32) → ∀ c ∈ ns.foldl leadStep s, c = 9 ∨ c = 32 := by
  induction ns with
  | nil => intro s h; exact h
  | cons n r ih => intro s h; exact ih _ (leadStep_sg h)
theorem leadL_sg (ns : List Int) : ∀ c ∈ leadL ns, c = 9 ∨ c = 32 := lead_fold_sg ns [] fun _ h => nomatch h
/-- all texts of the two signs, by their length -/
def allW : Nat → List (List Nat)
  | 0 => [[]]
  | n + 1 => (allW n).flatMap fun l => [9 :: l, 32 :: l]
theorem allW_mem : ∀ l : List Nat, (∀ c ∈ l, c = 9 ∨ c = 32) → l ∈ allW l.length
  | [], _ => by simp [allW]
  | c :: r, h => by
    have ih := allW_mem r fun x hx => h x (List.mem_cons_of_mem _ hx)
    simp only [List.length_cons, allW, List.mem_flatMap]
    refine ⟨r, ih, ?_⟩
    rcases h c (List.mem_cons_self ..) with rfl | rfl <;> simp
theorem count_all : ((List.range 7).all fun n => (allW n).all fun s => Txt.count (T s) (T [9]) == ((s.count 9 : Nat) : Int)) = true := by decide +kernel
theorem count_T {s : List Nat} (h : ∀ c ∈ s, c = 9 ∨ c = 32) (hl : s.length ≤ 6) : Txt.count (T s) (T [9]) = ((s.count 9 : Nat) : Int) := by
  have h1 := List.all_eq_true.mp count_all s.length (List.mem_range.mpr (by omega))
  exact eq_of_beq (List.all_eq_true.mp h1 s (allW_mem s h))
theorem lead_spec (w : World) (vs : List Value) (ns : List Int) (hv : IntsAre vs ns) (hl : ns.length ≤ 6) (l : Addr) : Spec P1 w (Mine2.hd.heap_1 w.params) 500 500 157 [.ref l] (fun h => h.IsList l vs.toArray) (fun v _ _ => ∃ t, v = .str (T (leadL ns)) t) := by
  intro p loose mean mg mb dp un gd cn cs a ccd cl outer A₀ base h₀ L m s Q E B F X TT hk hH hd hu hret
  obtain ⟨hpS, gnS, drS, tkS, osS⟩ := s
  (try dsimp only at F)
  (try dsimp only at hH)
  (try dsimp only at hret)
  refine wpAny_more (A := ktrTop 500 500 gd cn cs L a ccd cl outer) ?_ hd hu
  refine wpAny_call ?_
  k_dflt end_is "my call"
  intro g' L' h' eg F' N' B' X' T'
  (try dsimp only at eg)
  subst eg
  (try dsimp only)
  (try k_fold)
  end_is "my A"
  clear B F X TT
  end_is "my go"
  refine For_invVF (by assumption) rfl rfl ?_
  end_is "my go"
  refine loop_list (σ := List Nat × Tok) (nn := 0) (fun _ => []) (fun c => [("numbers", .ref l), ("signs", .str (T c.1) c.2)]) (fun i c => c.1 = leadL (ns.take i)) ([], _) rfl rfl (.inl hH) (by assumption) (by assumption) (fun _ h => nomatch h) ⟨rfl, rfl, trivial⟩ rfl ?_ ?_
  · intro i v cZ1 u h tk own hvi hinv hoff F1 N1
    (try k_fold)
    obtain ⟨sg0, tsg⟩ := cZ1
    obtain ⟨n, t, hin, rfl⟩ := ints_get hv hvi
    (try dsimp only at hinv F1)
    have hlen : sg0.length ≤ 6 := by
      rw [hinv, leadL_len, List.length_take]; omega
    have hsg : ∀ c ∈ sg0, c = 9 ∨ c = 32 := by rw [hinv]; exact leadL_sg _
    have hcnt := count_T hsg hlen
    (try k_fold)
    end_is "my go"
    · rename Int.fmod _ _ = 1 => hm
      rename _ < (3 : Int) => hc
      rw [Int.fmod_eq_emod_of_nonneg _ (by decide)] at hm
      rw [hcnt] at hc
      refine endT (_, _) (by assumption) (by assumption) (fun _ h => nomatch h) (fun _ h => h) hoff ⟨rfl, rfl, trivial⟩ ?_
      (try dsimp only)
      rw [leadL_snoc ns i n hin, ← hinv, leadStep, if_pos ⟨hm, by omega⟩]
    · rename ¬ (_ < (3 : Int)) => hc
      rw [hcnt] at hc
      refine endT (_, _) (by assumption) (by assumption) (fun _ h => nomatch h) (fun _ h => h) hoff ⟨rfl, rfl, trivial⟩ ?_
      (try dsimp only)
      rw [leadL_snoc ns i n hin, ← hinv, leadStep, if_neg (fun q => hc (by have := q.2; omega))]
    · rename Int.fmod _ _ ≠ 1 => hm
      rw [Int.fmod_eq_emod_of_nonneg _ (by decide)] at hm
      refine endT (_, _) (by assumption) (by assumption) (fun _ h => nomatch h) (fun _ h => h) hoff ⟨rfl, rfl, trivial⟩ ?_
      (try dsimp only)
      rw [leadL_snoc ns i n hin, ← hinv, leadStep, if_neg (fun q => hm q.1)]
  · intro cZ1 u h tk hinv F1 N1
    (try k_fold)
    obtain ⟨sg0, tsg⟩ := cZ1
    (try dsimp only at hinv F1)
    rw [hv.length, List.take_length] at hinv
    subst hinv
    (try k_fold)
    end_is "my go"
    exact hret _ _ _ (Fr.keep (by assumption)) ⟨_, rfl⟩
end
section
/-- does the word lie in the signs, in order -/
def liesL : List Nat → List Nat → Bool
  | [], _ => true
  | c :: w, s => match s.dropWhile (fun x => x != c) with
    | [] => false
    | _ :: r => liesL w r
theorem dropW_step {s : List Nat} {z c x : Nat} (h : s[z]? = some x) (hne : x ≠ c) : (s.drop z).dropWhile (fun y => y != c) = (s.drop (z + 1)).dropWhile (fun y => y != c) := by
  rw [List.drop_eq_getElem?_toList_append, h]
  simp [hne]
theorem dropW_hit {s : List Nat} {z c : Nat} (h : s[z]? = some c) : (s.drop z).dropWhile (fun y => y != c) = c :: s.drop (z + 1) := by
  rw [List.drop_eq_getElem?_toList_append, h]
  simp
theorem lies_hit {w s : List Nat} {i k z c : Nat} (hi : w[i]? = some c) (hz : s[z]? = some c) (hd : (s.drop z).dropWhile (fun y => y != c) = (s.drop k).dropWhile (fun y => y != c)) :
    liesL (w.drop i) (s.drop k) = liesL (w.drop (i + 1)) (s.drop (z + 1)) := by
  rw [List.drop_eq_getElem?_toList_append (l := w) (i := i), hi]
  simp only [Option.toList_some, List.cons_append, List.nil_append, liesL]
  rw [← hd, dropW_hit hz]
theorem lies_miss {w s : List Nat} {i k c : Nat} (hi : w[i]? = some c) (hd : (s.drop s.length).dropWhile (fun y => y != c) = (s.drop k).dropWhile (fun y => y != c)) :
    liesL (w.drop i) (s.drop k) = false := by
  rw [List.drop_eq_getElem?_toList_append (l := w) (i := i), hi]
  simp only [Option.toList_some, List.cons_append, List.nil_append, liesL]
  rw [← hd, List.drop_length]
  rfl
theorem sgn_ne (x c : Nat) : (T [x] != ({ cps := #[c] } : Str)) = decide (x ≠ c) := by
  show (!(T [x] == T [c])) = _
  rw [T_beq]
  by_cases h : x = c <;> simp [h]
theorem lies_spec (w : World) (a b : List Nat) (hal : a.length ≤ 100) (hbl : b.length ≤ 100) (ta tb : Tok) : Spec P1 w (Mine2.hd.heap_1 w.params) 500 500 176 [.str (T a) ta, .str (T b) tb] (fun _ => True) (fun v _ _ => v = .bool (liesL a b)) := by
  intro p loose mean mg mb dp un gd cn cs ad ccd cl outer A₀ base h₀ L m s Q E B F X TT hk hH hd hu hret
  obtain ⟨hpS, gnS, drS, tkS, osS⟩ := s
  (try dsimp only at F)
  (try dsimp only at hH)
  (try dsimp only at hret)
  refine wpAny_more (A := ktrTop 500 500 gd cn cs L ad ccd cl outer) ?_ hd hu
  refine wpAny_call ?_
  k_dflt end_is "my call"
  intro g' L' h' eg F' N' B' X' T'
  (try dsimp only at eg)
  subst eg
  (try dsimp only)
  (try k_fold)
  end_is "my A"
  clear B F X TT
  end_is "my go"
  refine For_invVF (by assumption) rfl rfl ?_
  end_is "my go"
  refine loop_str (σ := Nat × Tok) (fun _ => []) (fun c => [("word", .str (T a) ta), ("signs", .str (T b) tb), ("spot", .int (c.1 : Int) c.2)]) (fun i c => c.1 ≤ b.length ∧ liesL a b = liesL (a.drop i) (b.drop c.1)) (0, _) rfl rfl (by assumption) (by assumption) (fun _ h => nomatch h) ⟨rfl, rfl, rfl, trivial⟩ ⟨Nat.zero_le _, rfl⟩ ?_ ?_
  · intro i cp t cZ1 u h tk own hcp cZ2 hoff F1 N1
    (try k_fold)
    obtain ⟨k, tk0⟩ := cZ1
    obtain ⟨hkb, hlie⟩ := cZ2
    have hb : a[i]? = some cp := by simpa [T] using hcp
    dsimp only at hkb hlie F1
    end_is "my go"
    refine while_d (σ := Nat × Tok) (fun _ => own) (fun c => [("word", .str (T a) ta), ("signs", .str (T b) tb), ("spot", .int (c.1 : Int) c.2), ("sign", .str ⟨#[cp]⟩ t)]) (fun c => c.1 ≤ b.length ∧ (b.drop c.1).dropWhile (fun y => y != cp) = (b.drop k).dropWhile (fun y => y != cp)) (fun c => b.length - c.1)
      (fun c => c.1 ≤ b.length ∧ (b.drop c.1).dropWhile (fun y => y != cp) = (b.drop k).dropWhile (fun y => y != cp) ∧ (c.1 = b.length ∨ b[c.1]? = some cp)) (k, _) (by assumption) (by assumption) (fun _ h => by simpa using h) ⟨rfl, rfl, rfl, rfl, trivial⟩ ⟨hkb, rfl⟩ ?_ ?_
    · intro cZ1 u2 h2 tk2 cZ2 F2 N2
      (try k_fold)
      obtain ⟨z, tz⟩ := cZ1
      obtain ⟨hz1, hz2⟩ := cZ2
      dsimp only at hz1 hz2 F2
      rcases Nat.lt_or_ge z b.length with hlt | hge
      · obtain ⟨x, hx⟩ : ∃ c, b[z]? = some c := ⟨b[z], by simp [hlt]⟩
        have hx' : b[(z : Int).toNat]? = some x := by simpa using hx
        end_is "my go"
        · rename (_ != _) = true => hne
          rw [sgn_ne] at hne
          have hne := of_decide_eq_true hne
          exact endW (z + 1, _) (by assumption) (by assumption) (fun _ h => h) ⟨rfl, rfl, rfl, rfl, trivial⟩ ⟨hlt, by rw [← hz2, dropW_step hx hne]⟩ (by (try dsimp only); omega)
        · rename (_ != _) = false => hne
          rw [sgn_ne] at hne
          have hne : x = cp := Decidable.not_not.mp (of_decide_eq_false hne)
          exact endX (z, _) (by assumption) (by assumption) (fun _ h => h) ⟨rfl, rfl, rfl, rfl, trivial⟩ ⟨hz1, hz2, .inr (hne ▸ hx)⟩
      · end_is "my go"
        exact endX (z, _) (by assumption) (by assumption) (fun _ h => h) ⟨rfl, rfl, rfl, rfl, trivial⟩ ⟨hz1, hz2, .inl (by (try dsimp only); omega)⟩
    · intro cZ1 u2 h2 tk2 cZ2 F2 N2
      (try k_fold)
      obtain ⟨z, tz⟩ := cZ1
      obtain ⟨hz1, hz2, hz3⟩ := cZ2
      dsimp only at hz1 hz2 hz3 F2
      end_is "my go"
      · rename (z : Int) = _ => hz
        have hz : z = b.length := by omega
        subst hz
        exact hret _ _ _ (Fr.keep (by assumption)) (by rw [hlie, lies_miss hb hz2])
      · rename (z : Int) ≠ _ => hz
        have hx := hz3.resolve_left (fun e => hz (by omega))
        have hzb : z < b.length := (List.getElem?_eq_some_iff.mp hx).1
        exact endT (z + 1, _) (by assumption) (by assumption) (fun _ h => nomatch h) (fun _ h => h) hoff ⟨rfl, rfl, rfl, trivial⟩ ⟨hzb, by rw [hlie, lies_hit hb hx hz2]⟩
  · intro cZ1 u h tk cZ2 F1 N1
    (try k_fold)
    obtain ⟨k, tk0⟩ := cZ1
    obtain ⟨hkb, hlie⟩ := cZ2
    dsimp only at hkb hlie F1
    have e : a.drop (T a).cps.size = [] := by simp [T]
    rw [e] at hlie
    end_is "my go"
    have hl : liesL a b = true := by rw [hlie]; rfl
    exact hret _ _ _ (Fr.keep (by assumption)) (by rw [hl])
end
section
local macro_rules | `(tactic| end_is "my stop") => `(tactic| (with_reducible show wpAny _ _ (call (Value.builtin "str.join") _) _ _ _))
local macro_rules | `(tactic| end_is "my stop") => `(tactic| (with_reducible show wpAny _ _ (binaryOp _ (Value.ref _) _) _ _ _))
theorem strs_carried : ∀ {ys : List Value} {xs : List Str}, CarriedAll ys (xs.map PyData.str) → StrsAre ys xs
  | _, [], .nil => .nil
  | _, _ :: _, .cons (.str _ t) r => .cons _ t (strs_carried r)
theorem strs_app : ∀ {xs ys : List Value} {as bs : List Str}, StrsAre xs as → StrsAre ys bs → StrsAre (xs ++ ys) (as ++ bs)
  | _, _, _, _, .nil, h => h
  | _, _, _, _, .cons y t r, h => .cons y t (strs_app r h)
theorem signs_T (a : List Nat) : PyProof.Rows.signs (T a) = a.map fun c => T [c] := by
  simp [PyProof.Rows.signs, T]
theorem sum_one (a : List Nat) : ((a.map fun c => T [c]).map (·.length)).sum = a.length := by
  induction a with
  | nil => rfl
  | cons c r ih => simp only [List.map_cons, List.sum_cons, List.length_cons, T_len] at *; rw [ih]; simp; omega
theorem strs_len {ys : List Value} {xs : List Str} (h : StrsAre ys xs) : ys.length = xs.length := by
  induction h with
  | nil => rfl
  | cons _ _ _ ih => simp [ih]
theorem dots_spec (w : World) (a : List Nat) (hal : a.length ≤ 100) (ta : Tok) : Spec P1 w (Mine2.hd.heap_1 w.params) 500 500 183 [.str (T a) ta] (fun _ => True) (fun v _ _ => ∃ t, v = .str (T (dots.intercalate ([] :: a.map (fun c => [c]) ++ [[]]))) t) := by
  intro p loose mean mg mb dp un gd cn cs ad ccd cl outer A₀ base h₀ L m s Q E B F X TT hk hH hd hu hret
  obtain ⟨hpS, gnS, drS, tkS, osS⟩ := s
  (try dsimp only at F)
  (try dsimp only at hH)
  (try dsimp only at hret)
  refine wpAny_more (A := ktrTop 500 500 gd cn cs L ad ccd cl outer) ?_ hd hu
  refine wpAny_call ?_
  k_dflt end_is "my call"
  intro g' L' h' eg F' N' B' X' T'
  (try dsimp only at eg)
  subst eg
  (try dsimp only)
  (try k_fold)
  end_is "my A"
  clear B F X TT
  end_is "my go"
  refine list_strD rfl (by assumption) (by assumption) ?_ (by rw [T_len]; exact Nat.le_trans hal (by decide))
  intro h2 tk2 ys F2 N2 k2 n2 l2 p2 c2
  rw [signs_T] at c2
  have hys := strs_carried c2
  have hyl : ys.length = a.length := by rw [strs_len hys, List.length_map]
  (try k_fold)
  end_is "my go"
  refine kmk_add_lit (by assumption) (by assumption) (News.isList (by assumption) (by k_mem)) l2 rfl ?_ (by simp; exact Nat.le_trans (by omega : _ ≤ 200) (by decide))
  intro D3 h3 F3 N3 lt3
  end_is "my go"
  refine kmk_add_lit (by assumption) (by assumption) (News.isList (by assumption) (by k_mem)) (News.isList (by assumption) (by k_mem)) rfl ?_ (by simp; exact Nat.le_trans (by omega : _ ≤ 200) (by decide))
  intro D4 h4 F4 N4 lt4
  end_is "my go"
  show wpAny _ _ (call _ [.str _ _, .ref D4]) _ _ _
  have hall : ∀ t1 t2 : Tok, StrsAre (([.str (T []) t1] ++ ys) ++ [.str (T []) t2]) (([] :: a.map (fun c => [c]) ++ [[]]).map T) := by
    intro t1 t2
    have e : ([] :: a.map (fun c => [c]) ++ [[]]).map T = ([T []] ++ a.map fun c => T [c]) ++ [T []] := by simp [Function.comp_def]
    rw [e]
    exact strs_app (strs_app (.cons _ _ .nil) hys) (.cons _ _ .nil)
  refine join_list (News.isList (by assumption) (.head _)) (hall _ _) ?_ ?_
  · have := sum_one a
    simp only [List.map_map, Function.comp_def, T_len, List.length_cons, List.length_nil] at this
    simp [T_len, Function.comp_def, this, dots]
    omega
  intro t' k
  rw [T_join]
  exact hret _ _ _ (Fr.keep (by assumption)) ⟨_, rfl⟩
end
section
theorem ints_index {vs : List Value} : ∀ (ns : List Int), vs.length = ns.length → (∀ (j : Nat) (v : Value), vs[j]? = some v → ∃ t, v = .int (ns.getD j 0) t) → IntsAre vs ns := by
  induction vs with
  | nil => intro ns h _; rw [List.length_eq_zero_iff.mp h.symm]; exact .nil
  | cons v r ih =>
    intro ns h hv
    cases ns with
    | nil => simp at h
    | cons n ns =>
      obtain ⟨t, e⟩ := hv 0 v rfl
      have e : v = .int n t := e
      subst e
      exact .cons _ _ (ih ns (by simpa using h) fun j v' hj => by simpa using hv (j + 1) v' (by simpa using hj))
theorem paired_len {α β : Type} {G : α → β → Prop} {vs : List α} {ys : List β} (h : Paired G vs ys) : vs.length = ys.length := by
  induction h with
  | nil => rfl
  | cons _ _ ih => simp [ih]
end
section
local macro_rules | `(tactic| walk_at "binaryOp Pow int int") => `(tactic| (refine pow_int ?_ ?_ ?_))
def waysL (k : Nat) (u : Int) : Int := ((List.range k).map fun i => u ^ i).sum + 1
theorem pow_fits {u : Int} {i : Int} (hu : u.natAbs < 2 ^ 5000) (h0 : 0 ≤ i) (h1 : i ≤ 100) : (Builtin.Int.intBits u : Int) * i ≤ 2 ^ 27 := by
  have e := bits_le hu
  have : (Builtin.Int.intBits u : Int) * i ≤ 5000 * 100 := Int.mul_le_mul (by omega) h1 h0 (by decide)
  omega
theorem pows_ints {u : Int} : ∀ {vs ys : List Value} (o : Nat), (∀ j v, vs[j]? = some v → ∃ t, v = Value.int ((o + j : Nat) : Int) t) → Paired (fun v y => ∃ (i : Int) (t : Tok), (∃ t', v = Value.int i t') ∧ y = Value.int (u ^ i.toNat) t) vs ys → IntsAre ys ((List.range' o vs.length).map fun i => u ^ i)
  | _, _, _, _, .nil => .nil
  | v :: vs, y :: ys, o, hv, .cons h r => by
    obtain ⟨i, t, ⟨t', e⟩, rfl⟩ := h
    obtain ⟨t2, e2⟩ := hv 0 v rfl
    rw [e] at e2
    cases e2
    rw [List.length_cons, List.range'_succ, List.map_cons]
    refine .cons _ _ (pows_ints (o + 1) (fun j v hj => ?_) r)
    obtain ⟨t3, e3⟩ := hv (j + 1) v hj
    exact ⟨t3, by rw [e3]; congr 1; omega⟩
theorem ways_spec (w : World) (n : Int) (u : Int) (hn : 0 ≤ n ∧ n ≤ 8) (hu0 : u.natAbs < 2 ^ 5000) (tn tu : Tok) : Spec P1 w (Mine2.hd.heap_1 w.params) 500 500 200 [.int n tn, .int u tu] (fun _ => True) (fun v _ _ => ∃ t, v = .int (waysL n.toNat u) t) := by
  intro p loose mean mg mb dp un gd cn cs ad ccd cl outer A₀ base h₀ L m s Q E B F X TT hk hH hd hu hret
  obtain ⟨hpS, gnS, drS, tkS, osS⟩ := s
  (try dsimp only at F)
  (try dsimp only at hH)
  (try dsimp only at hret)
  refine wpAny_more (A := ktrTop 500 500 gd cn cs L ad ccd cl outer) ?_ hd hu
  refine wpAny_call ?_
  have N : News h₀ L hpS [] := fun _ h => nomatch h
  k_dflt end_is "my cells"
  intro g' L' h' tk' cells' eg F' N' Y' B' X' T' st' l1 eL
  (try k_lt l1)
  k_cells Y'
  (try simp only [List.cons_append, List.nil_append] at N')
  have eg : g' = hpS := eg
  subst eg
  (try dsimp only)
  (try k_fold)
  end_is "my A"
  clear B F X TT N
  end_is "my go"
  refine comp_eval (fun _ => true) (fun v y => ∃ (i : Int) (t : Tok), (∃ t', v = .int i t') ∧ y = .int (u ^ i.toNat) t) (by assumption) rfl (by decide) rfl (by decide) rfl ?_
  end_is "my go"
  refine ⟨_, _, _, Src.range (by assumption) (range_small (by omega) (by omega) (by omega) (by omega)) (n := n.toNat) (by rw [range_size]; omega), Nat.le_trans (by omega : n.toNat ≤ 100) (by decide), rfl, by assumption, by assumption, CompIn.plain ?_, ?_⟩
  · intro C i v s₃ m₃ E' hP F3 N3 hn3 hm3
    obtain ⟨hi, t, rfl⟩ := hP
    (try k_fold)
    end_is "my go"
    · omega
    · exact pow_fits hu0 (by omega) (by omega)
    exact ⟨⟨_, _, ⟨t, rfl⟩, rfl⟩, _, _, rfl, fun _ _ e => e⟩
  · intro D ys vs' h2 tk2 k2 F2 N2 hne hlen hP2 hpair
    rw [List.filter_eq_self.mpr (fun _ _ => rfl)] at hpair
    have hI : IntsAre ys ((List.range n.toNat).map fun i => u ^ i) := by
      have := pows_ints (u := u) 0 (fun j v hj => ?_) hpair
      · rwa [hlen, ← List.range_eq_range'] at this
      · obtain ⟨_, t, rfl⟩ := hP2 j v hj
        exact ⟨t, rfl⟩
    (try k_fold)
    end_is "my go"
    exact hret _ _ _ (Fr.keep (by assumption)) ⟨_, rfl⟩
end
section
local macro_rules | `(tactic| end_is "my stop") => `(tactic| (with_reducible show wpAny _ _ (newList [_, _]) _ _ _))
def stepW (a b : List Nat) (ws : List (List Nat)) : List (List Nat) := ws.flatMap fun w => [w ++ a, w ++ b]
def textsL : Nat → List (List Nat)
  | 0 => [[]]
  | n + 1 => stepW [32] [9] (textsL n)
theorem stepW_len (a b : List Nat) : ∀ ws : List (List Nat), (stepW a b ws).length = 2 * ws.length
  | [] => rfl
  | w :: r => by
    have := stepW_len a b r
    unfold stepW at *
    rw [List.flatMap_cons, List.length_append, this, List.length_cons]; simp; omega
theorem stepW_mem {a b : List Nat} {ws : List (List Nat)} {x : List Nat} (h : x ∈ stepW a b ws) : ∃ w ∈ ws, x = w ++ a ∨ x = w ++ b := by
  obtain ⟨w, hw, hx⟩ := List.mem_flatMap.mp h
  refine ⟨w, hw, ?_⟩
  rcases List.mem_cons.mp hx with h | h
  · exact .inl h
  · exact .inr (List.mem_singleton.mp h)
theorem textsL_len (n : Nat) : (textsL n).length = 2 ^ n := by
  induction n with
  | zero => rfl
  | succ n ih => rw [textsL, stepW_len, ih, Nat.pow_succ, Nat.mul_comm]
theorem textsL_mem (n : Nat) : ∀ w ∈ textsL n, w.length = n := by
  induction n with
  | zero => intro w hw; rw [List.mem_singleton.mp hw]; rfl
  | succ n ih =>
    intro w hw
    obtain ⟨u, hu, h⟩ := stepW_mem hw
    rcases h with rfl | rfl <;> rw [List.length_append, ih u hu] <;> rfl
theorem words_get {vs : List Value} {xs : List (List Nat)} (h : StrsAre vs (xs.map T)) {i : Nat} {v : Value} (e : vs[i]? = some v) : ∃ w t, xs[i]? = some w ∧ v = .str (T w) t := by
  induction xs generalizing vs i with
  | nil => cases h; cases e
  | cons x r ih =>
    cases h with
    | cons _ t h' =>
      cases i with
      | zero => exact ⟨x, t, rfl, (Option.some.inj e).symm⟩
      | succ i => exact ih h' e
theorem strs_pairs {a b : List Nat} : ∀ (ws : List (List Nat)) (yss : List (List Value)), yss.length = ws.length →
    (∀ (i : Nat) (zs : List Value), yss[i]? = some zs → zs.length = 2 ∧ ∀ (j : Nat) (y : Value), zs[j]? = some y → ∃ t, y = Value.str (T (ws.getD i [] ++ if j = 0 then a else b)) t) → StrsAre yss.flatten ((stepW a b ws).map T)
  | [], [], _, _ => .nil
  | w :: ws, zs :: yss, hl, h => by
    obtain ⟨h2, hz⟩ := h 0 zs rfl
    have ih := strs_pairs ws yss (by simpa using hl) fun i zs' hi => h (i + 1) zs' hi
    match zs, h2 with
    | [y, z], _ =>
      obtain ⟨t, rfl⟩ := hz 0 y rfl
      obtain ⟨t', rfl⟩ := hz 1 z rfl
      have e : (stepW a b (w :: ws)).map T = [T (w ++ a), T (w ++ b)] ++ (stepW a b ws).map T := by simp [stepW]
      rw [e]
      exact strs_app (.cons _ _ (.cons _ _ .nil)) ih
structure WsSt where
  D : Addr
  vs : List Value
  k : Nat
theorem texts_spec (w : World) (n : Int) (hn : 0 ≤ n ∧ n ≤ 6) (tn : Tok) : Spec P1 w (Mine2.hd.heap_1 w.params) 500 500 188 [.int n tn] (fun _ => True) (fun v h h' => ∃ D vs k, v = .ref D ∧ h'.get? D = some (listOf (vs : List Value).toArray k) ∧ h.get? D = none ∧ StrsAre vs ((textsL n.toNat).map T)) := by
  intro p loose mean mg mb dp un gd cn cs ad ccd cl outer A₀ base h₀ L m s Q E B F X TT hk hH hd hu hret
  obtain ⟨hpS, gnS, drS, tkS, osS⟩ := s
  (try dsimp only at F)
  (try dsimp only at hH)
  (try dsimp only at hret)
  refine wpAny_more (A := ktrTop 500 500 gd cn cs L ad ccd cl outer) ?_ hd hu
  refine wpAny_call ?_
  k_dflt end_is "my call"
  intro g' L' h' eg F' N' B' X' T'
  (try dsimp only at eg)
  subst eg
  (try dsimp only)
  (try k_fold)
  end_is "my A"
  clear B F X TT
  end_is "my go"
  refine For_invVF (by assumption) rfl rfl ?_
  end_is "my go"
  refine loop_range (n := n.toNat) (σ := WsSt) (fun c => [(c.D, listOf c.vs.toArray c.k)]) (fun c => [("size", .int n tn), ("words", .ref c.D)]) (fun i c => StrsAre c.vs ((textsL i).map T)) ⟨_, [.str (T []) _], 0⟩ rfl rfl (by assumption) (range_small (by omega) (by omega) (by omega) (by omega)) (by rw [range_size]; omega) (by assumption) (by assumption) (fun q hq => by rw [List.mem_singleton.mp hq]; k_mem) ⟨rfl, rfl, trivial⟩ (.cons _ _ .nil) ?_ ?_
  · intro i ti cZ1 u h tk own hi hinv hoff F1 N1
    (try k_fold)
    obtain ⟨D, vs, k⟩ := cZ1
    dsimp only at hinv F1 N1
    have hvl : vs.length = (textsL i).length := by rw [strs_len hinv, List.length_map]
    have hpl : (textsL i).length ≤ 64 := by rw [textsL_len]; exact Nat.pow_le_pow_right (by decide) (by omega : i ≤ 6)
    end_is "my go"
    refine comp2_asg 2 (fun _ => 2) (fun i' j y => ∃ t, y = .str (T ((textsL i).getD i' [] ++ if j = 0 then [32] else [9])) t) (by assumption) rfl rfl rfl (by decide) rfl (by decide) rfl rfl rfl rfl (by decide) ?_
    end_is "my go"
    refine ⟨_, _, _, Src.list (News.isList (by assumption) (by k_mem)), fun _ => Nat.le_refl _, by rw [hvl]; exact Nat.le_trans (by omega : _ ≤ 200) (by decide), (by first | exact rfl | trivial), by assumption, by assumption, ?_, ?_⟩
    · intro C D2 i' v s₃ m₃ E' oD hin hPv F3 N3 hne hn3 hm3
      obtain ⟨wd, t, hin', rfl⟩ := words_get hinv hPv
      have hg : (textsL i).getD i' [] = wd := by rw [List.getD_eq_getElem?_getD, hin']; rfl
      have hwl := textsL_mem i wd (List.mem_of_getElem? hin')
      rw [hg]
      (try k_fold)
      end_is "my go"
      refine wpAny_newList ?_ (Nat.le_of_ble_eq_true rfl)
      (try k_unfold)
      (try dsimp only)
      refine ⟨⟨_, _, rfl, fun _ _ e => Heap.get?_push_of_some _ e⟩, _, SrcC.list (vs := [_, _]) (News.isList (N3.push F3 (listOf #[_, _] 0)) (List.mem_cons_self ..)), fun ax _ e _ => by cases e; exact Nat.ne_of_gt (Heap.lt_size (N3 _ (List.mem_cons_self ..)).1), ?_⟩
      intro j v' s₅ m₅ E'' hj F5 N5 hn5 hm1 hm0
      (try k_fold)
      rcases j with _ | _ | j
      · cases hj
        end_is "my go"
        exact ⟨⟨_, rfl⟩, _, _, rfl, fun _ _ e => e⟩
      · cases hj
        end_is "my go"
        exact ⟨⟨_, rfl⟩, _, _, rfl, fun _ _ e => e⟩
      · cases hj
    intro D2 yss h2 tk2 k2 F2 N2 hne hlen hE
    (try k_fold)
    end_is "my go"
    refine endT ⟨D2, yss.flatten, k2⟩ (by assumption) (by assumption) (fun q hq => by rw [List.mem_singleton.mp hq]; exact List.mem_cons_self ..) ?_ ?_ ⟨rfl, rfl, trivial⟩ ?_
    · exact fun q hq => List.mem_cons_of_mem _ (List.mem_append_right _ hq)
    · exact fun q hq b hb => by rw [List.mem_singleton.mp hb]; exact hne q (List.mem_append_right _ hq)
    · exact strs_pairs (textsL i) yss (by rw [hlen, hvl]) hE
  · intro cZ1 u h tk hinv F1 N1
    (try k_fold)
    obtain ⟨D, vs, k⟩ := cZ1
    dsimp only at hinv F1 N1
    end_is "my go"
    have hD := N1 _ (List.mem_cons_self ..)
    exact hret _ _ _ (Fr.keep (by assumption)) ⟨D, vs, k, rfl, hD.1, hD.2.2, hinv⟩
end
section
local macro_rules | `(tactic| end_is "my stop") => `(tactic| (with_reducible show wpAny _ _ (newList [_, _]) _ _ _))
def baseL (size : Nat) : Nat → List (List Nat)
  | 0 => [[]]
  | n + 1 => stepW (List.replicate size 32) [9] (baseL size n)
def leastL (goal size : Nat) : List (List Nat) := if goal % size ≠ 0 then stepW (List.replicate (goal % size) 32) [9] (baseL size (goal / size)) else baseL size (goal / size)
theorem baseL_len (s n : Nat) : (baseL s n).length = 2 ^ n := by
  induction n with
  | zero => rfl
  | succ n ih => rw [baseL, stepW_len, ih, Nat.pow_succ, Nat.mul_comm]
theorem stepW_bound {a : List Nat} {ws : List (List Nat)} {B C : Nat} (ha : a.length ≤ C) (hC : 1 ≤ C) (h : ∀ w ∈ ws, w.length ≤ B) : ∀ w ∈ stepW a [9] ws, w.length ≤ B + C := by
  intro w hw
  obtain ⟨u, hu, e⟩ := stepW_mem hw
  have := h u hu
  rcases e with rfl | rfl <;> rw [List.length_append]
  · omega
  · simp only [List.length_cons, List.length_nil]; omega
theorem baseL_mem (s n : Nat) (hs : 1 ≤ s) : ∀ w ∈ baseL s n, w.length ≤ n * s := by
  induction n with
  | zero => intro w hw; rw [List.mem_singleton.mp hw]; exact Nat.zero_le _
  | succ n ih => rw [Nat.succ_mul]; exact stepW_bound (by rw [List.length_replicate]; exact Nat.le_refl _) hs ih
theorem least_spec (w : World) (goal size : Nat) (hg : goal ≤ 100) (hs : 1 ≤ size ∧ size ≤ 10) (hq : goal / size ≤ 5) (tg ts : Tok) : Spec P1 w (Mine2.hd.heap_1 w.params) 500 500 169 [.int (goal : Int) tg, .int (size : Int) ts] (fun _ => True) (fun v h h' => ∃ D vs k, v = .ref D ∧ h'.get? D = some (listOf (vs : List Value).toArray k) ∧ h.get? D = none ∧ StrsAre vs ((leastL goal size).map T)) := by
  intro p loose mean mg mb dp un gd cn cs ad ccd cl outer A₀ base h₀ L m s Q E B F X TT hk hH hd hu hret
  obtain ⟨hpS, gnS, drS, tkS, osS⟩ := s
  (try dsimp only at F)
  (try dsimp only at hH)
  (try dsimp only at hret)
  refine wpAny_more (A := ktrTop 500 500 gd cn cs L ad ccd cl outer) ?_ hd hu
  refine wpAny_call ?_
  have N : News h₀ L hpS [] := fun _ h => nomatch h
  k_dflt end_is "my cells"
  intro g' L' h' tk' cells' eg F' N' Y' B' X' T' st' l1 eL
  (try k_lt l1)
  k_cells Y'
  rename_i oS oG dS0 dG0
  have dS : oS.data = .cell (some (.int (size : Int) ts)) := dS0
  have dG : oG.data = .cell (some (.int (goal : Int) tg)) := dG0
  clear dS0 dG0
  (try simp only [List.cons_append, List.nil_append] at N')
  have eg : g' = hpS := eg
  subst eg
  (try dsimp only)
  (try k_fold)
  end_is "my A"
  clear B F X TT N
  end_is "my go"
  refine For_invVF (by assumption) rfl rfl ?_
  have hfd : (goal : Int).fdiv size = ((goal / size : Nat) : Int) := by rw [Int.fdiv_eq_ediv_of_nonneg _ (by omega)]; rfl
  have hfm : (goal : Int).fmod size = ((goal % size : Nat) : Int) := by rw [Int.fmod_eq_emod_of_nonneg _ (by omega)]; rfl
  have hml : goal % size < size := Nat.mod_lt _ hs.1
  end_is "my go"
  refine loop_range (n := goal / size) (σ := WsSt) (fun c => [(c.D, listOf c.vs.toArray c.k), (L' + 1 + 1, oS), (L' + 1, oG)]) (fun c => [("words", .ref c.D)]) (fun i c => StrsAre c.vs ((baseL size i).map T)) ⟨_, [.str (T []) _], 0⟩ rfl rfl (by assumption) (range_small (by omega) (by omega) (by omega) (by omega)) (by rw [range_size]; omega) (by assumption) (by assumption) (fun q hq => by simpa using hq) ⟨rfl, trivial⟩ (.cons _ _ .nil) ?_ ?_
  · intro i ti cZ1 u h tk own hi hinv hoff F1 N1
    (try k_fold)
    obtain ⟨D, vs, k⟩ := cZ1
    dsimp only at hinv F1 N1
    have hvl : vs.length = (baseL size i).length := by rw [strs_len hinv, List.length_map]
    have hpl : (baseL size i).length ≤ 64 := by rw [baseL_len]; exact Nat.pow_le_pow_right (by decide) (by omega : i ≤ 6)
    have his : i * size ≤ 5 * 10 := Nat.mul_le_mul (by omega) hs.2
    end_is "my go"
    refine comp2_asg 2 (fun _ => 2) (fun i' j y => ∃ t, y = .str (T ((baseL size i).getD i' [] ++ if j = 0 then List.replicate size 32 else [9])) t) (by assumption) rfl rfl rfl (by decide) rfl (by decide) rfl rfl rfl rfl (by decide) ?_
    end_is "my go"
    refine ⟨_, _, _, Src.list (News.isList (by assumption) (by k_mem)), fun _ => Nat.le_refl _, by rw [hvl]; exact Nat.le_trans (by omega : _ ≤ 200) (by decide), (by first | exact rfl | trivial), by assumption, by assumption, ?_, ?_⟩
    · intro C D2 i' v s₃ m₃ E' oD hin hPv F3 N3 hne hn3 hm3
      obtain ⟨wd, t, hin', rfl⟩ := words_get hinv hPv
      have hg : (baseL size i).getD i' [] = wd := by rw [List.getD_eq_getElem?_getD, hin']; rfl
      have hwl := baseL_mem size _ hs.1 wd (List.mem_of_getElem? hin')
      rw [hg]
      (try k_fold)
      end_is "my go"
      refine wpAny_newList ?_ (Nat.le_of_ble_eq_true rfl)
      (try k_unfold)
      (try dsimp only)
      refine ⟨⟨_, _, rfl, fun _ _ e => Heap.get?_push_of_some _ e⟩, _, SrcC.list (vs := [_, _]) (News.isList (N3.push F3 (listOf #[_, _] 0)) (List.mem_cons_self ..)), fun ax _ e _ => by cases e; exact Nat.ne_of_gt (Heap.lt_size (N3 _ (List.mem_cons_self ..)).1), ?_⟩
      intro j v' s₅ m₅ E'' hj F5 N5 hn5 hm1 hm0
      (try k_fold)
      rcases j with _ | _ | j
      · cases hj
        end_is "my go"
        exact ⟨⟨_, str_eq (by rw [rep_flat, Int.toNat_natCast]; rfl)⟩, _, _, rfl, fun _ _ e => e⟩
      · cases hj
        end_is "my go"
        exact ⟨⟨_, rfl⟩, _, _, rfl, fun _ _ e => e⟩
      · cases hj
    intro D2 yss h2 tk2 k2 F2 N2 hne hlen hE
    (try k_fold)
    end_is "my go"
    refine endT ⟨D2, yss.flatten, k2⟩ (by assumption) (by assumption) (fun q hq => ?_) ?_ ?_ ⟨rfl, trivial⟩ ?_
    · rcases List.mem_cons.mp hq with rfl | hq
      · exact List.mem_cons_self ..
      · exact List.mem_cons_of_mem _ (List.mem_append_left _ (List.mem_cons_of_mem _ hq))
    · exact fun q hq => List.mem_cons_of_mem _ (List.mem_append_right _ hq)
    · intro q hq b hb
      rcases List.mem_cons.mp hb with rfl | hb
      · exact hne q (List.mem_append_right _ hq)
      · exact hoff q hq b (List.mem_cons_of_mem _ hb)
    · exact strs_pairs (baseL size i) yss (by rw [hlen, hvl]) hE
  · intro cZ1 u h tk hinv F1 N1
    (try k_fold)
    obtain ⟨D, vs, k⟩ := cZ1
    dsimp only at hinv F1 N1
    have hvl : vs.length = (baseL size (goal / size)).length := by rw [strs_len hinv, List.length_map]
    have hpl : (baseL size (goal / size)).length ≤ 64 := by rw [baseL_len]; exact Nat.pow_le_pow_right (by decide) (by omega : goal / size ≤ 6)
    have his : goal / size * size ≤ 5 * 10 := Nat.mul_le_mul (by omega) hs.2
    end_is "my go"
    · rename Int.fmod _ _ ≠ 0 => hm
      have hmN : goal % size ≠ 0 := by omega
      refine comp2_asg 2 (fun _ => 2) (fun i' j y => ∃ t, y = .str (T ((baseL size (goal / size)).getD i' [] ++ if j = 0 then List.replicate (goal % size) 32 else [9])) t) (by assumption) rfl rfl rfl (by decide) rfl (by decide) rfl rfl rfl rfl (by decide) ?_
      end_is "my go"
      refine ⟨_, _, _, Src.list (News.isList (by assumption) (by k_mem)), fun _ => Nat.le_refl _, by rw [hvl]; exact Nat.le_trans (by omega : _ ≤ 200) (by decide), (by first | exact rfl | trivial), by assumption, by assumption, ?_, ?_⟩
      · intro C D2 i' v s₃ m₃ E' oD hin hPv F3 N3 hne hn3 hm3
        obtain ⟨wd, t, hin', rfl⟩ := words_get hinv hPv
        have hg : (baseL size (goal / size)).getD i' [] = wd := by rw [List.getD_eq_getElem?_getD, hin']; rfl
        have hwl := baseL_mem size _ hs.1 wd (List.mem_of_getElem? hin')
        rw [hg]
        (try k_fold)
        end_is "my go"
        refine wpAny_newList ?_ (Nat.le_of_ble_eq_true rfl)
        (try k_unfold)
        (try dsimp only)
        refine ⟨⟨_, _, rfl, fun _ _ e => Heap.get?_push_of_some _ e⟩, _, SrcC.list (vs := [_, _]) (News.isList (N3.push F3 (listOf #[_, _] 0)) (List.mem_cons_self ..)), fun ax _ e _ => by cases e; exact Nat.ne_of_gt (Heap.lt_size (N3 _ (List.mem_cons_self ..)).1), ?_⟩
        intro j v' s₅ m₅ E'' hj F5 N5 hn5 hm1 hm0
        (try k_fold)
        rcases j with _ | _ | j
        · cases hj
          end_is "my go"
          exact ⟨⟨_, str_eq (by rw [rep_flat, hfm, Int.toNat_natCast]; rfl)⟩, _, _, rfl, fun _ _ e => e⟩
        · cases hj
          end_is "my go"
          exact ⟨⟨_, rfl⟩, _, _, rfl, fun _ _ e => e⟩
        · cases hj
      intro D2 yss h2 tk2 k2 F2 N2 hne hlen hE
      (try k_fold)
      end_is "my go"
      have hD := (by assumption : News _ _ _ ((D2, _) :: _)) _ (List.mem_cons_self ..)
      refine hret _ _ _ (Fr.keep (by assumption)) ⟨D2, yss.flatten, k2, rfl, hD.1, hD.2.2, ?_⟩
      rw [leastL, if_pos hmN]
      exact strs_pairs (baseL size (goal / size)) yss (by rw [hlen, hvl]) hE
    · rename Int.fmod _ _ = 0 => hm
      have hmN : ¬ goal % size ≠ 0 := by omega
      have hD := N1 _ (List.mem_cons_self ..)
      refine hret _ _ _ (Fr.keep (by assumption)) ⟨D, vs, k, rfl, hD.1, hD.2.2, ?_⟩
      rw [leastL, if_neg hmN]
      exact hinv
end
section
noncomputable def getFd {q l X Y r d k run} {R : Prop} (_ : WalkO q l X Y r d k run → R) : DefRec := d
noncomputable def lawFd : DefRec := getFd Mine2.hd
noncomputable def lawBody : List Stmt := lawFd.body
noncomputable def lawScope : Scope := lawFd.scope
/-- the law's cells, in the order of its names -/
def lawCells (L : Addr) : List (Str × Addr) := [("reach", L + 1 + 1), ("tab", L + 1)]
theorem lawCells_eq (L : Addr) : cellsFrom (L + 1) lawScope.names [] = lawCells L := rfl
/-- the frame's names and the ledger at a place of the law -/
def AtH (h₀ : Heap) (L : Addr) (ps : List (Str × Value)) (news : List (Addr × Obj)) (h : Heap) : Prop := ∃ u, Fr h₀ L h (kstB u ps) ∧ News h₀ L h news
theorem at_of {h₀ h : Heap} {L : Addr} {ps : List (Str × Value)} {m : Str → Option Value} {news news' : List (Addr × Obj)} (F : Fr h₀ L h m) (N : News h₀ L h news') (hs : ∀ p ∈ news, p ∈ news') (hk : Lk m ps) : AtH h₀ L ps news h :=
  ⟨m, by rw [hk.kst]; exact F, fun p hp => N p (hs p hp)⟩
def SegQ (s : Shared) (Q : Heap → Prop) (f : Flow) (s' : Shared) : Prop := f = .next ∧ ∃ h tk, s' = { s with heap := h, toks := tk } ∧ Q h
/-- what a stretch of the law's body does -/
def Seg (w : World) (gd : Option (List Code)) (L a : Addr) (cd : Value) (k n : Nat) (P Q : Heap → Prop) : Prop :=
  ∀ (s : Shared) (E : Value → Shared → Prop), P s.heap →
    wpAny (model P1 w) (ktrTop 400 400 gd lawFd.name lawScope L a cd (lawCells L) []) (execs ((lawBody.drop k).take n) (envX lawFd.name lawScope L a cd (lawCells L)))
      (SegQ s Q) E s
theorem seg_end {s : Shared} {h : Heap} {tk : Nat} {Q : Heap → Prop} (q : Q h) : SegQ s Q .next { s with heap := h, toks := tk } := ⟨rfl, h, tk, rfl, q⟩
def cellsL (L : Addr) (o1 o2 : Obj) : List (Addr × Obj) := [(L + 1 + 1, o2), (L + 1, o1), (44, tabObj #[]), (51, tabObj #[])]
/-- the same, with the two cells -/
def AtC (h₀ : Heap) (L : Addr) (c1 c2 : Option Value) (ps : List (Str × Value)) (news : List (Addr × Obj)) (h : Heap) : Prop :=
  ∃ o1 o2, AtH h₀ L ps (news ++ cellsL L o1 o2) h ∧ o1.data = .cell c1 ∧ o2.data = .cell c2
theorem atC_of {h₀ h : Heap} {L : Addr} {c1 c2 : Option Value} {ps : List (Str × Value)} {m : Str → Option Value} {news news' : List (Addr × Obj)} {o1 o2 : Obj} (F : Fr h₀ L h m) (N : News h₀ L h news') (hk : Lk m ps)
    (e1 : o1.data = .cell c1) (e2 : o2.data = .cell c2)
    (hs : ∀ p ∈ news ++ cellsL L o1 o2, p ∈ news') : AtC h₀ L c1 c2 ps news h := ⟨o1, o2, at_of F N hs hk, e1, e2⟩
theorem atC_elim {C : Prop} {h₀ h : Heap} {L : Addr} {c1 c2 : Option Value} {ps : List (Str × Value)} {news : List (Addr × Obj)} (hA : AtC h₀ L c1 c2 ps news h)
    (k : ∀ o1 o2 u, Fr h₀ L h (kstB u ps) → News h₀ L h (news ++ cellsL L o1 o2) → o1.data = .cell c1 → o2.data = .cell c2 → C) : C :=
  let ⟨o1, o2, ⟨u, F, N⟩, d1, d2⟩ := hA; k o1 o2 u F N d1 d2
theorem int_some {x y : Int} {t : Tok} (h : x = y) : some (Value.int x t) = some (Value.int y t) := by rw [h]
theorem str_some {x y : List Nat} {t : Tok} (h : x = y) : some (Value.str (T x) t) = some (Value.str (T y) t) := by rw [h]
theorem cell_int {o : Obj} {x y : Int} {t : Tok} (d : o.data = .cell (some (.int x t))) (h : x = y) : o.data = .cell (some (.int y t)) := by rw [d, h]
def totalOf (ns : List Int) : Int := (ns.take 60).sum % 1000000
def drawnOf (ns : List Int) : List Int := ns.take 6 ++ [0, 1, 0, 0, 1, 0].drop (ns.take 6).length
theorem drawn_len (ns : List Int) : (drawnOf ns).length = 6 := by simp [drawnOf]; omega
def leadOf (ns : List Int) : List Nat := Mine2.leadL (drawnOf ns)
def tabN (ns : List Int) : Nat := (2 + (totalOf ns + 1) % 3).toNat
def colN (ns : List Int) : Nat := (col (tabN ns) (leadOf ns)).toNat
def reachN (ns : List Int) : Nat := (1 + (totalOf ns + 5) % 8).toNat
def widN (ns : List Int) : Nat := (9 + totalOf ns / 24 % 200).toNat
theorem tab_b (ns : List Int) : 2 ≤ tabN ns ∧ tabN ns ≤ 4 := by unfold tabN; omega
theorem tab_i (ns : List Int) : 2 + (totalOf ns + 1).fmod 3 = (tabN ns : Int) := by unfold tabN; rw [Int.fmod_eq_emod_of_nonneg _ (by decide)]; omega
theorem slI_from {prog : Program} {w : World} {A : Around} {E : Value → Shared → Prop} {s : Shared} {h₀ : Heap} {L : Addr} {m : Str → Option Value} {news : List (Addr × Obj)} {value slice : PySem.Expr} {Q : Value → Shared → Prop} {l : Addr} {vs : List Value} {ns : List Int} {n : Nat} {x : Int} {ux : Tok}
    (F : Fr h₀ L s.heap m) (N : News h₀ L s.heap news) (hm : (l, listOf vs.toArray n) ∈ news) (hi : IntsAre vs ns) (hx : 0 ≤ x) (hsz : vs.length ≤ 100000)
    (h : ∀ D h' ws, Fr h₀ L h' m → News h₀ L h' ((D, listOf ws.toArray 0) :: news) → (∀ p ∈ news, @LT.lt Nat _ p.1 D) → IntsAre ws (ns.drop x.toNat) → Q (.ref D) { s with heap := h' })
    (hs : subscripted slice false (.ref l) (.ref s.heap.objs.size) = operate [.ref s.heap.objs.size, .ref l] (getItem (.ref l) (.ref s.heap.objs.size)) := by with_unfolding_all rfl) (ht : ∀ r, letTemporaryGo value (.ref l) r = pure () := by intro _; with_unfolding_all rfl) :
    wpAny (model prog w) A (subscriptTail value slice (.ref l) (.ref s.heap.objs.size)) Q E { s with heap := s.heap.push { cls := .type "slice", data := .fields #[.int x ux, .none, .none] } } :=
  kmk_slice_ints F N (News.isList N hm) (.int _ _) .none hi (kmk_from hi hx) rfl (fun D ws h' F' N' l1 hI' _ _ => h D h' ws F' N' l1 hI') hs ht (by rw [List.size_toArray]; exact Nat.le_trans hsz (by decide))
end
section
local macro_rules | `(tactic| end_is "my stop") => `(tactic| (with_reducible show wpAny _ _ (binaryOp _ (Value.ref _) _) _ _ _))
def addAt (x : Int) (f : List Int) (mv : Nat) : List Int := if mv < f.length then f.set mv (f.getD mv 0 + x) else f
def movesL (size i : Nat) : List Nat := [i + 1, i - i % size + size]
def turnS (size : Nat) (sh f : List Int) (i : Nat) : List Int := (movesL size i).foldl (addAt (sh.getD i 0)) f
def freshS (size goal : Nat) (sh : List Int) (n : Nat) : List Int := (List.range n).foldl (turnS size sh) (List.replicate goal 0)
def countS (size goal : Nat) : Nat → List Int × List Int
  | 0 => (1 :: List.replicate (goal - 1) 0, [])
  | n + 1 => (freshS size goal (countS size goal n).1 goal, (countS size goal n).2 ++ [2 ^ n - (countS size goal n).1.sum])
theorem addAt_len (x : Int) (f : List Int) (mv : Nat) : (addAt x f mv).length = f.length := by unfold addAt; split <;> simp
theorem addAts_len (x : Int) : ∀ (ms : List Nat) (f : List Int), (ms.foldl (addAt x) f).length = f.length
  | [], _ => rfl
  | m :: r, f => by rw [List.foldl_cons, addAts_len x r, addAt_len]
theorem freshS_len (size goal : Nat) (sh : List Int) (n : Nat) : (freshS size goal sh n).length = goal := by
  induction n with
  | zero => simp [freshS]
  | succ n ih =>
    unfold freshS at *
    rw [List.range_succ, List.foldl_append, List.foldl_cons, List.foldl_nil, turnS, addAts_len, ih]
theorem freshS_succ (size goal : Nat) (sh : List Int) (n : Nat) : freshS size goal sh (n + 1) = turnS size sh (freshS size goal sh n) n := by
  unfold freshS; rw [List.range_succ, List.foldl_append]; rfl
theorem countS_len {size goal : Nat} (hg : 1 ≤ goal) (n : Nat) : (countS size goal n).1.length = goal := by
  cases n with
  | zero => simp [countS]; omega
  | succ n => exact freshS_len _ _ _ _
theorem countS_len2 (size goal : Nat) (n : Nat) : (countS size goal n).2.length = n := by
  induction n with
  | zero => rfl
  | succ n ih => simp only [countS, List.length_append, ih]; rfl
theorem mod_cast_ (a b : Nat) (hb : 0 < b) : (a : Int).fmod b = ((a % b : Nat) : Int) := by rw [Int.fmod_eq_emod_of_nonneg _ (by omega)]; rfl
theorem ints_snoc {vs : List Value} {ns : List Int} (h : IntsAre vs ns) (n : Int) (t : Tok) : IntsAre (vs ++ [.int n t]) (ns ++ [n]) := by
  induction h with
  | nil => exact .cons n t .nil
  | cons m u _ ih => exact .cons m u ih
theorem addAts_snoc (x : Int) (ms : List Nat) (f : List Int) (k mv : Nat) (h : ms[k]? = some mv) : (ms.take (k + 1)).foldl (addAt x) f = addAt x ((ms.take k).foldl (addAt x) f) mv := by
  rw [List.take_add_one, h, List.foldl_append]; rfl
structure FrSt where
  vf : List Value
  fs : List Int
  kf : Nat
  vr : List Value
  kr : Nat
structure CtSt where
  Ds : Addr
  vs : List Value
  ss : List Int
  ks : Nat
  Dr : Addr
  vr : List Value
  rs : List Int
  kr : Nat
theorem counted_spec (w : World) (size goal most : Nat) (hs : 1 ≤ size ∧ size ≤ 10) (hg : 1 ≤ goal ∧ goal ≤ 20) (hm : most ≤ 8) (ts tg tm : Tok) : Spec P1 w (Mine2.hd.heap_1 w.params) 500 500 195 [.int (size : Int) ts, .int (goal : Int) tg, .int (most : Int) tm] (fun _ => True) (fun v h h' => ∃ D vs k, v = .ref D ∧ h'.get? D = some (listOf (vs : List Value).toArray k) ∧ h.get? D = none ∧ IntsAre vs (countS size goal most).2) := by
  intro p loose mean mg mb dp un gd cn cs ad ccd cl outer A₀ base h₀ L m s Q E B F X TT hk hH hd hu hret
  obtain ⟨hpS, gnS, drS, tkS, osS⟩ := s
  (try dsimp only at F)
  (try dsimp only at hH)
  (try dsimp only at hret)
  refine wpAny_more (A := ktrTop 500 500 gd cn cs L ad ccd cl outer) ?_ hd hu
  refine wpAny_call ?_
  k_dflt end_is "my call"
  intro g' L' h' eg F' N' B' X' T'
  (try dsimp only at eg)
  subst eg
  (try dsimp only)
  (try k_fold)
  end_is "my A"
  clear B F X TT
  end_is "my go"
  refine KMa.mul (by k_asm) (by k_asm) (News.isList (by k_asm) (by k_mem)) (by omega) (by omega) (by simp; omega) (rep_flatG _ _) ?_
  intro DZ hZ FZ NZ lZ
  (try k_lt lZ)
  end_is "my go"
  refine kmk_add_lit (by assumption) (by assumption) (News.isList (by assumption) (by k_mem)) (News.isList (by assumption) (by k_mem)) rfl ?_ (by simp; exact Nat.le_trans (by omega : _ ≤ 200) (by decide))
  intro DS h3 F3 N3 lt3
  (try k_lt lt3)
  end_is "my go"
  rename_i lR _ l1R _ _ _
  have hg1 : ((goal : Int) - 1).toNat = goal - 1 := by omega
  refine For_invVF (by assumption) rfl rfl ?_
  end_is "my go"
  refine loop_range (n := most) (σ := CtSt) (fun c => [(c.Ds, listOf c.vs.toArray c.ks), (c.Dr, listOf c.vr.toArray c.kr)]) (fun c => [("size", .int (size : Int) ts), ("goal", .int (goal : Int) tg), ("most", .int (most : Int) tm), ("short", .ref c.Ds), ("reached", .ref c.Dr)]) (fun i c => IntsAre c.vs c.ss ∧ IntsAre c.vr c.rs ∧ (c.ss, c.rs) = countS size goal i) ⟨DS, _, 1 :: List.replicate (goal - 1) 0, _, lR, [], [], _⟩ rfl rfl (by assumption) (range_small (by omega) (by omega) (by omega) (by omega)) (by rw [range_size]; omega) (by assumption) (by assumption) (by end_is "my sub") ⟨rfl, rfl, rfl, rfl, rfl, trivial⟩ ⟨?_, .nil, rfl⟩ ?_ ?_
  · have h0 : ∀ t : Tok, IntsAre (List.replicate ((goal : Int) - 1).toNat (.int 0 t)) (List.replicate (goal - 1) 0) := fun t => by rw [hg1]; exact ints_repl _ _
    exact .cons _ _ (h0 _)
  · intro i ti cZ1 u h tk own hi cZ2 hoff F1 N1
    (try k_fold)
    obtain ⟨Ds, vs, ss, ks, Dr, vr, rs, kr⟩ := cZ1
    obtain ⟨hI, hJ, hst⟩ := cZ2
    dsimp only at hI hJ hst F1 N1
    have hss : ss.length = goal := by have := countS_len (size := size) hg.1 i; rw [← hst] at this; exact this
    have hrs : rs.length = i := by have := countS_len2 size goal i; rw [← hst] at this; exact this
    have hvr : vr.length = i := by rw [hJ.length, hrs]
    end_is "my go"
    refine kmk_add_lit (by assumption) (by assumption) (News.isList (by assumption) (by k_mem)) (News.isList (by assumption) (by k_mem)) rfl ?_ (by simp; exact Nat.le_trans (by omega : _ ≤ 200) (by decide))
    intro DR hR FR NR lR
    end_is "my go"
    refine KMa.mul (by k_asm) (by k_asm) (News.isList (by k_asm) (by k_mem)) (by omega) (by omega) (by simp; omega) (rep_flatG _ _) ?_
    intro DF hF FF NF lF
    have hfar : ∀ p ∈ (Ds, listOf vs.toArray ks) :: own, p.1 ≠ DF := fun p hp => Nat.ne_of_lt (lF p (by
      rcases List.mem_cons.mp hp with rfl | hp
      · k_mem
      · simp [hp]))
    have hfarR : DR ≠ DF := Nat.ne_of_lt (lF (DR, _) (by k_mem))
    have hownR : ∀ p ∈ own, p.1 ≠ DR := fun p hp => Nat.ne_of_lt (lR p (by simp [hp]))
    clear lF lR
    end_is "my go"
    refine For_invVF (by assumption) rfl rfl ?_
    end_is "my go"
    refine loop_range (n := goal) (σ := FrSt) (fun c => (DF, listOf c.vf.toArray c.kf) :: (Ds, listOf vs.toArray ks) :: (DR, listOf c.vr.toArray c.kr) :: own) (fun c => [("size", .int (size : Int) ts), ("goal", .int (goal : Int) tg), ("most", .int (most : Int) tm), ("short", .ref Ds), ("reached", .ref DR), ("fresh", .ref DF)]) (fun n c => IntsAre c.vf c.fs ∧ c.fs = freshS size goal ss n ∧ IntsAre c.vr (rs ++ [2 ^ i - ss.sum])) ⟨_, List.replicate goal 0, _, _, _⟩ rfl rfl (by assumption) (range_small (by omega) (by omega) (by omega) (by omega)) (by rw [range_size]; omega) (by assumption) (by assumption) (List.forall_mem_cons.mpr ⟨by k_mem, List.forall_mem_cons.mpr ⟨by k_mem, List.forall_mem_cons.mpr ⟨by k_mem, fun p hp => by simp [hp]⟩⟩⟩) ⟨rfl, rfl, rfl, rfl, rfl, rfl, trivial⟩ ⟨?_, rfl, ?_⟩ ?_ ?_
    · have h0 : ∀ t : Tok, IntsAre (List.replicate (goal : Int).toNat (.int 0 t)) (List.replicate goal 0) := fun t => by rw [Int.toNat_natCast]; exact ints_repl _ _
      exact h0 _
    · have hJ2 : ∀ t : Tok, IntsAre (vr ++ [.int (2 ^ ((0 : Int) + i).toNat - ss.sum) t]) (rs ++ [2 ^ i - ss.sum]) := fun t => by
        rw [show ((0 : Int) + i).toNat = i by omega]; exact ints_snoc hJ _ _
      exact hJ2 _
    · intro j tj cZ1 u2 h2 tk2 own2 hj cZ2 hoff2 F2 N2
      (try k_fold)
      obtain ⟨vf, fs, kf, vr2, kr2⟩ := cZ1
      obtain ⟨hF2, hfs, hR2⟩ := cZ2
      dsimp only at hF2 hfs hR2 F2 N2
      have hfl : fs.length = goal := by rw [hfs]; exact freshS_len _ _ _ _
      have hjm : j % size ≤ j := Nat.mod_le _ _
      have hmd : ((0 : Int) + (j : Int)).fmod size = ((j % size : Nat) : Int) := by rw [Int.zero_add]; exact mod_cast_ j size hs.1
      end_is "my go"
      refine For_invVF (by assumption) rfl rfl ?_
      end_is "my go"
      rename_i lM _ _ _ l1M
      have hMr : ∀ p ∈ (DF, listOf vf.toArray kf) :: (Ds, listOf vs.toArray ks) :: (DR, listOf vr2.toArray kr2) :: (own ++ own2), p.1 ≠ lM := fun p hp => Nat.ne_of_lt (l1M p (by simpa [or_assoc] using hp))
      clear l1M
      have hmv : ∀ (t1 t2 : Tok) (k : Nat) (v : Value), [Value.int (0 + (j : Int) + 1) t1, Value.int (0 + (j : Int) - (0 + (j : Int)).fmod size + size) t2][k]? = some v → ∃ (mv : Nat) (t : Tok), (movesL size j)[k]? = some mv ∧ v = .int (mv : Int) t ∧ k < 2 := by
        intro t1 t2 k v hk
        rcases k with _ | _ | k
        · cases hk
          exact ⟨j + 1, t1, rfl, by congr 1; omega, by decide⟩
        · cases hk
          exact ⟨j - j % size + size, t2, rfl, by congr 1; rw [hmd]; omega, by decide⟩
        · cases hk
      refine loop_list (l := lM) (vs := [_, _]) (nn := 0) (σ := FrSt) (fun c => (DF, listOf c.vf.toArray c.kf) :: (lM, listOf #[_, _] 0) :: (Ds, listOf vs.toArray ks) :: (DR, listOf vr2.toArray kr2) :: (own ++ own2)) (fun c => [("size", .int (size : Int) ts), ("goal", .int (goal : Int) tg), ("most", .int (most : Int) tm), ("short", .ref Ds), ("reached", .ref DR), ("fresh", .ref DF), ("stand", .int (0 + (j : Int)) tj)]) (fun k c => IntsAre c.vf c.fs ∧ c.fs = ((movesL size j).take k).foldl (addAt (ss.getD j 0)) fs ∧ c.kf = kf) ⟨vf, fs, kf, [], 0⟩ rfl rfl (.inr fun _ => List.mem_cons_of_mem _ (List.mem_cons_self ..)) (by assumption) (by assumption) (List.forall_mem_cons.mpr ⟨by k_mem, List.forall_mem_cons.mpr ⟨by k_mem, List.forall_mem_cons.mpr ⟨by k_mem, List.forall_mem_cons.mpr ⟨by k_mem, fun p hp => by
        rcases List.mem_append.mp hp with h | h <;> simp [h]⟩⟩⟩⟩) ⟨rfl, rfl, rfl, rfl, rfl, rfl, rfl, trivial⟩ ⟨hF2, rfl, rfl⟩ ?_ ?_
      · intro k v cZ1 u3 h3 tk3 own3 hk cZ2 hoff3 F3 N3
        (try k_fold)
        obtain ⟨vf3, fs3, kf3, vq, kq⟩ := cZ1
        obtain ⟨hF3, hfs3, hkf⟩ := cZ2
        dsimp only at hF3 hfs3 hkf F3 N3
        subst hkf
        obtain ⟨mv, tv, hmk, rfl, hk2⟩ := hmv _ _ k v hk
        have hfl3 : fs3.length = goal := by rw [hfs3, addAts_len, hfl]
        have hstep := addAts_snoc (ss.getD j 0) (movesL size j) fs k mv hmk
        rw [← hfs3] at hstep
        end_is "my go"
        · rename (mv : Int) < _ => hlt
          have hltN : mv < fs3.length := by omega
          refine ksa_sub (by assumption) (by k_mem) hF3 (by omega) (by omega) (by omega) ?_ (by with_unfolding_all rfl)
          intro tq1
          end_is "my go"
          refine ksa_sub (by assumption) (by k_mem) hI (by omega) (by omega) (by omega) ?_ (by with_unfolding_all rfl)
          intro tq2
          end_is "my go"
          refine set_l (rest := (lM, listOf #[_, _] 0) :: (Ds, listOf vs.toArray ks) :: (DR, listOf vr2.toArray kr2) :: ((own ++ own2) ++ own3)) (by assumption) (by assumption) ?_ hF3 (by omega) (by omega) (by omega) ?_
          · intro p hp
            rcases List.mem_cons.mp hp with rfl | hp
            · exact Ne.symm (hMr (DF, _) (List.mem_cons_self ..))
            rcases List.mem_cons.mp hp with rfl | hp
            · exact hfar _ (List.mem_cons_self ..)
            rcases List.mem_cons.mp hp with rfl | hp
            · exact hfarR
            rcases List.mem_append.mp hp with hp | hp
            · rcases List.mem_append.mp hp with hp | hp
              · exact hfar p (List.mem_cons_of_mem _ hp)
              · exact hoff2 p hp DF (List.mem_cons_self ..)
            · exact hoff3 p hp DF (List.mem_cons_self ..)
          intro h8 F8 N8 hI8
          end_is "my go"
          refine endT ⟨vf3.set ((mv : Nat) : Int).toNat (.int _ _), fs3.set ((mv : Nat) : Int).toNat _, kf3, [], 0⟩ (by assumption) (by assumption) (fun p hp => ?_) (fun p hp => by simp [hp]) hoff3 ⟨rfl, rfl, rfl, rfl, rfl, rfl, rfl, trivial⟩ ⟨hI8, ?_, rfl⟩
          · exact (List.mem_append_left own3 hp : p ∈ (_ :: _ :: _ :: _ :: (own ++ own2)) ++ own3)
          · (try dsimp only)
            rw [hstep, addAt, if_pos hltN]
            simp
        · rename ¬ ((mv : Int) < _) => hlt
          have hltN : ¬ mv < fs3.length := by omega
          refine endT ⟨vf3, fs3, kf3, [], 0⟩ (by assumption) (by assumption) (fun p hp => List.mem_append_left _ hp) (fun p hp => List.mem_append_right _ hp) hoff3 ⟨rfl, rfl, rfl, rfl, rfl, rfl, rfl, trivial⟩ ⟨hF3, ?_, rfl⟩
          (try dsimp only)
          rw [hstep, addAt, if_neg hltN]
      · intro cZ1 u3 h3 tk3 cZ2 F3 N3
        (try k_fold)
        obtain ⟨vf3, fs3, kf3, vq, kq⟩ := cZ1
        obtain ⟨hF3, hfs3, hkf⟩ := cZ2
        dsimp only at hF3 hfs3 hkf F3 N3
        subst hkf
        end_is "my go"
        refine endT ⟨vf3, fs3, kf3, vr2, kr2⟩ (by assumption) (by assumption) (fun p hp => ?_) (fun p hp => by simp [hp]) hoff2 ⟨rfl, rfl, rfl, rfl, rfl, rfl, trivial⟩ ⟨hF3, ?_, hR2⟩
        · simp only [List.mem_cons, List.mem_append] at hp ⊢
          rcases hp with h | h | h | h <;> simp [h]
        · rw [freshS_succ, ← hfs]; exact hfs3
    · intro cZ1 u2 h2 tk2 cZ2 F2 N2
      (try k_fold)
      obtain ⟨vf, fs, kf, vr2, kr2⟩ := cZ1
      obtain ⟨hF2, hfs, hR2⟩ := cZ2
      dsimp only at hF2 hfs hR2 F2 N2
      end_is "my go"
      refine endT ⟨DF, vf, fs, kf, DR, vr2, rs ++ [2 ^ i - ss.sum], kr2⟩ (by assumption) (by assumption) (List.forall_mem_cons.mpr ⟨by k_mem, List.forall_mem_cons.mpr ⟨by k_mem, fun _ h => nomatch h⟩⟩) (fun p hp => by simp [hp]) ?_ ⟨rfl, rfl, rfl, rfl, rfl, trivial⟩ ⟨hF2, hR2, ?_⟩
      · intro p hp b hb
        rcases List.mem_cons.mp hb with rfl | hb
        · exact hfar p (List.mem_cons_of_mem _ hp)
        · rw [List.mem_singleton.mp hb]; exact hownR p hp
      · show (fs, _) = countS size goal (i + 1)
        rw [countS, ← hst, hfs]
  · intro cZ1 u h tk cZ2 F1 N1
    (try k_fold)
    obtain ⟨Ds, vs, ss, ks, Dr, vr, rs, kr⟩ := cZ1
    obtain ⟨hI, hJ, hst⟩ := cZ2
    dsimp only at hI hJ hst F1 N1
    end_is "my go"
    have hD := N1 (Dr, _) (by k_mem)
    exact hret _ _ _ (Fr.keep (by assumption)) ⟨Dr, vr, kr, rfl, hD.1, hD.2.2, by rw [← hst]; exact hJ⟩
end
section
section
variable {w : World} {p : Program} {loose : List Str} {mean : ExcName → Option Value} {mg mb : Str → Option Value} {ns : List Int} {vs : List Value} {l L a : Addr} {cd : Value} {gd : Option (List Code)} {A₀ : Around} {base h₀ : Heap}
theorem seg1 (B : Below A₀ base [] h₀) (X : (Mine2.hd.heap_1 w.params).In h₀) (TT : Top p loose mean mg mb h₀) (hl : h₀.IsList l vs.toArray) (hI : IntsAre vs ns) (hn : ns.length ≤ 63) (l0 : @LT.lt Nat _ 44 L ∧ @LT.lt Nat _ 51 L) :
    Seg w gd L a cd 0 2 (AtC h₀ L none none [("script", .ref l)] [])
      (fun h => ∃ t1 t2, AtC h₀ L (some (.int (tabN ns : Int) t2)) none [("script", .ref l), ("total", .int (totalOf ns) t1)] [] h) := by
  rintro ⟨hpS, gnS, drS, tkS, osS⟩ E hA0
  (try k_fold)
  refine atC_elim hA0 ?_
  intro o1 o2 u F N d1 d2
  clear hA0
  (try dsimp only at F)
  dsimp only [lawBody, lawFd, getFd, lawScope, lawCells, cellsL, List.nil_append] at N ⊢
  show wpAny _ _ (execs [_, _] _) _ _ _
  (try k_fold)
  end_is "my A"
  end_is "my go"
  have e : (ns.take 60).sum.fmod 1000000 = totalOf ns := Int.fmod_eq_emod_of_nonneg _ (by decide : (0 : Int) ≤ 1000000)
  exact seg_end ⟨_, _, atC_of (by assumption) (by assumption) ⟨rfl, int_some e, trivial⟩ (cell_int (by assumption) (by rw [← tab_i, ← e])) d2 (by end_is "my sub")⟩
end
end
section
section
variable {w : World} {p : Program} {loose : List Str} {mean : ExcName → Option Value} {mg mb : Str → Option Value} {ns : List Int} {vs : List Value} {l L a : Addr} {cd : Value} {gd : Option (List Code)} {A₀ : Around} {base h₀ : Heap}
theorem seg2 (B : Below A₀ base [] h₀) (X : (Mine2.hd.heap_1 w.params).In h₀) (TT : Top p loose mean mg mb h₀) (hl : h₀.IsList l vs.toArray) (hI : IntsAre vs ns) (hn : ns.length ≤ 63) (l0 : @LT.lt Nat _ 44 L ∧ @LT.lt Nat _ 51 L) {c1 c2 : Option Value} {t1 : Tok} :
    Seg w gd L a cd 2 1 (AtC h₀ L c1 c2 [("script", .ref l), ("total", .int (totalOf ns) t1)] [])
      (fun h => ∃ tl, AtC h₀ L c1 c2 [("total", .int (totalOf ns) t1), ("lead", .str (T (leadOf ns)) tl)] [] h) := by
  rintro ⟨hpS, gnS, drS, tkS, osS⟩ E hA0
  (try k_fold)
  refine atC_elim hA0 ?_
  intro o1 o2 u F N d1 d2
  clear hA0
  (try dsimp only at F)
  dsimp only [lawBody, lawFd, getFd, lawScope, lawCells, cellsL, List.nil_append] at N ⊢
  show wpAny _ _ (execs [_] _) _ _ _
  (try k_fold)
  end_is "my A"
  end_is "my go"
  refine kba_turn (value' := PySem.Expr.Name (PySem.Str.ofString "_") ⟨0, 0, 0, 0⟩) (fun _ => rfl) ?_
  refine slI_from (vs := [_, _, _, _, _, _]) (by assumption) (by assumption) (by k_mem) (.cons _ _ (.cons _ _ (.cons _ _ (.cons _ _ (.cons _ _ (.cons _ _ .nil)))))) (by omega) (Nat.le_of_ble_eq_true rfl) ?_
  intro D3 h3 ws3 F3 N3 lZ hI3
  (try k_lt lZ)
  end_is "my go"
  refine ⟨X.keeps (Fr.keep (by assumption)), ?_⟩
  end_is "my go"
  refine spec_call (lead_spec w _ (drawnOf ns) (by assumption) (by rw [drawn_len]; exact Nat.le_refl _) _) B (by assumption) X (by assumption) TT rfl (News.isList (by assumption) (by k_mem)) (Nat.le_of_ble_eq_true rfl) (Nat.le_of_ble_eq_true rfl) ?_
  rintro v4 h4 tk4 F4 N4 k4 ⟨tv, rfl⟩
  (try k_fold)
  end_is "my go"
  exact seg_end ⟨_, atC_of (by assumption) (by assumption) ⟨rfl, rfl, trivial⟩ d1 d2 (by end_is "my sub")⟩
end
end
section
local macro_rules | `(tactic| end_is "my stop") => `(tactic| (with_reducible show wpAny _ _ (binaryOp _ (Value.ref _) _) _ _ _))
section
variable {w : World} {p : Program} {loose : List Str} {mean : ExcName → Option Value} {mg mb : Str → Option Value} {ns : List Int} {vs : List Value} {l L a : Addr} {cd : Value} {gd : Option (List Code)} {A₀ : Around} {base h₀ : Heap}
theorem lead_len (ns : List Int) : (leadOf ns).length = 6 := by unfold leadOf; rw [leadL_len, drawn_len]
theorem lead_sg (ns : List Int) : ∀ c ∈ leadOf ns, c = 9 ∨ c = 32 := leadL_sg _
theorem least_sg (g s : Nat) : ∀ u ∈ leastL g s, ∀ c ∈ u, c = 9 ∨ c = 32 := by
  have step : ∀ (k : Nat) (ws : List (List Nat)), (∀ u ∈ ws, ∀ c ∈ u, c = 9 ∨ c = 32) → ∀ u ∈ stepW (List.replicate k 32) [9] ws, ∀ c ∈ u, c = 9 ∨ c = 32 := by
    intro k ws h u hu c hc
    obtain ⟨v, hv, e | e⟩ := stepW_mem hu <;> rw [e] at hc <;> rcases List.mem_append.mp hc with hc | hc
    · exact h v hv c hc
    · exact .inr (List.mem_replicate.mp hc).2
    · exact h v hv c hc
    · exact .inl (List.mem_singleton.mp hc)
  have base : ∀ n, ∀ u ∈ baseL s n, ∀ c ∈ u, c = 9 ∨ c = 32 := by
    intro n
    induction n with
    | zero => intro u hu c hc; rw [List.mem_singleton.mp hu] at hc; cases hc
    | succ n ih => exact step s _ ih
  unfold leastL
  split
  · exact step _ _ (base _)
  · exact base _
theorem least_len {g s : Nat} (hs : 1 ≤ s ∧ s ≤ 4) (hg : g ≤ 20) : ∀ u ∈ leastL g s, u.length ≤ 30 := by
  have h1 : g / s * s ≤ g := Nat.div_mul_le_self _ _
  have h2 : g % s < s := Nat.mod_lt _ hs.1
  unfold leastL
  split
  · intro u hu
    have := stepW_bound (B := g / s * s) (C := 4) (by rw [List.length_replicate]; omega) (by omega) (baseL_mem s _ hs.1) u hu
    omega
  · intro u hu
    have := baseL_mem s _ hs.1 u hu
    omega
theorem least_card {g s : Nat} (hq : g / s ≤ 5) : (leastL g s).length ≤ 64 := by
  have h : 2 ^ (g / s) ≤ 2 ^ 5 := Nat.pow_le_pow_right (by decide) hq
  unfold leastL
  split
  · rw [stepW_len, baseL_len]; omega
  · rw [baseL_len]; omega
theorem dots_len : ∀ a : List Nat, (dots.intercalate (a.map (fun c => [c]) ++ [[]])).length = 4 * a.length
  | [] => rfl
  | [c] => rfl
  | c :: d :: r => by
    have ih := dots_len (d :: r)
    simp only [List.map_cons, List.cons_append, List.intercalate, List.intersperse, List.flatten_cons, List.length_append, List.length_cons, List.length_nil, dots] at ih ⊢
    omega
theorem dots_len' (a : List Nat) : (dots.intercalate ([] :: a.map (fun c => [c]) ++ [[]])).length = 4 * a.length + 3 := by
  have h := dots_len a
  cases a with
  | nil => rfl
  | cons c r =>
    simp only [List.map_cons, List.cons_append, List.intercalate, List.intersperse, List.flatten_cons, List.length_append, List.length_cons, List.length_nil, dots] at h ⊢
    omega
theorem sg_46 {a : List Nat} (h : ∀ c ∈ a, c = 9 ∨ c = 32) : (∀ p ∈ a.map (fun c => [c]), 46 ∉ p) ∧ (∀ p ∈ a.map (fun c => [c]), ∀ c ∈ p, c < 256) := by
  refine ⟨fun p hp hm => ?_, fun p hp c hm => ?_⟩ <;> obtain ⟨d, hd, rfl⟩ := List.mem_map.mp hp <;> have e := List.mem_singleton.mp hm <;> have := h d hd <;> omega
def withinL (ns : List Int) : List (List Nat) := (leastL (colN ns) (tabN ns)).filter fun u => liesL u (leadOf ns)
theorem seg4 (B : Below A₀ base [] h₀) (X : (Mine2.hd.heap_1 w.params).In h₀) (TT : Top p loose mean mg mb h₀) (l0 : @LT.lt Nat _ 44 L ∧ @LT.lt Nat _ 51 L) {c2 : Option Value} {t1 t2 tl tc : Tok} {D : Addr}
    (hC2 : colN ns ≤ 16 ∧ colN ns / tabN ns ≤ 5) (hE : ∀ u ∈ leastL (colN ns) (tabN ns), ellL (u.map fun c => [c]) (leadOf ns) = liesL u (leadOf ns))
    (hV : ∀ u ∈ leastL (colN ns) (tabN ns), ∀ r, LevR u (leadOf ns) (2 * ((leadOf ns).length - (u.length : Int))) r → decide (r = 2 * ((leadOf ns).length - (u.length : Int))) = liesL u (leadOf ns)) :
    Seg w gd L a cd 6 1 (AtC h₀ L (some (.int (tabN ns : Int) t2)) c2 [("total", .int (totalOf ns) t1), ("lead", .str (T (leadOf ns)) tl), ("column", .int (colN ns : Int) tc), ("within", .ref D)] [(D, listOf #[] 0)])
      (fun h => ∃ D wv k, AtC h₀ L (some (.int (tabN ns : Int) t2)) c2 [("total", .int (totalOf ns) t1), ("lead", .str (T (leadOf ns)) tl), ("column", .int (colN ns : Int) tc), ("within", .ref D)] [(D, listOf (wv : List Value).toArray k)] h ∧ StrsAre wv ((withinL ns).map T)) := by
  rintro ⟨hpS, gnS, drS, tkS, osS⟩ E hA0
  (try k_fold)
  refine atC_elim hA0 ?_
  intro o1 o2 u F N d1 d2
  clear hA0
  (try dsimp only at F)
  dsimp only [lawBody, lawFd, getFd, lawScope, lawCells, cellsL, List.cons_append, List.nil_append] at N ⊢
  show wpAny _ _ (execs [_] _) _ _ _
  refine wpAny_noRaise ?_
  have ht := tab_b ns
  have hl6 := lead_len ns
  (try k_fold)
  end_is "my A"
  end_is "my go"
  refine For_invVF (by assumption) rfl rfl ?_
  end_is "my go"
  refine ⟨X.keeps (Fr.keep (by assumption)), ?_⟩
  end_is "my go"
  refine spec_call (least_spec w (colN ns) (tabN ns) (by omega) ⟨by omega, by omega⟩ hC2.2 _ _) B (by assumption) X (by assumption) TT rfl trivial (Nat.le_of_ble_eq_true rfl) (Nat.le_of_ble_eq_true rfl) ?_
  rintro v4 h4 tk4 F4 N4 k4 ⟨DL, lv, kl, rfl, g4, n4, hS⟩
  have M4 := news_new (by assumption) N4 n4 g4
  clear N4
  (try k_fold)
  end_is "my go"
  refine loop_list (σ := WsSt) (nn := kl) (fun c => [(c.D, listOf c.vs.toArray c.k), (DL, listOf lv.toArray kl), (L + 1 + 1, o2), (L + 1, o1), (44, tabObj #[]), (51, tabObj #[])]) (fun c => [("total", .int (totalOf ns) t1), ("lead", .str (T (leadOf ns)) tl), ("column", .int (colN ns : Int) tc), ("within", .ref c.D)])
    (fun i c => StrsAre c.vs ((((leastL (colN ns) (tabN ns)).take i).filter fun u => liesL u (leadOf ns)).map T)) ⟨D, [], 0⟩ rfl rfl (.inr fun c => by k_mem) (by assumption) (by assumption) (by end_is "my sub") ⟨rfl, rfl, rfl, rfl, trivial⟩ .nil ?_ ?_
  · intro i v cZ1 u h tk own hvi hinv hoff F1 N1
    (try k_fold)
    obtain ⟨Dc, vc, kc⟩ := cZ1
    dsimp only at hinv F1 N1
    obtain ⟨wd, tw, hwi, rfl⟩ := words_get hS hvi
    have hwm := List.mem_of_getElem? hwi
    have hwl := least_len (g := colN ns) (s := tabN ns) ⟨by omega, by omega⟩ (by omega) wd hwm
    have hws := least_sg _ _ wd hwm
    have hwE := hE wd hwm
    have hwV := hV wd hwm
    have hvl : vc.length ≤ 64 := by
      rw [strs_len hinv, List.length_map]
      refine Nat.le_trans (List.length_filter_le _ _) (Nat.le_trans (by rw [List.length_take]; omega : _ ≤ (leastL (colN ns) (tabN ns)).length) ?_)
      exact least_card hC2.2
    clear hE hV
    end_is "my go"
    refine ⟨X.keeps (Fr.keep (by assumption)), ?_⟩
    end_is "my go"
    refine spec_call (dots_spec w wd (by omega) _) B (by assumption) X (by assumption) TT rfl trivial (Nat.le_of_ble_eq_true rfl) (Nat.le_of_ble_eq_true rfl) ?_
    rintro v5 h5 tk5 F5 N5 k5 ⟨tv5, rfl⟩
    (try k_fold)
    end_is "my go"
    refine ⟨X.keeps (Fr.keep (by assumption)), ?_⟩
    end_is "my go"
    refine spec_call (ell_spec w (wd.map fun c => [c]) (leadOf ns) (sg_46 hws).1 (sg_46 hws).2 (by rw [dots_len']; omega) (by rw [List.length_map]; omega) (by omega) _ _) B (by assumption) X (by assumption) TT rfl trivial (Nat.le_of_ble_eq_true rfl) (Nat.le_of_ble_eq_true rfl) ?_
    rintro v6 h6 tk6 F6 N6 k6 rfl
    rw [hwE]
    (try k_fold)
    end_is "my go"
    refine ⟨X.keeps (Fr.keep (by assumption)), ?_⟩
    end_is "my go"
    refine spec_call (lies_spec w wd (leadOf ns) (by omega) (by omega) _ _) B (by assumption) X (by assumption) TT rfl trivial (Nat.le_of_ble_eq_true rfl) (Nat.le_of_ble_eq_true rfl) ?_
    rintro v7 h7 tk7 F7 N7 k7 rfl
    (try k_fold)
    end_is "my go"
    refine ⟨X.keeps (Fr.keep (by assumption)), ?_⟩
    end_is "my go"
    refine spec_call (lev_spec w wd (leadOf ns) _ hws (lead_sg ns) (by omega) (by omega) _ _ _) B (by assumption) X (by assumption) TT rfl trivial (Nat.le_of_ble_eq_true rfl) (Nat.le_of_ble_eq_true rfl) ?_
    intro v8 h8 tk8 F8 N8 k8 cZ1
    (try k_fold)
    obtain ⟨r, tr, rfl, hr⟩ := cZ1
    have hr := hwV r hr
    (try k_fold)
    end_is "my go"
    · rename liesL wd (leadOf ns) = true => hL
      refine kmk_add_lit (by assumption) (by assumption) (News.isList (by assumption) (by k_mem)) (News.isList (by assumption) (by k_mem)) rfl ?_ (by simp; exact Nat.le_trans (by omega : _ ≤ 200) (by decide))
      intro DR hR FR NR lR
      end_is "my go"
      refine endT ⟨DR, vc ++ [.str (T wd) tw], 0⟩ (by assumption) (by assumption) (fun p hp => ?_) (fun p hp => by simp [hp]) (ownL hoff fun p hp => lR p (by simp [hp])) ⟨rfl, rfl, rfl, rfl, trivial⟩ ?_
      · rcases List.mem_cons.mp hp with rfl | hp
        · exact List.mem_cons_self ..
        · exact List.mem_cons_of_mem _ (List.mem_cons_of_mem _ (List.mem_append_left _ (List.mem_cons_of_mem _ hp)))
      · dsimp only
        rw [List.take_add_one, hwi, Option.toList_some, List.filter_append, List.map_append, List.filter_cons_of_pos (by exact hL)]
        exact strs_app hinv (.cons _ _ .nil)
    · rename liesL wd (leadOf ns) = false => hL
      refine endT ⟨Dc, vc, kc⟩ (by assumption) (by assumption) (fun p hp => List.mem_append_left _ hp) (fun p hp => by simp [hp]) hoff ⟨rfl, rfl, rfl, rfl, trivial⟩ ?_
      dsimp only
      rw [List.take_add_one, hwi, Option.toList_some, List.filter_append, List.filter_cons_of_neg (by rw [hL]; decide), List.filter_nil, List.append_nil]
      exact hinv
  · intro cZ1 u h tk hinv F1 N1
    (try k_fold)
    obtain ⟨Dc, vc, kc⟩ := cZ1
    dsimp only at hinv F1 N1
    rw [List.take_of_length_le (by rw [strs_len hS, List.length_map]; exact Nat.le_refl _)] at hinv
    end_is "my go"
    exact seg_end ⟨_, _, _, atC_of (by assumption) (by assumption) ⟨rfl, rfl, rfl, rfl, trivial⟩ d1 d2 (by end_is "my sub"), hinv⟩
end
end
section
section
variable {w : World} {p : Program} {loose : List Str} {mean : ExcName → Option Value} {mg mb : Str → Option Value} {ns : List Int} {vs : List Value} {l L a : Addr} {cd : Value} {gd : Option (List Code)} {A₀ : Around} {base h₀ : Heap}
theorem seg3 (B : Below A₀ base [] h₀) (X : (Mine2.hd.heap_1 w.params).In h₀) (TT : Top p loose mean mg mb h₀) (l0 : @LT.lt Nat _ 44 L ∧ @LT.lt Nat _ 51 L) {c2 : Option Value} {t1 t2 tl : Tok}
    (hC : col (tabN ns : Int) (leadOf ns) = (colN ns : Int)) (hC2 : colN ns ≤ 60) (hW : indV (leadOf ns ++ [120, 9, 32]) (tabN ns : Int) = (colN ns : Int)) :
    Seg w gd L a cd 3 3 (AtC h₀ L (some (.int (tabN ns : Int) t2)) c2 [("total", .int (totalOf ns) t1), ("lead", .str (T (leadOf ns)) tl)] [])
      (fun h => ∃ tc D, AtC h₀ L (some (.int (tabN ns : Int) t2)) c2 [("total", .int (totalOf ns) t1), ("lead", .str (T (leadOf ns)) tl), ("column", .int (colN ns : Int) tc), ("within", .ref D)] [(D, listOf #[] 0)] h) := by
  rintro ⟨hpS, gnS, drS, tkS, osS⟩ E hA0
  (try k_fold)
  refine atC_elim hA0 ?_
  intro o1 o2 u F N d1 d2
  clear hA0
  (try dsimp only at F)
  dsimp only [lawBody, lawFd, getFd, lawScope, lawCells, cellsL, List.nil_append] at N ⊢
  show wpAny _ _ (execs [_, _, _] _) _ _ _
  refine wpAny_noRaise ?_
  have ht := tab_b ns
  have hl6 := lead_len ns
  (try k_fold)
  end_is "my A"
  end_is "my go"
  refine ⟨X.keeps (Fr.keep (by assumption)), ?_⟩
  end_is "my go"
  refine spec_call (col_spec w (leadOf ns) (tabN ns : Int) (by omega) _ _) B (by assumption) X (by assumption) TT rfl trivial (Nat.le_of_ble_eq_true rfl) (Nat.le_of_ble_eq_true rfl) ?_
  rintro v4 h4 tk4 F4 N4 k4 ⟨tv, rfl⟩
  rw [hC]
  (try k_fold)
  end_is "my go"
  have hlx : (leadOf ns ++ [120, 9, 32]).length ≤ 10000 := by rw [List.length_append, hl6]; decide
  refine ⟨X.keeps (Fr.keep (by assumption)), ?_⟩
  end_is "my go"
  refine spec_call (ws_spec w (leadOf ns ++ [120, 9, 32]) _ hlx) B (by assumption) X (by assumption) TT rfl trivial (Nat.le_of_ble_eq_true rfl) (Nat.le_of_ble_eq_true rfl) ?_
  rintro v5 h5 tk5 F5 N5 k5 P5
  obtain ⟨q1, rfl, ok1, hh1⟩ := ws_made P5
  have M5 := news_ws (by assumption) N5 hh1
  clear N5 P5
  dsimp only [WT.led, wsEnts, tupO, List.cons_append, List.nil_append] at M5
  (try k_fold)
  end_is "my go"
  refine ⟨X.keeps (Fr.keep (by assumption)), ?_⟩
  end_is "my go"
  refine spec_callR (ind_spec w (leadOf ns ++ [120, 9, 32]) q1 ok1 (tabN ns : Int) ⟨by omega, by omega⟩ _) (fun _ _ _ P => P.2) B (by assumption) X (by assumption) TT rfl (by dsimp only [WT.led, wsEnts, tupO]; end_is "my sub") trivial (Nat.le_of_ble_eq_true rfl) (Nat.le_of_ble_eq_true rfl) ?_
  rintro v6 h6 tk6 F6 N6 k6 ⟨⟨tv6, rfl⟩, -⟩
  rw [hW]
  (try k_fold)
  end_is "my go"
  exact seg_end ⟨_, _, atC_of (by assumption) (by assumption) ⟨rfl, rfl, rfl, rfl, trivial⟩ d1 d2 (by end_is "my sub")⟩
end
end
section
open PyProof.V PySem.Spec
theorem pair_map {β : Type} {P : Nat → Value → Prop} {G : Value → Value → Prop} {vs ys : List Value} (h : Paired G vs ys) (f : Nat → β) (g : β → Value) (hP : ∀ j v, vs[j]? = some v → P j v) (hG : ∀ j v y, P j v → G v y → y = g (f j)) :
    ys = ((List.range vs.length).map f).map g := by
  apply List.ext_getElem?
  intro j
  rw [List.map_map, List.getElem?_map]
  rcases Nat.lt_or_ge j vs.length with hj | hj
  · obtain ⟨y, hy, hg⟩ := pget h j vs[j] (List.getElem?_eq_getElem hj)
    rw [hy, List.getElem?_range hj]
    exact congrArg some (hG j _ _ (hP j _ (List.getElem?_eq_getElem hj)) hg)
  · rw [List.getElem?_eq_none (by rw [← paired_len h]; exact hj), List.getElem?_eq_none (by simpa using hj)]
    rfl
section
variable {prog : Program} {w : World} {A : Around} {E : Value → Shared → Prop} {s : Shared} {h₀ g : Heap} {L : Addr} {m : Str → Option Value} {news : List (Addr × Obj)} {a : List Nat} {t : Tok} {value slice : PySem.Expr} {Q : Value → Shared → Prop}
theorem keptK : KeptH (fun h => (Fr h₀ L h m ∧ News h₀ L h news) ∧ g.StaysIn h) := fun h ob x => ⟨keptFrN h ob x.1, fun b o e => Heap.get?_push_of_some _ (x.2 b o e)⟩
theorem slK_to {k : Nat} {i : Int} {ui : Tok} (hF : Fr h₀ L s.heap m) (hN : News h₀ L s.heap news) (hK : g.StaysIn s.heap) (hi : i = (k : Int)) (hk : k ≤ a.length) (hsz : a.length ≤ 1000000)
    (h : ∀ h' t' k', Fr h₀ L h' m → News h₀ L h' news → g.StaysIn h' → Q (.str (T (a.take k)) t') { s with heap := h', toks := k' })
    (hs : subscripted slice false (.str (T a) t) (.ref s.heap.objs.size) = operate [.ref s.heap.objs.size, .str (T a) t] (getItem (.str (T a) t) (.ref s.heap.objs.size)) := by with_unfolding_all rfl)
    (ht : ∀ r, letTemporaryGo value (.str (T a) t) r = pure () := by intro _; with_unfolding_all rfl) :
    wpAny (model prog w) A (subscriptTail value slice (.str (T a) t) (.ref s.heap.objs.size)) Q E { s with heap := s.heap.push { cls := .type "slice", data := .fields #[.none, .int i ui, .none] } } := by
  subst hi
  exact tail_of_ItemOn (SBH.sliceItem_ns keptK ⟨⟨hF, hN⟩, hK⟩ (fun h' t' k' x => by rw [sl_to hk]; exact h h' t' k' x.1.1 x.1.2 x.2) (T_le hsz)) hs ht
theorem slK_from {k : Nat} {i : Int} {ui : Tok} (hF : Fr h₀ L s.heap m) (hN : News h₀ L s.heap news) (hK : g.StaysIn s.heap) (hi : i = (k : Int)) (hk : k ≤ a.length) (hsz : a.length ≤ 1000000)
    (h : ∀ h' t' k', Fr h₀ L h' m → News h₀ L h' news → g.StaysIn h' → Q (.str (T (a.drop k)) t') { s with heap := h', toks := k' })
    (hs : subscripted slice false (.str (T a) t) (.ref s.heap.objs.size) = operate [.ref s.heap.objs.size, .str (T a) t] (getItem (.str (T a) t) (.ref s.heap.objs.size)) := by with_unfolding_all rfl)
    (ht : ∀ r, letTemporaryGo value (.str (T a) t) r = pure () := by intro _; with_unfolding_all rfl) :
    wpAny (model prog w) A (subscriptTail value slice (.str (T a) t) (.ref s.heap.objs.size)) Q E { s with heap := s.heap.push { cls := .type "slice", data := .fields #[.int i ui, .none, .none] } } := by
  subst hi
  exact tail_of_ItemOn (SBH.sliceItem_sn keptK ⟨⟨hF, hN⟩, hK⟩ (fun h' t' k' x => by rw [sl_from hk]; exact h h' t' k' x.1.1 x.1.2 x.2) (T_le hsz)) hs ht
end
end
section
local macro_rules | `(tactic| end_is "my stop") => `(tactic| (with_reducible show wpAny _ _ (subscriptTail _ _ (Value.str _ _) (Value.ref _)) _ _ _))
section
variable {w : World} {p : Program} {loose : List Str} {mean : ExcName → Option Value} {mg mb : Str → Option Value} {ns : List Int} {vs : List Value} {l L a : Addr} {cd : Value} {gd : Option (List Code)} {A₀ : Around} {base h₀ : Heap}
def lackL (u : List Nat) (k : Nat) : List Nat := u.take k ++ u.drop (k + 1)
theorem seg5 (B : Below A₀ base [] h₀) (X : (Mine2.hd.heap_1 w.params).In h₀) (TT : Top p loose mean mg mb h₀) (l0 : @LT.lt Nat _ 44 L ∧ @LT.lt Nat _ 51 L) {c2 : Option Value} {t1 t2 tl tc : Tok} {D : Addr} {wv : List Value} {kw : Nat} (hS : StrsAre wv ((withinL ns).map T)) (hC2 : colN ns ≤ 16)
    (hW1 : ∀ u ∈ withinL ns, (colN ns : Int) ≤ indV u (tabN ns : Int)) (hW2 : ∀ u ∈ withinL ns, ∀ k, k < u.length → indV (lackL u k) (tabN ns : Int) < (colN ns : Int)) :
    Seg w gd L a cd 7 1 (AtC h₀ L (some (.int (tabN ns : Int) t2)) c2 [("total", .int (totalOf ns) t1), ("lead", .str (T (leadOf ns)) tl), ("column", .int (colN ns : Int) tc), ("within", .ref D)] [(D, listOf wv.toArray kw)])
      (AtC h₀ L (some (.int (tabN ns : Int) t2)) c2 [("total", .int (totalOf ns) t1), ("lead", .str (T (leadOf ns)) tl), ("column", .int (colN ns : Int) tc)] []) := by
  rintro ⟨hpS, gnS, drS, tkS, osS⟩ E hA0
  (try k_fold)
  refine atC_elim hA0 ?_
  intro o1 o2 u F N d1 d2
  clear hA0
  (try dsimp only at F)
  dsimp only [lawBody, lawFd, getFd, lawScope, lawCells, cellsL, List.cons_append, List.nil_append] at N ⊢
  show wpAny _ _ (execs [_] _) _ _ _
  refine wpAny_noRaise ?_
  have ht := tab_b ns
  (try k_fold)
  end_is "my A"
  end_is "my go"
  refine For_invVF (by assumption) rfl rfl ?_
  end_is "my go"
  refine loop_list (σ := Unit) (nn := kw) (fun _ => [(D, listOf wv.toArray kw), (L + 1 + 1, o2), (L + 1, o1), (44, tabObj #[]), (51, tabObj #[])]) (fun _ => [("total", .int (totalOf ns) t1), ("lead", .str (T (leadOf ns)) tl), ("column", .int (colN ns : Int) tc)])
    (fun i c => True) () rfl rfl (.inr fun c => by k_mem) (by assumption) (by assumption) (by end_is "my sub") ⟨rfl, rfl, rfl, trivial⟩ trivial ?_ ?_
  · intro i v cZ1 u h tk own hvi hinv hoff F1 N1
    (try k_fold)
    dsimp only at F1 N1
    obtain ⟨wd, tw, hwi, rfl⟩ := words_get hS hvi
    have hwm := List.mem_of_getElem? hwi
    have hwl := least_len (g := colN ns) (s := tabN ns) ⟨by omega, by omega⟩ (by omega) wd (List.mem_filter.mp hwm).1
    have hU := hW1 wd hwm
    have hK := hW2 wd hwm
    clear hW1 hW2
    end_is "my go"
    refine ⟨X.keeps (Fr.keep (by assumption)), ?_⟩
    end_is "my go"
    refine spec_call (ws_spec w wd _ (by omega)) B (by assumption) X (by assumption) TT rfl trivial (Nat.le_of_ble_eq_true rfl) (Nat.le_of_ble_eq_true rfl) ?_
    rintro v5 h5 tk5 F5 N5 k5 P5
    obtain ⟨q1, rfl, ok1, hh1⟩ := ws_made P5
    have M5 := news_ws (by assumption) N5 hh1
    clear N5 P5
    dsimp only [WT.led, wsEnts, tupO, List.cons_append, List.nil_append] at M5
    (try k_fold)
    end_is "my go"
    refine ⟨X.keeps (Fr.keep (by assumption)), ?_⟩
    end_is "my go"
    refine spec_callR (ind_spec w wd q1 ok1 (tabN ns : Int) ⟨by omega, by omega⟩ _) (fun _ _ _ P => P.2) B (by assumption) X (by assumption) TT rfl (by dsimp only [WT.led, wsEnts, tupO]; end_is "my sub") trivial (Nat.le_of_ble_eq_true rfl) (Nat.le_of_ble_eq_true rfl) ?_
    rintro v6 h6 tk6 F6 N6 k6 ⟨⟨tv6, rfl⟩, -⟩
    (try k_fold)
    end_is "my go"
    refine For_invVF (by assumption) rfl rfl ?_
    end_is "my go"
    refine loop_range (n := wd.length) (σ := Unit) (fun _ => (D, listOf wv.toArray kw) :: (L + 1 + 1, o2) :: (L + 1, o1) :: (44, tabObj #[]) :: (51, tabObj #[]) :: own) (fun _ => [("total", .int (totalOf ns) t1), ("lead", .str (T (leadOf ns)) tl), ("column", .int (colN ns : Int) tc), ("least", .str (T wd) tw)])
      (fun i c => True) () rfl rfl (by assumption) (range_small (by omega) (by omega) (by omega) (by omega)) (by rw [range_size]; omega) (by assumption) (by assumption) (fun q hq => by repeat (first | exact hq | apply List.mem_cons_of_mem)) ⟨rfl, rfl, rfl, rfl, trivial⟩ trivial ?_ ?_
    · intro j tj cZ1 u2 h2 tk2 own2 hj hinv2 hoff2 F2 N2
      (try k_fold)
      dsimp only at F2 N2
      have hKj := hK j hj
      have hlj : (wd.take j).length ≤ 30 := by rw [List.length_take]; omega
      have hld : (wd.drop (j + 1)).length ≤ 30 := by rw [List.length_drop]; omega
      end_is "my go"
      refine slK_to (s := ⟨_, _, _, _, _⟩) (g := h2) (k := j) (by assumption) (by assumption) (fun _ _ e => e) (by omega) (by omega) (by omega) ?_
      intro h7 t7 k7 F7 N7 _
      end_is "my go"
      refine slK_from (s := ⟨_, _, _, _, _⟩) (g := h7) (k := j + 1) (by assumption) (by assumption) (fun _ _ e => e) (by omega) (by omega) (by omega) ?_
      intro h8 t8 k8 F8 N8 _
      end_is "my go"
      have hlk : (lackL wd j).length ≤ 10000 := by unfold lackL; rw [List.length_append]; omega
      refine ⟨X.keeps (Fr.keep (by assumption)), ?_⟩
      end_is "my go"
      refine spec_call (ws_spec w (lackL wd j) _ hlk) B (by assumption) X (by assumption) TT rfl trivial (Nat.le_of_ble_eq_true rfl) (Nat.le_of_ble_eq_true rfl) ?_
      rintro v9 h9 tk9 F9 N9 k9 P9
      obtain ⟨q2, rfl, ok2, hh2⟩ := ws_made P9
      have M9 := news_ws (by assumption) N9 hh2
      clear N9 P9 N1 M5
      dsimp only [WT.led, wsEnts, tupO, List.cons_append, List.nil_append] at M9
      (try k_fold)
      end_is "my go"
      refine ⟨X.keeps (Fr.keep (by assumption)), ?_⟩
      end_is "my go"
      refine spec_callR (ind_spec w (lackL wd j) q2 ok2 (tabN ns : Int) ⟨by omega, by omega⟩ _) (fun _ _ _ P => P.2) B (by assumption) X (by assumption) TT rfl (by dsimp only [WT.led, wsEnts, tupO]; end_is "my sub") trivial (Nat.le_of_ble_eq_true rfl) (Nat.le_of_ble_eq_true rfl) ?_
      rintro v10 h10 tk10 F10 N10 k10 ⟨⟨tv10, rfl⟩, -⟩
      (try k_fold)
      end_is "my go"
      exact endT () (by assumption) (by assumption) (fun q hq => by simp only [List.mem_cons, List.mem_append] at hq ⊢; rcases hq with h | h | h | h | h | h <;> simp [h]) (fun q hq => by simp [hq]) hoff2 ⟨rfl, rfl, rfl, rfl, trivial⟩ trivial
    · intro cZ1 u2 h2 tk2 hinv2 F2 N2
      (try k_fold)
      end_is "my go"
      exact endT () (by assumption) (by assumption) (fun q hq => List.mem_append_left own hq) (fun q hq => by simp [hq]) hoff ⟨rfl, rfl, rfl, trivial⟩ trivial
  · intro cZ1 u h tk hinv F1 N1
    (try k_fold)
    end_is "my go"
    exact seg_end (atC_of (by assumption) (by assumption) ⟨rfl, rfl, rfl, trivial⟩ d1 d2 (by end_is "my sub"))
end
end
section
section
variable {w : World} {p : Program} {loose : List Str} {mean : ExcName → Option Value} {mg mb : Str → Option Value} {ns : List Int} {vs : List Value} {l L a : Addr} {cd : Value} {gd : Option (List Code)} {A₀ : Around} {base h₀ : Heap}
theorem seg6 (B : Below A₀ base [] h₀) (X : (Mine2.hd.heap_1 w.params).In h₀) (TT : Top p loose mean mg mb h₀) (l0 : @LT.lt Nat _ 44 L ∧ @LT.lt Nat _ 51 L) {c2 : Option Value} {t1 t2 tl tc : Tok}
    (hC2 : colN ns ≤ 16 ∧ (colN ns + 1) / tabN ns ≤ 5) (hB : ∀ u ∈ leastL (colN ns + 1) (tabN ns), ellL (u.map fun c => [c]) (leadOf ns) = false) :
    Seg w gd L a cd 8 1 (AtC h₀ L (some (.int (tabN ns : Int) t2)) c2 [("total", .int (totalOf ns) t1), ("lead", .str (T (leadOf ns)) tl), ("column", .int (colN ns : Int) tc)] [])
      (AtC h₀ L (some (.int (tabN ns : Int) t2)) c2 [("total", .int (totalOf ns) t1)] []) := by
  rintro ⟨hpS, gnS, drS, tkS, osS⟩ E hA0
  (try k_fold)
  refine atC_elim hA0 ?_
  intro o1 o2 u F N d1 d2
  clear hA0
  (try dsimp only at F)
  dsimp only [lawBody, lawFd, getFd, lawScope, lawCells, cellsL, List.cons_append, List.nil_append] at N ⊢
  show wpAny _ _ (execs [_] _) _ _ _
  refine wpAny_noRaise ?_
  have ht := tab_b ns
  have hl6 := lead_len ns
  (try k_fold)
  end_is "my A"
  end_is "my go"
  refine For_invVF (by assumption) rfl rfl ?_
  end_is "my go"
  refine ⟨X.keeps (Fr.keep (by assumption)), ?_⟩
  end_is "my go"
  refine spec_call (least_spec w (colN ns + 1) (tabN ns) (by omega) ⟨by omega, by omega⟩ hC2.2 _ _) B (by assumption) X (by assumption) TT rfl trivial (Nat.le_of_ble_eq_true rfl) (Nat.le_of_ble_eq_true rfl) ?_
  rintro v4 h4 tk4 F4 N4 k4 ⟨DL, lv, kl, rfl, g4, n4, hS⟩
  have M4 := news_new (by assumption) N4 n4 g4
  clear N4
  (try k_fold)
  end_is "my go"
  refine loop_list (σ := Unit) (nn := kl) (fun _ => [(DL, listOf lv.toArray kl), (L + 1 + 1, o2), (L + 1, o1), (44, tabObj #[]), (51, tabObj #[])]) (fun _ => [("total", .int (totalOf ns) t1), ("lead", .str (T (leadOf ns)) tl)])
    (fun i c => True) () rfl rfl (.inr fun c => by k_mem) (by assumption) (by assumption) (by end_is "my sub") ⟨rfl, rfl, trivial⟩ trivial ?_ ?_
  · intro i v cZ1 u h tk own hvi hinv hoff F1 N1
    (try k_fold)
    dsimp only at F1 N1
    obtain ⟨wd, tw, hwi, rfl⟩ := words_get hS hvi
    have hwm := List.mem_of_getElem? hwi
    have hwl := least_len (g := colN ns + 1) (s := tabN ns) ⟨by omega, by omega⟩ (by omega) wd hwm
    have hws := least_sg _ _ wd hwm
    have hwE := hB wd hwm
    clear hB
    end_is "my go"
    refine ⟨X.keeps (Fr.keep (by assumption)), ?_⟩
    end_is "my go"
    refine spec_call (dots_spec w wd (by omega) _) B (by assumption) X (by assumption) TT rfl trivial (Nat.le_of_ble_eq_true rfl) (Nat.le_of_ble_eq_true rfl) ?_
    rintro v5 h5 tk5 F5 N5 k5 ⟨tv5, rfl⟩
    (try k_fold)
    end_is "my go"
    refine ⟨X.keeps (Fr.keep (by assumption)), ?_⟩
    end_is "my go"
    refine spec_call (ell_spec w (wd.map fun c => [c]) (leadOf ns) (sg_46 hws).1 (sg_46 hws).2 (by rw [dots_len']; omega) (by rw [List.length_map]; omega) (by omega) _ _) B (by assumption) X (by assumption) TT rfl trivial (Nat.le_of_ble_eq_true rfl) (Nat.le_of_ble_eq_true rfl) ?_
    rintro v6 h6 tk6 F6 N6 k6 rfl
    rw [hwE]
    (try k_fold)
    end_is "my go"
    exact endT () (by assumption) (by assumption) (fun p hp => List.mem_append_left _ hp) (fun p hp => by simp [hp]) hoff ⟨rfl, rfl, trivial⟩ trivial
  · intro cZ1 u h tk hinv F1 N1
    (try k_fold)
    end_is "my go"
    exact seg_end (atC_of (by assumption) (by assumption) ⟨rfl, trivial⟩ d1 d2 (by end_is "my sub"))
end
end
section
section
variable {w : World} {p : Program} {loose : List Str} {mean : ExcName → Option Value} {mg mb : Str → Option Value} {ns : List Int} {vs : List Value} {l L a : Addr} {cd : Value} {gd : Option (List Code)} {A₀ : Around} {base h₀ : Heap}
theorem reach_b (ns : List Int) : 1 ≤ reachN ns ∧ reachN ns ≤ 8 := by unfold reachN; omega
theorem wid_b (ns : List Int) : 9 ≤ widN ns ∧ widN ns ≤ 208 := by unfold widN; omega
theorem reach_i (ns : List Int) : 1 + (totalOf ns + 5).fmod 8 = (reachN ns : Int) := by unfold reachN; rw [Int.fmod_eq_emod_of_nonneg _ (by decide)]; omega
theorem wid_i (ns : List Int) : 9 + ((totalOf ns).fdiv 24).fmod 200 = (widN ns : Int) := by unfold widN; rw [Int.fmod_eq_emod_of_nonneg _ (by decide), Int.fdiv_eq_ediv_of_nonneg _ (by decide)]; omega
def countedL (ns : List Int) : List Int := (countS (tabN ns) (reachN ns) 8).2
local macro_rules | `(tactic| walk_at "binaryOp LShift int int") => `(tactic| (refine lshift_int_small (by omega) (by omega) (by decide) ?_))
theorem base_i (ns : List Int) : (1 * 2 ^ (9 + ((totalOf ns).fdiv 24).fmod 200).toNat : Int) = 2 ^ widN ns := by rw [wid_i, Int.one_mul, Int.toNat_natCast]
theorem seg7 (B : Below A₀ base [] h₀) (X : (Mine2.hd.heap_1 w.params).In h₀) (TT : Top p loose mean mg mb h₀) (l0 : @LT.lt Nat _ 44 L ∧ @LT.lt Nat _ 51 L) {t1 t2 : Tok} {c2 : Option Value} :
    Seg w gd L a cd 9 3 (AtC h₀ L (some (.int (tabN ns : Int) t2)) c2 [("total", .int (totalOf ns) t1)] [])
      (fun h => ∃ t3 t4 t5, AtC h₀ L (some (.int (tabN ns : Int) t2)) (some (.int (reachN ns : Int) t3)) [("width", .int (widN ns : Int) t4), ("base", .int (2 ^ widN ns : Int) t5)] [] h) := by
  rintro ⟨hpS, gnS, drS, tkS, osS⟩ E hA0
  (try k_fold)
  refine atC_elim hA0 ?_
  intro o1 o2 u F N d1 d2
  clear hA0
  (try dsimp only at F)
  dsimp only [lawBody, lawFd, getFd, lawScope, lawCells, cellsL, List.cons_append, List.nil_append] at N ⊢
  show wpAny _ _ (execs [_, _, _] _) _ _ _
  have ht := tab_b ns
  have hr := reach_b ns
  have hw := wid_b ns
  have hwi := wid_i ns
  have hri := reach_i ns
  (try k_fold)
  end_is "my A"
  end_is "my go"
  exact seg_end ⟨_, _, _, atC_of (by assumption) (by assumption) ⟨int_some hwi, int_some (base_i ns), trivial⟩ d1 (cell_int (by assumption) hri) (by end_is "my sub")⟩
theorem seg8 (B : Below A₀ base [] h₀) (X : (Mine2.hd.heap_1 w.params).In h₀) (TT : Top p loose mean mg mb h₀) (l0 : @LT.lt Nat _ 44 L ∧ @LT.lt Nat _ 51 L) {t2 t3 t4 t5 : Tok} :
    Seg w gd L a cd 12 1 (AtC h₀ L (some (.int (tabN ns : Int) t2)) (some (.int (reachN ns : Int) t3)) [("width", .int (widN ns : Int) t4), ("base", .int (2 ^ widN ns : Int) t5)] [])
      (fun h => ∃ D cv k, AtC h₀ L (some (.int (tabN ns : Int) t2)) (some (.int (reachN ns : Int) t3)) [("width", .int (widN ns : Int) t4), ("base", .int (2 ^ widN ns : Int) t5), ("counted", .ref D)] [(D, listOf (cv : List Value).toArray k)] h ∧ IntsAre cv (countedL ns)) := by
  rintro ⟨hpS, gnS, drS, tkS, osS⟩ E hA0
  (try k_fold)
  refine atC_elim hA0 ?_
  intro o1 o2 u F N d1 d2
  clear hA0
  (try dsimp only at F)
  dsimp only [lawBody, lawFd, getFd, lawScope, lawCells, cellsL, List.cons_append, List.nil_append] at N ⊢
  show wpAny _ _ (execs [_] _) _ _ _
  have ht := tab_b ns
  have hr := reach_b ns
  have hw := wid_b ns
  (try k_fold)
  end_is "my A"
  end_is "my go"
  refine ⟨X.keeps (Fr.keep (by assumption)), ?_⟩
  end_is "my go"
  refine spec_call (counted_spec w (tabN ns) (reachN ns) 8 ⟨by omega, by omega⟩ ⟨by omega, by omega⟩ (by omega) _ _ _) B (by assumption) X (by assumption) TT rfl trivial (Nat.le_of_ble_eq_true rfl) (Nat.le_of_ble_eq_true rfl) ?_
  rintro v4 h4 tk4 F4 N4 k4 ⟨D, cv, k, rfl, g4, n4, hI⟩
  have M4 := news_new (by assumption) N4 n4 g4
  clear N4
  (try k_fold)
  end_is "my go"
  exact seg_end ⟨_, _, _, atC_of (by assumption) (by assumption) ⟨rfl, rfl, rfl, trivial⟩ d1 d2 (by end_is "my sub"), hI⟩
end
end
section
section
variable {w : World} {p : Program} {loose : List Str} {mean : ExcName → Option Value} {mg mb : Str → Option Value} {ns : List Int} {vs : List Value} {l L a : Addr} {cd : Value} {gd : Option (List Code)} {A₀ : Around} {base h₀ : Heap}
def geV (z : Int) : Value → Bool
  | .int n _ => decide (z ≤ n)
  | _ => false
theorem ints_words {f : List Nat → Int} : ∀ {xs : List (List Nat)} {vs ys : List Value}, StrsAre vs (xs.map T) → Paired (fun v y => ∃ (x : List Nat) (t t' : Tok), v = Value.str (T x) t ∧ y = Value.int (f x) t') vs ys → IntsAre ys (xs.map f)
  | [], _, _, .nil, .nil => .nil
  | x :: r, _, _, .cons _ t h, .cons ⟨x', u, u', e, e2⟩ h' => by
    have e3 : x' = x := by
      have := (Value.str.inj e).1
      simpa [T] using this.symm
    subst e2 e3
    exact .cons _ _ (ints_words h h')
theorem geV_len {z : Int} : ∀ {vs : List Value} {ms : List Int}, IntsAre vs ms → (vs.filter (geV z)).length = (ms.filter fun n => decide (z ≤ n)).length
  | _, _, .nil => rfl
  | _, _, .cons n t h => by
    have ih := geV_len (z := z) h
    by_cases hz : z ≤ n <;> simp [List.filter_cons, geV, hz, ih]
theorem seg9 (B : Below A₀ base [] h₀) (X : (Mine2.hd.heap_1 w.params).In h₀) (TT : Top p loose mean mg mb h₀) (l0 : @LT.lt Nat _ 44 L ∧ @LT.lt Nat _ 51 L) {t2 t3 t4 t5 : Tok} {D : Addr} {cv : List Value} {kc : Nat} (hI : IntsAre cv (countedL ns))
    (hC : ∀ m, m < 4 → (((textsL m).filter fun x => decide ((reachN ns : Int) ≤ indV x (tabN ns : Int))).length : Int) = (countedL ns).getD m 0) :
    Seg w gd L a cd 13 1 (AtC h₀ L (some (.int (tabN ns : Int) t2)) (some (.int (reachN ns : Int) t3)) [("width", .int (widN ns : Int) t4), ("base", .int (2 ^ widN ns : Int) t5), ("counted", .ref D)] [(D, listOf cv.toArray kc)])
      (AtC h₀ L (some (.int (tabN ns : Int) t2)) (some (.int (reachN ns : Int) t3)) [("width", .int (widN ns : Int) t4), ("base", .int (2 ^ widN ns : Int) t5), ("counted", .ref D)] [(D, listOf cv.toArray kc)]) := by
  rintro ⟨hpS, gnS, drS, tkS, osS⟩ E hA0
  (try k_fold)
  refine atC_elim hA0 ?_
  intro o1 o2 u F N d1 d2
  clear hA0
  (try dsimp only at F)
  dsimp only [lawBody, lawFd, getFd, lawScope, lawCells, cellsL, List.cons_append, List.nil_append] at N ⊢
  show wpAny _ _ (execs [_] _) _ _ _
  refine wpAny_noRaise ?_
  have ht := tab_b ns
  have hr := reach_b ns
  have hcl : (countedL ns).length = 8 := countS_len2 _ _ _
  (try k_fold)
  end_is "my A"
  end_is "my go"
  refine For_invVF (by assumption) rfl rfl ?_
  end_is "my go"
  refine loop_range (n := 4) (σ := Unit) (fun _ => [(D, listOf cv.toArray kc), (L + 1 + 1, o2), (L + 1, o1), (44, tabObj #[]), (51, tabObj #[])]) (fun _ => [("width", .int (widN ns : Int) t4), ("base", .int (2 ^ widN ns : Int) t5), ("counted", .ref D)])
    (fun i c => True) () rfl rfl (by assumption) (range_small (by omega) (by omega) (by omega) (by omega)) (by rw [range_size]; omega) (by assumption) (by assumption) (by end_is "my sub") ⟨rfl, rfl, rfl, trivial⟩ trivial ?_ ?_
  · intro i ti cZ1 u h tk own hi hinv hoff F1 N1
    (try k_fold)
    dsimp only at F1 N1
    have hCi := hC i hi
    have htl : (textsL i).length ≤ 8 := by rw [textsL_len]; exact Nat.pow_le_pow_right (by decide) (by omega : i ≤ 3)
    clear hC
    end_is "my go"
    refine comp_asg (fun _ => true) (fun v y => ∃ (x : List Nat) (t t' : Tok), v = .str (T x) t ∧ y = .int (indV x (tabN ns : Int)) t') (by assumption) rfl rfl rfl (by decide) rfl (by decide) rfl rfl rfl ?_
    end_is "my go"
    refine ⟨X.keeps (Fr.keep (by assumption)), ?_⟩
    end_is "my go"
    refine spec_call (texts_spec w (0 + (i : Int)) ⟨by omega, by omega⟩ _) B (by assumption) X (by assumption) TT rfl trivial (Nat.le_of_ble_eq_true rfl) (Nat.le_of_ble_eq_true rfl) ?_
    rintro v4 h4 tk4 F4 N4 k4 ⟨DT, tv, kt, rfl, g4, n4, hS⟩
    have M4 := news_new (by assumption) N4 n4 g4
    clear N4
    rw [Int.zero_add, Int.toNat_natCast] at hS
    (try k_fold)
    end_is "my go"
    have htv : tv.length ≤ 8 := by rw [strs_len hS, List.length_map]; exact htl
    refine ⟨_, _, _, Src.list (vs := tv) (News.isList (by assumption) (by k_mem)), Nat.le_trans htv (by decide), (by first | exact rfl | trivial), by assumption, by assumption, CompIn.plain ?_, ?_⟩
    · intro C j v s₃ m₃ E' hPj F3 N3 hn3 hm3
      obtain ⟨wd, tw, hwi, rfl⟩ := words_get hS hPj
      have hwl : wd.length ≤ 10000 := by rw [textsL_mem i wd (List.mem_of_getElem? hwi)]; omega
      (try k_fold)
      end_is "my go"
      refine ⟨X.keeps (Fr.keep (by assumption)), ?_⟩
      end_is "my go"
      refine spec_call (ws_spec w wd _ hwl) B (by assumption) X (by assumption) TT rfl trivial (Nat.le_of_ble_eq_true rfl) (Nat.le_of_ble_eq_true rfl) ?_
      rintro v5 h5 tk5 F5 N5 k5 P5
      obtain ⟨q1, rfl, ok1, hh1⟩ := ws_made P5
      have M5 := news_ws (by assumption) N5 hh1
      have hn5 : h5.Ns C m₃ := by obtain ⟨oL, es, ep, hL, r⟩ := hn3; exact ⟨oL, es, ep, k5 _ _ hL, r⟩
      clear N5 P5
      dsimp only [WT.led, wsEnts, tupO, List.cons_append, List.nil_append] at M5
      (try k_fold)
      end_is "my go"
      refine ⟨X.keeps (Fr.keep (by assumption)), ?_⟩
      end_is "my go"
      refine spec_callR (ind_spec w wd q1 ok1 (tabN ns : Int) ⟨by omega, by omega⟩ _) (fun _ _ _ P => P.2) B (by assumption) X (by assumption) TT rfl (by dsimp only [WT.led, wsEnts, tupO]; end_is "my sub") trivial (Nat.le_of_ble_eq_true rfl) (Nat.le_of_ble_eq_true rfl) ?_
      rintro v6 h6 tk6 F6 N6 k6 ⟨⟨tv6, rfl⟩, -⟩
      (try k_fold)
      end_is "my go"
      exact ⟨⟨wd, tw, _, rfl, rfl⟩, _, _, rfl, fun b o e => k6 b o (k5 b o e)⟩
    intro D2 ys vs' h2 tk2 k2 F2 N2 hne hlen hP2 hpair
    obtain rfl := (list_same hlen hP2).symm
    rw [List.filter_eq_self.mpr (fun _ _ => rfl)] at hpair
    have hJ := ints_words hS hpair
    have hyl : ys.length ≤ 8 := by rw [hJ.length, List.length_map]; exact htl
    clear hpair hP2
    (try k_fold)
    end_is "my go"
    refine comp_eval (geV (reachN ns : Int)) (fun _ _ => True) (by assumption) rfl (by decide) rfl (by decide) rfl ?_
    end_is "my go"
    refine ⟨_, _, _, Src.list (vs := ys) (News.isList (by assumption) (by k_mem)), Nat.le_trans hyl (by decide), (by first | exact rfl | trivial), by assumption, by assumption, ⟨?_, ?_⟩, ?_⟩
    · intro C j v s₃ m₃ E' hPj F3 N3 hn3 hm3
      refine wpAny_tests_one ?_
      obtain ⟨n, t, hnj, rfl⟩ := ints_get hJ hPj
      (try k_fold)
      end_is "my go"
      exact ⟨rfl, _, _, rfl, fun _ _ e => e⟩
    · intro C j v s₃ m₃ E' hPj hq F3 N3 hn3 hm3
      obtain ⟨n, t, hnj, rfl⟩ := ints_get hJ hPj
      (try k_fold)
      end_is "my go"
      exact ⟨trivial, _, _, rfl, fun _ _ e => e⟩
    intro D3 ys3 vs3 h3 tk3 k3 F3 N3 hne3 hlen3 hP3 hpair3
    obtain rfl := (list_same hlen3 hP3).symm
    have hc3 : ys3.length = ((textsL i).filter fun x => decide ((reachN ns : Int) ≤ indV x (tabN ns : Int))).length := by
      rw [← paired_len hpair3, geV_len hJ, List.filter_map, List.length_map]; rfl
    have hz3 : ys3.length ≤ 8 := by rw [hc3]; exact Nat.le_trans (List.length_filter_le _ _) htl
    rw [← hc3] at hCi
    clear hpair3 hP3
    (try k_fold)
    end_is "my go"
    have hiN : ((0 : Int) + (i : Int)).toNat = i := by omega
    refine ksa_sub (by assumption) (by k_mem) hI (by omega) (by omega) (by omega) ?_ (by with_unfolding_all rfl)
    intro tg
    rw [hiN]
    end_is "my go"
    exact endT () (by assumption) (by assumption) (fun q hq => by repeat (first | exact List.mem_append_left _ hq | apply List.mem_cons_of_mem)) (fun q hq => by simp [hq]) hoff ⟨rfl, rfl, rfl, trivial⟩ trivial
  · intro cZ1 u h tk hinv F1 N1
    (try k_fold)
    end_is "my go"
    exact seg_end (atC_of (by assumption) (by assumption) ⟨rfl, rfl, rfl, trivial⟩ d1 d2 (by end_is "my sub"))
end
end
section
local macro_rules | `(tactic| walk_at "binaryOp Pow int int") => `(tactic| (refine pow_int ?_ ?_ ?_))
section
variable {w : World} {p : Program} {loose : List Str} {mean : ExcName → Option Value} {mg mb : Str → Option Value} {ns : List Int} {vs : List Value} {l L a : Addr} {cd : Value} {gd : Option (List Code)} {A₀ : Around} {base h₀ : Heap}
theorem ways_b {b : Nat} (h : 5 ≤ b) : ∀ k, k ≤ 4 → 0 ≤ waysL k (b : Int) ∧ waysL k (b : Int) ≤ (b : Int) ^ 5 := by
  have hp : ∀ i, i ≤ 4 → 1 ≤ (b : Int) ^ i ∧ (b : Int) ^ i ≤ (b : Int) ^ 4 := fun i hi => ⟨by exact_mod_cast Nat.pow_pos (by omega), by exact_mod_cast Nat.pow_le_pow_right (by omega) hi⟩
  have h5 : (5 : Int) * (b : Int) ^ 4 ≤ (b : Int) ^ 5 := by
    rw [Int.pow_succ (b : Int) 4, Int.mul_comm ((b : Int) ^ 4)]
    exact Int.mul_le_mul_of_nonneg_right (by omega) (by have := hp 4 (Nat.le_refl _); omega)
  have q0 := hp 0 (by omega); have q1 := hp 1 (by omega); have q2 := hp 2 (by omega); have q3 := hp 3 (by omega); have q4 := hp 4 (by omega)
  intro k hk
  have e0 : waysL 0 (b : Int) = 0 + 1 := rfl
  have e1 : waysL 1 (b : Int) = (b : Int) ^ 0 + 0 + 1 := rfl
  have e2 : waysL 2 (b : Int) = (b : Int) ^ 0 + ((b : Int) ^ 1 + 0) + 1 := rfl
  have e3 : waysL 3 (b : Int) = (b : Int) ^ 0 + ((b : Int) ^ 1 + ((b : Int) ^ 2 + 0)) + 1 := rfl
  have e4 : waysL 4 (b : Int) = (b : Int) ^ 0 + ((b : Int) ^ 1 + ((b : Int) ^ 2 + ((b : Int) ^ 3 + 0))) + 1 := rfl
  generalize (b : Int) ^ 0 = z0 at *
  generalize (b : Int) ^ 1 = z1 at *
  generalize (b : Int) ^ 2 = z2 at *
  generalize (b : Int) ^ 3 = z3 at *
  generalize (b : Int) ^ 4 = z4 at *
  generalize (b : Int) ^ 5 = z5 at *
  rcases (by omega : k = 0 ∨ k = 1 ∨ k = 2 ∨ k = 3 ∨ k = 4) with rfl | rfl | rfl | rfl | rfl <;> omega
theorem base_5 (ns : List Int) : 5 ≤ 2 ^ widN ns := Nat.le_trans (by decide : 5 ≤ 2 ^ 9) (Nat.pow_le_pow_right (by decide) (wid_b ns).1)
theorem base_cast (ns : List Int) : ((2 ^ widN ns : Nat) : Int) = 2 ^ widN ns := by push_cast; rfl
theorem ways_n (ns : List Int) (k : Nat) (hk : k ≤ 4) : (waysL k (2 ^ widN ns)).natAbs ≤ 2 ^ (5 * widN ns) := by
  have h := ways_b (base_5 ns) k hk
  rw [base_cast] at h
  have e : ((2 : Int) ^ widN ns) ^ 5 = ((2 ^ (5 * widN ns) : Nat) : Int) := by rw [← Int.pow_mul, Nat.mul_comm]; push_cast; rfl
  rw [e] at h
  omega
theorem base_n (ns : List Int) : ((2 : Int) ^ widN ns).natAbs = 2 ^ widN ns := by rw [← base_cast, Int.natAbs_natCast]
def pA (ns : List Int) : Int := (2 ^ widN ns) ^ (8 - reachN ns)
def pB (ns : List Int) : Int := waysL (tabN ns) (2 ^ widN ns) ^ (reachN ns / tabN ns)
def pC (ns : List Int) : Int := waysL (reachN ns % tabN ns) (2 ^ widN ns)
theorem pA_n (ns : List Int) : (pA ns).natAbs ≤ 2 ^ (7 * widN ns) := by
  unfold pA
  rw [Int.natAbs_pow, base_n, ← Nat.pow_mul]
  exact Nat.pow_le_pow_right (by decide) (by rw [Nat.mul_comm]; exact Nat.mul_le_mul_right _ (by have := reach_b ns; omega))
theorem rt_b (ns : List Int) : reachN ns / tabN ns ≤ 4 ∧ reachN ns % tabN ns ≤ 3 := by
  have hr := reach_b ns
  have ht := tab_b ns
  refine ⟨Nat.le_trans (Nat.div_le_div_left ht.1 (by omega)) (by omega), ?_⟩
  have := Nat.mod_lt (reachN ns) (by omega : 0 < tabN ns)
  omega
theorem pB_n (ns : List Int) : (pB ns).natAbs ≤ 2 ^ (20 * widN ns) := by
  unfold pB
  rw [Int.natAbs_pow]
  have h := ways_n ns (tabN ns) (tab_b ns).2
  refine Nat.le_trans (Nat.pow_le_pow_left h _) ?_
  rw [← Nat.pow_mul]
  refine Nat.pow_le_pow_right (by decide) ?_
  have := Nat.mul_le_mul_left (5 * widN ns) (rt_b ns).1
  omega
theorem pC_n (ns : List Int) : (pC ns).natAbs ≤ 2 ^ (5 * widN ns) := ways_n ns _ (by have := (rt_b ns).2; omega)
def divd (ns : List Int) : Int := pA ns * pB ns * pC ns
theorem pAB_n (ns : List Int) : (pA ns * pB ns).natAbs ≤ 2 ^ (27 * widN ns) := by
  rw [Int.natAbs_mul]
  refine Nat.le_trans (Nat.mul_le_mul (pA_n ns) (pB_n ns)) ?_
  rw [← Nat.pow_add]
  exact Nat.pow_le_pow_right (by decide) (by omega)
theorem divd_n (ns : List Int) : (divd ns).natAbs ≤ 2 ^ (32 * widN ns) := by
  unfold divd
  rw [Int.natAbs_mul]
  refine Nat.le_trans (Nat.mul_le_mul (pAB_n ns) (pC_n ns)) ?_
  rw [← Nat.pow_add]
  exact Nat.pow_le_pow_right (by decide) (by omega)
theorem fdiv_n (a b : Nat) : (a : Int).fdiv b = ((a / b : Nat) : Int) := by rw [Int.fdiv_eq_ediv_of_nonneg _ (by omega)]; rfl
theorem fmod_n (a b : Nat) : (a : Int).fmod b = ((a % b : Nat) : Int) := by rw [Int.fmod_eq_emod_of_nonneg _ (by omega)]; rfl
theorem lt_pow1 {x n m : Nat} (h : x ≤ 2 ^ n) (hm : n < m) : x < 2 ^ m := Nat.lt_of_le_of_lt h (Nat.pow_lt_pow_right (by decide) hm)
theorem seg10 (B : Below A₀ base [] h₀) (X : (Mine2.hd.heap_1 w.params).In h₀) (TT : Top p loose mean mg mb h₀) (l0 : @LT.lt Nat _ 44 L ∧ @LT.lt Nat _ 51 L) {t2 t3 t4 t5 : Tok} {D : Addr} {cv : List Value} {kc : Nat} :
    Seg w gd L a cd 14 1 (AtC h₀ L (some (.int (tabN ns : Int) t2)) (some (.int (reachN ns : Int) t3)) [("width", .int (widN ns : Int) t4), ("base", .int (2 ^ widN ns : Int) t5), ("counted", .ref D)] [(D, listOf cv.toArray kc)])
      (fun h => ∃ t6, AtC h₀ L (some (.int (tabN ns : Int) t2)) (some (.int (reachN ns : Int) t3)) [("width", .int (widN ns : Int) t4), ("base", .int (2 ^ widN ns : Int) t5), ("counted", .ref D), ("dividend", .int (divd ns) t6)] [(D, listOf cv.toArray kc)] h) := by
  rintro ⟨hpS, gnS, drS, tkS, osS⟩ E hA0
  (try k_fold)
  refine atC_elim hA0 ?_
  intro o1 o2 u F N d1 d2
  clear hA0
  (try dsimp only at F)
  dsimp only [lawBody, lawFd, getFd, lawScope, lawCells, cellsL, List.cons_append, List.nil_append] at N ⊢
  show wpAny _ _ (execs [_] _) _ _ _
  have ht := tab_b ns
  have hr := reach_b ns
  have hw := wid_b ns
  have hrt := rt_b ns
  have hB : ((2 : Int) ^ widN ns).natAbs < 2 ^ 5000 := by rw [base_n]; exact Nat.pow_lt_pow_right (by decide) (by omega)
  have hWb : (waysL (tabN ns) (2 ^ widN ns)).natAbs < 2 ^ 5000 := lt_pow1 (ways_n ns _ ht.2) (by omega)
  generalize hbB : (2 : Int) ^ widN ns = bB at *
  (try k_fold)
  end_is "my A"
  end_is "my go"
  · omega
  · exact pow_fits hB (by omega) (by omega)
  refine ⟨X.keeps (Fr.keep (by assumption)), ?_⟩
  end_is "my go"
  refine spec_call (ways_spec w (tabN ns : Int) bB ⟨by omega, by omega⟩ hB _ _) B (by assumption) X (by assumption) TT rfl trivial (Nat.le_of_ble_eq_true rfl) (Nat.le_of_ble_eq_true rfl) ?_
  rintro v4 h4 tk4 F4 N4 k4 ⟨tv, rfl⟩
  rw [Int.toNat_natCast]
  (try k_fold)
  end_is "my go"
  · rw [fdiv_n]; omega
  · exact pow_fits hWb (by rw [fdiv_n]; omega) (by rw [fdiv_n]; omega)
  have eA : bB ^ ((8 : Int) - (reachN ns : Int)).toNat = pA ns := by rw [← hbB]; unfold pA; congr 1; omega
  have eB : waysL (tabN ns) bB ^ ((reachN ns : Int).fdiv (tabN ns)).toNat = pB ns := by rw [← hbB, fdiv_n, Int.toNat_natCast]; rfl
  have eC : waysL ((reachN ns : Int).fmod (tabN ns)).toNat bB = pC ns := by rw [← hbB, fmod_n, Int.toNat_natCast]; rfl
  rw [eA, eB]
  refine PyProof.Rows.mul_int ?_ (IntMulOk.of_bits (Nat.le_trans (bits_le (lt_pow1 (pA_n ns) (Nat.lt_succ_self _))) (by omega)) (Nat.le_trans (bits_le (lt_pow1 (pB_n ns) (Nat.lt_succ_self _))) (by omega)))
  end_is "my go"
  refine ⟨X.keeps (Fr.keep (by assumption)), ?_⟩
  end_is "my go"
  refine spec_call (ways_spec w ((reachN ns : Int).fmod (tabN ns)) bB ⟨by rw [fmod_n]; omega, by rw [fmod_n]; omega⟩ hB _ _) B (by assumption) X (by assumption) TT rfl trivial (Nat.le_of_ble_eq_true rfl) (Nat.le_of_ble_eq_true rfl) ?_
  rintro v5 h5 tk5 F5 N5 k5 ⟨tv5, rfl⟩
  rw [eC]
  (try k_fold)
  end_is "my go"
  refine PyProof.Rows.mul_int ?_ (IntMulOk.of_bits (Nat.le_trans (bits_le (lt_pow1 (pAB_n ns) (Nat.lt_succ_self _))) (by omega)) (Nat.le_trans (bits_le (lt_pow1 (pC_n ns) (Nat.lt_succ_self _))) (by omega)))
  end_is "my go"
  exact seg_end ⟨_, atC_of (by assumption) (by assumption) ⟨rfl, int_some hbB.symm, rfl, rfl, trivial⟩ d1 d2 (by end_is "my sub")⟩
end
end
section
section
variable {w : World} {p : Program} {loose : List Str} {mean : ExcName → Option Value} {mg mb : Str → Option Value} {ns : List Int} {vs : List Value} {l L a : Addr} {cd : Value} {gd : Option (List Code)} {A₀ : Around} {base h₀ : Heap}
def divB (ns : List Int) : Nat := 2 ^ widN ns - 2
theorem divB_i (ns : List Int) : ((2 : Int) ^ widN ns - 2) = (divB ns : Int) := by
  have h := base_5 ns
  rw [← base_cast]
  unfold divB
  omega
theorem divB_b (ns : List Int) : 0 < divB ns ∧ divB ns < 2 ^ 4000 ∧ (divd ns).natAbs < 2 ^ (Builtin.Int.intBits (divB ns : Nat) * 200) := by
  have hw := wid_b ns
  have h1 : 2 ^ widN ns < 2 ^ 4000 := Nat.pow_lt_pow_right (by decide) (by omega)
  have h5 := base_5 ns
  have hd : 0 < divB ns := by unfold divB; omega
  refine ⟨hd, by unfold divB; omega, ?_⟩
  have hb := lt_bits (divB ns)
  have hk : widN ns ≤ Builtin.Int.intBits (divB ns : Nat) + 1 := by
    rcases Nat.lt_or_ge (Builtin.Int.intBits (divB ns : Nat) + 1) (widN ns) with hlt | hge
    · exfalso
      have h4 : 2 ^ (Builtin.Int.intBits (divB ns : Nat) + 2) ≤ 2 ^ widN ns := Nat.pow_le_pow_right (by decide) hlt
      rw [Nat.pow_add] at h4
      unfold divB at hb h4
      generalize 2 ^ widN ns = z at *
      omega
    · exact hge
  refine lt_pow1 (divd_n ns) ?_
  omega
/-- the tables filled -/
def AtN (h₀ : Heap) (L : Addr) (ps : List (Str × Value)) (news : List (Addr × Obj)) (h : Heap) : Prop :=
  ∃ c oc vs t p2, AtH h₀ L ps (news ++ [(44, tabObj #[rawInt (65 : Nat), rawInt (4 : Nat), .ref c]), (51, tabObj p2), (c, oc)]) h ∧ oc.data = .fields vs ∧ vs[1]? = some (.str "_int2digits.<locals>.inner" t) ∧ @LT.lt Nat _ L c
theorem atN_of {h₀ h : Heap} {L : Addr} {ps : List (Str × Value)} {m : Str → Option Value} {news news' : List (Addr × Obj)} {oc : Obj} {c : Addr} {vs p2 : Array Value} {t : Tok} (F : Fr h₀ L h m) (N : News h₀ L h news') (hk : Lk m ps)
    (e7 : oc.data = .fields vs) (e8 : vs[1]? = some (.str "_int2digits.<locals>.inner" t)) (e9 : @LT.lt Nat _ L c)
    (hs : ∀ p ∈ news ++ [(44, tabObj #[rawInt (65 : Nat), rawInt (4 : Nat), .ref c]), (51, tabObj p2), (c, oc)], p ∈ news') : AtN h₀ L ps news h := ⟨c, oc, vs, t, p2, at_of F N hs hk, e7, e8, e9⟩
theorem news_ne {h₀ h : Heap} {L a b : Addr} {o o' : Obj} {news : List (Addr × Obj)} (N : News h₀ L h news) (m1 : (a, o) ∈ news) (m2 : (b, o') ∈ news) (hne : o ≠ o') : a ≠ b := by
  intro e
  subst e
  have h1 := (N _ m1).1
  have h2 := (N _ m2).1
  rw [h1] at h2
  exact hne (Option.some.inj h2)
theorem hTab {a : Addr} {ps qs : Array Value} (h1 : @Ne Nat a 44) (h2 : @Ne Nat a 51) : a ∉ ([(44, tabObj qs), (51, tabObj ps)] : List (Addr × Obj)).map (·.1) := by
  intro hm
  rcases List.mem_cons.mp hm with e | hm
  · exact h1 e
  · exact h2 (List.mem_singleton.mp hm)
theorem seg11 (B : Below A₀ base [] h₀) (X : (Mine2.hd.heap_1 w.params).In h₀) (TT : Top p loose mean mg mb h₀) (l0 : @LT.lt Nat _ 44 L ∧ @LT.lt Nat _ 51 L) (hC1 : CodeHd h₀ 48 44) (hC2 : CodeHd h₀ 55 51) {c1 c2 : Option Value} {t4 t5 t6 : Tok} {D : Addr} {cv : List Value} {kc : Nat} :
    Seg w gd L a cd 15 1 (AtC h₀ L c1 c2 [("width", .int (widN ns : Int) t4), ("base", .int (2 ^ widN ns : Int) t5), ("counted", .ref D), ("dividend", .int (divd ns) t6)] [(D, listOf cv.toArray kc)])
      (fun h => ∃ T u1 u2, AtN h₀ L [("width", .int (widN ns : Int) t4), ("counted", .ref D), ("told", .ref T)] [(T, tup2 (divd ns / divB ns) (divd ns % divB ns) u1 u2), (D, listOf cv.toArray kc)] h) := by
  rintro ⟨hpS, gnS, drS, tkS, osS⟩ E hA0
  (try k_fold)
  refine atC_elim hA0 ?_
  intro o1 o2 u F N d1 d2
  clear hA0
  (try dsimp only at F)
  dsimp only [lawBody, lawFd, getFd, lawScope, lawCells, cellsL, List.cons_append, List.nil_append] at N ⊢
  show wpAny _ _ (execs [_] _) _ _ _
  have hw := wid_b ns
  (try k_fold)
  end_is "my A"
  end_is "my goO"
  refine ⟨X.keeps (Fr.keep (by assumption)), ?_⟩
  rw [divB_i]
  end_is "my goO"
  have hdb := divB_b ns
  have nD1 : D ≠ 44 := news_ne N (b := 44) (o' := tabObj #[]) (by k_mem) (by k_mem) (by exact fun h => nomatch congrArg Obj.cls h)
  have nD2 : D ≠ 51 := news_ne N (b := 51) (o' := tabObj #[]) (by k_mem) (by k_mem) (by exact fun h => nomatch congrArg Obj.cls h)
  have hD : ∀ {ps qs : Array Value}, ∀ p ∈ [(D, listOf cv.toArray kc), (L + 1 + 1, o2), (L + 1, o1)], p.1 ∉ ([(44, tabObj qs), (51, tabObj ps)] : List (Addr × Obj)).map (·.1) := by
    intro ps qs
    have h := l0.2
    have h' := l0.1
    exact List.forall_mem_cons.mpr ⟨hTab nD1 nD2, List.forall_mem_cons.mpr ⟨hTab (by omega) (by omega), List.forall_mem_cons.mpr ⟨hTab (by omega) (by omega), fun _ h => nomatch h⟩⟩⟩
  refine spec_callG (Hid := [(44, tabObj #[]), (51, tabObj #[])]) (rest := [(D, listOf cv.toArray kc), (L + 1 + 1, o2), (L + 1, o1)])
    (imd_spec w (divd ns) (divB ns) _ _ _ hdb.1 hdb.2.1 hdb.2.2) B F X N TT rfl (by end_is "my sub") (by end_is "my sub") hD ⟨hC1.keeps F.keep, hC2.keeps F.keep, .inl rfl⟩ (Nat.le_of_ble_eq_true rfl) (Nat.le_of_ble_eq_true rfl) ?_
  intro v6 h6 tk6 F6 N6 k6 o6' cZ1
  (try k_fold)
  obtain ⟨⟨Tt, u1, u2, rfl, gT, hTn⟩, ⟨c, oc, vsx, tx, g44, gc, hoc, hvx, hps⟩, ⟨c8, oc8, vs8, t8, g51, -⟩⟩ := cZ1
  have hcs : hpS.objs.size ≤ c := by
    rcases hps with ⟨_, h⟩ | h
    · exact h
    · exact absurd (congrArg Array.size h) (by simp)
  have hLc : @LT.lt Nat _ L c := Nat.lt_of_lt_of_le F.ns.lt hcs
  have N7 := news_put N6 (Nat.ne_of_gt hLc) (Heap.get?_none_of_le (Nat.le_trans F.above (Nat.le_of_lt hLc))) gc
  have N8 := news_put N7 (o6' (51, _) (by k_mem)).1 (o6' (51, _) (by k_mem)).2 g51
  have N9 := news_put N8 (o6' (44, _) (by k_mem)).1 (o6' (44, _) (by k_mem)).2 g44
  have N10 := news_new F N9 hTn gT
  clear N6 N7 N8 N9 N k6 o6'
  (try k_fold)
  end_is "my goO"
  exact seg_end ⟨_, _, _, atN_of (by assumption) (by assumption) ⟨rfl, rfl, rfl, trivial⟩ hoc hvx hLc (by dsimp only [List.cons_append, List.nil_append]; end_is "my sub")⟩
end
end
section
section
variable {w : World} {p : Program} {loose : List Str} {mean : ExcName → Option Value} {mg mb : Str → Option Value} {ns : List Int} {vs : List Value} {l L a : Addr} {cd : Value} {gd : Option (List Code)} {A₀ : Around} {base h₀ : Heap}
theorem seg12 (B : Below A₀ base [] h₀) (X : (Mine2.hd.heap_1 w.params).In h₀) (TT : Top p loose mean mg mb h₀) (l0 : @LT.lt Nat _ 44 L ∧ @LT.lt Nat _ 51 L) (hC1 : CodeHd h₀ 48 44) {t4 u1 u2 : Tok} {D Tt : Addr} {cv : List Value} {kc : Nat} (hI : IntsAre cv (countedL ns)) {q : Nat}
    (hT1 : divd ns / divB ns = (q : Int)) (hT2 : divd ns % divB ns = 256) (hq : q < 2 ^ (widN ns * 8))
    (hF : ∀ ds : List Int, (∀ d ∈ ds, 0 ≤ d ∧ d < 2 ^ widN ns) → ds.length ≤ 8 → pol (2 ^ widN ns) ds = q → ds ++ List.replicate (8 - ds.length) 0 = (countedL ns).reverse) (s : Shared) (E : Value → Shared → Prop)
    (hs : AtN h₀ L [("width", .int (widN ns : Int) t4), ("counted", .ref D), ("told", .ref Tt)] [(Tt, tup2 (divd ns / divB ns) (divd ns % divB ns) u1 u2), (D, listOf cv.toArray kc)] s.heap) :
    wpAny (model P1 w) (ktrTop 400 400 gd lawFd.name lawScope L a cd (lawCells L) []) (execs ((lawBody.drop 16).take 2) (envX lawFd.name lawScope L a cd (lawCells L)))
      (fun f s' => f = .ret (.bool true) ∧ ∃ h tk m p1 p2, s' = { s with heap := h, toks := tk } ∧ Fr h₀ L h m ∧ h.get? 44 = some (tabObj p1) ∧ h.get? 51 = some (tabObj p2)) E s := by
  obtain ⟨hpS, gnS, drS, tkS, osS⟩ := s
  (try k_fold)
  obtain ⟨c, oc, vsx, tx, p2, ⟨u, F, N⟩, hoc, hvx, hLc⟩ := hs
  (try dsimp only at F)
  rw [hT1, hT2] at N
  dsimp only [lawBody, lawFd, getFd, lawScope, lawCells, tup2, List.cons_append, List.nil_append] at N ⊢
  show wpAny _ _ (execs [_, _] _) _ _ _
  have hw := wid_b ns
  have hcl : (countedL ns).length = 8 := countS_len2 _ _ _
  (try k_fold)
  end_is "my A"
  end_is "my goO"
  refine ⟨X.keeps (Fr.keep (by assumption)), ?_⟩
  end_is "my goO"
  have hcF := (N (c, oc) (by k_mem)).1
  have nT : Tt ≠ 44 := news_ne N (b := 44) (o' := tabObj _) (by k_mem) (by k_mem) (by exact fun h => nomatch congrArg Obj.cls h)
  have nD1 : D ≠ 44 := news_ne N (b := 44) (o' := tabObj _) (by k_mem) (by k_mem) (by exact fun h => nomatch congrArg Obj.cls h)
  have n1 : ∀ {a : Addr} {qs : Array Value}, @Ne Nat a 44 → a ∉ ([(44, tabObj qs)] : List (Addr × Obj)).map (·.1) := fun h hm => h (List.mem_singleton.mp hm)
  have hc44 : @Ne Nat c 44 := Nat.ne_of_gt (Nat.lt_trans l0.1 hLc)
  refine spec_callG (Hid := [(44, tabObj #[rawInt (65 : Nat), rawInt (4 : Nat), .ref c])]) (rest := [(Tt, { cls := .type "tuple", data := .seq #[.int (q : Int) u1, .int 256 u2] }), (D, listOf cv.toArray kc), (51, tabObj p2), (c, oc)])
    (i2d_spec w q (widN ns : Int) _ _ _ (by omega) (by omega) (by rw [Int.toNat_natCast]; exact Nat.lt_of_lt_of_le hq (Nat.pow_le_pow_right (by decide) (Nat.mul_le_mul_left _ (by decide))))) B F X N TT rfl (by end_is "my sub") (by end_is "my sub") (List.forall_mem_cons.mpr ⟨n1 nT, List.forall_mem_cons.mpr ⟨n1 nD1, List.forall_mem_cons.mpr ⟨n1 (show (51 : Nat) ≠ 44 by decide), List.forall_mem_cons.mpr ⟨n1 hc44, fun _ h => nomatch h⟩⟩⟩⟩)
    ⟨hC1.keeps F.keep, .inr ⟨c, oc, vsx, tx, rfl, hcF, hoc, hvx⟩⟩ (Nat.le_of_ble_eq_true rfl) (Nat.le_of_ble_eq_true rfl) ?_
  intro v6 h6 tk6 F6 N6 k6 o6' cZ1
  (try k_fold)
  obtain ⟨⟨D2, fv, k2, ds, rfl, gD, nD, hJ, hds, hlen, hpol⟩, c7, oc7, vs7, t7, g44, -⟩ := cZ1
  rw [Int.toNat_natCast] at hlen hpol
  have hl8 : ds.length ≤ 8 := by
    have hb := bits_le (a := (q : Int)) (m := widN ns * 8) (by simpa using hq)
    rw [hlen]
    exact Nat.lt_succ_iff.mp ((Nat.div_lt_iff_lt_mul (by omega)).mpr (by omega))
  have hE : ds ++ (List.replicate (8 - (ds.length : Int)).toNat [(0 : Int)]).flatten = (countedL ns).reverse := by
    have h := hF ds (fun d hd => by have := hds d hd; rwa [Int.toNat_natCast] at this) hl8 hpol
    rw [← h, show (8 - (ds.length : Int)).toNat = 8 - ds.length by omega]
    simp
  have hfl : fv.length = ds.length := hJ.length
  have N7 := news_put N6 (o6' (44, _) (List.mem_cons_self ..)).1 (o6' (44, _) (List.mem_cons_self ..)).2 g44
  have N8 := news_new F N7 nD gD
  clear N6 N7 N k6 o6' hF hlen hpol hds
  (try k_fold)
  end_is "my goO"
  rename News _ _ _ _ => NE
  rename Fr _ _ _ _ => FE
  exact ⟨rfl, _, _, _, _, _, rfl, FE, (NE (44, _) (by k_mem)).1, (NE (51, _) (by k_mem)).1⟩
end
end
section
theorem execs_app_wp {M : Model} {A : Around} {env : Env} {Q : Flow → Shared → Prop} {E : Value → Shared → Prop} {Γ : Ctx} (hΓ : Γ.In A) : ∀ (xs ys : List Stmt) (p : Pos) (s : Shared),
    Sem.wp M Γ (execs xs env) (fun f _ s' => match f with | .next => wpAny M A (execs ys env) Q E s' | f => Q f s') (fun e _ s' => E e s') p s → Sem.wp M Γ (execs (xs ++ ys) env) (fun f _ s' => Q f s') (fun e _ s' => E e s') p s
  | [], ys, p, s, h => (show wpAny M A (execs ys env) Q E s from h) Γ p hΓ
  | x :: xs, ys, p, s, h => by
    rw [execs_cons, Sem.wp_bind'] at h
    rw [List.cons_append, execs_cons, Sem.wp_bind']
    refine Sem.wp_mono M Γ _ (fun f p₁ s₁ h2 => ?_) (fun _ _ _ y => y) p s h
    cases f with
    | next => exact execs_app_wp hΓ xs ys p₁ s₁ h2
    | brk => exact h2
    | cont => exact h2
    | ret v => exact h2
theorem execs_app {M : Model} {A : Around} {env : Env} {Q : Flow → Shared → Prop} {E : Value → Shared → Prop} (xs ys : List Stmt) (s : Shared)
    (h : wpAny M A (execs xs env) (fun f s' => match f with | .next => wpAny M A (execs ys env) Q E s' | f => Q f s') E s) : wpAny M A (execs (xs ++ ys) env) Q E s :=
  fun Γ p hΓ => execs_app_wp hΓ xs ys p s (h Γ p hΓ)
/-- what the plain law has to show -/
structure PL (ns : List Int) : Prop where
  hC : col (tabN ns : Int) (leadOf ns) = (colN ns : Int)
  hN : colN ns ≤ 16 ∧ colN ns / tabN ns ≤ 5 ∧ (colN ns + 1) / tabN ns ≤ 5
  hW : indV (leadOf ns ++ [120, 9, 32]) (tabN ns : Int) = (colN ns : Int)
  hE : ∀ u ∈ leastL (colN ns) (tabN ns), ellL (u.map fun c => [c]) (leadOf ns) = liesL u (leadOf ns)
  hV : ∀ u ∈ leastL (colN ns) (tabN ns), ∀ r, LevR u (leadOf ns) (2 * ((leadOf ns).length - (u.length : Int))) r → decide (r = 2 * ((leadOf ns).length - (u.length : Int))) = liesL u (leadOf ns)
  hW1 : ∀ u ∈ withinL ns, (colN ns : Int) ≤ indV u (tabN ns : Int)
  hW2 : ∀ u ∈ withinL ns, ∀ k, k < u.length → indV (lackL u k) (tabN ns : Int) < (colN ns : Int)
  hB : ∀ u ∈ leastL (colN ns + 1) (tabN ns), ellL (u.map fun c => [c]) (leadOf ns) = false
  hM : ∀ m, m < 4 → (((textsL m).filter fun x => decide ((reachN ns : Int) ≤ indV x (tabN ns : Int))).length : Int) = (countedL ns).getD m 0
  hQ : ∃ q : Nat, divd ns / divB ns = (q : Int) ∧ divd ns % divB ns = 256 ∧ q < 2 ^ (widN ns * 8) ∧
    ∀ ds : List Int, (∀ d ∈ ds, 0 ≤ d ∧ d < 2 ^ widN ns) → ds.length ≤ 8 → pol (2 ^ widN ns) ds = q → ds ++ List.replicate (8 - ds.length) 0 = (countedL ns).reverse
section
variable {w : World} {p : Program} {loose : List Str} {mean : ExcName → Option Value} {mg mb : Str → Option Value} {ns : List Int} {vs : List Value} {l L a : Addr} {cd : Value} {gd : Option (List Code)} {A₀ : Around} {base h₀ : Heap}
theorem seg_then {k n : Nat} {P Q : Heap → Prop} {s : Shared} {R : Flow → Shared → Prop} {E : Value → Shared → Prop} (S : Seg w gd L a cd k n P Q) (hP : P s.heap)
    (next : ∀ h tk, Q h → wpAny (model P1 w) (ktrTop 400 400 gd lawFd.name lawScope L a cd (lawCells L) []) (execs (lawBody.drop (k + n)) (envX lawFd.name lawScope L a cd (lawCells L))) R E { s with heap := h, toks := tk }) :
    wpAny (model P1 w) (ktrTop 400 400 gd lawFd.name lawScope L a cd (lawCells L) []) (execs (lawBody.drop k) (envX lawFd.name lawScope L a cd (lawCells L))) R E s := by
  have e : lawBody.drop k = (lawBody.drop k).take n ++ lawBody.drop (k + n) := by rw [← List.drop_drop, List.take_append_drop]
  rw [e]
  refine execs_app _ _ _ (wpAny_mono (S s E hP) (fun f s' q => ?_) fun _ _ e => e)
  obtain ⟨rfl, h, tk, rfl, hq⟩ := q
  exact next h tk hq
theorem law_body (PLn : PL ns) (B : Below A₀ base [] h₀) (X : (Mine2.hd.heap_1 w.params).In h₀) (TT : Top p loose mean mg mb h₀) (hl : h₀.IsList l vs.toArray) (hI : IntsAre vs ns) (hn : ns.length ≤ 63) (l0 : @LT.lt Nat _ 44 L ∧ @LT.lt Nat _ 51 L) (hC1 : CodeHd h₀ 48 44) (hC2 : CodeHd h₀ 55 51)
    (s : Shared) (E : Value → Shared → Prop) (hs : AtC h₀ L none none [("script", .ref l)] [] s.heap) :
    wpAny (model P1 w) (ktrTop 400 400 gd lawFd.name lawScope L a cd (lawCells L) []) (execs (lawBody.drop 0) (envX lawFd.name lawScope L a cd (lawCells L)))
      (fun f s' => f = .ret (.bool true) ∧ ∃ h tk m p1 p2, s' = { s with heap := h, toks := tk } ∧ Fr h₀ L h m ∧ h.get? 44 = some (tabObj p1) ∧ h.get? 51 = some (tabObj p2)) E s := by
  refine seg_then (seg1 B X TT hl hI hn l0) hs ?_
  rintro h1 tk1 ⟨t1, t2, hA⟩
  refine seg_then (seg2 B X TT hl hI hn l0) hA ?_
  clear hA hs
  rintro h2 tk2 ⟨tl, hA⟩
  refine seg_then (seg3 B X TT l0 PLn.hC (by have := PLn.hN.1; omega) PLn.hW) hA ?_
  clear hA
  rintro h3 tk3 ⟨tc, D, hA⟩
  refine seg_then (seg4 B X TT l0 ⟨PLn.hN.1, PLn.hN.2.1⟩ PLn.hE PLn.hV) hA ?_
  clear hA
  rintro h4 tk4 ⟨D, wv, k, hA, hS⟩
  refine seg_then (seg5 B X TT l0 hS PLn.hN.1 PLn.hW1 PLn.hW2) hA ?_
  clear hA
  rintro h5 tk5 hA
  refine seg_then (seg6 B X TT l0 ⟨PLn.hN.1, PLn.hN.2.2⟩ PLn.hB) hA ?_
  clear hA
  rintro h6 tk6 hA
  refine seg_then (seg7 B X TT l0) hA ?_
  clear hA
  rintro h7 tk7 ⟨t3, t4, t5, hA⟩
  refine seg_then (seg8 B X TT l0) hA ?_
  clear hA
  rintro h8 tk8 ⟨D, cv, k, hA, hJ⟩
  refine seg_then (seg9 B X TT l0 hJ PLn.hM) hA ?_
  clear hA
  rintro h9 tk9 hA
  refine seg_then (seg10 B X TT l0) hA ?_
  clear hA
  rintro h10 tk10 ⟨t6, hA⟩
  refine seg_then (seg11 B X TT l0 hC1 hC2) hA ?_
  clear hA
  rintro h11 tk11 ⟨Tt, u1, u2, hA⟩
  obtain ⟨q, hT1, hT2, hq, hF⟩ := PLn.hQ
  exact seg12 B X TT l0 hC1 hJ hT1 hT2 hq hF _ E hA
end
end
section
set_option pp.maxSteps 400 in
theorem joinT (PLall : ∀ ns, PL ns) : PySem.Challenge.rw_sc0107_02.Holds := Mine2.hd (by
  k_go0
  (all_goals try k_fold)
  rename Below callerA _ [] _ => B
  rename Top topProg _ _ _ _ _ => T1
  rename Fr _ _ _ _ => F1
  rename News _ _ _ _ => N1
  rename (Mine2.hd.heap_1 _).In (ghostOf _ _) => X1
  rename IntsAre _ _ => hI
  rename ¬ _ < _ => hlen
  rename CodeHd _ (55, 51).fst _ => hC2
  rename CodeHd _ (48, 44).fst _ => hC1
  rename @LT.lt Nat _ 51 _ ∧ _ => l0
  rename Shared.gens _ = #[] => hg
  refine wpAny_mono (wpAny_more (A := ktrTop 400 400 (some []) lawFd.name lawScope _ _ _ (lawCells _) []) (d := 302) (u := 7) (law_body (PLall _) B X1 T1 (by assumption) hI (by omega) ⟨l0.2, l0.1⟩ hC1 hC2 _ _ ?hs) (Nat.le_of_ble_eq_true rfl) (Nat.le_of_ble_eq_true rfl)) ?post fun _ _ e => e
  · refine ⟨_, _, at_of F1 N1 (by dsimp only [cellsL, List.nil_append]; end_is "my sub") ⟨rfl, trivial⟩, ?_, ?_⟩ <;> assumption
  · rintro f s' ⟨rfl, h, tk, m, p1, p2, rfl, FE, g1, g2⟩
    refine ⟨?_, ⟨p2, g2⟩, ⟨p1, g1⟩, trivial⟩
    show GoodW _ _ _ _ _ (.ok (.ret (.bool true))) _
    refine goodW_bool FE hg (raisesW_false ?_) ?_
    · wrow_none_raised
    · wrow_post)
end
section
/-- an entry of the table: the first i signs of y, the first j of x -/
def Dm (x y : List Nat) (i j : Nat) : Int := if j = 0 then 2 * (i : Int) else (rows x y i).1.getD (j - 1) 0
theorem istep_get (bc : Nat) (a : List Nat) (row : List Int) (d0 : Int) : ∀ (n j : Nat), j < n → (istep bc a row d0 n).2.2.2.getD j 0 = (istep bc a row d0 (j + 1)).2.1
  | 0, j, h => absurd h (Nat.not_lt_zero _)
  | n + 1, j, h => by
    have e : (istep bc a row d0 (n + 1)).2.2.2 = (istep bc a row d0 n).2.2.2 ++ [(istep bc a row d0 (n + 1)).2.1] := rfl
    rw [e, List.getD_eq_getElem?_getD]
    rcases Nat.lt_or_ge j n with hj | hj
    · rw [List.getElem?_append_left (by rw [istep_len]; exact hj), ← List.getD_eq_getElem?_getD]
      exact istep_get bc a row d0 n j hj
    · have : j = n := by omega
      subst this
      rw [List.getElem?_append_right (by rw [istep_len]; exact Nat.le_refl _), istep_len, Nat.sub_self]
      rfl
theorem istep_dist (bc : Nat) (a : List Nat) (row : List Int) (d0 : Int) (j : Nat) : (istep bc a row d0 j).1 = if j = 0 then d0 else row.getD (j - 1) 0 := by
  cases j with
  | zero => rfl
  | succ j => rfl
theorem istep_res (bc : Nat) (a : List Nat) (row : List Int) (d0 : Int) (j : Nat) : (istep bc a row d0 (j + 1)).2.1 = min (min (istep bc a row d0 j).2.1 (row.getD j 0) + 2) ((istep bc a row d0 j).1 + cst bc (a.getD j 0)) := rfl
theorem istep_min (bc : Nat) (a : List Nat) (row : List Int) (d0 : Int) : ∀ (n j : Nat), j < n → (istep bc a row d0 n).2.2.1 ≤ (istep bc a row d0 (j + 1)).2.1
  | 0, j, h => absurd h (Nat.not_lt_zero _)
  | n + 1, j, h => by
    have e : (istep bc a row d0 (n + 1)).2.2.1 = if (istep bc a row d0 (n + 1)).2.1 < (istep bc a row d0 n).2.2.1 then (istep bc a row d0 (n + 1)).2.1 else (istep bc a row d0 n).2.2.1 := rfl
    rw [e]
    rcases Nat.lt_or_ge j n with hj | hj
    · have := istep_min bc a row d0 n j hj
      split <;> omega
    · have : j = n := by omega
      subst this
      split <;> omega
theorem Dm_zero (x y : List Nat) (j : Nat) (hj : j ≤ x.length) : Dm x y 0 j = 2 * (j : Int) := by
  unfold Dm
  cases j with
  | zero => simp
  | succ j =>
    simp only [rows, Nat.succ_ne_zero, if_false, Nat.add_sub_cancel]
    unfold rangeInts
    rw [List.getD_eq_getElem?_getD, List.getElem?_map, List.getElem?_range (by omega)]
    simp; omega
theorem Dm_col0 (x y : List Nat) (i : Nat) : Dm x y i 0 = 2 * (i : Int) := by simp [Dm]
theorem Dm_eq (x y : List Nat) (i j : Nat) (hj : j < x.length) : Dm x y (i + 1) (j + 1) = (istep (y.getD i 0) x (rows x y i).1 (2 * (i : Int)) (j + 1)).2.1 := by
  unfold Dm
  simp only [Nat.succ_ne_zero, if_false, Nat.add_sub_cancel]
  show (istep (y.getD i 0) x (rows x y i).1 (2 * (i : Int)) x.length).2.2.2.getD j 0 = _
  rw [istep_get _ _ _ _ _ _ hj]
theorem Dm_step (x y : List Nat) (i j : Nat) (hj : j < x.length) : Dm x y (i + 1) (j + 1) = min (min (if j = 0 then 2 * (i : Int) else Dm x y (i + 1) j) (Dm x y i (j + 1)) + 2) (Dm x y i j + cst (y.getD i 0) (x.getD j 0)) := by
  rw [Dm_eq x y i j hj, istep_res]
  have e1 : (istep (y.getD i 0) x (rows x y i).1 (2 * (i : Int)) j).2.1 = if j = 0 then 2 * (i : Int) else Dm x y (i + 1) j := by
    cases j with
    | zero => rfl
    | succ j => rw [if_neg (Nat.succ_ne_zero _), Dm_eq x y i j (by omega)]
  have e2 : (istep (y.getD i 0) x (rows x y i).1 (2 * (i : Int)) j).1 = Dm x y i j := by
    rw [istep_dist]; rfl
  have e3 : (rows x y i).1.getD j 0 = Dm x y i (j + 1) := by simp [Dm]
  rw [e1, e2, e3]
theorem rows_fin (x y : List Nat) (i : Nat) (hx : 0 < x.length) : (rows x y (i + 1)).2 = Dm x y (i + 1) x.length := by
  have h := Dm_eq x y i (x.length - 1) (by omega)
  rw [show x.length - 1 + 1 = x.length by omega] at h
  rw [h]; rfl
theorem rmin_le (x y : List Nat) (i j : Nat) (hj : j < x.length) : rmin x y i ≤ Dm x y (i + 1) (j + 1) := by
  rw [Dm_eq x y i j hj]
  exact istep_min _ _ _ _ _ _ hj
/-- a relation closed under the moves of an alignment -/
structure Moves (σ : Type) (step : σ → Nat → σ) (Rel : σ → σ → Nat → Prop) : Prop where
  refl : ∀ v, Rel v v 0
  same : ∀ v u d c, Rel v u d → Rel (step v c) (step u c) d
  sub : ∀ v u d c c', Rel v u d → Rel (step v c) (step u c') (d + 1)
  left : ∀ v u d c, Rel v u d → Rel (step v c) u (d + 1)
  right : ∀ v u d c, Rel v u d → Rel v (step u c) (d + 1)
section
variable {σ : Type} {step : σ → Nat → σ} {Rel : σ → σ → Nat → Prop} (MV : Moves σ step Rel)
theorem take_snoc (x : List Nat) (j : Nat) (hj : j < x.length) (v0 : σ) (step : σ → Nat → σ) : (x.take (j + 1)).foldl step v0 = step ((x.take j).foldl step v0) (x.getD j 0) := by
  rw [List.take_add_one, List.getElem?_eq_getElem hj, List.foldl_append, List.getD_eq_getElem?_getD, List.getElem?_eq_getElem hj]
  rfl
include MV in
theorem Dm_low (x y : List Nat) (v0 : σ) : ∀ (i j : Nat), i ≤ y.length → j ≤ x.length → ∃ d : Nat, Dm x y i j = 2 * (d : Int) ∧ Rel ((x.take j).foldl step v0) ((y.take i).foldl step v0) d := by
  intro i
  induction i with
  | zero =>
    intro j _ hj
    refine ⟨j, Dm_zero x y j hj, ?_⟩
    simp only [List.take_zero, List.foldl_nil]
    induction j with
    | zero => simpa using MV.refl v0
    | succ j ih =>
      rw [take_snoc x j (by omega)]
      exact MV.left _ _ _ _ (ih (by omega))
  | succ i ih =>
    intro j hi hj
    have hcol : ∀ k, k ≤ y.length → Rel v0 ((y.take k).foldl step v0) k := by
      intro k hk
      induction k with
      | zero => simpa using MV.refl v0
      | succ k ih2 =>
        rw [take_snoc y k (by omega)]
        exact MV.right _ _ _ _ (ih2 (by omega))
    induction j with
    | zero => exact ⟨i + 1, Dm_col0 x y (i + 1), by simpa using hcol (i + 1) hi⟩
    | succ j ihj =>
      obtain ⟨d1, e1, r1⟩ := ihj (by omega)
      obtain ⟨d2, e2, r2⟩ := ih (j + 1) (by omega) hj
      obtain ⟨d3, e3, r3⟩ := ih j (by omega) (by omega)
      have hs := Dm_step x y i j (by omega)
      have hsub := MV.sub _ _ _ (x.getD j 0) (y.getD i 0) r3
      have hl := MV.left _ _ _ (x.getD j 0) r1
      have hr := MV.right _ _ _ (y.getD i 0) r2
      rw [← take_snoc x j (by omega) v0 step] at hsub hl
      rw [← take_snoc y i (by omega) v0 step] at hsub hr
      have hc : cst (y.getD i 0) (x.getD j 0) = 2 ∨ (y.getD i 0 = x.getD j 0 ∧ cst (y.getD i 0) (x.getD j 0) = 0) := by
        unfold cst; split
        · rename_i h; exact .inr ⟨h, rfl⟩
        · exact .inl rfl
      have hsm : y.getD i 0 = x.getD j 0 → Rel ((x.take (j + 1)).foldl step v0) ((y.take (i + 1)).foldl step v0) d3 := by
        intro e
        have := MV.same _ _ _ (x.getD j 0) r3
        rw [take_snoc x j (by omega), take_snoc y i (by omega), e]
        exact this
      by_cases hj0 : j = 0
      · subst hj0
        rw [if_pos rfl, e2, e3] at hs
        have e30 : d3 = i := by rw [Dm_col0] at e3; omega
        rcases hc with hc | ⟨he, hc⟩
        · rw [hc] at hs
          by_cases h1 : d2 < d3
          · exact ⟨d2 + 1, by rw [hs]; omega, hr⟩
          · exact ⟨d3 + 1, by rw [hs]; omega, hsub⟩
        · rw [hc] at hs
          by_cases h1 : d2 + 1 < d3
          · exact ⟨d2 + 1, by rw [hs]; omega, hr⟩
          · exact ⟨d3, by rw [hs]; omega, hsm he⟩
      · rw [if_neg hj0, e1, e2, e3] at hs
        rcases hc with hc | ⟨he, hc⟩
        · rw [hc] at hs
          by_cases h1 : d1 ≤ d2 ∧ d1 ≤ d3
          · exact ⟨d1 + 1, by rw [hs]; omega, hl⟩
          · by_cases h2 : d2 ≤ d3
            · exact ⟨d2 + 1, by rw [hs]; omega, hr⟩
            · exact ⟨d3 + 1, by rw [hs]; omega, hsub⟩
        · rw [hc] at hs
          by_cases h0 : d3 ≤ d1 + 1 ∧ d3 ≤ d2 + 1
          · exact ⟨d3, by rw [hs]; omega, hsm he⟩
          · by_cases h1 : d1 ≤ d2
            · exact ⟨d1 + 1, by rw [hs]; omega, hl⟩
            · exact ⟨d2 + 1, by rw [hs]; omega, hr⟩
end
end
section
section
variable {σ : Type} {step : σ → Nat → σ} {Rel : σ → σ → Nat → Prop} (MV : Moves σ step Rel)
include MV in
theorem rel_app {v u : σ} {d : Nat} (h : Rel v u d) : ∀ q : List Nat, Rel (q.foldl step v) (q.foldl step u) d
  | [] => h
  | c :: q => by
    rw [List.foldl_cons, List.foldl_cons]
    exact rel_app (MV.same _ _ _ c h) q
include MV in
theorem rel_left {v u : σ} {d : Nat} (h : Rel v u d) : ∀ q : List Nat, Rel (q.foldl step v) u (d + q.length)
  | [] => h
  | c :: q => by
    rw [List.foldl_cons, List.length_cons, show d + (q.length + 1) = (d + 1) + q.length by omega]
    exact rel_left (MV.left _ _ _ c h) q
include MV in
theorem rel_right {v u : σ} {d : Nat} (h : Rel v u d) : ∀ q : List Nat, Rel v (q.foldl step u) (d + q.length)
  | [] => h
  | c :: q => by
    rw [List.foldl_cons, List.length_cons, show d + (q.length + 1) = (d + 1) + q.length by omega]
    exact rel_right (MV.right _ _ _ c h) q
include MV in
theorem levD_low {x y : List Nat} {mx : Int} (hx : x ≠ []) (hy : y ≠ []) (v0 : σ) : levD x y mx = mx + 1 ∨ ∃ d : Nat, levD x y mx = 2 * (d : Int) ∧ Rel (x.foldl step v0) (y.foldl step v0) d := by
  unfold levD
  split
  · exact .inl rfl
  · right
    have hxl : 0 < x.length := List.length_pos_iff.mpr hx
    have hyl : 0 < y.length := List.length_pos_iff.mpr hy
    obtain ⟨d, e, r⟩ := Dm_low MV x y v0 y.length x.length (Nat.le_refl _) (Nat.le_refl _)
    have h := rows_fin x y (y.length - 1) hxl
    rw [show y.length - 1 + 1 = y.length by omega] at h
    rw [List.take_length, List.take_length] at r
    exact ⟨d, by rw [h, e], r⟩
include MV in
theorem lev_low (hsym : ∀ v u d, Rel v u d → Rel u v d) {a b : List Nat} {mx r : Int} (v0 : σ) (h : LevR a b mx r) : r = mx + 1 ∨ ∃ d : Nat, r = 2 * (d : Int) ∧ Rel (a.foldl step v0) (b.foldl step v0) d := by
  obtain ⟨p, a2, b2, q, rfl, rfl, rfl⟩ := h
  have key : levC a2 b2 mx = mx + 1 ∨ ∃ d : Nat, levC a2 b2 mx = 2 * (d : Int) ∧ Rel (a2.foldl step (p.foldl step v0)) (b2.foldl step (p.foldl step v0)) d := by
    unfold levC
    split
    · refine .inr ⟨a2.length + b2.length, by push_cast; rfl, ?_⟩
      have := rel_right MV (rel_left MV (MV.refl (p.foldl step v0)) a2) b2
      rwa [Nat.zero_add] at this
    · rename_i hne
      have ha : a2 ≠ [] := fun e => hne (.inl e)
      have hb : b2 ≠ [] := fun e => hne (.inr e)
      split
      · split
        · exact .inl rfl
        · rcases levD_low MV (mx := mx) hb ha (p.foldl step v0) with e | ⟨d, e, r⟩
          · exact .inl e
          · exact .inr ⟨d, e, hsym _ _ _ r⟩
      · split
        · exact .inl rfl
        · exact levD_low MV ha hb (p.foldl step v0)
  rcases key with e | ⟨d, e, r⟩
  · exact .inl e
  · refine .inr ⟨d, e, ?_⟩
    rw [List.foldl_append, List.foldl_append, List.foldl_append, List.foldl_append]
    exact rel_app MV r q
end
theorem Dm_same (x y : List Nat) (i j : Nat) (hj : j < x.length) (h : y.getD i 0 = x.getD j 0) : Dm x y (i + 1) (j + 1) ≤ Dm x y i j := by
  have := Dm_step x y i j hj
  have e : cst (y.getD i 0) (x.getD j 0) = 0 := by unfold cst; rw [if_pos h]
  rw [e] at this; omega
theorem Dm_sub (x y : List Nat) (i j : Nat) (hj : j < x.length) : Dm x y (i + 1) (j + 1) ≤ Dm x y i j + 2 := by
  have := Dm_step x y i j hj
  have e : cst (y.getD i 0) (x.getD j 0) ≤ 2 := by unfold cst; split <;> omega
  omega
theorem Dm_ins (x y : List Nat) (i j : Nat) (hj : j ≤ x.length) : Dm x y (i + 1) j ≤ Dm x y i j + 2 := by
  cases j with
  | zero => rw [Dm_col0, Dm_col0]; push_cast; omega
  | succ j =>
    have := Dm_step x y i j (by omega)
    omega
theorem levD_le {x y : List Nat} {mx : Int} (hx : x ≠ []) (hy : y ≠ []) (h1 : ∀ i, i < y.length → rmin x y i ≤ mx) (h2 : Dm x y y.length x.length ≤ mx) : levD x y mx ≤ mx := by
  unfold levD
  have hxl : 0 < x.length := List.length_pos_iff.mpr hx
  have hyl : 0 < y.length := List.length_pos_iff.mpr hy
  rw [if_neg (by rintro ⟨i, hi, h⟩; have := h1 i hi; omega)]
  have h := rows_fin x y (y.length - 1) hxl
  rw [show y.length - 1 + 1 = y.length by omega] at h
  rw [h]; exact h2
theorem Dm_sublist (x y : List Nat) (h : x.Sublist y) : ∀ i, i ≤ y.length → ∃ m, m ≤ x.length ∧ m ≤ i ∧ (x.drop m).Sublist (y.drop i) ∧ Dm x y i m ≤ 2 * ((i : Int) - m)
  | 0, _ => ⟨0, Nat.zero_le _, Nat.le_refl _, by simpa using h, by rw [Dm_col0]; simp⟩
  | i + 1, hi => by
    obtain ⟨m, h1, h2, h3, h4⟩ := Dm_sublist x y h i (by omega)
    have ey : y.drop i = y[i] :: y.drop (i + 1) := List.drop_eq_getElem_cons (by omega)
    rw [ey] at h3
    rcases List.sublist_cons_iff.mp h3 with h5 | ⟨rest, e, h5⟩
    · refine ⟨m, h1, by omega, h5, ?_⟩
      have := Dm_ins x y i m h1
      push_cast; omega
    · have hm : m < x.length := by
        rcases Nat.lt_or_ge m x.length with hh | hh
        · exact hh
        · rw [List.drop_eq_nil_of_le hh] at e; cases e
      have ex : x.drop m = x[m] :: x.drop (m + 1) := List.drop_eq_getElem_cons hm
      rw [ex] at e
      injection e with e1 e2
      rw [← e2] at h5
      refine ⟨m + 1, hm, by omega, h5, ?_⟩
      have := Dm_same x y i m hm (by
        rw [List.getD_eq_getElem?_getD, List.getD_eq_getElem?_getD, List.getElem?_eq_getElem (by omega), List.getElem?_eq_getElem hm]
        simp [e1])
      push_cast; omega
theorem lev_sub2 {a b : List Nat} {mx r : Int} (hs : a.Sublist b) (hm : mx = 2 * ((b.length : Int) - a.length)) (h : LevR a b mx r) : r ≤ mx := by
  obtain ⟨p, a2, b2, q, rfl, rfl, rfl⟩ := h
  have hs2 : a2.Sublist b2 := by
    rw [List.append_assoc, List.append_assoc] at hs
    exact (List.append_sublist_append_right q).mp ((List.append_sublist_append_left p).mp hs)
  have hle := hs2.length_le
  have hm2 : mx = 2 * ((b2.length : Int) - a2.length) := by simp only [List.length_append] at hm; push_cast at hm; omega
  unfold levC
  split
  · rename_i he
    have : a2.length = 0 := by
      rcases he with e | e
      · rw [e]; rfl
      · rw [e] at hle; simpa using hle
    rw [this] at hm2 ⊢; omega
  · rename_i hne
    have ha : a2 ≠ [] := fun e => hne (.inl e)
    have hb : b2 ≠ [] := fun e => hne (.inr e)
    have hal : 0 < a2.length := List.length_pos_iff.mpr ha
    rw [if_neg (by omega), if_neg (by omega)]
    refine levD_le ha hb (fun i hi => ?_) ?_
    · obtain ⟨m, h1, h2, h3, h4⟩ := Dm_sublist a2 b2 hs2 (i + 1) (by omega)
      have hl := h3.length_le
      rw [List.length_drop, List.length_drop] at hl
      cases m with
      | zero =>
        have h5 := rmin_le a2 b2 i 0 hal
        have h6 := Dm_sub a2 b2 i 0 hal
        rw [Dm_col0] at h6
        omega
      | succ m =>
        have h5 := rmin_le a2 b2 i m (by omega)
        push_cast at h4
        omega
    · obtain ⟨m, h1, h2, h3, h4⟩ := Dm_sublist a2 b2 hs2 b2.length (Nat.le_refl _)
      have hl := h3.length_le
      rw [List.length_drop, List.length_drop] at hl
      have : m = a2.length := by omega
      subst this
      omega
def SRel (v u : List Nat) (d : Nat) : Prop := u.length ≤ v.length + d ∧ v.length ≤ u.length + d ∧ (u.length = v.length + d → v.Sublist u) ∧ (v.length = u.length + d → u.Sublist v)
theorem SRel.moves : Moves (List Nat) (fun l c => l ++ [c]) SRel := by
  constructor
  · intro v; exact ⟨by omega, by omega, fun _ => List.Sublist.refl _, fun _ => List.Sublist.refl _⟩
  · rintro v u d c ⟨h1, h2, h3, h4⟩
    simp only [SRel, List.length_append, List.length_singleton]
    exact ⟨by omega, by omega, fun h => List.Sublist.append (h3 (by omega)) (List.Sublist.refl _), fun h => List.Sublist.append (h4 (by omega)) (List.Sublist.refl _)⟩
  · rintro v u d c c' ⟨h1, h2, h3, h4⟩
    simp only [SRel, List.length_append, List.length_singleton]
    exact ⟨by omega, by omega, fun h => by omega, fun h => by omega⟩
  · rintro v u d c ⟨h1, h2, h3, h4⟩
    simp only [SRel, List.length_append, List.length_singleton]
    exact ⟨by omega, by omega, fun h => by omega, fun h => (h4 (by omega)).trans (List.sublist_append_left _ _)⟩
  · rintro v u d c ⟨h1, h2, h3, h4⟩
    simp only [SRel, List.length_append, List.length_singleton]
    exact ⟨by omega, by omega, fun h => (h3 (by omega)).trans (List.sublist_append_left _ _), fun h => by omega⟩
theorem SRel.symm : ∀ v u d, SRel v u d → SRel u v d := fun _ _ _ h => ⟨h.2.1, h.1, h.2.2.2, h.2.2.1⟩
theorem fold_snoc : ∀ (a v : List Nat), a.foldl (fun l c => l ++ [c]) v = v ++ a
  | [], v => by simp
  | c :: a, v => by rw [List.foldl_cons, fold_snoc a]; simp
theorem lies_cons (c x : Nat) (w s : List Nat) : liesL (c :: w) (x :: s) = if x = c then liesL w s else liesL (c :: w) s := by
  by_cases h : x = c
  · subst h; simp [liesL]
  · rw [if_neg h]
    simp only [liesL]
    rw [List.dropWhile_cons_of_pos (by simpa using h)]
theorem lies_iff : ∀ (s u : List Nat), liesL u s = true ↔ u.Sublist s
  | [], [] => by simp [liesL]
  | [], c :: w => by simp [liesL]
  | x :: s, [] => by simp [liesL]
  | x :: s, c :: w => by
    rw [lies_cons]
    split
    · rename_i h; subst h; rw [lies_iff s w, List.cons_sublist_cons]
    · rename_i h
      rw [lies_iff s (c :: w)]
      constructor
      · exact fun k => k.cons _
      · intro k
        rcases List.sublist_cons_iff.mp k with k | ⟨r, e, k⟩
        · exact k
        · injection e with e1 e2
          exact absurd e1.symm h
theorem lev_lies (u v : List Nat) (r : Int) (h : LevR u v (2 * (v.length - (u.length : Int))) r) : decide (r = 2 * (v.length - (u.length : Int))) = liesL u v := by
  have hlow := lev_low SRel.moves SRel.symm [] h
  rw [fold_snoc, fold_snoc, List.nil_append, List.nil_append] at hlow
  cases e : liesL u v with
  | true =>
    have hu := lev_sub2 ((lies_iff v u).mp e) rfl h
    rcases hlow with e2 | ⟨d, e2, h1, h2, h3, h4⟩
    · exact absurd hu (by omega)
    · rw [decide_eq_true_eq]; omega
  | false =>
    rw [decide_eq_false_iff_not]
    intro er
    rcases hlow with e2 | ⟨d, e2, h1, h2, h3, h4⟩
    · omega
    · have := (lies_iff v u).mpr (h3 (by omega))
      rw [e] at this; cases this
theorem cut_one (c : Nat) : ∀ g : List Nat, cut [c] g = match g.dropWhile (fun x => x != c) with
    | [] => none
    | _ :: r => some r
  | [] => by simp [cut]
  | x :: g => by
    unfold cut
    by_cases h : x = c
    · subst h; simp
    · rw [if_neg (by intro k; exact h (by simpa using (List.cons_prefix_cons.mp k).1.symm)), cut_one c g, List.dropWhile_cons_of_pos (by simpa using h)]
theorem ell_lies : ∀ (u g : List Nat), ellL (u.map fun c => [c]) g = liesL u g
  | [], g => rfl
  | c :: w, g => by
    rw [List.map_cons]
    unfold ellL liesL
    rw [cut_one]
    cases g.dropWhile (fun x => x != c) with
    | nil => rfl
    | cons a r => exact ell_lies w r
end
section
def chk (w : List Nat) (t : Nat) : Bool :=
  let c := (col t w).toNat
  decide (col t w = (c : Int)) && decide (c ≤ 16) && decide (c / t ≤ 5) && decide ((c + 1) / t ≤ 5) && decide (indV (w ++ [120, 9, 32]) t = (c : Int)) &&
    ((leastL c t).filter fun u => liesL u w).all (fun u => decide ((c : Int) ≤ indV u t) && (List.range u.length).all fun k => decide (indV (lackL u k) t < (c : Int))) &&
    (leastL (c + 1) t).all fun u => !liesL u w
theorem chk_all : (((allW 6).filter fun w => decide (w.count 9 ≤ 3)).all fun w => chk w 2 && chk w 3 && chk w 4) = true := by decide +kernel
theorem leadStep_cnt {s : List Nat} {n : Int} (h : s.count 9 ≤ 3) : (leadStep s n).count 9 ≤ 3 := by
  unfold leadStep
  split
  · rename_i e; rw [List.count_append]; simp; omega
  · rw [List.count_append]; simpa using h
theorem lead_cnt (ns : List Int) : (leadOf ns).count 9 ≤ 3 := by
  unfold leadOf leadL
  have key : ∀ (l : List Int) (s : List Nat), s.count 9 ≤ 3 → (l.foldl leadStep s).count 9 ≤ 3 := by
    intro l
    induction l with
    | nil => intro s h; exact h
    | cons n r ih => intro s h; exact ih _ (leadStep_cnt h)
  exact key _ _ (by decide)
theorem chk_ns (ns : List Int) : chk (leadOf ns) (tabN ns) = true := by
  have hm : leadOf ns ∈ (allW 6).filter fun w => decide (w.count 9 ≤ 3) := by
    refine List.mem_filter.mpr ⟨?_, by simpa using lead_cnt ns⟩
    have := allW_mem (leadOf ns) (lead_sg ns)
    rwa [lead_len] at this
  have h := List.all_eq_true.mp chk_all _ hm
  rw [Bool.and_eq_true, Bool.and_eq_true] at h
  have ht := tab_b ns
  rcases (by omega : tabN ns = 2 ∨ tabN ns = 3 ∨ tabN ns = 4) with e | e | e <;> rw [e]
  · exact h.1.1
  · exact h.1.2
  · exact h.2
theorem pl_chk (ns : List Int) : col (tabN ns : Int) (leadOf ns) = (colN ns : Int) ∧ colN ns ≤ 16 ∧ colN ns / tabN ns ≤ 5 ∧ (colN ns + 1) / tabN ns ≤ 5 ∧ indV (leadOf ns ++ [120, 9, 32]) (tabN ns : Int) = (colN ns : Int) ∧
    (∀ u ∈ withinL ns, (colN ns : Int) ≤ indV u (tabN ns : Int) ∧ ∀ k, k < u.length → indV (lackL u k) (tabN ns : Int) < (colN ns : Int)) ∧
    (∀ u ∈ leastL (colN ns + 1) (tabN ns), liesL u (leadOf ns) = false) := by
  have h := chk_ns ns
  unfold chk at h
  simp only [Bool.and_eq_true, decide_eq_true_eq] at h
  obtain ⟨⟨⟨⟨⟨⟨h1, h2⟩, h3⟩, h4⟩, h5⟩, h6⟩, h7⟩ := h
  refine ⟨h1, h2, h3, h4, h5, ?_, ?_⟩
  · intro u hu
    have h := List.all_eq_true.mp h6 u hu
    rw [Bool.and_eq_true, decide_eq_true_eq] at h
    exact ⟨h.1, fun k hk => of_decide_eq_true (List.all_eq_true.mp h.2 k (List.mem_range.mpr hk))⟩
  · intro u hu
    have h := List.all_eq_true.mp h7 u hu
    simpa using h
def cnt1 (t r : Nat) : Bool := (List.range 4).all fun m => decide ((((textsL m).filter fun x => decide ((r : Int) ≤ indV x t)).length : Int) = ((countS t r 8).2).getD m 0)
theorem cnt_all : ([2, 3, 4].all fun t => (List.range 8).all fun r => cnt1 t (r + 1)) = true := by decide +kernel
theorem pl_cnt (ns : List Int) : ∀ m, m < 4 → (((textsL m).filter fun x => decide ((reachN ns : Int) ≤ indV x (tabN ns : Int))).length : Int) = (countedL ns).getD m 0 := by
  intro m hm
  have ht := tab_b ns
  have hr := reach_b ns
  have h1 := List.all_eq_true.mp cnt_all (tabN ns) (by rcases (by omega : tabN ns = 2 ∨ tabN ns = 3 ∨ tabN ns = 4) with e | e | e <;> rw [e] <;> simp)
  have h2 := List.all_eq_true.mp h1 (reachN ns - 1) (List.mem_range.mpr (by omega))
  rw [show reachN ns - 1 + 1 = reachN ns by omega] at h2
  have h3 := List.all_eq_true.mp h2 m (List.mem_range.mpr hm)
  exact of_decide_eq_true h3
end
section
def padd : List Int → List Int → List Int
  | [], ys => ys
  | xs, [] => xs
  | x :: xs, y :: ys => (x + y) :: padd xs ys
def pmul : List Int → List Int → List Int
  | [], _ => []
  | x :: xs, ys => padd (ys.map fun y => x * y) (0 :: pmul xs ys)
def ppow (xs : List Int) : Nat → List Int
  | 0 => [1]
  | n + 1 => pmul (ppow xs n) xs
section
variable (B : Int)
theorem pol_padd : ∀ xs ys : List Int, pol B (padd xs ys) = pol B xs + pol B ys
  | [], ys => by simp [padd, pol]
  | x :: xs, [] => by simp [padd, pol]
  | x :: xs, y :: ys => by
    simp only [padd, pol, pol_padd xs ys, Int.mul_add]
    omega
theorem pol_scale (x : Int) : ∀ ys : List Int, pol B (ys.map fun y => x * y) = x * pol B ys
  | [] => by simp [pol]
  | y :: ys => by
    simp only [List.map_cons, pol, pol_scale x ys, Int.mul_add]
    rw [← Int.mul_assoc, ← Int.mul_assoc, Int.mul_comm B x]
theorem pol_pmul : ∀ xs ys : List Int, pol B (pmul xs ys) = pol B xs * pol B ys
  | [], ys => by simp [pmul, pol]
  | x :: xs, ys => by
    simp only [pmul, pol_padd, pol_scale, pol, pol_pmul xs ys, Int.add_mul, Int.mul_assoc]
    omega
theorem pol_ppow (xs : List Int) : ∀ n, pol B (ppow xs n) = pol B xs ^ n
  | 0 => by simp [ppow, pol]
  | n + 1 => by rw [ppow, pol_pmul, pol_ppow xs n, Int.pow_succ]
theorem pol_x : ∀ k, pol B (List.replicate k 0 ++ [1]) = B ^ k
  | 0 => by simp [pol]
  | k + 1 => by
    rw [List.replicate_succ, List.cons_append, pol, pol_x k, Int.pow_succ, Int.zero_add, Int.mul_comm]
theorem pows_shift : ∀ k, ((List.range k).map fun i => B ^ (i + 1)).sum = B * ((List.range k).map fun i => B ^ i).sum
  | 0 => by simp
  | k + 1 => by
    rw [List.range_succ, List.map_append, List.map_append, List.sum_append, List.sum_append, pows_shift k, Int.mul_add]
    simp only [List.map_cons, List.map_nil, List.sum_cons, List.sum_nil, Int.add_zero]
    rw [Int.pow_succ, Int.mul_comm (B ^ k) B]
theorem pol_ones : ∀ k, pol B (List.replicate k 1) = ((List.range k).map fun i => B ^ i).sum
  | 0 => rfl
  | k + 1 => by
    rw [List.replicate_succ, pol, pol_ones k, List.range_succ_eq_map, List.map_cons, List.sum_cons, List.map_map, Int.pow_zero, ← pows_shift]
    rfl
def polyW (k : Nat) : List Int := padd (List.replicate k 1) [1]
theorem pol_ways (k : Nat) : pol B (polyW k) = waysL k B := by
  unfold polyW waysL
  rw [pol_padd, pol_ones]
  simp [pol]
theorem pol_zeros : ∀ xs : List Int, (xs.all fun x => decide (x = 0)) = true → pol B xs = 0
  | [], _ => rfl
  | x :: xs, h => by
    rw [List.all_cons, Bool.and_eq_true, decide_eq_true_eq] at h
    rw [pol, h.1, pol_zeros xs h.2]; simp
theorem pol_pad (ds : List Int) (k : Nat) : pol B (ds ++ List.replicate k 0) = pol B ds := by
  rw [pol_append, pol_zeros B (List.replicate k 0) (by simp), Int.mul_zero, Int.add_zero]
theorem pol_lt (hB : 1 < B) : ∀ ds : List Int, (∀ d ∈ ds, 0 ≤ d ∧ d < B) → 0 ≤ pol B ds ∧ pol B ds < B ^ ds.length
  | [], _ => by simp [pol]
  | d :: ds, h => by
    have h0 := h d (List.mem_cons_self ..)
    obtain ⟨i0, i1⟩ := pol_lt hB ds fun x hx => h x (List.mem_cons_of_mem _ hx)
    rw [pol, List.length_cons, Int.pow_succ, Int.mul_comm _ B]
    have h1 : B * (pol B ds + 1) ≤ B * B ^ ds.length := Int.mul_le_mul_of_nonneg_left i1 (by omega)
    have h2 : 0 ≤ B * pol B ds := Int.mul_nonneg (by omega) i0
    rw [Int.mul_add] at h1
    omega
theorem pol_inj (hB : 1 < B) : ∀ ds es : List Int, ds.length = es.length → (∀ d ∈ ds, 0 ≤ d ∧ d < B) → (∀ d ∈ es, 0 ≤ d ∧ d < B) → pol B ds = pol B es → ds = es
  | [], [], _, _, _, _ => rfl
  | d :: ds, e :: es, hl, h1, h2, he => by
    have a1 := h1 d (List.mem_cons_self ..)
    have a2 := h2 e (List.mem_cons_self ..)
    rw [pol, pol] at he
    have m1 : (d + B * pol B ds) % B = d := by rw [Int.add_mul_emod_self_left]; exact Int.emod_eq_of_lt a1.1 a1.2
    have m2 : (e + B * pol B es) % B = e := by rw [Int.add_mul_emod_self_left]; exact Int.emod_eq_of_lt a2.1 a2.2
    rw [he, m2] at m1
    subst m1
    have h3 : pol B ds = pol B es := Int.eq_of_mul_eq_mul_left (by omega : B ≠ 0) (by omega)
    rw [pol_inj hB ds es (by simpa using hl) (fun x hx => h1 x (List.mem_cons_of_mem _ hx)) (fun x hx => h2 x (List.mem_cons_of_mem _ hx)) h3]
end
def polyD (t r : Nat) : List Int := pmul (pmul (List.replicate (8 - r) 0 ++ [1]) (ppow (polyW t) (r / t))) (polyW (r % t))
def chkD (t r : Nat) : Bool :=
  let c := (countS t r 8).2
  (padd (polyD t r) ((padd (pmul [-2, 1] c.reverse) [256]).map fun y => -1 * y)).all (fun x => decide (x = 0)) && c.all fun x => decide (0 ≤ x ∧ x < 512)
theorem chkD_all : ([2, 3, 4].all fun t => (List.range 8).all fun r => chkD t (r + 1)) = true := by decide +kernel
theorem divd_poly (ns : List Int) : divd ns = pol (2 ^ widN ns) (polyD (tabN ns) (reachN ns)) := by
  unfold divd pA pB pC polyD
  rw [pol_pmul, pol_pmul, pol_x, pol_ppow, pol_ways, pol_ways]
theorem plain (ns : List Int) : PL ns := by
  obtain ⟨h1, h2, h3, h4, h5, h6, h7⟩ := pl_chk ns
  refine ⟨h1, ⟨h2, h3, h4⟩, h5, fun u _ => ell_lies u _, fun u _ r h => lev_lies u _ r h, fun u hu => (h6 u hu).1, fun u hu => (h6 u hu).2, fun u hu => by rw [ell_lies]; exact h7 u hu, pl_cnt ns, ?_⟩
  have ht := tab_b ns
  have hr := reach_b ns
  have hw := wid_b ns
  have c1 := List.all_eq_true.mp chkD_all (tabN ns) (by rcases (by omega : tabN ns = 2 ∨ tabN ns = 3 ∨ tabN ns = 4) with e | e | e <;> rw [e] <;> simp)
  have c2 := List.all_eq_true.mp c1 (reachN ns - 1) (List.mem_range.mpr (by omega))
  rw [show reachN ns - 1 + 1 = reachN ns by omega] at c2
  unfold chkD at c2
  rw [Bool.and_eq_true] at c2
  obtain ⟨c3, c4⟩ := c2
  have hb : (512 : Int) ≤ 2 ^ widN ns := by
    rw [← base_cast]
    exact_mod_cast Nat.pow_le_pow_right (n := 2) (by decide) hw.1
  have hcl : (countedL ns).reverse.length = 8 := by rw [List.length_reverse]; exact countS_len2 _ _ _
  have hdig : ∀ d ∈ (countedL ns).reverse, 0 ≤ d ∧ d < 2 ^ widN ns := fun d hd => by
    have := of_decide_eq_true (List.all_eq_true.mp c4 d (List.mem_reverse.mp hd))
    omega
  have hz := pol_zeros (2 ^ widN ns) _ c3
  rw [pol_padd, ← divd_poly, pol_scale, pol_padd, pol_pmul] at hz
  have e1 : pol (2 ^ widN ns) [-2, 1] = 2 ^ widN ns - 2 := by simp only [pol]; omega
  have e2 : pol (2 ^ widN ns) [256] = 256 := by simp only [pol]; omega
  rw [e1, e2] at hz
  change divd ns + -1 * ((2 ^ widN ns - 2) * pol (2 ^ widN ns) (countedL ns).reverse + 256) = 0 at hz
  have hp := pol_lt (2 ^ widN ns) (by omega) _ hdig
  rw [hcl] at hp
  have hB : (divB ns : Int) = 2 ^ widN ns - 2 := (divB_i ns).symm
  have hu := (Int.ediv_emod_unique (a := divd ns) (b := divB ns) (r := 256) (q := pol (2 ^ widN ns) (countedL ns).reverse) (by rw [hB]; omega)).mpr ⟨by rw [hB]; omega, by omega, by rw [hB]; omega⟩
  refine ⟨(pol (2 ^ widN ns) (countedL ns).reverse).toNat, by rw [hu.1, Int.toNat_of_nonneg hp.1], hu.2, ?_, ?_⟩
  · have e3 : ((2 : Int) ^ widN ns) ^ 8 = ((2 ^ (widN ns * 8) : Nat) : Int) := by rw [← Int.pow_mul]; push_cast; rfl
    rw [e3] at hp
    omega
  · intro ds hds hl hpol
    rw [Int.toNat_of_nonneg hp.1] at hpol
    refine pol_inj (2 ^ widN ns) (by omega) _ _ (by rw [List.length_append, List.length_replicate, hcl]; omega) ?_ hdig (by rw [pol_pad]; exact hpol)
    intro d hd
    rcases List.mem_append.mp hd with hd | hd
    · exact hds d hd
    · rw [(List.mem_replicate.mp hd).2]; omega
end
end Mine2
set_option maxRecDepth 100000 in
theorem PySem.Challenge.cw_sc0107_02_holds : PySem.Challenge.rw_sc0107_02.Holds := by
  exact Mine2.joinT Mine2.plain
