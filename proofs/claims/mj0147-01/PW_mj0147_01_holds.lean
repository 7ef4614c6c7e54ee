import PyProof.Rows.All
import Wide.All
import OpenK.AllK
import Wide.FinOn
import PySem.Challenge.RW_mj0147_01
open PySem PySem.W PyProof.Rows
set_option Elab.async false
set_option maxRecDepth 100000
set_option maxHeartbeats 8000000
namespace Mine
open_top hd for PySem.Challenge.rw_mj0147_01
open PySem.Calls

/-- entering a def of the text: the heap below stays, the objects named in hid stand on the ledger -/
theorem enterH {prog : Program} {w : World} {A : Around} {s : Shared} {K : Frag} {p : Program} {loose : List Str} {mean : ExcName → Option Value} {mg mb : Str → Option Value} {hb : Heap}
    {R : Result → Shared → Prop} {name qual : Str} {params : Arguments} {body : List Stmt} {scope : Scope} {dV kV doc pm cdv ct oc : Value} {an od : Option Addr} {osl : Array (Option Value)} {f : Addr} {args : Args}
    (hid : List (Addr × Obj)) (binds : List (Str × Value))
    (X : K.In hb) (T : Top p loose mean mg mb hb) (kb : hb.StaysIn s.heap) (H : ∀ q ∈ hid, s.heap.get? q.1 = some q.2 ∧ hb.get? q.1 = none)
    (ho : K.lookup f = some ⟨oc, od, .func (fnOf name qual params body scope dV kV doc pm an cdv ct), osl⟩) (hcd : codeIn K cdv qual = true) (hroom : A.depth < recursionLimit)
    (hbind : BindsTo s (fnOf name qual params body scope dV kV doc pm an cdv ct) args binds) (hloc : ∀ y ∈ binds, scope.names.lookup y.1 = some .local)
    (h : ∀ g L' h₁ tk, Fr g L' h₁ (fun y => binds.reverse.lookup y) → News g L' h₁ hid → K.In g → Top p loose mean mg mb g → hb.StaysIn g →
      (∀ h', g.StaysIn h' → ∀ b o, s.heap.get? b = some o → b ∉ hid.map (·.1) → h'.get? b = some o) →
      wpAny (model prog w) (A.deeper (envOf qual scope L' f cdv)) (execs body (envOf qual scope L' f cdv))
        (fun fl s' => R (.ok (.ret (match fl with | .ret v => v | _ => .none))) s') (fun _ _ => False)
        { s with heap := h₁, toks := tk })
    (hco : scope.isCoroutine = false := by rfl) (hgen : scope.isGenerator = false := by rfl) (hk : scope.kind = .function := by rfl)
    (hcell : ∀ x ∈ scope.names, x.2 ≠ .cell := by decide) : codeAny (model prog w) A (.call (.ref f) args) R s := by
  refine codeAny_call_def (fd := fnOf name qual params body scope dV kV doc pm an cdv ct) (body := body) (binds := binds) hroom ((X.keeps kb) _ _ ho) rfl (T.nolimit.keeps kb) (codeRec_of (X.keeps kb) hcd) rfl hbind hcell hloc (fun h₁ hns hk₁ => ?_) hco hgen hk
  have hne : ∀ b o, hb.get? b = some o → b ∉ hid.map (·.1) := fun b o e q => by
    obtain ⟨x, hx, rfl⟩ := List.mem_map.mp q
    rw [(H x hx).2] at e; cases e
  have kg : hb.StaysIn (hideAll s.heap (hid.map (·.1))) := fun b o e => hideAll_get _ (kb b o e) (hne b o e)
  have kg' : ∀ b o, hb.get? b = some o → (hideAll s.heap (hid.map (·.1))).get? b = some o := kg
  refine wpAny_noRaise (h (hideAll s.heap (hid.map (·.1))) s.heap.objs.size h₁ _ ⟨hns, fun b o e => hk₁ b o (of_hideAll _ e), Nat.le_of_eq (hideAll_size _ _)⟩ (fun q hq => ⟨hk₁ _ _ (H q hq).1, Nat.ne_of_lt (Heap.lt_size (H q hq).1), hideAll_none _ (List.mem_map_of_mem hq)⟩) (X.keeps kg') (T.keeps kg') kg ?_)
  intro h' hst b o e hn
  exact hst b o (hideAll_get _ e hn)

theorem enterC {prog : Program} {w : World} {A : Around} {s : Shared} {K : Frag} {p : Program} {loose : List Str} {mean : ExcName → Option Value} {mg mb : Str → Option Value} {hb : Heap}
    {Q E : Value → Shared → Prop} {name qual : Str} {params : Arguments} {body : List Stmt} {scope : Scope} {dV kV doc pm cdv ct oc : Value} {an od : Option Addr} {osl : Array (Option Value)} {f : Addr} {args : List Value}
    (hid : List (Addr × Obj)) (binds : List (Str × Value))
    (X : K.In hb) (T : Top p loose mean mg mb hb) (kb : hb.StaysIn s.heap) (H : ∀ q ∈ hid, s.heap.get? q.1 = some q.2 ∧ hb.get? q.1 = none)
    (ho : K.lookup f = some ⟨oc, od, .func (fnOf name qual params body scope dV kV doc pm an cdv ct), osl⟩) (hcd : codeIn K cdv qual = true) (hroom : A.depth < recursionLimit)
    (hbind : BindsTo s (fnOf name qual params body scope dV kV doc pm an cdv ct) ⟨args, []⟩ binds) (hloc : ∀ y ∈ binds, scope.names.lookup y.1 = some .local)
    (h : ∀ g L' h₁ tk, Fr g L' h₁ (fun y => binds.reverse.lookup y) → News g L' h₁ hid → K.In g → Top p loose mean mg mb g → hb.StaysIn g →
      (∀ h', g.StaysIn h' → ∀ b o, s.heap.get? b = some o → b ∉ hid.map (·.1) → h'.get? b = some o) →
      wpAny (model prog w) (A.deeper (envOf qual scope L' f cdv)) (execs body (envOf qual scope L' f cdv))
        (fun fl s' => Q (match fl with | .ret v => v | _ => .none) s') (fun _ _ => False)
        { s with heap := h₁, toks := tk })
    (hco : scope.isCoroutine = false := by rfl) (hgen : scope.isGenerator = false := by rfl) (hk : scope.kind = .function := by rfl)
    (hcell : ∀ x ∈ scope.names, x.2 ≠ .cell := by decide) : wpAny (model prog w) A (call (.ref f) args) Q E s :=
  wpAny_call (enterH hid binds X T kb H ho hcd hroom hbind hloc h hco hgen hk hcell)

/-- all of the caller's heap stays, when what was on the ledger stays -/
theorem back {s : Shared} {g h' : Heap} {hid : List (Addr × Obj)} {L : Addr} {m : Str → Option Value} {news : List (Addr × Obj)}
    (H : ∀ q ∈ hid, s.heap.get? q.1 = some q.2) (hk : ∀ h', g.StaysIn h' → ∀ b o, s.heap.get? b = some o → b ∉ hid.map (·.1) → h'.get? b = some o)
    (F : Fr g L h' m) (N : News g L h' news) (hs : ∀ q ∈ hid, q ∈ news) : s.heap.StaysIn h' := fun b o e => by
  by_cases hb : b ∈ hid.map (·.1)
  · obtain ⟨q, hq, rfl⟩ := List.mem_map.mp hb
    have e1 := H q hq
    rw [e] at e1; cases e1
    exact (N q (hs q hq)).1
  · exact hk h' F.keep b o e hb

theorem say {h₀ h : Heap} {L : Addr} {m : Str → Option Value} (F : Fr h₀ L h m) (x : Str) (v : Value) (e : m x = some v) : Fr h₀ L h (fun y => if y = x then some v else m y) := by
  have : (fun y => if y = x then some v else m y) = m := by
    funext y
    by_cases hy : y = x
    · subst hy; simp [e]
    · simp [hy]
  rw [this]; exact F

theorem use {α : Type} {M : Model} {A : Around} {E : Value → Shared → Prop} {s : Shared} {t : Sem α} {P Q : α → Shared → Prop} (h : wpAny M A t P (fun _ _ => False) s) (k : ∀ v s', P v s' → Q v s') : wpAny M A t Q E s :=
  wpAny_mono h k fun _ _ x => x.elim

def Turned (s : Shared) (h₀ : Heap) (L I : Addr) (oI : Obj) (Q : Flow → Shared → Prop) (Jn : (Str → Option Value) → List (Addr × Obj) → Prop) (f : Flow) (s₂ : Shared) : Prop := match f with
  | .ret v => Q (.ret v) s₂
  | .brk => Q .next s₂
  | _ => ∃ h' tk' m₂ news₂, s₂ = { s with heap := h', toks := tk' } ∧ Fr h₀ L h' m₂ ∧ News h₀ L h' ((I, oI) :: news₂) ∧ (∀ p ∈ news₂, p.1 ≠ I) ∧ Jn m₂ news₂
theorem Turned.next {s : Shared} {h₀ : Heap} {L I : Addr} {oI : Obj} {Q : Flow → Shared → Prop} {Jn : (Str → Option Value) → List (Addr × Obj) → Prop} {h' : Heap} {tk : Nat} {m₂ : Str → Option Value} {all : List (Addr × Obj)} (news₂ : List (Addr × Obj))
    (F : Fr h₀ L h' m₂) (N : News h₀ L h' all) (hs : ∀ p ∈ (I, oI) :: news₂, p ∈ all) (hn : ∀ p ∈ news₂, p.1 ≠ I) (hj : Jn m₂ news₂) : Turned s h₀ L I oI Q Jn .next { s with heap := h', toks := tk } :=
  ⟨h', tk, m₂, news₂, rfl, F, fun p hp => N p (hs p hp), hn, hj⟩

section
variable {prog : Program} {w : World} {A : Around} {E : Value → Shared → Prop} {s : Shared} {env : Env} {h₀ : Heap} {x : Str} {body : List Stmt} {Q : Flow → Shared → Prop}

/-- a loop over an iterator that owns one object -/
theorem loopOne {I : Addr} {n : Nat} {P : Nat → Value → Prop} {St : Nat → Heap → Prop} {m₀ : Str → Option Value} {news : List (Addr × Obj)} (J : Nat → (Str → Option Value) → List (Addr × Obj) → Prop)
    (W : Walks prog w A I [I] [I] n P St) (hSt : ∀ i h, St i h → ∃ o, h.get? I = some o) (hLI : env.locals ≠ I) (hI₀ : h₀.get? I = none) (hnw : ∀ p ∈ news, p.1 ≠ I)
    (hst : St 0 s.heap) (F : Fr h₀ env.locals s.heap m₀) (N : News h₀ env.locals s.heap news) (hj : J 0 m₀ news)
    (turn : ∀ i v m₁ news₁ h tk oI, i < n → P i v → J i m₁ news₁ → Fr h₀ env.locals h (fun y => if y = x then some v else m₁ y) → News h₀ env.locals h ((I, oI) :: news₁) → (∀ p ∈ news₁, p.1 ≠ I) →
      wpAny (model prog w) A (execs body env) (Turned s h₀ env.locals I oI Q (J (i + 1))) E { s with heap := h, toks := tk })
    (done : ∀ m₁ news₁ h tk, J n m₁ news₁ → Fr h₀ env.locals h m₁ → News h₀ env.locals h news₁ → Q .next { s with heap := h, toks := tk }) :
    LoopAtV prog w A h₀ env x body Q E (.ref I) s := by
  refine ⟨I, _, _, _, _, St, m₀, news, J, rfl, W, ?_, ?_, ?_, hst, F, N, hj, ?_, ?_⟩
  · intro hm; exact hLI (List.mem_singleton.mp hm)
  · intro b hb; rw [List.mem_singleton.mp hb]; exact hI₀
  · intro p hp hI; exact hnw p hp (List.mem_singleton.mp hI)
  · rintro i v m₁ news₁ s₁ own ⟨hh', tk', rfl⟩ hin hP hJ hoff h5 h6 h7 hs F₁ N₁
    obtain ⟨oI, hoI⟩ := hSt _ _ hs
    have hoff' : ∀ p ∈ news₁, p.1 ≠ I := fun p hp e => hoff p hp (List.mem_singleton.mpr e)
    have own1 : ∀ p ∈ own, p = (I, oI) := fun p hp => by
      have a := N₁ p (List.mem_append.mpr (.inl hp))
      have b : p.1 = I := List.mem_singleton.mp (h5 p hp)
      have c := a.1
      rw [b] at c
      exact Prod.ext b (Option.some.inj (c.symm.trans hoI))
    have NI : News h₀ env.locals hh' ((I, oI) :: news₁) := fun p hp => by
      rcases List.mem_cons.mp hp with rfl | hp
      · exact N₁ _ (List.mem_append.mpr (.inl (h7 I (List.mem_singleton.mpr rfl) hI₀ oI hoI)))
      · exact N₁ p (List.mem_append.mpr (.inr hp))
    refine wpAny_mono (turn i v m₁ news₁ hh' tk' oI hin hP hJ F₁ NI hoff') (fun f s₂ p => ?_) fun _ _ e => e
    have fin : (∃ h' tk' m₂ news₂, s₂ = { s with heap := h', toks := tk' } ∧ Fr h₀ env.locals h' m₂ ∧ News h₀ env.locals h' ((I, oI) :: news₂) ∧ (∀ p ∈ news₂, p.1 ≠ I) ∧ J (i + 1) m₂ news₂) → LoopStepU h₀ env.locals [I] own (J (i + 1)) { s with heap := hh', toks := tk' } .next s₂ := by
      rintro ⟨h', tk, m', news', e, F', N', hn, hm⟩
      refine ⟨rfl, h', tk, m', news', e, F', fun p hp => ?_, fun p hp hq => hn p hp (List.mem_singleton.mp hq), hm⟩
      rcases List.mem_append.mp hp with hp | hp
      · obtain rfl := own1 p hp
        exact N' _ List.mem_cons_self
      · exact N' p (List.mem_cons_of_mem _ hp)
    cases f with
    | ret v => exact .ret p
    | brk => exact .brk p
    | next => exact .next (fin p)
    | cont => exact .cont (fin p)
  · rintro h' tk m' news' F' N' _ hJ
    exact done m' news' h' tk hJ F' N'

/-- a loop over a text -/
theorem loopStr {xt : Str} {tx : Tok} {m₀ : Str → Option Value} {news : List (Addr × Obj)} (J : Nat → (Str → Option Value) → List (Addr × Obj) → Prop)
    (hh : A.handled = none) (F : Fr h₀ env.locals s.heap m₀) (N : News h₀ env.locals s.heap news) (hj : J 0 m₀ news)
    (turn : ∀ i c t m₁ news₁ h tk I oI, xt.cps[i]? = some c → J i m₁ news₁ → Fr h₀ env.locals h (fun y => if y = x then some (.str ⟨#[c]⟩ t) else m₁ y) → News h₀ env.locals h ((I, oI) :: news₁) → (∀ p ∈ news₁, p.1 ≠ I) →
      wpAny (model prog w) A (execs body env) (Turned s h₀ env.locals I oI Q (J (i + 1))) E { s with heap := h, toks := tk })
    (done : ∀ m₁ news₁ h tk, J xt.cps.size m₁ news₁ → Fr h₀ env.locals h m₁ → News h₀ env.locals h news₁ → Q .next { s with heap := h, toks := tk }) :
    wpAny (model prog w) A (pyIter (.str xt tx)) (fun it s₂ => LoopAtV prog w A h₀ env x body Q E it s₂) E s := by
  have hI₀ : h₀.get? s.heap.objs.size = none := next_is_new F
  have hLI : env.locals ≠ s.heap.objs.size := Nat.ne_of_lt F.ns.lt
  have hnw : ∀ p ∈ news, p.1 ≠ s.heap.objs.size := fun p hp e => absurd (Heap.lt_size (N p hp).1) (e ▸ Nat.lt_irrefl _)
  have NP : ∀ o, News h₀ env.locals (s.heap.push o) news := fun o p hp => ⟨Heap.get?_push_of_some _ (N p hp).1, (N p hp).2⟩
  cases ha : xt.cps.all (· < 128)
  · refine wpAny_pyIter_wide ha (loopOne J (Walks.strWide hh _ xt tx) (fun i h st => let ⟨o, e, _⟩ := st; ⟨o, e⟩) hLI hI₀ hnw ⟨_, Heap.get?_push_size _ rfl, rfl, rfl⟩ (F.push _) (NP _) hj ?_ done)
    rintro i v m₁ news₁ h tk oI hi ⟨c, t, hc, rfl⟩ hJ F₁ N₁ hoff
    exact turn i c t m₁ news₁ h tk _ oI hc hJ F₁ N₁ hoff
  · refine wpAny_pyIter_ascii ha (loopOne J (Walks.strAscii hh _ xt tx) (fun i h st => let ⟨o, e, _⟩ := st; ⟨o, e⟩) hLI hI₀ hnw ⟨_, Heap.get?_push_size _ rfl, rfl, rfl⟩ (F.push _) (NP _) hj ?_ done)
    rintro i v m₁ news₁ h tk oI hi ⟨c, t, hc, rfl⟩ hJ F₁ N₁ hoff
    exact turn i c t m₁ news₁ h tk _ oI hc hJ F₁ N₁ hoff

def TurnedB (s : Shared) (h₀ : Heap) (L I : Addr) (oI : Obj) (Q : Flow → Shared → Prop) (Jn Jd : (Str → Option Value) → List (Addr × Obj) → Prop) (f : Flow) (s₂ : Shared) : Prop := match f with
  | .ret v => Q (.ret v) s₂
  | .brk => ∃ h' tk' m₂ news₂, s₂ = { s with heap := h', toks := tk' } ∧ Fr h₀ L h' m₂ ∧ News h₀ L h' news₂ ∧ Jd m₂ news₂
  | _ => ∃ h' tk' m₂ news₂, s₂ = { s with heap := h', toks := tk' } ∧ Fr h₀ L h' m₂ ∧ News h₀ L h' ((I, oI) :: news₂) ∧ (∀ p ∈ news₂, p.1 ≠ I) ∧ Jn m₂ news₂
theorem TurnedB.next {L I : Addr} {oI : Obj} {Jn Jd : (Str → Option Value) → List (Addr × Obj) → Prop} {h' : Heap} {tk : Nat} {m₂ : Str → Option Value} {all : List (Addr × Obj)} (news₂ : List (Addr × Obj))
    (F : Fr h₀ L h' m₂) (N : News h₀ L h' all) (hs : ∀ p ∈ (I, oI) :: news₂, p ∈ all) (hn : ∀ p ∈ news₂, p.1 ≠ I) (hj : Jn m₂ news₂) : TurnedB s h₀ L I oI Q Jn Jd .next { s with heap := h', toks := tk } :=
  ⟨h', tk, m₂, news₂, rfl, F, fun p hp => N p (hs p hp), hn, hj⟩
theorem TurnedB.brk {L I : Addr} {oI : Obj} {Jn Jd : (Str → Option Value) → List (Addr × Obj) → Prop} {h' : Heap} {tk : Nat} {m₂ : Str → Option Value} {all : List (Addr × Obj)} (news₂ : List (Addr × Obj))
    (F : Fr h₀ L h' m₂) (N : News h₀ L h' all) (hs : ∀ p ∈ news₂, p ∈ all) (hj : Jd m₂ news₂) : TurnedB s h₀ L I oI Q Jn Jd .brk { s with heap := h', toks := tk } :=
  ⟨h', tk, m₂, news₂, rfl, F, fun p hp => N p (hs p hp), hj⟩
/-- a loop over a text that may break: its end said once -/
theorem loopStrB {xt : Str} {tx : Tok} {m₀ : Str → Option Value} {news : List (Addr × Obj)} (J : Nat → (Str → Option Value) → List (Addr × Obj) → Prop) (Jd : (Str → Option Value) → List (Addr × Obj) → Prop)
    (hh : A.handled = none) (F : Fr h₀ env.locals s.heap m₀) (N : News h₀ env.locals s.heap news) (hj : J 0 m₀ news)
    (turn : ∀ i c t m₁ news₁ h tk I oI, xt.cps[i]? = some c → J i m₁ news₁ → Fr h₀ env.locals h (fun y => if y = x then some (.str ⟨#[c]⟩ t) else m₁ y) → News h₀ env.locals h ((I, oI) :: news₁) → (∀ p ∈ news₁, p.1 ≠ I) →
      wpAny (model prog w) A (execs body env) (TurnedB s h₀ env.locals I oI Q (J (i + 1)) Jd) E { s with heap := h, toks := tk })
    (last : ∀ m₁ news₁, J xt.cps.size m₁ news₁ → Jd m₁ news₁)
    (fin : ∀ m₁ news₁ h tk, Jd m₁ news₁ → Fr h₀ env.locals h m₁ → News h₀ env.locals h news₁ → Q .next { s with heap := h, toks := tk }) :
    wpAny (model prog w) A (pyIter (.str xt tx)) (fun it s₂ => LoopAtV prog w A h₀ env x body Q E it s₂) E s := by
  refine loopStr J hh F N hj ?_ fun m₁ news₁ h tk hJ F₁ N₁ => fin m₁ news₁ h tk (last _ _ hJ) F₁ N₁
  intro i c t m₁ news₁ h tk I oI hc hJ F₁ N₁ hoff
  refine wpAny_mono (turn i c t m₁ news₁ h tk I oI hc hJ F₁ N₁ hoff) (fun f s₂ p => ?_) fun _ _ e => e
  cases f with
  | ret v => exact p
  | brk => obtain ⟨h', tk', m₂, news₂, rfl, F₂, N₂, hd⟩ := p; exact fin m₂ news₂ h' tk' hd F₂ N₂
  | next => exact p
  | cont => exact p

/-- a loop over a list that stands on the ledger and stays as it is -/
theorem loopLst {ax : Addr} {oax : Obj} {vs : List Value} {e : Nat} {m₀ : Str → Option Value} {news : List (Addr × Obj)} (J : Nat → (Str → Option Value) → List (Addr × Obj) → Prop)
    (hh : A.handled = none) (hc : oax.cls = .type "list") (hd : oax.data = .seq vs.toArray e) (hJ : ∀ i m nx, J i m nx → (ax, oax) ∈ nx)
    (F : Fr h₀ env.locals s.heap m₀) (N : News h₀ env.locals s.heap news) (hj : J 0 m₀ news)
    (turn : ∀ i v m₁ news₁ h tk I oI, vs[i]? = some v → J i m₁ news₁ → Fr h₀ env.locals h (fun y => if y = x then some v else m₁ y) → News h₀ env.locals h ((I, oI) :: news₁) → (∀ p ∈ news₁, p.1 ≠ I) →
      wpAny (model prog w) A (execs body env) (Turned s h₀ env.locals I oI Q (J (i + 1))) E { s with heap := h, toks := tk })
    (done : ∀ m₁ news₁ h tk, J vs.length m₁ news₁ → Fr h₀ env.locals h m₁ → News h₀ env.locals h news₁ → Q .next { s with heap := h, toks := tk }) :
    wpAny (model prog w) A (pyIter (.ref ax)) (fun it s₂ => LoopAtV prog w A h₀ env x body Q E it s₂) E s := by
  have hI₀ : h₀.get? s.heap.objs.size = none := next_is_new F
  have hLI : env.locals ≠ s.heap.objs.size := Nat.ne_of_lt F.ns.lt
  have hax := hJ _ _ _ hj
  have hlst : s.heap.IsList ax vs.toArray := ⟨oax, (N _ hax).1, hc, e, hd⟩
  have hne : ax ≠ s.heap.objs.size := Nat.ne_of_lt (Heap.lt_size (N _ hax).1)
  have hnw : ∀ p ∈ news, p.1 ≠ s.heap.objs.size := fun p hp e => absurd (Heap.lt_size (N p hp).1) (e ▸ Nat.lt_irrefl _)
  have NP : ∀ o, News h₀ env.locals (s.heap.push o) news := fun o p hp => ⟨Heap.get?_push_of_some _ (N p hp).1, (N p hp).2⟩
  refine wpAny_pyIter_list hlst ?_
  have W := Walks.list (prog := prog) (w := w) hh s.heap.objs.size ax hne vs.toArray
  refine ⟨_, _, _, _, _, _, m₀, news, J, rfl, W, ?_, ?_, ?_, ⟨⟨_, Heap.get?_push_size _ rfl, rfl, rfl⟩, hlst.at fun o e => Heap.get?_push_of_some _ e⟩, F.push _, NP _, hj, ?_, ?_⟩
  · intro hm
    rcases List.mem_cons.mp hm with e | hm
    · exact hLI e
    · exact (N _ hax).2.1 (List.mem_singleton.mp hm).symm
  · intro b hb; rw [List.mem_singleton.mp hb]; exact hI₀
  · intro p hp hI; exact hnw p hp (List.mem_singleton.mp hI)
  · rintro i v m₁ news₁ s₁ own ⟨hh', tk', rfl⟩ hin hP hJ1 hoff h5 h6 h7 hs F₁ N₁
    obtain ⟨oI, hoI, _⟩ := hs.1
    have hoff' : ∀ p ∈ news₁, p.1 ≠ s.heap.objs.size := fun p hp e => hoff p hp (List.mem_singleton.mpr e)
    have hax1 := hJ _ _ _ hJ1
    have own1 : ∀ p ∈ own, p = (s.heap.objs.size, oI) ∨ p = (ax, oax) := fun p hp => by
      have a := N₁ p (List.mem_append.mpr (.inl hp))
      rcases List.mem_cons.mp (h5 p hp) with b | b
      · have c := a.1
        rw [b] at c
        exact .inl (Prod.ext b (Option.some.inj (c.symm.trans hoI)))
      · have b := List.mem_singleton.mp b
        have c := a.1
        rw [b] at c
        exact .inr (Prod.ext b (Option.some.inj (c.symm.trans (N₁ _ (List.mem_append.mpr (.inr hax1))).1)))
    have NI : News h₀ env.locals hh' ((s.heap.objs.size, oI) :: news₁) := fun p hp => by
      rcases List.mem_cons.mp hp with rfl | hp
      · exact N₁ _ (List.mem_append.mpr (.inl (h7 s.heap.objs.size List.mem_cons_self hI₀ oI hoI)))
      · exact N₁ p (List.mem_append.mpr (.inr hp))
    refine wpAny_mono (turn i v m₁ news₁ hh' tk' _ oI (by simpa using hP) hJ1 F₁ NI hoff') (fun f s₂ p => ?_) fun _ _ e => e
    have fin : (∃ h' tk' m₂ news₂, s₂ = { s with heap := h', toks := tk' } ∧ Fr h₀ env.locals h' m₂ ∧ News h₀ env.locals h' ((s.heap.objs.size, oI) :: news₂) ∧ (∀ p ∈ news₂, p.1 ≠ s.heap.objs.size) ∧ J (i + 1) m₂ news₂) → LoopStepU h₀ env.locals [s.heap.objs.size] own (J (i + 1)) { s with heap := hh', toks := tk' } .next s₂ := by
      rintro ⟨h', tk, m', news', e, F', N', hn, hm⟩
      refine ⟨rfl, h', tk, m', news', e, F', fun p hp => ?_, fun p hp hq => hn p hp (List.mem_singleton.mp hq), hm⟩
      rcases List.mem_append.mp hp with hp | hp
      · rcases own1 p hp with rfl | rfl
        · exact N' _ List.mem_cons_self
        · exact N' _ (List.mem_cons_of_mem _ (hJ _ _ _ hm))
      · exact N' p (List.mem_cons_of_mem _ hp)
    cases f with
    | ret v => exact .ret p
    | brk => exact .brk p
    | next => exact .next (fin p)
    | cont => exact .cont (fin p)
  · rintro h' tk m' news' F' N' _ hJ1
    exact done m' news' h' tk (by simpa using hJ1) F' N'

/-- a loop over a range by ones -/
theorem loopRange {r : Addr} {a₀ b₀ : Int} {t₀ u₀ v₀ : Tok} {n : Nat} {m₀ : Str → Option Value} {news : List (Addr × Obj)} (J : Nat → (Str → Option Value) → List (Addr × Obj) → Prop)
    (hh : A.handled = none) (hr : IsRange s.heap r a₀ b₀ 1 t₀ u₀ v₀) (hsmall : Builtin.Range.small a₀ b₀ 1 = true) (hn : Builtin.Range.rangeSize a₀ b₀ 1 = (n : Int)) (F : Fr h₀ env.locals s.heap m₀) (N : News h₀ env.locals s.heap news) (hj : J 0 m₀ news)
    (turn : ∀ (i : Nat) t m₁ news₁ h tk I oI, i < n → J i m₁ news₁ → Fr h₀ env.locals h (fun y => if y = x then some (.int (a₀ + i) t) else m₁ y) → News h₀ env.locals h ((I, oI) :: news₁) → (∀ p ∈ news₁, p.1 ≠ I) →
      wpAny (model prog w) A (execs body env) (Turned s h₀ env.locals I oI Q (J (i + 1))) E { s with heap := h, toks := tk })
    (done : ∀ m₁ news₁ h tk, J n m₁ news₁ → Fr h₀ env.locals h m₁ → News h₀ env.locals h news₁ → Q .next { s with heap := h, toks := tk }) :
    wpAny (model prog w) A (pyIter (.ref r)) (fun it s₂ => LoopAtV prog w A h₀ env x body Q E it s₂) E s := by
  have hI₀ : h₀.get? s.heap.objs.size = none := next_is_new F
  have hLI : env.locals ≠ s.heap.objs.size := Nat.ne_of_lt F.ns.lt
  have hnw : ∀ p ∈ news, p.1 ≠ s.heap.objs.size := fun p hp e => absurd (Heap.lt_size (N p hp).1) (e ▸ Nat.lt_irrefl _)
  have NP : ∀ o, News h₀ env.locals (s.heap.push o) news := fun o p hp => ⟨Heap.get?_push_of_some _ (N p hp).1, (N p hp).2⟩
  refine wpAny_pyIter_range hr hsmall ?_
  have W : Walks prog w A s.heap.objs.size [s.heap.objs.size] [s.heap.objs.size] n (fun i v => i < n ∧ ∃ t, v = .int (a₀ + i * 1) t)
      (fun i h => IsRangeIter h s.heap.objs.size (a₀ + (i : Nat) * 1) ((n : Int) - (i : Nat)) 1) := (Walks.range hh _ a₀ 1 n).bound
  refine loopOne J W (fun i h st => ⟨_, st⟩) hLI hI₀ hnw (by show IsRangeIter _ _ _ _ _; rw [hn]; simpa using Heap.get?_push_size _ rfl) (F.push _) (NP _) hj ?_ done
  rintro i v m₁ news₁ h tk oI hi ⟨_, t, rfl⟩ hJ F₁ N₁ hoff
  rw [Int.mul_one] at F₁
  exact turn i t m₁ news₁ h tk _ oI hi hJ F₁ N₁ hoff
end
def txt (l : List Nat) : Str := ⟨l.toArray⟩
theorem txt_len (l : List Nat) : (txt l).length = l.length := by simp [txt, Str.length]
theorem txt_cps (l : List Nat) : (txt l).cps.toList = l := by simp [txt]
theorem txt_app (a b : List Nat) : txt a ++ txt b = txt (a ++ b) := Str.ext' (by simp [txt, Str.cps_append])
theorem txt_of (x : Str) : x = txt x.cps.toList := Str.ext' (by simp [txt])
theorem txt_inj {a b : List Nat} (h : txt a = txt b) : a = b := by simpa [txt] using h
theorem lit_e : Str.ofString "" = txt [] := by decide +kernel
theorem lit_sp : Str.ofString " " = txt [32] := by decide +kernel
theorem lit_tab : Str.ofString "\t" = txt [9] := by decide +kernel
theorem lit_nl : Str.ofString "\n" = txt [10] := by decide +kernel
theorem lit_a : Str.ofString "a" = txt [97] := by decide +kernel
theorem lit_sp2 : Str.ofString "  " = txt [32, 32] := by decide +kernel
theorem lit_K : Str.ofString "K" = txt [75] := by decide +kernel
theorem lit_p4 : Str.ofString "    \t" = txt [32, 32, 32, 32, 9] := by decide +kernel
theorem lit_p3 : Str.ofString "   \t" = txt [32, 32, 32, 9] := by decide +kernel
theorem lit_p2 : Str.ofString "  \t" = txt [32, 32, 9] := by decide +kernel
theorem lit_p1 : Str.ofString " \t" = txt [32, 9] := by decide +kernel
theorem lit_r1 : Str.ofString "   \t  a" = txt [32, 32, 32, 9, 32, 32, 97] := by decide +kernel
theorem lit_r2 : Str.ofString " \t \ta" = txt [32, 9, 32, 9, 97] := by decide +kernel
theorem lit_tb : Str.ofString "\t b" = txt [9, 32, 98] := by decide +kernel
theorem sign_txt (c : Nat) : (⟨#[c]⟩ : Str) = txt [c] := rfl
theorem sign_eq (c d : Nat) : ((⟨#[c]⟩ : Str) == ⟨#[d]⟩) = decide (c = d) := by
  rw [Bool.eq_iff_iff, beq_iff_eq, decide_eq_true_eq]
  constructor
  · intro h; injection h with h; injection h with h; injection h
  · rintro rfl; rfl
theorem small_line {k : Nat} (h : k ≤ 100000) : k ≤ sizeLine := by rw [sizeLine_eq]; omega
theorem small_rng {a b : Int} (h1 : 0 ≤ a) (h2 : a ≤ 100000) (h3 : 0 ≤ b) (h4 : b ≤ 100000) : Builtin.Range.small a b 1 = true := by
  have h5 := rangeSize_one a b
  have h6 : 0 ≤ Builtin.Range.rangeSize a b 1 ∧ Builtin.Range.rangeSize a b 1 ≤ 100000 := by rw [h5]; split <;> omega
  unfold Builtin.Range.small Builtin.Range.rangeFitsLong
  simp only [Bool.and_eq_true, Bool.or_eq_true, decide_eq_true_eq]
  refine ⟨⟨⟨⟨⟨by omega, by omega⟩, by omega, by omega⟩, by decide⟩, by omega, by omega⟩, .inr ?_⟩
  rw [if_pos (by decide)]
  simp only [Bool.and_eq_true, decide_eq_true_eq]
  omega
theorem size_rng (a b : Nat) : Builtin.Range.rangeSize (a : Int) (b : Int) 1 = ((b - a : Nat) : Int) := by
  rw [rangeSize_one]; split <;> omega
section
variable {prog : Program} {w : World} {A : Around} {E : Value → Shared → Prop} {s : Shared} {Q : Value → Shared → Prop} {a b : List Nat} {x y : Str} {t u : Tok}
theorem len_txt (hx : x = txt a) (hl : a.length ≤ 100000) (h : ∀ t tk, Q (.int (a.length : Int) t) { s with toks := tk }) : wpAny (model prog w) A (call (.builtin "len") [.str x t]) Q E s := by
  subst hx
  refine P.len_str (by rw [txt_len]; omega) ?_
  rw [txt_len]; exact h _ _
theorem add_txt (hx : x = txt a) (hy : y = txt b) (hl : a.length + b.length ≤ 100000) (h : ∀ t tk, Q (.str (txt (a ++ b)) t) { s with toks := tk }) : wpAny (model prog w) A (binaryOp .Add (.str x t) (.str y u)) Q E s := by
  subst hx hy
  refine P.add_str ?_
  rw [txt_len, txt_len]
  by_cases ha : a = []
  · subst ha; simp only [List.length_nil, beq_self_eq_true, if_true]; exact h _ s.toks
  · have ha' : (a.length == 0) = false := by simpa using ha
    rw [ha']
    simp only [Bool.false_eq_true, if_false]
    by_cases hb : b = []
    · subst hb; simp only [List.length_nil, beq_self_eq_true, if_true]
      have := h t s.toks
      rw [List.append_nil] at this; exact this
    · have hb' : (b.length == 0) = false := by simpa using hb
      rw [hb']
      simp only [Bool.false_eq_true, if_false]
      rw [txt_app]
      exact ⟨by rw [txt_len, List.length_append]; exact small_line hl, h _ _⟩
theorem foldl_app : ∀ (k : Nat) (c : Array Nat) (acc : Array Nat), (List.replicate k c).foldl (· ++ ·) acc = acc ++ (List.replicate k c.toList).flatten.toArray
  | 0, c, acc => by simp
  | k + 1, c, acc => by rw [List.replicate_succ, List.foldl_cons, foldl_app k, List.replicate_succ, List.flatten_cons, Array.append_assoc]; refine congrArg (acc ++ ·) (Array.toList_inj.mp ?_); simp
theorem mul_txt {n : Int} (hx : x = txt a) (hn : -1000 ≤ n) (ha : 1 ≤ a.length ∧ a.length ≤ 100) (hl : n ≤ 100) (h : ∀ t tk, Q (.str (txt (List.replicate n.toNat a).flatten) t) { s with toks := tk }) : wpAny (model prog w) A (binaryOp .Mult (.str x t) (.int n u)) Q E s := by
  subst hx
  have hz : ((txt a).length == 0) = false := by rw [txt_len]; exact beq_false_of_ne (by omega)
  refine P.mul_str (by
    rw [decide_eq_false (by omega), decide_eq_false (by omega)]; rfl) (fun h1 h2 => ?_) (fun h1 h2 => ?_) ?_
  · rw [txt_len]
    have : (100 : Int) ≤ (2 ^ 63 - 1) / n := by
      have h3 : 0 < n := by omega
      exact (Int.le_ediv_iff_mul_le h3).mpr (by omega)
    omega
  · rw [txt_len]
    have : a.length * n.toNat ≤ 100 * 100 := Nat.mul_le_mul (by omega) (by omega)
    unfold Builtin.Str.tooLong
    exact decide_eq_false (by rw [sizeLine_eq]; omega)
  · rw [hz, Bool.or_false]
    by_cases h1 : n < 1
    · rw [if_pos h1]
      have e : n.toNat = 0 := by omega
      rw [e] at h
      exact ⟨by decide, h _ _⟩
    · rw [if_neg h1]
      by_cases h2 : n = 1
      · subst h2
        simp only [beq_self_eq_true, if_true]
        have := h t s.toks
        have e1 : (List.replicate (1 : Int).toNat a).flatten = a := by simp
        rw [e1] at this; exact this
      · have h2' : (n == 1) = false := by simpa using h2
        rw [h2']
        simp only [Bool.false_eq_true, if_false]
        have e : (⟨(List.replicate n.toNat (txt a).cps).foldl (· ++ ·) #[]⟩ : Str) = txt (List.replicate n.toNat a).flatten := by
          refine Str.ext' ?_
          show (List.replicate n.toNat (txt a).cps).foldl (· ++ ·) #[] = _
          rw [foldl_app]
          simp [txt]
        rw [e]
        refine ⟨?_, h _ _⟩
        rw [txt_len, List.length_flatten, List.map_replicate, List.sum_replicate_nat]
        have : n.toNat * a.length ≤ 100 * 100 := Nat.mul_le_mul (by omega) (by omega)
        exact small_line (by omega)
theorem flat1 (k c : Nat) : (List.replicate k [c]).flatten = List.replicate k c := by
  induction k with
  | zero => rfl
  | succ k ih => rw [List.replicate_succ, List.flatten_cons, ih]; rfl
theorem mul1_txt {n : Int} {c : Nat} (hx : x = txt [c]) (hn : -1000 ≤ n) (hl : n ≤ 100) (h : ∀ t tk, Q (.str (txt (List.replicate n.toNat c)) t) { s with toks := tk }) : wpAny (model prog w) A (binaryOp .Mult (.str x t) (.int n u)) Q E s :=
  mul_txt hx hn ⟨by simp, by simp⟩ hl (by rw [flat1]; exact h)
theorem mod_nat {p q : Nat} (hq : q ≠ 0) (h : ∀ t tk, Q (.int ((p % q : Nat) : Int) t) { s with toks := tk }) : wpAny (model prog w) A (binaryOp .Mod (.int (p : Int) t) (.int (q : Int) u)) Q E s := by
  refine mod_int (by omega) ?_
  have e : (p : Int).fmod (q : Int) = ((p % q : Nat) : Int) := by
    rw [Int.fmod_eq_emod_of_nonneg _ (by omega)]; rfl
  rw [e]; exact h _ _
theorem const_txt {env : Env} {k : Nat} {pos : Pos} (hx : x = txt a) (h : ∀ t tk, Q (.str (txt a) t) { s with toks := tk }) : wpAny (model prog w) A (eval (.Constant (.str x) k pos) env) Q E s := by
  subst hx
  exact Calls.Constant_str (h _ _)
theorem len_tupI {h₀ : Heap} {L D : Addr} {news : List (Addr × Obj)} {vs : List Value} {ns : List Int} {k : Nat} (N : News h₀ L s.heap news) (hm : (D, ({ cls := .type "tuple", data := .seq vs.toArray k } : Obj)) ∈ news) (hi : IntsAre vs ns) (hl : ns.length ≤ 100000)
    (h : ∀ t tk, Q (.int ((ns.length : Nat) : Int) t) { s with toks := tk }) : wpAny (model prog w) A (call (.builtin "len") [.ref D]) Q E s := by
  have e := hi.length
  have hT : IsTup s.heap D vs.toArray := ⟨_, (N _ hm).1, rfl, _, rfl⟩
  refine len_tuple hT (by simp only [List.size_toArray]; omega) ?_
  simp only [List.size_toArray, e]
  exact h _ _
theorem len_lstV {h₀ : Heap} {L D : Addr} {news : List (Addr × Obj)} {vs : List Value} {k : Nat} (N : News h₀ L s.heap news) (hm : (D, ({ cls := .type "list", data := .seq vs.toArray k } : Obj)) ∈ news) (hl : vs.length ≤ 10000)
    (h : ∀ t tk, Q (.int ((vs.length : Nat) : Int) t) { s with toks := tk }) : wpAny (model prog w) A (call (.builtin "len") [.ref D]) Q E s := by
  refine kun_lenL (k := ((vs.length : Nat) : Int)) ⟨_, (N _ hm).1, rfl, _, rfl⟩ (by simp) (by omega) ?_
  exact h _ _
theorem div_nat {p q : Nat} (hq : q ≠ 0) (hA : A.handled = none) (hp : p ≤ 100000) (hq2 : q ≤ 100000) (h : ∀ t tk, Q (.int ((p / q : Nat) : Int) t) { s with toks := tk }) : wpAny (model prog w) A (binaryOp .FloorDiv (.int (p : Int) t) (.int (q : Int) u)) Q E s := by
  refine floordiv_int_or hA (fun h => absurd h (by omega)) (fun _ => ?_) (fun _ => Or.inl (PyProof.noPylong_small (by omega)))
  have e : (p : Int).fdiv (q : Int) = ((p / q : Nat) : Int) := by
    rw [Int.fdiv_eq_ediv_of_nonneg _ (by omega)]; rfl
  rw [e]; exact h _ _
theorem item_tupI {value slice : Expr} {h₀ : Heap} {L D : Addr} {news : List (Addr × Obj)} {vs : List Value} {ns : List Int} {k : Int} {e : Nat} (N : News h₀ L s.heap news) (hm : (D, ({ cls := .type "tuple", data := .seq vs.toArray e } : Obj)) ∈ news) (hi : IntsAre vs ns) (h0 : 0 ≤ k) (hk : k < (ns.length : Int)) (hl : ns.length ≤ 100000)
    (h : ∀ t, Q (.int (ns.getD k.toNat 0) t) s)
    (hs : subscripted slice false (.ref D) (.int k u) = operate [.ref D, .int k u] (getItem (.ref D) (.int k u)) := by with_unfolding_all rfl) :
    wpAny (model prog w) A (subscriptTail value slice (.ref D) (.int k u)) Q E s := by
  have hlt : k.toNat < ns.length := by omega
  obtain ⟨t, ht⟩ := hi.get k.toNat ns[k.toNat] (by simp [hlt])
  have hT : IsTup s.heap D vs.toArray := ⟨_, (N _ hm).1, rfl, _, rfl⟩
  have hlen := (List.getElem?_eq_some_iff.mp ht).1
  refine item_tupleT (j := k.toNat) hT (by omega) (by omega) ?_ ht ?_ hs
  · unfold seqIndex?
    simp only [show ¬ k < 0 by omega, if_false]
    simp [h0, show k < (vs.length : Int) by omega]
  · have := h t
    rwa [List.getD_eq_getElem?_getD, List.getElem?_eq_getElem hlt] at this
theorem item_tupN {value slice : Expr} {h₀ : Heap} {L D : Addr} {news : List (Addr × Obj)} {vs : List Value} {ns : List Int} {k : Nat} {e : Nat} (N : News h₀ L s.heap news) (hm : (D, ({ cls := .type "tuple", data := .seq vs.toArray e } : Obj)) ∈ news) (hi : IntsAre vs ns) (hk : k < ns.length) (hl : ns.length ≤ 100000)
    (h : ∀ t, Q (.int (ns.getD k 0) t) s)
    (hs : subscripted slice false (.ref D) (.int (k : Int) u) = operate [.ref D, .int (k : Int) u] (getItem (.ref D) (.int (k : Int) u)) := by with_unfolding_all rfl) :
    wpAny (model prog w) A (subscriptTail value slice (.ref D) (.int (k : Int) u)) Q E s :=
  item_tupI N hm hi (by omega) (by omega) hl (by rw [Int.toNat_natCast]; exact h) hs
theorem lit2 : (2 : Int) = ((2 : Nat) : Int) := rfl
theorem lit3 : (3 : Int) = ((3 : Nat) : Int) := rfl
theorem lit9 : (9 : Int) = ((9 : Nat) : Int) := rfl
theorem lit27 : (27 : Int) = ((27 : Nat) : Int) := rfl
theorem mod_litN {p q : Nat} {k : Int} (hk : k = (q : Int)) (hq : q ≠ 0) (h : ∀ t tk, Q (.int ((p % q : Nat) : Int) t) { s with toks := tk }) : wpAny (model prog w) A (binaryOp .Mod (.int (p : Int) t) (.int k u)) Q E s := by
  subst hk
  exact mod_nat hq h
theorem div_litN {p q : Nat} {k : Int} (hk : k = (q : Int)) (hq : q ≠ 0) (hq2 : q ≤ 100000) (hA : A.handled = none) (hp : p ≤ 100000) (h : ∀ t tk, Q (.int ((p / q : Nat) : Int) t) { s with toks := tk }) : wpAny (model prog w) A (binaryOp .FloorDiv (.int (p : Int) t) (.int k u)) Q E s := by
  subst hk
  exact div_nat hq hA hp hq2 h
theorem mod54 {x : Int} (h : ∀ (y : Nat) t tk, y < 54 → y = (x % 54).toNat → Q (.int (y : Int) t) { s with toks := tk }) : wpAny (model prog w) A (binaryOp .Mod (.int x t) (.int 54 u)) Q E s := by
  refine mod_int (by decide) ?_
  have e : x.fmod 54 = (((x % 54).toNat : Nat) : Int) := by
    rw [Int.fmod_eq_emod_of_nonneg _ (by decide)]; omega
  rw [e]
  exact h _ _ _ (by omega) rfl
theorem seqIdx {k : Int} {n : Nat} (h0 : 0 ≤ k) (hk : k.toNat < n) : seqIndex? k n = some k.toNat := by
  unfold seqIndex?
  simp only [show ¬ k < 0 by omega, if_false]
  simp [h0, show k < (n : Int) by omega]
theorem item_tup {value slice : Expr} {D : Addr} {l : List Value} {k : Int} {v : Value} (ht : IsTup s.heap D l.toArray) (h0 : 0 ≤ k) (hs2 : k ≤ 100000) (hx : l[k.toNat]? = some v) (h : Q v s)
    (hs : subscripted slice false (.ref D) (.int k u) = operate [.ref D, .int k u] (getItem (.ref D) (.int k u)) := by with_unfolding_all rfl) :
    wpAny (model prog w) A (subscriptTail value slice (.ref D) (.int k u)) Q E s :=
  item_tupleT ht (by omega) (by omega) (seqIdx h0 (List.getElem?_eq_some_iff.mp hx).1) hx h hs
theorem item_lst {value slice : Expr} {D : Addr} {l : List Value} {k : Int} {v : Value} (ht : s.heap.IsList D l.toArray) (h0 : 0 ≤ k) (hs2 : k ≤ 100000) (hx : l[k.toNat]? = some v) (h : Q v s)
    (hs : subscripted slice false (.ref D) (.int k u) = operate [.ref D, .int k u] (getItem (.ref D) (.int k u)) := by with_unfolding_all rfl) :
    wpAny (model prog w) A (subscriptTail value slice (.ref D) (.int k u)) Q E s :=
  tail_any ht.typeIs slot_list_getitem.lookup (wpAny_getItem_list ht h0 (by omega) (by simpa using hx) h) hs
end
local macro_rules | `(tactic| walk_at "call builtin:len") => `(tactic| ((with_reducible show wpAny _ _ (call (Value.builtin "len") [Value.str (txt _) _]) _ _ _); (refine len_txt rfl (by first | omega | (simp only [List.length_append, List.length_replicate, List.length_cons, List.length_nil]; omega)) ?_); intro _ _))
local macro_rules | `(tactic| walk_at "binaryOp Add str str") => `(tactic| ((with_reducible show wpAny _ _ (binaryOp Operator.Add (Value.str _ _) (Value.str _ _)) _ _ _); (refine add_txt (by with_reducible first | exact rfl | exact sign_txt _ | exact lit_sp | exact lit_tab | exact lit_nl | exact lit_a | exact lit_e | exact lit_tb) (by with_reducible first | exact rfl | exact sign_txt _ | exact lit_sp | exact lit_tab | exact lit_nl | exact lit_a | exact lit_e | exact lit_tb) (by first | omega | (simp only [List.length_append, List.length_replicate, List.length_cons, List.length_nil]; omega)) ?_); intro _ _))
local macro_rules | `(tactic| walk_at "binaryOp Mult str int") => `(tactic| ((with_reducible show wpAny _ _ (binaryOp Operator.Mult (Value.str _ _) (Value.int _ _)) _ _ _); (refine mul1_txt (by with_reducible first | exact rfl | exact lit_sp | exact lit_tab) (by omega) (by omega) ?_); intro _ _))
local macro_rules | `(tactic| walk_at "binaryOp Mod int int") => `(tactic| ((with_reducible show wpAny _ _ (binaryOp Operator.Mod (Value.int (Nat.cast _) _) (Value.int (Nat.cast _) _)) _ _ _); (refine mod_nat (by omega) ?_); intro _ _))
local macro_rules | `(tactic| walk_at "eval Constant str") => `(tactic| ((with_reducible show wpAny _ _ (eval (Expr.Constant (Const.str (Str.ofString _)) _ _) _) _ _ _); (refine const_txt (by with_reducible first | exact lit_sp | exact lit_tab | exact lit_nl | exact lit_a | exact lit_e | exact lit_K | exact lit_tb | exact lit_sp2 | exact lit_p4 | exact lit_p3 | exact lit_p2 | exact lit_p1 | exact lit_r1 | exact lit_r2) ?_); intro _ _))
local macro_rules | `(tactic| walk_at "call builtin:len") => `(tactic| (k_here; (with_reducible show wpAny _ _ (call (Value.builtin "len") [Value.ref _]) _ _ _); k_dflt (refine' len_tupI ?k1 ?k2 ?k3 ?k4 ?_; (case k1 => k_asm); (case k2 => k_mem); (case k3 => assumption); (case k4 => omega); k_whole); intro _ _))
local macro_rules | `(tactic| walk_at "binaryOp FloorDiv int int") => `(tactic| ((with_reducible show wpAny _ _ (binaryOp Operator.FloorDiv (Value.int (Nat.cast _) _) (Value.int (Nat.cast _) _)) _ _ _); (refine div_nat (by omega) rfl (by omega) (by omega) ?_); intro _ _))
local macro_rules | `(tactic| walk_at "subscriptTail Name Name ref int") => `(tactic| (k_here; (with_reducible show wpAny _ _ (subscriptTail _ _ (Value.ref _) (Value.int (Nat.cast _) _)) _ _ _); k_dflt (refine' item_tupN ?k1 ?k2 ?k3 ?k5 ?k6 ?_ ?k7; (case k1 => k_asm); (case k2 => k_mem); (case k3 => assumption); (case k5 => omega); (case k6 => omega); (case k7 => with_unfolding_all rfl); k_whole); intro _))
local macro_rules | `(tactic| walk_at "binaryOp Mod int int") => `(tactic| ((with_reducible show wpAny _ _ (binaryOp Operator.Mod (Value.int (Nat.cast _) _) (Value.int _ _)) _ _ _); (refine mod_litN (by first | exact lit2 | exact lit3 | exact lit9 | exact lit27) (by decide) ?_); intro _ _))
local macro_rules | `(tactic| walk_at "binaryOp FloorDiv int int") => `(tactic| ((with_reducible show wpAny _ _ (binaryOp Operator.FloorDiv (Value.int (Nat.cast _) _) (Value.int _ _)) _ _ _); (refine div_litN (by first | exact lit2 | exact lit3 | exact lit9 | exact lit27) (by decide) (by decide) rfl (by omega) ?_); intro _ _))
local macro_rules | `(tactic| walk_at "binaryOp Mod int int") => `(tactic| ((with_reducible show wpAny _ _ (binaryOp Operator.Mod (Value.int _ _) (Value.int 54 _)) _ _ _); (refine mod54 ?_); intro _ _ _ _ _))
section MjW

def wstep (n : Nat) (out : List Nat) (c : Nat) : List Nat := if c = 9 then out ++ List.replicate (n - out.length % n) 32 else out ++ [c]
def wrt (n : Nat) (l : List Nat) : List Nat := l.foldl (wstep n) []
theorem wstep_len (n : Nat) (out : List Nat) (c : Nat) : (wstep n out c).length ≤ out.length + (n + 1) := by
  unfold wstep; split <;> simp <;> omega
theorem wfold_len (n : Nat) : ∀ (l out : List Nat), (l.foldl (wstep n) out).length ≤ out.length + l.length * (n + 1)
  | [], out => by simp
  | c :: l, out => by
    have h1 := wfold_len n l (wstep n out c)
    have h2 := wstep_len n out c
    simp only [List.foldl_cons, List.length_cons, Nat.succ_mul]
    omega
theorem wrt_len (n : Nat) (l : List Nat) : (wrt n l).length ≤ l.length * (n + 1) := by
  have := wfold_len n l []
  simpa [wrt] using this
theorem wrt_snoc (n : Nat) (l : List Nat) (i c : Nat) (hc : l[i]? = some c) : wrt n (l.take (i + 1)) = wstep n (wrt n (l.take i)) c := by
  rw [List.take_add_one, hc]; simp [wrt]
theorem written_call {w : World} {mean : ExcName → Option Value} {mg mb : Str → Option Value} {A : Around} {s : Shared} {hb : Heap} {row : List Nat} {n : Nat} {t1 t2 : Tok} {Q E : Value → Shared → Prop}
    (X : (hd.heap_39 w.params).In hb) (T : Top hd.view_39 (looseW hd.view_39 [Str.ofString "Whitespace"]) mean mg mb hb) (kb : hb.StaysIn s.heap) (hroom : A.depth < recursionLimit) (hh : A.handled = none) (hn : 1 ≤ n ∧ n ≤ 5) (hlen : row.length ≤ 100)
    (hQ : ∀ t h' tk, s.heap.StaysIn h' → Q (.str (txt (wrt n row)) t) { s with heap := h', toks := tk }) :
    wpAny (model PySem.Challenge.rw_mj0147_01.row.prog w) A (call (.ref 108) [.str (txt row) t1, .int (n : Int) t2]) Q E s := by
  revert X; k_fill; intro X
  k_dflt (refine' enterC [] [(Str.ofString "row", .str (txt row) t1), (Str.ofString "size", .int (n : Int) t2)] X T kb ?kH ?k6 ?k7 hroom ?k9 ?kB ?_ ?c2 ?c3 ?c4 ?c5; (case kH => exact List.forall_mem_nil _); (case k6 => k_is); (case k7 => k_is); (case k9 => exact BindsTo.of_eq rfl); (case c5 => decide); (case kB => exact locs rfl); (case c2 => exact rfl); (case c3 => exact rfl); (case c4 => exact rfl); k_whole)
  intro g L' h' tk' F' N' Xg Tg kg hback
  (try dsimp only)
  (try k_fold)
  k_steps
  rename_i h2 F2 N2
  refine For_invV g rfl rfl ?_ (hE := PassesOwn.never)
  k_steps
  refine loopStr (J := fun i m nx => nx = [] ∧ (∃ t, m (Str.ofString "out") = some (.str (txt (wrt n (row.take i))) t)) ∧ m (Str.ofString "size") = some (.int (n : Int) t2)) hh F2 N2 ⟨rfl, ⟨_, rfl⟩, rfl⟩ ?_ ?_
  · rintro i c t m₁ news₁ h tk I oI hc ⟨rfl, ⟨tt, ho⟩, hs⟩ F3 N3 hoff
    have hc' : row[i]? = some c := by simpa [txt] using hc
    have hi : i < row.length := (List.getElem?_eq_some_iff.mp hc').1
    have hb1 : (wrt n (row.take i)).length ≤ 600 := by
      have h1 := wrt_len n (row.take i)
      have h2 : (row.take i).length ≤ 100 := by rw [List.length_take]; omega
      have h3 : (row.take i).length * (n + 1) ≤ 100 * 6 := Nat.mul_le_mul h2 (by omega)
      omega
    have hsn := wrt_snoc n row i c hc'
    have F4 := say F3 (Str.ofString "out") _ ho
    have F5 := say F4 (Str.ofString "size") _ hs
    clear F3 F4
    have hmod := Nat.mod_lt (wrt n (row.take i)).length (show 0 < n by omega)
    k_steps
    · rename_i F6 N6
      rename (((_ : Str) == _) = true) => hcd
      have hc9 : c = 9 := by
        rw [show txt [9] = (⟨#[9]⟩ : Str) from rfl, sign_eq] at hcd
        exact of_decide_eq_true hcd
      subst hc9
      have e : ((n : Int) - (((wrt n (row.take i)).length % n : Nat) : Int)).toNat = n - (wrt n (row.take i)).length % n := by omega
      rw [e] at F6
      refine Turned.next [] F6 N6 (fun p hp => hp) hoff ⟨rfl, ?_, rfl⟩
      rw [hsn]
      exact ⟨_, rfl⟩
    · rename_i F6 N6
      rename (((_ : Str) == _) = false) => hcd
      have hc9 : ¬ c = 9 := by
        rw [show txt [9] = (⟨#[9]⟩ : Str) from rfl, sign_eq] at hcd
        exact of_decide_eq_false hcd
      refine Turned.next [] F6 N6 (fun p hp => hp) hoff ⟨rfl, ?_, rfl⟩
      rw [hsn]
      unfold wstep
      rw [if_neg hc9]
      exact ⟨_, rfl⟩
  · rintro m₁ news₁ h tk ⟨rfl, ⟨tt, ho⟩, hs⟩ F3 N3
    have F4 := say F3 (Str.ofString "out") _ ho
    clear F3
    dsimp only
    k_steps
    dsimp only
    have e : row.take (txt row).cps.size = row := by simp [txt]
    rw [e] at F4 ⊢
    exact hQ _ _ _ (back (hid := []) (List.forall_mem_nil _) hback F4 N3 (List.forall_mem_nil _))
end MjW
section MjR

abbrev tupO (vs : List Value) : Obj := { cls := .type "tuple", data := .seq vs.toArray }
/-- entering a def with a starred parameter behind one plain one -/
theorem enterV {prog : Program} {w : World} {A : Around} {s : Shared} {K : Frag} {p : Program} {loose : List Str} {mean : ExcName → Option Value} {mg mb : Str → Option Value} {hb : Heap}
    {Q E : Value → Shared → Prop} {name qual : Str} {params : Arguments} {body : List Stmt} {scope : Scope} {dV kV doc pm cdv ct oc : Value} {an od : Option Addr} {osl : Array (Option Value)} {f : Addr} {args : List Value}
    (n1 n2 : Str) (x : Value) (vs : List Value)
    (X : K.In hb) (T : Top p loose mean mg mb hb) (kb : hb.StaysIn s.heap)
    (ho : K.lookup f = some ⟨oc, od, .func (fnOf name qual params body scope dV kV doc pm an cdv ct), osl⟩) (hcd : codeIn K cdv qual = true) (hroom : A.depth < recursionLimit)
    (hbind : bindArgs (fnOf name qual params body scope dV kV doc pm an cdv ct) ⟨args, []⟩ = (newTuple vs >>= fun t => pure [(n1, x), (n2, t)])) (hsz : vs.length ≤ sizeLine)
    (hloc : scope.names.lookup n1 = some .local ∧ scope.names.lookup n2 = some .local)
    (h : ∀ T' L' h₁ tk, Fr s.heap L' h₁ (fun y => [(n1, x), (n2, Value.ref T')].reverse.lookup y) → News s.heap L' h₁ [(T', tupO vs)] → K.In s.heap → Top p loose mean mg mb s.heap →
      wpAny (model prog w) (A.deeper (envOf qual scope L' f cdv)) (execs body (envOf qual scope L' f cdv))
        (fun fl s' => Q (match fl with | .ret v => v | _ => .none) s') (fun _ _ => False)
        { s with heap := h₁, toks := tk })
    (hco : scope.isCoroutine = false := by rfl) (hgen : scope.isGenerator = false := by rfl) (hk : scope.kind = .function := by rfl)
    (hcell : ∀ x ∈ scope.names, x.2 ≠ .cell := by decide) : wpAny (model prog w) A (call (.ref f) args) Q E s := by
  refine wpAny_call ?_
  refine codeAny_call_function (fd := fnOf name qual params body scope dV kV doc pm an cdv ct) (body := body) hroom ((X.keeps kb) _ _ ho) rfl hco hgen rfl (codeRec_of (X.keeps kb) hcd) ?_
  rw [hbind]
  refine wpAny_bind (wpAny_newObj_type (wpAny_pure ?_) (by show vs.toArray.size ≤ sizeLine; rw [List.size_toArray]; exact hsz))
  refine wpAny_newFunctionEnv hcell (fun y hy => ?_) (fun h₀ hns₀ hsb₀ => ⟨?_, codeAny_func (wpAny_noRaise (h s.heap.objs.size (s.heap.push (tupO vs)).objs.size h₀ _ ⟨hns₀, ?_, ?_⟩ ?_ (X.keeps kb) (T.keeps kb)))⟩) hk
  · rcases List.mem_cons.mp hy with rfl | hy
    · exact hloc.1
    · rw [List.mem_singleton.mp hy]; exact hloc.2
  · have := T.nolimit.keeps kb
    exact Heap.NoLimit.fresh (this.keeps fun b o e => Heap.get?_push_of_some _ e) _ hsb₀
  · intro b o e
    have h1 : (s.heap.push (tupO vs)).get? b = some o := Heap.get?_push_of_some _ e
    exact hsb₀.extBut b o (Nat.ne_of_lt (Heap.lt_size h1)) (Heap.get?_push_of_some _ h1)
  · rw [Heap.size_push]; exact Nat.le_succ _
  · intro q hq
    rw [List.mem_singleton.mp hq]
    have h1 : (s.heap.push (tupO vs)).get? s.heap.objs.size = some (tupO vs) := Heap.get?_push_size _ rfl
    refine ⟨hsb₀.extBut _ _ (Nat.ne_of_lt (Heap.lt_size h1)) (Heap.get?_push_of_some _ h1), Nat.ne_of_lt (Heap.lt_size h1), ?_⟩
    cases e : s.heap.get? s.heap.objs.size with
    | none => rfl
    | some o => exact absurd (Heap.lt_size e) (Nat.lt_irrefl _)

abbrev PT := (List Nat × Tok) × (List Nat × Tok)
def flat : List PT → List Value
  | [] => []
  | p :: r => .str (txt p.1.1) p.1.2 :: .str (txt p.2.1) p.2.2 :: flat r
def rep (p z t : List Nat) : List Nat := (Str.join (txt z) (Txt.split (txt t) (txt p))).cps.toList
def repAll (t : List Nat) : List PT → List Nat
  | [] => t
  | p :: r => repAll (rep p.1.1 p.2.1 t) r
def RepOk (t : List Nat) : List PT → Prop
  | [] => True
  | p :: r => t.length ≤ 2000 ∧ 1 ≤ p.1.1.length ∧ p.2.1.length ≤ 10 ∧ RepOk (rep p.1.1 p.2.1 t) r
theorem flat_len : ∀ ps, (flat ps).length = 2 * ps.length
  | [] => rfl
  | p :: r => by simp only [flat, List.length_cons, flat_len r]; omega
theorem split_len (x y : Str) : (Txt.split x y).length ≤ x.length + 2 := by
  unfold Txt.split
  split
  · simp
  · split
    · simp
    · have e1 := StrLaws.occ_length_le x y 0 x.length (x.length + 1)
      rw [length_partsBetween]; omega
theorem join_fit {a p z : List Nat} (ha : a.length ≤ 2000) (hz : z.length ≤ 10) : ((Txt.split (txt a) (txt p)).map (·.length)).sum + (Txt.split (txt a) (txt p)).length * (txt z).length ≤ 16777216 := by
  have h1 : ((Txt.split (txt a) (txt p)).map (·.length)).sum ≤ (Txt.split (txt a) (txt p)).length * 2000 := StrLaws.sumLen_le _ fun y hy => by
    have := part_short hy
    rw [txt_len] at this; omega
  have h2 := split_len (txt a) (txt p)
  rw [txt_len] at h2
  have h3 : (Txt.split (txt a) (txt p)).length * 2000 ≤ 2002 * 2000 := Nat.mul_le_mul_right _ (by omega)
  have h4 : (Txt.split (txt a) (txt p)).length * (txt z).length ≤ 2002 * 10 := Nat.mul_le_mul (by omega) (by rw [txt_len]; exact hz)
  omega
theorem rep_txt (p z t : List Nat) : Txt.join (txt z) (Txt.split (txt t) (txt p)) = txt (rep p z t) := by
  show Builtin.Str.glued _ _ = _
  rw [StrLaws.glued_eq_join]
  exact txt_of _
theorem replace_call {w : World} {mean : ExcName → Option Value} {mg mb : Str → Option Value} {A : Around} {s : Shared} {hb : Heap} {text : List Nat} {ps : List PT} {t1 : Tok} {Q E : Value → Shared → Prop}
    (X : (hd.heap_39 w.params).In hb) (T : Top hd.view_39 (looseW hd.view_39 [Str.ofString "Whitespace"]) mean mg mb hb) (kb : hb.StaysIn s.heap) (hroom : A.depth < recursionLimit) (hh : A.handled = none) (hps : ps.length ≤ 50) (hok : RepOk text ps)
    (hQ : ∀ t h' tk, s.heap.StaysIn h' → Q (.str (txt (repAll text ps)) t) { s with heap := h', toks := tk }) :
    wpAny (model PySem.Challenge.rw_mj0147_01.row.prog w) A (call (.ref 28) (.str (txt text) t1 :: flat ps)) Q E s := by
  revert X; k_fill; intro X
  k_dflt (refine' enterV (Str.ofString "text") (Str.ofString "pairs") (.str (txt text) t1) (flat ps) X T kb ?k6 ?k7 hroom ?k9 ?kz ?kB ?_ ?c2 ?c3 ?c4 ?c5; (case k6 => k_is); (case k7 => k_is); (case k9 => (generalize flat ps = vs; cases vs <;> exact rfl)); (case kz => exact (by rw [flat_len]; exact small_line (by omega))); (case c5 => decide); (case kB => exact ⟨rfl, rfl⟩); (case c2 => exact rfl); (case c3 => exact rfl); (case c4 => exact rfl); k_whole)
  intro T' L' h' tk' F' N' Xg Tg
  (try dsimp only)
  (try k_fold)
  walk1
  refine While_inv (n₀ := ps.length) (L := L') (J := fun n m nx => ∃ qs tx t T, n = qs.length ∧ nx = [(T, tupO (flat qs))] ∧ m (Str.ofString "text") = some (.str (txt tx) t) ∧ m (Str.ofString "pairs") = some (.ref T) ∧ RepOk tx qs ∧ repAll tx qs = repAll text ps ∧ qs.length ≤ 50) F' N' ⟨ps, text, t1, T', rfl, rfl, rfl, rfl, hok, rfl, hps⟩ ?_ PassesOwn.never
  rintro n m₁ news₁ h₁ tk₁ F1 N1 ⟨qs, tx, t, TT, rfl, rfl, hm1, hm2, hok1, he, hl⟩
  have F2 := say F1 (Str.ofString "text") _ hm1
  have F3 := say F2 (Str.ofString "pairs") _ hm2
  clear F1 F2
  cases qs with
  | nil =>
    k_steps
    dsimp only
    rw [← he] at hQ
    exact hQ _ _ _ F3.keep
  | cons p qs =>
    obtain ⟨hk1, hk2, hk3, hk4⟩ := hok1
    walk1
    walk1
    refine ktl_truthyK N1 (.head _) (by rw [flat_len]; omega) ?_
    simp only [flat] at N1 ⊢
    simp only [List.isEmpty_cons, Bool.not_false, if_true]
    k_steps
    refine item_tup (News.isTup N1 (.head _)) (by decide) (by decide) rfl ?_
    k_steps
    refine item_tup (News.isTup N1 (.head _)) (by decide) (by decide) rfl ?_
    k_steps
    refine KSpl.split1 F3 N1 (by rw [txt_len]; exact beq_false_of_ne (by omega)) ?_ (by rw [txt_len, sizeLine_eq]; omega)
    intro D l h3 k3 e3 hS F4 N4 hD
    k_steps
    refine join_list (News.isList N4 (.head _)) (ys := Txt.split (txt tx) (txt p.1.1)) (by rw [← e3]; exact hS) (join_fit hk1 hk3) fun t4 k4 => ?_
    rw [rep_txt]
    k_steps
    rename Fr _ _ _ _ => F5
    rename News _ _ _ _ => N5
    with_unfolding_all refine slice_tuple_from (a := 2) (F := F5) (N := N5) (News.isTup N5 (.tail _ (.head _))) (by decide) (by simp) ?_ (hsz := by simp only [List.size_toArray, List.length_cons, flat_len]; exact small_line (by simp only [List.length_cons] at hl; omega))
    intro h6 F6 N6
    k_steps
    rename Fr _ _ _ _ => F7
    rename News _ _ _ _ => N7
    refine ⟨rfl, _, _, _, [_], qs.length, rfl, F7, fun q hq => N7 q (by rw [List.mem_singleton.mp hq]; exact .head _), Nat.lt_succ_self _, qs, _, _, _, rfl, rfl, rfl, rfl, hk4, he, by simp only [List.length_cons] at hl; omega⟩
end MjR
section MjP

def putPs (n : Nat) : List (List Nat × List Nat) := [(List.replicate n 32, [75]), ([32, 32, 32, 32, 9], [75]), ([32, 32, 32, 9], [75]), ([32, 32, 9], [75]), ([32, 9], [75]), ([9], [75]), ([75], List.replicate n 32)]
theorem put_call {w : World} {mean : ExcName → Option Value} {mg mb : Str → Option Value} {A : Around} {s : Shared} {hb : Heap} {page : List Nat} {n : Nat} {t1 t2 : Tok} {Q E : Value → Shared → Prop}
    (X : (hd.heap_39 w.params).In hb) (T : Top hd.view_39 (looseW hd.view_39 [Str.ofString "Whitespace"]) mean mg mb hb) (kb : hb.StaysIn s.heap) (hroom : A.depth + 1 < recursionLimit) (hh : A.handled = none) (hn : n ≤ 5)
    (hok : ∀ ps : List PT, ps.map (fun p => (p.1.1, p.2.1)) = putPs n → RepOk page ps)
    (hQ : ∀ ps : List PT, ps.map (fun p => (p.1.1, p.2.1)) = putPs n → ∀ t h' tk, s.heap.StaysIn h' → Q (.str (txt (repAll page ps)) t) { s with heap := h', toks := tk }) :
    wpAny (model PySem.Challenge.rw_mj0147_01.row.prog w) A (call (.ref 115) [.str (txt page) t1, .int (n : Int) t2]) Q E s := by
  revert X; k_fill; intro X
  k_dflt (refine' enterC [] [(Str.ofString "page", .str (txt page) t1), (Str.ofString "size", .int (n : Int) t2)] X T kb ?kH ?k6 ?k7 (by omega) ?k9 ?kB ?_ ?c2 ?c3 ?c4 ?c5; (case kH => exact List.forall_mem_nil _); (case k6 => k_is); (case k7 => k_is); (case k9 => exact BindsTo.of_eq rfl); (case c5 => decide); (case kB => exact locs rfl); (case c2 => exact rfl); (case c3 => exact rfl); (case c4 => exact rfl); k_whole)
  intro g L' h' tk' F' N' Xg Tg kg hback
  (try dsimp only)
  (try k_fold)
  k_steps
  rename Fr _ _ _ _ => F2
  rename News _ _ _ _ => N2
  rw [Int.toNat_natCast]
  refine replace_call (ps := [((_, _), (_, _)), ((_, _), (_, _)), ((_, _), (_, _)), ((_, _), (_, _)), ((_, _), (_, _)), ((_, _), (_, _)), ((_, _), (_, _))]) X T (fun b o e => F2.keep b o (kg b o e)) hroom hh (by simp only [List.length_cons, List.length_nil]; omega) (hok _ rfl) fun t h3 tk3 hst => ?_
  exact hQ _ rfl _ _ _ (back (hid := []) (List.forall_mem_nil _) hback (Fr.keeps F2 hst) (News.nil) (List.forall_mem_nil _))
end MjP
section MjI


theorem mem3 {a b c d q : Addr × Obj} (h : q ∈ [a, c, d]) : q ∈ [a, b, c, d] := by
  rcases List.mem_cons.mp h with rfl | h
  · exact .head _
  · exact .tail _ (.tail _ h)
theorem news_apart {h₀ h : Heap} {L a b : Addr} {o o' : Obj} {news : List (Addr × Obj)} (N : News h₀ L h news) (ha : (a, o) ∈ news) (hb : (b, o') ∈ news) (hc : o.cls ≠ o'.cls) : @Ne Nat a b := by
  rintro rfl
  have h1 := (N _ ha).1
  have h2 := (N _ hb).1
  dsimp only at h1 h2
  rw [h1] at h2
  exact hc (by rw [Option.some.inj h2])
structure WS where
  cnt : List Int
  b : Nat
  n : Nat
  nt : Nat
def bump (c : List Int) (b : Nat) : List Int :=
  let c' := if c.length ≤ b then c ++ List.replicate (b - c.length + 1) 0 else c
  c'.set b (c'.getD b 0 + 1)
def wsGo : List Nat → WS → WS
  | [], s => s
  | c :: r, s => if c = 32 then wsGo r ⟨s.cnt, s.b + 1, s.n + 1, s.nt⟩ else if c = 9 then wsGo r ⟨bump s.cnt s.b, 0, s.n + 1, s.nt + 1⟩ else s
def wsOf (l : List Nat) : WS := wsGo l ⟨[], 0, 0, 0⟩
structure MK where
  dx : Addr
  tn : Addr
  tc : Addr
  vs : List Value
  raw : Value
  k0 : Tok
  k1 : Tok
  k2 : Tok
  k3 : Tok
  k4 : Tok
  t1 : Tok
  t2 : Tok
  t3 : Tok
def MK.objs (M : MK) (w : World) (x : Addr) (σ : WS) : List (Addr × Obj) :=
  [(x, instObj 90 M.dx),
   (M.dx, dictOf [⟨PyData.keyHash w.params (Str.ofString "raw"), .str (Str.ofString "raw") M.k0, M.raw⟩,
      ⟨PyData.keyHash w.params (Str.ofString "n"), .str (Str.ofString "n") M.k1, .int ((σ.n : Nat) : Int) M.t1⟩,
      ⟨PyData.keyHash w.params (Str.ofString "nt"), .str (Str.ofString "nt") M.k2, .int ((σ.nt : Nat) : Int) M.t2⟩,
      ⟨PyData.keyHash w.params (Str.ofString "norm"), .str (Str.ofString "norm") M.k3, .ref M.tn⟩,
      ⟨PyData.keyHash w.params (Str.ofString "is_simple"), .str (Str.ofString "is_simple") M.k4, .bool (decide (((σ.cnt.length : Nat) : Int) ≤ 1))⟩] 5),
   (M.tn, { cls := .type "tuple", data := .seq #[.ref M.tc, .int ((σ.b : Nat) : Int) M.t3] }),
   (M.tc, { cls := .type "tuple", data := .seq M.vs.toArray })]
def MarkAt (w : World) (hb h : Heap) (x : Addr) (σ : WS) : Prop := ∃ M : MK, IntsAre M.vs σ.cnt ∧ σ.cnt.length ≤ 300 ∧ ∀ q ∈ M.objs w x σ, h.get? q.1 = some q.2 ∧ hb.get? q.1 = none
theorem MarkAt.keeps {w : World} {hb h h' : Heap} {x : Addr} {σ : WS} (m : MarkAt w hb h x σ) (k : h.StaysIn h') : MarkAt w hb h' x σ := by
  obtain ⟨M, hi, hl, hq⟩ := m
  exact ⟨M, hi, hl, fun q h => ⟨k _ _ (hq q h).1, (hq q h).2⟩⟩
theorem mark_intro {w : World} {hb g h : Heap} {L x dx tn tc lc : Addr} {ol : Obj} {vs : List Value} {cnt : List Int} {b n nt : Nat} {raw : Value} {k0 k1 k2 k3 k4 t1 t2 t3 : Tok}
    (N : News g L h [(tn, { cls := .type "tuple", data := .seq #[.ref tc, .int ((b : Nat) : Int) t3] }), (tc, { cls := .type "tuple", data := .seq vs.toArray }), (lc, ol), (x, instObj 90 dx),
     (dx, dictOf [⟨PyData.keyHash w.params (Str.ofString "raw"), .str (Str.ofString "raw") k0, raw⟩,
      ⟨PyData.keyHash w.params (Str.ofString "n"), .str (Str.ofString "n") k1, .int ((n : Nat) : Int) t1⟩,
      ⟨PyData.keyHash w.params (Str.ofString "nt"), .str (Str.ofString "nt") k2, .int ((nt : Nat) : Int) t2⟩,
      ⟨PyData.keyHash w.params (Str.ofString "norm"), .str (Str.ofString "norm") k3, .ref tn⟩,
      ⟨PyData.keyHash w.params (Str.ofString "is_simple"), .str (Str.ofString "is_simple") k4, .bool (decide (((cnt.length : Nat) : Int) ≤ 1))⟩] 5)])
    (kg : hb.StaysIn g) (hi : IntsAre vs cnt) (hl : cnt.length ≤ 300) : MarkAt w hb h x ⟨cnt, b, n, nt⟩ := by
  refine ⟨⟨dx, tn, tc, vs, raw, k0, k1, k2, k3, k4, t1, t2, t3⟩, hi, hl, ?_⟩
  have get : ∀ q, q ∈ _ → _ := fun q hq => And.intro (N q hq).1 (show hb.get? q.1 = none from by
    have := (N q hq).2.2
    cases e : hb.get? q.1 with
    | none => rfl
    | some o => rw [kg _ _ e] at this; cases this)
  exact List.forall_mem_cons.mpr ⟨get _ (.tail _ (.tail _ (.tail _ (.head _)))), List.forall_mem_cons.mpr ⟨get _ (.tail _ (.tail _ (.tail _ (.tail _ (.head _))))), List.forall_mem_cons.mpr ⟨get _ (.head _), List.forall_mem_cons.mpr ⟨get _ (.tail _ (.head _)), List.forall_mem_nil _⟩⟩⟩⟩
theorem bump_new {c : List Int} {b : Nat} (h : ((c.length : Nat) : Int) ≤ ((b : Nat) : Int)) : (c ++ (List.replicate (((b : Nat) : Int) - ((c.length : Nat) : Int) + 1).toNat [0]).flatten).set ((b : Nat) : Int).toNat ((c ++ (List.replicate (((b : Nat) : Int) - ((c.length : Nat) : Int) + 1).toNat [0]).flatten).getD ((b : Nat) : Int).toNat 0 + 1) = bump c b := by
  have e1 : (((b : Nat) : Int) - ((c.length : Nat) : Int) + 1).toNat = b - c.length + 1 := by omega
  have e2 : ∀ k : Nat, (List.replicate k [(0 : Int)]).flatten = List.replicate k 0 := by
    intro k
    induction k with
    | zero => rfl
    | succ k ih => rw [List.replicate_succ, List.flatten_cons, ih]; rfl
  have hle : c.length ≤ b := by omega
  rw [e1, e2, Int.toNat_natCast]
  unfold bump
  rw [if_pos hle]
theorem bump_old {c : List Int} {b : Nat} (h : ¬ ((c.length : Nat) : Int) ≤ ((b : Nat) : Int)) : c.set ((b : Nat) : Int).toNat (c.getD ((b : Nat) : Int).toNat 0 + 1) = bump c b := by
  have hle : ¬ c.length ≤ b := by omega
  rw [Int.toNat_natCast]
  unfold bump
  rw [if_neg hle]
theorem bump_len (c : List Int) (b : Nat) : (bump c b).length ≤ max c.length (b + 1) := by
  unfold bump
  dsimp only
  rw [List.length_set]
  split
  · rw [List.length_append, List.length_replicate]; omega
  · omega
theorem init_call {w : World} {mean : ExcName → Option Value} {mg mb : Str → Option Value} {A : Around} {s : Shared} {hb : Heap} {ws : List Nat} {x dx : Addr} {t1 : Tok} {R : Result → Shared → Prop}
    (X : (hd.heap_39 w.params).In hb) (T : Top hd.view_39 (looseW hd.view_39 [Str.ofString "Whitespace"]) mean mg mb hb) (kb : hb.StaysIn s.heap) (hroom : A.depth < recursionLimit) (hh : A.handled = none) (hn : ws.length ≤ 200)
    {h0 : Heap} (k0 : ∀ b o, h0.get? b = some o → s.heap.get? b = some o ∧ b ≠ x ∧ b ≠ dx) (hx : s.heap.get? x = some (instObj 90 dx) ∧ hb.get? x = none) (hdx : s.heap.get? dx = some (dictOf [] 0) ∧ hb.get? dx = none) (hne : @LT.lt Nat _ dx x)
    (hR : ∀ h' tk, (∀ b o, s.heap.get? b = some o → b ≠ x → b ≠ dx → h'.get? b = some o) → MarkAt w h0 h' x (wsOf ws) → R (.ok (.ret .none)) { s with heap := h', toks := tk }) :
    codeAny (model PySem.Challenge.rw_mj0147_01.row.prog w) A (.call (.ref 45) ⟨[.ref x, .str (txt ws) t1], []⟩) R s := by
  obtain ⟨hnd, dp, frs, gds, uns⟩ := A
  dsimp only at hh hroom
  subst hh
  revert X; k_fill; intro X
  k_dflt (refine' enterH [(x, instObj 90 dx), (dx, dictOf [] 0)] [(Str.ofString "self", .ref x), (Str.ofString "ws", .str (txt ws) t1)] X T kb ?kH ?k6 ?k7 hroom ?k9 ?kB ?_ ?c2 ?c3 ?c4 ?c5; (case kH => exact List.forall_mem_cons.mpr ⟨hx, List.forall_mem_cons.mpr ⟨hdx, List.forall_mem_nil _⟩⟩); (case k6 => k_is); (case k7 => k_is); (case k9 => exact BindsTo.of_eq rfl); (case c5 => decide); (case kB => exact locs rfl); (case c2 => exact rfl); (case c3 => exact rfl); (case c4 => exact rfl); k_whole)
  intro g L' h' tk' F' N' Xg Tg kg hback
  (try dsimp only)
  (try k_fold)
  k_steps
  rename Fr _ _ _ _ => F1
  rename News _ _ _ _ => N1
  rename (_ ∧ _) => hl1
  refine loopStrB (J := fun i m nx => ∃ cnt b n nt lc vs k t2 t3 t4 d1, IntsAre vs cnt ∧ nx = [(lc, W.listOf vs.toArray k), (x, instObj 90 dx), (dx, dictOf [⟨PyData.keyHash w.params (Str.ofString "raw"), .str (Str.ofString "raw") d1, .str (txt ws) t1⟩] 1)] ∧ m (Str.ofString "count") = some (.ref lc)
      ∧ m (Str.ofString "b") = some (.int ((b : Nat) : Int) t2) ∧ m (Str.ofString "n") = some (.int ((n : Nat) : Int) t3) ∧ m (Str.ofString "nt") = some (.int ((nt : Nat) : Int) t4)
      ∧ m (Str.ofString "S") = some (.str (Str.ofString " ") 219) ∧ m (Str.ofString "T") = some (.str (Str.ofString "	") 220) ∧ m (Str.ofString "self") = some (.ref x)
      ∧ (@LT.lt Nat _ x lc ∧ @LT.lt Nat _ dx lc) ∧ (b ≤ i ∧ n ≤ i ∧ nt ≤ i ∧ cnt.length ≤ i + 1) ∧ wsGo (ws.drop i) ⟨cnt, b, n, nt⟩ = wsOf ws)
    (Jd := fun m nx => ∃ cnt b n nt lc vs k t2 t3 t4 d1, IntsAre vs cnt ∧ nx = [(lc, W.listOf vs.toArray k), (x, instObj 90 dx), (dx, dictOf [⟨PyData.keyHash w.params (Str.ofString "raw"), .str (Str.ofString "raw") d1, .str (txt ws) t1⟩] 1)] ∧ m (Str.ofString "count") = some (.ref lc)
      ∧ m (Str.ofString "b") = some (.int ((b : Nat) : Int) t2) ∧ m (Str.ofString "n") = some (.int ((n : Nat) : Int) t3) ∧ m (Str.ofString "nt") = some (.int ((nt : Nat) : Int) t4)
      ∧ m (Str.ofString "self") = some (.ref x)
      ∧ (@LT.lt Nat _ x lc ∧ @LT.lt Nat _ dx lc) ∧ cnt.length ≤ 300 ∧ WS.mk cnt b n nt = wsOf ws) rfl F1 (fun q hq => N1 q (mem3 hq)) ⟨[], 0, 0, 0, _, [], 0, _, _, _, _, .nil, rfl, rfl, rfl, rfl, rfl, rfl, rfl, rfl, ⟨hl1.2.1, hl1.2.2⟩, ⟨Nat.le_refl _, Nat.le_refl _, Nat.le_refl _, Nat.le_succ _⟩, rfl⟩ ?_ ?_ ?_
  · rintro i c t m₁ news₁ h tk I oI hc ⟨cnt, b, n, nt, lc, vs, k, t2, t3, t4, d1, hi, rfl, hm1, hm2, hm3, hm4, hm5, hm6, hm7, hlt, hbd, hgo⟩ F3 N3 hoff
    have F4 := say F3 (Str.ofString "count") _ hm1
    have F5 := say F4 (Str.ofString "b") _ hm2
    have F6 := say F5 (Str.ofString "n") _ hm3
    have F7 := say F6 (Str.ofString "nt") _ hm4
    have F8 := say F7 (Str.ofString "S") _ hm5
    have F9 := say F8 (Str.ofString "T") _ hm6
    clear F3 F4 F5 F6 F7 F8 F1 N1
    have hc' : ws[i]? = some c := by simpa [txt] using hc
    have hi2 : i < ws.length := (List.getElem?_eq_some_iff.mp hc').1
    have hI1 : @Ne Nat lc I := hoff _ (.head _)
    have hI2 : @Ne Nat x I := hoff _ (.tail _ (.head _))
    have hI3 : @Ne Nat dx I := hoff _ (.tail _ (.tail _ (.head _)))
    have hdrop : ws.drop i = c :: ws.drop (i + 1) := by rw [List.drop_eq_getElem_cons hi2]; rw [(List.getElem?_eq_some_iff.mp hc').2]
    k_steps
    · rename Fr _ _ _ _ => F10
      rename News _ _ _ _ => N10
      rename (((_ : Str) == _) = true) => hcd
      have hc9 : c = 32 := by
        rw [show Str.ofString " " = ⟨#[32]⟩ by decide +kernel, sign_eq] at hcd
        exact of_decide_eq_true hcd
      refine TurnedB.next _ F10 N10 (fun p hp => hp) hoff ⟨cnt, b + 1, n + 1, nt, lc, vs, k, _, _, _, _, hi, rfl, rfl, rfl, rfl, rfl, rfl, rfl, hm7, hlt, ⟨by omega, by omega, by omega, by omega⟩, ?_⟩
      rw [← hgo, hdrop, hc9]
      rfl
    · rename Fr _ _ _ _ => F10
      rename News _ _ _ _ => N10
      rename (((_ : Str) == _) = true) => hcd
      rename (_ ≤ _) => hle
      rename IntsAre _ _ => hI
      have hc9 : c = 9 := by
        rw [show Str.ofString "	" = ⟨#[9]⟩ by decide +kernel, sign_eq] at hcd
        exact of_decide_eq_true hcd
      have hcc := bump_len cnt b
      rw [bump_new hle] at hI
      refine TurnedB.next [_, _, _] F10 N10 ?_ ?_ ⟨bump cnt b, 0, n + 1, nt + 1, _, _, 0, _, _, _, d1, hI, rfl, rfl, rfl, rfl, rfl, rfl, rfl, hm7, ⟨by omega, by omega⟩, ⟨by omega, by omega, by omega, by omega⟩, ?_⟩
      · exact List.forall_mem_cons.mpr ⟨.tail _ (.tail _ (.tail _ (.head _))), List.forall_mem_cons.mpr ⟨.head _, List.forall_mem_cons.mpr ⟨.tail _ (.tail _ (.tail _ (.tail _ (.tail _ (.head _))))), List.forall_mem_cons.mpr ⟨.tail _ (.tail _ (.tail _ (.tail _ (.tail _ (.tail _ (.head _)))))), List.forall_mem_nil _⟩⟩⟩⟩
      · refine List.forall_mem_cons.mpr ⟨?_, fun p hp => hoff p (.tail _ hp)⟩
        show @Ne Nat _ I
        omega
      · rw [← hgo, hdrop, hc9]
        rfl
    · rename Fr _ _ _ _ => F10
      rename News _ _ _ _ => N10
      rename (((_ : Str) == _) = true) => hcd
      rename (¬ (_ ≤ _)) => hle
      rename IntsAre _ _ => hI
      have hc9 : c = 9 := by
        rw [show Str.ofString "	" = ⟨#[9]⟩ by decide +kernel, sign_eq] at hcd
        exact of_decide_eq_true hcd
      have hcc := bump_len cnt b
      rw [bump_old hle] at hI
      refine TurnedB.next [_, _, _] F10 N10 (fun p hp => hp) ?_ ⟨bump cnt b, 0, n + 1, nt + 1, _, _, _, _, _, _, _, hI, rfl, rfl, rfl, rfl, rfl, rfl, rfl, hm7, hlt, ⟨by omega, by omega, by omega, by omega⟩, ?_⟩
      · exact List.forall_mem_cons.mpr ⟨hI1, fun p hp => hoff p (.tail _ hp)⟩
      · rw [← hgo, hdrop, hc9]
        rfl
    · rename (((_ : Str) == Str.ofString "	") = false) => hcd
      rename (((_ : Str) == Str.ofString " ") = false) => hcd2
      have hc9 : ¬ c = 9 := by
        rw [show Str.ofString "	" = ⟨#[9]⟩ by decide +kernel, sign_eq] at hcd
        exact of_decide_eq_false hcd
      have hc8 : ¬ c = 32 := by
        rw [show Str.ofString " " = ⟨#[32]⟩ by decide +kernel, sign_eq] at hcd2
        exact of_decide_eq_false hcd2
      dsimp only
      refine TurnedB.brk _ F9 N3 (fun p hp => .tail _ hp) ⟨cnt, b, n, nt, lc, vs, k, _, _, _, _, hi, rfl, rfl, rfl, rfl, rfl, hm7, hlt, by omega, ?_⟩
      rw [← hgo, hdrop]
      unfold wsGo
      rw [if_neg hc8, if_neg hc9]
  · rintro m₁ news₁ ⟨cnt, b, n, nt, lc, vs, k, t2, t3, t4, d1, hi, rfl, hm1, hm2, hm3, hm4, hm5, hm6, hm7, hlt, hbd, hgo⟩
    have e : ws.drop (txt ws).cps.size = [] := by simp [txt]
    rw [e] at hgo
    have e2 : (txt ws).cps.size = ws.length := by simp [txt]
    rw [e2] at hbd
    exact ⟨cnt, b, n, nt, lc, vs, k, t2, t3, t4, d1, hi, rfl, hm1, hm2, hm3, hm4, hm7, hlt, by omega, hgo⟩
  · rintro m₁ news₁ h tk ⟨cnt, b, n, nt, lc, vs, k, t2, t3, t4, d1, hi, rfl, hm1, hm2, hm3, hm4, hm7, hlt, hbd, hgo⟩ F3 N3
    have F4 := say F3 (Str.ofString "count") _ hm1
    have F5 := say F4 (Str.ofString "b") _ hm2
    have F6 := say F5 (Str.ofString "n") _ hm3
    have F7 := say F6 (Str.ofString "nt") _ hm4
    have F8 := say F7 (Str.ofString "self") _ hm7
    clear F3 F4 F5 F6 F7 F1 N1
    dsimp only
    k_steps
    rename Fr _ _ _ _ => F9
    rename News _ _ _ _ => N9
    have hq1 := news_apart N9 (.tail _ (.head _)) (.tail _ (.tail _ (.tail _ (.tail _ (.head _))))) (by intro e; injection e with e; revert e; decide)
    have hq2 := news_apart N9 (.tail _ (.head _)) (.tail _ (.tail _ (.tail _ (.head _)))) (by intro e; cases e)
    k_steps
    rename Fr _ _ _ _ => F11
    rename News _ _ _ _ => N11
    refine hR _ _ (fun b o e n1 n2 => hback _ F11.keep b o e (by simpa using ⟨n1, n2⟩)) ?_
    rw [← hgo]
    exact mark_intro N11 (fun b o e => hback g (fun _ _ e => e) b o (k0 b o e).1 (by simpa using (k0 b o e).2)) hi hbd
theorem ws_call {w : World} {mean : ExcName → Option Value} {mg mb : Str → Option Value} {A : Around} {s : Shared} {hb : Heap} {ws : List Nat} {t1 : Tok} {Q E : Value → Shared → Prop}
    (X : (hd.heap_39 w.params).In hb) (T : Top hd.view_39 (looseW hd.view_39 [Str.ofString "Whitespace"]) mean mg mb hb) (kb : hb.StaysIn s.heap) (hroom : A.depth + 1 < recursionLimit) (hh : A.handled = none) (hn : ws.length ≤ 200)
    (hQ : ∀ x h' tk, s.heap.StaysIn h' → MarkAt w s.heap h' x (wsOf ws) → Q (.ref x) { s with heap := h', toks := tk }) :
    wpAny (model PySem.Challenge.rw_mj0147_01.row.prog w) A (call (.ref 90) [.str (txt ws) t1]) Q E s := by
  revert X; k_fill; intro X
  refine wpAny_call ?_
  have X' := X.keeps kb
  obtain ⟨hh', gg, dd, tt, oo⟩ := s
  have hm : makesIn (hd.heap_39 w.params) 90 = true := by k_is
  have hi : findIn (hd.heap_39 w.params) (.ref 90) "__init__" = some (some (.ref 45)) := by k_is
  have hf : typeIn (hd.heap_39 w.params) (.ref 45) = some (.type "function") := by k_is
  have nf : ∀ a, hh'.objs.size ≤ a → hb.get? a = none := fun a ha => by
    cases e : hb.get? a with
    | none => rfl
    | some o => exact absurd (Heap.lt_size (kb _ _ e)) (Nat.not_lt.mpr ha)
  have up : ∀ b o, hh'.get? b = some o → ((hh'.push emptyDict).push (instObj 90 hh'.objs.size)).get? b = some o := fun b o e => Heap.get?_push_of_some _ (Heap.get?_push_of_some _ e)
  refine make_core (makes_of X' hm) (looks_findIn X' hi) (fun self => bind_fn X' self hf) (.inl rfl) ?_
  refine init_call (x := hh'.objs.size + 1) (dx := hh'.objs.size) X T (fun b o e => up b o (kb b o e)) ?_ ?_ hn (h0 := hh') (fun b o e => ⟨up b o e, fun q => by subst q; exact absurd (Heap.lt_size e) (Nat.not_lt.mpr (Nat.le_succ _)), fun q => by subst q; exact absurd (Heap.lt_size e) (Nat.lt_irrefl _)⟩) ⟨?_, nf _ (Nat.le_succ _)⟩ ⟨?_, nf _ (Nat.le_refl _)⟩ (Nat.lt_succ_self _) ?_
  · rw [depth_under_make]; exact hroom
  · exact hh
  · have := Heap.get?_push_size (hh'.push emptyDict) (o := instObj 90 hh'.objs.size) rfl
    rwa [Heap.size_push] at this
  · exact Heap.get?_push_of_some _ (Heap.get?_push_size _ rfl)
  · intro h' tk hk hM
    refine ⟨rfl, ?_⟩
    refine hQ _ _ _ (fun b o e => hk b o (up b o e) ?_ ?_) hM
    · intro q; subst q; exact absurd (Heap.lt_size e) (Nat.not_lt.mpr (Nat.le_succ _))
    · intro q; subst q; exact absurd (Heap.lt_size e) (Nat.lt_irrefl _)
end MjI
section MjM

theorem longest_call {w : World} {mean : ExcName → Option Value} {mg mb : Str → Option Value} {A : Around} {s : Shared} {hb : Heap} {Q E : Value → Shared → Prop} {x : Addr} {σ : WS}
    (X : (hd.heap_39 w.params).In hb) (T : Top hd.view_39 (looseW hd.view_39 [Str.ofString "Whitespace"]) mean mg mb hb) (kb : hb.StaysIn s.heap) (hroom : A.depth < recursionLimit) (hh : A.handled = none) (m : MarkAt w hb s.heap x σ)
    (hQ : ∀ t h' tk, s.heap.StaysIn h' → Q (.int (max ((σ.cnt.length : Int) - 1) (σ.b : Int)) t) { s with heap := h', toks := tk }) :
    wpAny (model PySem.Challenge.rw_mj0147_01.row.prog w) A (call (.ref 52) [.ref x]) Q E s := by
  obtain ⟨hnd, dp, frs, gds, uns⟩ := A
  dsimp only at hh hroom
  subst hh
  revert X; k_fill; intro X
  obtain ⟨M, hi, hl, hq⟩ := m
  k_dflt (refine' enterC (M.objs w x σ) [(Str.ofString "self", .ref x)] X T kb hq ?k6 ?k7 hroom ?k9 ?kB ?_ ?c2 ?c3 ?c4 ?c5; (case k6 => k_is); (case k7 => k_is); (case k9 => exact BindsTo.of_eq rfl); (case c5 => decide); (case kB => exact locs rfl); (case c2 => exact rfl); (case c3 => exact rfl); (case c4 => exact rfl); k_whole)
  intro g L' h' tk' F' N' Xg Tg kg hback
  (try dsimp only)
  (try k_fold)
  have hq' := hq
  unfold MK.objs at N'
  k_steps
  rename Fr _ _ _ _ => F9
  rename News _ _ _ _ => N9
  have e : (if ((σ.b : Nat) : Int) > ((σ.cnt.length : Nat) : Int) - 1 then ((σ.b : Nat) : Int) else ((σ.cnt.length : Nat) : Int) - 1) = max (((σ.cnt.length : Nat) : Int) - 1) ((σ.b : Nat) : Int) := by split <;> omega
  rw [e]
  exact hQ _ _ _ (back (hid := M.objs w x σ) (fun q h => (hq q h).1) hback F9 N9 (fun q h => h))

def ilv (ts : Nat) (cnt : List Int) : Nat → Int
  | 0 => 0
  | k + 1 => ilv ts cnt k + (((ts + k) / ts : Nat) : Int) * cnt.getD (ts + k) 0
def lev (σ : WS) (ts : Nat) : Int := (σ.b : Int) + (ts : Int) * (ilv ts σ.cnt (σ.cnt.length - ts) + (σ.nt : Int))
theorem indent_call {w : World} {mean : ExcName → Option Value} {mg mb : Str → Option Value} {A : Around} {s : Shared} {hb : Heap} {Q E : Value → Shared → Prop} {x : Addr} {σ : WS} {ts : Nat} {t0 : Tok}
    (X : (hd.heap_39 w.params).In hb) (T : Top hd.view_39 (looseW hd.view_39 [Str.ofString "Whitespace"]) mean mg mb hb) (kb : hb.StaysIn s.heap) (hroom : A.depth < recursionLimit) (hh : A.handled = none) (m : MarkAt w hb s.heap x σ) (hts : 1 ≤ ts ∧ ts ≤ 100) (hc : ∀ c ∈ σ.cnt, 0 ≤ c ∧ c ≤ 1000) (hnt : σ.nt ≤ 1000) (hbb : σ.b ≤ 1000)
    (hQ : ∀ t h' tk, s.heap.StaysIn h' → Q (.int (lev σ ts) t) { s with heap := h', toks := tk }) :
    wpAny (model PySem.Challenge.rw_mj0147_01.row.prog w) A (call (.ref 59) [.ref x, .int (ts : Int) t0]) Q E s := by
  obtain ⟨hnd, dp, frs, gds, uns⟩ := A
  dsimp only at hh hroom
  subst hh
  revert X; k_fill; intro X
  obtain ⟨M, hi, hl, hq⟩ := m
  k_dflt (refine' enterC (M.objs w x σ) [(Str.ofString "self", .ref x), (Str.ofString "tabsize", .int (ts : Int) t0)] X T kb hq ?k6 ?k7 hroom ?k9 ?kB ?_ ?c2 ?c3 ?c4 ?c5; (case k6 => k_is); (case k7 => k_is); (case k9 => exact BindsTo.of_eq rfl); (case c5 => decide); (case kB => exact locs rfl); (case c2 => exact rfl); (case c3 => exact rfl); (case c4 => exact rfl); k_whole)
  intro g L' h' tk' F' N' Xg Tg kg hback
  (try dsimp only)
  (try k_fold)
  unfold MK.objs at N'
  (repeat' ((fail_if_success (with_reducible show wpAny _ _ (exec (Stmt.For _ _ _ _ _) _) _ _ _)); (fail_if_success (with_reducible show wpAny _ _ (pyIter _) _ _ _)); (fail_if_success (with_reducible show wpAny _ _ (PySem.call (Value.ref _) _ _) _ _ _)); first | (k_unfold; (try dsimp only)) | walk1 | (dsimp only; walk1) | (leave1; (try dsimp only))))
  refine For_invV g rfl rfl ?_ (hE := PassesOwn.never)
  (repeat' ((fail_if_success (with_reducible show wpAny _ _ (exec (Stmt.For _ _ _ _ _) _) _ _ _)); (fail_if_success (with_reducible show wpAny _ _ (pyIter _) _ _ _)); (fail_if_success (with_reducible show wpAny _ _ (PySem.call (Value.ref _) _ _) _ _ _)); first | (k_unfold; (try dsimp only)) | walk1 | (dsimp only; walk1) | (leave1; (try dsimp only))))
  rename Fr _ _ _ _ => F1
  rename News _ _ _ _ => N1
  rename IsRange _ _ _ _ _ _ _ _ => hr
  have hnn : ∀ k : Nat, ts + k < σ.cnt.length → 0 ≤ σ.cnt.getD (ts + k) 0 ∧ σ.cnt.getD (ts + k) 0 ≤ 1000 := fun k hk => by
    rw [List.getD_eq_getElem?_getD, List.getElem?_eq_getElem hk]
    exact hc _ (List.getElem_mem _)
  refine loopRange (n := σ.cnt.length - ts) (J := fun k m nx => nx = M.objs w x σ ∧ (∃ t, m (Str.ofString "il") = some (.int (ilv ts σ.cnt k) t)) ∧ m (Str.ofString "tabsize") = some (.int (ts : Int) t0) ∧ m (Str.ofString "count") = some (.ref M.tc) ∧ m (Str.ofString "trailing") = some (.int (σ.b : Int) M.t3) ∧ m (Str.ofString "self") = some (.ref x)) rfl hr (small_rng (by omega) (by omega) (by omega) (by omega)) (size_rng _ _) F1 N1 ⟨rfl, ⟨_, rfl⟩, rfl, rfl, rfl, rfl⟩ ?_ ?_
  · rintro k t m₁ news₁ h tk I oI hk ⟨rfl, ⟨t9, hm1⟩, hm2, hm3, hm4, hm5⟩ F3 N3 hoff
    have ek : ((ts : Nat) : Int) + ((k : Nat) : Int) = ((ts + k : Nat) : Int) := by omega
    rw [ek] at F3
    have F4 := say F3 (Str.ofString "il") _ hm1
    have F5 := say F4 (Str.ofString "tabsize") _ hm2
    have F6 := say F5 (Str.ofString "count") _ hm3
    clear F3 F4 F5 F1 N1
    have hk2 : ts + k < σ.cnt.length := by omega
    have hb1 := hnn k hk2
    unfold MK.objs at N3
    (repeat' ((fail_if_success (with_reducible show wpAny _ _ (exec (Stmt.For _ _ _ _ _) _) _ _ _)); (fail_if_success (with_reducible show wpAny _ _ (pyIter _) _ _ _)); (fail_if_success (with_reducible show wpAny _ _ (PySem.call (Value.ref _) _ _) _ _ _)); first | (k_unfold; (try dsimp only)) | walk1 | (dsimp only; walk1) | (leave1; (try dsimp only))))
    rename Fr _ _ _ _ => F9
    rename News _ _ _ _ => N9
    refine Turned.next (M.objs w x σ) F9 N9 (fun p hp => hp) hoff ⟨rfl, ⟨_, rfl⟩, rfl, rfl, hm4, hm5⟩
  · rintro m₁ news₁ h tk ⟨rfl, ⟨t9, hm1⟩, hm2, hm3, hm4, hm5⟩ F3 N3
    have F4 := say F3 (Str.ofString "il") _ hm1
    have F5 := say F4 (Str.ofString "tabsize") _ hm2
    have F6 := say F5 (Str.ofString "trailing") _ hm4
    have F7 := say F6 (Str.ofString "self") _ hm5
    clear F3 F4 F5 F6 F1 N1
    have N4 := N3
    unfold MK.objs at N4
    clear N3
    dsimp only
    (repeat' ((fail_if_success (with_reducible show wpAny _ _ (exec (Stmt.For _ _ _ _ _) _) _ _ _)); (fail_if_success (with_reducible show wpAny _ _ (pyIter _) _ _ _)); (fail_if_success (with_reducible show wpAny _ _ (PySem.call (Value.ref _) _ _) _ _ _)); first | (k_unfold; (try dsimp only)) | walk1 | (dsimp only; walk1) | (leave1; (try dsimp only))))
    dsimp only
    exact hQ _ _ _ (back (hid := M.objs w x σ) (fun q h => (hq q h).1) hback F7 N4 (fun q h => h))
end MjM
section MjE

def normD (σ : WS) : PyData := .tuple [.tuple (σ.cnt.map .int), .int (σ.b : Int)]
def membD (σ : WS) : PyData := .tuple [.int (σ.n : Int), .int (σ.nt : Int), normD σ, .bool (decide ((σ.cnt.length : Int) ≤ 1)), .bool true]
theorem norm_reads {w : World} {h : Heap} {x : Addr} {σ : WS} (M : MK) (hi : IntsAre M.vs σ.cnt) (hq : ∀ q ∈ M.objs w x σ, h.get? q.1 = some q.2) : Reads h (.ref M.tn) (normD σ) [] := by
  have h3 := hq _ (.tail _ (.tail _ (.head _)))
  have h4 := hq _ (.tail _ (.tail _ (.tail _ (.head _))))
  exact reads_tuple_at h3 rfl rfl (ReadsAll.cons (as := []) (reads_tuple_at h4 rfl rfl (hi.reads h)) (ReadsAll.cons (as := []) (Reads.int _ _) ReadsAll.nil))
theorem norm_shaped (σ : WS) : SeqAt.shaped (normD σ) = true := by
  simp [normD, SeqAt.shaped, PyData.canLay0, PyData.canLayAll0, PyData.depth, PyData.depthAll, ke_canLayAll0, ke_depthAll]
theorem norm_eqv (σ τ : WS) : PyData.eqv (normD σ) (normD τ) = decide (σ.cnt = τ.cnt ∧ σ.b = τ.b) := by
  simp only [normD, PyData.eqv, PyData.eqvAll, ked_eqvAll, Bool.and_true]
  rw [Bool.eq_iff_iff]
  simp
  intro _
  omega
theorem equal_call {w : World} {mean : ExcName → Option Value} {mg mb : Str → Option Value} {A : Around} {s : Shared} {hb : Heap} {Q E : Value → Shared → Prop} {x y : Addr} {σ τ : WS}
    (X : (hd.heap_39 w.params).In hb) (T : Top hd.view_39 (looseW hd.view_39 [Str.ofString "Whitespace"]) mean mg mb hb) (kb : hb.StaysIn s.heap) (hroom : A.depth < recursionLimit) (hh : A.handled = none) (hu : A.units + 100 < cLine) (m : MarkAt w hb s.heap x σ) (m2 : MarkAt w hb s.heap y τ)
    (hQ : ∀ h' tk, s.heap.StaysIn h' → Q (.bool (decide (σ.cnt = τ.cnt ∧ σ.b = τ.b))) { s with heap := h', toks := tk }) :
    wpAny (model PySem.Challenge.rw_mj0147_01.row.prog w) A (call (.ref 66) [.ref x, .ref y]) Q E s := by
  obtain ⟨hnd, dp, frs, gds, uns⟩ := A
  dsimp only at hh hroom
  subst hh
  revert X; k_fill; intro X
  obtain ⟨M, hi, hl, hq⟩ := m
  obtain ⟨M2, hi2, hl2, hq2⟩ := m2
  have hqq : ∀ q ∈ M.objs w x σ ++ M2.objs w y τ, s.heap.get? q.1 = some q.2 ∧ hb.get? q.1 = none := fun q h => (List.mem_append.mp h).elim (hq q) (hq2 q)
  k_dflt (refine' enterC (M.objs w x σ ++ M2.objs w y τ) [(Str.ofString "self", .ref x), (Str.ofString "other", .ref y)] X T kb hqq ?k6 ?k7 hroom ?k9 ?kB ?_ ?c2 ?c3 ?c4 ?c5; (case k6 => k_is); (case k7 => k_is); (case k9 => exact BindsTo.of_eq rfl); (case c5 => decide); (case kB => exact locs rfl); (case c2 => exact rfl); (case c3 => exact rfl); (case c4 => exact rfl); k_whole)
  intro g L' h' tk' F' N' Xg Tg kg hback
  (try dsimp only)
  (try k_fold)
  have N9 := N'
  unfold MK.objs at N'
  dsimp only [List.cons_append, List.nil_append] at N'
  (repeat' ((fail_if_success (with_reducible show wpAny _ _ (exec (Stmt.For _ _ _ _ _) _) _ _ _)); (fail_if_success (with_reducible show wpAny _ _ (pyIter _) _ _ _)); (fail_if_success (with_reducible show wpAny _ _ (PySem.call (Value.ref _) _ _) _ _ _)); first | (k_unfold; (try dsimp only)) | walk1 | (dsimp only; walk1) | (leave1; (try dsimp only))))
  refine eq_dataH (norm_reads M hi fun q h => (N9 q (List.mem_append_left _ h)).1) (norm_reads M2 hi2 fun q h => (N9 q (List.mem_append_right _ h)).1) (norm_shaped σ) (norm_shaped τ) (by show uns + 3 + 64 < cLine; dsimp only at hu; omega) ?_
  rw [norm_eqv]
  rename Fr _ _ _ _ => F9
  dsimp only
  exact hQ _ _ (back (hid := M.objs w x σ ++ M2.objs w y τ) (fun q h => (hqq q h).1) hback F9 N9 (fun q h => h))

def membO (M : MK) (σ : WS) : Obj := { cls := .type "tuple", data := .seq #[.int ((σ.n : Nat) : Int) M.t1, .int ((σ.nt : Nat) : Int) M.t2, .ref M.tn, .bool (decide (((σ.cnt.length : Nat) : Int) ≤ 1)), .bool true] }
theorem memb_reads {w : World} {h : Heap} {x D : Addr} {σ : WS} (M : MK) (hi : IntsAre M.vs σ.cnt) (hq : ∀ q ∈ M.objs w x σ, h.get? q.1 = some q.2) (hD : h.get? D = some (membO M σ)) : Reads h (.ref D) (membD σ) [] :=
  reads_tuple_at hD rfl rfl (ReadsAll.cons (as := []) (Reads.int _ _) (ReadsAll.cons (as := []) (Reads.int _ _) (ReadsAll.cons (as := []) (norm_reads M hi hq) (ReadsAll.cons (as := []) (Reads.bool _) (ReadsAll.cons (as := []) (Reads.bool _) ReadsAll.nil)))))
theorem members_call {w : World} {mean : ExcName → Option Value} {mg mb : Str → Option Value} {A : Around} {s : Shared} {hb : Heap} {Q E : Value → Shared → Prop} {x : Addr} {σ : WS} (M : MK)
    (X : (hd.heap_39 w.params).In hb) (T : Top hd.view_39 (looseW hd.view_39 [Str.ofString "Whitespace"]) mean mg mb hb) (kb : hb.StaysIn s.heap) (hroom : A.depth < recursionLimit) (hh : A.handled = none) (hi : IntsAre M.vs σ.cnt) (hl : σ.cnt.length ≤ 300) (hq : ∀ q ∈ M.objs w x σ, s.heap.get? q.1 = some q.2 ∧ hb.get? q.1 = none)
    (hQ : ∀ D h' tk, s.heap.StaysIn h' → h'.get? D = some (membO M σ) → s.heap.get? D = none → Q (.ref D) { s with heap := h', toks := tk }) :
    wpAny (model PySem.Challenge.rw_mj0147_01.row.prog w) A (call (.ref 122) [.ref x]) Q E s := by
  obtain ⟨hnd, dp, frs, gds, uns⟩ := A
  dsimp only at hh hroom
  subst hh
  revert X; k_fill; intro X
  k_dflt (refine' enterC (M.objs w x σ) [(Str.ofString "mark", .ref x)] X T kb hq ?k6 ?k7 hroom ?k9 ?kB ?_ ?c2 ?c3 ?c4 ?c5; (case k6 => k_is); (case k7 => k_is); (case k9 => exact BindsTo.of_eq rfl); (case c5 => decide); (case kB => exact locs rfl); (case c2 => exact rfl); (case c3 => exact rfl); (case c4 => exact rfl); k_whole)
  intro g L' h' tk' F' N' Xg Tg kg hback
  (try dsimp only)
  (try k_fold)
  unfold MK.objs at N'
  (repeat' ((fail_if_success (with_reducible show wpAny _ _ (exec (Stmt.For _ _ _ _ _) _) _ _ _)); (fail_if_success (with_reducible show wpAny _ _ (pyIter _) _ _ _)); (fail_if_success (with_reducible show wpAny _ _ (PySem.call (Value.ref _) _ _) _ _ _)); first | (k_unfold; (try dsimp only)) | walk1 | (dsimp only; walk1) | (leave1; (try dsimp only))))
  rename Fr _ _ _ _ => F9
  rename News _ _ _ _ => N9
  have hst := back (hid := M.objs w x σ) (fun q h => (hq q h).1) hback F9 N9 (fun q h => .tail _ h)
  refine hQ _ _ _ hst (N9 _ (.head _)).1 ?_
  cases e : s.heap.get? _ with
  | none => rfl
  | some o =>
    exfalso
    have h1 := (N9 _ (.head _)).2.2
    dsimp only at h1
    rename (@LT.lt Nat _ x _ ∧ _) => hlt
    rw [hback g (fun _ _ e => e) _ _ e (fun hm => by
      simp only [MK.objs, List.map_cons, List.map_nil, List.mem_cons, List.not_mem_nil, or_false] at hm
      rcases hm with h | h | h | h
      · exact absurd h (neN (Nat.ne_of_gt hlt.1))
      · exact absurd h (neN (Nat.ne_of_gt hlt.2.1))
      · exact absurd h (neN (Nat.ne_of_gt hlt.2.2.1))
      · exact absurd h (neN (Nat.ne_of_gt hlt.2.2.2)))] at h1
    cases h1
end MjE
section MjL

def lng (σ : WS) : Nat := max (σ.cnt.length - 1) σ.b
theorem lng_eq (σ : WS) : max ((σ.cnt.length : Int) - 1) (σ.b : Int) = ((lng σ : Nat) : Int) := by unfold lng; omega
def lessL (σ τ : WS) : Nat → Bool
  | 0 => true
  | k + 1 => lessL σ τ k && decide (lev σ (2 + k) < lev τ (2 + k))
def lessB (σ τ : WS) : Bool := if τ.n ≤ σ.n then false else if σ.cnt.length ≤ 1 ∧ τ.cnt.length ≤ 1 then decide (σ.nt ≤ τ.nt) else lessL σ τ (max (lng σ) (lng τ))
theorem lessL_false (σ τ : WS) {k n : Nat} (hk : k < n) (h : decide (lev σ (2 + k) < lev τ (2 + k)) = false) : lessL σ τ n = false := by
  induction n with
  | zero => omega
  | succ n ih =>
    unfold lessL
    rcases Nat.lt_or_ge k n with h1 | h1
    · rw [ih h1]; rfl
    · have : k = n := by omega
      subst this
      rw [h, Bool.and_false]
structure Tame (σ : WS) : Prop where
  c : ∀ c ∈ σ.cnt, 0 ≤ c ∧ c ≤ 1000
  nt : σ.nt ≤ 1000
  b : σ.b ≤ 90
  l : σ.cnt.length ≤ 90
theorem less_call {w : World} {mean : ExcName → Option Value} {mg mb : Str → Option Value} {A : Around} {s : Shared} {hb : Heap} {Q E : Value → Shared → Prop} {x y : Addr} {σ τ : WS}
    (X : (hd.heap_39 w.params).In hb) (T : Top hd.view_39 (looseW hd.view_39 [Str.ofString "Whitespace"]) mean mg mb hb) (kb : hb.StaysIn s.heap) (hroom : A.depth + 1 < recursionLimit) (hh : A.handled = none) (m : MarkAt w hb s.heap x σ) (m2 : MarkAt w hb s.heap y τ) (t1 : Tame σ) (t2 : Tame τ)
    (hQ : ∀ h' tk, s.heap.StaysIn h' → Q (.bool (lessB σ τ)) { s with heap := h', toks := tk }) :
    wpAny (model PySem.Challenge.rw_mj0147_01.row.prog w) A (call (.ref 80) [.ref x, .ref y]) Q E s := by
  obtain ⟨hnd, dp, frs, gds, uns⟩ := A
  dsimp only at hh hroom
  subst hh
  revert X; k_fill; intro X
  obtain ⟨M, hi, hl, hq⟩ := m
  obtain ⟨M2, hi2, hl2, hq2⟩ := m2
  have hqq : ∀ q ∈ M.objs w x σ ++ M2.objs w y τ, s.heap.get? q.1 = some q.2 ∧ hb.get? q.1 = none := fun q h => (List.mem_append.mp h).elim (hq q) (hq2 q)
  k_dflt (refine' enterC (M.objs w x σ ++ M2.objs w y τ) [(Str.ofString "self", .ref x), (Str.ofString "other", .ref y)] X T kb hqq ?k6 ?k7 (show dp < recursionLimit by omega) ?k9 ?kB ?_ ?c2 ?c3 ?c4 ?c5; (case k6 => k_is); (case k7 => k_is); (case k9 => exact BindsTo.of_eq rfl); (case c5 => decide); (case kB => exact locs rfl); (case c2 => exact rfl); (case c3 => exact rfl); (case c4 => exact rfl); k_whole)
  intro g L' h' tk' F' N' Xg Tg kg hback
  (try dsimp only)
  (try k_fold)
  have N9 := N'
  unfold MK.objs at N'
  dsimp only [List.cons_append, List.nil_append] at N'
  have mk1 : ∀ h, News g L' h (M.objs w x σ ++ M2.objs w y τ) → MarkAt w hb h x σ := fun h N => ⟨M, hi, hl, fun q hq' => ⟨(N q (List.mem_append_left _ hq')).1, (hq q hq').2⟩⟩
  have mk2 : ∀ h, News g L' h (M.objs w x σ ++ M2.objs w y τ) → MarkAt w hb h y τ := fun h N => ⟨M2, hi2, hl2, fun q hq' => ⟨(N q (List.mem_append_right _ hq')).1, (hq2 q hq').2⟩⟩
  have hls : lng σ ≤ 90 := by have := t1.b; have := t1.l; unfold lng; omega
  have hlt : lng τ ≤ 90 := by have := t2.b; have := t2.l; unfold lng; omega
  (repeat' ((fail_if_success (with_reducible show wpAny _ _ (exec (Stmt.For _ _ _ _ _) _) _ _ _)); (fail_if_success (with_reducible show wpAny _ _ (pyIter _) _ _ _)); (fail_if_success (with_reducible show wpAny _ _ (PySem.call (Value.ref _) _ _) _ _ _)); first | (k_unfold; (try dsimp only)) | walk1 | (dsimp only; walk1) | (leave1; (try dsimp only))))
  · rename (_ ≤ _) => hle
    dsimp only
    have hf : lessB σ τ = false := by unfold lessB; rw [if_pos (by omega)]
    rw [hf] at hQ
    exact hQ _ _ (back (hid := M.objs w x σ ++ M2.objs w y τ) (fun q h => (hqq q h).1) hback F' N9 (fun q h => h))
  · rename (((τ.cnt.length : Nat) : Int) ≤ _) => hle2
    rename (((σ.cnt.length : Nat) : Int) ≤ _) => hle1
    rename (¬ (_ ≤ _)) => hle
    dsimp only
    have hf : lessB σ τ = decide (((σ.nt : Nat) : Int) ≤ ((τ.nt : Nat) : Int)) := by
      unfold lessB
      rw [if_neg (by omega), if_pos ⟨by omega, by omega⟩]
      exact decide_eq_decide.mpr (by omega)
    rw [hf] at hQ
    exact hQ _ _ (back (hid := M.objs w x σ ++ M2.objs w y τ) (fun q h => (hqq q h).1) hback F' N9 (fun q h => h))
  · rename (¬ (((τ.cnt.length : Nat) : Int) ≤ _)) => hle2
    rename (¬ (((τ.n : Nat) : Int) ≤ _)) => hle
    have hn1 : ¬ τ.n ≤ σ.n := by omega
    have hn2 : ¬ (σ.cnt.length ≤ 1 ∧ τ.cnt.length ≤ 1) := by omega

    (try dsimp only [List.cons_append, List.nil_append, List.append_nil])
    refine longest_call X T (fun b o e => F'.keep b o (kg b o e)) hroom rfl (mk1 _ N9) fun t3 h3 tk3 st3 => ?_
    have F3 := Fr.keeps F' st3
    have N3 := News.grown N9 st3
    have N3u := News.grown N' st3
    clear F' N'
    rw [lng_eq]
    (repeat' ((fail_if_success (with_reducible show wpAny _ _ (exec (Stmt.For _ _ _ _ _) _) _ _ _)); (fail_if_success (with_reducible show wpAny _ _ (pyIter _) _ _ _)); (fail_if_success (with_reducible show wpAny _ _ (PySem.call (Value.ref _) _ _) _ _ _)); first | (k_unfold; (try dsimp only)) | walk1 | (dsimp only; walk1) | (leave1; (try dsimp only))))
    (try dsimp only [List.cons_append, List.nil_append, List.append_nil])
    refine longest_call X T (fun b o e => F3.keep b o (kg b o e)) hroom rfl (mk2 _ N3) fun t4 h4 tk4 st4 => ?_
    have F4 := Fr.keeps F3 st4
    have N4 := News.grown N3 st4
    have N4u := News.grown N3u st4
    clear F3 N3 N3u
    rw [lng_eq]
    (repeat' ((fail_if_success (with_reducible show wpAny _ _ (exec (Stmt.For _ _ _ _ _) _) _ _ _)); (fail_if_success (with_reducible show wpAny _ _ (pyIter _) _ _ _)); (fail_if_success (with_reducible show wpAny _ _ (PySem.call (Value.ref _) _ _) _ _ _)); first | (k_unfold; (try dsimp only)) | walk1 | (dsimp only; walk1) | (leave1; (try dsimp only))))
    refine For_invV g rfl rfl ?_ (hE := PassesOwn.never)
    (repeat' ((fail_if_success (with_reducible show wpAny _ _ (exec (Stmt.For _ _ _ _ _) _) _ _ _)); (fail_if_success (with_reducible show wpAny _ _ (pyIter _) _ _ _)); (fail_if_success (with_reducible show wpAny _ _ (PySem.call (Value.ref _) _ _) _ _ _)); first | (k_unfold; (try dsimp only)) | walk1 | (dsimp only; walk1) | (leave1; (try dsimp only))))
    rename Fr _ _ _ _ => F5
    rename News _ _ _ _ => N5
    rename IsRange _ _ _ _ _ _ _ _ => hr
    have emx : (if ((lng τ : Nat) : Int) > ((lng σ : Nat) : Int) then ((lng τ : Nat) : Int) else ((lng σ : Nat) : Int)) = ((max (lng σ) (lng τ) : Nat) : Int) := by split <;> omega
    rw [emx] at hr
    refine loopRange (n := max (lng σ) (lng τ)) (J := fun k m nx => nx = M.objs w x σ ++ M2.objs w y τ ∧ lessL σ τ k = true ∧ m (Str.ofString "self") = some (.ref x) ∧ m (Str.ofString "other") = some (.ref y)) rfl hr (small_rng (by omega) (by omega) (by omega) (by omega)) (by rw [rangeSize_one]; split <;> omega) F5 N5 ⟨rfl, rfl, rfl, rfl⟩ ?_ ?_
    · rintro k t m₁ news₁ h tk I oI hk ⟨rfl, hJ, hm1, hm2⟩ F6 N6 hoff
      have ek : (2 : Int) + ((k : Nat) : Int) = ((2 + k : Nat) : Int) := by omega
      rw [ek] at F6
      have F7 := say F6 (Str.ofString "self") _ hm1
      have F8 := say F7 (Str.ofString "other") _ hm2
      clear F5 N5 F6 F7
      have N6' : News _ _ _ (M.objs w x σ ++ M2.objs w y τ) := fun q hq => N6 q (.tail _ hq)
      have N6u := N6
      unfold MK.objs at N6u
      dsimp only [List.cons_append, List.nil_append] at N6u
      (repeat' ((fail_if_success (with_reducible show wpAny _ _ (exec (Stmt.For _ _ _ _ _) _) _ _ _)); (fail_if_success (with_reducible show wpAny _ _ (pyIter _) _ _ _)); (fail_if_success (with_reducible show wpAny _ _ (PySem.call (Value.ref _) _ _) _ _ _)); first | (k_unfold; (try dsimp only)) | walk1 | (dsimp only; walk1) | (leave1; (try dsimp only))))
      (try dsimp only [List.cons_append, List.nil_append, List.append_nil])
      refine indent_call X T (fun b o e => F8.keep b o (kg b o e)) hroom rfl (mk1 _ N6') ⟨by omega, by omega⟩ t1.c t1.nt (by have := t1.b; omega) fun t9 h9 tk9 st9 => ?_
      have F9 := Fr.keeps F8 st9
      have N9' := News.grown N6' st9
      have N9u := News.grown N6u st9
      have N99 := News.grown N6 st9
      clear F8 N6' N6u N6
      (repeat' ((fail_if_success (with_reducible show wpAny _ _ (exec (Stmt.For _ _ _ _ _) _) _ _ _)); (fail_if_success (with_reducible show wpAny _ _ (pyIter _) _ _ _)); (fail_if_success (with_reducible show wpAny _ _ (PySem.call (Value.ref _) _ _) _ _ _)); first | (k_unfold; (try dsimp only)) | walk1 | (dsimp only; walk1) | (leave1; (try dsimp only))))
      (try dsimp only [List.cons_append, List.nil_append, List.append_nil])
      refine indent_call X T (fun b o e => F9.keep b o (kg b o e)) hroom rfl (mk2 _ N9') ⟨by omega, by omega⟩ t2.c t2.nt (by have := t2.b; omega) fun ta ha tka sta => ?_
      have Fa := Fr.keeps F9 sta
      have Na := News.grown N99 sta
      have Nau := News.grown N9u sta
      clear F9 N9' N9u N99
      (repeat' ((fail_if_success (with_reducible show wpAny _ _ (exec (Stmt.For _ _ _ _ _) _) _ _ _)); (fail_if_success (with_reducible show wpAny _ _ (pyIter _) _ _ _)); (fail_if_success (with_reducible show wpAny _ _ (PySem.call (Value.ref _) _ _) _ _ _)); first | (k_unfold; (try dsimp only)) | walk1 | (dsimp only; walk1) | (leave1; (try dsimp only))))
      · rename (_ ≤ _) => hle
        dsimp only
        have hf : lessB σ τ = false := by
          unfold lessB
          rw [if_neg hn1, if_neg hn2]
          exact lessL_false σ τ hk (decide_eq_false (by omega))
        rw [hf] at hQ
        exact hQ _ _ (back (hid := M.objs w x σ ++ M2.objs w y τ) (fun q h => (hqq q h).1) hback Fa Na (fun q h => .tail _ h))
      · rename (¬ (_ ≤ _)) => hle
        refine Turned.next _ Fa Na (fun p hp => hp) hoff ⟨rfl, ?_, rfl, rfl⟩
        show (lessL σ τ k && decide (lev σ (2 + k) < lev τ (2 + k))) = true
        rw [hJ, decide_eq_true (by omega)]
        rfl
    · rintro m₁ news₁ h tk ⟨rfl, hJ, hm1, hm2⟩ F6 N6
      dsimp only
      (repeat' ((fail_if_success (with_reducible show wpAny _ _ (exec (Stmt.For _ _ _ _ _) _) _ _ _)); (fail_if_success (with_reducible show wpAny _ _ (pyIter _) _ _ _)); (fail_if_success (with_reducible show wpAny _ _ (PySem.call (Value.ref _) _ _) _ _ _)); first | (k_unfold; (try dsimp only)) | walk1 | (dsimp only; walk1) | (leave1; (try dsimp only))))
      dsimp only
      have hf : lessB σ τ = true := by
        unfold lessB
        rw [if_neg hn1, if_neg hn2]
        exact hJ
      rw [hf] at hQ
      exact hQ _ _ (back (hid := M.objs w x σ ++ M2.objs w y τ) (fun q h => (hqq q h).1) hback F6 N6 (fun q h => h))

  · rename (¬ (((σ.cnt.length : Nat) : Int) ≤ _)) => hle2
    rename (¬ (((τ.n : Nat) : Int) ≤ _)) => hle
    have hn1 : ¬ τ.n ≤ σ.n := by omega
    have hn2 : ¬ (σ.cnt.length ≤ 1 ∧ τ.cnt.length ≤ 1) := by omega

    (try dsimp only [List.cons_append, List.nil_append, List.append_nil])
    refine longest_call X T (fun b o e => F'.keep b o (kg b o e)) hroom rfl (mk1 _ N9) fun t3 h3 tk3 st3 => ?_
    have F3 := Fr.keeps F' st3
    have N3 := News.grown N9 st3
    have N3u := News.grown N' st3
    clear F' N'
    rw [lng_eq]
    (repeat' ((fail_if_success (with_reducible show wpAny _ _ (exec (Stmt.For _ _ _ _ _) _) _ _ _)); (fail_if_success (with_reducible show wpAny _ _ (pyIter _) _ _ _)); (fail_if_success (with_reducible show wpAny _ _ (PySem.call (Value.ref _) _ _) _ _ _)); first | (k_unfold; (try dsimp only)) | walk1 | (dsimp only; walk1) | (leave1; (try dsimp only))))
    (try dsimp only [List.cons_append, List.nil_append, List.append_nil])
    refine longest_call X T (fun b o e => F3.keep b o (kg b o e)) hroom rfl (mk2 _ N3) fun t4 h4 tk4 st4 => ?_
    have F4 := Fr.keeps F3 st4
    have N4 := News.grown N3 st4
    have N4u := News.grown N3u st4
    clear F3 N3 N3u
    rw [lng_eq]
    (repeat' ((fail_if_success (with_reducible show wpAny _ _ (exec (Stmt.For _ _ _ _ _) _) _ _ _)); (fail_if_success (with_reducible show wpAny _ _ (pyIter _) _ _ _)); (fail_if_success (with_reducible show wpAny _ _ (PySem.call (Value.ref _) _ _) _ _ _)); first | (k_unfold; (try dsimp only)) | walk1 | (dsimp only; walk1) | (leave1; (try dsimp only))))
    refine For_invV g rfl rfl ?_ (hE := PassesOwn.never)
    (repeat' ((fail_if_success (with_reducible show wpAny _ _ (exec (Stmt.For _ _ _ _ _) _) _ _ _)); (fail_if_success (with_reducible show wpAny _ _ (pyIter _) _ _ _)); (fail_if_success (with_reducible show wpAny _ _ (PySem.call (Value.ref _) _ _) _ _ _)); first | (k_unfold; (try dsimp only)) | walk1 | (dsimp only; walk1) | (leave1; (try dsimp only))))
    rename Fr _ _ _ _ => F5
    rename News _ _ _ _ => N5
    rename IsRange _ _ _ _ _ _ _ _ => hr
    have emx : (if ((lng τ : Nat) : Int) > ((lng σ : Nat) : Int) then ((lng τ : Nat) : Int) else ((lng σ : Nat) : Int)) = ((max (lng σ) (lng τ) : Nat) : Int) := by split <;> omega
    rw [emx] at hr
    refine loopRange (n := max (lng σ) (lng τ)) (J := fun k m nx => nx = M.objs w x σ ++ M2.objs w y τ ∧ lessL σ τ k = true ∧ m (Str.ofString "self") = some (.ref x) ∧ m (Str.ofString "other") = some (.ref y)) rfl hr (small_rng (by omega) (by omega) (by omega) (by omega)) (by rw [rangeSize_one]; split <;> omega) F5 N5 ⟨rfl, rfl, rfl, rfl⟩ ?_ ?_
    · rintro k t m₁ news₁ h tk I oI hk ⟨rfl, hJ, hm1, hm2⟩ F6 N6 hoff
      have ek : (2 : Int) + ((k : Nat) : Int) = ((2 + k : Nat) : Int) := by omega
      rw [ek] at F6
      have F7 := say F6 (Str.ofString "self") _ hm1
      have F8 := say F7 (Str.ofString "other") _ hm2
      clear F5 N5 F6 F7
      have N6' : News _ _ _ (M.objs w x σ ++ M2.objs w y τ) := fun q hq => N6 q (.tail _ hq)
      have N6u := N6
      unfold MK.objs at N6u
      dsimp only [List.cons_append, List.nil_append] at N6u
      (repeat' ((fail_if_success (with_reducible show wpAny _ _ (exec (Stmt.For _ _ _ _ _) _) _ _ _)); (fail_if_success (with_reducible show wpAny _ _ (pyIter _) _ _ _)); (fail_if_success (with_reducible show wpAny _ _ (PySem.call (Value.ref _) _ _) _ _ _)); first | (k_unfold; (try dsimp only)) | walk1 | (dsimp only; walk1) | (leave1; (try dsimp only))))
      (try dsimp only [List.cons_append, List.nil_append, List.append_nil])
      refine indent_call X T (fun b o e => F8.keep b o (kg b o e)) hroom rfl (mk1 _ N6') ⟨by omega, by omega⟩ t1.c t1.nt (by have := t1.b; omega) fun t9 h9 tk9 st9 => ?_
      have F9 := Fr.keeps F8 st9
      have N9' := News.grown N6' st9
      have N9u := News.grown N6u st9
      have N99 := News.grown N6 st9
      clear F8 N6' N6u N6
      (repeat' ((fail_if_success (with_reducible show wpAny _ _ (exec (Stmt.For _ _ _ _ _) _) _ _ _)); (fail_if_success (with_reducible show wpAny _ _ (pyIter _) _ _ _)); (fail_if_success (with_reducible show wpAny _ _ (PySem.call (Value.ref _) _ _) _ _ _)); first | (k_unfold; (try dsimp only)) | walk1 | (dsimp only; walk1) | (leave1; (try dsimp only))))
      (try dsimp only [List.cons_append, List.nil_append, List.append_nil])
      refine indent_call X T (fun b o e => F9.keep b o (kg b o e)) hroom rfl (mk2 _ N9') ⟨by omega, by omega⟩ t2.c t2.nt (by have := t2.b; omega) fun ta ha tka sta => ?_
      have Fa := Fr.keeps F9 sta
      have Na := News.grown N99 sta
      have Nau := News.grown N9u sta
      clear F9 N9' N9u N99
      (repeat' ((fail_if_success (with_reducible show wpAny _ _ (exec (Stmt.For _ _ _ _ _) _) _ _ _)); (fail_if_success (with_reducible show wpAny _ _ (pyIter _) _ _ _)); (fail_if_success (with_reducible show wpAny _ _ (PySem.call (Value.ref _) _ _) _ _ _)); first | (k_unfold; (try dsimp only)) | walk1 | (dsimp only; walk1) | (leave1; (try dsimp only))))
      · rename (_ ≤ _) => hle
        dsimp only
        have hf : lessB σ τ = false := by
          unfold lessB
          rw [if_neg hn1, if_neg hn2]
          exact lessL_false σ τ hk (decide_eq_false (by omega))
        rw [hf] at hQ
        exact hQ _ _ (back (hid := M.objs w x σ ++ M2.objs w y τ) (fun q h => (hqq q h).1) hback Fa Na (fun q h => .tail _ h))
      · rename (¬ (_ ≤ _)) => hle
        refine Turned.next _ Fa Na (fun p hp => hp) hoff ⟨rfl, ?_, rfl, rfl⟩
        show (lessL σ τ k && decide (lev σ (2 + k) < lev τ (2 + k))) = true
        rw [hJ, decide_eq_true (by omega)]
        rfl
    · rintro m₁ news₁ h tk ⟨rfl, hJ, hm1, hm2⟩ F6 N6
      dsimp only
      (repeat' ((fail_if_success (with_reducible show wpAny _ _ (exec (Stmt.For _ _ _ _ _) _) _ _ _)); (fail_if_success (with_reducible show wpAny _ _ (pyIter _) _ _ _)); (fail_if_success (with_reducible show wpAny _ _ (PySem.call (Value.ref _) _ _) _ _ _)); first | (k_unfold; (try dsimp only)) | walk1 | (dsimp only; walk1) | (leave1; (try dsimp only))))
      dsimp only
      have hf : lessB σ τ = true := by
        unfold lessB
        rw [if_neg hn1, if_neg hn2]
        exact hJ
      rw [hf] at hQ
      exact hQ _ _ (back (hid := M.objs w x σ ++ M2.objs w y τ) (fun q h => (hqq q h).1) hback F6 N6 (fun q h => h))

end MjL
section MjRow

def rowOf (x : Int) : List Nat :=
  let y := (x % 54).toNat
  List.replicate (y % 3) 32 ++ List.replicate (y / 3 % 3) 9 ++ List.replicate (y / 9 % 3) 32 ++ List.replicate (y / 27) 9 ++ [97]
def rowsOf (ns : List Int) : List (List Nat) := [32, 32, 32, 9, 32, 32, 97] :: [32, 9, 32, 9, 97] :: (ns.take 5).map rowOf
theorem rows_call {w : World} {mean : ExcName → Option Value} {mg mb : Str → Option Value} {A : Around} {s : Shared} {hb : Heap} {Q E : Value → Shared → Prop} {l : Addr} {vs : List Value} {ns : List Int}
    (X : (hd.heap_39 w.params).In hb) (T : Top hd.view_39 (looseW hd.view_39 [Str.ofString "Whitespace"]) mean mg mb hb) (kb : hb.StaysIn s.heap) (hroom : A.depth < recursionLimit) (hh : A.handled = none) (hlst : hb.IsList l vs.toArray) (hi : IntsAre vs ns) (hl : ns.length ≤ 63)
    (hQ : ∀ R ws k h' tk, s.heap.StaysIn h' → StrsAre ws ((rowsOf ns).map txt) → h'.get? R = some (W.listOf ws.toArray k) → s.heap.get? R = none → Q (.ref R) { s with heap := h', toks := tk }) :
    wpAny (model PySem.Challenge.rw_mj0147_01.row.prog w) A (call (.ref 101) [.ref l]) Q E s := by
  w_top off
  obtain ⟨hnd, dp, frs, gds, uns⟩ := A
  dsimp only at hh hroom
  subst hh
  revert X; k_fill; intro X
  k_dflt (refine' enterC [] [(Str.ofString "script", .ref l)] X T kb (List.forall_mem_nil _) ?k6 ?k7 hroom ?k9 ?kB ?_ ?c2 ?c3 ?c4 ?c5; (case k6 => k_is); (case k7 => k_is); (case k9 => exact BindsTo.of_eq rfl); (case c5 => decide); (case kB => exact locs rfl); (case c2 => exact rfl); (case c3 => exact rfl); (case c4 => exact rfl); k_whole)
  intro g L' h' tk' F' N' Xg Tg kg hback
  (try dsimp only)
  (try k_fold)
  have hlg : g.IsList l vs.toArray := stays_list kg hlst
  (repeat' ((fail_if_success (with_reducible show wpAny _ _ (exec (Stmt.For _ _ _ _ _) _) _ _ _)); (fail_if_success (with_reducible show wpAny _ _ (pyIter _) _ _ _)); (fail_if_success (with_reducible show wpAny _ _ (PySem.call (Value.ref _) _ _) _ _ _)); first | (k_unfold; (try dsimp only)) | walk1 | (dsimp only; walk1) | (leave1; (try dsimp only))))
  refine For_invV g rfl rfl ?_ (hE := PassesOwn.never)
  (repeat' ((fail_if_success (with_reducible show wpAny _ _ (exec (Stmt.For _ _ _ _ _) _) _ _ _)); (fail_if_success (with_reducible show wpAny _ _ (pyIter _) _ _ _)); (fail_if_success (with_reducible show wpAny _ _ (PySem.call (Value.ref _) _ _) _ _ _)); first | (k_unfold; (try dsimp only)) | walk1 | (dsimp only; walk1) | (leave1; (try dsimp only))))
  rename Fr _ _ _ _ => F1
  rename News _ _ _ _ => N1
  rename IntsAre _ (List.take 5 ns) => hI5
  rename List Value => ws5
  rename (@LT.lt Nat _ _ _) => hlt
  rename (_ = min 5 _) => hmin
  obtain ⟨fs, hfs⟩ : ∃ fs, fs = List.take 5 ns := ⟨_, rfl⟩
  rw [← hfs] at hI5 hmin
  have hfl : fs.length ≤ 5 := by omega
  refine loopLst (vs := ws5) (oax := W.listOf ws5.toArray 0) (J := fun i m nx => ∃ us k, StrsAre us (([32, 32, 32, 9, 32, 32, 97] :: [32, 9, 32, 9, 97] :: (fs.take i).map rowOf).map txt) ∧ nx = [(_, _), (_, W.listOf us.toArray k)] ∧ m (Str.ofString "rows") = some (.ref _)) rfl rfl rfl (fun i m nx h => ?_) F1 N1 ⟨_, _, StrsAre.cons _ _ (StrsAre.cons _ _ StrsAre.nil), rfl, rfl⟩ ?_ ?_
  · obtain ⟨us, k, _, rfl, _⟩ := h
    exact .head _
  · rintro i v m₁ news₁ h tk I oI hv ⟨us, k, hus, rfl, hm1⟩ F3 N3 hoff
    obtain ⟨n, t, rfl, hn⟩ := IntsAre.at hI5 i v hv
    have hif : i < fs.length := (List.getElem?_eq_some_iff.mp hn).1
    have F4 := say F3 (Str.ofString "rows") _ hm1
    clear F3 F1 N1
    have hI1 : @Ne Nat _ I := hoff _ (.head _)
    have hI2 : @Ne Nat _ I := hoff _ (.tail _ (.head _))
    have hul : us.length ≤ 8 := by
      have := hus.length
      simp only [List.length_map, List.length_cons, List.length_take] at this
      omega
    (repeat' ((fail_if_success (with_reducible show wpAny _ _ (exec (Stmt.For _ _ _ _ _) _) _ _ _)); (fail_if_success (with_reducible show wpAny _ _ (pyIter _) _ _ _)); (fail_if_success (with_reducible show wpAny _ _ (PySem.call (Value.ref _) _ _) _ _ _)); first | (k_unfold; (try dsimp only)) | walk1 | (dsimp only; walk1) | (leave1; (try dsimp only))))
    rename Fr _ _ _ _ => F9
    rename News _ _ _ _ => N9
    rename (_ = (n % 54).toNat) => hy
    simp only [Int.toNat_natCast, List.push_toArray] at N9
    refine Turned.next [_, _] F9 N9 (fun p hp => hp) (List.forall_mem_cons.mpr ⟨hI1, List.forall_mem_cons.mpr ⟨hI2, List.forall_mem_nil _⟩⟩) ⟨_, _, ?_, rfl, rfl⟩
    have e : fs.take (i + 1) = fs.take i ++ [n] := by rw [List.take_add_one, hn]; rfl
    rw [e, List.map_append, ← List.cons_append, ← List.cons_append, List.map_append]
    refine hus.append' ?_
    subst hy
    exact StrsAre.cons _ _ StrsAre.nil
  · rintro m₁ news₁ h tk ⟨us, k, hus, rfl, hm1⟩ F3 N3
    have F4 := say F3 (Str.ofString "rows") _ hm1
    clear F3 F1 N1
    dsimp only
    (repeat' ((fail_if_success (with_reducible show wpAny _ _ (exec (Stmt.For _ _ _ _ _) _) _ _ _)); (fail_if_success (with_reducible show wpAny _ _ (pyIter _) _ _ _)); (fail_if_success (with_reducible show wpAny _ _ (PySem.call (Value.ref _) _ _) _ _ _)); first | (k_unfold; (try dsimp only)) | walk1 | (dsimp only; walk1) | (leave1; (try dsimp only))))
    dsimp only
    have e := hI5.length
    rw [e, List.take_length, hfs] at hus
    refine hQ _ _ _ _ _ (back (hid := []) (List.forall_mem_nil _) hback F4 N3 (List.forall_mem_nil _)) hus (N3 _ (.tail _ (.head _))).1 ?_
    cases q : s.heap.get? _ with
    | none => rfl
    | some o => have := (N3 _ (.tail _ (.head _))).2.2; rw [hback g (fun _ _ e => e) _ _ q (by simp)] at this; cases this
  w_top on
end MjRow
section MjPlain

def splA (p : List Nat) : Nat → List Nat → List Nat → List (List Nat)
  | 0, acc, _ => [acc]
  | _ + 1, acc, [] => [acc]
  | f + 1, acc, c :: r => if (c :: r).take p.length == p then acc :: splA p f [] ((c :: r).drop p.length) else splA p f (acc ++ [c]) r
def grp (p z : List Nat) : Nat → List Nat → List Nat
  | 0, _ => []
  | _ + 1, [] => []
  | f + 1, c :: r => if (c :: r).take p.length == p then z ++ grp p z f ((c :: r).drop p.length) else c :: grp p z f r
def interL (z : List Nat) : List (List Nat) → List Nat
  | [] => []
  | [x] => x
  | x :: y :: r => x ++ z ++ interL z (y :: r)
theorem splA_ne (p : List Nat) : ∀ f acc l, ∃ a r, splA p f acc l = a :: r
  | 0, acc, _ => ⟨_, _, rfl⟩
  | _ + 1, acc, [] => ⟨_, _, rfl⟩
  | f + 1, acc, c :: r => by
    unfold splA
    split
    · exact ⟨_, _, rfl⟩
    · exact splA_ne p f _ _
theorem inter_splA (p z : List Nat) : ∀ f acc l, interL z (splA p f acc l) = acc ++ grp p z f l
  | 0, acc, _ => by simp [splA, grp, interL]
  | _ + 1, acc, [] => by simp [splA, grp, interL]
  | f + 1, acc, c :: r => by
    unfold splA grp
    split
    · obtain ⟨a, q, e⟩ := splA_ne p f [] ((c :: r).drop p.length)
      have ih := inter_splA p z f [] ((c :: r).drop p.length)
      rw [e] at ih ⊢
      show acc ++ z ++ interL z (a :: q) = _
      rw [ih]
      simp
    · rw [inter_splA p z f]
      simp
theorem join_inter (z : List Nat) : ∀ ls : List (List Nat), Str.join (txt z) (ls.map txt) = txt (interL z ls)
  | [] => rfl
  | [x] => rfl
  | x :: y :: r => by
    have ih := join_inter z (y :: r)
    show txt x ++ txt z ++ Str.join (txt z) ((y :: r).map txt) = txt (x ++ z ++ interL z (y :: r))
    rw [ih, txt_app, txt_app]
open StrLaws in
theorem spl_key (x y : Str) (hw : 1 ≤ y.length) : ∀ (f q a : Nat) (cuts : List Nat) (fin : Nat), ChainG x y x.length a cuts fin → (∀ k, fin ≤ k → ¬ At x y x.length k) → a ≤ q → (∀ k, a ≤ k → k < q → ¬ At x y x.length k) → q ≤ x.length → x.length - q < f →
    (∀ c r, cuts = c :: r → q ≤ c) →
    splA y.cps.toList f ((x.cps.toList.drop a).take (q - a)) (x.cps.toList.drop q) = (partsFrom x y.length a cuts).map (·.cps.toList)
  | 0, q, a, cuts, fin, _, _, _, _, _, h, _ => by omega
  | f + 1, q, a, cuts, fin, hG, hn, haq, hno, hq, hf, hc => by
    have hlen : x.cps.toList.length = x.length := by simp [Str.length]
    have hyl : y.cps.toList.length = y.length := by simp [Str.length]
    have hat : ∀ k, At x y x.length k ↔ (x.cps.toList.drop k).take y.length = y.cps.toList := by
      intro k
      constructor
      · intro h
        have := h.2
        rw [subAt_eq] at this
        exact eq_of_beq this
      · intro h
        refine ⟨?_, by rw [subAt_eq]; exact beq_iff_eq.mpr h⟩
        have h2 := congrArg List.length h
        rw [List.length_take, List.length_drop, hlen, hyl] at h2
        omega
    rcases Nat.lt_or_ge q x.length with hlt | hge
    · obtain ⟨c, r, e⟩ : ∃ c r, x.cps.toList.drop q = c :: r := by
        rw [List.drop_eq_getElem_cons (by omega)]; exact ⟨_, _, rfl⟩
      have e1 : x.cps.toList.drop (q + 1) = r := by rw [← List.drop_drop, e]; rfl
      have ec : x.cps.toList[q]? = some c := by
        have := congrArg (·[0]?) e
        simpa using this
      rw [e]
      unfold splA
      rw [hyl, ← e]
      by_cases hA : At x y x.length q
      · have hA' := (hat q).mp hA
        rw [hA']
        simp only [beq_self_eq_true, if_true]
        cases cuts with
        | nil =>
          have : fin = a := hG
          exact absurd hA (hn q (by omega))
        | cons d cs =>
          obtain ⟨h1, h2, h3, h4⟩ := hG
          have hqd := hc d cs rfl
          have hdq : d = q := by
            rcases Nat.lt_or_ge q d with h | h
            · exact absurd hA (h3 q haq h)
            · omega
          subst hdq
          have hle := h2.1
          have ih := spl_key x y hw f (d + y.length) (d + y.length) cs fin h4 hn (Nat.le_refl _) (fun k h5 h6 => by omega) hle (by omega) (fun c' r' e' => by subst e'; exact h4.1)
          rw [Nat.sub_self, List.take_zero] at ih
          rw [List.drop_drop, ih]
          show _ = (Builtin.Str.strSub x a d :: partsFrom x y.length (d + y.length) cs).map (·.cps.toList)
          rw [List.map_cons, strSub_toList]
      · have hA' : ((x.cps.toList.drop q).take y.length == y.cps.toList) = false := by
          rw [beq_eq_false_iff_ne]
          exact fun h => hA ((hat q).mpr h)
        rw [hA']
        simp only [Bool.false_eq_true, if_false]
        have ih := spl_key x y hw f (q + 1) a cuts fin hG hn (by omega) (fun k h5 h6 => by
          rcases Nat.lt_or_ge k q with h | h
          · exact hno k h5 h
          · have : k = q := by omega
            subst this; exact hA) (by omega) (by omega) (fun c' r' e' => by
          have h7 := hc c' r' e'
          subst e'
          have h8 := hG.2.1
          rcases Nat.lt_or_ge q c' with h | h
          · omega
          · have : c' = q := by omega
            subst this; exact absurd h8 hA)
        rw [e1] at ih
        rw [← ih]
        congr 1
        rw [show q + 1 - a = (q - a) + 1 by omega, List.take_add_one, List.getElem?_drop, show a + (q - a) = q by omega, ec]
        rfl
    · have hqe : q = x.length := by omega
      have e : x.cps.toList.drop q = [] := List.drop_eq_nil_of_le (by omega)
      rw [e]
      unfold splA
      cases cuts with
      | nil =>
        show _ = [Builtin.Str.strSub x a x.length].map (·.cps.toList)
        rw [List.map_cons, strSub_toList, hqe]; rfl
      | cons d cs =>
        have h7 := hc d cs rfl
        have h8 := hG.2.1.1
        omega
def small (l : List Nat) : Bool := l.all (· < 256)
theorem kind_small {l : List Nat} (h : small l = true) : Builtin.Str.strKind (txt l) = 1 := by
  unfold Builtin.Str.strKind
  rw [if_pos]
  unfold small at h
  simpa [txt] using h
theorem split_spl (t p : List Nat) (hp : 1 ≤ p.length) (hs : small p = true) : (Txt.split (txt t) (txt p)).map (·.cps.toList) = splA p (t.length + 1) [] t := by
  have key : ∀ cuts, (∃ f, StrLaws.ChainG (txt t) (txt p) (txt t).length 0 cuts f ∧ ∀ k, f ≤ k → ¬ StrLaws.At (txt t) (txt p) (txt t).length k) → splA p (t.length + 1) [] t = (StrLaws.partsFrom (txt t) (txt p).length 0 cuts).map (·.cps.toList) := by
    rintro cuts ⟨f, hG, hn⟩
    have := spl_key (txt t) (txt p) (by rw [txt_len]; exact hp) (t.length + 1) 0 0 cuts f hG hn (Nat.le_refl _) (fun k h1 h2 => by omega) (Nat.zero_le _) (by rw [txt_len]; omega) (fun c r e => Nat.zero_le _)
    rw [txt_cps, txt_cps] at this
    simpa using this
  have hO := StrLaws.occ_tight (txt t) (txt p) (by rw [txt_len]; exact hp)
  have hk : ¬ Builtin.Str.strKind (txt t) < Builtin.Str.strKind (txt p) := by
    rw [kind_small hs]
    unfold Builtin.Str.strKind
    split
    · omega
    · split <;> omega
  unfold Txt.split
  by_cases h1 : (txt t).length < (txt p).length
  · rw [decide_eq_true h1, Bool.true_or, if_pos rfl]
    have hno : ∀ k, ¬ StrLaws.At (txt t) (txt p) (txt t).length k := fun k h => by have := h.1; omega
    have := key [] ⟨0, rfl, fun k _ => hno k⟩
    rw [this]
    show [txt t].map _ = [Builtin.Str.strSub (txt t) 0 (txt t).length].map _
    rw [StrLaws.sub_whole]
  · rw [decide_eq_false h1, decide_eq_false hk, Bool.or_false, if_neg Bool.false_ne_true]
    split
    · rename_i h2
      have e := List.isEmpty_iff.mp h2
      rw [e] at hO
      have := key [] hO
      rw [this]
      show [txt t].map _ = [Builtin.Str.strSub (txt t) 0 (txt t).length].map _
      rw [StrLaws.sub_whole]
    · rw [StrLaws.partsBetween_eq, key _ hO]
theorem split_txt (t p : List Nat) (hp : 1 ≤ p.length) (hs : small p = true) : Txt.split (txt t) (txt p) = (splA p (t.length + 1) [] t).map txt := by
  rw [← split_spl t p hp hs, List.map_map]
  have : (txt ∘ fun x : Str => x.cps.toList) = _root_.id := by funext x; exact (txt_of x).symm
  rw [this, List.map_id]
theorem rep_grp (p z t : List Nat) (hp : 1 ≤ p.length) (hs : small p = true) : rep p z t = grp p z (t.length + 1) t := by
  unfold rep
  rw [split_txt t p hp hs, join_inter, txt_cps, inter_splA]
  rfl
theorem grp_fuel (p z : List Nat) (hp : 1 ≤ p.length) : ∀ (n f g : Nat) (l : List Nat), l.length ≤ n → l.length < f → l.length < g → grp p z f l = grp p z g l
  | n, 0, _, l, _, h, _ => by omega
  | n, _, 0, l, _, _, h => by omega
  | n, f + 1, g + 1, [], _, _, _ => rfl
  | 0, f + 1, g + 1, c :: r, h, _, _ => by simp at h
  | n + 1, f + 1, g + 1, c :: r, hn, hf, hg => by
    unfold grp
    simp only [List.length_cons] at hn hf hg
    split
    · rw [grp_fuel p z hp n f g]
      · rw [List.length_drop]; simp only [List.length_cons]; omega
      · rw [List.length_drop]; simp only [List.length_cons]; omega
      · rw [List.length_drop]; simp only [List.length_cons]; omega
    · rw [grp_fuel p z hp n f g] <;> omega
def rw1 (p z l : List Nat) : List Nat := grp p z (l.length + 1) l
theorem take_nl {p : List Nat} (hp : 1 ≤ p.length) (h10 : 10 ∉ p) (a b : List Nat) : ((a ++ 10 :: b).take p.length == p) = (a.take p.length == p) := by
  rcases Nat.lt_or_ge a.length p.length with h | h
  · have e1 : ((a ++ 10 :: b).take p.length == p) = false := by
      rw [beq_eq_false_iff_ne]
      intro e
      apply h10
      rw [← e]
      have : (a ++ 10 :: b).take p.length = a ++ (10 :: b).take (p.length - a.length) := by rw [List.take_append, List.take_of_length_le (by omega)]
      rw [this, show p.length - a.length = (p.length - a.length - 1) + 1 by omega, List.take_succ_cons]
      simp
    have e2 : (a.take p.length == p) = false := by
      rw [beq_eq_false_iff_ne]
      intro e
      have := congrArg List.length e
      rw [List.length_take] at this
      omega
    rw [e1, e2]
  · rw [List.take_append_of_le_length h]
theorem grp_nl {p z : List Nat} (hp : 1 ≤ p.length) (h10 : 10 ∉ p) (b : List Nat) : ∀ (n : Nat) (a : List Nat), a.length ≤ n → rw1 p z (a ++ 10 :: b) = rw1 p z a ++ 10 :: rw1 p z b
  | n, [], _ => by
    show grp p z ((10 :: b).length + 1) (10 :: b) = grp p z 1 [] ++ 10 :: rw1 p z b
    have h := take_nl hp h10 [] b
    have h2 : (([] : List Nat).take p.length == p) = false := by
      rw [beq_eq_false_iff_ne]; intro e; have := congrArg List.length e; simp at this; omega
    rw [List.nil_append, h2] at h
    unfold grp
    rw [h]
    simp only [Bool.false_eq_true, if_false]
    rfl
  | 0, c :: r, h => by simp at h
  | n + 1, c :: r, hn => by
    simp only [List.length_cons] at hn
    have h := take_nl hp h10 (c :: r) b
    show grp p z ((c :: (r ++ 10 :: b)).length + 1) (c :: (r ++ 10 :: b)) = grp p z ((c :: r).length + 1) (c :: r) ++ 10 :: rw1 p z b
    unfold grp
    rw [← List.cons_append, h]
    split
    · rename_i hm
      have hl : p.length ≤ (c :: r).length := by
        have := congrArg List.length (eq_of_beq hm)
        rw [List.length_take] at this; omega
      have ih := grp_nl (z := z) hp h10 b n ((c :: r).drop p.length) (by rw [List.length_drop]; simp only [List.length_cons]; omega)
      rw [List.drop_append_of_le_length hl, List.append_assoc]
      congr 1
      have e1 : grp p z (c :: r ++ 10 :: b).length ((c :: r).drop p.length ++ 10 :: b) = rw1 p z ((c :: r).drop p.length ++ 10 :: b) := grp_fuel p z hp _ _ _ _ (Nat.le_refl _) (by simp only [List.length_append, List.length_drop, List.length_cons]; omega) (by omega)
      have e2 : grp p z (c :: r).length ((c :: r).drop p.length) = rw1 p z ((c :: r).drop p.length) := grp_fuel p z hp _ _ _ _ (Nat.le_refl _) (by simp only [List.length_drop, List.length_cons]; omega) (by omega)
      rw [e1, e2, ih]
    · have ih := grp_nl (z := z) hp h10 b n r (by omega)
      have e1 : grp p z (c :: r ++ 10 :: b).length (r ++ 10 :: b) = rw1 p z (r ++ 10 :: b) := grp_fuel p z hp _ _ _ _ (Nat.le_refl _) (by simp only [List.length_cons, List.length_append]; omega) (by omega)
      have e2 : grp p z (c :: r).length r = rw1 p z r := grp_fuel p z hp _ _ _ _ (Nat.le_refl _) (by simp only [List.length_cons]; omega) (by omega)
      rw [e2]
      rw [e1, ih]
      rfl
theorem rw_join {p z : List Nat} (hp : 1 ≤ p.length) (h10 : 10 ∉ p) : ∀ rows : List (List Nat), rw1 p z (interL [10] rows) = interL [10] (rows.map (rw1 p z))
  | [] => rfl
  | [x] => rfl
  | x :: y :: r => by
    have ih := rw_join (z := z) hp h10 (y :: r)
    show rw1 p z (x ++ [10] ++ interL [10] (y :: r)) = rw1 p z x ++ [10] ++ interL [10] ((y :: r).map (rw1 p z))
    rw [← ih, List.append_assoc, List.append_assoc]
    exact grp_nl hp h10 _ x.length x (Nat.le_refl _)
theorem splA_nl : ∀ (n f : Nat) (acc a b : List Nat), 10 ∉ a → a.length ≤ n → (a ++ 10 :: b).length < f → splA [10] f acc (a ++ 10 :: b) = (acc ++ a) :: splA [10] (b.length + 1) [] b
  | n, 0, acc, a, b, _, _, h => by omega
  | n, f + 1, acc, [], b, _, _, h => by
    have e : splA [10] f [] b = splA [10] (b.length + 1) [] b := splA_fuel _ _ _ _ (by simp at h; omega) (by omega)
    show (if ((10 :: b).take 1 == [10]) then acc :: splA [10] f [] ((10 :: b).drop 1) else splA [10] f (acc ++ [10]) b) = _
    simp [e]
  | 0, f + 1, acc, c :: r, b, _, h, _ => by simp at h
  | n + 1, f + 1, acc, c :: r, b, ha, hn, hf => by
    have hc : ¬ c = 10 := fun e => ha (by rw [e]; exact .head _)
    have hr : 10 ∉ r := fun e => ha (.tail _ e)
    have ih := splA_nl n f (acc ++ [c]) r b hr (by simp only [List.length_cons] at hn; omega) (by simp only [List.length_append, List.length_cons] at hf ⊢; omega)
    show (if ((c :: (r ++ 10 :: b)).take 1 == [10]) then acc :: splA [10] f [] ((c :: (r ++ 10 :: b)).drop 1) else splA [10] f (acc ++ [c]) (r ++ 10 :: b)) = _
    have e : ((c :: (r ++ 10 :: b)).take 1 == [10]) = false := by simp [hc]
    rw [e]
    simp only [Bool.false_eq_true, if_false]
    rw [ih]
    simp
where
  splA_fuel (f g : Nat) (acc l : List Nat) (h1 : l.length < f) (h2 : l.length < g) : splA [10] f acc l = splA [10] g acc l := by
    induction l generalizing f g acc with
    | nil =>
      cases f with
      | zero => omega
      | succ f => cases g with
        | zero => omega
        | succ g => rfl
    | cons c r ih =>
      cases f with
      | zero => omega
      | succ f => cases g with
        | zero => omega
        | succ g =>
          simp only [List.length_cons] at h1 h2
          unfold splA
          split
          · congr 1
            exact ih f g [] (by omega) (by omega)
          · exact ih f g _ (by omega) (by omega)
theorem splA_free (f : Nat) (acc a : List Nat) (h : 10 ∉ a) (hf : a.length < f) : splA [10] f acc a = [acc ++ a] := by
  induction a generalizing f acc with
  | nil =>
    cases f with
    | zero => omega
    | succ f => simp [splA]
  | cons c r ih =>
    cases f with
    | zero => omega
    | succ f =>
      have hc : ¬ c = 10 := fun e => h (by rw [e]; exact .head _)
      have hr : 10 ∉ r := fun e => h (.tail _ e)
      unfold splA
      have e : ((c :: r).take ([10] : List Nat).length == [10]) = false := by simp [hc]
      rw [e]
      simp only [Bool.false_eq_true, if_false]
      rw [ih f (acc ++ [c]) hr (by simp only [List.length_cons] at hf; omega)]
      simp
theorem spl_join : ∀ rows : List (List Nat), rows ≠ [] → (∀ r ∈ rows, 10 ∉ r) → splA [10] ((interL [10] rows).length + 1) [] (interL [10] rows) = rows
  | [], h, _ => absurd rfl h
  | [x], _, h => by
    show splA [10] (x.length + 1) [] x = [x]
    rw [splA_free _ _ _ (h x (.head _)) (by omega)]; rfl
  | x :: y :: r, _, h => by
    have ih := spl_join (y :: r) (by simp) fun r' hr => h r' (.tail _ hr)
    show splA [10] ((x ++ [10] ++ interL [10] (y :: r)).length + 1) [] (x ++ [10] ++ interL [10] (y :: r)) = _
    rw [List.append_assoc]
    show splA [10] ((x ++ 10 :: interL [10] (y :: r)).length + 1) [] (x ++ 10 :: interL [10] (y :: r)) = _
    rw [splA_nl x.length _ [] x _ (h x (.head _)) (Nat.le_refl _) (by omega), ih]
    rfl
end MjPlain
section MjPlain2

def rowN (y : Nat) : List Nat := List.replicate (y % 3) 32 ++ List.replicate (y / 3 % 3) 9 ++ List.replicate (y / 9 % 3) 32 ++ List.replicate (y / 27) 9 ++ [97]
def all56 : List (List Nat) := [32, 32, 32, 9, 32, 32, 97] :: [32, 9, 32, 9, 97] :: (List.range 54).map rowN
def rwAll (t : List Nat) : List (List Nat × List Nat) → List Nat
  | [] => t
  | p :: r => rwAll (rw1 p.1 p.2 t) r
def rwFit (t : List Nat) : List (List Nat × List Nat) → Bool
  | [] => true
  | p :: r => decide (t.length ≤ 100) && rwFit (rw1 p.1 p.2 t) r
def lvl (n : Nat) (r : List Nat) : Nat := (wrt n r).length - 1
def backR (n : Nat) (r : List Nat) : List Nat := List.replicate (lvl n r / n) 9 ++ List.replicate (lvl n r % n) 32 ++ [97]
def halfR (n : Nat) (r : List Nat) : List Nat := List.replicate ((wrt n r).length / 2) 32 ++ [97]
def wsEq (a b : WS) : Bool := decide (a.cnt = b.cnt) && decide (a.b = b.b) && decide (a.n = b.n) && decide (a.nt = b.nt)
theorem wsEq_iff {a b : WS} (h : wsEq a b = true) : a = b := by
  unfold wsEq at h
  simp only [Bool.and_eq_true, decide_eq_true_eq] at h
  cases a; cases b
  simp only [WS.mk.injEq]
  exact ⟨h.1.1.1, h.1.1.2, h.1.2, h.2⟩
def okN (n : Nat) (r : List Nat) : Bool :=
  decide (rwAll r (putPs n) = wrt n r) && rwFit r (putPs n) && decide (1 ≤ (wrt n r).length) && decide ((wrt n r).length ≤ 60) && !(wrt n r).contains 10 &&
  decide (rw1 [32, 32] [32] (wrt n r) = halfR n r) && decide (rw1 (List.replicate n 32) [9] (wrt n r) = backR n r) && !(backR n r).contains 10 &&
  decide (lev (wsOf (r ++ [9, 32, 98])) n = (lvl n r : Int)) && wsEq (wsOf (wrt n r)) ⟨[], lvl n r, lvl n r, 0⟩ &&
  wsEq (wsOf (backR n r)) ⟨if lvl n r / n = 0 then [] else [((lvl n r / n : Nat) : Int)], lvl n r % n, lvl n r / n + lvl n r % n, lvl n r / n⟩
set_option maxRecDepth 1000000 in
theorem ok_all : (all56.all fun r => [1, 2, 3, 4, 5].all fun n => okN n r) = true := by decide +kernel
end MjPlain2
section MjPlain3

def rowE (r : List Nat) : WS × List Nat := (wsOf (r ++ [9, 32, 98]), [1, 2, 3, 4, 5].map fun n => (wrt n r).length)
def eE (a b : WS × List Nat) : Bool := wsEq a.1 b.1 && decide (a.2 = b.2)
def eEs : List (WS × List Nat) → List (WS × List Nat) → Bool
  | [], [] => true
  | a :: r, b :: t => eE a b && eEs r t
  | _, _ => false
theorem eEs_eq : ∀ {a b : List (WS × List Nat)}, eEs a b = true → a = b
  | [], [], _ => rfl
  | a :: r, b :: t, h => by
    simp only [eEs, eE, Bool.and_eq_true, decide_eq_true_eq] at h
    rw [eEs_eq h.2, show a = b from Prod.ext (wsEq_iff h.1.1) h.1.2]
  | [], _ :: _, h => by cases h
  | _ :: _, [], h => by cases h
def tabL : List (WS × List Nat) := [(⟨[0, 0, 0, 1], 2, 6, 1⟩, [7, 7, 9, 7, 8]),
  (⟨[0, 2], 0, 4, 2⟩, [5, 5, 7, 9, 11]),
  (⟨[], 0, 0, 0⟩, [1, 1, 1, 1, 1]),
  (⟨[], 1, 1, 0⟩, [2, 2, 2, 2, 2]),
  (⟨[], 2, 2, 0⟩, [3, 3, 3, 3, 3]),
  (⟨[1], 0, 1, 1⟩, [2, 3, 4, 5, 6]),
  (⟨[0, 1], 0, 2, 1⟩, [3, 3, 4, 5, 6]),
  (⟨[0, 0, 1], 0, 3, 1⟩, [4, 5, 4, 5, 6]),
  (⟨[2], 0, 2, 2⟩, [3, 5, 7, 9, 11]),
  (⟨[1, 1], 0, 3, 2⟩, [4, 5, 7, 9, 11]),
  (⟨[1, 0, 1], 0, 4, 2⟩, [5, 7, 7, 9, 11]),
  (⟨[], 1, 1, 0⟩, [2, 2, 2, 2, 2]),
  (⟨[], 2, 2, 0⟩, [3, 3, 3, 3, 3]),
  (⟨[], 3, 3, 0⟩, [4, 4, 4, 4, 4]),
  (⟨[1], 1, 2, 1⟩, [3, 4, 5, 6, 7]),
  (⟨[0, 1], 1, 3, 1⟩, [4, 4, 5, 6, 7]),
  (⟨[0, 0, 1], 1, 4, 1⟩, [5, 6, 5, 6, 7]),
  (⟨[2], 1, 3, 2⟩, [4, 6, 8, 10, 12]),
  (⟨[1, 1], 1, 4, 2⟩, [5, 6, 8, 10, 12]),
  (⟨[1, 0, 1], 1, 5, 2⟩, [6, 8, 8, 10, 12]),
  (⟨[], 2, 2, 0⟩, [3, 3, 3, 3, 3]),
  (⟨[], 3, 3, 0⟩, [4, 4, 4, 4, 4]),
  (⟨[], 4, 4, 0⟩, [5, 5, 5, 5, 5]),
  (⟨[1], 2, 3, 1⟩, [4, 5, 6, 7, 8]),
  (⟨[0, 1], 2, 4, 1⟩, [5, 5, 6, 7, 8]),
  (⟨[0, 0, 1], 2, 5, 1⟩, [6, 7, 6, 7, 8]),
  (⟨[2], 2, 4, 2⟩, [5, 7, 9, 11, 13]),
  (⟨[1, 1], 2, 5, 2⟩, [6, 7, 9, 11, 13]),
  (⟨[1, 0, 1], 2, 6, 2⟩, [7, 9, 9, 11, 13]),
  (⟨[1], 0, 1, 1⟩, [2, 3, 4, 5, 6]),
  (⟨[0, 1], 0, 2, 1⟩, [3, 3, 4, 5, 6]),
  (⟨[0, 0, 1], 0, 3, 1⟩, [4, 5, 4, 5, 6]),
  (⟨[2], 0, 2, 2⟩, [3, 5, 7, 9, 11]),
  (⟨[1, 1], 0, 3, 2⟩, [4, 5, 7, 9, 11]),
  (⟨[1, 0, 1], 0, 4, 2⟩, [5, 7, 7, 9, 11]),
  (⟨[3], 0, 3, 3⟩, [4, 7, 10, 13, 16]),
  (⟨[2, 1], 0, 4, 3⟩, [5, 7, 10, 13, 16]),
  (⟨[2, 0, 1], 0, 5, 3⟩, [6, 9, 10, 13, 16]),
  (⟨[0, 1], 0, 2, 1⟩, [3, 3, 4, 5, 6]),
  (⟨[0, 0, 1], 0, 3, 1⟩, [4, 5, 4, 5, 6]),
  (⟨[0, 0, 0, 1], 0, 4, 1⟩, [5, 5, 7, 5, 6]),
  (⟨[1, 1], 0, 3, 2⟩, [4, 5, 7, 9, 11]),
  (⟨[0, 2], 0, 4, 2⟩, [5, 5, 7, 9, 11]),
  (⟨[0, 1, 1], 0, 5, 2⟩, [6, 7, 7, 9, 11]),
  (⟨[2, 1], 0, 4, 3⟩, [5, 7, 10, 13, 16]),
  (⟨[1, 2], 0, 5, 3⟩, [6, 7, 10, 13, 16]),
  (⟨[1, 1, 1], 0, 6, 3⟩, [7, 9, 10, 13, 16]),
  (⟨[0, 0, 1], 0, 3, 1⟩, [4, 5, 4, 5, 6]),
  (⟨[0, 0, 0, 1], 0, 4, 1⟩, [5, 5, 7, 5, 6]),
  (⟨[0, 0, 0, 0, 1], 0, 5, 1⟩, [6, 7, 7, 9, 6]),
  (⟨[1, 0, 1], 0, 4, 2⟩, [5, 7, 7, 9, 11]),
  (⟨[0, 1, 1], 0, 5, 2⟩, [6, 7, 7, 9, 11]),
  (⟨[0, 0, 2], 0, 6, 2⟩, [7, 9, 7, 9, 11]),
  (⟨[2, 0, 1], 0, 5, 3⟩, [6, 9, 10, 13, 16]),
  (⟨[1, 1, 1], 0, 6, 3⟩, [7, 9, 10, 13, 16]),
  (⟨[1, 0, 2], 0, 7, 3⟩, [8, 11, 10, 13, 16])]
set_option maxRecDepth 1000000 in
theorem tab_eq : all56.map rowE = tabL := eEs_eq (by decide +kernel)
def allLt : List Nat → List Nat → Bool
  | a :: r, b :: t => decide (a < b) && allLt r t
  | _, _ => true
def allEq : List Nat → List Nat → Bool
  | a :: r, b :: t => decide (a = b) && allEq r t
  | _, _ => true
def pairOk (a b : WS × List Nat) : Bool := (lessB a.1 b.1 == allLt a.2 b.2) && (decide (a.1.cnt = b.1.cnt ∧ a.1.b = b.1.b) == allEq a.2 b.2)
set_option maxRecDepth 1000000 in
theorem pair_all : (tabL.all fun a => tabL.all fun b => pairOk a b) = true := by decide +kernel
def tameB (a : WS) : Bool := a.cnt.all (fun c => decide (0 ≤ c) && decide (c ≤ 1000)) && decide (a.nt ≤ 1000) && decide (a.b ≤ 90) && decide (a.cnt.length ≤ 90)
set_option maxRecDepth 1000000 in
theorem tame_all : (tabL.all fun a => tameB a.1) = true := by decide +kernel
end MjPlain3
section MjPlain4

theorem row_mem {ns : List Int} {r : List Nat} (h : r ∈ rowsOf ns) : r ∈ all56 := by
  unfold rowsOf at h
  unfold all56
  rcases List.mem_cons.mp h with rfl | h
  · exact .head _
  · rcases List.mem_cons.mp h with rfl | h
    · exact .tail _ (.head _)
    · refine .tail _ (.tail _ ?_)
      obtain ⟨x, _, rfl⟩ := List.mem_map.mp h
      refine List.mem_map.mpr ⟨(x % 54).toNat, List.mem_range.mpr (by omega), rfl⟩
structure RowF (n : Nat) (r : List Nat) : Prop where
  put : rwAll r (putPs n) = wrt n r
  fit : rwFit r (putPs n) = true
  pos : 1 ≤ (wrt n r).length
  len : (wrt n r).length ≤ 60
  nl : 10 ∉ wrt n r
  half : rw1 [32, 32] [32] (wrt n r) = halfR n r
  back : rw1 (List.replicate n 32) [9] (wrt n r) = backR n r
  bnl : 10 ∉ backR n r
  lev : lev (wsOf (r ++ [9, 32, 98])) n = (lvl n r : Int)
  wsW : wsOf (wrt n r) = ⟨[], lvl n r, lvl n r, 0⟩
  wsB : wsOf (backR n r) = ⟨if lvl n r / n = 0 then [] else [((lvl n r / n : Nat) : Int)], lvl n r % n, lvl n r / n + lvl n r % n, lvl n r / n⟩
theorem row_f {ns : List Int} {r : List Nat} {n : Nat} (h : r ∈ rowsOf ns) (hn : 1 ≤ n ∧ n ≤ 5) : RowF n r := by
  have h1 := List.all_eq_true.mp ok_all r (row_mem h)
  have h2 := List.all_eq_true.mp h1 n (by
    have : n = 1 ∨ n = 2 ∨ n = 3 ∨ n = 4 ∨ n = 5 := by omega
    rcases this with rfl | rfl | rfl | rfl | rfl <;> decide)
  unfold okN at h2
  simp only [Bool.and_eq_true, decide_eq_true_eq, Bool.not_eq_true', List.contains_eq_mem, decide_eq_false_iff_not] at h2
  obtain ⟨⟨⟨⟨⟨⟨⟨⟨⟨⟨a, b⟩, c⟩, d⟩, e⟩, f⟩, g⟩, i⟩, j⟩, k⟩, l⟩ := h2
  exact ⟨a, b, c, d, e, f, g, i, j, wsEq_iff k, wsEq_iff l⟩
theorem repAll_rows : ∀ (ps : List PT) (rows : List (List Nat)), (∀ p ∈ ps, 1 ≤ p.1.1.length ∧ small p.1.1 = true ∧ 10 ∉ p.1.1) →
    repAll (interL [10] rows) ps = interL [10] (rows.map fun r => rwAll r (ps.map fun p => (p.1.1, p.2.1)))
  | [], rows, _ => by simp [repAll, rwAll]
  | p :: ps, rows, h => by
    have hp := h p (.head _)
    have ih := repAll_rows ps (rows.map (rw1 p.1.1 p.2.1)) fun q hq => h q (.tail _ hq)
    unfold repAll
    rw [rep_grp _ _ _ hp.1 hp.2.1]
    show repAll (rw1 p.1.1 p.2.1 (interL [10] rows)) ps = _
    rw [rw_join hp.1 hp.2.2, ih, List.map_map]
    rfl
theorem interL_len : ∀ (rows : List (List Nat)) (b : Nat), (∀ r ∈ rows, r.length ≤ b) → (interL [10] rows).length ≤ rows.length * (b + 1)
  | [], b, _ => by simp [interL]
  | [x], b, h => by have := h x (.head _); simp [interL]; omega
  | x :: y :: r, b, h => by
    have ih := interL_len (y :: r) b fun r' hr => h r' (.tail _ hr)
    have hx := h x (.head _)
    show (x ++ [10] ++ interL [10] (y :: r)).length ≤ _
    simp only [List.length_append, List.length_cons, List.length_nil, Nat.succ_mul] at ih ⊢
    omega
theorem repOk_rows : ∀ (ps : List PT) (rows : List (List Nat)), (∀ p ∈ ps, 1 ≤ p.1.1.length ∧ small p.1.1 = true ∧ 10 ∉ p.1.1 ∧ p.2.1.length ≤ 10) → rows.length ≤ 7 →
    (∀ r ∈ rows, rwFit r (ps.map fun p => (p.1.1, p.2.1)) = true) → RepOk (interL [10] rows) ps
  | [], _, _, _, _ => trivial
  | p :: ps, rows, h, hl, hf => by
    have hp := h p (.head _)
    have hf1 : ∀ r ∈ rows, r.length ≤ 100 := fun r hr => by
      have := hf r hr
      simp only [List.map_cons, rwFit, Bool.and_eq_true, decide_eq_true_eq] at this
      exact this.1
    have hf2 : ∀ r ∈ rows, rwFit (rw1 p.1.1 p.2.1 r) (ps.map fun p => (p.1.1, p.2.1)) = true := fun r hr => by
      have := hf r hr
      simp only [List.map_cons, rwFit, Bool.and_eq_true, decide_eq_true_eq] at this
      exact this.2
    have hlen := interL_len rows 100 hf1
    refine ⟨?_, hp.1, hp.2.2.2, ?_⟩
    · have : rows.length * 101 ≤ 7 * 101 := Nat.mul_le_mul_right _ hl
      omega
    · rw [rep_grp _ _ _ hp.1 hp.2.1]
      show RepOk (rw1 p.1.1 p.2.1 (interL [10] rows)) ps
      rw [rw_join hp.1 hp.2.2.1]
      refine repOk_rows ps _ (fun q hq => h q (.tail _ hq)) (by rw [List.length_map]; exact hl) fun r hr => ?_
      obtain ⟨r', hr', rfl⟩ := List.mem_map.mp hr
      exact hf2 r' hr'
theorem rows_len7 (ns : List Int) : (rowsOf ns).length ≤ 7 := by
  simp only [rowsOf, List.length_cons, List.length_map, List.length_take]; omega
theorem rows_ne (ns : List Int) : rowsOf ns ≠ [] := by simp [rowsOf]
theorem putPs_ok {n : Nat} (hn : 1 ≤ n ∧ n ≤ 5) : ∀ p ∈ putPs n, 1 ≤ p.1.length ∧ small p.1 = true ∧ 10 ∉ p.1 ∧ p.2.length ≤ 10 := by
  have : n = 1 ∨ n = 2 ∨ n = 3 ∨ n = 4 ∨ n = 5 := by omega
  rcases this with rfl | rfl | rfl | rfl | rfl <;> decide
theorem ps_ok {ps : List PT} {pl : List (List Nat × List Nat)} (e : ps.map (fun p => (p.1.1, p.2.1)) = pl) (h : ∀ p ∈ pl, 1 ≤ p.1.length ∧ small p.1 = true ∧ 10 ∉ p.1 ∧ p.2.length ≤ 10) :
    ∀ p ∈ ps, 1 ≤ p.1.1.length ∧ small p.1.1 = true ∧ 10 ∉ p.1.1 ∧ p.2.1.length ≤ 10 := fun p hp => h (p.1.1, p.2.1) (e ▸ List.mem_map_of_mem (f := fun p : PT => (p.1.1, p.2.1)) hp)
theorem put_page {ns : List Int} {n : Nat} (hn : 1 ≤ n ∧ n ≤ 5) {ps : List PT} (e : ps.map (fun p => (p.1.1, p.2.1)) = putPs n) :
    RepOk (interL [10] (rowsOf ns)) ps ∧ repAll (interL [10] (rowsOf ns)) ps = interL [10] ((rowsOf ns).map (wrt n)) := by
  have h := ps_ok e (putPs_ok hn)
  refine ⟨repOk_rows ps _ h (rows_len7 ns) fun r hr => ?_, ?_⟩
  · rw [e]; exact (row_f hr hn).fit
  · rw [repAll_rows ps _ fun p hp => ⟨(h p hp).1, (h p hp).2.1, (h p hp).2.2.1⟩, e]
    congr 1
    exact List.map_congr_left fun r hr => (row_f hr hn).put
theorem one_page {ns : List Int} {n : Nat} (hn : 1 ≤ n ∧ n ≤ 5) {ps : List PT} {p z : List Nat} {f : List Nat → List Nat} (e : ps.map (fun p => (p.1.1, p.2.1)) = [(p, z)]) (hp : 1 ≤ p.length ∧ small p = true ∧ 10 ∉ p ∧ z.length ≤ 10)
    (hf : ∀ r ∈ rowsOf ns, rw1 p z (wrt n r) = f r) :
    RepOk (interL [10] ((rowsOf ns).map (wrt n))) ps ∧ repAll (interL [10] ((rowsOf ns).map (wrt n))) ps = interL [10] ((rowsOf ns).map f) := by
  have h := ps_ok e (by intro q hq; rw [List.mem_singleton.mp hq]; exact hp)
  refine ⟨repOk_rows ps _ h (by rw [List.length_map]; exact rows_len7 ns) fun r hr => ?_, ?_⟩
  · obtain ⟨r', hr', rfl⟩ := List.mem_map.mp hr
    rw [e]
    simp only [rwFit, Bool.and_true, decide_eq_true_eq]
    have := (row_f hr' hn).len; omega
  · rw [repAll_rows ps _ fun p hp => ⟨(h p hp).1, (h p hp).2.1, (h p hp).2.2.1⟩, e, List.map_map]
    congr 1
    exact List.map_congr_left fun r hr => hf r hr
theorem split_page {rows : List (List Nat)} (hne : rows ≠ []) (h : ∀ r ∈ rows, 10 ∉ r) : Txt.split (txt (interL [10] rows)) (txt [10]) = rows.map txt := by
  rw [split_txt _ _ (by decide) (by decide), spl_join rows hne h]
theorem join_page (rows : List (List Nat)) : Txt.join (txt [10]) (rows.map txt) = txt (interL [10] rows) := by
  show Builtin.Str.glued _ _ = _
  rw [StrLaws.glued_eq_join]
  exact join_inter [10] rows
theorem page_len {rows : List (List Nat)} (hl : rows.length ≤ 7) (h : ∀ r ∈ rows, r.length ≤ 100) : (interL [10] rows).length ≤ 800 := by
  have h1 := interL_len rows 100 h
  have : rows.length * 101 ≤ 7 * 101 := Nat.mul_le_mul_right _ hl
  omega
theorem row_tab {r : List Nat} (h : r ∈ all56) : rowE r ∈ tabL := by rw [← tab_eq]; exact List.mem_map_of_mem h
theorem row_tame {ns : List Int} {r : List Nat} (h : r ∈ rowsOf ns) : Tame (wsOf (r ++ [9, 32, 98])) := by
  have h1 := List.all_eq_true.mp tame_all _ (row_tab (row_mem h))
  unfold tameB rowE at h1
  simp only [Bool.and_eq_true, decide_eq_true_eq, List.all_eq_true] at h1
  exact ⟨h1.1.1.1, h1.1.1.2, h1.1.2, h1.2⟩
theorem row_pair {ns : List Int} {r q : List Nat} (h : r ∈ rowsOf ns) (h' : q ∈ rowsOf ns) :
    lessB (wsOf (r ++ [9, 32, 98])) (wsOf (q ++ [9, 32, 98])) = allLt ([1, 2, 3, 4, 5].map fun n => (wrt n r).length) ([1, 2, 3, 4, 5].map fun n => (wrt n q).length) ∧
    decide ((wsOf (r ++ [9, 32, 98])).cnt = (wsOf (q ++ [9, 32, 98])).cnt ∧ (wsOf (r ++ [9, 32, 98])).b = (wsOf (q ++ [9, 32, 98])).b) = allEq ([1, 2, 3, 4, 5].map fun n => (wrt n r).length) ([1, 2, 3, 4, 5].map fun n => (wrt n q).length) := by
  have h1 := List.all_eq_true.mp (List.all_eq_true.mp pair_all _ (row_tab (row_mem h))) _ (row_tab (row_mem h'))
  unfold pairOk rowE at h1
  simp only [Bool.and_eq_true, beq_iff_eq] at h1
  exact h1
end MjPlain4
section MjLaw

theorem comp_all {prog : Program} {w : World} {A : Around} {s : Shared} {h₀ : Heap} {L : Addr} {m : Str → Option Value} {env : Env} {elt : Expr} {x : Str} {scope : Scope} {cl : List (Str × Addr)} {S : List (Addr × Obj) → Prop} {P : Nat → Value → Prop} {Fin : List Value → List (Addr × Obj) → Prop} {n : Nat} {news : List (Addr × Obj)}
    (Inv : Nat → List Value → List (Addr × Obj) → Prop) (h0 : Inv 0 [] news)
    (step : ∀ i ys nx v I oI C oC D m₂ h tk (E' : Value → Shared → Prop), i < n → Inv i ys nx → P i v → LCg.NsObj oC m₂ → m₂ x = some v → Fr h₀ L h m → News h₀ L h ((I, oI) :: (C, oC) :: (D, LCg.lst ys) :: nx) → LCg.Off3 I C D nx → ((@Ne Nat I C) ∧ (@Ne Nat I D) ∧ (@Ne Nat C D)) →
      wpAny (model prog w) A (eval elt (compEnvC scope cl C env)) (LCg.CompEnd h₀ L m { s with heap := h, toks := tk } I oI C oC D (LCg.lst ys) S (fun y nx' => Inv (i + 1) (ys ++ [y]) nx')) E' { s with heap := h, toks := tk })
    (fin : ∀ ys nx, Inv n ys nx → Fin ys nx) : LCg.CompRest prog w A h₀ L m env elt x scope cl s S P Fin n 0 [] news := by
  have key : ∀ k i ys nx, i + k = n → Inv i ys nx → LCg.CompRest prog w A h₀ L m env elt x scope cl s S P Fin k i ys nx := by
    intro k
    induction k with
    | zero => intro i ys nx hi hI; exact LCg.CompRest.zero (fin _ _ (by have : i = n := by omega
                                                                        exact this ▸ hI))
    | succ k ih =>
      intro i ys nx hi hI
      refine LCg.CompRest.succ fun v I oI C oC D m₂ h tk E' hP hC hx F N off ne => ?_
      refine wpAny_mono (step i ys nx v I oI C oC D m₂ h tk E' (by omega) hI hP hC hx F N off ne) (fun y s₂ hy => ?_) fun _ _ e => e
      obtain ⟨h', tk', nx', e, F', N', off', hS, r⟩ := hy
      exact ⟨h', tk', nx', e, F', N', off', hS, ih (i + 1) (ys ++ [y]) nx' (by omega) r⟩
  exact key n 0 [] news (by omega) h0
def lawOf (K : Frag) : Option (List Stmt × Scope) := match K.lookup 127 with
  | some ⟨_, _, .func f, _⟩ => (match f.body with | .stmts b => some (b, f.scope) | _ => none)
  | _ => none
theorem strs_at : ∀ {vs : List Value} {ys : List Str} {i : Nat} {v : Value}, StrsAre vs ys → vs[i]? = some v → ∃ y t, v = .str y t ∧ ys[i]? = some y
  | _, _, i, v, .nil, h => by simp at h
  | _, _, 0, v, .cons y t r, h => by simp at h; exact ⟨y, t, h.symm, rfl⟩
  | _, _, i + 1, v, .cons y t r, h => by simp at h; simpa using strs_at r h
structure MM where
  a : Addr
  k : MK
  z : WS
def marksO (w : World) (ms : List MM) : List (Addr × Obj) := ms.flatMap fun m => m.k.objs w m.a m.z
theorem marksO_snoc (w : World) (ms : List MM) (m : MM) : marksO w (ms ++ [m]) = marksO w ms ++ m.k.objs w m.a m.z := by simp [marksO]
theorem mark_step {w : World} {hb h h' : Heap} {L I C D R x : Addr} {oI oC oD : Obj} {m : Str → Option Value} {ms : List MM} {rest : List (Addr × Obj)} {its : Array Value} {σ : WS} {s : Shared} {tk tk' : Nat} {rows : List WS} {ys : List Value}
    (F : Fr hb L h m) (N : News hb L h ((I, oI) :: (C, oC) :: (D, oD) :: (marksO w ms ++ rest))) (off : LCg.Off3 I C D (marksO w ms ++ rest)) (st : h.StaysIn h') (hM : MarkAt w h h' x σ) (hS : LCg.SrcAt hb R its rest)
    (hy : ys = ms.map fun m => Value.ref m.a) (h1 : ∀ m ∈ ms, IntsAre m.k.vs m.z.cnt ∧ m.z.cnt.length ≤ 300) (h2 : ms.map (·.z) ++ [σ] = rows) :
    LCg.CompEnd hb L m { s with heap := h, toks := tk } I oI C oC D oD (LCg.SrcAt hb R its) (fun y nx' => ∃ ms' : List MM, ys ++ [y] = ms'.map (fun m => Value.ref m.a) ∧ nx' = marksO w ms' ++ rest ∧ (∀ m ∈ ms', IntsAre m.k.vs m.z.cnt ∧ m.z.cnt.length ≤ 300) ∧ ms'.map (·.z) = rows) (.ref x) { s with heap := h', toks := tk' } := by
  obtain ⟨M, hi, hl, hq⟩ := hM
  have new : ∀ p o, (p, o) ∈ M.objs w x σ → ∀ b ob, h.get? b = some ob → p ≠ b := fun p o hp b ob hb' e => by
    have := (hq _ hp).2
    dsimp only at this
    rw [e, hb'] at this; cases this
  have hN' := News.grown N st
  obtain ⟨oL, _, _, hoL, _⟩ := F.ns
  have N' : News hb L h' (M.objs w x σ ++ ((I, oI) :: (C, oC) :: (D, oD) :: (marksO w ms ++ rest))) := fun p hp => by
    rcases List.mem_append.mp hp with hp | hp
    · refine ⟨(hq p hp).1, new p.1 p.2 hp L oL hoL, ?_⟩
      cases e : hb.get? p.1 with
      | none => rfl
      | some o => have := (hq p hp).2; rw [F.keep _ _ e] at this; cases this
    · exact hN' p hp
  refine LCg.CompEnd.intro (Fr.keeps F st) N' (marksO w (ms ++ [⟨x, M, σ⟩]) ++ rest) ?_ ?_ ?_ ⟨ms ++ [⟨x, M, σ⟩], ?_, rfl, ?_, ?_⟩
  · rw [marksO_snoc]
    intro p hp
    simp only [List.mem_cons, List.mem_append] at hp ⊢
    rcases hp with h | h | h | (h | h) | h
    · exact .inr (.inl h)
    · exact .inr (.inr (.inl h))
    · exact .inr (.inr (.inr (.inl h)))
    · exact .inr (.inr (.inr (.inr (.inl h))))
    · exact .inl h
    · exact .inr (.inr (.inr (.inr (.inr h))))
  · rw [marksO_snoc]
    refine LCg.Off3.of fun p hp => ?_
    simp only [List.mem_append] at hp
    rcases hp with (hp | hp) | hp
    · exact off.mem p (List.mem_append_left _ hp)
    · exact ⟨new p.1 p.2 hp I oI (N _ (.head _)).1, new p.1 p.2 hp C oC (N _ (.tail _ (.head _))).1, new p.1 p.2 hp D oD (N _ (.tail _ (.tail _ (.head _)))).1⟩
    · exact off.mem p (List.mem_append_right _ hp)
  · rcases hS with hS | ⟨o, ho, r⟩
    · exact .inl hS
    · exact .inr ⟨o, List.mem_append_right _ ho, r⟩
  · rw [hy, List.map_append]; rfl
  · intro m hm
    rcases List.mem_append.mp hm with hm | hm
    · exact h1 m hm
    · rw [List.mem_singleton.mp hm]; exact ⟨hi, hl⟩
  · rw [List.map_append]; exact h2
theorem rowOf_len (x : Int) : (rowOf x).length ≤ 8 := by
  have h : 0 ≤ x % 54 ∧ x % 54 < 54 := ⟨by omega, by omega⟩
  simp only [rowOf, List.length_append, List.length_replicate, List.length_cons, List.length_nil]
  omega
theorem rows_len {ns : List Int} {r : List Nat} (h : r ∈ rowsOf ns) : r.length ≤ 8 := by
  unfold rowsOf at h
  rcases List.mem_cons.mp h with rfl | h
  · decide
  · rcases List.mem_cons.mp h with rfl | h
    · decide
    · obtain ⟨x, _, rfl⟩ := List.mem_map.mp h
      exact rowOf_len x
theorem lawOf_elim {K : Frag} {P : Prop} {oc : Value} {od : Option Addr} {osl : Array (Option Value)} {f : FuncData} {b body : List Stmt} {scope : Scope} (hk : K.lookup 127 = some ⟨oc, od, .func f, osl⟩) (hf : f.body = .stmts b) (h : lawOf K = some (body, scope)) (k : b = body → f.scope = scope → P) : P := by
  unfold lawOf at h
  rw [hk] at h
  dsimp only at h
  rw [hf] at h
  injection h with h
  injection h with h1 h2
  exact k h1 h2
theorem news_add {h₀ h h' : Heap} {L R : Addr} {o : Obj} {m : Str → Option Value} {news : List (Addr × Obj)} (F : Fr h₀ L h m) (N : News h₀ L h' news) (hR : h'.get? R = some o) (hn : h.get? R = none) : News h₀ L h' ((R, o) :: news) := fun q hq => by
  rcases List.mem_cons.mp hq with rfl | hq
  · refine ⟨hR, fun e => ?_, ?_⟩
    · obtain ⟨oL, _, _, hoL, _⟩ := F.ns
      dsimp only at e
      rw [e] at hn
      rw [hn] at hoL; cases hoL
    · cases e : h₀.get? R with
      | none => rfl
      | some o => have := F.keep _ _ e; rw [hn] at this; cases this
  · exact N q hq
end MjLaw
section MjLaw2

theorem forRangeAny {prog : Program} {w : World} {A : Around} {s : Shared} {env : Env} {h₀ : Heap} {L : Addr} {tg : Expr} {body : List Stmt} {Q : Flow → Shared → Prop} {r : Addr} {a₀ b₀ : Int} {t₀ u₀ v₀ : Tok} {n : Nat} {m₀ : Str → Option Value} {news : List (Addr × Obj)} (J : Nat → (Str → Option Value) → List (Addr × Obj) → Prop)
    (hh : A.handled = none) (hr : IsRange s.heap r a₀ b₀ 1 t₀ u₀ v₀) (hsmall : Builtin.Range.small a₀ b₀ 1 = true) (hn : Builtin.Range.rangeSize a₀ b₀ 1 = (n : Int)) (F : Fr h₀ L s.heap m₀) (N : News h₀ L s.heap news) (hj : J 0 m₀ news)
    (ht : ∀ it v, letOwnedTupleGo tg it v = pure ())
    (turn : ∀ (i : Nat) t m₁ news₁ h tk I oI, i < n → J i m₁ news₁ → Fr h₀ L h m₁ → News h₀ L h ((I, oI) :: news₁) → (∀ p ∈ news₁, p.1 ≠ I) →
      wpAny (model prog w) A (assign tg env (.int (a₀ + i) t)) (fun _ s₂ => wpAny (model prog w) A (execs body env) (Turned s h₀ L I oI Q (J (i + 1))) (fun _ _ => False) s₂) (fun _ _ => False) { s with heap := h, toks := tk })
    (done : ∀ m₁ news₁ h tk, J n m₁ news₁ → Fr h₀ L h m₁ → News h₀ L h news₁ → Q .next { s with heap := h, toks := tk }) :
    wpAny (model prog w) A (pyIter (.ref r)) (fun it s₂ => codeAny (model prog w) A (.forLoop tg it body [] env) (fun r s' => match r with | .ok f => Q f s' | .error e => cameBackBy (model prog w) A env (fun _ _ => False) e s') s₂) (fun _ _ => False) s := by
  have hI₀ : h₀.get? s.heap.objs.size = none := next_is_new F
  have hLI : L ≠ s.heap.objs.size := Nat.ne_of_lt F.ns.lt
  have hnw : ∀ p ∈ news, p.1 ≠ s.heap.objs.size := fun p hp e => absurd (Heap.lt_size (N p hp).1) (e ▸ Nat.lt_irrefl _)
  have NP : ∀ o, News h₀ L (s.heap.push o) news := fun o p hp => ⟨Heap.get?_push_of_some _ (N p hp).1, (N p hp).2⟩
  refine wpAny_pyIter_range hr hsmall ?_
  have W : Walks prog w A s.heap.objs.size [s.heap.objs.size] [s.heap.objs.size] n (fun i v => i < n ∧ ∃ t, v = .int (a₀ + i * 1) t)
      (fun i h => IsRangeIter h s.heap.objs.size (a₀ + (i : Nat) * 1) ((n : Int) - (i : Nat)) 1) := (Walks.range hh _ a₀ 1 n).bound
  refine codeAny_forLoop (fun k s' => ∃ h' tk m' news' i, s' = { s with heap := h', toks := tk } ∧ IsRangeIter h' s.heap.objs.size (a₀ + (i : Nat) * 1) ((n : Int) - (i : Nat)) 1 ∧ Fr h₀ L h' m' ∧ News h₀ L h' news' ∧ (∀ p ∈ news', p.1 ≠ s.heap.objs.size) ∧ J i m' news' ∧ i ≤ n ∧ k = n + 1 - i) ?_ (n + 1)
    ⟨_, s.toks, m₀, news, 0, rfl, by show IsRangeIter _ _ _ _ _; rw [hn]; simpa using Heap.get?_push_size _ rfl, F.push _, NP _, hnw, hj, Nat.zero_le _, rfl⟩ (ht _)
  rintro k s' ⟨h', tk, m', news', i, rfl, hst, F', N', hnw', hJ, hi, rfl⟩
  have next : ∀ h₁ : Heap, (∀ b o, b ∉ [s.heap.objs.size] → h'.get? b = some o → h₁.get? b = some o) → Fr h₀ L h₁ m' ∧ News h₀ L h₁ news' := fun h₁ hk₁ =>
    ⟨⟨F'.ns.at' fun o e => hk₁ _ o (by simpa using hLI) e, fun b o e => hk₁ b o (fun q => by rw [List.mem_singleton.mp q, hI₀] at e; cases e) (F'.keep b o e), F'.above⟩, fun p hp => ⟨hk₁ _ _ (by simpa using hnw' p hp) (N' p hp).1, (N' p hp).2⟩⟩
  by_cases hlt : i < n
  · refine W.item i _ _ _ hlt hst fun v h₁ tk₁ hP hst₁ hk₁ => ?_
    obtain ⟨_, t, rfl⟩ := hP
    obtain ⟨F₁, N₁⟩ := next h₁ hk₁
    obtain ⟨oI, hoI, hoE⟩ : ∃ oI, h₁.get? s.heap.objs.size = some oI ∧ ∀ h', h'.get? s.heap.objs.size = some oI → IsRangeIter h' s.heap.objs.size (a₀ + ((i + 1 : Nat) : Int) * 1) ((n : Int) - ((i + 1 : Nat) : Int)) 1 := ⟨_, hst₁, fun _ e => e⟩
    have NI : News h₀ L h₁ ((s.heap.objs.size, oI) :: news') := fun p hp => by
      rcases List.mem_cons.mp hp with rfl | hp
      · exact ⟨hoI, Ne.symm hLI, hI₀⟩
      · exact N₁ p hp
    have tt := turn i t m' news' h₁ tk₁ _ oI hlt hJ F₁ NI hnw'
    rw [Int.mul_one]
    refine wpAny_noRaise (wpAny_mono tt (fun _ s₂ h₂ => wpAny_noRaise (wpAny_mono h₂ (fun f s₃ h₃ => ?_) fun _ _ e => e)) fun _ _ e => e)
    have fin : (∃ h' tk' m₂ news₂, s₃ = { s with heap := h', toks := tk' } ∧ Fr h₀ L h' m₂ ∧ News h₀ L h' ((s.heap.objs.size, oI) :: news₂) ∧ (∀ p ∈ news₂, p.1 ≠ s.heap.objs.size) ∧ J (i + 1) m₂ news₂) → ∃ m, m < n + 1 - i ∧ ∃ h' tk m' news' i, s₃ = { s with heap := h', toks := tk } ∧ IsRangeIter h' s.heap.objs.size (a₀ + (i : Nat) * 1) ((n : Int) - (i : Nat)) 1 ∧ Fr h₀ L h' m' ∧ News h₀ L h' news' ∧ (∀ p ∈ news', p.1 ≠ s.heap.objs.size) ∧ J i m' news' ∧ i ≤ n ∧ m = n + 1 - i := by
      rintro ⟨h', tk', m₂, news₂, rfl, F₂, N₂, hn₂, hJ₂⟩
      exact ⟨n + 1 - (i + 1), by omega, h', tk', m₂, news₂, i + 1, rfl, hoE _ (N₂ _ (.head _)).1, F₂, fun p hp => N₂ p (.tail _ hp), hn₂, hJ₂, hlt, rfl⟩
    cases f with
    | ret v => exact h₃
    | brk => exact h₃
    | next => exact fin h₃
    | cont => exact fin h₃
  · have hin : i = n := by omega
    subst hin
    refine W.done _ _ _ hst fun h₁ tk₁ hk₁ => wpAny_execs_nil ?_
    obtain ⟨F₁, N₁⟩ := next h₁ hk₁
    exact done m' news' h₁ tk₁ hJ F₁ N₁
theorem fit_join {rows : List (List Nat)} (hl : rows.length ≤ 7) (h : ∀ r ∈ rows, r.length ≤ 100) : ((rows.map txt).map (·.length)).sum + (rows.map txt).length * (txt [10]).length ≤ 16777216 := by
  have h1 : ((rows.map txt).map (·.length)).sum ≤ (rows.map txt).length * 100 := StrLaws.sumLen_le _ fun y hy => by
    obtain ⟨r, hr, rfl⟩ := List.mem_map.mp hy
    rw [txt_len]; exact h r hr
  rw [List.length_map] at h1 ⊢
  have h2 : (txt [10]).length = 1 := rfl
  rw [h2]
  have : rows.length * 100 ≤ 7 * 100 := Nat.mul_le_mul_right _ hl
  omega
theorem same_step {hb h h' : Heap} {L I C D : Addr} {oI oC oD : Obj} {m : Str → Option Value} {nx : List (Addr × Obj)} {S : List (Addr × Obj) → Prop} {rest : Value → List (Addr × Obj) → Prop} {y : Value} {s : Shared} {tk tk' : Nat}
    (F : Fr hb L h m) (N : News hb L h ((I, oI) :: (C, oC) :: (D, oD) :: nx)) (off : LCg.Off3 I C D nx) (st : h.StaysIn h') (hS : S nx) (hr : rest y nx) :
    LCg.CompEnd hb L m { s with heap := h, toks := tk } I oI C oC D oD S rest y { s with heap := h', toks := tk' } :=
  LCg.CompEnd.intro (Fr.keeps F st) (News.grown N st) nx (fun p hp => hp) off hS hr
theorem take_snoc {α : Type} {l : List α} {i : Nat} {a : α} (h : l[i]? = some a) : l.take (i + 1) = l.take i ++ [a] := by rw [List.take_add_one, h]; rfl
theorem off1_mem {D : Addr} : ∀ {l : List (Addr × Obj)}, LCg.Off1 D l → ∀ p ∈ l, @Ne Nat p.1 D
  | [], _, _, h => nomatch h
  | _ :: _, x, p, h => by
    rcases List.mem_cons.mp h with rfl | h
    · exact x.1
    · exact off1_mem x.2 p h
theorem ne_same {prog : Program} {w : World} {A : Around} {E : Value → Shared → Prop} {s : Shared} {x y : Str} {t u : Tok} {Q : Value → Shared → Prop} (e : x = y) (h : Q (.bool false) s) : wpAny (model prog w) A (compareOp .NotEq (.str x t) (.str y u)) Q E s := by
  subst e
  refine P.ne_str ?_
  rw [bne_self_eq_false]
  exact h
theorem ne_dataF {prog : Program} {w : World} {A : Around} {E : Value → Shared → Prop} {s : Shared} {Q : Value → Shared → Prop} {a b : Value} {da db : PyData} {as bs : List Addr} (ra : Reads s.heap a da as) (rb : Reads s.heap b db bs) (ha : SeqAt.shaped da = true) (hb : SeqAt.shaped db = true) (hu : A.units + 64 < cLine) (he : PyData.eqv da db = true) (h : Q (.bool false) s) : wpAny (model prog w) A (compareOp .NotEq a b) Q E s := by
  refine ne_dataH ra rb ha hb hu ?_
  rw [he]
  exact h
def forB : Stmt → List Stmt
  | .For _ _ b _ _ => b
  | _ => []
def subB (i : Nat) (b : List Stmt) : List Stmt := match b[i]? with
  | some st => forB st
  | none => []
end MjLaw2
section MjLaw4
local macro_rules | `(tactic| k_mem) => `(tactic| assumption)
local macro_rules | `(tactic| walk_at "call builtin:len") => `(tactic| (k_here; (with_reducible show wpAny _ _ (call (Value.builtin "len") [Value.ref _]) _ _ _); k_dflt (refine' len_lstV ?k1 ?k2 ?k4 ?_; (case k1 => k_asm); (case k2 => k_mem); (case k4 => omega); k_whole); intro _ _))

theorem item_strs {prog : Program} {w : World} {A : Around} {E : Value → Shared → Prop} {s : Shared} {Q : Value → Shared → Prop} {value slice : Expr} {h₀ : Heap} {L D : Addr} {news : List (Addr × Obj)} {vs : List Value} {ys : List Str} {y : Str} {k e : Nat} {u : Tok} (N : News h₀ L s.heap news) (hm : (D, ({ cls := .type "list", data := .seq vs.toArray e } : Obj)) ∈ news) (hs : StrsAre vs ys) (hk : k ≤ 1000) (hy : ys[k]? = some y)
    (h : ∀ t, Q (.str y t) s)
    (hs2 : subscripted slice false (.ref D) (.int (k : Int) u) = operate [.ref D, .int (k : Int) u] (getItem (.ref D) (.int (k : Int) u)) := by with_unfolding_all rfl) :
    wpAny (model prog w) A (subscriptTail value slice (.ref D) (.int (k : Int) u)) Q E s := by
  have hlen := hs.length
  have hlt : k < vs.length := by rw [hlen]; exact (List.getElem?_eq_some_iff.mp hy).1
  obtain ⟨y', t, e1, e2⟩ := strs_at hs (List.getElem?_eq_getElem hlt)
  rw [hy] at e2
  cases e2
  refine item_lst (v := .str y t) ⟨_, (N _ hm).1, rfl, _, rfl⟩ (by omega) (by omega) ?_ (h t) hs2
  rw [Int.toNat_natCast, List.getElem?_eq_getElem hlt, e1]
theorem item_refs {prog : Program} {w : World} {A : Around} {E : Value → Shared → Prop} {s : Shared} {Q : Value → Shared → Prop} {value slice : Expr} {h₀ : Heap} {L D : Addr} {news : List (Addr × Obj)} {vs : List Value} {v : Value} {k e : Nat} {u : Tok} (N : News h₀ L s.heap news) (hm : (D, ({ cls := .type "list", data := .seq vs.toArray e } : Obj)) ∈ news) (hk : k ≤ 1000) (hy : vs[k]? = some v)
    (h : Q v s)
    (hs2 : subscripted slice false (.ref D) (.int (k : Int) u) = operate [.ref D, .int (k : Int) u] (getItem (.ref D) (.int (k : Int) u)) := by with_unfolding_all rfl) :
    wpAny (model prog w) A (subscriptTail value slice (.ref D) (.int (k : Int) u)) Q E s :=
  item_lst (v := v) ⟨_, (N _ hm).1, rfl, _, rfl⟩ (by omega) (by omega) (by rw [Int.toNat_natCast]; exact hy) h hs2
theorem sub1_nat {prog : Program} {w : World} {A : Around} {E : Value → Shared → Prop} {s : Shared} {Q : Value → Shared → Prop} {p : Nat} {t u : Tok} (hp : 1 ≤ p) (h : ∀ t tk, Q (.int ((p - 1 : Nat) : Int) t) { s with toks := tk }) : wpAny (model prog w) A (binaryOp .Sub (.int (p : Int) t) (.int 1 u)) Q E s := by
  refine sub_int ?_
  have e : (p : Int) - 1 = ((p - 1 : Nat) : Int) := by omega
  rw [e]; exact h _ _
theorem ne_intS {prog : Program} {w : World} {A : Around} {E : Value → Shared → Prop} {s : Shared} {Q : Value → Shared → Prop} {a b : Int} {t u : Tok} (e : a = b) (h : Q (.bool false) s) : wpAny (model prog w) A (compareOp .NotEq (.int a t) (.int b u)) Q E s := by
  subst e
  refine ne_int ?_
  rw [bne_self_eq_false]; exact h
theorem news_adds {h₀ h h' : Heap} {L : Addr} {m : Str → Option Value} {l news : List (Addr × Obj)} (F : Fr h₀ L h m) (N : News h₀ L h' news) (hl : ∀ q ∈ l, h'.get? q.1 = some q.2 ∧ h.get? q.1 = none) : News h₀ L h' (l ++ news) := fun q hq => by
  rcases List.mem_append.mp hq with hq | hq
  · have := news_add F (News.nil (h₀ := h₀) (L := L) (h := h')) (hl q hq).1 (hl q hq).2
    exact this _ (.head _)
  · exact N q hq
local macro_rules | `(tactic| walk_at "binaryOp Sub int int") => `(tactic| ((with_reducible show wpAny _ _ (binaryOp Operator.Sub (Value.int (Nat.cast _) _) (Value.int 1 _)) _ _ _); (refine sub1_nat (by omega) ?_); intro _ _))
theorem divmod_nat {prog : Program} {w : World} {A : Around} {E : Value → Shared → Prop} {s : Shared} {Q : Value → Shared → Prop} {h₀ : Heap} {L : Addr} {m : Str → Option Value} {news : List (Addr × Obj)} {p q : Nat} {t u : Tok} (F : Fr h₀ L s.heap m) (N : News h₀ L s.heap news) (hq : q ≠ 0) (hq2 : q ≤ 100000)
    (h : ∀ a b D t1 t2 h' tk, a = p / q → b = p % q → Fr h₀ L h' m → News h₀ L h' ((D, ({ cls := .type "tuple", data := .seq #[.int ((a : Nat) : Int) t1, .int ((b : Nat) : Int) t2] } : Obj)) :: news) → Q (.ref D) { s with heap := h', toks := tk }) :
    wpAny (model prog w) A (call (.builtin "divmod") [.int (p : Int) t, .int (q : Int) u]) Q E s := by
  refine divmod_N F N (by omega) ?_ (Or.inl (PyProof.noPylong_small (by omega)))
  have e1 : (p : Int).fdiv (q : Int) = ((p / q : Nat) : Int) := by rw [Int.fdiv_eq_ediv_of_nonneg _ (by omega)]; rfl
  have e2 : (p : Int).fmod (q : Int) = ((p % q : Nat) : Int) := by rw [Int.fmod_eq_emod_of_nonneg _ (by omega)]; rfl
  rw [e1, e2]
  intro h' F' N'
  exact h _ _ _ _ _ _ _ rfl rfl F' N'
theorem memb_shaped (σ : WS) : SeqAt.shaped (membD σ) = true := by
  simp [membD, normD, SeqAt.shaped, PyData.canLay0, PyData.canLayAll0, PyData.depth, PyData.depthAll, ke_canLayAll0, ke_depthAll]
theorem k_turn {w : World} {mean : ExcName → Option Value} {mg mb : Str → Option Value} {dp uns : Nat} {frs : Option (List Env)} {gds : Option (List Code)} {hb : Heap} {s : Shared} {L fa : Addr} {cdv : Value} {body sb : List Stmt} {scope : Scope} {Q : Flow → Shared → Prop} {E : Value → Shared → Prop} {m : Str → Option Value} {R Mk : Addr} {ws : List Value} {kR : Nat} {ms : List MM} {ns : List Int} {Z : List (Addr × Obj)} {D1 D3 : Addr} {due back : List Value} {e1 e3 sz kk : Nat} {tS tk0 : Tok} {oS : Obj} {kb : List Stmt} {row : List Nat}
    (X : (hd.heap_39 w.params).In hb) (T : Top hd.view_39 (looseW hd.view_39 [Str.ofString "Whitespace"]) mean mg mb hb) (hroom : dp + 5 < recursionLimit) (hu : uns + 100 < cLine) (hlk : lawOf (hd.heap_39 w.params) = some (body, scope)) (hsb : subB 5 (subB 3 body) = kb) (hsz : 1 ≤ sz ∧ sz ≤ 5) (hrow : (rowsOf ns)[kk]? = some row)
    (F0 : Fr hb L s.heap m) (hm1 : m (Str.ofString "k") = some (.int (kk : Int) tk0)) (hm2 : m (Str.ofString "marks") = some (.ref Mk)) (hm3 : m (Str.ofString "due") = some (.ref D1)) (hm4 : m (Str.ofString "back") = some (.ref D3))
    (N0 : News hb L s.heap Z) (hZS : (L + 1, oS) ∈ Z) (hoS : oS.data = .cell (some (.int (sz : Int) tS)))
    (hZD : (D1, ({ cls := .type "list", data := .seq due.toArray e1 } : Obj)) ∈ Z) (hdue : StrsAre due ((rowsOf ns).map fun r => txt (wrt sz r))) (hZB : (D3, ({ cls := .type "list", data := .seq back.toArray e3 } : Obj)) ∈ Z) (hback : StrsAre back ((rowsOf ns).map fun r => txt (backR sz r)))
    (hZM : (Mk, LCg.lst (ms.map fun m => Value.ref m.a)) ∈ Z) (hZm : ∀ q ∈ marksO w ms, q ∈ Z) (hms1 : ∀ m ∈ ms, IntsAre m.k.vs m.z.cnt ∧ m.z.cnt.length ≤ 300) (hms2 : ms.map (·.z) = (rowsOf ns).map fun r => wsOf (r ++ [9, 32, 98]))
    (hQ : ∀ h' tk m', Fr hb L h' m' → (∀ x, x ≠ Str.ofString "level" → x ≠ Str.ofString "whole" → x ≠ Str.ofString "over" → x ≠ Str.ofString "form" → m' x = m x) → News hb L h' Z → Q .next { s with heap := h', toks := tk }) :
    wpAny (model PySem.Challenge.rw_mj0147_01.row.prog w) ⟨none, dp, frs, gds, uns⟩ (execs kb (envOfC (Str.ofString "law") scope L fa cdv)) Q E s := by
  revert X hlk; k_fill; intro X hlk
  k_dflt (refine' lawOf_elim ?k1 ?k2 hlk ?_; (case k1 => k_is); (case k2 => exact rfl); k_whole)
  intro e1 e2
  dsimp only at e2
  subst e1 e2
  clear hlk
  dsimp only [subB, forB, List.getElem?_cons_succ, List.getElem?_cons_zero] at hsb
  subst hsb
  refine wpAny_noRaise ?_
  have F1 := say F0 (Str.ofString "k") _ hm1
  have F2 := say F1 (Str.ofString "marks") _ hm2
  have F3 := say F2 (Str.ofString "due") _ hm3
  have F4 := say F3 (Str.ofString "back") _ hm4
  clear F0 F1 F2 F3
  (try k_fold)
  have hkk : kk ≤ 7 := by
    have := (List.getElem?_eq_some_iff.mp hrow).1
    have := rows_len7 ns
    omega
  have hrf := row_f (List.mem_of_getElem? hrow) hsz
  have hdk : ((rowsOf ns).map fun r => txt (wrt sz r))[kk]? = some (txt (wrt sz row)) := by rw [List.getElem?_map, hrow]; rfl
  have hbk : ((rowsOf ns).map fun r => txt (backR sz r))[kk]? = some (txt (backR sz row)) := by rw [List.getElem?_map, hrow]; rfl
  have hl1 := hrf.pos
  have hl2 := hrf.len
  (repeat' ((fail_if_success (with_reducible show wpAny _ _ (exec (Stmt.For _ _ _ _ _) _) _ _ _)); (fail_if_success (with_reducible show wpAny _ _ (pyIter _) _ _ _)); (fail_if_success (with_reducible show wpAny _ _ (PySem.call (Value.ref _) _ _) _ _ _)); (fail_if_success (with_reducible show wpAny _ _ (compareOp CmpOp.NotEq (Value.str _ _) (Value.str _ _)) _ _ _)); (fail_if_success (with_reducible show wpAny _ _ (PySem.call (Value.builtin "str.join") _ _) _ _ _)); (fail_if_success (with_reducible show wpAny _ _ (PySem.call (Value.builtin "str.split") _ _) _ _ _)); (fail_if_success (with_reducible show wpAny _ _ (PySem.call (Value.builtin "list.append") _ _) _ _ _)); (fail_if_success (with_reducible show wpAny _ _ (eval (Expr.ListComp _ _ _ _) _) _ _ _)); (fail_if_success (with_reducible show wpAny _ _ (exec (Stmt.Assign _ (Expr.ListComp _ _ _ _) _) _) _ _ _)); (fail_if_success (with_reducible show wpAny _ _ (compareOp CmpOp.NotEq _ _) _ _ _)); (fail_if_success (with_reducible show wpAny _ _ (subscriptTail _ _ (Value.ref _) (Value.int _ _)) _ _ _)); (fail_if_success (with_reducible show wpAny _ _ (PySem.call (Value.builtin "divmod") _ _) _ _ _)); (fail_if_success (with_reducible show wpAny _ _ (PySem.call (Value.builtin "len") _ _) _ _ _)); first | (k_unfold; (try dsimp only)) | walk1 | (dsimp only; walk1) | (leave1; (try dsimp only))))
  refine item_strs N0 hZD hdue (by omega) hdk fun t1 => ?_
  (repeat' ((fail_if_success (with_reducible show wpAny _ _ (exec (Stmt.For _ _ _ _ _) _) _ _ _)); (fail_if_success (with_reducible show wpAny _ _ (pyIter _) _ _ _)); (fail_if_success (with_reducible show wpAny _ _ (PySem.call (Value.ref _) _ _) _ _ _)); (fail_if_success (with_reducible show wpAny _ _ (compareOp CmpOp.NotEq (Value.str _ _) (Value.str _ _)) _ _ _)); (fail_if_success (with_reducible show wpAny _ _ (PySem.call (Value.builtin "str.join") _ _) _ _ _)); (fail_if_success (with_reducible show wpAny _ _ (PySem.call (Value.builtin "str.split") _ _) _ _ _)); (fail_if_success (with_reducible show wpAny _ _ (PySem.call (Value.builtin "list.append") _ _) _ _ _)); (fail_if_success (with_reducible show wpAny _ _ (eval (Expr.ListComp _ _ _ _) _) _ _ _)); (fail_if_success (with_reducible show wpAny _ _ (exec (Stmt.Assign _ (Expr.ListComp _ _ _ _) _) _) _ _ _)); (fail_if_success (with_reducible show wpAny _ _ (compareOp CmpOp.NotEq _ _) _ _ _)); (fail_if_success (with_reducible show wpAny _ _ (subscriptTail _ _ (Value.ref _) (Value.int _ _)) _ _ _)); (fail_if_success (with_reducible show wpAny _ _ (PySem.call (Value.builtin "divmod") _ _) _ _ _)); (fail_if_success (with_reducible show wpAny _ _ (PySem.call (Value.builtin "len") _ _) _ _ _)); first | (k_unfold; (try dsimp only)) | walk1 | (dsimp only; walk1) | (leave1; (try dsimp only))))
  refine len_txt rfl (by omega) fun t2 tk2 => ?_
  (repeat' ((fail_if_success (with_reducible show wpAny _ _ (exec (Stmt.For _ _ _ _ _) _) _ _ _)); (fail_if_success (with_reducible show wpAny _ _ (pyIter _) _ _ _)); (fail_if_success (with_reducible show wpAny _ _ (PySem.call (Value.ref _) _ _) _ _ _)); (fail_if_success (with_reducible show wpAny _ _ (compareOp CmpOp.NotEq (Value.str _ _) (Value.str _ _)) _ _ _)); (fail_if_success (with_reducible show wpAny _ _ (PySem.call (Value.builtin "str.join") _ _) _ _ _)); (fail_if_success (with_reducible show wpAny _ _ (PySem.call (Value.builtin "str.split") _ _) _ _ _)); (fail_if_success (with_reducible show wpAny _ _ (PySem.call (Value.builtin "list.append") _ _) _ _ _)); (fail_if_success (with_reducible show wpAny _ _ (eval (Expr.ListComp _ _ _ _) _) _ _ _)); (fail_if_success (with_reducible show wpAny _ _ (exec (Stmt.Assign _ (Expr.ListComp _ _ _ _) _) _) _ _ _)); (fail_if_success (with_reducible show wpAny _ _ (compareOp CmpOp.NotEq _ _) _ _ _)); (fail_if_success (with_reducible show wpAny _ _ (subscriptTail _ _ (Value.ref _) (Value.int _ _)) _ _ _)); (fail_if_success (with_reducible show wpAny _ _ (PySem.call (Value.builtin "divmod") _ _) _ _ _)); (fail_if_success (with_reducible show wpAny _ _ (PySem.call (Value.builtin "len") _ _) _ _ _)); first | (k_unfold; (try dsimp only)) | walk1 | (dsimp only; walk1) | (leave1; (try dsimp only))))
  rename Fr _ _ _ _ => F5
  rename News _ _ _ _ => N5
  refine divmod_nat F5 N5 (by omega) (by omega) fun a b Dv tv1 tv2 hv tkv ha1 hb1 Fv Nv => ?_
  clear F5 N5
  have hwh : a ≤ 60 := by rw [ha1]; exact Nat.le_trans (Nat.div_le_self _ _) (by omega)
  have hov : b ≤ 60 := by rw [hb1]; exact Nat.le_trans (Nat.mod_le _ _) (by omega)
  have hbl : (backR sz row).length ≤ 200 := by
    simp only [backR, lvl, List.length_append, List.length_replicate, List.length_cons, List.length_nil]
    rw [← ha1, ← hb1]; omega
  have htm := row_tame (List.mem_of_getElem? hrow)
  obtain ⟨mm, hmm, hz⟩ : ∃ mm, ms[kk]? = some mm ∧ mm.z = wsOf (row ++ [9, 32, 98]) := by
    have h1 : (ms.map (·.z))[kk]? = some (wsOf (row ++ [9, 32, 98])) := by rw [hms2, List.getElem?_map, hrow]; rfl
    rw [List.getElem?_map] at h1
    exact Option.map_eq_some_iff.mp h1
  have hmem := List.mem_of_getElem? hmm
  have hmr : (ms.map fun m => Value.ref m.a)[kk]? = some (.ref mm.a) := by rw [List.getElem?_map, hmm]; rfl
  have hob : ∀ q ∈ mm.k.objs w mm.a mm.z, q ∈ Z := fun q hq => hZm q (List.mem_flatMap.mpr ⟨mm, hmem, hq⟩)
  have hk1 := hob _ (List.Mem.head _)
  have hk2 := hob _ (List.Mem.tail _ (List.Mem.head _))
  have hZM' : (Mk, ({ cls := .type "list", data := .seq (ms.map fun m => Value.ref m.a).toArray (ms.map fun m => Value.ref m.a).length } : Obj)) ∈ Z := hZM
  (repeat' ((fail_if_success (with_reducible show wpAny _ _ (exec (Stmt.For _ _ _ _ _) _) _ _ _)); (fail_if_success (with_reducible show wpAny _ _ (pyIter _) _ _ _)); (fail_if_success (with_reducible show wpAny _ _ (PySem.call (Value.ref _) _ _) _ _ _)); (fail_if_success (with_reducible show wpAny _ _ (compareOp CmpOp.NotEq (Value.str _ _) (Value.str _ _)) _ _ _)); (fail_if_success (with_reducible show wpAny _ _ (PySem.call (Value.builtin "str.join") _ _) _ _ _)); (fail_if_success (with_reducible show wpAny _ _ (PySem.call (Value.builtin "str.split") _ _) _ _ _)); (fail_if_success (with_reducible show wpAny _ _ (PySem.call (Value.builtin "list.append") _ _) _ _ _)); (fail_if_success (with_reducible show wpAny _ _ (eval (Expr.ListComp _ _ _ _) _) _ _ _)); (fail_if_success (with_reducible show wpAny _ _ (exec (Stmt.Assign _ (Expr.ListComp _ _ _ _) _) _) _ _ _)); (fail_if_success (with_reducible show wpAny _ _ (compareOp CmpOp.NotEq _ _) _ _ _)); (fail_if_success (with_reducible show wpAny _ _ (subscriptTail _ _ (Value.ref _) (Value.int _ _)) _ _ _)); (fail_if_success (with_reducible show wpAny _ _ (PySem.call (Value.builtin "divmod") _ _) _ _ _)); (fail_if_success (with_reducible show wpAny _ _ (PySem.call (Value.builtin "len") _ _) _ _ _)); first | (k_unfold; (try dsimp only)) | walk1 | (dsimp only; walk1) | (leave1; (try dsimp only))))
  · rename Fr _ _ _ _ => F6
    rename News _ _ _ _ => N6
    rename (0 < _) => hpos
    have ha0 : ¬ a = 0 := by omega
    have hwsB : wsOf (backR sz row) = ⟨[((a : Nat) : Int)], b, a + b, a⟩ := by
      rw [hrf.wsB]
      show (⟨if ((wrt sz row).length - 1) / sz = 0 then [] else [((((wrt sz row).length - 1) / sz : Nat) : Int)], ((wrt sz row).length - 1) % sz, ((wrt sz row).length - 1) / sz + ((wrt sz row).length - 1) % sz, ((wrt sz row).length - 1) / sz⟩ : WS) = _
      rw [← ha1, ← hb1, if_neg ha0]

    (repeat' ((fail_if_success (with_reducible show wpAny _ _ (exec (Stmt.For _ _ _ _ _) _) _ _ _)); (fail_if_success (with_reducible show wpAny _ _ (pyIter _) _ _ _)); (fail_if_success (with_reducible show wpAny _ _ (PySem.call (Value.ref _) _ _) _ _ _)); (fail_if_success (with_reducible show wpAny _ _ (compareOp CmpOp.NotEq (Value.str _ _) (Value.str _ _)) _ _ _)); (fail_if_success (with_reducible show wpAny _ _ (PySem.call (Value.builtin "str.join") _ _) _ _ _)); (fail_if_success (with_reducible show wpAny _ _ (PySem.call (Value.builtin "str.split") _ _) _ _ _)); (fail_if_success (with_reducible show wpAny _ _ (PySem.call (Value.builtin "list.append") _ _) _ _ _)); (fail_if_success (with_reducible show wpAny _ _ (eval (Expr.ListComp _ _ _ _) _) _ _ _)); (fail_if_success (with_reducible show wpAny _ _ (exec (Stmt.Assign _ (Expr.ListComp _ _ _ _) _) _) _ _ _)); (fail_if_success (with_reducible show wpAny _ _ (compareOp CmpOp.NotEq _ _) _ _ _)); (fail_if_success (with_reducible show wpAny _ _ (subscriptTail _ _ (Value.ref _) (Value.int _ _)) _ _ _)); (fail_if_success (with_reducible show wpAny _ _ (PySem.call (Value.builtin "divmod") _ _) _ _ _)); (fail_if_success (with_reducible show wpAny _ _ (PySem.call (Value.builtin "len") _ _) _ _ _)); first | (k_unfold; (try dsimp only)) | walk1 | (dsimp only; walk1) | (leave1; (try dsimp only))))
    refine item_refs N6 (by k_mem) (by omega) hmr ?_
    (repeat' ((fail_if_success (with_reducible show wpAny _ _ (exec (Stmt.For _ _ _ _ _) _) _ _ _)); (fail_if_success (with_reducible show wpAny _ _ (pyIter _) _ _ _)); (fail_if_success (with_reducible show wpAny _ _ (PySem.call (Value.ref _) _ _) _ _ _)); (fail_if_success (with_reducible show wpAny _ _ (compareOp CmpOp.NotEq (Value.str _ _) (Value.str _ _)) _ _ _)); (fail_if_success (with_reducible show wpAny _ _ (PySem.call (Value.builtin "str.join") _ _) _ _ _)); (fail_if_success (with_reducible show wpAny _ _ (PySem.call (Value.builtin "str.split") _ _) _ _ _)); (fail_if_success (with_reducible show wpAny _ _ (PySem.call (Value.builtin "list.append") _ _) _ _ _)); (fail_if_success (with_reducible show wpAny _ _ (eval (Expr.ListComp _ _ _ _) _) _ _ _)); (fail_if_success (with_reducible show wpAny _ _ (exec (Stmt.Assign _ (Expr.ListComp _ _ _ _) _) _) _ _ _)); (fail_if_success (with_reducible show wpAny _ _ (compareOp CmpOp.NotEq _ _) _ _ _)); (fail_if_success (with_reducible show wpAny _ _ (subscriptTail _ _ (Value.ref _) (Value.int _ _)) _ _ _)); (fail_if_success (with_reducible show wpAny _ _ (PySem.call (Value.builtin "divmod") _ _) _ _ _)); (fail_if_success (with_reducible show wpAny _ _ (PySem.call (Value.builtin "len") _ _) _ _ _)); first | (k_unfold; (try dsimp only)) | walk1 | (dsimp only; walk1) | (leave1; (try dsimp only))))
    (try dsimp only [List.cons_append, List.nil_append, List.append_nil])
    refine indent_call X T F6.keep (show dp < recursionLimit by omega) rfl ⟨mm.k, (hms1 _ hmem).1, (hms1 _ hmem).2, fun q hq => by
      have hqZ := hob q hq
      exact ⟨(N6 q (by k_mem)).1, (N6 q (by k_mem)).2.2⟩⟩ ⟨hsz.1, by omega⟩ (by rw [hz]; exact htm.c) (by rw [hz]; exact htm.nt) (by rw [hz]; have := htm.b; omega) fun t7 h7 tk7 st7 => ?_
    have F7 := Fr.keeps F6 st7
    have N7 := News.grown N6 st7
    clear F6 N6
    (repeat' ((fail_if_success (with_reducible show wpAny _ _ (exec (Stmt.For _ _ _ _ _) _) _ _ _)); (fail_if_success (with_reducible show wpAny _ _ (pyIter _) _ _ _)); (fail_if_success (with_reducible show wpAny _ _ (PySem.call (Value.ref _) _ _) _ _ _)); (fail_if_success (with_reducible show wpAny _ _ (compareOp CmpOp.NotEq (Value.str _ _) (Value.str _ _)) _ _ _)); (fail_if_success (with_reducible show wpAny _ _ (PySem.call (Value.builtin "str.join") _ _) _ _ _)); (fail_if_success (with_reducible show wpAny _ _ (PySem.call (Value.builtin "str.split") _ _) _ _ _)); (fail_if_success (with_reducible show wpAny _ _ (PySem.call (Value.builtin "list.append") _ _) _ _ _)); (fail_if_success (with_reducible show wpAny _ _ (eval (Expr.ListComp _ _ _ _) _) _ _ _)); (fail_if_success (with_reducible show wpAny _ _ (exec (Stmt.Assign _ (Expr.ListComp _ _ _ _) _) _) _ _ _)); (fail_if_success (with_reducible show wpAny _ _ (compareOp CmpOp.NotEq _ _) _ _ _)); (fail_if_success (with_reducible show wpAny _ _ (subscriptTail _ _ (Value.ref _) (Value.int _ _)) _ _ _)); (fail_if_success (with_reducible show wpAny _ _ (PySem.call (Value.builtin "divmod") _ _) _ _ _)); (fail_if_success (with_reducible show wpAny _ _ (PySem.call (Value.builtin "len") _ _) _ _ _)); first | (k_unfold; (try dsimp only)) | walk1 | (dsimp only; walk1) | (leave1; (try dsimp only))))
    refine ne_intS (by rw [hz]; exact hrf.lev) ?_
    (repeat' ((fail_if_success (with_reducible show wpAny _ _ (exec (Stmt.For _ _ _ _ _) _) _ _ _)); (fail_if_success (with_reducible show wpAny _ _ (pyIter _) _ _ _)); (fail_if_success (with_reducible show wpAny _ _ (PySem.call (Value.ref _) _ _) _ _ _)); (fail_if_success (with_reducible show wpAny _ _ (compareOp CmpOp.NotEq (Value.str _ _) (Value.str _ _)) _ _ _)); (fail_if_success (with_reducible show wpAny _ _ (PySem.call (Value.builtin "str.join") _ _) _ _ _)); (fail_if_success (with_reducible show wpAny _ _ (PySem.call (Value.builtin "str.split") _ _) _ _ _)); (fail_if_success (with_reducible show wpAny _ _ (PySem.call (Value.builtin "list.append") _ _) _ _ _)); (fail_if_success (with_reducible show wpAny _ _ (eval (Expr.ListComp _ _ _ _) _) _ _ _)); (fail_if_success (with_reducible show wpAny _ _ (exec (Stmt.Assign _ (Expr.ListComp _ _ _ _) _) _) _ _ _)); (fail_if_success (with_reducible show wpAny _ _ (compareOp CmpOp.NotEq _ _) _ _ _)); (fail_if_success (with_reducible show wpAny _ _ (subscriptTail _ _ (Value.ref _) (Value.int _ _)) _ _ _)); (fail_if_success (with_reducible show wpAny _ _ (PySem.call (Value.builtin "divmod") _ _) _ _ _)); (fail_if_success (with_reducible show wpAny _ _ (PySem.call (Value.builtin "len") _ _) _ _ _)); first | (k_unfold; (try dsimp only)) | walk1 | (dsimp only; walk1) | (leave1; (try dsimp only))))
    refine item_strs N7 (by k_mem) hdue (by omega) hdk fun t8 => ?_
    (repeat' ((fail_if_success (with_reducible show wpAny _ _ (exec (Stmt.For _ _ _ _ _) _) _ _ _)); (fail_if_success (with_reducible show wpAny _ _ (pyIter _) _ _ _)); (fail_if_success (with_reducible show wpAny _ _ (PySem.call (Value.ref _) _ _) _ _ _)); (fail_if_success (with_reducible show wpAny _ _ (compareOp CmpOp.NotEq (Value.str _ _) (Value.str _ _)) _ _ _)); (fail_if_success (with_reducible show wpAny _ _ (PySem.call (Value.builtin "str.join") _ _) _ _ _)); (fail_if_success (with_reducible show wpAny _ _ (PySem.call (Value.builtin "str.split") _ _) _ _ _)); (fail_if_success (with_reducible show wpAny _ _ (PySem.call (Value.builtin "list.append") _ _) _ _ _)); (fail_if_success (with_reducible show wpAny _ _ (eval (Expr.ListComp _ _ _ _) _) _ _ _)); (fail_if_success (with_reducible show wpAny _ _ (exec (Stmt.Assign _ (Expr.ListComp _ _ _ _) _) _) _ _ _)); (fail_if_success (with_reducible show wpAny _ _ (compareOp CmpOp.NotEq _ _) _ _ _)); (fail_if_success (with_reducible show wpAny _ _ (subscriptTail _ _ (Value.ref _) (Value.int _ _)) _ _ _)); (fail_if_success (with_reducible show wpAny _ _ (PySem.call (Value.builtin "divmod") _ _) _ _ _)); (fail_if_success (with_reducible show wpAny _ _ (PySem.call (Value.builtin "len") _ _) _ _ _)); first | (k_unfold; (try dsimp only)) | walk1 | (dsimp only; walk1) | (leave1; (try dsimp only))))
    refine ws_call X T F7.keep (show dp + 1 < recursionLimit by omega) rfl (by omega) fun x9 h9 tk9 st9 hM9 => ?_
    rw [hrf.wsW] at hM9
    obtain ⟨M9, hi9, hl9, hq9⟩ := hM9
    have F9 := Fr.keeps F7 st9
    have N9 := news_adds F7 (News.grown N7 st9) hq9
    have hb9 : ∀ q ∈ M9.objs w x9 ⟨[], lvl sz row, lvl sz row, 0⟩, h9.get? q.1 = some q.2 ∧ hb.get? q.1 = none := fun q hq => ⟨(hq9 q hq).1, (N9 q (List.mem_append_left _ hq)).2.2⟩
    clear F7 N7
    have N9u := N9
    unfold MK.objs at N9u
    dsimp only [List.cons_append, List.nil_append] at N9u
    clear N9
    (repeat' ((fail_if_success (with_reducible show wpAny _ _ (exec (Stmt.For _ _ _ _ _) _) _ _ _)); (fail_if_success (with_reducible show wpAny _ _ (pyIter _) _ _ _)); (fail_if_success (with_reducible show wpAny _ _ (PySem.call (Value.ref _) _ _) _ _ _)); (fail_if_success (with_reducible show wpAny _ _ (compareOp CmpOp.NotEq (Value.str _ _) (Value.str _ _)) _ _ _)); (fail_if_success (with_reducible show wpAny _ _ (PySem.call (Value.builtin "str.join") _ _) _ _ _)); (fail_if_success (with_reducible show wpAny _ _ (PySem.call (Value.builtin "str.split") _ _) _ _ _)); (fail_if_success (with_reducible show wpAny _ _ (PySem.call (Value.builtin "list.append") _ _) _ _ _)); (fail_if_success (with_reducible show wpAny _ _ (eval (Expr.ListComp _ _ _ _) _) _ _ _)); (fail_if_success (with_reducible show wpAny _ _ (exec (Stmt.Assign _ (Expr.ListComp _ _ _ _) _) _) _ _ _)); (fail_if_success (with_reducible show wpAny _ _ (compareOp CmpOp.NotEq _ _) _ _ _)); (fail_if_success (with_reducible show wpAny _ _ (subscriptTail _ _ (Value.ref _) (Value.int _ _)) _ _ _)); (fail_if_success (with_reducible show wpAny _ _ (PySem.call (Value.builtin "divmod") _ _) _ _ _)); (fail_if_success (with_reducible show wpAny _ _ (PySem.call (Value.builtin "len") _ _) _ _ _)); first | (k_unfold; (try dsimp only)) | walk1 | (dsimp only; walk1) | (leave1; (try dsimp only))))
    refine members_call M9 X T F9.keep (show dp < recursionLimit by omega) rfl hi9 hl9 hb9 fun Da ha tka sta hDa hDna => ?_
    have Fa := Fr.keeps F9 sta
    have Na := news_add F9 (News.grown N9u sta) hDa hDna
    clear F9 N9u
    (repeat' ((fail_if_success (with_reducible show wpAny _ _ (exec (Stmt.For _ _ _ _ _) _) _ _ _)); (fail_if_success (with_reducible show wpAny _ _ (pyIter _) _ _ _)); (fail_if_success (with_reducible show wpAny _ _ (PySem.call (Value.ref _) _ _) _ _ _)); (fail_if_success (with_reducible show wpAny _ _ (compareOp CmpOp.NotEq (Value.str _ _) (Value.str _ _)) _ _ _)); (fail_if_success (with_reducible show wpAny _ _ (PySem.call (Value.builtin "str.join") _ _) _ _ _)); (fail_if_success (with_reducible show wpAny _ _ (PySem.call (Value.builtin "str.split") _ _) _ _ _)); (fail_if_success (with_reducible show wpAny _ _ (PySem.call (Value.builtin "list.append") _ _) _ _ _)); (fail_if_success (with_reducible show wpAny _ _ (eval (Expr.ListComp _ _ _ _) _) _ _ _)); (fail_if_success (with_reducible show wpAny _ _ (exec (Stmt.Assign _ (Expr.ListComp _ _ _ _) _) _) _ _ _)); (fail_if_success (with_reducible show wpAny _ _ (compareOp CmpOp.NotEq _ _) _ _ _)); (fail_if_success (with_reducible show wpAny _ _ (subscriptTail _ _ (Value.ref _) (Value.int _ _)) _ _ _)); (fail_if_success (with_reducible show wpAny _ _ (PySem.call (Value.builtin "divmod") _ _) _ _ _)); (fail_if_success (with_reducible show wpAny _ _ (PySem.call (Value.builtin "len") _ _) _ _ _)); first | (k_unfold; (try dsimp only)) | walk1 | (dsimp only; walk1) | (leave1; (try dsimp only))))
    rename Fr _ _ _ _ => Fb
    rename News _ _ _ _ => Nb
    refine ne_dataF (memb_reads M9 hi9 (fun q hq => (Nb q (by
      simp only [MK.objs, List.mem_cons, List.not_mem_nil, or_false] at hq
      rcases hq with rfl | rfl | rfl | rfl <;> k_mem)).1) (Nb (Da, _) (by k_mem)).1) (by ked_read) (memb_shaped _) (by ked_shaped) (by show uns + 64 < cLine; omega) (by simp [membD, normD, lvl, PyData.eqv, PyData.eqvAll]) ?_
    (repeat' ((fail_if_success (with_reducible show wpAny _ _ (exec (Stmt.For _ _ _ _ _) _) _ _ _)); (fail_if_success (with_reducible show wpAny _ _ (pyIter _) _ _ _)); (fail_if_success (with_reducible show wpAny _ _ (PySem.call (Value.ref _) _ _) _ _ _)); (fail_if_success (with_reducible show wpAny _ _ (compareOp CmpOp.NotEq (Value.str _ _) (Value.str _ _)) _ _ _)); (fail_if_success (with_reducible show wpAny _ _ (PySem.call (Value.builtin "str.join") _ _) _ _ _)); (fail_if_success (with_reducible show wpAny _ _ (PySem.call (Value.builtin "str.split") _ _) _ _ _)); (fail_if_success (with_reducible show wpAny _ _ (PySem.call (Value.builtin "list.append") _ _) _ _ _)); (fail_if_success (with_reducible show wpAny _ _ (eval (Expr.ListComp _ _ _ _) _) _ _ _)); (fail_if_success (with_reducible show wpAny _ _ (exec (Stmt.Assign _ (Expr.ListComp _ _ _ _) _) _) _ _ _)); (fail_if_success (with_reducible show wpAny _ _ (compareOp CmpOp.NotEq _ _) _ _ _)); (fail_if_success (with_reducible show wpAny _ _ (subscriptTail _ _ (Value.ref _) (Value.int _ _)) _ _ _)); (fail_if_success (with_reducible show wpAny _ _ (PySem.call (Value.builtin "divmod") _ _) _ _ _)); (fail_if_success (with_reducible show wpAny _ _ (PySem.call (Value.builtin "len") _ _) _ _ _)); first | (k_unfold; (try dsimp only)) | walk1 | (dsimp only; walk1) | (leave1; (try dsimp only))))
    refine item_strs Nb (by k_mem) hback (by omega) hbk fun tc => ?_
    (repeat' ((fail_if_success (with_reducible show wpAny _ _ (exec (Stmt.For _ _ _ _ _) _) _ _ _)); (fail_if_success (with_reducible show wpAny _ _ (pyIter _) _ _ _)); (fail_if_success (with_reducible show wpAny _ _ (PySem.call (Value.ref _) _ _) _ _ _)); (fail_if_success (with_reducible show wpAny _ _ (compareOp CmpOp.NotEq (Value.str _ _) (Value.str _ _)) _ _ _)); (fail_if_success (with_reducible show wpAny _ _ (PySem.call (Value.builtin "str.join") _ _) _ _ _)); (fail_if_success (with_reducible show wpAny _ _ (PySem.call (Value.builtin "str.split") _ _) _ _ _)); (fail_if_success (with_reducible show wpAny _ _ (PySem.call (Value.builtin "list.append") _ _) _ _ _)); (fail_if_success (with_reducible show wpAny _ _ (eval (Expr.ListComp _ _ _ _) _) _ _ _)); (fail_if_success (with_reducible show wpAny _ _ (exec (Stmt.Assign _ (Expr.ListComp _ _ _ _) _) _) _ _ _)); (fail_if_success (with_reducible show wpAny _ _ (compareOp CmpOp.NotEq _ _) _ _ _)); (fail_if_success (with_reducible show wpAny _ _ (subscriptTail _ _ (Value.ref _) (Value.int _ _)) _ _ _)); (fail_if_success (with_reducible show wpAny _ _ (PySem.call (Value.builtin "divmod") _ _) _ _ _)); (fail_if_success (with_reducible show wpAny _ _ (PySem.call (Value.builtin "len") _ _) _ _ _)); first | (k_unfold; (try dsimp only)) | walk1 | (dsimp only; walk1) | (leave1; (try dsimp only))))
    refine ne_same (by rw [Int.toNat_natCast, Int.toNat_natCast]; unfold backR lvl; rw [← ha1, ← hb1]) ?_
    (repeat' ((fail_if_success (with_reducible show wpAny _ _ (exec (Stmt.For _ _ _ _ _) _) _ _ _)); (fail_if_success (with_reducible show wpAny _ _ (pyIter _) _ _ _)); (fail_if_success (with_reducible show wpAny _ _ (PySem.call (Value.ref _) _ _) _ _ _)); (fail_if_success (with_reducible show wpAny _ _ (compareOp CmpOp.NotEq (Value.str _ _) (Value.str _ _)) _ _ _)); (fail_if_success (with_reducible show wpAny _ _ (PySem.call (Value.builtin "str.join") _ _) _ _ _)); (fail_if_success (with_reducible show wpAny _ _ (PySem.call (Value.builtin "str.split") _ _) _ _ _)); (fail_if_success (with_reducible show wpAny _ _ (PySem.call (Value.builtin "list.append") _ _) _ _ _)); (fail_if_success (with_reducible show wpAny _ _ (eval (Expr.ListComp _ _ _ _) _) _ _ _)); (fail_if_success (with_reducible show wpAny _ _ (exec (Stmt.Assign _ (Expr.ListComp _ _ _ _) _) _) _ _ _)); (fail_if_success (with_reducible show wpAny _ _ (compareOp CmpOp.NotEq _ _) _ _ _)); (fail_if_success (with_reducible show wpAny _ _ (subscriptTail _ _ (Value.ref _) (Value.int _ _)) _ _ _)); (fail_if_success (with_reducible show wpAny _ _ (PySem.call (Value.builtin "divmod") _ _) _ _ _)); (fail_if_success (with_reducible show wpAny _ _ (PySem.call (Value.builtin "len") _ _) _ _ _)); first | (k_unfold; (try dsimp only)) | walk1 | (dsimp only; walk1) | (leave1; (try dsimp only))))
    refine item_strs Nb (by k_mem) hback (by omega) hbk fun td => ?_
    (repeat' ((fail_if_success (with_reducible show wpAny _ _ (exec (Stmt.For _ _ _ _ _) _) _ _ _)); (fail_if_success (with_reducible show wpAny _ _ (pyIter _) _ _ _)); (fail_if_success (with_reducible show wpAny _ _ (PySem.call (Value.ref _) _ _) _ _ _)); (fail_if_success (with_reducible show wpAny _ _ (compareOp CmpOp.NotEq (Value.str _ _) (Value.str _ _)) _ _ _)); (fail_if_success (with_reducible show wpAny _ _ (PySem.call (Value.builtin "str.join") _ _) _ _ _)); (fail_if_success (with_reducible show wpAny _ _ (PySem.call (Value.builtin "str.split") _ _) _ _ _)); (fail_if_success (with_reducible show wpAny _ _ (PySem.call (Value.builtin "list.append") _ _) _ _ _)); (fail_if_success (with_reducible show wpAny _ _ (eval (Expr.ListComp _ _ _ _) _) _ _ _)); (fail_if_success (with_reducible show wpAny _ _ (exec (Stmt.Assign _ (Expr.ListComp _ _ _ _) _) _) _ _ _)); (fail_if_success (with_reducible show wpAny _ _ (compareOp CmpOp.NotEq _ _) _ _ _)); (fail_if_success (with_reducible show wpAny _ _ (subscriptTail _ _ (Value.ref _) (Value.int _ _)) _ _ _)); (fail_if_success (with_reducible show wpAny _ _ (PySem.call (Value.builtin "divmod") _ _) _ _ _)); (fail_if_success (with_reducible show wpAny _ _ (PySem.call (Value.builtin "len") _ _) _ _ _)); first | (k_unfold; (try dsimp only)) | walk1 | (dsimp only; walk1) | (leave1; (try dsimp only))))
    refine ws_call X T Fb.keep (show dp + 1 < recursionLimit by omega) rfl hbl fun xe he tke ste hMe => ?_
    rw [hwsB] at hMe
    obtain ⟨Me, hie, hle, hqe⟩ := hMe
    have Fe := Fr.keeps Fb ste
    have Ne := news_adds Fb (News.grown Nb ste) hqe
    have hbe : ∀ q ∈ Me.objs w xe ⟨[((a : Nat) : Int)], b, a + b, a⟩, he.get? q.1 = some q.2 ∧ hb.get? q.1 = none := fun q hq => ⟨(hqe q hq).1, (Ne q (List.mem_append_left _ hq)).2.2⟩
    clear Fb Nb
    have Neu := Ne
    unfold MK.objs at Neu
    dsimp only [List.cons_append, List.nil_append] at Neu
    clear Ne
    (repeat' ((fail_if_success (with_reducible show wpAny _ _ (exec (Stmt.For _ _ _ _ _) _) _ _ _)); (fail_if_success (with_reducible show wpAny _ _ (pyIter _) _ _ _)); (fail_if_success (with_reducible show wpAny _ _ (PySem.call (Value.ref _) _ _) _ _ _)); (fail_if_success (with_reducible show wpAny _ _ (compareOp CmpOp.NotEq (Value.str _ _) (Value.str _ _)) _ _ _)); (fail_if_success (with_reducible show wpAny _ _ (PySem.call (Value.builtin "str.join") _ _) _ _ _)); (fail_if_success (with_reducible show wpAny _ _ (PySem.call (Value.builtin "str.split") _ _) _ _ _)); (fail_if_success (with_reducible show wpAny _ _ (PySem.call (Value.builtin "list.append") _ _) _ _ _)); (fail_if_success (with_reducible show wpAny _ _ (eval (Expr.ListComp _ _ _ _) _) _ _ _)); (fail_if_success (with_reducible show wpAny _ _ (exec (Stmt.Assign _ (Expr.ListComp _ _ _ _) _) _) _ _ _)); (fail_if_success (with_reducible show wpAny _ _ (compareOp CmpOp.NotEq _ _) _ _ _)); (fail_if_success (with_reducible show wpAny _ _ (subscriptTail _ _ (Value.ref _) (Value.int _ _)) _ _ _)); (fail_if_success (with_reducible show wpAny _ _ (PySem.call (Value.builtin "divmod") _ _) _ _ _)); (fail_if_success (with_reducible show wpAny _ _ (PySem.call (Value.builtin "len") _ _) _ _ _)); first | (k_unfold; (try dsimp only)) | walk1 | (dsimp only; walk1) | (leave1; (try dsimp only))))
    refine members_call Me X T Fe.keep (show dp < recursionLimit by omega) rfl hie hle hbe fun Df hf tkf stf hDf hDnf => ?_
    have Ff := Fr.keeps Fe stf
    have Nf := news_add Fe (News.grown Neu stf) hDf hDnf
    clear Fe Neu
    (repeat' ((fail_if_success (with_reducible show wpAny _ _ (exec (Stmt.For _ _ _ _ _) _) _ _ _)); (fail_if_success (with_reducible show wpAny _ _ (pyIter _) _ _ _)); (fail_if_success (with_reducible show wpAny _ _ (PySem.call (Value.ref _) _ _) _ _ _)); (fail_if_success (with_reducible show wpAny _ _ (compareOp CmpOp.NotEq (Value.str _ _) (Value.str _ _)) _ _ _)); (fail_if_success (with_reducible show wpAny _ _ (PySem.call (Value.builtin "str.join") _ _) _ _ _)); (fail_if_success (with_reducible show wpAny _ _ (PySem.call (Value.builtin "str.split") _ _) _ _ _)); (fail_if_success (with_reducible show wpAny _ _ (PySem.call (Value.builtin "list.append") _ _) _ _ _)); (fail_if_success (with_reducible show wpAny _ _ (eval (Expr.ListComp _ _ _ _) _) _ _ _)); (fail_if_success (with_reducible show wpAny _ _ (exec (Stmt.Assign _ (Expr.ListComp _ _ _ _) _) _) _ _ _)); (fail_if_success (with_reducible show wpAny _ _ (compareOp CmpOp.NotEq _ _) _ _ _)); (fail_if_success (with_reducible show wpAny _ _ (subscriptTail _ _ (Value.ref _) (Value.int _ _)) _ _ _)); (fail_if_success (with_reducible show wpAny _ _ (PySem.call (Value.builtin "divmod") _ _) _ _ _)); (fail_if_success (with_reducible show wpAny _ _ (PySem.call (Value.builtin "len") _ _) _ _ _)); first | (k_unfold; (try dsimp only)) | walk1 | (dsimp only; walk1) | (leave1; (try dsimp only))))
    rename Fr _ _ _ _ => Fg
    rename News _ _ _ _ => Ng
    refine ne_dataF (memb_reads Me hie (fun q hq => (Ng q (by
      simp only [MK.objs, List.mem_cons, List.not_mem_nil, or_false] at hq
      rcases hq with rfl | rfl | rfl | rfl <;> k_mem)).1) (Ng (Df, _) (by k_mem)).1) (by ked_read) (memb_shaped _) (by ked_shaped) (by show uns + 64 < cLine; omega) (by simp [membD, normD, PyData.eqv, PyData.eqvAll]) ?_
    (repeat' ((fail_if_success (with_reducible show wpAny _ _ (exec (Stmt.For _ _ _ _ _) _) _ _ _)); (fail_if_success (with_reducible show wpAny _ _ (pyIter _) _ _ _)); (fail_if_success (with_reducible show wpAny _ _ (PySem.call (Value.ref _) _ _) _ _ _)); (fail_if_success (with_reducible show wpAny _ _ (compareOp CmpOp.NotEq (Value.str _ _) (Value.str _ _)) _ _ _)); (fail_if_success (with_reducible show wpAny _ _ (PySem.call (Value.builtin "str.join") _ _) _ _ _)); (fail_if_success (with_reducible show wpAny _ _ (PySem.call (Value.builtin "str.split") _ _) _ _ _)); (fail_if_success (with_reducible show wpAny _ _ (PySem.call (Value.builtin "list.append") _ _) _ _ _)); (fail_if_success (with_reducible show wpAny _ _ (eval (Expr.ListComp _ _ _ _) _) _ _ _)); (fail_if_success (with_reducible show wpAny _ _ (exec (Stmt.Assign _ (Expr.ListComp _ _ _ _) _) _) _ _ _)); (fail_if_success (with_reducible show wpAny _ _ (compareOp CmpOp.NotEq _ _) _ _ _)); (fail_if_success (with_reducible show wpAny _ _ (subscriptTail _ _ (Value.ref _) (Value.int _ _)) _ _ _)); (fail_if_success (with_reducible show wpAny _ _ (PySem.call (Value.builtin "divmod") _ _) _ _ _)); (fail_if_success (with_reducible show wpAny _ _ (PySem.call (Value.builtin "len") _ _) _ _ _)); first | (k_unfold; (try dsimp only)) | walk1 | (dsimp only; walk1) | (leave1; (try dsimp only))))
    refine hQ _ _ _ Fg (fun y y1 y2 y3 y4 => ?_) fun q hq => Ng q (by k_mem)
    simp only [y1, y2, y3, y4, if_false]
    by_cases z1 : y = Str.ofString "back"
    · subst z1; simp [hm4]
    · by_cases z2 : y = Str.ofString "due"
      · subst z2; simp [hm3, z1]
      · by_cases z3 : y = Str.ofString "marks"
        · subst z3; simp [hm2, z1, z2]
        · by_cases z4 : y = Str.ofString "k"
          · subst z4; simp [hm1, z1, z2, z3]
          · simp only [z1, z2, z3, z4, if_false]
  · rename Fr _ _ _ _ => F6
    rename News _ _ _ _ => N6
    rename (¬ (0 < _)) => hpos
    have ha0 : a = 0 := by omega
    have hwsB : wsOf (backR sz row) = ⟨[], b, a + b, a⟩ := by
      rw [hrf.wsB]
      show (⟨if ((wrt sz row).length - 1) / sz = 0 then [] else [((((wrt sz row).length - 1) / sz : Nat) : Int)], ((wrt sz row).length - 1) % sz, ((wrt sz row).length - 1) / sz + ((wrt sz row).length - 1) % sz, ((wrt sz row).length - 1) / sz⟩ : WS) = _
      rw [← ha1, ← hb1, if_pos ha0]

    (repeat' ((fail_if_success (with_reducible show wpAny _ _ (exec (Stmt.For _ _ _ _ _) _) _ _ _)); (fail_if_success (with_reducible show wpAny _ _ (pyIter _) _ _ _)); (fail_if_success (with_reducible show wpAny _ _ (PySem.call (Value.ref _) _ _) _ _ _)); (fail_if_success (with_reducible show wpAny _ _ (compareOp CmpOp.NotEq (Value.str _ _) (Value.str _ _)) _ _ _)); (fail_if_success (with_reducible show wpAny _ _ (PySem.call (Value.builtin "str.join") _ _) _ _ _)); (fail_if_success (with_reducible show wpAny _ _ (PySem.call (Value.builtin "str.split") _ _) _ _ _)); (fail_if_success (with_reducible show wpAny _ _ (PySem.call (Value.builtin "list.append") _ _) _ _ _)); (fail_if_success (with_reducible show wpAny _ _ (eval (Expr.ListComp _ _ _ _) _) _ _ _)); (fail_if_success (with_reducible show wpAny _ _ (exec (Stmt.Assign _ (Expr.ListComp _ _ _ _) _) _) _ _ _)); (fail_if_success (with_reducible show wpAny _ _ (compareOp CmpOp.NotEq _ _) _ _ _)); (fail_if_success (with_reducible show wpAny _ _ (subscriptTail _ _ (Value.ref _) (Value.int _ _)) _ _ _)); (fail_if_success (with_reducible show wpAny _ _ (PySem.call (Value.builtin "divmod") _ _) _ _ _)); (fail_if_success (with_reducible show wpAny _ _ (PySem.call (Value.builtin "len") _ _) _ _ _)); first | (k_unfold; (try dsimp only)) | walk1 | (dsimp only; walk1) | (leave1; (try dsimp only))))
    refine item_refs N6 (by k_mem) (by omega) hmr ?_
    (repeat' ((fail_if_success (with_reducible show wpAny _ _ (exec (Stmt.For _ _ _ _ _) _) _ _ _)); (fail_if_success (with_reducible show wpAny _ _ (pyIter _) _ _ _)); (fail_if_success (with_reducible show wpAny _ _ (PySem.call (Value.ref _) _ _) _ _ _)); (fail_if_success (with_reducible show wpAny _ _ (compareOp CmpOp.NotEq (Value.str _ _) (Value.str _ _)) _ _ _)); (fail_if_success (with_reducible show wpAny _ _ (PySem.call (Value.builtin "str.join") _ _) _ _ _)); (fail_if_success (with_reducible show wpAny _ _ (PySem.call (Value.builtin "str.split") _ _) _ _ _)); (fail_if_success (with_reducible show wpAny _ _ (PySem.call (Value.builtin "list.append") _ _) _ _ _)); (fail_if_success (with_reducible show wpAny _ _ (eval (Expr.ListComp _ _ _ _) _) _ _ _)); (fail_if_success (with_reducible show wpAny _ _ (exec (Stmt.Assign _ (Expr.ListComp _ _ _ _) _) _) _ _ _)); (fail_if_success (with_reducible show wpAny _ _ (compareOp CmpOp.NotEq _ _) _ _ _)); (fail_if_success (with_reducible show wpAny _ _ (subscriptTail _ _ (Value.ref _) (Value.int _ _)) _ _ _)); (fail_if_success (with_reducible show wpAny _ _ (PySem.call (Value.builtin "divmod") _ _) _ _ _)); (fail_if_success (with_reducible show wpAny _ _ (PySem.call (Value.builtin "len") _ _) _ _ _)); first | (k_unfold; (try dsimp only)) | walk1 | (dsimp only; walk1) | (leave1; (try dsimp only))))
    (try dsimp only [List.cons_append, List.nil_append, List.append_nil])
    refine indent_call X T F6.keep (show dp < recursionLimit by omega) rfl ⟨mm.k, (hms1 _ hmem).1, (hms1 _ hmem).2, fun q hq => by
      have hqZ := hob q hq
      exact ⟨(N6 q (by k_mem)).1, (N6 q (by k_mem)).2.2⟩⟩ ⟨hsz.1, by omega⟩ (by rw [hz]; exact htm.c) (by rw [hz]; exact htm.nt) (by rw [hz]; have := htm.b; omega) fun t7 h7 tk7 st7 => ?_
    have F7 := Fr.keeps F6 st7
    have N7 := News.grown N6 st7
    clear F6 N6
    (repeat' ((fail_if_success (with_reducible show wpAny _ _ (exec (Stmt.For _ _ _ _ _) _) _ _ _)); (fail_if_success (with_reducible show wpAny _ _ (pyIter _) _ _ _)); (fail_if_success (with_reducible show wpAny _ _ (PySem.call (Value.ref _) _ _) _ _ _)); (fail_if_success (with_reducible show wpAny _ _ (compareOp CmpOp.NotEq (Value.str _ _) (Value.str _ _)) _ _ _)); (fail_if_success (with_reducible show wpAny _ _ (PySem.call (Value.builtin "str.join") _ _) _ _ _)); (fail_if_success (with_reducible show wpAny _ _ (PySem.call (Value.builtin "str.split") _ _) _ _ _)); (fail_if_success (with_reducible show wpAny _ _ (PySem.call (Value.builtin "list.append") _ _) _ _ _)); (fail_if_success (with_reducible show wpAny _ _ (eval (Expr.ListComp _ _ _ _) _) _ _ _)); (fail_if_success (with_reducible show wpAny _ _ (exec (Stmt.Assign _ (Expr.ListComp _ _ _ _) _) _) _ _ _)); (fail_if_success (with_reducible show wpAny _ _ (compareOp CmpOp.NotEq _ _) _ _ _)); (fail_if_success (with_reducible show wpAny _ _ (subscriptTail _ _ (Value.ref _) (Value.int _ _)) _ _ _)); (fail_if_success (with_reducible show wpAny _ _ (PySem.call (Value.builtin "divmod") _ _) _ _ _)); (fail_if_success (with_reducible show wpAny _ _ (PySem.call (Value.builtin "len") _ _) _ _ _)); first | (k_unfold; (try dsimp only)) | walk1 | (dsimp only; walk1) | (leave1; (try dsimp only))))
    refine ne_intS (by rw [hz]; exact hrf.lev) ?_
    (repeat' ((fail_if_success (with_reducible show wpAny _ _ (exec (Stmt.For _ _ _ _ _) _) _ _ _)); (fail_if_success (with_reducible show wpAny _ _ (pyIter _) _ _ _)); (fail_if_success (with_reducible show wpAny _ _ (PySem.call (Value.ref _) _ _) _ _ _)); (fail_if_success (with_reducible show wpAny _ _ (compareOp CmpOp.NotEq (Value.str _ _) (Value.str _ _)) _ _ _)); (fail_if_success (with_reducible show wpAny _ _ (PySem.call (Value.builtin "str.join") _ _) _ _ _)); (fail_if_success (with_reducible show wpAny _ _ (PySem.call (Value.builtin "str.split") _ _) _ _ _)); (fail_if_success (with_reducible show wpAny _ _ (PySem.call (Value.builtin "list.append") _ _) _ _ _)); (fail_if_success (with_reducible show wpAny _ _ (eval (Expr.ListComp _ _ _ _) _) _ _ _)); (fail_if_success (with_reducible show wpAny _ _ (exec (Stmt.Assign _ (Expr.ListComp _ _ _ _) _) _) _ _ _)); (fail_if_success (with_reducible show wpAny _ _ (compareOp CmpOp.NotEq _ _) _ _ _)); (fail_if_success (with_reducible show wpAny _ _ (subscriptTail _ _ (Value.ref _) (Value.int _ _)) _ _ _)); (fail_if_success (with_reducible show wpAny _ _ (PySem.call (Value.builtin "divmod") _ _) _ _ _)); (fail_if_success (with_reducible show wpAny _ _ (PySem.call (Value.builtin "len") _ _) _ _ _)); first | (k_unfold; (try dsimp only)) | walk1 | (dsimp only; walk1) | (leave1; (try dsimp only))))
    refine item_strs N7 (by k_mem) hdue (by omega) hdk fun t8 => ?_
    (repeat' ((fail_if_success (with_reducible show wpAny _ _ (exec (Stmt.For _ _ _ _ _) _) _ _ _)); (fail_if_success (with_reducible show wpAny _ _ (pyIter _) _ _ _)); (fail_if_success (with_reducible show wpAny _ _ (PySem.call (Value.ref _) _ _) _ _ _)); (fail_if_success (with_reducible show wpAny _ _ (compareOp CmpOp.NotEq (Value.str _ _) (Value.str _ _)) _ _ _)); (fail_if_success (with_reducible show wpAny _ _ (PySem.call (Value.builtin "str.join") _ _) _ _ _)); (fail_if_success (with_reducible show wpAny _ _ (PySem.call (Value.builtin "str.split") _ _) _ _ _)); (fail_if_success (with_reducible show wpAny _ _ (PySem.call (Value.builtin "list.append") _ _) _ _ _)); (fail_if_success (with_reducible show wpAny _ _ (eval (Expr.ListComp _ _ _ _) _) _ _ _)); (fail_if_success (with_reducible show wpAny _ _ (exec (Stmt.Assign _ (Expr.ListComp _ _ _ _) _) _) _ _ _)); (fail_if_success (with_reducible show wpAny _ _ (compareOp CmpOp.NotEq _ _) _ _ _)); (fail_if_success (with_reducible show wpAny _ _ (subscriptTail _ _ (Value.ref _) (Value.int _ _)) _ _ _)); (fail_if_success (with_reducible show wpAny _ _ (PySem.call (Value.builtin "divmod") _ _) _ _ _)); (fail_if_success (with_reducible show wpAny _ _ (PySem.call (Value.builtin "len") _ _) _ _ _)); first | (k_unfold; (try dsimp only)) | walk1 | (dsimp only; walk1) | (leave1; (try dsimp only))))
    refine ws_call X T F7.keep (show dp + 1 < recursionLimit by omega) rfl (by omega) fun x9 h9 tk9 st9 hM9 => ?_
    rw [hrf.wsW] at hM9
    obtain ⟨M9, hi9, hl9, hq9⟩ := hM9
    have F9 := Fr.keeps F7 st9
    have N9 := news_adds F7 (News.grown N7 st9) hq9
    have hb9 : ∀ q ∈ M9.objs w x9 ⟨[], lvl sz row, lvl sz row, 0⟩, h9.get? q.1 = some q.2 ∧ hb.get? q.1 = none := fun q hq => ⟨(hq9 q hq).1, (N9 q (List.mem_append_left _ hq)).2.2⟩
    clear F7 N7
    have N9u := N9
    unfold MK.objs at N9u
    dsimp only [List.cons_append, List.nil_append] at N9u
    clear N9
    (repeat' ((fail_if_success (with_reducible show wpAny _ _ (exec (Stmt.For _ _ _ _ _) _) _ _ _)); (fail_if_success (with_reducible show wpAny _ _ (pyIter _) _ _ _)); (fail_if_success (with_reducible show wpAny _ _ (PySem.call (Value.ref _) _ _) _ _ _)); (fail_if_success (with_reducible show wpAny _ _ (compareOp CmpOp.NotEq (Value.str _ _) (Value.str _ _)) _ _ _)); (fail_if_success (with_reducible show wpAny _ _ (PySem.call (Value.builtin "str.join") _ _) _ _ _)); (fail_if_success (with_reducible show wpAny _ _ (PySem.call (Value.builtin "str.split") _ _) _ _ _)); (fail_if_success (with_reducible show wpAny _ _ (PySem.call (Value.builtin "list.append") _ _) _ _ _)); (fail_if_success (with_reducible show wpAny _ _ (eval (Expr.ListComp _ _ _ _) _) _ _ _)); (fail_if_success (with_reducible show wpAny _ _ (exec (Stmt.Assign _ (Expr.ListComp _ _ _ _) _) _) _ _ _)); (fail_if_success (with_reducible show wpAny _ _ (compareOp CmpOp.NotEq _ _) _ _ _)); (fail_if_success (with_reducible show wpAny _ _ (subscriptTail _ _ (Value.ref _) (Value.int _ _)) _ _ _)); (fail_if_success (with_reducible show wpAny _ _ (PySem.call (Value.builtin "divmod") _ _) _ _ _)); (fail_if_success (with_reducible show wpAny _ _ (PySem.call (Value.builtin "len") _ _) _ _ _)); first | (k_unfold; (try dsimp only)) | walk1 | (dsimp only; walk1) | (leave1; (try dsimp only))))
    refine members_call M9 X T F9.keep (show dp < recursionLimit by omega) rfl hi9 hl9 hb9 fun Da ha tka sta hDa hDna => ?_
    have Fa := Fr.keeps F9 sta
    have Na := news_add F9 (News.grown N9u sta) hDa hDna
    clear F9 N9u
    (repeat' ((fail_if_success (with_reducible show wpAny _ _ (exec (Stmt.For _ _ _ _ _) _) _ _ _)); (fail_if_success (with_reducible show wpAny _ _ (pyIter _) _ _ _)); (fail_if_success (with_reducible show wpAny _ _ (PySem.call (Value.ref _) _ _) _ _ _)); (fail_if_success (with_reducible show wpAny _ _ (compareOp CmpOp.NotEq (Value.str _ _) (Value.str _ _)) _ _ _)); (fail_if_success (with_reducible show wpAny _ _ (PySem.call (Value.builtin "str.join") _ _) _ _ _)); (fail_if_success (with_reducible show wpAny _ _ (PySem.call (Value.builtin "str.split") _ _) _ _ _)); (fail_if_success (with_reducible show wpAny _ _ (PySem.call (Value.builtin "list.append") _ _) _ _ _)); (fail_if_success (with_reducible show wpAny _ _ (eval (Expr.ListComp _ _ _ _) _) _ _ _)); (fail_if_success (with_reducible show wpAny _ _ (exec (Stmt.Assign _ (Expr.ListComp _ _ _ _) _) _) _ _ _)); (fail_if_success (with_reducible show wpAny _ _ (compareOp CmpOp.NotEq _ _) _ _ _)); (fail_if_success (with_reducible show wpAny _ _ (subscriptTail _ _ (Value.ref _) (Value.int _ _)) _ _ _)); (fail_if_success (with_reducible show wpAny _ _ (PySem.call (Value.builtin "divmod") _ _) _ _ _)); (fail_if_success (with_reducible show wpAny _ _ (PySem.call (Value.builtin "len") _ _) _ _ _)); first | (k_unfold; (try dsimp only)) | walk1 | (dsimp only; walk1) | (leave1; (try dsimp only))))
    rename Fr _ _ _ _ => Fb
    rename News _ _ _ _ => Nb
    refine ne_dataF (memb_reads M9 hi9 (fun q hq => (Nb q (by
      simp only [MK.objs, List.mem_cons, List.not_mem_nil, or_false] at hq
      rcases hq with rfl | rfl | rfl | rfl <;> k_mem)).1) (Nb (Da, _) (by k_mem)).1) (by ked_read) (memb_shaped _) (by ked_shaped) (by show uns + 64 < cLine; omega) (by simp [membD, normD, lvl, PyData.eqv, PyData.eqvAll]) ?_
    (repeat' ((fail_if_success (with_reducible show wpAny _ _ (exec (Stmt.For _ _ _ _ _) _) _ _ _)); (fail_if_success (with_reducible show wpAny _ _ (pyIter _) _ _ _)); (fail_if_success (with_reducible show wpAny _ _ (PySem.call (Value.ref _) _ _) _ _ _)); (fail_if_success (with_reducible show wpAny _ _ (compareOp CmpOp.NotEq (Value.str _ _) (Value.str _ _)) _ _ _)); (fail_if_success (with_reducible show wpAny _ _ (PySem.call (Value.builtin "str.join") _ _) _ _ _)); (fail_if_success (with_reducible show wpAny _ _ (PySem.call (Value.builtin "str.split") _ _) _ _ _)); (fail_if_success (with_reducible show wpAny _ _ (PySem.call (Value.builtin "list.append") _ _) _ _ _)); (fail_if_success (with_reducible show wpAny _ _ (eval (Expr.ListComp _ _ _ _) _) _ _ _)); (fail_if_success (with_reducible show wpAny _ _ (exec (Stmt.Assign _ (Expr.ListComp _ _ _ _) _) _) _ _ _)); (fail_if_success (with_reducible show wpAny _ _ (compareOp CmpOp.NotEq _ _) _ _ _)); (fail_if_success (with_reducible show wpAny _ _ (subscriptTail _ _ (Value.ref _) (Value.int _ _)) _ _ _)); (fail_if_success (with_reducible show wpAny _ _ (PySem.call (Value.builtin "divmod") _ _) _ _ _)); (fail_if_success (with_reducible show wpAny _ _ (PySem.call (Value.builtin "len") _ _) _ _ _)); first | (k_unfold; (try dsimp only)) | walk1 | (dsimp only; walk1) | (leave1; (try dsimp only))))
    refine item_strs Nb (by k_mem) hback (by omega) hbk fun tc => ?_
    (repeat' ((fail_if_success (with_reducible show wpAny _ _ (exec (Stmt.For _ _ _ _ _) _) _ _ _)); (fail_if_success (with_reducible show wpAny _ _ (pyIter _) _ _ _)); (fail_if_success (with_reducible show wpAny _ _ (PySem.call (Value.ref _) _ _) _ _ _)); (fail_if_success (with_reducible show wpAny _ _ (compareOp CmpOp.NotEq (Value.str _ _) (Value.str _ _)) _ _ _)); (fail_if_success (with_reducible show wpAny _ _ (PySem.call (Value.builtin "str.join") _ _) _ _ _)); (fail_if_success (with_reducible show wpAny _ _ (PySem.call (Value.builtin "str.split") _ _) _ _ _)); (fail_if_success (with_reducible show wpAny _ _ (PySem.call (Value.builtin "list.append") _ _) _ _ _)); (fail_if_success (with_reducible show wpAny _ _ (eval (Expr.ListComp _ _ _ _) _) _ _ _)); (fail_if_success (with_reducible show wpAny _ _ (exec (Stmt.Assign _ (Expr.ListComp _ _ _ _) _) _) _ _ _)); (fail_if_success (with_reducible show wpAny _ _ (compareOp CmpOp.NotEq _ _) _ _ _)); (fail_if_success (with_reducible show wpAny _ _ (subscriptTail _ _ (Value.ref _) (Value.int _ _)) _ _ _)); (fail_if_success (with_reducible show wpAny _ _ (PySem.call (Value.builtin "divmod") _ _) _ _ _)); (fail_if_success (with_reducible show wpAny _ _ (PySem.call (Value.builtin "len") _ _) _ _ _)); first | (k_unfold; (try dsimp only)) | walk1 | (dsimp only; walk1) | (leave1; (try dsimp only))))
    refine ne_same (by rw [Int.toNat_natCast, Int.toNat_natCast]; unfold backR lvl; rw [← ha1, ← hb1]) ?_
    (repeat' ((fail_if_success (with_reducible show wpAny _ _ (exec (Stmt.For _ _ _ _ _) _) _ _ _)); (fail_if_success (with_reducible show wpAny _ _ (pyIter _) _ _ _)); (fail_if_success (with_reducible show wpAny _ _ (PySem.call (Value.ref _) _ _) _ _ _)); (fail_if_success (with_reducible show wpAny _ _ (compareOp CmpOp.NotEq (Value.str _ _) (Value.str _ _)) _ _ _)); (fail_if_success (with_reducible show wpAny _ _ (PySem.call (Value.builtin "str.join") _ _) _ _ _)); (fail_if_success (with_reducible show wpAny _ _ (PySem.call (Value.builtin "str.split") _ _) _ _ _)); (fail_if_success (with_reducible show wpAny _ _ (PySem.call (Value.builtin "list.append") _ _) _ _ _)); (fail_if_success (with_reducible show wpAny _ _ (eval (Expr.ListComp _ _ _ _) _) _ _ _)); (fail_if_success (with_reducible show wpAny _ _ (exec (Stmt.Assign _ (Expr.ListComp _ _ _ _) _) _) _ _ _)); (fail_if_success (with_reducible show wpAny _ _ (compareOp CmpOp.NotEq _ _) _ _ _)); (fail_if_success (with_reducible show wpAny _ _ (subscriptTail _ _ (Value.ref _) (Value.int _ _)) _ _ _)); (fail_if_success (with_reducible show wpAny _ _ (PySem.call (Value.builtin "divmod") _ _) _ _ _)); (fail_if_success (with_reducible show wpAny _ _ (PySem.call (Value.builtin "len") _ _) _ _ _)); first | (k_unfold; (try dsimp only)) | walk1 | (dsimp only; walk1) | (leave1; (try dsimp only))))
    refine item_strs Nb (by k_mem) hback (by omega) hbk fun td => ?_
    (repeat' ((fail_if_success (with_reducible show wpAny _ _ (exec (Stmt.For _ _ _ _ _) _) _ _ _)); (fail_if_success (with_reducible show wpAny _ _ (pyIter _) _ _ _)); (fail_if_success (with_reducible show wpAny _ _ (PySem.call (Value.ref _) _ _) _ _ _)); (fail_if_success (with_reducible show wpAny _ _ (compareOp CmpOp.NotEq (Value.str _ _) (Value.str _ _)) _ _ _)); (fail_if_success (with_reducible show wpAny _ _ (PySem.call (Value.builtin "str.join") _ _) _ _ _)); (fail_if_success (with_reducible show wpAny _ _ (PySem.call (Value.builtin "str.split") _ _) _ _ _)); (fail_if_success (with_reducible show wpAny _ _ (PySem.call (Value.builtin "list.append") _ _) _ _ _)); (fail_if_success (with_reducible show wpAny _ _ (eval (Expr.ListComp _ _ _ _) _) _ _ _)); (fail_if_success (with_reducible show wpAny _ _ (exec (Stmt.Assign _ (Expr.ListComp _ _ _ _) _) _) _ _ _)); (fail_if_success (with_reducible show wpAny _ _ (compareOp CmpOp.NotEq _ _) _ _ _)); (fail_if_success (with_reducible show wpAny _ _ (subscriptTail _ _ (Value.ref _) (Value.int _ _)) _ _ _)); (fail_if_success (with_reducible show wpAny _ _ (PySem.call (Value.builtin "divmod") _ _) _ _ _)); (fail_if_success (with_reducible show wpAny _ _ (PySem.call (Value.builtin "len") _ _) _ _ _)); first | (k_unfold; (try dsimp only)) | walk1 | (dsimp only; walk1) | (leave1; (try dsimp only))))
    refine ws_call X T Fb.keep (show dp + 1 < recursionLimit by omega) rfl hbl fun xe he tke ste hMe => ?_
    rw [hwsB] at hMe
    obtain ⟨Me, hie, hle, hqe⟩ := hMe
    have Fe := Fr.keeps Fb ste
    have Ne := news_adds Fb (News.grown Nb ste) hqe
    have hbe : ∀ q ∈ Me.objs w xe ⟨([] : List Int), b, a + b, a⟩, he.get? q.1 = some q.2 ∧ hb.get? q.1 = none := fun q hq => ⟨(hqe q hq).1, (Ne q (List.mem_append_left _ hq)).2.2⟩
    clear Fb Nb
    have Neu := Ne
    unfold MK.objs at Neu
    dsimp only [List.cons_append, List.nil_append] at Neu
    clear Ne
    (repeat' ((fail_if_success (with_reducible show wpAny _ _ (exec (Stmt.For _ _ _ _ _) _) _ _ _)); (fail_if_success (with_reducible show wpAny _ _ (pyIter _) _ _ _)); (fail_if_success (with_reducible show wpAny _ _ (PySem.call (Value.ref _) _ _) _ _ _)); (fail_if_success (with_reducible show wpAny _ _ (compareOp CmpOp.NotEq (Value.str _ _) (Value.str _ _)) _ _ _)); (fail_if_success (with_reducible show wpAny _ _ (PySem.call (Value.builtin "str.join") _ _) _ _ _)); (fail_if_success (with_reducible show wpAny _ _ (PySem.call (Value.builtin "str.split") _ _) _ _ _)); (fail_if_success (with_reducible show wpAny _ _ (PySem.call (Value.builtin "list.append") _ _) _ _ _)); (fail_if_success (with_reducible show wpAny _ _ (eval (Expr.ListComp _ _ _ _) _) _ _ _)); (fail_if_success (with_reducible show wpAny _ _ (exec (Stmt.Assign _ (Expr.ListComp _ _ _ _) _) _) _ _ _)); (fail_if_success (with_reducible show wpAny _ _ (compareOp CmpOp.NotEq _ _) _ _ _)); (fail_if_success (with_reducible show wpAny _ _ (subscriptTail _ _ (Value.ref _) (Value.int _ _)) _ _ _)); (fail_if_success (with_reducible show wpAny _ _ (PySem.call (Value.builtin "divmod") _ _) _ _ _)); (fail_if_success (with_reducible show wpAny _ _ (PySem.call (Value.builtin "len") _ _) _ _ _)); first | (k_unfold; (try dsimp only)) | walk1 | (dsimp only; walk1) | (leave1; (try dsimp only))))
    refine members_call Me X T Fe.keep (show dp < recursionLimit by omega) rfl hie hle hbe fun Df hf tkf stf hDf hDnf => ?_
    have Ff := Fr.keeps Fe stf
    have Nf := news_add Fe (News.grown Neu stf) hDf hDnf
    clear Fe Neu
    (repeat' ((fail_if_success (with_reducible show wpAny _ _ (exec (Stmt.For _ _ _ _ _) _) _ _ _)); (fail_if_success (with_reducible show wpAny _ _ (pyIter _) _ _ _)); (fail_if_success (with_reducible show wpAny _ _ (PySem.call (Value.ref _) _ _) _ _ _)); (fail_if_success (with_reducible show wpAny _ _ (compareOp CmpOp.NotEq (Value.str _ _) (Value.str _ _)) _ _ _)); (fail_if_success (with_reducible show wpAny _ _ (PySem.call (Value.builtin "str.join") _ _) _ _ _)); (fail_if_success (with_reducible show wpAny _ _ (PySem.call (Value.builtin "str.split") _ _) _ _ _)); (fail_if_success (with_reducible show wpAny _ _ (PySem.call (Value.builtin "list.append") _ _) _ _ _)); (fail_if_success (with_reducible show wpAny _ _ (eval (Expr.ListComp _ _ _ _) _) _ _ _)); (fail_if_success (with_reducible show wpAny _ _ (exec (Stmt.Assign _ (Expr.ListComp _ _ _ _) _) _) _ _ _)); (fail_if_success (with_reducible show wpAny _ _ (compareOp CmpOp.NotEq _ _) _ _ _)); (fail_if_success (with_reducible show wpAny _ _ (subscriptTail _ _ (Value.ref _) (Value.int _ _)) _ _ _)); (fail_if_success (with_reducible show wpAny _ _ (PySem.call (Value.builtin "divmod") _ _) _ _ _)); (fail_if_success (with_reducible show wpAny _ _ (PySem.call (Value.builtin "len") _ _) _ _ _)); first | (k_unfold; (try dsimp only)) | walk1 | (dsimp only; walk1) | (leave1; (try dsimp only))))
    rename Fr _ _ _ _ => Fg
    rename News _ _ _ _ => Ng
    refine ne_dataF (memb_reads Me hie (fun q hq => (Ng q (by
      simp only [MK.objs, List.mem_cons, List.not_mem_nil, or_false] at hq
      rcases hq with rfl | rfl | rfl | rfl <;> k_mem)).1) (Ng (Df, _) (by k_mem)).1) (by ked_read) (memb_shaped _) (by ked_shaped) (by show uns + 64 < cLine; omega) (by simp [membD, normD, PyData.eqv, PyData.eqvAll]) ?_
    (repeat' ((fail_if_success (with_reducible show wpAny _ _ (exec (Stmt.For _ _ _ _ _) _) _ _ _)); (fail_if_success (with_reducible show wpAny _ _ (pyIter _) _ _ _)); (fail_if_success (with_reducible show wpAny _ _ (PySem.call (Value.ref _) _ _) _ _ _)); (fail_if_success (with_reducible show wpAny _ _ (compareOp CmpOp.NotEq (Value.str _ _) (Value.str _ _)) _ _ _)); (fail_if_success (with_reducible show wpAny _ _ (PySem.call (Value.builtin "str.join") _ _) _ _ _)); (fail_if_success (with_reducible show wpAny _ _ (PySem.call (Value.builtin "str.split") _ _) _ _ _)); (fail_if_success (with_reducible show wpAny _ _ (PySem.call (Value.builtin "list.append") _ _) _ _ _)); (fail_if_success (with_reducible show wpAny _ _ (eval (Expr.ListComp _ _ _ _) _) _ _ _)); (fail_if_success (with_reducible show wpAny _ _ (exec (Stmt.Assign _ (Expr.ListComp _ _ _ _) _) _) _ _ _)); (fail_if_success (with_reducible show wpAny _ _ (compareOp CmpOp.NotEq _ _) _ _ _)); (fail_if_success (with_reducible show wpAny _ _ (subscriptTail _ _ (Value.ref _) (Value.int _ _)) _ _ _)); (fail_if_success (with_reducible show wpAny _ _ (PySem.call (Value.builtin "divmod") _ _) _ _ _)); (fail_if_success (with_reducible show wpAny _ _ (PySem.call (Value.builtin "len") _ _) _ _ _)); first | (k_unfold; (try dsimp only)) | walk1 | (dsimp only; walk1) | (leave1; (try dsimp only))))
    refine hQ _ _ _ Fg (fun y y1 y2 y3 y4 => ?_) fun q hq => Ng q (by k_mem)
    simp only [y1, y2, y3, y4, if_false]
    by_cases z1 : y = Str.ofString "back"
    · subst z1; simp [hm4]
    · by_cases z2 : y = Str.ofString "due"
      · subst z2; simp [hm3, z1]
      · by_cases z3 : y = Str.ofString "marks"
        · subst z3; simp [hm2, z1, z2]
        · by_cases z4 : y = Str.ofString "k"
          · subst z4; simp [hm1, z1, z2, z3]
          · simp only [z1, z2, z3, z4, if_false]
end MjLaw4
section MjLaw3
local macro_rules | `(tactic| k_mem) => `(tactic| assumption)
local macro_rules | `(tactic| walk_at "call builtin:len") => `(tactic| (k_here; (with_reducible show wpAny _ _ (call (Value.builtin "len") [Value.ref _]) _ _ _); k_dflt (refine' len_lstV ?k1 ?k2 ?k4 ?_; (case k1 => k_asm); (case k2 => k_mem); (case k4 => omega); k_whole); intro _ _))

theorem size_turn {w : World} {mean : ExcName → Option Value} {mg mb : Str → Option Value} {dp uns : Nat} {frs : Option (List Env)} {gds : Option (List Code)} {hb : Heap} {s : Shared} {L fa : Addr} {cdv : Value} {body sb : List Stmt} {scope : Scope} {Q : Flow → Shared → Prop} {E : Value → Shared → Prop} {m : Str → Option Value} {R Mk : Addr} {ws : List Value} {kR : Nat} {ms : List MM} {ns : List Int} {Z : List (Addr × Obj)} {Wd : Addr} {wv : List Value} {eW sz : Nat} {tS : Tok} {oS o2 o3 : Obj}
    (X : (hd.heap_39 w.params).In hb) (T : Top hd.view_39 (looseW hd.view_39 [Str.ofString "Whitespace"]) mean mg mb hb) (hroom : dp + 5 < recursionLimit) (hu : uns + 100 < cLine) (hlk : lawOf (hd.heap_39 w.params) = some (body, scope)) (hsb : subB 3 body = sb) (hsz : 1 ≤ sz ∧ sz ≤ 5)
    (F0 : Fr hb L s.heap m) (hm1 : m (Str.ofString "rows") = some (.ref R)) (hm2 : m (Str.ofString "marks") = some (.ref Mk)) (hm3 : m (Str.ofString "widths") = some (.ref Wd))
    (N0 : News hb L s.heap ((L + 1 + 1 + 1, o3) :: (L + 1 + 1, o2) :: (L + 1, oS) :: (Wd, W.listOf wv.toArray eW) :: Z)) (hoS : oS.data = .cell (some (.int (sz : Int) tS)))
    (hZR : (R, W.listOf ws.toArray kR) ∈ Z) (hws : StrsAre ws ((rowsOf ns).map txt)) (hZM : (Mk, LCg.lst (ms.map fun m => Value.ref m.a)) ∈ Z) (hZm : ∀ q ∈ marksO w ms, q ∈ Z) (hms1 : ∀ m ∈ ms, IntsAre m.k.vs m.z.cnt ∧ m.z.cnt.length ≤ 300) (hms2 : ms.map (·.z) = (rowsOf ns).map fun r => wsOf (r ++ [9, 32, 98])) (hZW : ∀ p ∈ Z, @Ne Nat p.1 Wd) (hwv : wv.length ≤ 10) (hW1 : @Ne Nat (L + 1 + 1 + 1) Wd) (hW2 : @Ne Nat (L + 1 + 1) Wd) (hW3 : @Ne Nat (L + 1) Wd)
    (hQ : ∀ h' tk m' wl wlv e', Fr hb L h' m' → m' (Str.ofString "rows") = some (.ref R) → m' (Str.ofString "marks") = some (.ref Mk) → m' (Str.ofString "widths") = some (.ref Wd) →
      News hb L h' ((L + 1 + 1 + 1, o3) :: (L + 1 + 1, o2) :: (L + 1, oS) :: (Wd, W.listOf (wv ++ [Value.ref wl]).toArray e') :: (wl, LCg.lst wlv) :: Z) → IntsAre wlv ((rowsOf ns).map fun r => ((wrt sz r).length : Int)) →
      (∀ p ∈ (L + 1 + 1 + 1, o3) :: (L + 1 + 1, o2) :: (L + 1, oS) :: (Wd, W.listOf wv.toArray eW) :: Z, @Ne Nat p.1 wl) → Q .next { s with heap := h', toks := tk }) :
    wpAny (model PySem.Challenge.rw_mj0147_01.row.prog w) ⟨none, dp, frs, gds, uns⟩ (execs sb (envOfC (Str.ofString "law") scope L fa cdv)) Q E s := by
  revert X hlk; k_fill; intro X hlk
  k_dflt (refine' lawOf_elim ?k1 ?k2 hlk ?_; (case k1 => k_is); (case k2 => exact rfl); k_whole)
  intro e1 e2
  dsimp only at e2
  subst e1 e2
  clear hlk
  dsimp only [subB, forB, List.getElem?_cons_succ, List.getElem?_cons_zero] at hsb
  subst hsb
  refine wpAny_noRaise ?_
  have F1 := say F0 (Str.ofString "rows") _ hm1
  have F2 := say F1 (Str.ofString "marks") _ hm2
  have F3 := say F2 (Str.ofString "widths") _ hm3
  clear F0 F1 F2
  (try k_fold)
  have hwl : ws.length ≤ 7 := by
    have := hws.length
    rw [List.length_map] at this
    have := rows_len7 ns
    omega
  have hwl2 : ws.length = (rowsOf ns).length := by
    have := hws.length
    rw [List.length_map] at this
    exact this
  (repeat' ((fail_if_success (with_reducible show wpAny _ _ (exec (Stmt.For _ _ _ _ _) _) _ _ _)); (fail_if_success (with_reducible show wpAny _ _ (pyIter _) _ _ _)); (fail_if_success (with_reducible show wpAny _ _ (PySem.call (Value.ref _) _ _) _ _ _)); (fail_if_success (with_reducible show wpAny _ _ (compareOp CmpOp.NotEq (Value.str _ _) (Value.str _ _)) _ _ _)); (fail_if_success (with_reducible show wpAny _ _ (PySem.call (Value.builtin "str.join") _ _) _ _ _)); (fail_if_success (with_reducible show wpAny _ _ (PySem.call (Value.builtin "str.split") _ _) _ _ _)); (fail_if_success (with_reducible show wpAny _ _ (PySem.call (Value.builtin "list.append") _ _) _ _ _)); (fail_if_success (with_reducible show wpAny _ _ (eval (Expr.ListComp _ _ _ _) _) _ _ _)); (fail_if_success (with_reducible show wpAny _ _ (exec (Stmt.Assign _ (Expr.ListComp _ _ _ _) _) _) _ _ _)); first | (k_unfold; (try dsimp only)) | walk1 | (dsimp only; walk1) | (leave1; (try dsimp only))))
  k_dflt (refine LCg.Assign_ListComp_U (F₀ := F3) (by rfl) (by with_unfolding_all rfl) (by with_unfolding_all rfl) (by decide) (by rfl) (by decide) (by rfl) (by rfl) (by rfl) ?_)
  walk1
  refine LCg.CompSrc.ledger rfl F3 N0 (.tail _ (.tail _ (.tail _ (.tail _ hZR)))) (by rw [List.size_toArray]; exact small_line (by omega)) ?_
  intro g
  refine comp_all (fun i ys nx => nx = (L + 1 + 1 + 1, o3) :: (L + 1 + 1, o2) :: (L + 1, oS) :: (Wd, W.listOf wv.toArray eW) :: Z ∧ StrsAre ys (((rowsOf ns).take i).map fun r => txt (wrt sz r))) ⟨rfl, StrsAre.nil⟩ ?_ ?_
  · rintro i ys nx v I oI C oC D m₂ h tk E' hi ⟨rfl, hys⟩ hP hC hx F4 N4 off ne
    have hP' : ws[i]? = some v := by simpa using hP
    obtain ⟨y, t, rfl, hy⟩ := strs_at hws hP'
    rw [List.getElem?_map] at hy
    obtain ⟨row, hrow, rfl⟩ := Option.map_eq_some_iff.mp hy
    clear F3 N0
    have hrl := rows_len (List.mem_of_getElem? hrow)
    (repeat' ((fail_if_success (with_reducible show wpAny _ _ (exec (Stmt.For _ _ _ _ _) _) _ _ _)); (fail_if_success (with_reducible show wpAny _ _ (pyIter _) _ _ _)); (fail_if_success (with_reducible show wpAny _ _ (PySem.call (Value.ref _) _ _) _ _ _)); first | (k_unfold; (try dsimp only)) | walk1 | (dsimp only; walk1) | (leave1; (try dsimp only))))
    refine written_call X T F4.keep (show dp < recursionLimit by omega) rfl hsz (by omega) fun t5 h5 tk5 st5 => ?_
    refine same_step F4 N4 off st5 (.inr ⟨_, .tail _ (.tail _ (.tail _ (.tail _ hZR))), rfl, _, rfl⟩) ⟨rfl, ?_⟩
    rw [take_snoc hrow, List.map_append]
    exact hys.append' (.cons _ _ .nil)
  rintro due nx ⟨rfl, hdue⟩
  intro D1 h1 tk1 F4 N4 off1
  have htk : (rowsOf ns).take ws.toArray.size = rowsOf ns := by rw [List.size_toArray, hwl2, List.take_length]
  rw [htk] at hdue
  clear F3 N0
  dsimp only
  have hdue' : StrsAre due (((rowsOf ns).map (wrt sz)).map txt) := by rw [List.map_map]; exact hdue
  have hrl : ∀ r ∈ rowsOf ns, r.length ≤ 100 := fun r hr => by have := rows_len hr; omega
  have hr7 := rows_len7 ns
  have hwr : ∀ r ∈ (rowsOf ns).map (wrt sz), r.length ≤ 100 := fun r hr => by
    obtain ⟨r', hr', rfl⟩ := List.mem_map.mp hr
    have := (row_f hr' hsz).len; omega
  have hw7 : ((rowsOf ns).map (wrt sz)).length ≤ 7 := by rw [List.length_map]; exact hr7
  (repeat' ((fail_if_success (with_reducible show wpAny _ _ (exec (Stmt.For _ _ _ _ _) _) _ _ _)); (fail_if_success (with_reducible show wpAny _ _ (pyIter _) _ _ _)); (fail_if_success (with_reducible show wpAny _ _ (PySem.call (Value.ref _) _ _) _ _ _)); (fail_if_success (with_reducible show wpAny _ _ (compareOp CmpOp.NotEq (Value.str _ _) (Value.str _ _)) _ _ _)); (fail_if_success (with_reducible show wpAny _ _ (PySem.call (Value.builtin "str.join") _ _) _ _ _)); (fail_if_success (with_reducible show wpAny _ _ (PySem.call (Value.builtin "str.split") _ _) _ _ _)); (fail_if_success (with_reducible show wpAny _ _ (PySem.call (Value.builtin "list.append") _ _) _ _ _)); (fail_if_success (with_reducible show wpAny _ _ (eval (Expr.ListComp _ _ _ _) _) _ _ _)); (fail_if_success (with_reducible show wpAny _ _ (exec (Stmt.Assign _ (Expr.ListComp _ _ _ _) _) _) _ _ _)); first | (k_unfold; (try dsimp only)) | walk1 | (dsimp only; walk1) | (leave1; (try dsimp only))))
  refine join_list (News.isList N4 (.tail _ (.tail _ (.tail _ (.tail _ (.tail _ hZR)))))) hws (fit_join hr7 hrl) fun t2 k2 => ?_
  rw [join_page]
  (repeat' ((fail_if_success (with_reducible show wpAny _ _ (exec (Stmt.For _ _ _ _ _) _) _ _ _)); (fail_if_success (with_reducible show wpAny _ _ (pyIter _) _ _ _)); (fail_if_success (with_reducible show wpAny _ _ (PySem.call (Value.ref _) _ _) _ _ _)); (fail_if_success (with_reducible show wpAny _ _ (compareOp CmpOp.NotEq (Value.str _ _) (Value.str _ _)) _ _ _)); (fail_if_success (with_reducible show wpAny _ _ (PySem.call (Value.builtin "str.join") _ _) _ _ _)); (fail_if_success (with_reducible show wpAny _ _ (PySem.call (Value.builtin "str.split") _ _) _ _ _)); (fail_if_success (with_reducible show wpAny _ _ (PySem.call (Value.builtin "list.append") _ _) _ _ _)); (fail_if_success (with_reducible show wpAny _ _ (eval (Expr.ListComp _ _ _ _) _) _ _ _)); (fail_if_success (with_reducible show wpAny _ _ (exec (Stmt.Assign _ (Expr.ListComp _ _ _ _) _) _) _ _ _)); first | (k_unfold; (try dsimp only)) | walk1 | (dsimp only; walk1) | (leave1; (try dsimp only))))
  refine put_call X T F4.keep (show dp + 1 < recursionLimit by omega) rfl hsz.2 (fun ps e => (put_page hsz e).1) fun ps e t5 h5 tk5 st5 => ?_
  rw [(put_page hsz e).2]
  have F5 := Fr.keeps F4 st5
  have N5 := News.grown N4 st5
  clear F4 N4
  (repeat' ((fail_if_success (with_reducible show wpAny _ _ (exec (Stmt.For _ _ _ _ _) _) _ _ _)); (fail_if_success (with_reducible show wpAny _ _ (pyIter _) _ _ _)); (fail_if_success (with_reducible show wpAny _ _ (PySem.call (Value.ref _) _ _) _ _ _)); (fail_if_success (with_reducible show wpAny _ _ (compareOp CmpOp.NotEq (Value.str _ _) (Value.str _ _)) _ _ _)); (fail_if_success (with_reducible show wpAny _ _ (PySem.call (Value.builtin "str.join") _ _) _ _ _)); (fail_if_success (with_reducible show wpAny _ _ (PySem.call (Value.builtin "str.split") _ _) _ _ _)); (fail_if_success (with_reducible show wpAny _ _ (PySem.call (Value.builtin "list.append") _ _) _ _ _)); (fail_if_success (with_reducible show wpAny _ _ (eval (Expr.ListComp _ _ _ _) _) _ _ _)); (fail_if_success (with_reducible show wpAny _ _ (exec (Stmt.Assign _ (Expr.ListComp _ _ _ _) _) _) _ _ _)); first | (k_unfold; (try dsimp only)) | walk1 | (dsimp only; walk1) | (leave1; (try dsimp only))))
  rename Fr _ _ _ _ => F6
  rename News _ _ _ _ => N6
  refine join_list (News.isList N6 (.head _)) hdue' (fit_join hw7 hwr) fun t7 k7 => ?_
  rw [join_page]
  (repeat' ((fail_if_success (with_reducible show wpAny _ _ (exec (Stmt.For _ _ _ _ _) _) _ _ _)); (fail_if_success (with_reducible show wpAny _ _ (pyIter _) _ _ _)); (fail_if_success (with_reducible show wpAny _ _ (PySem.call (Value.ref _) _ _) _ _ _)); (fail_if_success (with_reducible show wpAny _ _ (compareOp CmpOp.NotEq (Value.str _ _) (Value.str _ _)) _ _ _)); (fail_if_success (with_reducible show wpAny _ _ (PySem.call (Value.builtin "str.join") _ _) _ _ _)); (fail_if_success (with_reducible show wpAny _ _ (PySem.call (Value.builtin "str.split") _ _) _ _ _)); (fail_if_success (with_reducible show wpAny _ _ (PySem.call (Value.builtin "list.append") _ _) _ _ _)); (fail_if_success (with_reducible show wpAny _ _ (eval (Expr.ListComp _ _ _ _) _) _ _ _)); (fail_if_success (with_reducible show wpAny _ _ (exec (Stmt.Assign _ (Expr.ListComp _ _ _ _) _) _) _ _ _)); first | (k_unfold; (try dsimp only)) | walk1 | (dsimp only; walk1) | (leave1; (try dsimp only))))
  refine ne_same rfl ?_
  (repeat' ((fail_if_success (with_reducible show wpAny _ _ (exec (Stmt.For _ _ _ _ _) _) _ _ _)); (fail_if_success (with_reducible show wpAny _ _ (pyIter _) _ _ _)); (fail_if_success (with_reducible show wpAny _ _ (PySem.call (Value.ref _) _ _) _ _ _)); (fail_if_success (with_reducible show wpAny _ _ (compareOp CmpOp.NotEq (Value.str _ _) (Value.str _ _)) _ _ _)); (fail_if_success (with_reducible show wpAny _ _ (PySem.call (Value.builtin "str.join") _ _) _ _ _)); (fail_if_success (with_reducible show wpAny _ _ (PySem.call (Value.builtin "str.split") _ _) _ _ _)); (fail_if_success (with_reducible show wpAny _ _ (PySem.call (Value.builtin "list.append") _ _) _ _ _)); (fail_if_success (with_reducible show wpAny _ _ (eval (Expr.ListComp _ _ _ _) _) _ _ _)); (fail_if_success (with_reducible show wpAny _ _ (exec (Stmt.Assign _ (Expr.ListComp _ _ _ _) _) _) _ _ _)); first | (k_unfold; (try dsimp only)) | walk1 | (dsimp only; walk1) | (leave1; (try dsimp only))))
  have hpg2 := fun ps e => one_page (ns := ns) (n := sz) hsz (ps := ps) (p := [32, 32]) (z := [32]) (f := halfR sz) e (by decide) fun r hr => (row_f hr hsz).half
  refine replace_call (ps := [((_, _), (_, _))]) X T F6.keep (show dp < recursionLimit by omega) rfl (by simp only [List.length_cons, List.length_nil]; omega) (hpg2 _ rfl).1 fun t8 h8 tk8 st8 => ?_
  rw [(hpg2 _ rfl).2]
  have F8 := Fr.keeps F6 st8
  have N8 := News.grown N6 st8
  clear F6 N6
  (repeat' ((fail_if_success (with_reducible show wpAny _ _ (exec (Stmt.For _ _ _ _ _) _) _ _ _)); (fail_if_success (with_reducible show wpAny _ _ (pyIter _) _ _ _)); (fail_if_success (with_reducible show wpAny _ _ (PySem.call (Value.ref _) _ _) _ _ _)); (fail_if_success (with_reducible show wpAny _ _ (compareOp CmpOp.NotEq (Value.str _ _) (Value.str _ _)) _ _ _)); (fail_if_success (with_reducible show wpAny _ _ (PySem.call (Value.builtin "str.join") _ _) _ _ _)); (fail_if_success (with_reducible show wpAny _ _ (PySem.call (Value.builtin "str.split") _ _) _ _ _)); (fail_if_success (with_reducible show wpAny _ _ (PySem.call (Value.builtin "list.append") _ _) _ _ _)); (fail_if_success (with_reducible show wpAny _ _ (eval (Expr.ListComp _ _ _ _) _) _ _ _)); (fail_if_success (with_reducible show wpAny _ _ (exec (Stmt.Assign _ (Expr.ListComp _ _ _ _) _) _) _ _ _)); first | (k_unfold; (try dsimp only)) | walk1 | (dsimp only; walk1) | (leave1; (try dsimp only))))
  k_dflt (refine LCg.ListComp_U (F₀ := F8) (by with_unfolding_all rfl) (by decide) (by rfl) (by decide) (by rfl) ?_)
  walk1
  have hdl : due.length = (rowsOf ns).length := by
    have := hdue.length
    rw [List.length_map] at this
    exact this
  refine LCg.CompSrc.ledger rfl F8 N8 (.head _) (by rw [List.size_toArray]; exact small_line (by omega)) ?_
  intro g2
  refine comp_all (fun i ys nx => nx = (D1, LCg.lst due) :: (L + 1 + 1 + 1, o3) :: (L + 1 + 1, o2) :: (L + 1, oS) :: (Wd, W.listOf wv.toArray eW) :: Z ∧ StrsAre ys (((rowsOf ns).take i).map fun r => txt (halfR sz r))) ⟨rfl, StrsAre.nil⟩ ?_ ?_
  · rintro i ys nx v I oI C oC D m₂ h tk E' hi ⟨rfl, hys⟩ hP hC hx F4 N4 off ne
    have hP' : due[i]? = some v := by simpa using hP
    obtain ⟨y, t, rfl, hy⟩ := strs_at hdue hP'
    rw [List.getElem?_map] at hy
    obtain ⟨row, hrow, rfl⟩ := Option.map_eq_some_iff.mp hy
    clear F8 N8
    have hlr := (row_f (List.mem_of_getElem? hrow) hsz).len
    (repeat' ((fail_if_success (with_reducible show wpAny _ _ (exec (Stmt.For _ _ _ _ _) _) _ _ _)); (fail_if_success (with_reducible show wpAny _ _ (pyIter _) _ _ _)); (fail_if_success (with_reducible show wpAny _ _ (PySem.call (Value.ref _) _ _) _ _ _)); first | (k_unfold; (try dsimp only)) | walk1 | (dsimp only; walk1) | (leave1; (try dsimp only))))
    refine same_step F4 N4 off (fun _ _ e => e) (.inr ⟨_, .head _, rfl, _, rfl⟩) ⟨rfl, ?_⟩
    rw [take_snoc hrow, List.map_append, Int.toNat_natCast]
    exact hys.append' (.cons _ _ .nil)
  rintro hlf nx ⟨rfl, hhlf⟩
  intro D2 h9 tk9 F9 N9 off9
  have htk2 : (rowsOf ns).take due.toArray.size = rowsOf ns := by rw [List.size_toArray, hdl, List.take_length]
  rw [htk2] at hhlf
  clear F8 N8
  (try dsimp only)
  have hhlf' : StrsAre hlf (((rowsOf ns).map (halfR sz)).map txt) := by rw [List.map_map]; exact hhlf
  have hhr : ∀ r ∈ (rowsOf ns).map (halfR sz), r.length ≤ 100 := fun r hr => by
    obtain ⟨r', hr', rfl⟩ := List.mem_map.mp hr
    have := (row_f hr' hsz).len
    simp only [halfR, List.length_append, List.length_replicate, List.length_cons, List.length_nil]
    omega
  have hh7 : ((rowsOf ns).map (halfR sz)).length ≤ 7 := by rw [List.length_map]; exact hr7
  (repeat' ((fail_if_success (with_reducible show wpAny _ _ (exec (Stmt.For _ _ _ _ _) _) _ _ _)); (fail_if_success (with_reducible show wpAny _ _ (pyIter _) _ _ _)); (fail_if_success (with_reducible show wpAny _ _ (PySem.call (Value.ref _) _ _) _ _ _)); (fail_if_success (with_reducible show wpAny _ _ (compareOp CmpOp.NotEq (Value.str _ _) (Value.str _ _)) _ _ _)); (fail_if_success (with_reducible show wpAny _ _ (PySem.call (Value.builtin "str.join") _ _) _ _ _)); (fail_if_success (with_reducible show wpAny _ _ (PySem.call (Value.builtin "str.split") _ _) _ _ _)); (fail_if_success (with_reducible show wpAny _ _ (PySem.call (Value.builtin "list.append") _ _) _ _ _)); (fail_if_success (with_reducible show wpAny _ _ (eval (Expr.ListComp _ _ _ _) _) _ _ _)); (fail_if_success (with_reducible show wpAny _ _ (exec (Stmt.Assign _ (Expr.ListComp _ _ _ _) _) _) _ _ _)); first | (k_unfold; (try dsimp only)) | walk1 | (dsimp only; walk1) | (leave1; (try dsimp only))))
  refine join_list (News.isList N9 (.head _)) hhlf' (fit_join hh7 hhr) fun ta ka => ?_
  rw [join_page]
  (repeat' ((fail_if_success (with_reducible show wpAny _ _ (exec (Stmt.For _ _ _ _ _) _) _ _ _)); (fail_if_success (with_reducible show wpAny _ _ (pyIter _) _ _ _)); (fail_if_success (with_reducible show wpAny _ _ (PySem.call (Value.ref _) _ _) _ _ _)); (fail_if_success (with_reducible show wpAny _ _ (compareOp CmpOp.NotEq (Value.str _ _) (Value.str _ _)) _ _ _)); (fail_if_success (with_reducible show wpAny _ _ (PySem.call (Value.builtin "str.join") _ _) _ _ _)); (fail_if_success (with_reducible show wpAny _ _ (PySem.call (Value.builtin "str.split") _ _) _ _ _)); (fail_if_success (with_reducible show wpAny _ _ (PySem.call (Value.builtin "list.append") _ _) _ _ _)); (fail_if_success (with_reducible show wpAny _ _ (eval (Expr.ListComp _ _ _ _) _) _ _ _)); (fail_if_success (with_reducible show wpAny _ _ (exec (Stmt.Assign _ (Expr.ListComp _ _ _ _) _) _) _ _ _)); first | (k_unfold; (try dsimp only)) | walk1 | (dsimp only; walk1) | (leave1; (try dsimp only))))
  refine ne_same rfl ?_
  (repeat' ((fail_if_success (with_reducible show wpAny _ _ (exec (Stmt.For _ _ _ _ _) _) _ _ _)); (fail_if_success (with_reducible show wpAny _ _ (pyIter _) _ _ _)); (fail_if_success (with_reducible show wpAny _ _ (PySem.call (Value.ref _) _ _) _ _ _)); (fail_if_success (with_reducible show wpAny _ _ (compareOp CmpOp.NotEq (Value.str _ _) (Value.str _ _)) _ _ _)); (fail_if_success (with_reducible show wpAny _ _ (PySem.call (Value.builtin "str.join") _ _) _ _ _)); (fail_if_success (with_reducible show wpAny _ _ (PySem.call (Value.builtin "str.split") _ _) _ _ _)); (fail_if_success (with_reducible show wpAny _ _ (PySem.call (Value.builtin "list.append") _ _) _ _ _)); (fail_if_success (with_reducible show wpAny _ _ (eval (Expr.ListComp _ _ _ _) _) _ _ _)); (fail_if_success (with_reducible show wpAny _ _ (exec (Stmt.Assign _ (Expr.ListComp _ _ _ _) _) _) _ _ _)); first | (k_unfold; (try dsimp only)) | walk1 | (dsimp only; walk1) | (leave1; (try dsimp only))))
  rw [Int.toNat_natCast]
  have hpg3 := fun ps e => one_page (ns := ns) (n := sz) hsz (ps := ps) (p := List.replicate sz 32) (z := [9]) (f := backR sz) e (by
    have : sz = 1 ∨ sz = 2 ∨ sz = 3 ∨ sz = 4 ∨ sz = 5 := by omega
    rcases this with rfl | rfl | rfl | rfl | rfl <;> decide) fun r hr => (row_f hr hsz).back
  refine replace_call (ps := [((_, _), (_, _))]) X T F9.keep (show dp < recursionLimit by omega) rfl (by simp only [List.length_cons, List.length_nil]; omega) (hpg3 _ rfl).1 fun tb hb2 tkb stb => ?_
  rw [(hpg3 _ rfl).2]
  have Fb := Fr.keeps F9 stb
  have Nb := News.grown N9 stb
  clear F9 N9
  (repeat' ((fail_if_success (with_reducible show wpAny _ _ (exec (Stmt.For _ _ _ _ _) _) _ _ _)); (fail_if_success (with_reducible show wpAny _ _ (pyIter _) _ _ _)); (fail_if_success (with_reducible show wpAny _ _ (PySem.call (Value.ref _) _ _) _ _ _)); (fail_if_success (with_reducible show wpAny _ _ (compareOp CmpOp.NotEq (Value.str _ _) (Value.str _ _)) _ _ _)); (fail_if_success (with_reducible show wpAny _ _ (PySem.call (Value.builtin "str.join") _ _) _ _ _)); (fail_if_success (with_reducible show wpAny _ _ (PySem.call (Value.builtin "str.split") _ _) _ _ _)); (fail_if_success (with_reducible show wpAny _ _ (PySem.call (Value.builtin "list.append") _ _) _ _ _)); (fail_if_success (with_reducible show wpAny _ _ (eval (Expr.ListComp _ _ _ _) _) _ _ _)); (fail_if_success (with_reducible show wpAny _ _ (exec (Stmt.Assign _ (Expr.ListComp _ _ _ _) _) _) _ _ _)); first | (k_unfold; (try dsimp only)) | walk1 | (dsimp only; walk1) | (leave1; (try dsimp only))))
  have hbr : ∀ r ∈ (rowsOf ns).map (backR sz), r.length ≤ 100 := fun r hr => by
    obtain ⟨r', hr', rfl⟩ := List.mem_map.mp hr
    have := (row_f hr' hsz).len
    have h1 := Nat.div_le_self (lvl sz r') sz
    have h2 := Nat.mod_lt (lvl sz r') (show 0 < sz by omega)
    simp only [backR, List.length_append, List.length_replicate, List.length_cons, List.length_nil]
    unfold lvl at *
    omega
  have hb7 : ((rowsOf ns).map (backR sz)).length ≤ 7 := by rw [List.length_map]; exact hr7
  have hbp := page_len hb7 hbr
  have hwp := page_len hw7 hwr
  refine KSpl.split1 Fb Nb (by rfl) ?_ (by rw [txt_len, sizeLine_eq]; omega)
  intro D3 lb hc kc ec hSc Fc Nc hDc
  rw [split_page (by simp [rowsOf]) (fun r hr => by
    obtain ⟨r', hr', rfl⟩ := List.mem_map.mp hr
    exact (row_f hr' hsz).bnl)] at ec
  have hback : StrsAre (PySem.strValues lb) ((rowsOf ns).map fun r => txt (backR sz r)) := by
    rw [ec, List.map_map] at hSc; exact hSc
  clear Fb Nb
  (repeat' ((fail_if_success (with_reducible show wpAny _ _ (exec (Stmt.For _ _ _ _ _) _) _ _ _)); (fail_if_success (with_reducible show wpAny _ _ (pyIter _) _ _ _)); (fail_if_success (with_reducible show wpAny _ _ (PySem.call (Value.ref _) _ _) _ _ _)); (fail_if_success (with_reducible show wpAny _ _ (compareOp CmpOp.NotEq (Value.str _ _) (Value.str _ _)) _ _ _)); (fail_if_success (with_reducible show wpAny _ _ (PySem.call (Value.builtin "str.join") _ _) _ _ _)); (fail_if_success (with_reducible show wpAny _ _ (PySem.call (Value.builtin "str.split") _ _) _ _ _)); (fail_if_success (with_reducible show wpAny _ _ (PySem.call (Value.builtin "list.append") _ _) _ _ _)); (fail_if_success (with_reducible show wpAny _ _ (eval (Expr.ListComp _ _ _ _) _) _ _ _)); (fail_if_success (with_reducible show wpAny _ _ (exec (Stmt.Assign _ (Expr.ListComp _ _ _ _) _) _) _ _ _)); first | (k_unfold; (try dsimp only)) | walk1 | (dsimp only; walk1) | (leave1; (try dsimp only))))
  refine For_invV hb rfl rfl ?_ (hE := PassesOwn.never)
  (repeat' ((fail_if_success (with_reducible show wpAny _ _ (exec (Stmt.For _ _ _ _ _) _) _ _ _)); (fail_if_success (with_reducible show wpAny _ _ (pyIter _) _ _ _)); (fail_if_success (with_reducible show wpAny _ _ (PySem.call (Value.ref _) _ _) _ _ _)); (fail_if_success (with_reducible show wpAny _ _ (compareOp CmpOp.NotEq (Value.str _ _) (Value.str _ _)) _ _ _)); (fail_if_success (with_reducible show wpAny _ _ (PySem.call (Value.builtin "str.join") _ _) _ _ _)); (fail_if_success (with_reducible show wpAny _ _ (PySem.call (Value.builtin "str.split") _ _) _ _ _)); (fail_if_success (with_reducible show wpAny _ _ (PySem.call (Value.builtin "list.append") _ _) _ _ _)); (fail_if_success (with_reducible show wpAny _ _ (eval (Expr.ListComp _ _ _ _) _) _ _ _)); (fail_if_success (with_reducible show wpAny _ _ (exec (Stmt.Assign _ (Expr.ListComp _ _ _ _) _) _) _ _ _)); first | (k_unfold; (try dsimp only)) | walk1 | (dsimp only; walk1) | (leave1; (try dsimp only))))
  rename Fr _ _ _ _ => Fd
  rename News _ _ _ _ => Nd
  rename IsRange _ _ _ _ _ _ _ _ => hrg
  obtain ⟨LED, hLED⟩ : ∃ LED : List (Addr × Obj), LED = (D3, W.listOf (PySem.strValues lb).toArray 0) :: (D2, LCg.lst hlf) :: (D1, LCg.lst due) :: (L + 1 + 1 + 1, o3) :: (L + 1 + 1, o2) :: (L + 1, oS) :: (Wd, W.listOf wv.toArray eW) :: Z := ⟨_, rfl⟩
  rw [← hLED] at Nd
  have inZ : ∀ q ∈ Z, q ∈ LED := fun q hq => by rw [hLED]; k_mem
  have inS : (L + 1, oS) ∈ LED := by rw [hLED]; k_mem
  have inD : (D1, LCg.lst due) ∈ LED := by rw [hLED]; k_mem
  have inB : (D3, W.listOf (PySem.strValues lb).toArray 0) ∈ LED := by rw [hLED]; k_mem
  refine loopRange (n := ws.length) (J := fun k m nx => nx = LED ∧ m (Str.ofString "rows") = some (.ref R) ∧ m (Str.ofString "marks") = some (.ref Mk) ∧ m (Str.ofString "widths") = some (.ref Wd) ∧ m (Str.ofString "due") = some (.ref D1) ∧ m (Str.ofString "back") = some (.ref D3) ∧ m (Str.ofString "page") = some (.str (txt (interL [10] ((rowsOf ns).map (wrt sz)))) t5)) rfl hrg (small_rng (by omega) (by omega) (by omega) (by omega)) (size_rng 0 _) Fd Nd ⟨rfl, rfl, rfl, rfl, rfl, rfl, rfl⟩ ?_ ?_
  · rintro k t m₁ news₁ h tk I oI hk ⟨rfl, g1, g2, g3, g4, g5, g6⟩ Fe Ne hoff
    rw [Int.zero_add] at Fe
    have hkr : k < (rowsOf ns).length := by omega
    refine k_turn (Z := (I, oI) :: news₁) (R := R) (ws := ws) (kR := kR) (sb := []) X T hroom hu rfl rfl hsz (List.getElem?_eq_getElem hkr) Fe rfl g2 g4 g5 Ne (.tail _ inS) hoS (.tail _ inD) hdue (.tail _ inB) hback (.tail _ (inZ _ hZM)) (fun q hq => .tail _ (inZ _ (hZm q hq))) hms1 hms2 fun h' tk' m' Ff hm' Nf => ?_
    refine Turned.next news₁ Ff Nf (fun p hp => hp) hoff ⟨rfl, ?_, ?_, ?_, ?_, ?_, ?_⟩
    · rw [hm' _ (by decide +kernel) (by decide +kernel) (by decide +kernel) (by decide +kernel)]; exact g1
    · rw [hm' _ (by decide +kernel) (by decide +kernel) (by decide +kernel) (by decide +kernel)]; exact g2
    · rw [hm' _ (by decide +kernel) (by decide +kernel) (by decide +kernel) (by decide +kernel)]; exact g3
    · rw [hm' _ (by decide +kernel) (by decide +kernel) (by decide +kernel) (by decide +kernel)]; exact g4
    · rw [hm' _ (by decide +kernel) (by decide +kernel) (by decide +kernel) (by decide +kernel)]; exact g5
    · rw [hm' _ (by decide +kernel) (by decide +kernel) (by decide +kernel) (by decide +kernel)]; exact g6
  rintro m₁ news₁ h tk ⟨rfl, g1, g2, g3, g4, g5, g6⟩ Fe Ne
  have Fe1 := say Fe (Str.ofString "widths") _ g3
  have Fe2 := say Fe1 (Str.ofString "page") _ g6
  have Ng : News hb L h ((L + 1 + 1 + 1, o3) :: (L + 1 + 1, o2) :: (L + 1, oS) :: (Wd, W.listOf wv.toArray eW) :: Z) := fun q hq => Ne q (by rw [hLED]; exact .tail _ (.tail _ (.tail _ hq)))
  clear Fe Fe1 Ne Fd Nd
  dsimp only
  (repeat' ((fail_if_success (with_reducible show wpAny _ _ (exec (Stmt.For _ _ _ _ _) _) _ _ _)); (fail_if_success (with_reducible show wpAny _ _ (pyIter _) _ _ _)); (fail_if_success (with_reducible show wpAny _ _ (PySem.call (Value.ref _) _ _) _ _ _)); (fail_if_success (with_reducible show wpAny _ _ (compareOp CmpOp.NotEq (Value.str _ _) (Value.str _ _)) _ _ _)); (fail_if_success (with_reducible show wpAny _ _ (PySem.call (Value.builtin "str.join") _ _) _ _ _)); (fail_if_success (with_reducible show wpAny _ _ (PySem.call (Value.builtin "str.split") _ _) _ _ _)); (fail_if_success (with_reducible show wpAny _ _ (PySem.call (Value.builtin "list.append") _ _) _ _ _)); (fail_if_success (with_reducible show wpAny _ _ (eval (Expr.ListComp _ _ _ _) _) _ _ _)); (fail_if_success (with_reducible show wpAny _ _ (exec (Stmt.Assign _ (Expr.ListComp _ _ _ _) _) _) _ _ _)); first | (k_unfold; (try dsimp only)) | walk1 | (dsimp only; walk1) | (leave1; (try dsimp only))))
  k_dflt (refine LCg.ListComp_U (F₀ := Fe2) (by with_unfolding_all rfl) (by decide) (by rfl) (by decide) (by rfl) ?_)
  (repeat' ((fail_if_success (with_reducible show wpAny _ _ (exec (Stmt.For _ _ _ _ _) _) _ _ _)); (fail_if_success (with_reducible show wpAny _ _ (pyIter _) _ _ _)); (fail_if_success (with_reducible show wpAny _ _ (PySem.call (Value.ref _) _ _) _ _ _)); (fail_if_success (with_reducible show wpAny _ _ (compareOp CmpOp.NotEq (Value.str _ _) (Value.str _ _)) _ _ _)); (fail_if_success (with_reducible show wpAny _ _ (PySem.call (Value.builtin "str.join") _ _) _ _ _)); (fail_if_success (with_reducible show wpAny _ _ (PySem.call (Value.builtin "str.split") _ _) _ _ _)); (fail_if_success (with_reducible show wpAny _ _ (PySem.call (Value.builtin "list.append") _ _) _ _ _)); (fail_if_success (with_reducible show wpAny _ _ (eval (Expr.ListComp _ _ _ _) _) _ _ _)); (fail_if_success (with_reducible show wpAny _ _ (exec (Stmt.Assign _ (Expr.ListComp _ _ _ _) _) _) _ _ _)); first | (k_unfold; (try dsimp only)) | walk1 | (dsimp only; walk1) | (leave1; (try dsimp only))))
  refine KSpl.split1 Fe2 Ng (by rfl) ?_ (by rw [txt_len, sizeLine_eq]; omega)
  intro D5 l5 h5' k5 e5 hS5 F5 N5 hD5
  rw [split_page (by simp [rowsOf]) (fun r hr => by
    obtain ⟨r', hr', rfl⟩ := List.mem_map.mp hr
    exact (row_f hr' hsz).nl)] at e5
  have h5s : StrsAre (PySem.strValues l5) ((rowsOf ns).map fun r => txt (wrt sz r)) := by
    rw [e5, List.map_map] at hS5; exact hS5
  have h5l : (PySem.strValues l5).length = (rowsOf ns).length := by
    have := h5s.length
    rw [List.length_map] at this
    exact this
  clear Fe2 Ng
  (try dsimp only)
  refine LCg.CompSrc.ledger rfl F5 N5 (.head _) (by rw [List.size_toArray]; exact small_line (by omega)) ?_
  intro g3'
  refine comp_all (fun i ys nx => nx = (D5, W.listOf (PySem.strValues l5).toArray 0) :: (L + 1 + 1 + 1, o3) :: (L + 1 + 1, o2) :: (L + 1, oS) :: (Wd, W.listOf wv.toArray eW) :: Z ∧ IntsAre ys (((rowsOf ns).take i).map fun r => ((wrt sz r).length : Int))) ⟨rfl, IntsAre.nil⟩ ?_ ?_
  · rintro i ys nx v I oI C oC D m₂ h tk E' hi ⟨rfl, hys⟩ hP hC hx F4 N4 off ne
    have hP' : (PySem.strValues l5)[i]? = some v := by simpa using hP
    obtain ⟨y, t, rfl, hy⟩ := strs_at h5s hP'
    rw [List.getElem?_map] at hy
    obtain ⟨row, hrow, rfl⟩ := Option.map_eq_some_iff.mp hy
    clear F5 N5
    have hlr := (row_f (List.mem_of_getElem? hrow) hsz).len
    (repeat' ((fail_if_success (with_reducible show wpAny _ _ (exec (Stmt.For _ _ _ _ _) _) _ _ _)); (fail_if_success (with_reducible show wpAny _ _ (pyIter _) _ _ _)); (fail_if_success (with_reducible show wpAny _ _ (PySem.call (Value.ref _) _ _) _ _ _)); first | (k_unfold; (try dsimp only)) | walk1 | (dsimp only; walk1) | (leave1; (try dsimp only))))
    refine same_step F4 N4 off (fun _ _ e => e) (.inr ⟨_, .head _, rfl, _, rfl⟩) ⟨rfl, ?_⟩
    rw [take_snoc hrow, List.map_append]
    exact IntsAre.append hys (.cons _ _ .nil)
  rintro wlv nx ⟨rfl, hwlv⟩
  intro wl h6 tk6 F6 N6 off6
  have htk3 : (rowsOf ns).take (PySem.strValues l5).toArray.size = rowsOf ns := by rw [List.size_toArray, h5l, List.take_length]
  rw [htk3] at hwlv
  clear F5 N5
  (try dsimp only)
  (repeat' ((fail_if_success (with_reducible show wpAny _ _ (exec (Stmt.For _ _ _ _ _) _) _ _ _)); (fail_if_success (with_reducible show wpAny _ _ (pyIter _) _ _ _)); (fail_if_success (with_reducible show wpAny _ _ (PySem.call (Value.ref _) _ _) _ _ _)); (fail_if_success (with_reducible show wpAny _ _ (compareOp CmpOp.NotEq (Value.str _ _) (Value.str _ _)) _ _ _)); (fail_if_success (with_reducible show wpAny _ _ (PySem.call (Value.builtin "str.join") _ _) _ _ _)); (fail_if_success (with_reducible show wpAny _ _ (PySem.call (Value.builtin "str.split") _ _) _ _ _)); (fail_if_success (with_reducible show wpAny _ _ (PySem.call (Value.builtin "list.append") _ _) _ _ _)); (fail_if_success (with_reducible show wpAny _ _ (eval (Expr.ListComp _ _ _ _) _) _ _ _)); (fail_if_success (with_reducible show wpAny _ _ (exec (Stmt.Assign _ (Expr.ListComp _ _ _ _) _) _) _ _ _)); first | (k_unfold; (try dsimp only)) | walk1 | (dsimp only; walk1) | (leave1; (try dsimp only))))
  have hoffw := off1_mem off6
  have N7 : News hb L h6 ((wl, LCg.lst wlv) :: (L + 1 + 1 + 1, o3) :: (L + 1 + 1, o2) :: (L + 1, oS) :: (Wd, W.listOf wv.toArray eW) :: Z) := fun q hq => N6 q (by
    rcases List.mem_cons.mp hq with rfl | hq
    · exact .head _
    · exact .tail _ (.tail _ hq))
  have hwlW : @Ne Nat wl Wd := Ne.symm (hoffw _ (.tail _ (.tail _ (.tail _ (.tail _ (.head _))))))
  refine append_K F6 N7 (Upd.tail hwlW (Upd.tail hW1 (Upd.tail hW2 (Upd.tail hW3 (Upd.head hZW))))) ?_ (by simp only [List.size_toArray]; exact small_line (by omega))
  intro h8 F8 N8
  (repeat' ((fail_if_success (with_reducible show wpAny _ _ (exec (Stmt.For _ _ _ _ _) _) _ _ _)); (fail_if_success (with_reducible show wpAny _ _ (pyIter _) _ _ _)); (fail_if_success (with_reducible show wpAny _ _ (PySem.call (Value.ref _) _ _) _ _ _)); (fail_if_success (with_reducible show wpAny _ _ (compareOp CmpOp.NotEq (Value.str _ _) (Value.str _ _)) _ _ _)); (fail_if_success (with_reducible show wpAny _ _ (PySem.call (Value.builtin "str.join") _ _) _ _ _)); (fail_if_success (with_reducible show wpAny _ _ (PySem.call (Value.builtin "str.split") _ _) _ _ _)); (fail_if_success (with_reducible show wpAny _ _ (PySem.call (Value.builtin "list.append") _ _) _ _ _)); (fail_if_success (with_reducible show wpAny _ _ (eval (Expr.ListComp _ _ _ _) _) _ _ _)); (fail_if_success (with_reducible show wpAny _ _ (exec (Stmt.Assign _ (Expr.ListComp _ _ _ _) _) _) _ _ _)); first | (k_unfold; (try dsimp only)) | walk1 | (dsimp only; walk1) | (leave1; (try dsimp only))))
  rw [List.push_toArray] at N8
  refine hQ _ _ _ wl wlv (eW + 1) F8 g1 g2 rfl (fun q hq => N8 q ?_) hwlv fun p hp => hoffw p (.tail _ hp)
  simp only [List.mem_cons] at hq ⊢
  rcases hq with h | h | h | h | h | h
  · exact .inr (.inl h)
  · exact .inr (.inr (.inl h))
  · exact .inr (.inr (.inr (.inl h)))
  · exact .inr (.inr (.inr (.inr (.inl h))))
  · exact .inl h
  · exact .inr (.inr (.inr (.inr (.inr h))))
end MjLaw3
section MjLaw5
local macro_rules | `(tactic| k_mem) => `(tactic| assumption)
local macro_rules | `(tactic| walk_at "call builtin:len") => `(tactic| (k_here; (with_reducible show wpAny _ _ (call (Value.builtin "len") [Value.ref _]) _ _ _); k_dflt (refine' len_lstV ?k1 ?k2 ?k4 ?_; (case k1 => k_asm); (case k2 => k_mem); (case k4 => omega); k_whole); intro _ _))

theorem comp_allT {prog : Program} {w : World} {A : Around} {s : Shared} {h₀ : Heap} {L : Addr} {m : Str → Option Value} {env : Env} {ct elt : Expr} {x : Str} {scope : Scope} {cl : List (Str × Addr)} {S : List (Addr × Obj) → Prop} {P : Nat → Value → Prop} {Fin : List Value → List (Addr × Obj) → Prop} {n : Nat} {news : List (Addr × Obj)}
    (Inv : Nat → List Value → List (Addr × Obj) → Prop) (h0 : Inv 0 [] news)
    (step : ∀ i ys nx v I oI C oC D m₂ h tk (E' : Value → Shared → Prop), i < n → Inv i ys nx → P i v → LCg.NsObj oC m₂ → m₂ x = some v → Fr h₀ L h m → News h₀ L h ((I, oI) :: (C, oC) :: (D, LCg.lst ys) :: nx) → LCg.Off3 I C D nx → ((@Ne Nat I C) ∧ (@Ne Nat I D) ∧ (@Ne Nat C D)) →
      wpAny (model prog w) A (isTrue ct (compEnvC scope cl C env) (eval ct (compEnvC scope cl C env))) (fun ok s' => if ok = true then
        wpAny (model prog w) A (eval elt (compEnvC scope cl C env)) (LCg.CompEnd h₀ L m { s with heap := h, toks := tk } I oI C oC D (LCg.lst ys) S (fun y nx' => Inv (i + 1) (ys ++ [y]) nx')) E' s'
        else LCg.CompEnd h₀ L m { s with heap := h, toks := tk } I oI C oC D (LCg.lst ys) S (fun _ nx' => Inv (i + 1) ys nx') Value.none s') E' { s with heap := h, toks := tk })
    (fin : ∀ ys nx, Inv n ys nx → Fin ys nx) : LCt.CompRestT prog w A h₀ L m env ct elt x scope cl s S P Fin n 0 [] news := by
  have key : ∀ k i ys nx, i + k = n → Inv i ys nx → LCt.CompRestT prog w A h₀ L m env ct elt x scope cl s S P Fin k i ys nx := by
    intro k
    induction k with
    | zero => intro i ys nx hi hI; exact LCt.CompRestT.zero (fin _ _ (by have : i = n := by omega
                                                                         exact this ▸ hI))
    | succ k ih =>
      intro i ys nx hi hI
      refine LCt.CompRestT.succ fun v I oI C oC D m₂ h tk E' hP hC hx F N off ne => ?_
      refine wpAny_mono (step i ys nx v I oI C oC D m₂ h tk E' (by omega) hI hP hC hx F N off ne) (fun ok s₂ hy => ?_) fun _ _ e => e
      cases ok with
      | true =>
        rw [if_pos rfl] at hy ⊢
        refine wpAny_mono hy (fun y s₃ hy => ?_) fun _ _ e => e
        obtain ⟨h', tk', nx', e, F', N', off', hS, r⟩ := hy
        exact ⟨h', tk', nx', e, F', N', off', hS, ih (i + 1) (ys ++ [y]) nx' (by omega) r⟩
      | false =>
        rw [if_neg (by simp)] at hy ⊢
        obtain ⟨h', tk', nx', e, F', N', off', hS, r⟩ := hy
        exact ⟨h', tk', nx', e, F', N', off', hS, ih (i + 1) ys nx' (by omega) r⟩
  exact key n 0 [] news (by omega) h0
structure WL where
  a : Addr
  vs : List Value
  sz : Nat
theorem reads_lists {h : Heap} {rows : List (List Nat)} : ∀ {l : List WL}, (∀ m ∈ l, h.get? m.a = some (LCg.lst m.vs) ∧ IntsAre m.vs (rows.map fun r => ((wrt m.sz r).length : Int))) → ∃ as, ReadsAll h (l.map fun m => Value.ref m.a) (l.map fun m => PyData.list ((rows.map fun r => ((wrt m.sz r).length : Int)).map PyData.int)) as
  | [], _ => ⟨_, ReadsAll.nil⟩
  | m :: r, hl => by
    obtain ⟨as, ha⟩ := reads_lists (l := r) fun q hq => hl q (.tail _ hq)
    have h1 := hl m (.head _)
    exact ⟨_, ReadsAll.cons (reads_list_at h1.1 rfl rfl (h1.2.reads h)) ha⟩
theorem lists_shaped {rows : List (List Nat)} (l : List WL) : SeqAt.shaped (.list (l.map fun m => PyData.list ((rows.map fun r => ((wrt m.sz r).length : Int)).map PyData.int))) = true := by
  have h1 : PyData.canLayAll0 (l.map fun m => PyData.list ((rows.map fun r => ((wrt m.sz r).length : Int)).map PyData.int)) = true := by
    induction l with
    | nil => rfl
    | cons m r ih => rw [List.map_cons, PyData.canLayAll0, PyData.canLay0, ke_canLayAll0, ih]; rfl
  have h2 : PyData.depthAll (l.map fun m => PyData.list ((rows.map fun r => ((wrt m.sz r).length : Int)).map PyData.int)) ≤ 1 := by
    clear h1
    induction l with
    | nil => exact Nat.zero_le _
    | cons m r ih => rw [List.map_cons, PyData.depthAll, PyData.depth, ke_depthAll]; omega
  unfold SeqAt.shaped
  rw [PyData.canLay0, h1, Bool.true_and, decide_eq_true_eq, PyData.depth]
  omega
theorem eqv_nil {α : Type} (l : List α) (f : α → PyData) : PyData.eqv (.list (l.map f)) (.list []) = l.isEmpty := by
  cases l <;> simp [PyData.eqv, PyData.eqvAll]
theorem lists_nil {prog : Program} {w : World} {A : Around} {E : Value → Shared → Prop} {s : Shared} {Q : Value → Shared → Prop} {D K : Addr} {l : List WL} {rows : List (List Nat)} {bs : List Addr} (hD : s.heap.get? D = some (LCg.lst (l.map fun m => Value.ref m.a))) (hK : Reads s.heap (.ref K) (.list []) bs)
    (hl : ∀ m ∈ l, s.heap.get? m.a = some (LCg.lst m.vs) ∧ IntsAre m.vs (rows.map fun r => ((wrt m.sz r).length : Int))) (hu : A.units + 64 < cLine) (h : Q (.bool l.isEmpty) s) : wpAny (model prog w) A (compareOp .Eq (.ref D) (.ref K)) Q E s := by
  obtain ⟨as, hrd⟩ := reads_lists hl
  refine eq_dataH (reads_list_at hD rfl rfl hrd) hK (lists_shaped _) rfl hu ?_
  rw [eqv_nil]
  exact h
theorem lt_empty (a b : Nat → Nat) : ∀ l : List Nat, allLt (l.map a) (l.map b) = (l.filter fun n => decide (b n ≤ a n)).isEmpty
  | [] => rfl
  | n :: r => by
    rw [List.map_cons, List.map_cons, allLt, lt_empty a b r, List.filter_cons]
    by_cases h : b n ≤ a n
    · rw [if_pos (decide_eq_true h), decide_eq_false (by omega)]; rfl
    · rw [if_neg (by simpa using h), decide_eq_true (by omega)]; rfl
theorem eq_empty (a b : Nat → Nat) : ∀ l : List Nat, allEq (l.map a) (l.map b) = (l.filter fun n => decide (¬ a n = b n)).isEmpty
  | [] => rfl
  | n :: r => by
    rw [List.map_cons, List.map_cons, allEq, eq_empty a b r, List.filter_cons]
    by_cases h : a n = b n
    · rw [if_neg (by simpa using h), decide_eq_true h]; rfl
    · rw [if_pos (decide_eq_true h), decide_eq_false h]; rfl
theorem wl_empty {wls : List WL} {l : List Nat} (h : wls.map (·.sz) = l) (f : Nat → Bool) : (wls.filter fun m => f m.sz).isEmpty = (l.filter f).isEmpty := by
  subst h
  induction wls with
  | nil => rfl
  | cons m r ih =>
    rw [List.map_cons, List.filter_cons, List.filter_cons]
    cases f m.sz with
    | true => rfl
    | false => exact ih
theorem ints_at : ∀ {vs : List Value} {ys : List Int} {i : Nat} {y : Int}, IntsAre vs ys → ys[i]? = some y → ∃ t, vs[i]? = some (.int y t)
  | _, _, i, y, .nil, h => by simp at h
  | _, _, 0, y, .cons z t r, h => by simp at h; exact ⟨t, by rw [h]; rfl⟩
  | _, _, i + 1, y, .cons z t r, h => by simp at h; simpa using ints_at r h

theorem told_turn {w : World} {mean : ExcName → Option Value} {mg mb : Str → Option Value} {dp uns : Nat} {frs : Option (List Env)} {gds : Option (List Code)} {hb : Heap} {s : Shared} {L fa : Addr} {cdv : Value} {body sb : List Stmt} {scope : Scope} {Q : Flow → Shared → Prop} {E : Value → Shared → Prop} {m : Str → Option Value} {R Mk : Addr} {ws : List Value} {kR : Nat} {ms : List MM} {ns : List Int} {Z : List (Addr × Obj)} {Wd : Addr} {wls : List WL} {eW p q : Nat} {t2 t3 : Tok} {o2 o3 : Obj} {tb : List Stmt} {rowP rowQ : List Nat}
    (X : (hd.heap_39 w.params).In hb) (T : Top hd.view_39 (looseW hd.view_39 [Str.ofString "Whitespace"]) mean mg mb hb) (hroom : dp + 5 < recursionLimit) (hu : uns + 100 < cLine) (hlk : lawOf (hd.heap_39 w.params) = some (body, scope)) (hsb : subB 0 (subB 4 body) = tb) (hrP : (rowsOf ns)[p]? = some rowP) (hrQ : (rowsOf ns)[q]? = some rowQ)
    (F0 : Fr hb L s.heap m) (hm2 : m (Str.ofString "marks") = some (.ref Mk)) (hm3 : m (Str.ofString "widths") = some (.ref Wd))
    (N0 : News hb L s.heap Z) (hZ2 : (L + 1 + 1, o2) ∈ Z) (hZ3 : (L + 1 + 1 + 1, o3) ∈ Z) (ho2 : o2.data = .cell (some (.int (p : Int) t2))) (ho3 : o3.data = .cell (some (.int (q : Int) t3)))
    (hZW : (Wd, W.listOf (wls.map fun m => Value.ref m.a).toArray eW) ∈ Z) (hwl : ∀ m ∈ wls, (m.a, LCg.lst m.vs) ∈ Z ∧ IntsAre m.vs ((rowsOf ns).map fun r => ((wrt m.sz r).length : Int))) (hsz : wls.map (·.sz) = [1, 2, 3, 4, 5])
    (hZM : (Mk, LCg.lst (ms.map fun m => Value.ref m.a)) ∈ Z) (hZm : ∀ q ∈ marksO w ms, q ∈ Z) (hms1 : ∀ m ∈ ms, IntsAre m.k.vs m.z.cnt ∧ m.z.cnt.length ≤ 300) (hms2 : ms.map (·.z) = (rowsOf ns).map fun r => wsOf (r ++ [9, 32, 98]))
    (hQ : ∀ h' tk m', Fr hb L h' m' → (∀ x, x ≠ Str.ofString "lower" → x ≠ Str.ofString "alike" → x ≠ Str.ofString "told" → m' x = m x) → News hb L h' Z → Q .next { s with heap := h', toks := tk }) :
    wpAny (model PySem.Challenge.rw_mj0147_01.row.prog w) ⟨none, dp, frs, gds, uns⟩ (execs tb (envOfC (Str.ofString "law") scope L fa cdv)) Q E s := by
  revert X hlk; k_fill; intro X hlk
  k_dflt (refine' lawOf_elim ?k1 ?k2 hlk ?_; (case k1 => k_is); (case k2 => exact rfl); k_whole)
  intro e1 e2
  dsimp only at e2
  subst e1 e2
  clear hlk
  dsimp only [subB, forB, List.getElem?_cons_succ, List.getElem?_cons_zero] at hsb
  subst hsb
  refine wpAny_noRaise ?_
  have F2 := say F0 (Str.ofString "marks") _ hm2
  have F3 := say F2 (Str.ofString "widths") _ hm3
  clear F0 F2
  (try k_fold)
  have hp7 : p < 7 := by
    have := rows_len7 ns
    have := (List.getElem?_eq_some_iff.mp hrP).1
    omega
  have hq7 : q < 7 := by
    have := rows_len7 ns
    have := (List.getElem?_eq_some_iff.mp hrQ).1
    omega
  have hw5 : wls.length = 5 := by have := congrArg List.length hsz; simpa using this
  have hmrk : ∀ (k : Nat) (row : List Nat), (rowsOf ns)[k]? = some row → ∃ mm : MM, (ms.map fun m => Value.ref m.a)[k]? = some (.ref mm.a) ∧ mm.z = wsOf (row ++ [9, 32, 98]) ∧ (∀ q ∈ mm.k.objs w mm.a mm.z, q ∈ Z) ∧ (∀ h, News hb L h Z → MarkAt w hb h mm.a mm.z) ∧ Tame mm.z := fun k row hrow => by
    obtain ⟨mm, hmm, hz⟩ : ∃ mm, ms[k]? = some mm ∧ mm.z = wsOf (row ++ [9, 32, 98]) := by
      have h1 : (ms.map (·.z))[k]? = some (wsOf (row ++ [9, 32, 98])) := by rw [hms2, List.getElem?_map, hrow]; rfl
      rw [List.getElem?_map] at h1
      exact Option.map_eq_some_iff.mp h1
    have hmem := List.mem_of_getElem? hmm
    have hob : ∀ q ∈ mm.k.objs w mm.a mm.z, q ∈ Z := fun q hq => hZm q (List.mem_flatMap.mpr ⟨mm, hmem, hq⟩)
    refine ⟨mm, by rw [List.getElem?_map, hmm]; rfl, hz, hob, fun h N => ⟨mm.k, (hms1 _ hmem).1, (hms1 _ hmem).2, fun q hq => ⟨(N q (hob q hq)).1, (N q (hob q hq)).2.2⟩⟩, ?_⟩
    rw [hz]
    exact row_tame (List.mem_of_getElem? hrow)
  obtain ⟨mp, hmp, hzp, hop, hkp, htp⟩ := hmrk p rowP hrP
  obtain ⟨mq, hmq, hzq, hoq, hkq, htq⟩ := hmrk q rowQ hrQ
  have hp1 := hop _ (List.Mem.head _)
  have hp2 := hop _ (List.Mem.tail _ (List.Mem.head _))
  have hZM' : (Mk, ({ cls := .type "list", data := .seq (ms.map fun m => Value.ref m.a).toArray (ms.map fun m => Value.ref m.a).length } : Obj)) ∈ Z := hZM
  have N3 := N0
  clear N0 hmrk
  (repeat' ((fail_if_success (with_reducible show wpAny _ _ (exec (Stmt.For _ _ _ _ _) _) _ _ _)); (fail_if_success (with_reducible show wpAny _ _ (pyIter _) _ _ _)); (fail_if_success (with_reducible show wpAny _ _ (PySem.call (Value.ref _) _ _) _ _ _)); (fail_if_success (with_reducible show wpAny _ _ (compareOp CmpOp.NotEq (Value.str _ _) (Value.str _ _)) _ _ _)); (fail_if_success (with_reducible show wpAny _ _ (PySem.call (Value.builtin "str.join") _ _) _ _ _)); (fail_if_success (with_reducible show wpAny _ _ (PySem.call (Value.builtin "str.split") _ _) _ _ _)); (fail_if_success (with_reducible show wpAny _ _ (PySem.call (Value.builtin "list.append") _ _) _ _ _)); (fail_if_success (with_reducible show wpAny _ _ (eval (Expr.ListComp _ _ _ _) _) _ _ _)); (fail_if_success (with_reducible show wpAny _ _ (exec (Stmt.Assign _ (Expr.ListComp _ _ _ _) _) _) _ _ _)); (fail_if_success (with_reducible show wpAny _ _ (compareOp CmpOp.NotEq _ _) _ _ _)); (fail_if_success (with_reducible show wpAny _ _ (subscriptTail _ _ (Value.ref _) (Value.int _ _)) _ _ _)); (fail_if_success (with_reducible show wpAny _ _ (PySem.call (Value.builtin "divmod") _ _) _ _ _)); (fail_if_success (with_reducible show wpAny _ _ (PySem.call (Value.builtin "len") _ _) _ _ _)); first | (k_unfold; (try dsimp only)) | walk1 | (dsimp only; walk1) | (leave1; (try dsimp only))))
  k_dflt (refine LCt.ListComp_T (F₀ := F3) (by with_unfolding_all rfl) (by decide) (by rfl) (by decide) (by rfl) ?_)
  walk1
  refine LCt.CompSrcT.ledger rfl F3 N3 (by k_mem) (by rw [List.size_toArray, List.length_map]; exact small_line (by omega)) ?_
  intro g
  refine comp_allT (fun i ys nx => nx = Z ∧ ys = ((wls.take i).filter fun m => decide ((wrt m.sz rowQ).length ≤ (wrt m.sz rowP).length)).map fun m => Value.ref m.a) ⟨rfl, rfl⟩ ?_ ?_
  · rintro i ys nx v I oI C oC D m₂ h tk E' hi ⟨hnx, hys⟩ hP hC hx F4 N4 off ne
    rw [hnx] at N4 off
    clear hnx nx
    have hP' : (wls.map fun m => Value.ref m.a)[i]? = some v := by simpa using hP
    rw [List.getElem?_map] at hP'
    obtain ⟨wl, hwi, rfl⟩ := Option.map_eq_some_iff.mp hP'
    clear F3 N3
    obtain ⟨hwZ, hwI⟩ := hwl _ (List.mem_of_getElem? hwi)
    have hpI : ((rowsOf ns).map fun r => ((wrt wl.sz r).length : Int))[p]? = some ((wrt wl.sz rowP).length : Int) := by rw [List.getElem?_map, hrP]; rfl
    have hqI : ((rowsOf ns).map fun r => ((wrt wl.sz r).length : Int))[q]? = some ((wrt wl.sz rowQ).length : Int) := by rw [List.getElem?_map, hrQ]; rfl
    obtain ⟨tp, hvp⟩ := ints_at hwI hpI
    obtain ⟨tq, hvq⟩ := ints_at hwI hqI
    (repeat' ((fail_if_success (with_reducible show wpAny _ _ (exec (Stmt.For _ _ _ _ _) _) _ _ _)); (fail_if_success (with_reducible show wpAny _ _ (pyIter _) _ _ _)); (fail_if_success (with_reducible show wpAny _ _ (PySem.call (Value.ref _) _ _) _ _ _)); (fail_if_success (with_reducible show wpAny _ _ (compareOp CmpOp.NotEq (Value.str _ _) (Value.str _ _)) _ _ _)); (fail_if_success (with_reducible show wpAny _ _ (PySem.call (Value.builtin "str.join") _ _) _ _ _)); (fail_if_success (with_reducible show wpAny _ _ (PySem.call (Value.builtin "str.split") _ _) _ _ _)); (fail_if_success (with_reducible show wpAny _ _ (PySem.call (Value.builtin "list.append") _ _) _ _ _)); (fail_if_success (with_reducible show wpAny _ _ (eval (Expr.ListComp _ _ _ _) _) _ _ _)); (fail_if_success (with_reducible show wpAny _ _ (exec (Stmt.Assign _ (Expr.ListComp _ _ _ _) _) _) _ _ _)); (fail_if_success (with_reducible show wpAny _ _ (compareOp CmpOp.NotEq _ _) _ _ _)); (fail_if_success (with_reducible show wpAny _ _ (subscriptTail _ _ (Value.ref _) (Value.int _ _)) _ _ _)); (fail_if_success (with_reducible show wpAny _ _ (PySem.call (Value.builtin "divmod") _ _) _ _ _)); (fail_if_success (with_reducible show wpAny _ _ (PySem.call (Value.builtin "len") _ _) _ _ _)); first | (k_unfold; (try dsimp only)) | walk1 | (dsimp only; walk1) | (leave1; (try dsimp only))))
    refine item_refs N4 (by k_mem) (by omega) hvp ?_
    (repeat' ((fail_if_success (with_reducible show wpAny _ _ (exec (Stmt.For _ _ _ _ _) _) _ _ _)); (fail_if_success (with_reducible show wpAny _ _ (pyIter _) _ _ _)); (fail_if_success (with_reducible show wpAny _ _ (PySem.call (Value.ref _) _ _) _ _ _)); (fail_if_success (with_reducible show wpAny _ _ (compareOp CmpOp.NotEq (Value.str _ _) (Value.str _ _)) _ _ _)); (fail_if_success (with_reducible show wpAny _ _ (PySem.call (Value.builtin "str.join") _ _) _ _ _)); (fail_if_success (with_reducible show wpAny _ _ (PySem.call (Value.builtin "str.split") _ _) _ _ _)); (fail_if_success (with_reducible show wpAny _ _ (PySem.call (Value.builtin "list.append") _ _) _ _ _)); (fail_if_success (with_reducible show wpAny _ _ (eval (Expr.ListComp _ _ _ _) _) _ _ _)); (fail_if_success (with_reducible show wpAny _ _ (exec (Stmt.Assign _ (Expr.ListComp _ _ _ _) _) _) _ _ _)); (fail_if_success (with_reducible show wpAny _ _ (compareOp CmpOp.NotEq _ _) _ _ _)); (fail_if_success (with_reducible show wpAny _ _ (subscriptTail _ _ (Value.ref _) (Value.int _ _)) _ _ _)); (fail_if_success (with_reducible show wpAny _ _ (PySem.call (Value.builtin "divmod") _ _) _ _ _)); (fail_if_success (with_reducible show wpAny _ _ (PySem.call (Value.builtin "len") _ _) _ _ _)); first | (k_unfold; (try dsimp only)) | walk1 | (dsimp only; walk1) | (leave1; (try dsimp only))))
    refine item_refs N4 (by k_mem) (by omega) hvq ?_
    (repeat' ((fail_if_success (with_reducible show wpAny _ _ (exec (Stmt.For _ _ _ _ _) _) _ _ _)); (fail_if_success (with_reducible show wpAny _ _ (pyIter _) _ _ _)); (fail_if_success (with_reducible show wpAny _ _ (PySem.call (Value.ref _) _ _) _ _ _)); (fail_if_success (with_reducible show wpAny _ _ (compareOp CmpOp.NotEq (Value.str _ _) (Value.str _ _)) _ _ _)); (fail_if_success (with_reducible show wpAny _ _ (PySem.call (Value.builtin "str.join") _ _) _ _ _)); (fail_if_success (with_reducible show wpAny _ _ (PySem.call (Value.builtin "str.split") _ _) _ _ _)); (fail_if_success (with_reducible show wpAny _ _ (PySem.call (Value.builtin "list.append") _ _) _ _ _)); (fail_if_success (with_reducible show wpAny _ _ (eval (Expr.ListComp _ _ _ _) _) _ _ _)); (fail_if_success (with_reducible show wpAny _ _ (exec (Stmt.Assign _ (Expr.ListComp _ _ _ _) _) _) _ _ _)); (fail_if_success (with_reducible show wpAny _ _ (compareOp CmpOp.NotEq _ _) _ _ _)); (fail_if_success (with_reducible show wpAny _ _ (subscriptTail _ _ (Value.ref _) (Value.int _ _)) _ _ _)); (fail_if_success (with_reducible show wpAny _ _ (PySem.call (Value.builtin "divmod") _ _) _ _ _)); (fail_if_success (with_reducible show wpAny _ _ (PySem.call (Value.builtin "len") _ _) _ _ _)); first | (k_unfold; (try dsimp only)) | walk1 | (dsimp only; walk1) | (leave1; (try dsimp only))))
    · refine same_step F4 N4 off (fun _ _ e => e) (.inr ⟨_, by k_mem, rfl, _, rfl⟩) ⟨rfl, ?_⟩
      rw [take_snoc hwi, List.filter_append, List.map_append, ← hys, List.filter_cons, if_pos (decide_eq_true (by omega))]; rfl
    · refine same_step F4 N4 off (fun _ _ e => e) (.inr ⟨_, by k_mem, rfl, _, rfl⟩) ⟨rfl, ?_⟩
      rw [take_snoc hwi, List.filter_append, List.map_append, ← hys, List.filter_cons, if_neg (by rw [decide_eq_true_eq]; omega), List.filter_nil, List.map_nil, List.append_nil]
  rintro ys nx ⟨hnx, hys⟩ D h tk F5 N5 off5
  rw [hnx] at N5 off5
  clear hnx nx
  have hys' : ys = (wls.filter fun m => decide ((wrt m.sz rowQ).length ≤ (wrt m.sz rowP).length)).map fun m => Value.ref m.a := by
    rw [hys, List.size_toArray, List.length_map, List.take_of_length_le (Nat.le_refl _)]
  clear hys
  subst hys'
  clear F3 N3
  (repeat' ((fail_if_success (with_reducible show wpAny _ _ (exec (Stmt.For _ _ _ _ _) _) _ _ _)); (fail_if_success (with_reducible show wpAny _ _ (pyIter _) _ _ _)); (fail_if_success (with_reducible show wpAny _ _ (PySem.call (Value.ref _) _ _) _ _ _)); (fail_if_success (with_reducible show wpAny _ _ (compareOp CmpOp.NotEq (Value.str _ _) (Value.str _ _)) _ _ _)); (fail_if_success (with_reducible show wpAny _ _ (PySem.call (Value.builtin "str.join") _ _) _ _ _)); (fail_if_success (with_reducible show wpAny _ _ (PySem.call (Value.builtin "str.split") _ _) _ _ _)); (fail_if_success (with_reducible show wpAny _ _ (PySem.call (Value.builtin "list.append") _ _) _ _ _)); (fail_if_success (with_reducible show wpAny _ _ (eval (Expr.ListComp _ _ _ _) _) _ _ _)); (fail_if_success (with_reducible show wpAny _ _ (exec (Stmt.Assign _ (Expr.ListComp _ _ _ _) _) _) _ _ _)); (fail_if_success (with_reducible show wpAny _ _ (compareOp CmpOp.NotEq _ _) _ _ _)); (fail_if_success (with_reducible show wpAny _ _ (subscriptTail _ _ (Value.ref _) (Value.int _ _)) _ _ _)); (fail_if_success (with_reducible show wpAny _ _ (PySem.call (Value.builtin "divmod") _ _) _ _ _)); (fail_if_success (with_reducible show wpAny _ _ (PySem.call (Value.builtin "len") _ _) _ _ _)); (fail_if_success (with_reducible show wpAny _ _ (compareOp CmpOp.Eq _ _) _ _ _)); first | (k_unfold; (try dsimp only)) | walk1 | (dsimp only; walk1) | (leave1; (try dsimp only))))
  rename Fr _ _ _ _ => F6
  rename News _ _ _ _ => N6
  refine lists_nil (rows := rowsOf ns) (N6 (D, LCg.lst _) (by k_mem)).1 (by ked_read) (fun m hm => by
    have hz := hwl m (List.mem_filter.mp hm).1
    have hz1 := hz.1
    exact ⟨(N6 (m.a, LCg.lst m.vs) (by k_mem)).1, hz.2⟩) (by show uns + 64 < cLine; omega) ?_
  have N7 : News hb L _ Z := fun q hq => N6 q (by k_mem)
  clear N6
  (repeat' ((fail_if_success (with_reducible show wpAny _ _ (exec (Stmt.For _ _ _ _ _) _) _ _ _)); (fail_if_success (with_reducible show wpAny _ _ (pyIter _) _ _ _)); (fail_if_success (with_reducible show wpAny _ _ (PySem.call (Value.ref _) _ _) _ _ _)); (fail_if_success (with_reducible show wpAny _ _ (compareOp CmpOp.NotEq (Value.str _ _) (Value.str _ _)) _ _ _)); (fail_if_success (with_reducible show wpAny _ _ (PySem.call (Value.builtin "str.join") _ _) _ _ _)); (fail_if_success (with_reducible show wpAny _ _ (PySem.call (Value.builtin "str.split") _ _) _ _ _)); (fail_if_success (with_reducible show wpAny _ _ (PySem.call (Value.builtin "list.append") _ _) _ _ _)); (fail_if_success (with_reducible show wpAny _ _ (eval (Expr.ListComp _ _ _ _) _) _ _ _)); (fail_if_success (with_reducible show wpAny _ _ (exec (Stmt.Assign _ (Expr.ListComp _ _ _ _) _) _) _ _ _)); (fail_if_success (with_reducible show wpAny _ _ (compareOp CmpOp.NotEq _ _) _ _ _)); (fail_if_success (with_reducible show wpAny _ _ (subscriptTail _ _ (Value.ref _) (Value.int _ _)) _ _ _)); (fail_if_success (with_reducible show wpAny _ _ (PySem.call (Value.builtin "divmod") _ _) _ _ _)); (fail_if_success (with_reducible show wpAny _ _ (PySem.call (Value.builtin "len") _ _) _ _ _)); first | (k_unfold; (try dsimp only)) | walk1 | (dsimp only; walk1) | (leave1; (try dsimp only))))
  rename Fr _ _ _ _ => F3
  rename News _ _ _ _ => N3

  k_dflt (refine LCt.ListComp_T (F₀ := F3) (by with_unfolding_all rfl) (by decide) (by rfl) (by decide) (by rfl) ?_)
  walk1
  refine LCt.CompSrcT.ledger rfl F3 N3 (by k_mem) (by rw [List.size_toArray, List.length_map]; exact small_line (by omega)) ?_
  intro g
  refine comp_allT (fun i ys nx => nx = Z ∧ ys = ((wls.take i).filter fun m => decide (¬ (wrt m.sz rowP).length = (wrt m.sz rowQ).length)).map fun m => Value.ref m.a) ⟨rfl, rfl⟩ ?_ ?_
  · rintro i ys nx v I oI C oC D m₂ h tk E' hi ⟨hnx, hys⟩ hP hC hx F4 N4 off ne
    rw [hnx] at N4 off
    clear hnx nx
    have hP' : (wls.map fun m => Value.ref m.a)[i]? = some v := by simpa using hP
    rw [List.getElem?_map] at hP'
    obtain ⟨wl, hwi, rfl⟩ := Option.map_eq_some_iff.mp hP'
    clear F3 N3
    obtain ⟨hwZ, hwI⟩ := hwl _ (List.mem_of_getElem? hwi)
    have hpI : ((rowsOf ns).map fun r => ((wrt wl.sz r).length : Int))[p]? = some ((wrt wl.sz rowP).length : Int) := by rw [List.getElem?_map, hrP]; rfl
    have hqI : ((rowsOf ns).map fun r => ((wrt wl.sz r).length : Int))[q]? = some ((wrt wl.sz rowQ).length : Int) := by rw [List.getElem?_map, hrQ]; rfl
    obtain ⟨tp, hvp⟩ := ints_at hwI hpI
    obtain ⟨tq, hvq⟩ := ints_at hwI hqI
    (repeat' ((fail_if_success (with_reducible show wpAny _ _ (exec (Stmt.For _ _ _ _ _) _) _ _ _)); (fail_if_success (with_reducible show wpAny _ _ (pyIter _) _ _ _)); (fail_if_success (with_reducible show wpAny _ _ (PySem.call (Value.ref _) _ _) _ _ _)); (fail_if_success (with_reducible show wpAny _ _ (compareOp CmpOp.NotEq (Value.str _ _) (Value.str _ _)) _ _ _)); (fail_if_success (with_reducible show wpAny _ _ (PySem.call (Value.builtin "str.join") _ _) _ _ _)); (fail_if_success (with_reducible show wpAny _ _ (PySem.call (Value.builtin "str.split") _ _) _ _ _)); (fail_if_success (with_reducible show wpAny _ _ (PySem.call (Value.builtin "list.append") _ _) _ _ _)); (fail_if_success (with_reducible show wpAny _ _ (eval (Expr.ListComp _ _ _ _) _) _ _ _)); (fail_if_success (with_reducible show wpAny _ _ (exec (Stmt.Assign _ (Expr.ListComp _ _ _ _) _) _) _ _ _)); (fail_if_success (with_reducible show wpAny _ _ (compareOp CmpOp.NotEq _ _) _ _ _)); (fail_if_success (with_reducible show wpAny _ _ (subscriptTail _ _ (Value.ref _) (Value.int _ _)) _ _ _)); (fail_if_success (with_reducible show wpAny _ _ (PySem.call (Value.builtin "divmod") _ _) _ _ _)); (fail_if_success (with_reducible show wpAny _ _ (PySem.call (Value.builtin "len") _ _) _ _ _)); first | (k_unfold; (try dsimp only)) | walk1 | (dsimp only; walk1) | (leave1; (try dsimp only))))
    refine item_refs N4 (by k_mem) (by omega) hvp ?_
    (repeat' ((fail_if_success (with_reducible show wpAny _ _ (exec (Stmt.For _ _ _ _ _) _) _ _ _)); (fail_if_success (with_reducible show wpAny _ _ (pyIter _) _ _ _)); (fail_if_success (with_reducible show wpAny _ _ (PySem.call (Value.ref _) _ _) _ _ _)); (fail_if_success (with_reducible show wpAny _ _ (compareOp CmpOp.NotEq (Value.str _ _) (Value.str _ _)) _ _ _)); (fail_if_success (with_reducible show wpAny _ _ (PySem.call (Value.builtin "str.join") _ _) _ _ _)); (fail_if_success (with_reducible show wpAny _ _ (PySem.call (Value.builtin "str.split") _ _) _ _ _)); (fail_if_success (with_reducible show wpAny _ _ (PySem.call (Value.builtin "list.append") _ _) _ _ _)); (fail_if_success (with_reducible show wpAny _ _ (eval (Expr.ListComp _ _ _ _) _) _ _ _)); (fail_if_success (with_reducible show wpAny _ _ (exec (Stmt.Assign _ (Expr.ListComp _ _ _ _) _) _) _ _ _)); (fail_if_success (with_reducible show wpAny _ _ (compareOp CmpOp.NotEq _ _) _ _ _)); (fail_if_success (with_reducible show wpAny _ _ (subscriptTail _ _ (Value.ref _) (Value.int _ _)) _ _ _)); (fail_if_success (with_reducible show wpAny _ _ (PySem.call (Value.builtin "divmod") _ _) _ _ _)); (fail_if_success (with_reducible show wpAny _ _ (PySem.call (Value.builtin "len") _ _) _ _ _)); first | (k_unfold; (try dsimp only)) | walk1 | (dsimp only; walk1) | (leave1; (try dsimp only))))
    refine item_refs N4 (by k_mem) (by omega) hvq ?_
    (repeat' ((fail_if_success (with_reducible show wpAny _ _ (exec (Stmt.For _ _ _ _ _) _) _ _ _)); (fail_if_success (with_reducible show wpAny _ _ (pyIter _) _ _ _)); (fail_if_success (with_reducible show wpAny _ _ (PySem.call (Value.ref _) _ _) _ _ _)); (fail_if_success (with_reducible show wpAny _ _ (compareOp CmpOp.NotEq (Value.str _ _) (Value.str _ _)) _ _ _)); (fail_if_success (with_reducible show wpAny _ _ (PySem.call (Value.builtin "str.join") _ _) _ _ _)); (fail_if_success (with_reducible show wpAny _ _ (PySem.call (Value.builtin "str.split") _ _) _ _ _)); (fail_if_success (with_reducible show wpAny _ _ (PySem.call (Value.builtin "list.append") _ _) _ _ _)); (fail_if_success (with_reducible show wpAny _ _ (eval (Expr.ListComp _ _ _ _) _) _ _ _)); (fail_if_success (with_reducible show wpAny _ _ (exec (Stmt.Assign _ (Expr.ListComp _ _ _ _) _) _) _ _ _)); first | (k_unfold; (try dsimp only)) | walk1 | (dsimp only; walk1) | (leave1; (try dsimp only))))
    · refine same_step F4 N4 off (fun _ _ e => e) (.inr ⟨_, by k_mem, rfl, _, rfl⟩) ⟨rfl, ?_⟩
      rw [take_snoc hwi, List.filter_append, List.map_append, ← hys, List.filter_cons, if_pos (decide_eq_true (by omega))]; rfl
    · refine same_step F4 N4 off (fun _ _ e => e) (.inr ⟨_, by k_mem, rfl, _, rfl⟩) ⟨rfl, ?_⟩
      rw [take_snoc hwi, List.filter_append, List.map_append, ← hys, List.filter_cons, if_neg (by rw [decide_eq_true_eq]; omega), List.filter_nil, List.map_nil, List.append_nil]
  rintro ys nx ⟨hnx, hys⟩ D h tk F5 N5 off5
  rw [hnx] at N5 off5
  clear hnx nx
  have hys' : ys = (wls.filter fun m => decide (¬ (wrt m.sz rowP).length = (wrt m.sz rowQ).length)).map fun m => Value.ref m.a := by
    rw [hys, List.size_toArray, List.length_map, List.take_of_length_le (Nat.le_refl _)]
  clear hys
  subst hys'
  clear F3 N3
  (repeat' ((fail_if_success (with_reducible show wpAny _ _ (exec (Stmt.For _ _ _ _ _) _) _ _ _)); (fail_if_success (with_reducible show wpAny _ _ (pyIter _) _ _ _)); (fail_if_success (with_reducible show wpAny _ _ (PySem.call (Value.ref _) _ _) _ _ _)); (fail_if_success (with_reducible show wpAny _ _ (compareOp CmpOp.NotEq (Value.str _ _) (Value.str _ _)) _ _ _)); (fail_if_success (with_reducible show wpAny _ _ (PySem.call (Value.builtin "str.join") _ _) _ _ _)); (fail_if_success (with_reducible show wpAny _ _ (PySem.call (Value.builtin "str.split") _ _) _ _ _)); (fail_if_success (with_reducible show wpAny _ _ (PySem.call (Value.builtin "list.append") _ _) _ _ _)); (fail_if_success (with_reducible show wpAny _ _ (eval (Expr.ListComp _ _ _ _) _) _ _ _)); (fail_if_success (with_reducible show wpAny _ _ (exec (Stmt.Assign _ (Expr.ListComp _ _ _ _) _) _) _ _ _)); (fail_if_success (with_reducible show wpAny _ _ (compareOp CmpOp.NotEq _ _) _ _ _)); (fail_if_success (with_reducible show wpAny _ _ (subscriptTail _ _ (Value.ref _) (Value.int _ _)) _ _ _)); (fail_if_success (with_reducible show wpAny _ _ (PySem.call (Value.builtin "divmod") _ _) _ _ _)); (fail_if_success (with_reducible show wpAny _ _ (PySem.call (Value.builtin "len") _ _) _ _ _)); (fail_if_success (with_reducible show wpAny _ _ (compareOp CmpOp.Eq _ _) _ _ _)); first | (k_unfold; (try dsimp only)) | walk1 | (dsimp only; walk1) | (leave1; (try dsimp only))))
  rename Fr _ _ _ _ => F6
  rename News _ _ _ _ => N6
  refine lists_nil (rows := rowsOf ns) (N6 (D, LCg.lst _) (by k_mem)).1 (by ked_read) (fun m hm => by
    have hz := hwl m (List.mem_filter.mp hm).1
    have hz1 := hz.1
    exact ⟨(N6 (m.a, LCg.lst m.vs) (by k_mem)).1, hz.2⟩) (by show uns + 64 < cLine; omega) ?_
  have N7 : News hb L _ Z := fun q hq => N6 q (by k_mem)
  clear N6
  (repeat' ((fail_if_success (with_reducible show wpAny _ _ (exec (Stmt.For _ _ _ _ _) _) _ _ _)); (fail_if_success (with_reducible show wpAny _ _ (pyIter _) _ _ _)); (fail_if_success (with_reducible show wpAny _ _ (PySem.call (Value.ref _) _ _) _ _ _)); (fail_if_success (with_reducible show wpAny _ _ (compareOp CmpOp.NotEq (Value.str _ _) (Value.str _ _)) _ _ _)); (fail_if_success (with_reducible show wpAny _ _ (PySem.call (Value.builtin "str.join") _ _) _ _ _)); (fail_if_success (with_reducible show wpAny _ _ (PySem.call (Value.builtin "str.split") _ _) _ _ _)); (fail_if_success (with_reducible show wpAny _ _ (PySem.call (Value.builtin "list.append") _ _) _ _ _)); (fail_if_success (with_reducible show wpAny _ _ (eval (Expr.ListComp _ _ _ _) _) _ _ _)); (fail_if_success (with_reducible show wpAny _ _ (exec (Stmt.Assign _ (Expr.ListComp _ _ _ _) _) _) _ _ _)); (fail_if_success (with_reducible show wpAny _ _ (compareOp CmpOp.NotEq _ _) _ _ _)); (fail_if_success (with_reducible show wpAny _ _ (subscriptTail _ _ (Value.ref _) (Value.int _ _)) _ _ _)); (fail_if_success (with_reducible show wpAny _ _ (PySem.call (Value.builtin "divmod") _ _) _ _ _)); (fail_if_success (with_reducible show wpAny _ _ (PySem.call (Value.builtin "len") _ _) _ _ _)); first | (k_unfold; (try dsimp only)) | walk1 | (dsimp only; walk1) | (leave1; (try dsimp only))))
  rename Fr _ _ _ _ => F3
  rename News _ _ _ _ => N3

  refine item_refs N3 (by k_mem) (by omega) hmp ?_
  (repeat' ((fail_if_success (with_reducible show wpAny _ _ (exec (Stmt.For _ _ _ _ _) _) _ _ _)); (fail_if_success (with_reducible show wpAny _ _ (pyIter _) _ _ _)); (fail_if_success (with_reducible show wpAny _ _ (PySem.call (Value.ref _) _ _) _ _ _)); (fail_if_success (with_reducible show wpAny _ _ (compareOp CmpOp.NotEq (Value.str _ _) (Value.str _ _)) _ _ _)); (fail_if_success (with_reducible show wpAny _ _ (PySem.call (Value.builtin "str.join") _ _) _ _ _)); (fail_if_success (with_reducible show wpAny _ _ (PySem.call (Value.builtin "str.split") _ _) _ _ _)); (fail_if_success (with_reducible show wpAny _ _ (PySem.call (Value.builtin "list.append") _ _) _ _ _)); (fail_if_success (with_reducible show wpAny _ _ (eval (Expr.ListComp _ _ _ _) _) _ _ _)); (fail_if_success (with_reducible show wpAny _ _ (exec (Stmt.Assign _ (Expr.ListComp _ _ _ _) _) _) _ _ _)); (fail_if_success (with_reducible show wpAny _ _ (compareOp CmpOp.NotEq _ _) _ _ _)); (fail_if_success (with_reducible show wpAny _ _ (subscriptTail _ _ (Value.ref _) (Value.int _ _)) _ _ _)); (fail_if_success (with_reducible show wpAny _ _ (PySem.call (Value.builtin "divmod") _ _) _ _ _)); (fail_if_success (with_reducible show wpAny _ _ (PySem.call (Value.builtin "len") _ _) _ _ _)); first | (k_unfold; (try dsimp only)) | walk1 | (dsimp only; walk1) | (leave1; (try dsimp only))))
  refine item_refs N3 (by k_mem) (by omega) hmq ?_
  (repeat' ((fail_if_success (with_reducible show wpAny _ _ (exec (Stmt.For _ _ _ _ _) _) _ _ _)); (fail_if_success (with_reducible show wpAny _ _ (pyIter _) _ _ _)); (fail_if_success (with_reducible show wpAny _ _ (PySem.call (Value.ref _) _ _) _ _ _)); (fail_if_success (with_reducible show wpAny _ _ (compareOp CmpOp.NotEq (Value.str _ _) (Value.str _ _)) _ _ _)); (fail_if_success (with_reducible show wpAny _ _ (PySem.call (Value.builtin "str.join") _ _) _ _ _)); (fail_if_success (with_reducible show wpAny _ _ (PySem.call (Value.builtin "str.split") _ _) _ _ _)); (fail_if_success (with_reducible show wpAny _ _ (PySem.call (Value.builtin "list.append") _ _) _ _ _)); (fail_if_success (with_reducible show wpAny _ _ (eval (Expr.ListComp _ _ _ _) _) _ _ _)); (fail_if_success (with_reducible show wpAny _ _ (exec (Stmt.Assign _ (Expr.ListComp _ _ _ _) _) _) _ _ _)); (fail_if_success (with_reducible show wpAny _ _ (compareOp CmpOp.NotEq _ _) _ _ _)); (fail_if_success (with_reducible show wpAny _ _ (subscriptTail _ _ (Value.ref _) (Value.int _ _)) _ _ _)); (fail_if_success (with_reducible show wpAny _ _ (PySem.call (Value.builtin "divmod") _ _) _ _ _)); (fail_if_success (with_reducible show wpAny _ _ (PySem.call (Value.builtin "len") _ _) _ _ _)); first | (k_unfold; (try dsimp only)) | walk1 | (dsimp only; walk1) | (leave1; (try dsimp only))))
  (try dsimp only [List.cons_append, List.nil_append, List.append_nil])
  refine less_call X T F3.keep (show dp + 1 < recursionLimit by omega) rfl (hkp _ N3) (hkq _ N3) htp htq fun h7 tk7 st7 => ?_
  have F7 := Fr.keeps F3 st7
  have N7 := News.grown N3 st7
  clear F3 N3
  (repeat' ((fail_if_success (with_reducible show wpAny _ _ (exec (Stmt.For _ _ _ _ _) _) _ _ _)); (fail_if_success (with_reducible show wpAny _ _ (pyIter _) _ _ _)); (fail_if_success (with_reducible show wpAny _ _ (PySem.call (Value.ref _) _ _) _ _ _)); (fail_if_success (with_reducible show wpAny _ _ (compareOp CmpOp.NotEq (Value.str _ _) (Value.str _ _)) _ _ _)); (fail_if_success (with_reducible show wpAny _ _ (PySem.call (Value.builtin "str.join") _ _) _ _ _)); (fail_if_success (with_reducible show wpAny _ _ (PySem.call (Value.builtin "str.split") _ _) _ _ _)); (fail_if_success (with_reducible show wpAny _ _ (PySem.call (Value.builtin "list.append") _ _) _ _ _)); (fail_if_success (with_reducible show wpAny _ _ (eval (Expr.ListComp _ _ _ _) _) _ _ _)); (fail_if_success (with_reducible show wpAny _ _ (exec (Stmt.Assign _ (Expr.ListComp _ _ _ _) _) _) _ _ _)); (fail_if_success (with_reducible show wpAny _ _ (compareOp CmpOp.NotEq _ _) _ _ _)); (fail_if_success (with_reducible show wpAny _ _ (subscriptTail _ _ (Value.ref _) (Value.int _ _)) _ _ _)); (fail_if_success (with_reducible show wpAny _ _ (PySem.call (Value.builtin "divmod") _ _) _ _ _)); (fail_if_success (with_reducible show wpAny _ _ (PySem.call (Value.builtin "len") _ _) _ _ _)); first | (k_unfold; (try dsimp only)) | walk1 | (dsimp only; walk1) | (leave1; (try dsimp only))))
  refine item_refs N7 (by k_mem) (by omega) hmp ?_
  (repeat' ((fail_if_success (with_reducible show wpAny _ _ (exec (Stmt.For _ _ _ _ _) _) _ _ _)); (fail_if_success (with_reducible show wpAny _ _ (pyIter _) _ _ _)); (fail_if_success (with_reducible show wpAny _ _ (PySem.call (Value.ref _) _ _) _ _ _)); (fail_if_success (with_reducible show wpAny _ _ (compareOp CmpOp.NotEq (Value.str _ _) (Value.str _ _)) _ _ _)); (fail_if_success (with_reducible show wpAny _ _ (PySem.call (Value.builtin "str.join") _ _) _ _ _)); (fail_if_success (with_reducible show wpAny _ _ (PySem.call (Value.builtin "str.split") _ _) _ _ _)); (fail_if_success (with_reducible show wpAny _ _ (PySem.call (Value.builtin "list.append") _ _) _ _ _)); (fail_if_success (with_reducible show wpAny _ _ (eval (Expr.ListComp _ _ _ _) _) _ _ _)); (fail_if_success (with_reducible show wpAny _ _ (exec (Stmt.Assign _ (Expr.ListComp _ _ _ _) _) _) _ _ _)); (fail_if_success (with_reducible show wpAny _ _ (compareOp CmpOp.NotEq _ _) _ _ _)); (fail_if_success (with_reducible show wpAny _ _ (subscriptTail _ _ (Value.ref _) (Value.int _ _)) _ _ _)); (fail_if_success (with_reducible show wpAny _ _ (PySem.call (Value.builtin "divmod") _ _) _ _ _)); (fail_if_success (with_reducible show wpAny _ _ (PySem.call (Value.builtin "len") _ _) _ _ _)); first | (k_unfold; (try dsimp only)) | walk1 | (dsimp only; walk1) | (leave1; (try dsimp only))))
  refine item_refs N7 (by k_mem) (by omega) hmq ?_
  (repeat' ((fail_if_success (with_reducible show wpAny _ _ (exec (Stmt.For _ _ _ _ _) _) _ _ _)); (fail_if_success (with_reducible show wpAny _ _ (pyIter _) _ _ _)); (fail_if_success (with_reducible show wpAny _ _ (PySem.call (Value.ref _) _ _) _ _ _)); (fail_if_success (with_reducible show wpAny _ _ (compareOp CmpOp.NotEq (Value.str _ _) (Value.str _ _)) _ _ _)); (fail_if_success (with_reducible show wpAny _ _ (PySem.call (Value.builtin "str.join") _ _) _ _ _)); (fail_if_success (with_reducible show wpAny _ _ (PySem.call (Value.builtin "str.split") _ _) _ _ _)); (fail_if_success (with_reducible show wpAny _ _ (PySem.call (Value.builtin "list.append") _ _) _ _ _)); (fail_if_success (with_reducible show wpAny _ _ (eval (Expr.ListComp _ _ _ _) _) _ _ _)); (fail_if_success (with_reducible show wpAny _ _ (exec (Stmt.Assign _ (Expr.ListComp _ _ _ _) _) _) _ _ _)); (fail_if_success (with_reducible show wpAny _ _ (compareOp CmpOp.NotEq _ _) _ _ _)); (fail_if_success (with_reducible show wpAny _ _ (subscriptTail _ _ (Value.ref _) (Value.int _ _)) _ _ _)); (fail_if_success (with_reducible show wpAny _ _ (PySem.call (Value.builtin "divmod") _ _) _ _ _)); (fail_if_success (with_reducible show wpAny _ _ (PySem.call (Value.builtin "len") _ _) _ _ _)); first | (k_unfold; (try dsimp only)) | walk1 | (dsimp only; walk1) | (leave1; (try dsimp only))))
  (try dsimp only [List.cons_append, List.nil_append, List.append_nil])
  refine equal_call X T F7.keep (show dp < recursionLimit by omega) rfl (by show uns + 100 < cLine; omega) (hkp _ N7) (hkq _ N7) fun h8 tk8 st8 => ?_
  have F8 := Fr.keeps F7 st8
  have N8 := News.grown N7 st8
  clear F7 N7
  (repeat' ((fail_if_success (with_reducible show wpAny _ _ (exec (Stmt.For _ _ _ _ _) _) _ _ _)); (fail_if_success (with_reducible show wpAny _ _ (pyIter _) _ _ _)); (fail_if_success (with_reducible show wpAny _ _ (PySem.call (Value.ref _) _ _) _ _ _)); (fail_if_success (with_reducible show wpAny _ _ (compareOp CmpOp.NotEq (Value.str _ _) (Value.str _ _)) _ _ _)); (fail_if_success (with_reducible show wpAny _ _ (PySem.call (Value.builtin "str.join") _ _) _ _ _)); (fail_if_success (with_reducible show wpAny _ _ (PySem.call (Value.builtin "str.split") _ _) _ _ _)); (fail_if_success (with_reducible show wpAny _ _ (PySem.call (Value.builtin "list.append") _ _) _ _ _)); (fail_if_success (with_reducible show wpAny _ _ (eval (Expr.ListComp _ _ _ _) _) _ _ _)); (fail_if_success (with_reducible show wpAny _ _ (exec (Stmt.Assign _ (Expr.ListComp _ _ _ _) _) _) _ _ _)); (fail_if_success (with_reducible show wpAny _ _ (compareOp CmpOp.NotEq _ _) _ _ _)); (fail_if_success (with_reducible show wpAny _ _ (subscriptTail _ _ (Value.ref _) (Value.int _ _)) _ _ _)); (fail_if_success (with_reducible show wpAny _ _ (PySem.call (Value.builtin "divmod") _ _) _ _ _)); (fail_if_success (with_reducible show wpAny _ _ (PySem.call (Value.builtin "len") _ _) _ _ _)); first | (k_unfold; (try dsimp only)) | walk1 | (dsimp only; walk1) | (leave1; (try dsimp only))))
  rename Fr _ _ _ _ => F9
  rename News _ _ _ _ => N9
  have hpq := row_pair (List.mem_of_getElem? hrP) (List.mem_of_getElem? hrQ)
  rw [← hzp, ← hzq] at hpq
  have hlow := hpq.1.trans ((lt_empty (fun n => (wrt n rowP).length) (fun n => (wrt n rowQ).length) [1, 2, 3, 4, 5]).trans (wl_empty hsz _).symm)
  have heqs := hpq.2.trans ((eq_empty (fun n => (wrt n rowP).length) (fun n => (wrt n rowQ).length) [1, 2, 3, 4, 5]).trans (wl_empty hsz _).symm)
  refine ne_dataF (by ked_read) (by ked_read) (by ked_shaped) (by ked_shaped) (by show uns + 64 < cLine; omega) (by simp only [hlow, heqs, PyData.eqv, PyData.eqvAll]; simp) ?_
  (repeat' ((fail_if_success (with_reducible show wpAny _ _ (exec (Stmt.For _ _ _ _ _) _) _ _ _)); (fail_if_success (with_reducible show wpAny _ _ (pyIter _) _ _ _)); (fail_if_success (with_reducible show wpAny _ _ (PySem.call (Value.ref _) _ _) _ _ _)); (fail_if_success (with_reducible show wpAny _ _ (compareOp CmpOp.NotEq (Value.str _ _) (Value.str _ _)) _ _ _)); (fail_if_success (with_reducible show wpAny _ _ (PySem.call (Value.builtin "str.join") _ _) _ _ _)); (fail_if_success (with_reducible show wpAny _ _ (PySem.call (Value.builtin "str.split") _ _) _ _ _)); (fail_if_success (with_reducible show wpAny _ _ (PySem.call (Value.builtin "list.append") _ _) _ _ _)); (fail_if_success (with_reducible show wpAny _ _ (eval (Expr.ListComp _ _ _ _) _) _ _ _)); (fail_if_success (with_reducible show wpAny _ _ (exec (Stmt.Assign _ (Expr.ListComp _ _ _ _) _) _) _ _ _)); (fail_if_success (with_reducible show wpAny _ _ (compareOp CmpOp.NotEq _ _) _ _ _)); (fail_if_success (with_reducible show wpAny _ _ (subscriptTail _ _ (Value.ref _) (Value.int _ _)) _ _ _)); (fail_if_success (with_reducible show wpAny _ _ (PySem.call (Value.builtin "divmod") _ _) _ _ _)); (fail_if_success (with_reducible show wpAny _ _ (PySem.call (Value.builtin "len") _ _) _ _ _)); first | (k_unfold; (try dsimp only)) | walk1 | (dsimp only; walk1) | (leave1; (try dsimp only))))
  rename Fr _ _ _ _ => F10
  rename News _ _ _ _ => N10
  k_dflt (refine LCt.ListComp_T (F₀ := F10) (by with_unfolding_all rfl) (by decide) (by rfl) (by decide) (by rfl) ?_)
  walk1
  refine LCt.CompSrcT.ledger rfl F10 N10 (by k_mem) (by exact small_line (Nat.le_of_ble_eq_true rfl)) ?_
  intro g
  refine comp_allT (fun i ys nx => nx = _ ∧ ys = []) ⟨rfl, rfl⟩ ?_ ?_
  · rintro i ys nx v I oI C oC D m₂ h tk E' hi ⟨hnx, hys⟩ hP hC hx F4 N4 off ne
    subst hys
    rw [hnx] at N4 off
    clear hnx nx F10 N10
    obtain ⟨b, rfl⟩ : ∃ b, v = Value.bool b := by
      have hi2 : i < 2 := hi
      have : i = 0 ∨ i = 1 := by omega
      rcases this with rfl | rfl
      · exact ⟨_, (Option.some.inj hP).symm⟩
      · exact ⟨_, (Option.some.inj hP).symm⟩
    (repeat' ((fail_if_success (with_reducible show wpAny _ _ (exec (Stmt.For _ _ _ _ _) _) _ _ _)); (fail_if_success (with_reducible show wpAny _ _ (pyIter _) _ _ _)); (fail_if_success (with_reducible show wpAny _ _ (PySem.call (Value.ref _) _ _) _ _ _)); (fail_if_success (with_reducible show wpAny _ _ (compareOp CmpOp.NotEq (Value.str _ _) (Value.str _ _)) _ _ _)); (fail_if_success (with_reducible show wpAny _ _ (PySem.call (Value.builtin "str.join") _ _) _ _ _)); (fail_if_success (with_reducible show wpAny _ _ (PySem.call (Value.builtin "str.split") _ _) _ _ _)); (fail_if_success (with_reducible show wpAny _ _ (PySem.call (Value.builtin "list.append") _ _) _ _ _)); (fail_if_success (with_reducible show wpAny _ _ (eval (Expr.ListComp _ _ _ _) _) _ _ _)); (fail_if_success (with_reducible show wpAny _ _ (exec (Stmt.Assign _ (Expr.ListComp _ _ _ _) _) _) _ _ _)); (fail_if_success (with_reducible show wpAny _ _ (compareOp CmpOp.NotEq _ _) _ _ _)); (fail_if_success (with_reducible show wpAny _ _ (subscriptTail _ _ (Value.ref _) (Value.int _ _)) _ _ _)); (fail_if_success (with_reducible show wpAny _ _ (PySem.call (Value.builtin "divmod") _ _) _ _ _)); (fail_if_success (with_reducible show wpAny _ _ (PySem.call (Value.builtin "len") _ _) _ _ _)); first | (k_unfold; (try dsimp only)) | walk1 | (dsimp only; walk1) | (leave1; (try dsimp only))))
    exact same_step (s := s) F4 N4 off (fun _ _ e => e) (.inr ⟨_, by k_mem, rfl, _, rfl⟩) ⟨rfl, by trivial⟩
  rintro ys nx ⟨hnx, hys⟩ D h tk F5 N5 off5
  subst hys
  rw [hnx] at N5 off5
  clear hnx nx F10 N10
  (repeat' ((fail_if_success (with_reducible show wpAny _ _ (exec (Stmt.For _ _ _ _ _) _) _ _ _)); (fail_if_success (with_reducible show wpAny _ _ (pyIter _) _ _ _)); (fail_if_success (with_reducible show wpAny _ _ (PySem.call (Value.ref _) _ _) _ _ _)); (fail_if_success (with_reducible show wpAny _ _ (compareOp CmpOp.NotEq (Value.str _ _) (Value.str _ _)) _ _ _)); (fail_if_success (with_reducible show wpAny _ _ (PySem.call (Value.builtin "str.join") _ _) _ _ _)); (fail_if_success (with_reducible show wpAny _ _ (PySem.call (Value.builtin "str.split") _ _) _ _ _)); (fail_if_success (with_reducible show wpAny _ _ (PySem.call (Value.builtin "list.append") _ _) _ _ _)); (fail_if_success (with_reducible show wpAny _ _ (eval (Expr.ListComp _ _ _ _) _) _ _ _)); (fail_if_success (with_reducible show wpAny _ _ (exec (Stmt.Assign _ (Expr.ListComp _ _ _ _) _) _) _ _ _)); (fail_if_success (with_reducible show wpAny _ _ (compareOp CmpOp.NotEq _ _) _ _ _)); (fail_if_success (with_reducible show wpAny _ _ (subscriptTail _ _ (Value.ref _) (Value.int _ _)) _ _ _)); (fail_if_success (with_reducible show wpAny _ _ (PySem.call (Value.builtin "divmod") _ _) _ _ _)); (fail_if_success (with_reducible show wpAny _ _ (PySem.call (Value.builtin "len") _ _) _ _ _)); first | (k_unfold; (try dsimp only)) | walk1 | (dsimp only; walk1) | (leave1; (try dsimp only))))
  refine ne_dataF (by ked_read) (by ked_read) (by ked_shaped) (by ked_shaped) (by show uns + 64 < cLine; omega) rfl ?_
  (repeat' ((fail_if_success (with_reducible show wpAny _ _ (exec (Stmt.For _ _ _ _ _) _) _ _ _)); (fail_if_success (with_reducible show wpAny _ _ (pyIter _) _ _ _)); (fail_if_success (with_reducible show wpAny _ _ (PySem.call (Value.ref _) _ _) _ _ _)); (fail_if_success (with_reducible show wpAny _ _ (compareOp CmpOp.NotEq (Value.str _ _) (Value.str _ _)) _ _ _)); (fail_if_success (with_reducible show wpAny _ _ (PySem.call (Value.builtin "str.join") _ _) _ _ _)); (fail_if_success (with_reducible show wpAny _ _ (PySem.call (Value.builtin "str.split") _ _) _ _ _)); (fail_if_success (with_reducible show wpAny _ _ (PySem.call (Value.builtin "list.append") _ _) _ _ _)); (fail_if_success (with_reducible show wpAny _ _ (eval (Expr.ListComp _ _ _ _) _) _ _ _)); (fail_if_success (with_reducible show wpAny _ _ (exec (Stmt.Assign _ (Expr.ListComp _ _ _ _) _) _) _ _ _)); (fail_if_success (with_reducible show wpAny _ _ (compareOp CmpOp.NotEq _ _) _ _ _)); (fail_if_success (with_reducible show wpAny _ _ (subscriptTail _ _ (Value.ref _) (Value.int _ _)) _ _ _)); (fail_if_success (with_reducible show wpAny _ _ (PySem.call (Value.builtin "divmod") _ _) _ _ _)); (fail_if_success (with_reducible show wpAny _ _ (PySem.call (Value.builtin "len") _ _) _ _ _)); first | (k_unfold; (try dsimp only)) | walk1 | (dsimp only; walk1) | (leave1; (try dsimp only))))
  rename Fr _ _ _ _ => F11
  rename News _ _ _ _ => N11
  refine hQ _ _ _ F11 (fun y y1 y2 y3 => ?_) fun q hq => N11 q (by k_mem)
  simp only [y1, y2, y3, if_false]
  by_cases z1 : y = Str.ofString "widths"
  · subst z1; simp [hm3]
  · by_cases z2 : y = Str.ofString "marks"
    · subst z2; simp [hm2, z1]
    · simp only [z1, z2, if_false]
end MjLaw5
section MjLaw6
local macro_rules | `(tactic| k_mem) => `(tactic| assumption)
local macro_rules | `(tactic| walk_at "call builtin:len") => `(tactic| (k_here; (with_reducible show wpAny _ _ (call (Value.builtin "len") [Value.ref _]) _ _ _); k_dflt (refine' len_lstV ?k1 ?k2 ?k4 ?_; (case k1 => k_asm); (case k2 => k_mem); (case k4 => omega); k_whole); intro _ _))
local macro_rules | `(tactic| k_all) => `(tactic| assumption)

theorem off5 {I D3 D2 D1 a b : Addr} {o3 o2 o1 oa ob oI : Obj} {Z : List (Addr × Obj)} (h : ∀ p ∈ (D3, o3) :: (D2, o2) :: (D1, o1) :: (a, oa) :: (b, ob) :: Z, p.1 < I) (x y : Obj) : ∀ p ∈ (D3, o3) :: (D2, o2) :: (D1, o1) :: (a, x) :: (b, y) :: Z, ∀ q ∈ [(I, oI)], p.1 ≠ q.1 := by
  intro p hp q hq
  cases List.mem_singleton.mp hq
  simp only [List.mem_cons] at hp
  rcases hp with rfl | rfl | rfl | rfl | rfl | hp
  · exact Nat.ne_of_lt (h _ (.head _))
  · exact Nat.ne_of_lt (h _ (.tail _ (.head _)))
  · exact Nat.ne_of_lt (h _ (.tail _ (.tail _ (.head _))))
  · exact Nat.ne_of_lt (h (a, oa) (.tail _ (.tail _ (.tail _ (.head _)))))
  · exact Nat.ne_of_lt (h (b, ob) (.tail _ (.tail _ (.tail _ (.tail _ (.head _))))))
  · exact Nat.ne_of_lt (h _ (.tail _ (.tail _ (.tail _ (.tail _ (.tail _ hp))))))
theorem in6 {α : Type} {a b c d e f q : α} {Z : List α} (hq : q ∈ Z) : q ∈ a :: b :: c :: d :: e :: f :: Z := .tail _ (.tail _ (.tail _ (.tail _ (.tail _ (.tail _ hq)))))
theorem pair_turn {w : World} {mean : ExcName → Option Value} {mg mb : Str → Option Value} {dp uns : Nat} {frs : Option (List Env)} {gds : Option (List Code)} {hb : Heap} {s : Shared} {L fa : Addr} {cdv : Value} {body sb : List Stmt} {scope : Scope} {Q : Flow → Shared → Prop} {E : Value → Shared → Prop} {m : Str → Option Value} {R Mk : Addr} {ws : List Value} {kR : Nat} {ms : List MM} {ns : List Int} {Z : List (Addr × Obj)} {Wd : Addr} {wls : List WL} {eW kk : Nat} {tk0 : Tok} {o2 o3 : Obj} {v2 v3 : Option Value} {pb : List Stmt} {rowA rowB : List Nat}
    (X : (hd.heap_39 w.params).In hb) (T : Top hd.view_39 (looseW hd.view_39 [Str.ofString "Whitespace"]) mean mg mb hb) (hroom : dp + 5 < recursionLimit) (hu : uns + 100 < cLine) (hlk : lawOf (hd.heap_39 w.params) = some (body, scope)) (hsb : subB 4 body = pb) (hrA : (rowsOf ns)[kk]? = some rowA) (hrB : (rowsOf ns)[kk + 1]? = some rowB)
    (F0 : Fr hb L s.heap m) (hm1 : m (Str.ofString "k") = some (.int (kk : Int) tk0)) (hm2 : m (Str.ofString "marks") = some (.ref Mk)) (hm3 : m (Str.ofString "widths") = some (.ref Wd))
    (N0 : News hb L s.heap ((L + 1 + 1 + 1, o3) :: (L + 1 + 1, o2) :: Z)) (ho2 : o2.data = .cell v2) (ho3 : o3.data = .cell v3)
    (hZ2 : ∀ p ∈ Z, @Ne Nat p.1 (L + 1 + 1)) (hZ3 : ∀ p ∈ Z, @Ne Nat p.1 (L + 1 + 1 + 1)) 
    (hZW : (Wd, W.listOf (wls.map fun m => Value.ref m.a).toArray eW) ∈ Z) (hwl : ∀ m ∈ wls, (m.a, LCg.lst m.vs) ∈ Z ∧ IntsAre m.vs ((rowsOf ns).map fun r => ((wrt m.sz r).length : Int))) (hsz : wls.map (·.sz) = [1, 2, 3, 4, 5])
    (hZM : (Mk, LCg.lst (ms.map fun m => Value.ref m.a)) ∈ Z) (hZm : ∀ q ∈ marksO w ms, q ∈ Z) (hms1 : ∀ m ∈ ms, IntsAre m.k.vs m.z.cnt ∧ m.z.cnt.length ≤ 300) (hms2 : ms.map (·.z) = (rowsOf ns).map fun r => wsOf (r ++ [9, 32, 98]))
    (hQ : ∀ h' tk m' o2' o3' v2' v3', Fr hb L h' m' → m' (Str.ofString "marks") = some (.ref Mk) → m' (Str.ofString "widths") = some (.ref Wd) → News hb L h' ((L + 1 + 1 + 1, o3') :: (L + 1 + 1, o2') :: Z) → o2'.data = .cell v2' → o3'.data = .cell v3' → Q .next { s with heap := h', toks := tk }) :
    wpAny (model PySem.Challenge.rw_mj0147_01.row.prog w) ⟨none, dp, frs, gds, uns⟩ (execs pb (envOfC (Str.ofString "law") scope L fa cdv)) Q E s := by
  revert X hlk; k_fill; intro X hlk
  k_dflt (refine' lawOf_elim ?k1 ?k2 hlk ?_; (case k1 => k_is); (case k2 => exact rfl); k_whole)
  intro e1 e2
  dsimp only at e2
  subst e1 e2
  clear hlk
  dsimp only [subB, forB, List.getElem?_cons_succ, List.getElem?_cons_zero] at hsb
  subst hsb
  refine wpAny_noRaise ?_
  have F1 := say F0 (Str.ofString "k") _ hm1
  have F2 := say F1 (Str.ofString "marks") _ hm2
  have F3 := say F2 (Str.ofString "widths") _ hm3
  clear F0 F1 F2
  (try k_fold)
  walk1
  k_steps
  rename Fr _ _ _ _ => F4
  rename News _ _ _ _ => N4
  rename_i Dp1 h1 lt1 Dp2 h2 lt2 D3 h3 lt3
  refine iter_tupTurns (vs := [Value.ref Dp1, Value.ref Dp2]) rfl F4 N4 (by k_mem) rfl rfl ?_
  intro I hI
  have hI0 := hI
  k_lt hI
  refine ItemsRest.val fun h5 tk5 F5 => AllObj.cons fun oI hoI => AllObj.nil fun N5 => ?_
  dsimp only [List.cons_append, List.nil_append] at N5
  clear F4 N4
  (repeat' ((fail_if_success (with_reducible show wpAny _ _ (exec (Stmt.For _ _ _ _ _) _) _ _ _)); (fail_if_success (with_reducible show wpAny _ _ (pyIter _) _ _ _)); (fail_if_success (with_reducible show wpAny _ _ (PySem.call (Value.ref _) _ _) _ _ _)); (fail_if_success (with_reducible show wpAny _ _ (compareOp CmpOp.NotEq (Value.str _ _) (Value.str _ _)) _ _ _)); (fail_if_success (with_reducible show wpAny _ _ (PySem.call (Value.builtin "str.join") _ _) _ _ _)); (fail_if_success (with_reducible show wpAny _ _ (PySem.call (Value.builtin "str.split") _ _) _ _ _)); (fail_if_success (with_reducible show wpAny _ _ (PySem.call (Value.builtin "list.append") _ _) _ _ _)); (fail_if_success (with_reducible show wpAny _ _ (eval (Expr.ListComp _ _ _ _) _) _ _ _)); (fail_if_success (with_reducible show wpAny _ _ (exec (Stmt.Assign _ (Expr.ListComp _ _ _ _) _) _) _ _ _)); (fail_if_success (with_reducible show wpAny _ _ (compareOp CmpOp.NotEq _ _) _ _ _)); (fail_if_success (with_reducible show wpAny _ _ (subscriptTail _ _ (Value.ref _) (Value.int _ _)) _ _ _)); (fail_if_success (with_reducible show wpAny _ _ (PySem.call (Value.builtin "divmod") _ _) _ _ _)); (fail_if_success (with_reducible show wpAny _ _ (PySem.call (Value.builtin "len") _ _) _ _ _)); (fail_if_success (with_reducible show wpAny _ _ (execs _ _) _ _ _)); first | (k_unfold; (try dsimp only)) | walk1 | (dsimp only; walk1) | (leave1; (try dsimp only))))
  rename Fr _ _ _ _ => F6
  rename News _ _ _ _ => N6
  refine told_turn (R := R) (ws := ws) (kR := kR) (sb := []) (p := kk) (q := kk + 1) X T hroom hu rfl rfl hrA hrB F6 (by rfl) (by rfl) N6 (by k_mem) (by k_mem) (by assumption) (by assumption) (in6 hZW) (fun m hm => ⟨in6 (hwl m hm).1, (hwl m hm).2⟩) hsz (in6 hZM) (fun q hq => in6 (hZm q hq)) hms1 hms2 fun h7 tk7 m7 F7 hm7 N7 => ?_
  have g2 : m7 (Str.ofString "marks") = some (.ref Mk) := by rw [hm7 _ (by decide +kernel) (by decide +kernel) (by decide +kernel)]; rfl
  have g3 : m7 (Str.ofString "widths") = some (.ref Wd) := by rw [hm7 _ (by decide +kernel) (by decide +kernel) (by decide +kernel)]; rfl
  refine ⟨_, _, _, _, rfl, F7, N7, off5 hI0 _ _, ⟨.head _, trivial⟩, ?_⟩
  clear F6 N6 F7 N7
  refine ItemsRest.val fun h8 tk8 F8 => AllObj.cons fun oI2 hoI2 => AllObj.nil fun N8 => ?_
  dsimp only [List.cons_append, List.nil_append] at N8
  have F8b := say F8 (Str.ofString "marks") _ g2
  have F8c := say F8b (Str.ofString "widths") _ g3
  clear F8 F8b
  (try k_fold)
  (repeat' ((fail_if_success (with_reducible show wpAny _ _ (exec (Stmt.For _ _ _ _ _) _) _ _ _)); (fail_if_success (with_reducible show wpAny _ _ (pyIter _) _ _ _)); (fail_if_success (with_reducible show wpAny _ _ (PySem.call (Value.ref _) _ _) _ _ _)); (fail_if_success (with_reducible show wpAny _ _ (compareOp CmpOp.NotEq (Value.str _ _) (Value.str _ _)) _ _ _)); (fail_if_success (with_reducible show wpAny _ _ (PySem.call (Value.builtin "str.join") _ _) _ _ _)); (fail_if_success (with_reducible show wpAny _ _ (PySem.call (Value.builtin "str.split") _ _) _ _ _)); (fail_if_success (with_reducible show wpAny _ _ (PySem.call (Value.builtin "list.append") _ _) _ _ _)); (fail_if_success (with_reducible show wpAny _ _ (eval (Expr.ListComp _ _ _ _) _) _ _ _)); (fail_if_success (with_reducible show wpAny _ _ (exec (Stmt.Assign _ (Expr.ListComp _ _ _ _) _) _) _ _ _)); (fail_if_success (with_reducible show wpAny _ _ (compareOp CmpOp.NotEq _ _) _ _ _)); (fail_if_success (with_reducible show wpAny _ _ (subscriptTail _ _ (Value.ref _) (Value.int _ _)) _ _ _)); (fail_if_success (with_reducible show wpAny _ _ (PySem.call (Value.builtin "divmod") _ _) _ _ _)); (fail_if_success (with_reducible show wpAny _ _ (PySem.call (Value.builtin "len") _ _) _ _ _)); (fail_if_success (with_reducible show wpAny _ _ (execs _ _) _ _ _)); first | (k_unfold; (try dsimp only)) | walk1 | (dsimp only; walk1) | (leave1; (try dsimp only))))
  rename Fr _ _ _ _ => F9
  rename News _ _ _ _ => N9
  rename_i oc2 dc2 hc oc3 dc3
  refine told_turn (R := R) (ws := ws) (kR := kR) (sb := []) (p := kk + 1) (q := kk) X T hroom hu rfl rfl hrB hrA F9 (by rfl) (by rfl) N9 (by k_mem) (by k_mem) (by assumption) (by assumption) (in6 hZW) (fun m hm => ⟨in6 (hwl m hm).1, (hwl m hm).2⟩) hsz (in6 hZM) (fun q hq => in6 (hZm q hq)) hms1 hms2 fun h10 tk10 m10 F10 hm10 N10 => ?_
  have k2 : m10 (Str.ofString "marks") = some (.ref Mk) := by rw [hm10 _ (by decide +kernel) (by decide +kernel) (by decide +kernel)]; rfl
  have k3 : m10 (Str.ofString "widths") = some (.ref Wd) := by rw [hm10 _ (by decide +kernel) (by decide +kernel) (by decide +kernel)]; rfl
  refine ⟨_, _, _, _, rfl, F10, N10, off5 hI0 _ _, ⟨.head _, trivial⟩, ?_⟩
  refine ItemsRest.zero fun h11 tk11 F11 N11 => ?_
  clear F9 N9 F10 N10
  (repeat' ((fail_if_success (with_reducible show wpAny _ _ (exec (Stmt.For _ _ _ _ _) _) _ _ _)); (fail_if_success (with_reducible show wpAny _ _ (pyIter _) _ _ _)); (fail_if_success (with_reducible show wpAny _ _ (PySem.call (Value.ref _) _ _) _ _ _)); (fail_if_success (with_reducible show wpAny _ _ (compareOp CmpOp.NotEq (Value.str _ _) (Value.str _ _)) _ _ _)); (fail_if_success (with_reducible show wpAny _ _ (PySem.call (Value.builtin "str.join") _ _) _ _ _)); (fail_if_success (with_reducible show wpAny _ _ (PySem.call (Value.builtin "str.split") _ _) _ _ _)); (fail_if_success (with_reducible show wpAny _ _ (PySem.call (Value.builtin "list.append") _ _) _ _ _)); (fail_if_success (with_reducible show wpAny _ _ (eval (Expr.ListComp _ _ _ _) _) _ _ _)); (fail_if_success (with_reducible show wpAny _ _ (exec (Stmt.Assign _ (Expr.ListComp _ _ _ _) _) _) _ _ _)); (fail_if_success (with_reducible show wpAny _ _ (compareOp CmpOp.NotEq _ _) _ _ _)); (fail_if_success (with_reducible show wpAny _ _ (subscriptTail _ _ (Value.ref _) (Value.int _ _)) _ _ _)); (fail_if_success (with_reducible show wpAny _ _ (PySem.call (Value.builtin "divmod") _ _) _ _ _)); (fail_if_success (with_reducible show wpAny _ _ (PySem.call (Value.builtin "len") _ _) _ _ _)); first | (k_unfold; (try dsimp only)) | walk1 | (dsimp only; walk1) | (leave1; (try dsimp only))))
  exact hQ _ _ _ oc2 oc3 _ _ F11 k2 k3 (fun q hq => N11 q (.tail _ (.tail _ (.tail _ hq)))) dc2 dc3
end MjLaw6
section MjLaw7
local macro_rules | `(tactic| k_mem) => `(tactic| assumption)
local macro_rules | `(tactic| walk_at "call builtin:len") => `(tactic| (k_here; (with_reducible show wpAny _ _ (call (Value.builtin "len") [Value.ref _]) _ _ _); k_dflt (refine' len_lstV ?k1 ?k2 ?k4 ?_; (case k1 => k_asm); (case k2 => k_mem); (case k4 => omega); k_whole); intro _ _))
local macro_rules | `(tactic| k_all) => `(tactic| assumption)
local macro_rules | `(tactic| walk_at "binaryOp Sub int int") => `(tactic| ((with_reducible show wpAny _ _ (binaryOp Operator.Sub (Value.int (Nat.cast _) _) (Value.int 1 _)) _ _ _); (refine sub1_nat (by omega) ?_); intro _ _))

theorem law_pairs {w : World} {mean : ExcName → Option Value} {mg mb : Str → Option Value} {dp uns : Nat} {frs : Option (List Env)} {gds : Option (List Code)} {hb : Heap} {s : Shared} {L fa : Addr} {cdv : Value} {body sb : List Stmt} {scope : Scope} {Q : Flow → Shared → Prop} {E : Value → Shared → Prop} {m : Str → Option Value} {R Mk : Addr} {ws : List Value} {kR : Nat} {ms : List MM} {ns : List Int} {Z : List (Addr × Obj)} {Wd : Addr} {wls : List WL} {eW : Nat} {o2 o3 : Obj} {v2 v3 : Option Value} {pb : List Stmt}
    (X : (hd.heap_39 w.params).In hb) (T : Top hd.view_39 (looseW hd.view_39 [Str.ofString "Whitespace"]) mean mg mb hb) (hroom : dp + 5 < recursionLimit) (hu : uns + 100 < cLine) (hlk : lawOf (hd.heap_39 w.params) = some (body, scope)) (hsb : body.drop 4 = pb)
    (F0 : Fr hb L s.heap m) (hm1 : m (Str.ofString "rows") = some (.ref R)) (hm2 : m (Str.ofString "marks") = some (.ref Mk)) (hm3 : m (Str.ofString "widths") = some (.ref Wd))
    (N0 : News hb L s.heap ((L + 1 + 1 + 1, o3) :: (L + 1 + 1, o2) :: Z)) (ho2 : o2.data = .cell v2) (ho3 : o3.data = .cell v3)
    (hZ2 : ∀ p ∈ Z, @Ne Nat p.1 (L + 1 + 1)) (hZ3 : ∀ p ∈ Z, @Ne Nat p.1 (L + 1 + 1 + 1)) (hZR : (R, W.listOf ws.toArray kR) ∈ Z) (hws : StrsAre ws ((rowsOf ns).map txt)) (hZM : (Mk, LCg.lst (ms.map fun m => Value.ref m.a)) ∈ Z) (hZm : ∀ q ∈ marksO w ms, q ∈ Z) (hms1 : ∀ m ∈ ms, IntsAre m.k.vs m.z.cnt ∧ m.z.cnt.length ≤ 300) (hms2 : ms.map (·.z) = (rowsOf ns).map fun r => wsOf (r ++ [9, 32, 98]))
    (hZW : (Wd, W.listOf (wls.map fun m => Value.ref m.a).toArray eW) ∈ Z) (hwl : ∀ m ∈ wls, (m.a, LCg.lst m.vs) ∈ Z ∧ IntsAre m.vs ((rowsOf ns).map fun r => ((wrt m.sz r).length : Int))) (hsz : wls.map (·.sz) = [1, 2, 3, 4, 5])
    (hQ : ∀ h' tk m', Fr hb L h' m' → Q (.ret (.bool true)) { s with heap := h', toks := tk }) :
    wpAny (model PySem.Challenge.rw_mj0147_01.row.prog w) ⟨none, dp, frs, gds, uns⟩ (execs pb (envOfC (Str.ofString "law") scope L fa cdv)) Q E s := by
  revert X hlk; k_fill; intro X hlk
  k_dflt (refine' lawOf_elim ?k1 ?k2 hlk ?_; (case k1 => k_is); (case k2 => exact rfl); k_whole)
  intro e1 e2
  dsimp only at e2
  subst e1 e2
  clear hlk
  simp only [List.drop_succ_cons, List.drop_zero] at hsb
  subst hsb
  refine wpAny_noRaise ?_
  have F1 := say F0 (Str.ofString "rows") _ hm1
  have F2 := say F1 (Str.ofString "marks") _ hm2
  have F3 := say F2 (Str.ofString "widths") _ hm3
  clear F0 F1 F2
  (try k_fold)
  have hwl2 : ws.length = (rowsOf ns).length := by
    have := hws.length
    rw [List.length_map] at this
    exact this
  have hw2 : 2 ≤ ws.length := by rw [hwl2]; simp [rowsOf]
  have hwl7 : ws.length ≤ 7 := by rw [hwl2]; exact rows_len7 ns
  walk1
  refine For_invV hb rfl rfl ?_ (hE := PassesOwn.never)
  (repeat' ((fail_if_success (with_reducible show wpAny _ _ (exec (Stmt.For _ _ _ _ _) _) _ _ _)); (fail_if_success (with_reducible show wpAny _ _ (pyIter _) _ _ _)); (fail_if_success (with_reducible show wpAny _ _ (PySem.call (Value.ref _) _ _) _ _ _)); (fail_if_success (with_reducible show wpAny _ _ (compareOp CmpOp.NotEq (Value.str _ _) (Value.str _ _)) _ _ _)); (fail_if_success (with_reducible show wpAny _ _ (PySem.call (Value.builtin "str.join") _ _) _ _ _)); (fail_if_success (with_reducible show wpAny _ _ (PySem.call (Value.builtin "str.split") _ _) _ _ _)); (fail_if_success (with_reducible show wpAny _ _ (PySem.call (Value.builtin "list.append") _ _) _ _ _)); (fail_if_success (with_reducible show wpAny _ _ (eval (Expr.ListComp _ _ _ _) _) _ _ _)); (fail_if_success (with_reducible show wpAny _ _ (exec (Stmt.Assign _ (Expr.ListComp _ _ _ _) _) _) _ _ _)); first | (k_unfold; (try dsimp only)) | walk1 | (dsimp only; walk1) | (leave1; (try dsimp only))))
  rename Fr _ _ _ _ => Fd
  rename News _ _ _ _ => Nd
  rename IsRange _ _ _ _ _ _ _ _ => hrg
  refine loopRange (n := ws.length - 1) (J := fun k m nx => ∃ o2' o3' v2' v3', nx = (L + 1 + 1 + 1, o3') :: (L + 1 + 1, o2') :: Z ∧ o2'.data = .cell v2' ∧ o3'.data = .cell v3' ∧ m (Str.ofString "marks") = some (.ref Mk) ∧ m (Str.ofString "widths") = some (.ref Wd)) rfl hrg (small_rng (by omega) (by omega) (by omega) (by omega)) (size_rng 0 _) Fd Nd ⟨o2, o3, _, _, rfl, ho2, ho3, rfl, rfl⟩ ?_ ?_
  · rintro k t m₁ news₁ h tk I oI hk ⟨p2, p3, u2, u3, rfl, d2, d3, g2, g3⟩ Fe Ne hoff
    rw [Int.zero_add] at Fe
    have hkr : k < (rowsOf ns).length := by omega
    have hkr1 : k + 1 < (rowsOf ns).length := by omega
    refine pair_turn (Z := (I, oI) :: Z) (R := R) (ws := ws) (kR := kR) (sb := []) X T hroom hu rfl rfl (List.getElem?_eq_getElem hkr) (List.getElem?_eq_getElem hkr1) Fe rfl g2 g3 (fun q hq => Ne q (by
      simp only [List.mem_cons] at hq ⊢
      rcases hq with h | h | h | h
      · exact .inr (.inl h)
      · exact .inr (.inr (.inl h))
      · exact .inl h
      · exact .inr (.inr (.inr h)))) d2 d3 (fun q hq => by
      rcases List.mem_cons.mp hq with rfl | hq
      · exact fun e => hoff (L + 1 + 1, p2) (.tail _ (.head _)) e.symm
      · exact hZ2 q hq) (fun q hq => by
      rcases List.mem_cons.mp hq with rfl | hq
      · exact fun e => hoff (L + 1 + 1 + 1, p3) (.head _) e.symm
      · exact hZ3 q hq) (.tail _ hZW) (fun m hm => ⟨.tail _ (hwl m hm).1, (hwl m hm).2⟩) hsz (.tail _ hZM) (fun q hq => .tail _ (hZm q hq)) hms1 hms2 fun h' tk' m' q2 q3 w2 w3 Ff f2 f3 Nf e2 e3 => ?_
    refine Turned.next ((L + 1 + 1 + 1, q3) :: (L + 1 + 1, q2) :: Z) Ff Nf (fun q hq => by
      simp only [List.mem_cons] at hq ⊢
      rcases hq with h | h | h | h
      · exact .inr (.inr (.inl h))
      · exact .inl h
      · exact .inr (.inl h)
      · exact .inr (.inr (.inr h))) (fun q hq => by
      rcases List.mem_cons.mp hq with rfl | hq
      · exact hoff (L + 1 + 1 + 1, p3) (.head _)
      · rcases List.mem_cons.mp hq with rfl | hq
        · exact hoff (L + 1 + 1, p2) (.tail _ (.head _))
        · exact hoff q (.tail _ (.tail _ hq))) ⟨q2, q3, w2, w3, rfl, e2, e3, f2, f3⟩
  rintro m₁ news₁ h tk ⟨p2, p3, u2, u3, rfl, d2, d3, g2, g3⟩ Fe Ne
  clear Fd Nd
  (repeat' ((fail_if_success (with_reducible show wpAny _ _ (exec (Stmt.For _ _ _ _ _) _) _ _ _)); (fail_if_success (with_reducible show wpAny _ _ (pyIter _) _ _ _)); (fail_if_success (with_reducible show wpAny _ _ (PySem.call (Value.ref _) _ _) _ _ _)); (fail_if_success (with_reducible show wpAny _ _ (compareOp CmpOp.NotEq (Value.str _ _) (Value.str _ _)) _ _ _)); (fail_if_success (with_reducible show wpAny _ _ (PySem.call (Value.builtin "str.join") _ _) _ _ _)); (fail_if_success (with_reducible show wpAny _ _ (PySem.call (Value.builtin "str.split") _ _) _ _ _)); (fail_if_success (with_reducible show wpAny _ _ (PySem.call (Value.builtin "list.append") _ _) _ _ _)); (fail_if_success (with_reducible show wpAny _ _ (eval (Expr.ListComp _ _ _ _) _) _ _ _)); (fail_if_success (with_reducible show wpAny _ _ (exec (Stmt.Assign _ (Expr.ListComp _ _ _ _) _) _) _ _ _)); first | (k_unfold; (try dsimp only)) | walk1 | (dsimp only; walk1) | (leave1; (try dsimp only))))
  exact hQ _ _ _ Fe

theorem allLt_mem {d : Nat} : ∀ {l : List (Addr × Obj)}, AllLt d l → ∀ p ∈ l, @Ne Nat p.1 d
  | [], _, _, h => nomatch h
  | _ :: _, x, p, h => by
    rcases List.mem_cons.mp h with rfl | h
    · exact Nat.ne_of_lt x.1
    · exact allLt_mem x.2 p h
def SizeJ (hb : Heap) (L R Mk Wd : Addr) (ns : List Int) (Z : List (Addr × Obj)) (o2 o3 : Obj) (i : Nat) (m : Str → Option Value) (nx : List (Addr × Obj)) : Prop :=
  ∃ (wls : List WL) (oS : Obj) (vS : Option Value) (e : Nat) (Y : List (Addr × Obj)), nx = (L + 1 + 1 + 1, o3) :: (L + 1 + 1, o2) :: (L + 1, oS) :: (Wd, W.listOf (wls.map fun m => Value.ref m.a).toArray e) :: Y ∧ oS.data = .cell vS ∧ (∀ q ∈ Z, q ∈ Y) ∧
    (∀ m ∈ wls, (m.a, LCg.lst m.vs) ∈ Y ∧ IntsAre m.vs ((rowsOf ns).map fun r => ((wrt m.sz r).length : Int))) ∧ wls.map (·.sz) = (List.range i).map (1 + ·) ∧ (∀ p ∈ Y, @Ne Nat p.1 Wd) ∧ (∀ p ∈ Y, @Ne Nat p.1 (L + 1)) ∧ (∀ p ∈ Y, @Ne Nat p.1 (L + 1 + 1)) ∧ (∀ p ∈ Y, @Ne Nat p.1 (L + 1 + 1 + 1)) ∧
    m (Str.ofString "rows") = some (.ref R) ∧ m (Str.ofString "marks") = some (.ref Mk) ∧ m (Str.ofString "widths") = some (.ref Wd)
theorem law_rest {w : World} {mean : ExcName → Option Value} {mg mb : Str → Option Value} {dp uns : Nat} {frs : Option (List Env)} {gds : Option (List Code)} {hb : Heap} {s : Shared} {L fa : Addr} {cdv : Value} {body sb : List Stmt} {scope : Scope} {Q : Flow → Shared → Prop} {E : Value → Shared → Prop} {m : Str → Option Value} {R Mk : Addr} {ws : List Value} {kR : Nat} {ms : List MM} {ns : List Int} {Z : List (Addr × Obj)} {o1 o2 o3 : Obj} {v1 v2 v3 : Option Value} {rb : List Stmt}
    (X : (hd.heap_39 w.params).In hb) (T : Top hd.view_39 (looseW hd.view_39 [Str.ofString "Whitespace"]) mean mg mb hb) (hroom : dp + 5 < recursionLimit) (hu : uns + 100 < cLine) (hlk : lawOf (hd.heap_39 w.params) = some (body, scope)) (hsb : body.drop 2 = rb)
    (F0 : Fr hb L s.heap m) (hm1 : m (Str.ofString "rows") = some (.ref R)) (hm2 : m (Str.ofString "marks") = some (.ref Mk))
    (N0 : News hb L s.heap ((L + 1 + 1 + 1, o3) :: (L + 1 + 1, o2) :: (L + 1, o1) :: Z)) (ho1 : o1.data = .cell v1) (ho2 : o2.data = .cell v2) (ho3 : o3.data = .cell v3)
    (hZ1 : ∀ p ∈ Z, @Ne Nat p.1 (L + 1)) (hZ2 : ∀ p ∈ Z, @Ne Nat p.1 (L + 1 + 1)) (hZ3 : ∀ p ∈ Z, @Ne Nat p.1 (L + 1 + 1 + 1)) (hZR : (R, W.listOf ws.toArray kR) ∈ Z) (hws : StrsAre ws ((rowsOf ns).map txt)) (hZM : (Mk, LCg.lst (ms.map fun m => Value.ref m.a)) ∈ Z) (hZm : ∀ q ∈ marksO w ms, q ∈ Z) (hms1 : ∀ m ∈ ms, IntsAre m.k.vs m.z.cnt ∧ m.z.cnt.length ≤ 300) (hms2 : ms.map (·.z) = (rowsOf ns).map fun r => wsOf (r ++ [9, 32, 98]))
    (hQ : ∀ h' tk m', Fr hb L h' m' → Q (.ret (.bool true)) { s with heap := h', toks := tk }) :
    wpAny (model PySem.Challenge.rw_mj0147_01.row.prog w) ⟨none, dp, frs, gds, uns⟩ (execs rb (envOfC (Str.ofString "law") scope L fa cdv)) Q E s := by
  revert X hlk; k_fill; intro X hlk
  k_dflt (refine' lawOf_elim ?k1 ?k2 hlk ?_; (case k1 => k_is); (case k2 => exact rfl); k_whole)
  intro e1 e2
  dsimp only at e2
  subst e1 e2
  clear hlk
  simp only [List.drop_succ_cons, List.drop_zero] at hsb
  subst hsb
  refine wpAny_noRaise ?_
  have F1 := say F0 (Str.ofString "rows") _ hm1
  have F3 := say F1 (Str.ofString "marks") _ hm2
  clear F0 F1
  (try k_fold)
  (repeat' ((fail_if_success (with_reducible show wpAny _ _ (exec (Stmt.For _ _ _ _ _) _) _ _ _)); (fail_if_success (with_reducible show wpAny _ _ (pyIter _) _ _ _)); (fail_if_success (with_reducible show wpAny _ _ (PySem.call (Value.ref _) _ _) _ _ _)); (fail_if_success (with_reducible show wpAny _ _ (compareOp CmpOp.NotEq (Value.str _ _) (Value.str _ _)) _ _ _)); (fail_if_success (with_reducible show wpAny _ _ (PySem.call (Value.builtin "str.join") _ _) _ _ _)); (fail_if_success (with_reducible show wpAny _ _ (PySem.call (Value.builtin "str.split") _ _) _ _ _)); (fail_if_success (with_reducible show wpAny _ _ (PySem.call (Value.builtin "list.append") _ _) _ _ _)); (fail_if_success (with_reducible show wpAny _ _ (eval (Expr.ListComp _ _ _ _) _) _ _ _)); (fail_if_success (with_reducible show wpAny _ _ (exec (Stmt.Assign _ (Expr.ListComp _ _ _ _) _) _) _ _ _)); first | (k_unfold; (try dsimp only)) | walk1 | (dsimp only; walk1) | (leave1; (try dsimp only))))
  rename_i Wd hw1 lw hw2 Fw Nw
  refine wpAny_For ?_ (by intro _; rfl)
  (repeat' ((fail_if_success (with_reducible show wpAny _ _ (exec (Stmt.For _ _ _ _ _) _) _ _ _)); (fail_if_success (with_reducible show wpAny _ _ (pyIter _) _ _ _)); (fail_if_success (with_reducible show wpAny _ _ (PySem.call (Value.ref _) _ _) _ _ _)); (fail_if_success (with_reducible show wpAny _ _ (compareOp CmpOp.NotEq (Value.str _ _) (Value.str _ _)) _ _ _)); (fail_if_success (with_reducible show wpAny _ _ (PySem.call (Value.builtin "str.join") _ _) _ _ _)); (fail_if_success (with_reducible show wpAny _ _ (PySem.call (Value.builtin "str.split") _ _) _ _ _)); (fail_if_success (with_reducible show wpAny _ _ (PySem.call (Value.builtin "list.append") _ _) _ _ _)); (fail_if_success (with_reducible show wpAny _ _ (eval (Expr.ListComp _ _ _ _) _) _ _ _)); (fail_if_success (with_reducible show wpAny _ _ (exec (Stmt.Assign _ (Expr.ListComp _ _ _ _) _) _) _ _ _)); first | (k_unfold; (try dsimp only)) | walk1 | (dsimp only; walk1) | (leave1; (try dsimp only))))
  rename Fr _ _ _ _ => Fd
  rename News _ _ _ _ => Nd
  rename IsRange _ _ _ _ _ _ _ _ => hrg
  (try clear Fw)
  (try clear Nw)
  refine forRangeAny (n := 5) (SizeJ hb L R Mk Wd ns Z o2 o3) rfl hrg (by decide) (by decide) Fd (fun q hq => Nd q (by
      simp only [List.mem_cons] at hq ⊢
      rcases hq with h | h | h | h | h
      · exact .inr (.inl h)
      · exact .inr (.inr (.inl h))
      · exact .inr (.inr (.inr (.inl h)))
      · exact .inl h
      · exact .inr (.inr (.inr (.inr h))))) ⟨[], o1, _, 0, Z, rfl, ho1, (fun q hq => hq), (fun m hm => nomatch hm), rfl, allLt_mem lw.2.2.2, hZ1, hZ2, hZ3, rfl, rfl, rfl⟩ (fun _ _ => rfl) ?_ ?_
  · rintro i t m₁ news₁ h tk I oI hi ⟨wls, oS, vS, e, Y, rfl, hoS, hY, hwl, hsz, hYW, hY1, hY2, hY3, g1, g2, g3⟩ Fe NN hoff
    clear Fd Nd
    have hI1 : @Ne Nat I (L + 1) := fun e => hoff (L + 1, oS) (.tail _ (.tail _ (.head _))) e.symm
    have hI2 : @Ne Nat I (L + 1 + 1) := fun e => hoff (L + 1 + 1, o2) (.tail _ (.head _)) e.symm
    have hI3 : @Ne Nat I (L + 1 + 1 + 1) := fun e => hoff (L + 1 + 1 + 1, o3) (.head _) e.symm
    have hIW : @Ne Nat I Wd := fun e' => hoff (Wd, W.listOf (wls.map fun m => Value.ref m.a).toArray e) (.tail _ (.tail _ (.tail _ (.head _)))) e'.symm
    have hW1 : @Ne Nat Wd (L + 1) := Nat.ne_of_gt lw.2.2.1
    have hW2 : @Ne Nat Wd (L + 1 + 1) := Nat.ne_of_gt lw.2.1
    have hW3 : @Ne Nat Wd (L + 1 + 1 + 1) := Nat.ne_of_gt lw.1
    have Fe1 := say Fe (Str.ofString "rows") _ g1
    have Fe2 := say Fe1 (Str.ofString "marks") _ g2
    have Fe3 := say Fe2 (Str.ofString "widths") _ g3
    clear Fe Fe1 Fe2
    (try k_fold)
    (repeat' ((fail_if_success (with_reducible show wpAny _ _ (exec (Stmt.For _ _ _ _ _) _) _ _ _)); (fail_if_success (with_reducible show wpAny _ _ (pyIter _) _ _ _)); (fail_if_success (with_reducible show wpAny _ _ (PySem.call (Value.ref _) _ _) _ _ _)); (fail_if_success (with_reducible show wpAny _ _ (compareOp CmpOp.NotEq (Value.str _ _) (Value.str _ _)) _ _ _)); (fail_if_success (with_reducible show wpAny _ _ (PySem.call (Value.builtin "str.join") _ _) _ _ _)); (fail_if_success (with_reducible show wpAny _ _ (PySem.call (Value.builtin "str.split") _ _) _ _ _)); (fail_if_success (with_reducible show wpAny _ _ (PySem.call (Value.builtin "list.append") _ _) _ _ _)); (fail_if_success (with_reducible show wpAny _ _ (eval (Expr.ListComp _ _ _ _) _) _ _ _)); (fail_if_success (with_reducible show wpAny _ _ (exec (Stmt.Assign _ (Expr.ListComp _ _ _ _) _) _) _ _ _)); (fail_if_success (with_reducible show wpAny _ _ (compareOp CmpOp.NotEq _ _) _ _ _)); (fail_if_success (with_reducible show wpAny _ _ (subscriptTail _ _ (Value.ref _) (Value.int _ _)) _ _ _)); (fail_if_success (with_reducible show wpAny _ _ (PySem.call (Value.builtin "divmod") _ _) _ _ _)); (fail_if_success (with_reducible show wpAny _ _ (PySem.call (Value.builtin "len") _ _) _ _ _)); (fail_if_success (with_reducible show wpAny _ _ (execs _ _) _ _ _)); first | (k_unfold; (try dsimp only)) | walk1 | (dsimp only; walk1) | (leave1; (try dsimp only))))
    rename Fr _ _ _ _ => F6
    rename News _ _ _ _ => N6
    rename_i oT dT
    (try clear NN)
    have hwlen : wls.length = i := by have := congrArg List.length hsz; simpa using this
    refine size_turn (Z := (I, oI) :: Y) (sz := 1 + i) X T hroom hu rfl rfl ⟨by omega, by omega⟩ F6 rfl rfl rfl (fun q hq => N6 q (by
      simp only [List.mem_cons] at hq ⊢
      rcases hq with h | h | h | h | h | h
      · exact .inr (.inl h)
      · exact .inr (.inr (.inl h))
      · exact .inr (.inr (.inr (.inl h)))
      · exact .inr (.inr (.inr (.inr (.inl h))))
      · exact .inl h
      · exact .inr (.inr (.inr (.inr (.inr h)))))) dT (.tail _ (hY _ hZR)) hws (.tail _ (hY _ hZM)) (fun q hq => .tail _ (hY _ (hZm q hq))) hms1 hms2 (fun q hq => by
      rcases List.mem_cons.mp hq with rfl | hq
      · exact hIW
      · exact hYW q hq) (by rw [List.length_map]; omega) (fun e => hW3 e.symm) (fun e => hW2 e.symm) (fun e => hW1 e.symm) fun h' tk' m' wl wlv e' Ff f1 f2 f3 Nf hwI hnew => ?_
    have hap : (wls.map fun m => Value.ref m.a) ++ [Value.ref wl] = (wls ++ [(⟨wl, wlv, 1 + i⟩ : WL)]).map fun m => Value.ref m.a := by rw [List.map_append]; rfl
    rw [hap] at Nf
    have nI := hnew (I, oI) (.tail _ (.tail _ (.tail _ (.tail _ (.head _)))))
    refine Turned.next ((L + 1 + 1 + 1, o3) :: (L + 1 + 1, o2) :: (L + 1, oT) :: (Wd, W.listOf ((wls ++ [(⟨wl, wlv, 1 + i⟩ : WL)]).map fun m => Value.ref m.a).toArray e') :: (wl, LCg.lst wlv) :: Y) Ff Nf (fun q hq => by
      simp only [List.mem_cons] at hq ⊢
      rcases hq with h | h | h | h | h | h | h
      · exact .inr (.inr (.inr (.inr (.inr (.inl h)))))
      · exact .inl h
      · exact .inr (.inl h)
      · exact .inr (.inr (.inl h))
      · exact .inr (.inr (.inr (.inl h)))
      · exact .inr (.inr (.inr (.inr (.inl h))))
      · exact .inr (.inr (.inr (.inr (.inr (.inr h)))))) (fun q hq => by
      simp only [List.mem_cons] at hq
      rcases hq with rfl | rfl | rfl | rfl | rfl | hq
      · exact fun e => hI3 e.symm
      · exact fun e => hI2 e.symm
      · exact fun e => hI1 e.symm
      · exact fun e => hIW e.symm
      · exact fun e => nI e.symm
      · exact hoff q (.tail _ (.tail _ (.tail _ (.tail _ hq))))) ⟨wls ++ [⟨wl, wlv, 1 + i⟩], oT, _, e', (wl, LCg.lst wlv) :: Y, rfl, dT, (fun q hq => .tail _ (hY q hq)), ?_, ?_, ?_, ?_, ?_, ?_, f1, f2, f3⟩
    · intro m hm
      rcases List.mem_append.mp hm with hm | hm
      · exact ⟨.tail _ (hwl m hm).1, (hwl m hm).2⟩
      · cases List.mem_singleton.mp hm
        exact ⟨.head _, hwI⟩
    · rw [List.map_append, hsz, List.range_succ, List.map_append]; rfl
    · intro q hq
      rcases List.mem_cons.mp hq with rfl | hq
      · exact fun e => hnew (Wd, W.listOf (wls.map fun m => Value.ref m.a).toArray _) (.tail _ (.tail _ (.tail _ (.head _)))) e.symm
      · exact hYW q hq
    · intro q hq
      rcases List.mem_cons.mp hq with rfl | hq
      · exact fun e => hnew (L + 1, oT) (.tail _ (.tail _ (.head _))) e.symm
      · exact hY1 q hq
    · intro q hq
      rcases List.mem_cons.mp hq with rfl | hq
      · exact fun e => hnew (L + 1 + 1, o2) (.tail _ (.head _)) e.symm
      · exact hY2 q hq
    · intro q hq
      rcases List.mem_cons.mp hq with rfl | hq
      · exact fun e => hnew (L + 1 + 1 + 1, o3) (.head _) e.symm
      · exact hY3 q hq
  · rintro m₁ news₁ h tk1 ⟨wls, oS, vS, e, Y, rfl, hoS, hY, hwl, hsz, hYW, hY1, hY2, hY3, g1, g2, g3⟩ Fe NN
    clear Fd Nd
    dsimp only
    refine law_pairs (Z := (L + 1, oS) :: (Wd, W.listOf (wls.map fun m => Value.ref m.a).toArray e) :: Y) (sb := []) X T hroom hu rfl rfl Fe g1 g2 g3 NN ho2 ho3 ?_ ?_ (.tail _ (.tail _ (hY _ hZR))) hws (.tail _ (.tail _ (hY _ hZM))) (fun q hq => .tail _ (.tail _ (hY _ (hZm q hq)))) hms1 hms2 (.tail _ (.head _)) (fun m hm => ⟨.tail _ (.tail _ (hwl m hm).1), (hwl m hm).2⟩) hsz fun h' tk' m' st => hQ h' tk' m' st
    · intro q hq
      rcases List.mem_cons.mp hq with rfl | hq
      · exact Nat.ne_of_lt (Nat.lt_succ_self _)
      · rcases List.mem_cons.mp hq with rfl | hq
        · exact Nat.ne_of_gt lw.2.1
        · exact hY2 q hq
    · intro q hq
      rcases List.mem_cons.mp hq with rfl | hq
      · exact Nat.ne_of_lt (Nat.lt_succ_of_lt (Nat.lt_succ_self _))
      · rcases List.mem_cons.mp hq with rfl | hq
        · exact Nat.ne_of_gt lw.1
        · exact hY3 q hq
end MjLaw7
section MjLaw8

theorem objs_cell {w : World} {M : MK} {x : Addr} {σ : WS} {q : Addr × Obj} (h : q ∈ M.objs w x σ) (v : Option Value) : q.2.data ≠ .cell v := by
  simp only [MK.objs, List.mem_cons, List.not_mem_nil, or_false] at h
  rcases h with rfl | rfl | rfl | rfl <;> intro e <;> cases e
theorem law_all {w : World} {mean : ExcName → Option Value} {mg mb : Str → Option Value} {dp uns : Nat} {frs : Option (List Env)} {gds : Option (List Code)} {hb : Heap} {s : Shared} {L fa l : Addr} {cdv : Value} {vs : List Value} {ns : List Int} {o1 o2 o3 : Obj} {m : Str → Option Value} {body : List Stmt} {scope : Scope} {Q : Flow → Shared → Prop} {E : Value → Shared → Prop}
    (X : (hd.heap_39 w.params).In hb) (T : Top hd.view_39 (looseW hd.view_39 [Str.ofString "Whitespace"]) mean mg mb hb) (hroom : dp + 5 < recursionLimit) (hu : uns + 100 < cLine) (hL : hb.IsList l vs.toArray) (hI : IntsAre vs ns) (h63 : ns.length ≤ 63)
    (F0 : Fr hb L s.heap m) (hms : m (Str.ofString "script") = some (.ref l)) (N0 : News hb L s.heap [(L + 1 + 1 + 1, o3), (L + 1 + 1, o2), (L + 1, o1)]) (hc1 : o1.data = .cell none) (hc2 : o2.data = .cell none) (hc3 : o3.data = .cell none)
    (hlk : lawOf (hd.heap_39 w.params) = some (body, scope))
    (hQ : ∀ h' tk m', Fr hb L h' m' → Q (.ret (.bool true)) { s with heap := h', toks := tk }) :
    wpAny (model PySem.Challenge.rw_mj0147_01.row.prog w) ⟨none, dp, frs, gds, uns⟩ (execs body (envOfC (Str.ofString "law") scope L fa cdv)) Q E s := by
  revert X hlk; k_fill; intro X hlk
  k_dflt (refine' lawOf_elim ?k1 ?k2 hlk ?_; (case k1 => k_is); (case k2 => exact rfl); k_whole)
  intro e1 e2
  dsimp only at e2
  subst e1 e2
  clear hlk
  refine wpAny_noRaise ?_
  have F1 := say F0 (Str.ofString "script") _ hms
  clear F0
  (try k_fold)
  (repeat' ((fail_if_success (with_reducible show wpAny _ _ (exec (Stmt.For _ _ _ _ _) _) _ _ _)); (fail_if_success (with_reducible show wpAny _ _ (pyIter _) _ _ _)); (fail_if_success (with_reducible show wpAny _ _ (PySem.call (Value.ref _) _ _) _ _ _)); first | (k_unfold; (try dsimp only)) | walk1 | (dsimp only; walk1) | (leave1; (try dsimp only))))
  refine rows_call X T F1.keep (show dp < recursionLimit by omega) rfl hL hI h63 fun R ws k h1 tk1 st1 hws hR hRn => ?_
  have F2 := Fr.keeps F1 st1
  have N2 := news_add F1 (News.grown N0 st1) hR hRn
  clear N0 F1
  (repeat' ((fail_if_success (with_reducible show wpAny _ _ (exec (Stmt.For _ _ _ _ _) _) _ _ _)); (fail_if_success (with_reducible show wpAny _ _ (pyIter _) _ _ _)); (fail_if_success (with_reducible show wpAny _ _ (PySem.call (Value.ref _) _ _) _ _ _)); (fail_if_success (with_reducible show wpAny _ _ (compareOp CmpOp.NotEq (Value.str _ _) (Value.str _ _)) _ _ _)); (fail_if_success (with_reducible show wpAny _ _ (PySem.call (Value.builtin "str.join") _ _) _ _ _)); (fail_if_success (with_reducible show wpAny _ _ (PySem.call (Value.builtin "str.split") _ _) _ _ _)); (fail_if_success (with_reducible show wpAny _ _ (PySem.call (Value.builtin "list.append") _ _) _ _ _)); (fail_if_success (with_reducible show wpAny _ _ (eval (Expr.ListComp _ _ _ _) _) _ _ _)); (fail_if_success (with_reducible show wpAny _ _ (exec (Stmt.Assign _ (Expr.ListComp _ _ _ _) _) _) _ _ _)); first | (k_unfold; (try dsimp only)) | walk1 | (dsimp only; walk1) | (leave1; (try dsimp only))))
  rename Fr _ _ _ _ => F3
  rename News _ _ _ _ => N3
  k_dflt (refine LCg.Assign_ListComp_U (F₀ := F3) (by rfl) (by with_unfolding_all rfl) (by with_unfolding_all rfl) (by decide) (by rfl) (by decide) (by rfl) (by rfl) (by rfl) ?_)
  walk1
  have hwl : ws.length ≤ 7 := by
    have := hws.length
    simp only [rowsOf, List.length_map, List.length_cons, List.length_take] at this
    omega
  refine LCg.CompSrc.ledger rfl F3 N3 (.head _) (by rw [List.size_toArray]; exact small_line (by omega)) ?_
  intro g
  refine comp_all (fun i ys nx => ∃ ms : List MM, ys = ms.map (fun m => Value.ref m.a) ∧ nx = marksO w ms ++ [(R, W.listOf ws.toArray k), (L + 1 + 1 + 1, o3), (L + 1 + 1, o2), (L + 1, o1)] ∧ (∀ m ∈ ms, IntsAre m.k.vs m.z.cnt ∧ m.z.cnt.length ≤ 300) ∧ ms.map (·.z) = ((rowsOf ns).take i).map fun r => wsOf (r ++ [9, 32, 98])) ⟨[], rfl, rfl, by simp, by simp⟩ ?_ ?_
  · rintro i ys nx v I oI C oC D m₂ h tk E' hi ⟨ms, rfl, rfl, hms1, hms2⟩ hP hC hx F4 N4 off ne
    have hP' : ws[i]? = some v := by simpa using hP
    obtain ⟨y, t, rfl, hy⟩ := strs_at hws hP'
    rw [List.getElem?_map] at hy
    obtain ⟨row, hrow, rfl⟩ := Option.map_eq_some_iff.mp hy
    clear F3 N3
    have hrl := rows_len (List.mem_of_getElem? hrow)
    (repeat' ((fail_if_success (with_reducible show wpAny _ _ (exec (Stmt.For _ _ _ _ _) _) _ _ _)); (fail_if_success (with_reducible show wpAny _ _ (pyIter _) _ _ _)); (fail_if_success (with_reducible show wpAny _ _ (PySem.call (Value.ref _) _ _) _ _ _)); first | (k_unfold; (try dsimp only)) | walk1 | (dsimp only; walk1) | (leave1; (try dsimp only))))
    refine ws_call X T F4.keep (show dp + 1 < recursionLimit by omega) rfl (by simp only [List.length_append, List.length_cons, List.length_nil]; omega) fun x h5 tk5 st5 hM => ?_
    refine mark_step F4 N4 off st5 hM (.inr ⟨_, .head _, rfl, _, rfl⟩) rfl hms1 ?_
    rw [hms2, List.take_add_one, hrow, List.map_append]
    rfl
  · rintro ys nx ⟨ms, rfl, rfl, hms1, hms2⟩
    intro D h tk F4 N4 off
    clear F3 N3
    have hcell : ∀ q ∈ (D, LCg.lst (ms.map fun m => Value.ref m.a)) :: (marksO w ms ++ [(R, W.listOf ws.toArray k)]), ∀ (a : Addr) (o : Obj) (v : Option Value), h.get? a = some o → o.data = .cell v → @Ne Nat q.1 a := by
      intro q hq a o v ha hd e
      have hq1 : h.get? q.1 = some q.2 := (N4 q (by
        simp only [List.mem_cons, List.mem_append, List.not_mem_nil, or_false] at hq ⊢
        rcases hq with h | h | h
        · exact .inl h
        · exact .inr (.inl h)
        · exact .inr (.inr (.inl h)))).1
      have e' : q.1 = a := e
      rw [e', ha] at hq1
      cases hq1
      simp only [List.mem_cons, List.mem_append, List.not_mem_nil, or_false] at hq
      rcases hq with h | h | h
      · subst h; cases hd
      · obtain ⟨mm, _, hmm⟩ := List.mem_flatMap.mp h
        exact objs_cell hmm v hd
      · subst h; cases hd
    have hc1' := (N4 (L + 1, o1) (by simp)).1
    have hc2' := (N4 (L + 1 + 1, o2) (by simp)).1
    have hc3' := (N4 (L + 1 + 1 + 1, o3) (by simp)).1
    have hwl2 : ws.length = (rowsOf ns).length := by
      have := hws.length
      rw [List.length_map] at this
      exact this
    rw [List.size_toArray, hwl2, List.take_of_length_le (Nat.le_refl _)] at hms2
    dsimp only
    refine law_rest (Z := (D, LCg.lst (ms.map fun m => Value.ref m.a)) :: (marksO w ms ++ [(R, W.listOf ws.toArray k)])) (sb := []) X T hroom hu rfl rfl F4 (by rfl) (by rfl) (fun q hq => N4 q (by
      simp only [List.mem_cons, List.mem_append, List.not_mem_nil, or_false] at hq ⊢
      rcases hq with h | h | h | h | h | h
      · exact .inr (.inr (.inr (.inl h)))
      · exact .inr (.inr (.inr (.inr (.inl h))))
      · exact .inr (.inr (.inr (.inr (.inr h))))
      · exact .inl h
      · exact .inr (.inl h)
      · exact .inr (.inr (.inl h)))) hc1 hc2 hc3 (fun q hq => hcell q hq _ _ _ hc1' hc1) (fun q hq => hcell q hq _ _ _ hc2' hc2) (fun q hq => hcell q hq _ _ _ hc3' hc3) (.tail _ (List.mem_append_right _ (.head _))) hws (.head _) (fun q hq => .tail _ (List.mem_append_left _ hq)) hms1 hms2 fun h' tk' m' st => hQ h' tk' m' st
end MjLaw8
section MjLaw9

theorem last : PySem.Challenge.rw_mj0147_01.Holds := hd (by

  k_go0
  rename Heap.CodeRec _ _ _ => hz1
  clear hz1
  rename CellsAre _ _ _ => hz2
  clear hz2
  rename Fr _ _ _ _ => F0
  rename News _ _ _ _ => N0
  rename Frag.In _ _ => KX
  rename Top _ _ _ _ _ _ => T
  rename IntsAre _ _ => hI
  rename Heap.IsList _ _ _ => hL
  rename (¬ _ < _) => h63
  rename (Obj.data _ = Data.cell _) => hc1
  replace hc1 : _ = Data.cell none := hc1
  revert hc1
  rename (Obj.data _ = Data.cell _) => hc2
  replace hc2 : _ = Data.cell none := hc2
  revert hc2
  rename (Obj.data _ = Data.cell _) => hc3
  replace hc3 : _ = Data.cell none := hc3
  intro hc2 hc1
  refine wpAny_noRaise ?_
  dsimp only

  refine law_all KX T (by decide +kernel) (by decide +kernel) hL hI (by omega) F0 (by first | rfl | decide +kernel | simp [bindL]) N0 hc1 hc2 hc3 rfl fun h' tk' m' F9 => ?_
  (try dsimp only)
  refine goodW_bool F9 (by assumption) (raisesW_false ?_) ?_
  · wrow_none_raised
  · wrow_post)
end MjLaw9
end Mine
theorem PySem.Challenge.cw_mj0147_01_holds : PySem.Challenge.rw_mj0147_01.Holds := by
  exact Mine.last
