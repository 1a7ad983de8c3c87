import PyProof.Rows.All
import Wide.All
import OpenK.AllK
import Wide.FinOn
import PySem.Challenge.RW_rl0154_01
open PySem PySem.W PySem.Spec PySem.Calls PyProof.Rows
set_option Elab.async false
set_option maxRecDepth 100000
set_option maxHeartbeats 8000000
local macro_rules | `(tactic| walk_at $s:str) => `(tactic| k_extra $s)

namespace Mine
section
def Stop (P : Prop) : Prop := P
theorem Stop.intro {P : Prop} (h : Stop P) : P := h
theorem Stop.out {P : Prop} (h : P) : Stop P := h

/-- what is asked of the caller's place, and what the call hands back -/
def Ctr (prog : Program) (w : World) (K : Frag) (p : Program) (f : Addr) (dd uu : Nat) (vs : List Value) (news : List (Addr × Obj)) (R : List (Addr × Obj) → Value → Prop) : Prop :=
  ∀ (loose : List Str) (mean : ExcName → Option Value) (mg mb : Str → Option Value) (dp un : Nat) (gd : Option (List Code)) (cn : Str) (cs : Scope) (a : Addr) (ccd : Value) (cl : List (Str × Addr)) (outer : List Env) (A₀ : Around) (base h₀ : Heap) (L : Addr) (m : Str → Option Value) (s : Shared) (Q E : Value → Shared → Prop),
    Below A₀ base outer h₀ → Fr h₀ L s.heap m → K.In h₀ → News h₀ L s.heap news → Top p loose mean mg mb h₀ → cs.kind = .function → dp + dd < recursionLimit → un + 8 * uu < cLine →
    (∀ r tl h' tk', Fr h₀ L h' m → News h₀ L h' (tl ++ news) → (∀ q ∈ news, ∀ p ∈ tl, q.1 < p.1) → R tl r → Q r { s with heap := h', toks := tk' }) →
      wpAny (model prog w) (ktrTop dp un gd cn cs L a ccd cl outer) (call (.ref f) vs) Q E s

theorem Ctr.use {prog : Program} {w : World} {K : Frag} {p : Program} {f : Addr} {dd uu : Nat} {vs : List Value} {news : List (Addr × Obj)} {R : List (Addr × Obj) → Value → Prop}
    {loose : List Str} {mean : ExcName → Option Value} {mg mb : Str → Option Value} {dp un : Nat} {gd : Option (List Code)} {cn : Str} {cs : Scope} {a : Addr} {ccd : Value} {cl : List (Str × Addr)} {outer : List Env} {A₀ : Around} {base h₀ : Heap} {L : Addr} {m : Str → Option Value} {s : Shared} {Q E : Value → Shared → Prop}
    (C : Ctr prog w K p f dd uu vs news R) (B : Below A₀ base outer h₀) (F : Fr h₀ L s.heap m) (X : K.In h₀) (N : News h₀ L s.heap news) (T : Top p loose mean mg mb h₀) (hk : cs.kind = .function) (hd : dp + dd < recursionLimit) (hu : un + 8 * uu < cLine)
    (ret : ∀ r tl h' tk', Fr h₀ L h' m → News h₀ L h' (tl ++ news) → (∀ q ∈ news, ∀ p ∈ tl, q.1 < p.1) → R tl r → Q r { s with heap := h', toks := tk' }) :
    wpAny (model prog w) (ktrTop dp un gd cn cs L a ccd cl outer) (call (.ref f) vs) Q E s := C _ _ _ _ _ _ _ _ _ _ _ _ _ _ _ _ _ _ _ _ _ B F X N T hk hd hu ret

/-- the same, its premises found by themselves -/
theorem Ctr.ask {prog : Program} {w : World} {K : Frag} {p : Program} {f : Addr} {dd uu : Nat} {vs : List Value} {news : List (Addr × Obj)} {R : List (Addr × Obj) → Value → Prop}
    {loose : List Str} {mean : ExcName → Option Value} {mg mb : Str → Option Value} {dp un : Nat} {gd : Option (List Code)} {cn : Str} {cs : Scope} {a : Addr} {ccd : Value} {cl : List (Str × Addr)} {outer : List Env} {A₀ : Around} {base h₀ : Heap} {L : Addr} {m : Str → Option Value} {s : Shared} {Q E : Value → Shared → Prop}
    (C : Ctr prog w K p f dd uu vs news R) (B : Below A₀ base outer h₀ := by k_asm) (F : Fr h₀ L s.heap m := by k_asm) (X : K.In h₀ := by k_asm) (N : News h₀ L s.heap news := by k_asm) (T : Top p loose mean mg mb h₀ := by k_asm) (hk : cs.kind = .function := by first | exact rfl | assumption) (hd : dp + dd < recursionLimit := by ktr_room) (hu : un + 8 * uu < cLine := by ktr_units)
    (ret : ∀ r tl h' tk', Fr h₀ L h' m → News h₀ L h' (tl ++ news) → (∀ q ∈ news, ∀ p ∈ tl, q.1 < p.1) → R tl r → Q r { s with heap := h', toks := tk' }) :
    wpAny (model prog w) (ktrTop dp un gd cn cs L a ccd cl outer) (call (.ref f) vs) Q E s := C _ _ _ _ _ _ _ _ _ _ _ _ _ _ _ _ _ _ _ _ _ B F X N T hk hd hu ret

theorem news_sub {h₀ h : Heap} {L : Addr} {news led : List (Addr × Obj)} (N : News h₀ L h news) (hs : ∀ p ∈ led, p ∈ news) : News h₀ L h led := fun p hp => N p (hs p hp)
theorem news_dup {h₀ h : Heap} {L : Addr} {news : List (Addr × Obj)} {p : Addr × Obj} (N : News h₀ L h news) (hp : p ∈ news) : News h₀ L h (p :: news) := fun q hq => by
  rcases List.mem_cons.mp hq with rfl | hq
  · exact N _ hp
  · exact N _ hq
theorem allLt_mem {d : Addr} : ∀ {l : List (Addr × Obj)}, AllLt d l → ∀ p ∈ l, p.1 < d
  | [], _, _, hp => (nomatch hp)
  | q :: r, h, p, hp => by
    rcases List.mem_cons.mp hp with rfl | hp
    · exact h.1
    · exact allLt_mem h.2 p hp
theorem kstB_all {m₁ : Str → Option Value} {ps : List (Str × Value)} (h : ∀ p ∈ ps, m₁ p.1 = some p.2) : kstB m₁ ps = m₁ := funext fun _ => kstB_eq h fun _ => rfl

section
variable {prog : Program} {w : World} {A : Around} {E : Value → Shared → Prop} {Q : Flow → Shared → Prop} {s : Shared} {env : Env} {h₀ : Heap} {L : Addr} {σ : Type}

def WEnd (h₀ : Heap) (L : Addr) (s : Shared) (Led : σ → List (Addr × Obj)) (ps : σ → List (Str × Value)) (P : σ → Prop) (μ : σ → Nat) (c : σ) (s₂ : Shared) : Prop :=
  ∃ (c' : σ) (h' : Heap) (tk : Nat) (m' : Str → Option Value) (news' : List (Addr × Obj)), s₂ = { s with heap := h', toks := tk } ∧ Fr h₀ L h' m' ∧ News h₀ L h' news' ∧ (∀ p ∈ Led c', p ∈ news') ∧ (∀ p ∈ ps c', m' p.1 = some p.2) ∧ P c' ∧ μ c' < μ c
def WPost (h₀ : Heap) (L : Addr) (s : Shared) (Led : σ → List (Addr × Obj)) (ps : σ → List (Str × Value)) (P : σ → Prop) (μ : σ → Nat) (Q : Flow → Shared → Prop) (c : σ) (f : Flow) (s₂ : Shared) : Prop :=
  match f with
  | .ret v => Q (.ret v) s₂
  | .brk => Q .next s₂
  | _ => WEnd h₀ L s Led ps P μ c s₂
theorem WEnd.intro {Led : σ → List (Addr × Obj)} {ps : σ → List (Str × Value)} {P : σ → Prop} {μ : σ → Nat} {c : σ} {h' : Heap} {tk : Nat} {m' : Str → Option Value} {news' : List (Addr × Obj)} (c' : σ)
    (F : Fr h₀ L h' m') (N : News h₀ L h' news') (hn : ∀ p ∈ Led c', p ∈ news') (hk : ∀ p ∈ ps c', m' p.1 = some p.2) (hp : P c') (hm : μ c' < μ c) :
    WEnd h₀ L s Led ps P μ c { s with heap := h', toks := tk } := ⟨c', h', tk, m', news', rfl, F, N, hn, hk, hp, hm⟩

theorem whileR {test : Expr} {body : List Stmt} {pos : Pos} {m₀ : Str → Option Value} {news : List (Addr × Obj)} (Led : σ → List (Addr × Obj)) (ps : σ → List (Str × Value)) (P : σ → Prop) (μ : σ → Nat)
    (F : Fr h₀ L s.heap m₀) (N : News h₀ L s.heap news) (start : ∃ c₀ : σ, (∀ p ∈ Led c₀, p ∈ news) ∧ (∀ p ∈ ps c₀, m₀ p.1 = some p.2) ∧ P c₀)
    (turn : ∀ (c : σ) (u : Str → Option Value) h tk, P c → Fr h₀ L h (kstB u (ps c)) → News h₀ L h (Led c) →
      wpAny (model prog w) A (isTrue test env (eval test env)) (fun b s₂ =>
        if b = true then wpAny (model prog w) A (execs body env) (WPost h₀ L s Led ps P μ Q c) E s₂ else Q .next s₂) E { s with heap := h, toks := tk })
    (hE : PassesOwn (model prog w) A env E := by passes_own) :
    wpAny (model prog w) A (exec (.While test body [] pos) env) Q E s := by
  obtain ⟨c₀, hn, hk, hp⟩ := start
  refine While_inv2 (fun n m nx => ∃ c : σ, nx = Led c ∧ μ c = n ∧ (∀ p ∈ ps c, m p.1 = some p.2) ∧ P c) F (news_sub N hn) ⟨c₀, rfl, rfl, hk, hp⟩ ?_ hE
  rintro n m₁ nx h tk F₁ N₁ ⟨c, hnx, hsz, h1, hp'⟩
  rw [hnx] at N₁
  rw [← hsz]
  refine wpAny_mono (turn c m₁ h tk hp' ((kstB_all h1).symm ▸ F₁) N₁) (fun b s₂ p => ?_) fun _ _ x => x
  cases b with
  | false => simpa using p
  | true =>
    simp only [if_true] at p ⊢
    refine wpAny_mono p (fun f s₃ q => ?_) fun _ _ x => x
    cases f with
    | ret v => exact q
    | brk => exact q
    | next =>
      obtain ⟨c', h', tk', m', news', rfl, F', N', hn', hk', hp9, hm9⟩ := q
      exact ⟨h', tk', m', Led c', μ c', rfl, F', fun p hp => N' p (hn' p hp), hm9, c', rfl, rfl, hk', hp9⟩
    | cont =>
      obtain ⟨c', h', tk', m', news', rfl, F', N', hn', hk', hp9, hm9⟩ := q
      exact ⟨h', tk', m', Led c', μ c', rfl, F', fun p hp => N' p (hn' p hp), hm9, c', rfl, rfl, hk', hp9⟩
end

section
variable {prog : Program} {w : World} {A : Around} {E : Value → Shared → Prop} {Q : Flow → Shared → Prop} {s : Shared} {env : Env} {h₀ : Heap} {σ : Type} {x : Str} {body : List Stmt}

def FEnd (h₀ : Heap) (L : Addr) (s : Shared) (I : Addr) (oI : Obj) (Led : σ → List (Addr × Obj)) (ps : σ → List (Str × Value)) (P : σ → Prop) (s₂ : Shared) : Prop :=
  ∃ (c' : σ) (h' : Heap) (tk : Nat) (m' : Str → Option Value) (news' : List (Addr × Obj)), s₂ = { s with heap := h', toks := tk } ∧ Fr h₀ L h' m' ∧ News h₀ L h' news' ∧ (I, oI) ∈ news' ∧ (∀ p ∈ Led c', p ∈ news') ∧ (∀ p ∈ Led c', p.1 ≠ I) ∧ (∀ p ∈ ps c', m' p.1 = some p.2) ∧ P c'
def FPost (h₀ : Heap) (L : Addr) (s : Shared) (I : Addr) (oI : Obj) (Led : σ → List (Addr × Obj)) (ps : σ → List (Str × Value)) (P : σ → Prop) (Q : Flow → Shared → Prop) (f : Flow) (s₂ : Shared) : Prop :=
  match f with
  | .ret v => Q (.ret v) s₂
  | .brk => Q .next s₂
  | _ => FEnd h₀ L s I oI Led ps P s₂
theorem FEnd.intro {L I : Addr} {oI : Obj} {Led : σ → List (Addr × Obj)} {ps : σ → List (Str × Value)} {P : σ → Prop} {h' : Heap} {tk : Nat} {m' : Str → Option Value} {news' : List (Addr × Obj)} (c' : σ)
    (F : Fr h₀ L h' m') (N : News h₀ L h' news') (hI : (I, oI) ∈ news') (hn : ∀ p ∈ Led c', p ∈ news') (hne : ∀ p ∈ Led c', p.1 ≠ I) (hk : ∀ p ∈ ps c', m' p.1 = some p.2) (hp : P c') :
    FEnd h₀ L s I oI Led ps P { s with heap := h', toks := tk } := ⟨c', h', tk, m', news', rfl, F, N, hI, hn, hne, hk, hp⟩

theorem forR {I : Addr} {fp : List Addr} {n : Nat} {Pv : Nat → Value → Prop} {St : Nat → Heap → Prop} {m₀ : Str → Option Value} (Led : σ → List (Addr × Obj)) (ps : σ → List (Str × Value)) (P : Nat → σ → Prop) (c₀ : σ)
    (W : Walks prog w A I fp [I] n Pv St) (hst : St 0 s.heap) (hlive : ∀ i h, St i h → ∃ o, h.get? I = some o) (hIn : h₀.get? I = none) (hLI : env.locals ≠ I)
    (hfp : ∀ b ∈ fp, b = I ∨ ∃ o, ∀ c, (b, o) ∈ Led c)
    (F : Fr h₀ env.locals s.heap m₀) (N : News h₀ env.locals s.heap (Led c₀)) (hne : ∀ p ∈ Led c₀, p.1 ≠ I) (hk : ∀ p ∈ ps c₀, m₀ p.1 = some p.2) (hp : P 0 c₀)
    (turn : ∀ (c : σ) i v (u : Str → Option Value) h tk oI, i < n → Pv i v → P i c → (∀ p ∈ Led c, p.1 ≠ I) →
      Fr h₀ env.locals h (fun y => if y = x then some v else kstB u (ps c) y) → News h₀ env.locals h ((I, oI) :: Led c) →
      wpAny (model prog w) A (execs body env) (FPost h₀ env.locals { s with heap := h, toks := tk } I oI Led ps (P (i + 1)) Q) E { s with heap := h, toks := tk })
    (done : ∀ (c : σ) (u : Str → Option Value) h tk, P n c → Fr h₀ env.locals h (kstB u (ps c)) → News h₀ env.locals h (Led c) → Q .next { s with heap := h, toks := tk }) :
    LoopAtV prog w A h₀ env x body Q E (.ref I) s := by
  have hLf : env.locals ∉ fp := by
    intro hm
    rcases hfp _ hm with e | ⟨o, ho⟩
    · exact hLI e
    · exact (N _ (ho c₀)).2.1 rfl
  refine ⟨I, fp, [I], n, Pv, St, m₀, Led c₀, fun i m nx => ∃ c : σ, nx = Led c ∧ (∀ p ∈ ps c, m p.1 = some p.2) ∧ P i c, rfl, W, hLf, ?_, ?_, hst, F, N, ⟨c₀, rfl, hk, hp⟩, ?_, ?_⟩
  · intro b hb
    rw [List.mem_singleton.mp hb]; exact hIn
  · intro p hp' hI
    exact hne p hp' (List.mem_singleton.mp hI)
  · rintro i v m₁ nx s₁ own ⟨h, tk, rfl⟩ hi hP ⟨c, rfl, h1, hp'⟩ hoff hown hlv hall hst' F₁ N₁
    obtain ⟨oI, hoI⟩ := hlive _ _ hst'
    have hI : (I, oI) ∈ own := hall I (W.sub I (List.mem_singleton.mpr rfl)) hIn oI hoI
    have hne' : ∀ p ∈ Led c, p.1 ≠ I := fun p hp hq => hoff p hp (List.mem_singleton.mpr hq)
    have N₂ : News h₀ env.locals h ((I, oI) :: Led c) := fun p hp => by
      rcases List.mem_cons.mp hp with rfl | hp
      · exact N₁ _ (List.mem_append_left _ hI)
      · exact N₁ _ (List.mem_append_right _ hp)
    have eM : (fun y => if y = x then some v else kstB m₁ (ps c) y) = fun y => if y = x then some v else m₁ y := by rw [kstB_all h1]
    refine wpAny_mono (turn c i v m₁ h tk oI hi hP hp' hne' (eM.symm ▸ F₁) N₂) (fun f s₂ q => ?_) fun _ _ e => e
    have fin : FEnd h₀ env.locals { s with heap := h, toks := tk } I oI Led ps (P (i + 1)) s₂ → LoopStepU h₀ env.locals [I] own (fun m nx => ∃ c : σ, nx = Led c ∧ (∀ p ∈ ps c, m p.1 = some p.2) ∧ P (i + 1) c) { s with heap := h, toks := tk } .next s₂ := by
      rintro ⟨c', h', tk', m', news', e, F', N', hI', hn', hx', hk', hp9⟩
      refine ⟨rfl, h', tk', m', Led c', e, F', ?_, ?_, c', rfl, hk', hp9⟩
      · intro p hp
        rcases List.mem_append.mp hp with hp | hp
        · rcases hfp _ (hown p hp) with eI | ⟨o, ho⟩
          · have e2 : p.2 = oI := by
              have h3 := hlv p hp
              rw [eI] at h3
              have h4 : some p.2 = some oI := h3.symm.trans hoI
              exact Option.some.inj h4
            have e3 : p = (I, oI) := Prod.ext eI e2
            rw [e3]; exact N' _ hI'
          · have e2 : p.2 = o := by
              have h3 := hlv p hp
              have h4 : some p.2 = some o := h3.symm.trans (N₁ _ (List.mem_append_right _ (ho c))).1
              exact Option.some.inj h4
            have e3 : p = (p.1, o) := Prod.ext rfl e2
            rw [e3]; exact N' _ (hn' _ (ho c'))
        · exact N' p (hn' p hp)
      · intro p hp hq
        exact hx' p hp (List.mem_singleton.mp hq)
    cases f with
    | ret v => exact .ret q
    | brk => exact .brk q
    | next => exact .next (fin q)
    | cont => exact .cont (fin q)
  · rintro h' tk m' news' F' N' _ ⟨c, rfl, h1, hp'⟩
    exact done c m' h' tk hp' ((kstB_all h1).symm ▸ F') N'

/-- over a list of the ledger -/
theorem forList {l : Addr} {vs : List Value} {nn : Nat} {m₀ : Str → Option Value} {news : List (Addr × Obj)} (Led : σ → List (Addr × Obj)) (ps : σ → List (Str × Value)) (P : Nat → σ → Prop)
    (hh : A.handled = none) (hl : ∀ c, (l, listOf vs.toArray nn) ∈ Led c)
    (F : Fr h₀ env.locals s.heap m₀) (N : News h₀ env.locals s.heap news) (start : ∃ c₀ : σ, (∀ p ∈ Led c₀, p ∈ news) ∧ (∀ p ∈ ps c₀, m₀ p.1 = some p.2) ∧ P 0 c₀)
    (turn : ∀ (c : σ) I i v (u : Str → Option Value) h tk oI, i < vs.length → vs[i]? = some v → P i c → (∀ p ∈ Led c, p.1 ≠ I) →
      Fr h₀ env.locals h (fun y => if y = x then some v else kstB u (ps c) y) → News h₀ env.locals h ((I, oI) :: Led c) →
      wpAny (model prog w) A (execs body env) (FPost h₀ env.locals { s with heap := h, toks := tk } I oI Led ps (P (i + 1)) Q) E { s with heap := h, toks := tk })
    (done : ∀ (c : σ) (u : Str → Option Value) h tk, P vs.length c → Fr h₀ env.locals h (kstB u (ps c)) → News h₀ env.locals h (Led c) → Q .next { s with heap := h, toks := tk }) :
    wpAny (model prog w) A (pyIter (.ref l)) (fun it s₂ => LoopAtV prog w A h₀ env x body Q E it s₂) E s := by
  obtain ⟨c₀, hn, hk, hp⟩ := start
  have N0 := news_sub N hn
  have hol : s.heap.get? l = some (listOf vs.toArray nn) := (N0 _ (hl c₀)).1
  have hls : s.heap.IsList l vs.toArray := ⟨_, hol, rfl, nn, rfl⟩
  have hne : l ≠ s.heap.objs.size := Nat.ne_of_lt (Heap.lt_size hol)
  refine wpAny_pyIter_list hls ?_
  have W := Walks.list (prog := prog) (w := w) hh s.heap.objs.size l hne vs.toArray
  rw [List.size_toArray] at W
  refine forR Led ps P c₀ W ⟨⟨_, Heap.get?_push_size _ rfl, rfl, rfl⟩, hls.at fun o e => Heap.get?_push_of_some _ e⟩ ?_ (next_is_new F) ?_ ?_ (F.push _) (fun p hp => ⟨Heap.get?_push_of_some _ (N0 p hp).1, (N0 p hp).2⟩) ?_ hk hp ?_ done
  · rintro i h ⟨⟨o, ho, _⟩, _⟩; exact ⟨o, ho⟩
  · exact Nat.ne_of_lt F.ns.lt
  · intro b hb
    rcases List.mem_cons.mp hb with rfl | hb
    · exact .inl rfl
    · rw [List.mem_singleton.mp hb]; exact .inr ⟨_, hl⟩
  · intro p hp e
    exact absurd (Heap.lt_size (N0 p hp).1) (by rw [e]; exact Nat.lt_irrefl _)
  · intro c i v u h tk oI hi hv
    exact turn c _ i v u h tk oI hi (by simpa using hv)

/-- over range(a₀, b₀, d) -/
theorem forRange {r : Addr} {a₀ b₀ d : Int} {t₀ u₀ v₀ : Tok} {n : Nat} {m₀ : Str → Option Value} {news : List (Addr × Obj)} (Led : σ → List (Addr × Obj)) (ps : σ → List (Str × Value)) (P : Nat → σ → Prop)
    (hh : A.handled = none) (hr : IsRange s.heap r a₀ b₀ d t₀ u₀ v₀) (hsmall : Builtin.Range.small a₀ b₀ d = true) (hn0 : Builtin.Range.rangeSize a₀ b₀ d = (n : Int))
    (F : Fr h₀ env.locals s.heap m₀) (N : News h₀ env.locals s.heap news) (start : ∃ c₀ : σ, (∀ p ∈ Led c₀, p ∈ news) ∧ (∀ p ∈ ps c₀, m₀ p.1 = some p.2) ∧ P 0 c₀)
    (turn : ∀ (c : σ) I (i : Nat) t (u : Str → Option Value) h tk oI, i < n → P i c → (∀ p ∈ Led c, p.1 ≠ I) →
      Fr h₀ env.locals h (fun y => if y = x then some (.int (a₀ + i * d) t) else kstB u (ps c) y) → News h₀ env.locals h ((I, oI) :: Led c) →
      wpAny (model prog w) A (execs body env) (FPost h₀ env.locals { s with heap := h, toks := tk } I oI Led ps (P (i + 1)) Q) E { s with heap := h, toks := tk })
    (done : ∀ (c : σ) (u : Str → Option Value) h tk, P n c → Fr h₀ env.locals h (kstB u (ps c)) → News h₀ env.locals h (Led c) → Q .next { s with heap := h, toks := tk }) :
    wpAny (model prog w) A (pyIter (.ref r)) (fun it s₂ => LoopAtV prog w A h₀ env x body Q E it s₂) E s := by
  obtain ⟨c₀, hn, hk, hp⟩ := start
  have N0 := news_sub N hn
  refine wpAny_pyIter_range hr hsmall ?_
  have W := Walks.range (prog := prog) (w := w) hh s.heap.objs.size a₀ d n
  refine forR Led ps P c₀ W (by show IsRangeIter _ _ _ _ _; rw [hn0]; simpa using Heap.get?_push_size _ rfl) ?_ (next_is_new F) (Nat.ne_of_lt F.ns.lt) ?_ (F.push _) (fun p hp => ⟨Heap.get?_push_of_some _ (N0 p hp).1, (N0 p hp).2⟩) ?_ hk hp ?_ done
  · intro i h ho; exact ⟨_, ho⟩
  · intro b hb; exact .inl (List.mem_singleton.mp hb)
  · intro p hp e
    exact absurd (Heap.lt_size (N0 p hp).1) (by rw [e]; exact Nat.lt_irrefl _)
  · rintro c i v u h tk oI hi ⟨t, rfl⟩ hP hne F' N'
    exact turn c _ i t u h tk oI hi hP hne F' N'

/-- over bytes -/
theorem forBytes {b : Array UInt8} {tb : Tok} {m₀ : Str → Option Value} {news : List (Addr × Obj)} (Led : σ → List (Addr × Obj)) (ps : σ → List (Str × Value)) (P : Nat → σ → Prop)
    (hh : A.handled = none)
    (F : Fr h₀ env.locals s.heap m₀) (N : News h₀ env.locals s.heap news) (start : ∃ c₀ : σ, (∀ p ∈ Led c₀, p ∈ news) ∧ (∀ p ∈ ps c₀, m₀ p.1 = some p.2) ∧ P 0 c₀)
    (turn : ∀ (c : σ) I (i : Nat) k t (u : Str → Option Value) h tk oI, i < b.size → b[i]? = some k → P i c → (∀ p ∈ Led c, p.1 ≠ I) →
      Fr h₀ env.locals h (fun y => if y = x then some (.int (k.toNat : Int) t) else kstB u (ps c) y) → News h₀ env.locals h ((I, oI) :: Led c) →
      wpAny (model prog w) A (execs body env) (FPost h₀ env.locals { s with heap := h, toks := tk } I oI Led ps (P (i + 1)) Q) E { s with heap := h, toks := tk })
    (done : ∀ (c : σ) (u : Str → Option Value) h tk, P b.size c → Fr h₀ env.locals h (kstB u (ps c)) → News h₀ env.locals h (Led c) → Q .next { s with heap := h, toks := tk }) :
    wpAny (model prog w) A (pyIter (.bytes b tb)) (fun it s₂ => LoopAtV prog w A h₀ env x body Q E it s₂) E s := by
  obtain ⟨c₀, hn, hk, hp⟩ := start
  have N0 := news_sub N hn
  refine KBw.pyIter_bytes ?_
  have W := KBw.walks (prog := prog) (w := w) hh s.heap.objs.size b tb
  refine forR Led ps P c₀ W ⟨_, Heap.get?_push_size _ rfl, rfl, rfl⟩ ?_ (next_is_new F) (Nat.ne_of_lt F.ns.lt) ?_ (F.push _) (fun p hp => ⟨Heap.get?_push_of_some _ (N0 p hp).1, (N0 p hp).2⟩) ?_ hk hp ?_ done
  · rintro i h ⟨o, ho, _⟩; exact ⟨o, ho⟩
  · intro b hb; exact .inl (List.mem_singleton.mp hb)
  · intro p hp e
    exact absurd (Heap.lt_size (N0 p hp).1) (by rw [e]; exact Nat.lt_irrefl _)
  · rintro c i v u h tk oI hi ⟨k, t, hk, rfl⟩ hP hne F' N'
    exact turn c _ i k t u h tk oI hi hk hP hne F' N'
end

abbrev pairObj (x y : Int) (t t' : Tok) (n : Nat) : Obj := { cls := .type "tuple", data := .seq #[.int x t, .int y t'] n }
/-- a list of pairs of ints, as the ledger bears it -/
def StoryIn (news : List (Addr × Obj)) (vs : List Value) (sp : List (Int × Int)) : Prop :=
  vs.length = sp.length ∧ ∀ (i : Nat) (x : Int × Int), sp[i]? = some x → ∃ a t t' n, vs[i]? = some (.ref a) ∧ (a, pairObj x.1 x.2 t t' n) ∈ news

theorem kl_cut_of : ∀ {l : List Value} {k : Nat} {y : Value}, l[k]? = some y → kl_cut l k = some (l.take k, y, l.drop (k + 1))
  | [], _, _, h => by simp at h
  | x :: r, 0, y, h => by simp at h; subst h; rfl
  | x :: r, k + 1, y, h => by
    have ih := kl_cut_of (l := r) (k := k) (y := y) (by simpa using h)
    unfold kl_cut
    rw [ih]
    rfl

section
variable {prog : Program} {w : World} {A : Around} {E : Value → Shared → Prop} {s : Shared} {h₀ : Heap} {L D : Addr} {m : Str → Option Value} {news news' : List (Addr × Obj)} {vs : List Value} {n : Nat} {k : Int} {t u : Tok} {v : Value}
theorem r_len {Q : Value → Shared → Prop} (N : News h₀ L s.heap news) (hm : (D, listOf vs.toArray n) ∈ news) (hz : vs.length ≤ 1000000) (h : Q (.int vs.length (s.toks + 1)) { s with toks := s.toks + 1 + 1 }) :
    wpAny (model prog w) A (call (.builtin "len") [.ref D]) Q E s :=
  PyProof.Rows.len_list (PySem.IsL.isList (n := n) (N _ hm).1) (by rw [List.size_toArray]; omega) (by rw [List.size_toArray]; exact h)
theorem r_item {Q : Value → Shared → Prop} (N : News h₀ L s.heap news) (hm : (D, listOf vs.toArray n) ∈ news) (h0 : 0 ≤ k) (hk : vs[k.toNat]? = some v) (hz : vs.length ≤ 1000000) (h : Q v s) :
    wpAny (model prog w) A (getItem (.ref D) (.int k u)) Q E s := by
  have hlt : k.toNat < vs.length := (List.getElem?_eq_some_iff.mp hk).1
  exact wpAny_getItem_list (PySem.IsL.isList (n := n) (N _ hm).1) h0 (by omega) (by simpa using hk) h
theorem r_sub {value slice : PySem.Expr} {Q : Value → Shared → Prop} (N : News h₀ L s.heap news) (hm : (D, listOf vs.toArray n) ∈ news) (h0 : 0 ≤ k) (hk : vs[k.toNat]? = some v) (hz : vs.length ≤ 1000000) (h : Q v s)
    (hs : subscripted slice false (.ref D) (.int k u) = operate [.ref D, .int k u] (getItem (.ref D) (.int k u)) := by with_unfolding_all rfl) :
    wpAny (model prog w) A (subscriptTail value slice (.ref D) (.int k u)) Q E s :=
  tail_any (PySem.IsL.isList (n := n) (N _ hm).1).typeIs slot_list_getitem.lookup (r_item N hm h0 hk hz h) hs
theorem r_popAt {Q : Value → Shared → Prop} (F : Fr h₀ L s.heap m) (N : News h₀ L s.heap news) (U : Upd D (listOf vs.toArray n) (listOf (vs.eraseIdx k.toNat).toArray (n + 1)) news news') (h0 : 0 ≤ k) (hk : vs[k.toNat]? = some v) (hz : vs.length ≤ 1000000)
    (h : ∀ h', Fr h₀ L h' m → News h₀ L h' news' → Q v { s with heap := h' }) : wpAny (model prog w) A (call (.builtin "list.pop") [.ref D, .int k u]) Q E s := by
  have hlt : k.toNat < vs.length := (List.getElem?_eq_some_iff.mp hk).1
  have e : vs.eraseIdx k.toNat = vs.take k.toNat ++ vs.drop (k.toNat + 1) := List.eraseIdx_eq_take_drop_succ ..
  rw [e] at U
  refine kl_popAt F N (k := k.toNat) ?_ ?_ (kl_cut_of hk) U (Nat.le_trans hz (by decide)) h
  · unfold Builtin.List.listFitsIndex
    simp only [Bool.and_eq_true, decide_eq_true_eq]
    constructor <;> omega
  · rw [List.size_toArray]
    unfold seqIndex?
    have : ¬ k < 0 := by omega
    simp [this]
    omega
theorem r_setAt {Q : Unit → Shared → Prop} (F : Fr h₀ L s.heap m) (N : News h₀ L s.heap news) (U : Upd D (listOf vs.toArray n) (listOf (vs.set k.toNat v).toArray n) news news') (h0 : 0 ≤ k) (h1 : k < vs.length) (hz : vs.length ≤ 1000000)
    (h : ∀ h', Fr h₀ L h' m → News h₀ L h' news' → Q () { s with heap := h' }) : wpAny (model prog w) A (setItem (.ref D) (.int k t) v) Q E s := by
  obtain ⟨pre, post, rfl, rfl, a, b⟩ := U.split
  have z := N (D, listOf vs.toArray n) (List.mem_append.mpr (.inr (.head _)))
  have hs : vs.toArray.size = vs.length := by rw [List.size_toArray]
  refine ki_setAt z.1 h0 (by omega) (by omega) (h _ (F.change (Heap.SameBut.update ..) z.2.1 z.2.2) (ki_turn _ N a b ?_ ?_))
  · show vs.toArray.setIfInBounds k.toNat v = (vs.set k.toNat v).toArray
    apply Array.toList_inj.mp
    simp
  · simp
theorem r_join {ys : List Str} {x : Str} {Q : Value → Shared → Prop} (N : News h₀ L s.heap news) (hm : (D, listOf vs.toArray n) ∈ news) (hi : StrsAre vs ys) (hx : x.length = 0) (hok : (ys.map (·.length)).sum ≤ 1000000)
    (h : ∀ t' k, Q (.str (Txt.join x ys) t') { s with toks := k }) : wpAny (model prog w) A (call (.builtin "str.join") [.str x t, .ref D]) Q E s :=
  join_list (PySem.IsL.isList (n := n) (N _ hm).1) (by simpa using hi) (by rw [hx]; omega) h
theorem r_pair0 {value slice : PySem.Expr} {a : Addr} {x y : Int} {t' t2 : Tok} {Q : Value → Shared → Prop} (N : News h₀ L s.heap news) (hm : (a, pairObj x y t' t2 n) ∈ news) (h : Q (.int x t') s)
    (hs : subscripted slice false (.ref a) (.int 0 u) = operate [.ref a, .int 0 u] (getItem (.ref a) (.int 0 u)) := by with_unfolding_all rfl) :
    wpAny (model prog w) A (subscriptTail value slice (.ref a) (.int 0 u)) Q E s :=
  item_tupleT (News.isTup N hm) (by decide) (by decide) (j := 0) rfl rfl h hs
theorem r_pair1 {value slice : PySem.Expr} {a : Addr} {x y : Int} {t' t2 : Tok} {Q : Value → Shared → Prop} (N : News h₀ L s.heap news) (hm : (a, pairObj x y t' t2 n) ∈ news) (h : Q (.int y t2) s)
    (hs : subscripted slice false (.ref a) (.int 1 u) = operate [.ref a, .int 1 u] (getItem (.ref a) (.int 1 u)) := by with_unfolding_all rfl) :
    wpAny (model prog w) A (subscriptTail value slice (.ref a) (.int 1 u)) Q E s :=
  item_tupleT (News.isTup N hm) (by decide) (by decide) (j := 1) rfl rfl h hs
end

theorem mul1_foldl (v : Value) : ∀ (k : Nat) (acc : Array Value), List.foldl (fun x1 x2 => x1 ++ x2) acc (List.replicate k #[v]) = acc ++ (List.replicate k v).toArray
  | 0, acc => by simp
  | k + 1, acc => by
    rw [List.replicate_succ, List.foldl_cons, mul1_foldl v k, List.replicate_succ]
    apply Array.toList_inj.mp
    simp
section
variable {prog : Program} {w : World} {A : Around} {E : Value → Shared → Prop} {s : Shared} {h₀ : Heap} {L D : Addr} {m : Str → Option Value} {news news' : List (Addr × Obj)} {n : Nat} {x : Int} {u : Tok} {v : Value}
theorem r_mul1 {Q : Value → Shared → Prop} (F : Fr h₀ L s.heap m) (N : News h₀ L s.heap news) (hm : (D, listOf #[v] n) ∈ news) (h0 : 0 ≤ x) (hx : x ≤ 1000000)
    (h : ∀ D' h', Fr h₀ L h' m → News h₀ L h' ((D', listOf (List.replicate x.toNat v).toArray 0) :: news) → (∀ p ∈ news, p.1 < D') → Q (.ref D') { s with heap := h' }) :
    wpAny (model prog w) A (binaryOp .Mult (.ref D) (.int x u)) Q E s := by
  refine PyProof.Rows.mul_list F N (N _ hm).1 (by omega) (by omega) (by simp; omega) (fun h' F' N' => h _ h' F' ?_ (fun p hp => Heap.lt_size (N p hp).1))
  have e : List.foldl (fun x1 x2 => x1 ++ x2) #[] (List.replicate (if (#[v] : Array Value).isEmpty = true then 0 else x.toNat) #[v]) = (List.replicate x.toNat v).toArray := by
    rw [mul1_foldl]; simp
  rw [e] at N'
  exact N'
end
theorem StrsAre_length : ∀ {vs : List Value} {ys : List Str}, StrsAre vs ys → vs.length = ys.length
  | _, _, .nil => rfl
  | _, _, .cons _ _ h => by simp [StrsAre_length h]
section
variable {prog : Program} {w : World} {A : Around} {E : Value → Shared → Prop} {s : Shared} {h₀ : Heap} {L D : Addr} {m : Str → Option Value} {news news' : List (Addr × Obj)} {vs : List Value} {n : Nat} {k : Int} {t u : Tok} {v : Value}
theorem r_append {Q : Value → Shared → Prop} (F : Fr h₀ L s.heap m) (N : News h₀ L s.heap news) (U : Upd D (listOf vs.toArray n) (listOf (vs ++ [v]).toArray (n + 1)) news news') (hz : vs.length ≤ 1000000)
    (h : ∀ h', Fr h₀ L h' m → News h₀ L h' news' → Q .none { s with heap := h' }) : wpAny (model prog w) A (call (.builtin "list.append") [.ref D, v]) Q E s := by
  have e : vs.toArray.push v = (vs ++ [v]).toArray := by simp
  refine append_K F N (e.symm ▸ U) h ?_
  rw [List.size_toArray, PySem.sizeLine_eq]
  omega
theorem r_last {value slice : PySem.Expr} {Q : Value → Shared → Prop} (N : News h₀ L s.heap news) (hm : (D, listOf (vs ++ [v]).toArray n) ∈ news) (hz : vs.length ≤ 1000000) (h : Q v s)
    (hs : subscripted slice false (.ref D) (.int (-1) u) = operate [.ref D, .int (-1) u] (getItem (.ref D) (.int (-1) u)) := by with_unfolding_all rfl) :
    wpAny (model prog w) A (subscriptTail value slice (.ref D) (.int (-1) u)) Q E s := by
  have hL := PySem.IsL.isList (n := n) (N _ hm).1
  refine tail_any hL.typeIs slot_list_getitem.lookup (wpAny_getItem_list_neg (k := -1) hL (by decide) ?_ (by decide) ?_ h) hs
  · rw [List.size_toArray, List.length_append]; simp; omega
  · have e : ((-1 : Int) + ((vs ++ [v]).toArray.size : Int)).toNat = vs.length := by rw [List.size_toArray, List.length_append]; simp; omega
    rw [e]
    simp
end
end
end Mine

namespace Mine
section
open_top hd for PySem.Challenge.rw_rl0154_01
end
end Mine

namespace Mine
section
theorem int_ret {x y : Int} {t : Tok} (h : x = y) : ∃ t', Value.int x t = .int y t' := ⟨t, by rw [h]⟩
theorem perm_sum {l l' : List Int} (p : l.Perm l') : l.sum = l'.sum := by
  induction p with
  | nil => rfl
  | cons x _ ih => simp [ih]
  | swap x y l => simp; omega
  | trans _ _ h1 h2 => rw [h1, h2]
def tF (j b : Int) : Int := if 36 * (j + 1) - b < 1 then 1 else if 36 * (j + 1) - b > 26 then 26 else 36 * (j + 1) - b
theorem tF_range (j b : Int) : 1 ≤ tF j b ∧ tF j b ≤ 26 := by
  unfold tF
  (repeat' split) <;> omega
theorem int_retT {x j b : Int} {t : Tok} (h : x = tF j b) : ∃ t', Value.int x t = .int (tF j b) t' ∧ 1 ≤ tF j b ∧ tF j b ≤ 26 := ⟨t, by rw [h], tF_range j b⟩
def biasL (d : Nat) (dv : Int) : Int := if h : 455 < d then biasL (d / 35) (dv + 36) else dv + ((36 * d / (d + 38) : Nat) : Int)
termination_by d
decreasing_by omega
def biasF (de : Int) (fi : Bool) (nc : Int) : Int := biasL ((if fi then de.toNat / 700 else de.toNat / 2) + (if fi then de.toNat / 700 else de.toNat / 2) / nc.toNat) 0


theorem biasL_step {d : Nat} {dv : Int} (h : 455 < d) : biasL d dv = biasL (d / 35) (dv + 36) := by
  rw [biasL]; simp only [h, dif_pos]
theorem biasL_end {d : Nat} {dv : Int} (h : ¬ 455 < d) : biasL d dv = dv + ((36 * d / (d + 38) : Nat) : Int) := by
  rw [biasL]; simp only [h, dif_neg, not_false_eq_true]
theorem adapt_start1 {de nc : Int} (h0 : 0 ≤ de) (h1 : 1 ≤ nc) (fi : Bool) (k : Int) (hk : k = if fi then 700 else 2) : 0 ≤ de.fdiv k + (de.fdiv k).fdiv nc ∧ biasL (de.fdiv k + (de.fdiv k).fdiv nc).toNat 0 = biasF de fi nc := by
  have hk0 : 0 < k := by subst hk; split <;> decide
  rw [Int.fdiv_eq_ediv_of_nonneg _ (Int.le_of_lt hk0), Int.fdiv_eq_ediv_of_nonneg _ (by omega : 0 ≤ nc)]
  have a1 : 0 ≤ de / k := Int.ediv_nonneg h0 (by omega)
  have a2 : 0 ≤ de / k / nc := Int.ediv_nonneg a1 (by omega)
  refine ⟨by omega, ?_⟩
  have e1 : (if fi then de.toNat / 700 else de.toNat / 2) = (de / k).toNat := by
    subst hk
    cases fi
    · simp only [Bool.false_eq_true, if_false]; omega
    · simp only [if_true]; omega
  unfold biasF
  rw [e1]
  have e2 : (de / k / nc).toNat = (de / k).toNat / nc.toNat := by
    obtain ⟨x, hx⟩ := Int.eq_ofNat_of_zero_le a1
    obtain ⟨y, hy⟩ := Int.eq_ofNat_of_zero_le (by omega : 0 ≤ nc)
    rw [hx, hy]
    have q : ((x : Int) / (y : Int)) = ((x / y : Nat) : Int) := by simp
    rw [q]
    rfl
  rw [← e2]
  congr 1
  omega
/-- a size that is far below every line -/
def Fit (x : Int) : Prop := 0 ≤ x ∧ x < 2 ^ 250
theorem Fit.nonneg {x : Int} (h : Fit x) : 0 ≤ x := h.1
def BiasP (X r t : Int) : Prop := 0 ≤ t ∧ t ≤ 400 ∧ 0 ≤ r ∧ r < 2 ^ 251 ∧ biasL (r / 35 ^ t.toNat).toNat (36 * t) = X
theorem BiasP.range {X r t : Int} (h : BiasP X r t) : 0 ≤ t ∧ t ≤ 400 := ⟨h.1, h.2.1⟩
theorem bias_start {de nc : Int} (h0 : 0 ≤ de) (h1 : 1 ≤ nc) (hf : Fit de) (fi : Bool) (k : Int) (hk : k = if fi then 700 else 2) : BiasP (biasF de fi nc) (de.fdiv k + (de.fdiv k).fdiv nc) 0 := by
  obtain ⟨a, b⟩ := adapt_start1 h0 h1 fi k hk
  refine ⟨by decide, by decide, a, ?_, ?_⟩
  · have hk0 : 2 ≤ k := by subst hk; split <;> decide
    rw [Int.fdiv_eq_ediv_of_nonneg _ (by omega : 0 ≤ k), Int.fdiv_eq_ediv_of_nonneg _ (by omega : 0 ≤ nc)]
    have a1 : de / k ≤ de := Int.ediv_le_self _ h0
    have a0 : 0 ≤ de / k := Int.ediv_nonneg h0 (by omega)
    have a2 : de / k / nc ≤ de / k := Int.ediv_le_self _ a0
    have hf2 := hf.2
    have e : (2 : Int) ^ 251 = 2 ^ 250 + 2 ^ 250 := by rw [Int.pow_succ (2 : Int) 250]; omega
    rw [e]
    generalize (2 : Int) ^ 250 = Z at hf2 ⊢
    omega
  · simpa using b
theorem pow35_ne (n : Nat) : (35 : Int) ^ n ≠ 0 := Int.ne_of_gt (Int.pow_pos (by decide))
theorem pow35_log {t : Int} (h1 : 0 ≤ t) (h2 : t ≤ 400) : ((35 : Int) ^ t.toNat).natAbs.log2 < 9000 := by
  have e : ((35 : Int) ^ t.toNat).natAbs = 35 ^ t.toNat := by rw [Int.natAbs_pow]; rfl
  rw [e, Nat.log2_lt (Nat.ne_of_gt (Nat.pow_pos (by decide)))]
  have a1 : (35 : Nat) ^ t.toNat ≤ 64 ^ t.toNat := Nat.pow_le_pow_left (by decide) _
  have a2 : (64 : Nat) ^ t.toNat = 2 ^ (6 * t.toNat) := by rw [Nat.pow_mul]
  have a3 : (2 : Nat) ^ (6 * t.toNat) < 2 ^ 9000 := Nat.pow_lt_pow_right (by decide) (by omega)
  omega
theorem BiasP.turn {X r t : Int} (h : BiasP X r t) (hgt : 455 < r.fdiv (35 ^ t.toNat)) : BiasP X r (t + 1) := by
  obtain ⟨a1, a2, a3, a4, a5⟩ := h
  have hp : 0 < (35 : Int) ^ t.toNat := Int.pow_pos (by decide)
  rw [Int.fdiv_eq_ediv_of_nonneg _ (Int.le_of_lt hp)] at hgt
  have et : (t + 1).toNat = t.toNat + 1 := by omega
  refine ⟨by omega, ?_, a3, a4, ?_⟩
  · have b1 : (2 : Int) ^ t.toNat ≤ 35 ^ t.toNat := by
      have q : (2 : Nat) ^ t.toNat ≤ 35 ^ t.toNat := Nat.pow_le_pow_left (by decide) _
      have q' : ((2 ^ t.toNat : Nat) : Int) ≤ ((35 ^ t.toNat : Nat) : Int) := Int.ofNat_le.mpr q
      simpa using q'
    have b2 : (35 : Int) ^ t.toNat ≤ r := by
      have q := Int.mul_ediv_add_emod r (35 ^ t.toNat)
      have q2 := Int.emod_nonneg r (Int.ne_of_gt hp)
      have q3 : 35 ^ t.toNat * 1 ≤ 35 ^ t.toNat * (r / 35 ^ t.toNat) := Int.mul_le_mul_of_nonneg_left (by omega) (Int.le_of_lt hp)
      omega
    have b3 : (2 : Int) ^ t.toNat < 2 ^ 251 := by omega
    have b4 : t.toNat < 251 := by
      apply Decidable.byContradiction
      intro hc
      have q : (2 : Nat) ^ 251 ≤ 2 ^ t.toNat := Nat.pow_le_pow_right (by decide) (by omega)
      have q' : ((2 ^ 251 : Nat) : Int) ≤ ((2 ^ t.toNat : Nat) : Int) := Int.ofNat_le.mpr q
      rw [Int.natCast_pow, Int.natCast_pow] at q'
      exact absurd b3 (Int.not_lt.mpr q')
    omega
  · rw [et, Int.pow_succ, ← Int.ediv_ediv_of_nonneg (Int.le_of_lt hp), ← a5]
    have e := biasL_step (d := (r / 35 ^ t.toNat).toNat) (dv := 36 * t) (by omega)
    rw [e]
    congr 1
    · omega
    · omega
theorem BiasP.less {t : Int} (h1 : 0 ≤ t) (h2 : t + 1 ≤ 400) : (400 - (t + 1)).toNat < (400 - t).toNat := by omega
theorem adapt_turn {d dv X : Int} (hb : biasL d.toNat dv = X) (h : 455 < d) : 0 ≤ d.fdiv 35 ∧ biasL (d.fdiv 35).toNat (dv + 36) = X := by
  rw [Int.fdiv_eq_ediv_of_nonneg _ (by decide)]
  refine ⟨by omega, ?_⟩
  have e := biasL_step (d := d.toNat) (dv := dv) (by omega)
  rw [← hb, e]
  congr 1
  omega
theorem adapt_less {d : Int} (h : 455 < d) : (d.fdiv 35).toNat < d.toNat := by
  rw [Int.fdiv_eq_ediv_of_nonneg _ (by decide)]; omega
theorem adapt_done {d dv X : Int} (hd : 0 ≤ d) (hb : biasL d.toNat dv = X) (h : ¬ 455 < d) : dv + (36 * d).fdiv (d + 38) = X := by
  rw [Int.fdiv_eq_ediv_of_nonneg _ (by omega)]
  rw [← hb, biasL_end (by omega)]
  obtain ⟨x, rfl⟩ := Int.eq_ofNat_of_zero_le hd
  simp


theorem BiasP.done {X r t : Int} (h : BiasP X r t) (hgt : ¬ 455 < r.fdiv (35 ^ t.toNat)) : 36 * t + (36 * r.fdiv (35 ^ t.toNat)).fdiv (r.fdiv (35 ^ t.toNat) + 38) = X := by
  obtain ⟨a1, a2, a3, a4, a5⟩ := h
  have hp : 0 < (35 : Int) ^ t.toNat := Int.pow_pos (by decide)
  rw [Int.fdiv_eq_ediv_of_nonneg _ (Int.le_of_lt hp)] at hgt ⊢
  exact adapt_done (Int.ediv_nonneg a3 (Int.le_of_lt hp)) a5 hgt
theorem BiasP.pos {X r t : Int} (h : BiasP X r t) : 0 ≤ r.fdiv (35 ^ t.toNat) := by
  have hp : 0 < (35 : Int) ^ t.toNat := Int.pow_pos (by decide)
  rw [Int.fdiv_eq_ediv_of_nonneg _ (Int.le_of_lt hp)]
  exact Int.ediv_nonneg h.2.2.1 (Int.le_of_lt hp)

def numF (b : Int) : Nat → List Int → Int
  | _, [] => 0
  | j, f :: r => f + (36 - tF j b) * numF b (j + 1) r

theorem numF_drop {b : Int} {ns : List Int} {k : Nat} (h : k < ns.length) : numF b k (ns.drop k) = ns.getD k 0 + (36 - tF k b) * numF b (k + 1) (ns.drop (k + 1)) := by
  rw [List.drop_eq_getElem_cons h]
  simp [numF, List.getD_eq_getElem?_getD, h]

theorem numF_bound (b : Int) : ∀ (ns : List Int) (j : Nat), (∀ f ∈ ns, 0 ≤ f ∧ f < 36) → 0 ≤ numF b j ns ∧ numF b j ns < 36 ^ ns.length
  | [], j, _ => ⟨Int.le_refl _, by simp [numF]⟩
  | f :: r, j, h => by
    obtain ⟨h1, h2⟩ := numF_bound b r (j + 1) fun g hg => h g (.tail _ hg)
    obtain ⟨f1, f2⟩ := h f (.head _)
    obtain ⟨t1, t2⟩ := tF_range j b
    simp only [numF, List.length_cons, Int.pow_succ]
    have a1 : 0 ≤ (36 - tF j b) * numF b (j + 1) r := Int.mul_nonneg (by omega) h1
    have a2 : (36 - tF j b) * numF b (j + 1) r ≤ 35 * numF b (j + 1) r := Int.mul_le_mul_of_nonneg_right (by omega) h1
    generalize (36 : Int) ^ r.length = Z at *
    omega
theorem numF_fit {b : Int} {ns : List Int} {j : Nat} (hl : ns.length ≤ 40) (h : ∀ f ∈ ns, 0 ≤ f ∧ f < 36) : Fit (numF b j ns) := by
  obtain ⟨h1, h2⟩ := numF_bound b ns j h
  refine ⟨h1, Int.lt_of_lt_of_le h2 ?_⟩
  have q : (36 : Nat) ^ ns.length ≤ 36 ^ 40 := Nat.pow_le_pow_right (by decide) hl
  have q' : ((36 ^ ns.length : Nat) : Int) ≤ ((36 ^ 40 : Nat) : Int) := Int.ofNat_le.mpr q
  rw [Int.natCast_pow] at q'
  exact Int.le_trans q' (by decide)
theorem number_turn {b nu : Int} {ns : List Int} {i : Nat} (h : i < ns.length) (hP : nu = numF b (ns.length - i) (ns.drop (ns.length - i))) :
    nu * (36 - tF ((ns.length - (i + 1) : Nat) : Int) b) + ns.getD (((ns.length - (i + 1) : Nat) : Int)).toNat 0 = numF b (ns.length - (i + 1)) (ns.drop (ns.length - (i + 1))) := by
  rw [numF_drop (by omega : ns.length - (i + 1) < ns.length), Int.toNat_natCast, hP]
  have e : ns.length - (i + 1) + 1 = ns.length - i := by omega
  rw [e, Int.mul_comm]
  omega

def seatStep (x : Int × Int) (st : List Int × List Str) : List Int × List Str := (st.1.eraseIdx x.2.toNat, st.2.set (st.1.getD x.2.toNat 0).toNat (Str.mk #[x.1.toNat]))
/-- the seats are good for a stem of n signs -/
def Seats (n : Nat) (sp : List (Int × Int)) : Prop := ∀ (j : Nat) (x : Int × Int), sp[j]? = some x → 0 ≤ x.1 ∧ x.1 ≤ 1114111 ∧ 0 ≤ x.2 ∧ x.2 ≤ (n : Int) + j
def SeatP (n : Nat) (sp : List (Int × Int)) (i : Nat) (fvs wvs : List Value) : Prop :=
  ∃ fs ws, IntsAre fvs fs ∧ StrsAre wvs ws ∧ (fs, ws) = (sp.drop (sp.length - i)).foldr seatStep (rangeKs 0 (n + sp.length), List.replicate (n + sp.length) (Str.mk #[])) ∧ i ≤ sp.length ∧
    fs.length + i = n + sp.length ∧ ws.length = n + sp.length ∧ (∀ y ∈ ws, y.length ≤ 1) ∧ ∀ f ∈ fs, 0 ≤ f ∧ f < (n + sp.length : Nat)

def putL : List Str → List Int → List Str → List Str
  | ws, f :: fs, x :: b => putL (ws.set f.toNat x) fs b
  | ws, _, _ => ws
/-- the signs of a text, each a text of its own -/
def signs (x : Str) : List Str := x.cps.toList.map fun c => Str.mk #[c]
theorem signs_length (x : Str) : (signs x).length = x.length := by simp [signs, Str.length]
def SpotP (n : Nat) (fs : List Int) (b RES : List Str) (i : Nat) (wvs : List Value) : Prop :=
  ∃ ws, StrsAre wvs ws ∧ ws.length = n ∧ (∀ y ∈ ws, y.length ≤ 1) ∧ putL ws (fs.drop i) (b.drop i) = RES

theorem small_up {b : Int} (hb : 0 ≤ b) (hb' : b < 2 ^ 62) : Builtin.Range.small 0 b 1 = true := by
  unfold Builtin.Range.small
  rw [rangeSize_nat]
  simp only [Builtin.Range.rangeFitsLong, Bool.and_eq_true, Bool.or_eq_true, decide_eq_true_eq, beq_iff_eq]
  simp
  omega
theorem rangeSize_up (n : Nat) : Builtin.Range.rangeSize 0 (n : Int) 1 = (n : Int) := by
  rw [rangeSize_nat]; omega
theorem intsAre_erase : ∀ {vs : List Value} {ns : List Int}, IntsAre vs ns → ∀ j, IntsAre (vs.eraseIdx j) (ns.eraseIdx j)
  | _, _, .nil, _ => .nil
  | _, _, .cons _ _ h, 0 => h
  | _, _, .cons i t h, j + 1 => .cons i t (intsAre_erase h j)
theorem strsAre_set {x : Str} {u : Tok} : ∀ {vs : List Value} {ys : List Str}, StrsAre vs ys → ∀ j : Nat, StrsAre (vs.set j (.str x u)) (ys.set j x)
  | _, _, .nil, _ => .nil
  | _, _, .cons _ _ h, 0 => .cons x u h
  | _, _, .cons i t h, j + 1 => .cons i t (strsAre_set h j)
theorem strsAre_replicate (x : Str) (u : Tok) : ∀ n, StrsAre (List.replicate n (.str x u)) (List.replicate n x)
  | 0 => .nil
  | n + 1 => .cons x u (strsAre_replicate x u n)
theorem set_le1 {ws : List Str} {c j : Nat} (h : ∀ y ∈ ws, y.length ≤ 1) : ∀ y ∈ ws.set j (Str.mk #[c]), y.length ≤ 1 := fun y hy => by
  rcases List.mem_or_eq_of_mem_set hy with h1 | rfl
  · exact h y h1
  · exact Nat.le_refl _
theorem sum_le1 : ∀ {ws : List Str}, (∀ y ∈ ws, y.length ≤ 1) → (ws.map (·.length)).sum ≤ ws.length
  | [], _ => Nat.le_refl _
  | y :: r, h => by
    have h1 := h y (.head _)
    have h2 := sum_le1 (ws := r) fun z hz => h z (.tail _ hz)
    simp only [List.map_cons, List.sum_cons, List.length_cons]
    omega
theorem seat_start (n : Nat) (sp : List (Int × Int)) {fvs : List Value} {u : Tok} (hi : IntsAre fvs (rangeKs 0 (n + sp.length))) :
    SeatP n sp 0 fvs (List.replicate (n + sp.length) (.str (Str.mk #[]) u)) := by
  refine ⟨_, _, hi, strsAre_replicate _ _ _, ?_, Nat.zero_le _, ?_, ?_, ?_, ?_⟩
  · simp
  · rw [rangeKs_length]; rfl
  · simp
  · intro y hy
    rw [List.eq_of_mem_replicate hy]
    exact Nat.zero_le _
  · intro f hf
    have := mem_rangeKs hf
    omega
theorem seat_turn {n i : Nat} {sp : List (Int × Int)} {fvs wvs : List Value} {fs : List Int} {ws : List Str} {x1 x2 : Int} {u : Tok} (hfs : IntsAre fvs fs) (hws : StrsAre wvs ws)
    (hst : (fs, ws) = (sp.drop (sp.length - i)).foldr seatStep (rangeKs 0 (n + sp.length), List.replicate (n + sp.length) (Str.mk #[]))) (hi : i < sp.length) (hfl : fs.length + i = n + sp.length) (hwl : ws.length = n + sp.length)
    (hw1 : ∀ y ∈ ws, y.length ≤ 1) (hfb : ∀ f ∈ fs, 0 ≤ f ∧ f < (n + sp.length : Nat)) (hx : sp[sp.length - (i + 1)]'(by omega) = (x1, x2)) (h2 : x2.toNat < fs.length) (f : Int) (hf : fs[x2.toNat] = f) :
    SeatP n sp (i + 1) (fvs.eraseIdx x2.toNat) (wvs.set f.toNat (.str (Str.mk #[x1.toNat]) u)) := by
  refine ⟨fs.eraseIdx x2.toNat, ws.set f.toNat (Str.mk #[x1.toNat]), intsAre_erase hfs _, strsAre_set hws _, ?_, by omega, ?_, ?_, set_le1 hw1, ?_⟩
  · have e : sp.length - (i + 1) < sp.length := by omega
    rw [List.drop_eq_getElem_cons e, hx, List.foldr_cons]
    have e2 : sp.length - (i + 1) + 1 = sp.length - i := by omega
    rw [e2, ← hst]
    simp [seatStep, List.getD_eq_getElem?_getD, h2, hf]
  · rw [List.length_eraseIdx_of_lt h2]; omega
  · rw [List.length_set]; exact hwl
  · intro g hg
    exact hfb g (List.mem_of_mem_eraseIdx hg)
theorem item_sign {x : Str} {i : Nat} (h : i < x.length) : Txt.item x (i : Int) = (signs x).getD i (Str.mk #[]) ∧ Txt.item x (i : Int) = Str.mk #[x.cps[i]'h] := by
  have e : Txt.item x (i : Int) = Str.mk #[x.cps[i]'h] := by
    unfold Txt.item
    have hc : Txt.charAt x (i : Int) = some (x.cps[i]'h) := by
      have hs : seqIndex? (i : Int) x.length = some i := by
        unfold seqIndex?
        have h1 : ¬ (i : Int) < 0 := by omega
        simp [h1, h]
      unfold Txt.charAt
      rw [hs]
      exact Array.getElem?_eq_getElem (xs := x.cps) h
    rw [hc]
    rfl
  refine ⟨?_, e⟩
  rw [e]
  have h' : i < x.cps.size := h
  simp [signs, List.getD_eq_getElem?_getD, h']
  rfl
theorem spot_turn {n i : Nat} {fs : List Int} {b RES : List Str} {wvs : List Value} {ws : List Str} {x : Str} {c : Nat} {u : Tok} (hws : StrsAre wvs ws) (hwl : ws.length = n) (hw1 : ∀ y ∈ ws, y.length ≤ 1) (hp : putL ws (fs.drop i) (b.drop i) = RES)
    (h1 : i < fs.length) (h2 : i < b.length) (hx : x = b.getD i (Str.mk #[])) (hc : x = Str.mk #[c]) : SpotP n fs b RES (i + 1) (wvs.set (fs.getD i 0).toNat (.str x u)) := by
  refine ⟨ws.set (fs.getD i 0).toNat x, strsAre_set hws _, by rw [List.length_set]; exact hwl, by rw [hc]; exact set_le1 hw1, ?_⟩
  rw [← hp, List.drop_eq_getElem_cons h1, List.drop_eq_getElem_cons h2]
  rw [hx]
  simp [putL, List.getD_eq_getElem?_getD, h1, h2]

def insAt {α : Type} (b : List α) (p : Nat) (c : α) : List α := b.take p ++ c :: b.drop p
def insAll : List Nat → List (Int × Int) → List Nat
  | b, [] => b
  | b, x :: r => insAll (insAt b x.2.toNat x.1.toNat) r
def sg (c : Nat) : Str := Str.mk #[c]
theorem insAt_map (l : List Nat) (p c : Nat) : insAt (l.map sg) p (sg c) = (insAt l p c).map sg := by simp [insAt]
theorem insAt_length {α : Type} {b : List α} {p : Nat} {c : α} (h : p ≤ b.length) : (insAt b p c).length = b.length + 1 := by simp [insAt]; omega
theorem putL_ins : ∀ (p : Nat) (fs : List Int) (ws b : List Str) (c : Str), (fs.map Int.toNat).Nodup → p ≤ b.length → fs.length = b.length + 1 → putL (ws.set (fs.getD p 0).toNat c) (fs.eraseIdx p) b = putL ws fs (insAt b p c)
  | _, [], _, _, _, _, _, h => by simp at h
  | 0, f :: fs, ws, b, c, _, _, _ => by simp [insAt, putL]
  | p + 1, f :: fs, ws, [], c, _, h, _ => by simp at h
  | p + 1, f :: fs, ws, b0 :: b, c, hn, h, hl => by
    have ih := putL_ins p fs (ws.set f.toNat b0) b c (by simp at hn ⊢; exact hn.2) (by simpa using h) (by simpa using hl)
    simp only [List.length_cons] at h hl
    have hne : f.toNat ≠ (fs.getD p 0).toNat := by
      intro e
      have hp : p < fs.length := by omega
      rw [List.getD_eq_getElem?_getD, List.getElem?_eq_getElem hp] at e
      simp only [List.map_cons, List.nodup_cons] at hn
      exact hn.1 (List.mem_map.mpr ⟨fs[p], List.getElem_mem hp, by simpa using e.symm⟩)
    show putL ((ws.set (fs.getD p 0).toNat c).set f.toNat b0) (fs.eraseIdx p) b = putL (ws.set f.toNat b0) fs (insAt b p c)
    rw [← ih, List.set_comm _ _ hne.symm]
theorem nodup_erase {l : List Int} (h : (l.map Int.toNat).Nodup) (j : Nat) : ((l.eraseIdx j).map Int.toNat).Nodup :=
  h.sublist ((List.eraseIdx_sublist l j).map _)
theorem seats_tail {n : Nat} {x : Int × Int} {r : List (Int × Int)} (h : Seats n (x :: r)) : Seats (n + 1) r := fun j y hy => by
  obtain ⟨a, b, c, d⟩ := h (j + 1) y (by simpa using hy)
  exact ⟨a, b, c, by omega⟩
theorem seat_fold : ∀ (sp : List (Int × Int)) (l : List Nat) (fs0 : List Int) (ws0 : List Str), Seats l.length sp → (fs0.map Int.toNat).Nodup → fs0.length = l.length + sp.length →
    let r := sp.foldr seatStep (fs0, ws0)
    (r.1.map Int.toNat).Nodup ∧ r.1.length = l.length ∧ putL r.2 r.1 (l.map sg) = putL ws0 fs0 ((insAll l sp).map sg)
  | [], l, fs0, ws0, _, hn, hl => ⟨hn, by simpa using hl, rfl⟩
  | x :: sp, l, fs0, ws0, hs, hn, hl => by
    obtain ⟨q1, q2, q3, q4⟩ := hs 0 x rfl
    have hp : x.2.toNat ≤ l.length := by omega
    have hl' : (insAt l x.2.toNat x.1.toNat).length = l.length + 1 := insAt_length hp
    obtain ⟨i1, i2, i3⟩ := seat_fold sp (insAt l x.2.toNat x.1.toNat) fs0 ws0 (by rw [hl']; exact seats_tail hs) hn (by rw [hl']; simp only [List.length_cons] at hl; omega)
    rw [hl'] at i2
    refine ⟨nodup_erase i1 _, ?_, ?_⟩
    · show ((sp.foldr seatStep (fs0, ws0)).1.eraseIdx x.2.toNat).length = l.length
      rw [List.length_eraseIdx_of_lt (by omega)]; omega
    · show putL ((sp.foldr seatStep (fs0, ws0)).2.set ((sp.foldr seatStep (fs0, ws0)).1.getD x.2.toNat 0).toNat (sg x.1.toNat)) ((sp.foldr seatStep (fs0, ws0)).1.eraseIdx x.2.toNat) (l.map sg) = _
      rw [putL_ins _ _ _ _ _ i1 (by rw [List.length_map]; exact hp) (by rw [List.length_map]; exact i2), insAt_map, i3]
      rfl
theorem rangeKs_nodup (n : Nat) : ((rangeKs 0 n).map Int.toNat).Nodup := by
  have e : (rangeKs 0 n).map Int.toNat = List.range n := by
    unfold rangeKs
    rw [List.map_map]
    conv => rhs; rw [← List.map_id (List.range n)]
    apply List.map_congr_left
    intro i _
    simp
  rw [e]
  exact List.nodup_range
theorem putL_range : ∀ (b ws pre : List Str) (a : Nat), ws.length = b.length → a = pre.length → putL (pre ++ ws) ((List.range' a b.length).map fun (i : Nat) => (i : Int)) b = pre ++ b
  | [], ws, pre, a, h, _ => by
    have : ws = [] := List.eq_nil_of_length_eq_zero (by simpa using h)
    simp [putL, this]
  | x :: b, [], pre, a, h, _ => by simp at h
  | x :: b, y :: ws, pre, a, h, ha => by
    have ih := putL_range b ws (pre ++ [x]) (a + 1) (by simpa using h) (by simp [ha])
    simp only [List.length_cons, List.range'_succ, List.map_cons, putL, Int.toNat_natCast]
    have e : (pre ++ y :: ws).set a x = (pre ++ [x]) ++ ws := by
      subst ha
      simp
    rw [e, ih]
    simp
theorem rangeKs_range' (n : Nat) : rangeKs 0 n = (List.range' 0 n).map fun (i : Nat) => (i : Int) := by
  unfold rangeKs
  rw [List.range_eq_range']
  apply List.map_congr_left
  intro i _
  simp
theorem join_sg : ∀ l : List Nat, Txt.join (Str.ofString "") (l.map sg) = Str.mk l.toArray := by
  have e0 : (Str.ofString "") = Str.mk #[] := by decide
  intro l
  rw [e0]
  have e1 := StrLaws.glued_eq_join (Str.mk #[]) (l.map sg)
  refine (Eq.trans (by rfl) e1 : Txt.join (Str.mk #[]) (l.map sg) = _).trans ?_
  clear e1
  induction l with
  | nil => rfl
  | cons c l ih =>
    cases l with
    | nil => rfl
    | cons d l =>
      show (sg c ++ Str.mk #[] ++ Str.join (Str.mk #[]) ((d :: l).map sg) : Str) = _
      rw [ih]
      show Str.mk ((#[c] ++ #[]) ++ (d :: l).toArray) = _
      congr 1
      apply Array.toList_inj.mp
      simp
theorem insAll_length : ∀ (sp : List (Int × Int)) (l : List Nat), Seats l.length sp → (insAll l sp).length = l.length + sp.length
  | [], l, _ => rfl
  | x :: sp, l, hs => by
    obtain ⟨q1, q2, q3, q4⟩ := hs 0 x rfl
    have hl' : (insAt l x.2.toNat x.1.toNat).length = l.length + 1 := insAt_length (by omega)
    show (insAll (insAt l x.2.toNat x.1.toNat) sp).length = _
    rw [insAll_length sp _ (by rw [hl']; exact seats_tail hs), hl', List.length_cons]
    omega
theorem seat_done {st : Str} {sp : List (Int × Int)} {fs : List Int} {ws ws2 : List Str} (hs : Seats st.length sp) (h1 : (fs, ws) = (sp.drop (sp.length - sp.length)).foldr seatStep (rangeKs 0 (st.length + sp.length), List.replicate (st.length + sp.length) (Str.mk #[])))
    (hfl : fs.length + sp.length = st.length + sp.length) (h2 : putL ws2 (fs.drop st.length) ((signs st).drop st.length) = putL ws fs (signs st)) : Txt.join (Str.ofString "") ws2 = Str.mk (insAll st.cps.toList sp).toArray := by
  have e1 : fs.drop st.length = [] := List.drop_eq_nil_of_le (by omega)
  rw [e1] at h2
  rw [Nat.sub_self, List.drop_zero] at h1
  have hL : st.cps.toList.length = st.length := by simp [Str.length]
  obtain ⟨_, _, q⟩ := seat_fold sp st.cps.toList (rangeKs 0 (st.length + sp.length)) (List.replicate (st.length + sp.length) (Str.mk #[])) (by rw [hL]; exact hs) (rangeKs_nodup _) (by rw [rangeKs_length, hL])
  rw [← h1] at q
  have hb : signs st = st.cps.toList.map sg := rfl
  have hlen := insAll_length sp st.cps.toList (by rw [hL]; exact hs)
  rw [hL] at hlen
  have r := putL_range ((insAll st.cps.toList sp).map sg) (List.replicate (st.length + sp.length) (Str.mk #[])) [] 0 (by simp [hlen]) rfl
  rw [List.length_map, hlen, ← rangeKs_range', List.nil_append, List.nil_append] at r
  have e2 : putL ws2 [] ((signs st).drop st.length) = ws2 := by simp [putL]
  rw [e2, hb] at h2
  dsimp only at q
  rw [h2, q, r, join_sg]

def dig (o : Int) : Option Int := if 65 ≤ o ∧ o ≤ 90 then some (o - 65) else if 48 ≤ o ∧ o ≤ 57 then some (o - 22) else none
def signOf (x : Int) : Int := if 1114111 < x then 63 else x
def readL : List Int → Int → Int → Int → List Int → List (Int × Int) → List (Int × Int)
  | [], _, _, _, _, sp => sp
  | o :: r, size, bias, hour, figs, sp =>
    match dig o with
    | none => sp
    | some d =>
      if d < tF figs.length bias then
        let nu := numF bias 0 (figs ++ [d])
        let s := signOf ((hour + (nu + 1)).fdiv (size + 1) + 128)
        let pl := (hour + (nu + 1)).fmod (size + 1)
        readL r (size + 1) (biasF nu (sp.length == 0) (size + 1)) ((s - 128) * (size + 1 + 1) + pl) [] (sp ++ [(s, pl)])
      else readL r size bias hour (figs ++ [d]) sp
def neN' (a b : Nat) : Prop := a ≠ b
/-- where a reading stands -/
structure RS where
  size : Int
  ts : Tok
  bias : Int
  tb : Tok
  hour : Int
  th : Tok
  Df : Addr
  fv : List Value
  fe : Nat
  Ds : Addr
  sv : List Value
  se : Nat
  rest : List (Addr × Obj)
  figs : List Int
  sp : List (Int × Int)
theorem StoryIn.sub {l1 l2 : List (Addr × Obj)} {vs : List Value} {sp : List (Int × Int)} (h : StoryIn l1 vs sp) (hs : ∀ p ∈ l1, p ∈ l2) : StoryIn l2 vs sp :=
  ⟨h.1, fun i x hx => let ⟨a, t, t', n, h1, h2⟩ := h.2 i x hx; ⟨a, t, t', n, h1, hs _ h2⟩⟩
theorem intsAre_app {k : Int} {t : Tok} : ∀ {vs : List Value} {ns : List Int}, IntsAre vs ns → IntsAre (vs ++ [.int k t]) (ns ++ [k])
  | _, _, .nil => .cons k t .nil
  | _, _, .cons i u h => .cons i u (intsAre_app h)
theorem fig_app {figs : List Int} {d : Int} (h : ∀ f ∈ figs, 0 ≤ f ∧ f < 36) (h0 : 0 ≤ d) (h1 : d < 36) : ∀ f ∈ figs ++ [d], 0 ≤ f ∧ f < 36 := fun f hf => by
  rcases List.mem_append.mp hf with hf | hf
  · exact h f hf
  · rw [List.mem_singleton.mp hf]; exact ⟨h0, h1⟩
theorem news_cut2 {h₀ h : Heap} {L : Addr} {p q : Addr × Obj} {r : List (Addr × Obj)} (N : News h₀ L h (p :: q :: r)) : News h₀ L h (p :: r) := fun x hx => by
  rcases List.mem_cons.mp hx with rfl | hx
  · exact N _ (.head _)
  · exact N _ (.tail _ (.tail _ hx))
structure RSP (n : Nat) (oc : List Int) (RES : List (Int × Int)) (news : List (Addr × Obj)) (i : Nat) (c : RS) : Prop where
  res : readL (oc.drop i) c.size c.bias c.hour c.figs c.sp = RES
  figs : IntsAre c.fv c.figs
  flen : c.figs.length ≤ i
  fin : ∀ f ∈ c.figs, 0 ≤ f ∧ f < 36
  size : c.size = (n : Int) + c.sp.length
  slen : c.sp.length ≤ i
  seats : Seats n c.sp
  story : StoryIn c.rest c.sv c.sp
  hour : -65 * (c.size + 1) ≤ c.hour + 1
  sub : ∀ p ∈ news, p ∈ c.rest
  offF : ∀ p ∈ c.rest, p.1 ≠ c.Df
  offS : ∀ p ∈ c.rest, p.1 ≠ c.Ds
  offD : neN' c.Df c.Ds

theorem story_snoc {l : List (Addr × Obj)} {vs : List Value} {sp : List (Int × Int)} (h : StoryIn l vs sp) (a : Addr) (s p : Int) (t t' : Tok) (n : Nat) :
    StoryIn ((a, pairObj s p t t' n) :: l) (vs ++ [.ref a]) (sp ++ [(s, p)]) := by
  obtain ⟨hl, hs⟩ := h
  refine ⟨by simp [hl], fun i x hx => ?_⟩
  by_cases hi : i < sp.length
  · rw [List.getElem?_append_left hi] at hx
    obtain ⟨b, u, u', k, h1, h2⟩ := hs i x hx
    exact ⟨b, u, u', k, by rw [List.getElem?_append_left (by omega)]; exact h1, .tail _ h2⟩
  · have hlt := (List.getElem?_eq_some_iff.mp hx).1
    rw [List.length_append, List.length_singleton] at hlt
    have e : i = sp.length := by omega
    subst e
    rw [List.getElem?_append_right (Nat.le_refl _), Nat.sub_self] at hx
    have ex : x = (s, p) := by simpa using hx.symm
    subst ex
    exact ⟨a, t, t', n, by rw [List.getElem?_append_right (by omega), hl, Nat.sub_self]; rfl, .head _⟩
theorem seats_snoc {n : Nat} {sp : List (Int × Int)} (h : Seats n sp) {s p : Int} (h1 : 0 ≤ s) (h2 : s ≤ 1114111) (h3 : 0 ≤ p) (h4 : p ≤ (n : Int) + sp.length) : Seats n (sp ++ [(s, p)]) := fun i x hx => by
  by_cases hi : i < sp.length
  · rw [List.getElem?_append_left hi] at hx
    exact h i x hx
  · have hlt := (List.getElem?_eq_some_iff.mp hx).1
    rw [List.length_append, List.length_singleton] at hlt
    have e : i = sp.length := by omega
    subst e
    rw [List.getElem?_append_right (Nat.le_refl _), Nat.sub_self] at hx
    have ex : x = (s, p) := by simpa using hx.symm
    subst ex
    exact ⟨h1, h2, h3, h4⟩
theorem dig_great {o : Int} (h1 : 65 ≤ o) (h2 : o ≤ 90) : dig o = some (o - 65) := by unfold dig; rw [if_pos ⟨h1, h2⟩]
theorem dig_figure {o : Int} (h1 : 48 ≤ o) (h2 : o ≤ 57) : dig o = some (o - 22) := by unfold dig; rw [if_neg (by omega), if_pos ⟨h1, h2⟩]
theorem dig_none {o : Int} (h1 : ¬ (65 ≤ o ∧ o ≤ 90)) (h2 : ¬ (48 ≤ o ∧ o ≤ 57)) : dig o = none := by unfold dig; rw [if_neg h1, if_neg h2]
theorem dig_range {o d : Int} (h : dig o = some d) : 0 ≤ d ∧ d < 36 := by
  unfold dig at h
  split at h
  · have := Option.some.inj h; omega
  · split at h
    · have := Option.some.inj h; omega
    · cases h
theorem drop_of {oc : List Int} {i : Nat} {o : Int} (ho : oc[i]? = some o) : oc.drop i = o :: oc.drop (i + 1) := by
  obtain ⟨h, e⟩ := List.getElem?_eq_some_iff.mp ho
  rw [List.drop_eq_getElem_cons h, e]
theorem RSP.stop {n : Nat} {oc : List Int} {RES : List (Int × Int)} {news : List (Addr × Obj)} {i : Nat} {c : RS} (h : RSP n oc RES news i c) {o : Int} (ho : oc[i]? = some o) (hd : dig o = none) : c.sp = RES := by
  have h1 := h.res
  rw [drop_of ho] at h1
  unfold readL at h1
  rw [hd] at h1
  exact h1
theorem RSP.go {n : Nat} {oc : List Int} {RES : List (Int × Int)} {news : List (Addr × Obj)} {i : Nat} {size : Int} {ts : Tok} {bias : Int} {tb : Tok} {hour : Int} {th : Tok} {Df : Addr} {fv : List Value} {fe : Nat} {Ds : Addr} {sv : List Value} {se : Nat} {rest : List (Addr × Obj)} {figs : List Int} {sp : List (Int × Int)}
    (h : RSP n oc RES news i ⟨size, ts, bias, tb, hour, th, Df, fv, fe, Ds, sv, se, rest, figs, sp⟩) {o d : Int} {t : Tok} (ho : oc[i]? = some o) (hd : dig o = some d) (hn : ¬ d < tF figs.length bias) :
    RSP n oc RES news (i + 1) ⟨size, ts, bias, tb, hour, th, Df, fv ++ [.int d t], fe + 1, Ds, sv, se, rest, figs ++ [d], sp⟩ := by
  have h1 := h.res
  dsimp only at h1
  rw [drop_of ho] at h1
  unfold readL at h1
  rw [hd] at h1
  dsimp only at h1
  rw [if_neg hn] at h1
  have hfl := h.flen
  have hsl := h.slen
  dsimp only at hfl hsl
  exact ⟨h1, intsAre_app h.figs, by simp; exact hfl, fig_app h.fin (dig_range hd).1 (dig_range hd).2, h.size, by dsimp only; omega, h.seats, h.story, h.hour, h.sub, h.offF, h.offS, h.offD⟩
theorem RSP.turn {n : Nat} {oc : List Int} {RES : List (Int × Int)} {news : List (Addr × Obj)} {i : Nat} {size : Int} {ts : Tok} {bias : Int} {tb : Tok} {hour : Int} {th : Tok} {Df : Addr} {fv : List Value} {fe : Nat} {Ds : Addr} {sv : List Value} {se : Nat} {rest : List (Addr × Obj)} {figs : List Int} {sp : List (Int × Int)}
    (h : RSP n oc RES news i ⟨size, ts, bias, tb, hour, th, Df, fv, fe, Ds, sv, se, rest, figs, sp⟩) {o d : Int} (ho : oc[i]? = some o) (hd : dig o = some d) (hlt : d < tF figs.length bias) (hlen : oc.length ≤ 40)
    {s pl bi hr : Int} {ts' tb' th' t t' : Tok} {Dt Dn : Addr} {k : Nat} (hs : s = signOf ((hour + (numF bias 0 (figs ++ [d]) + 1)).fdiv (size + 1) + 128)) (hpl : pl = (hour + (numF bias 0 (figs ++ [d]) + 1)).fmod (size + 1))
    (hbi : bi = biasF (numF bias 0 (figs ++ [d])) (sp.length == 0) (size + 1)) (hhr : hr = (s - 128) * (size + 1 + 1) + pl) (a1 : neN' Dt Ds) (a2 : neN' Dt Dn) (a3 : neN' Dn Ds) (a4 : AllLt Dn rest) :
    RSP n oc RES news (i + 1) ⟨size + 1, ts', bi, tb', hr, th', Dn, [], 0, Ds, sv ++ [.ref Dt], se + 1, (Dt, pairObj s pl t t' k) :: rest, [], sp ++ [(s, pl)]⟩ := by
  have h1 := h.res
  dsimp only at h1
  rw [drop_of ho] at h1
  unfold readL at h1
  rw [hd] at h1
  dsimp only at h1
  rw [if_pos hlt, ← hpl, ← hs, ← hbi, ← hhr] at h1
  have hfl := h.flen
  have hsl := h.slen
  have hsz := h.size
  have hh := h.hour
  have hse := h.seats
  dsimp only at hfl hsl hsz hh hse
  have hil := (List.getElem?_eq_some_iff.mp ho).1
  have hnu := numF_fit (b := bias) (j := 0) (ns := figs ++ [d]) (by simp; omega) (fig_app h.fin (dig_range hd).1 (dig_range hd).2)
  have hnu0 := hnu.1
  generalize numF bias 0 (figs ++ [d]) = nu at *
  have hs1 : 0 < size + 1 := by omega
  rw [Int.fdiv_eq_ediv_of_nonneg _ (Int.le_of_lt hs1)] at hs
  rw [Int.fmod_eq_emod_of_nonneg _ (Int.le_of_lt hs1)] at hpl
  have p0 : 0 ≤ pl := by rw [hpl]; exact Int.emod_nonneg _ (Int.ne_of_gt hs1)
  have p1 : pl < size + 1 := by rw [hpl]; exact Int.emod_lt_of_pos _ hs1
  have q : -65 ≤ (hour + (nu + 1)) / (size + 1) := Int.le_ediv_of_mul_le hs1 (by omega)
  have s0 : 63 ≤ s ∧ s ≤ 1114111 := by
    rw [hs]; unfold signOf
    generalize (hour + (nu + 1)) / (size + 1) = z at *
    split <;> omega
  have hm : -65 * (size + 1 + 1) ≤ (s - 128) * (size + 1 + 1) := Int.mul_le_mul_of_nonneg_right (by omega) (by omega)
  refine ⟨h1, .nil, Nat.zero_le _, (fun f hf => nomatch hf), ?_, ?_, ?_, story_snoc h.story _ _ _ _ _ _, ?_, fun p hp => .tail _ (h.sub p hp), ?_, ?_, a3⟩
  · simp; omega
  · simp; omega
  · exact seats_snoc hse (by omega) s0.2 p0 (by omega)
  · dsimp only; rw [hhr]; omega
  · intro p hp
    rcases List.mem_cons.mp hp with rfl | hp
    · exact a2
    · exact Nat.ne_of_lt (allLt_mem a4 p hp)
  · intro p hp
    rcases List.mem_cons.mp hp with rfl | hp
    · exact a1
    · exact h.offS p hp

theorem RSP.all {n : Nat} {oc : List Int} {RES : List (Int × Int)} {news : List (Addr × Obj)} {i : Nat} {c : RS} (h : RSP n oc RES news i c) (hi : oc.length ≤ i) : c.sp = RES := by
  have h1 := h.res
  rw [List.drop_eq_nil_of_le hi] at h1
  simpa [readL] using h1
theorem RSP.start {n : Nat} {oc : List Int} {news : List (Addr × Obj)} {ts tb th : Tok} {Df Ds : Addr} (hF : ∀ p ∈ news, p.1 ≠ Df) (hS : ∀ p ∈ news, p.1 ≠ Ds) (hD : neN' Df Ds) :
    RSP n oc (readL oc n 72 (-1) [] []) news 0 ⟨(n : Int), ts, 72, tb, -1, th, Df, [], 0, Ds, [], 0, news, [], []⟩ :=
  ⟨by simp, .nil, Nat.zero_le _, (fun f hf => nomatch hf), by simp, Nat.zero_le _, (fun j x hx => by simp at hx), ⟨rfl, fun j x hx => by simp at hx⟩, by dsimp only; omega, fun p hp => hp, hF, hS, hD⟩
theorem lt_of_tF {fv : List Value} {figs : List Int} {x : Value} {d b : Int} (h : fv.length = figs.length) (hx : d < tF (((fv ++ [x]).length : Int) - 1) b) : d < tF figs.length b := by
  have e : (((fv ++ [x]).length : Int) - 1) = figs.length := by simp; omega
  rw [e] at hx; exact hx
theorem not_lt_of_tF {fv : List Value} {figs : List Int} {x : Value} {d b : Int} (h : fv.length = figs.length) (hx : ¬ d < tF (((fv ++ [x]).length : Int) - 1) b) : ¬ d < tF figs.length b := fun hc => hx (by
  have e : (((fv ++ [x]).length : Int) - 1) = figs.length := by simp; omega
  rw [e]; exact hc)
theorem signOf_big {x : Int} (h : 1114111 < x) : 63 = signOf x := by unfold signOf; rw [if_pos h]
theorem signOf_small {x : Int} (h : ¬ 1114111 < x) : x = signOf x := by unfold signOf; rw [if_neg h]
theorem len1_eq {sv : List Value} {sp : List (Int × Int)} {x : Value} (h : sv.length = sp.length) : (((sv ++ [x]).length : Int) == 1) = (sp.length == 0) := by
  rw [Bool.eq_iff_iff, beq_iff_eq, beq_iff_eq, List.length_append, List.length_singleton, h]
  constructor <;> intro q <;> omega
end
end Mine

namespace Mine
section
theorem T_c (w : World) (news : List (Addr × Obj)) (j b : Int) (t1 t2 : Tok) :
    Ctr PySem.Challenge.rw_rl0154_01.row.prog w (Mine.hd.heap_39 w.params) Mine.hd.view_39 21 1 1 [.int j t1, .int b t2] news (fun tl r => tl = [] ∧ ∃ t, r = .int (tF j b) t ∧ 1 ≤ tF j b ∧ tF j b ≤ 26) := by
  k_fill
  w_top off
  unfold Ctr
  intro loose mean mg mb dp un gd cn cs a ccd cl outer A₀ base h₀ L m s Q E cB cF cX cN cT cK cD cU hret
  refine wpAny_call ?_
  k_dflt cell_enter
  k_steps
  all_goals (
    refine hret _ [] _ _ (by assumption) (by assumption) (fun _ _ _ h9 => nomatch h9) ⟨rfl, int_retT ?_⟩
    unfold tF
    (repeat' split) <;> omega)
end
end Mine

namespace Mine
section
theorem least_eq {n : List Int} {j b : Int} (e : n.length = 3) (p : n.Perm [1, 36 * j + 36 - b, 26])
    (h0 : (n.getD 0 0 = 1 ∨ n.getD 0 0 = 36 * j + 36 - b ∨ n.getD 0 0 = 26) ∧ n.getD 0 0 ≤ 1 ∧ n.getD 0 0 ≤ 36 * j + 36 - b ∧ n.getD 0 0 ≤ 26)
    (h2 : (n.getD 2 0 = 1 ∨ n.getD 2 0 = 36 * j + 36 - b ∨ n.getD 2 0 = 26) ∧ 1 ≤ n.getD 2 0 ∧ 36 * j + 36 - b ≤ n.getD 2 0 ∧ 26 ≤ n.getD 2 0) : n.getD 1 0 = tF j b := by
  have hs := perm_sum p
  match n, e with
  | [x, y, z], _ =>
    simp at hs h0 h2 ⊢
    unfold tF
    split
    · omega
    · split <;> omega
theorem least_c (w : World) (news : List (Addr × Obj)) (j b : Int) (t1 t2 : Tok) :
    Ctr PySem.Challenge.rw_rl0154_01.row.prog w (Mine.hd.heap_39 w.params) Mine.hd.view_39 56 1 1 [.int j t1, .int b t2] news (fun tl r => tl = [] ∧ ∃ t, r = .int (tF j b) t ∧ 1 ≤ tF j b ∧ tF j b ≤ 26) := by
  k_fill
  w_top off
  unfold Ctr
  intro loose mean mg mb dp un gd cn cs a ccd cl outer A₀ base h₀ L m s Q E cB cF cX cN cT cK cD cU hret
  refine wpAny_call ?_
  k_dflt cell_enter
  k_steps
  refine hret _ [] _ _ (by assumption) ?_ (fun _ _ _ h9 => nomatch h9) ⟨rfl, int_retT (least_eq (by assumption) (by assumption) (by assumption) (by assumption))⟩
  exact news_sub (by assumption) (fun p hp => by simp only [List.nil_append] at hp; exact List.mem_cons_of_mem _ (List.mem_cons_of_mem _ hp))
end
end Mine

namespace Mine
section
theorem adapt_c (w : World) (news : List (Addr × Obj)) (de : Int) (fi : Bool) (nc : Int) (t1 t2 : Tok) (h0 : 0 ≤ de) (h1 : 1 ≤ nc) (h2 : nc ≤ 1000) :
    Ctr PySem.Challenge.rw_rl0154_01.row.prog w (Mine.hd.heap_39 w.params) Mine.hd.view_39 28 1 1 [.int de t1, .bool fi, .int nc t2] news (fun tl r => tl = [] ∧ ∃ t, r = .int (biasF de fi nc) t) := by
  k_with_none
  k_with "exec While Compare cons nil" => (refine Stop.intro ?_)
  k_with "WPost" => (dsimp only [WPost])
  k_fill
  w_top off
  unfold Ctr
  intro loose mean mg mb dp un gd cn cs a ccd cl outer A₀ base h₀ L m s Q E cB cF cX cN cT cK cD cU hret
  refine wpAny_call ?_
  k_dflt cell_enter
  k_steps
  all_goals (
    rename (fi = _) => hfi
    unfold Stop
    refine' whileR (σ := Int × Tok × Int × Tok) (fun _ => news) (fun c => [(Str.ofString "delta", .int c.1 c.2.1), (Str.ofString "divisions", .int c.2.2.1 c.2.2.2)]) (fun c => 0 ≤ c.1 ∧ biasL c.1.toNat c.2.2.1 = biasF de fi nc) (fun c => c.1.toNat) (by assumption) (by assumption) ?_ ?_
    · refine' ⟨(_, _, _, _), by kst_in, by kst_all, ?_⟩
      exact adapt_start1 h0 h1 fi _ (by rw [hfi]; rfl)
    · rintro ⟨d, td, dv, tv⟩ u h tk ⟨hd, hb⟩ F N
      dsimp only [kstB] at F hd hb
      k_steps
      · refine' WEnd.intro (_, _, _, _) (by assumption) (by assumption) (by kst_in) (by kst_all) ?_ ?_
        · exact adapt_turn hb (by assumption)
        · exact adapt_less (by assumption)
      · exact hret _ [] _ _ (by assumption) (by assumption) (fun _ _ _ h9 => nomatch h9) ⟨rfl, _, by rw [adapt_done hd hb (by assumption)]⟩)
end
end Mine

namespace Mine
section
theorem bias_c (w : World) (news : List (Addr × Obj)) (de : Int) (fi : Bool) (nc : Int) (t1 t2 : Tok) (h0 : 0 ≤ de) (h1 : 1 ≤ nc) (h2 : nc ≤ 1000) (hfit : Fit de) :
    Ctr PySem.Challenge.rw_rl0154_01.row.prog w (Mine.hd.heap_39 w.params) Mine.hd.view_39 63 1 1 [.int de t1, .bool fi, .int nc t2] news (fun tl r => tl = [] ∧ ∃ t, r = .int (biasF de fi nc) t) := by
  k_with_none
  k_with "exec While Compare cons nil" => (refine Stop.intro ?_)
  k_with "WPost" => (dsimp only [WPost])
  k_with "binaryOp FloorDiv int int" => (with_reducible refine floordiv_int (pow35_ne _) ?_ (Or.inl (PyProof.noPylong_of_log2 (pow35_log (by assumption) (by assumption)))))
  k_fill
  w_top off
  unfold Ctr
  intro loose mean mg mb dp un gd cn cs a ccd cl outer A₀ base h₀ L m s Q E cB cF cX cN cT cK cD cU hret
  refine wpAny_call ?_
  k_dflt cell_enter
  k_steps
  all_goals (
    rename (fi = _) => hfi
    unfold Stop
    refine' whileR (σ := Int × Tok × Int × Tok) (fun _ => news) (fun c => [(Str.ofString "rest", .int c.1 c.2.1), (Str.ofString "turns", .int c.2.2.1 c.2.2.2)]) (fun c => BiasP (biasF de fi nc) c.1 c.2.2.1) (fun c => (400 - c.2.2.1).toNat) (by assumption) (by assumption) ?_ ?_
    · refine' ⟨(_, _, _, _), by kst_in, by kst_all, ?_⟩
      exact bias_start h0 h1 hfit fi _ (by rw [hfi]; rfl)
    · rintro ⟨d, td, dv, tv⟩ u h tk hP F N
      dsimp only [kstB] at F hP
      obtain ⟨hp1, hp2⟩ := hP.range
      have hp3 := hP.pos
      k_steps
      · refine' WEnd.intro (_, _, _, _) (by assumption) (by assumption) (by kst_in) (by kst_all) ?_ ?_
        · exact hP.turn (by assumption)
        · exact BiasP.less hp1 (hP.turn (by assumption)).range.2
      · exact hret _ [] _ _ (by assumption) (by assumption) (fun _ _ _ h9 => nomatch h9) ⟨rfl, int_ret (hP.done (by assumption))⟩)
end
end Mine

namespace Mine
section
theorem number_c (w : World) (news : List (Addr × Obj)) (l : Addr) (vs : List Value) (n : Nat) (ns : List Int) (b : Int) (t2 : Tok) (hl : (l, listOf vs.toArray n) ∈ news) (hi : IntsAre vs ns) (hlen : ns.length ≤ 40) (hfig : ∀ f ∈ ns, 0 ≤ f ∧ f < 36) :
    Ctr PySem.Challenge.rw_rl0154_01.row.prog w (Mine.hd.heap_39 w.params) Mine.hd.view_39 70 2 2 [.ref l, .int b t2] news (fun tl r => tl = [] ∧ ∃ t, r = .int (numF b 0 ns) t ∧ Fit (numF b 0 ns)) := by
  k_with_none
  k_with "pyIter ref" => (refine Stop.intro ?_)
  k_with "FPost" => (dsimp only [FPost])
  k_with "call ref cons nil" => (k_here; k_dflt (refine' Ctr.ask (least_c _ _ _ _ _ _) (ret := ?_)); intro r9 tl9 h9 tk9 F9 N9 hl9 hR9; obtain ⟨ht9, t9, he9, hx9, hy9⟩ := hR9; subst ht9; subst he9; clear hl9; (simp only [List.nil_append] at N9); (try k_sweep); (try dsimp only); (try k_fold))
  k_fill
  w_top off
  unfold Ctr
  intro loose mean mg mb dp un gd cn cs a ccd cl outer A₀ base h₀ L m s Q E cB cF cX cN cT cK cD cU hret
  replace cN := news_dup cN hl
  refine wpAny_call ?_
  k_dflt cell_enter
  k_steps
  unfold Stop
  refine' forRange (σ := Int × Tok) (n := ns.length) (fun _ => (l, listOf vs.toArray n) :: news) (fun c => [(Str.ofString "number", .int c.1 c.2), (Str.ofString "figures", .ref l), (Str.ofString "bias", .int b t2)]) (fun i c => i ≤ ns.length ∧ c.1 = numF b (ns.length - i) (ns.drop (ns.length - i))) rfl (by assumption) ?_ ?_ (by assumption) (by assumption) ?_ ?_ ?_
  · exact small_down (by omega) (by omega) (by decide) (by decide)
  · rw [rangeSize_downNat]; omega
  · refine' ⟨(_, _), by kst_in, by kst_all, ?_⟩
    refine ⟨Nat.zero_le _, ?_⟩
    simp [numF]
  · rintro ⟨nu, tn⟩ I i ti u h tk oI hin ⟨_, hP⟩ hne F N
    dsimp only [kstB] at F hP
    have hidx : (ns.length : Int) - 1 + i * -1 = ((ns.length - (i + 1) : Nat) : Int) := by omega
    have hlt : ns.length - (i + 1) < ns.length := by omega
    rw [hidx] at F
    k_steps
    refine' FEnd.intro (_, _) (by assumption) (by assumption) (.head _) (by kst_in) hne (by kst_all) ⟨by omega, ?_⟩
    exact number_turn hin hP
  · rintro ⟨nu, tn⟩ u h tk ⟨_, hP⟩ F N
    dsimp only [kstB] at F hP
    k_steps
    refine hret _ [] _ _ (by assumption) (news_sub (by assumption) fun p hp => List.mem_cons_of_mem _ hp) (fun _ _ _ h9 => nomatch h9) ⟨rfl, tn, ?_, numF_fit hlen hfig⟩
    have e : nu = numF b 0 ns := by simpa using hP
    rw [e]
end
end Mine

namespace Mine
section
local macro_rules | `(tactic| k_mem) => `(tactic| assumption)
local macro_rules | `(tactic| k_all) => `(tactic| assumption)
theorem seated_c (w : World) (news : List (Addr × Obj)) (st : Str) (l : Addr) (vs : List Value) (n : Nat) (sp : List (Int × Int)) (t2 : Tok) (hl : (l, listOf vs.toArray n) ∈ news) (hi : StoryIn news vs sp) (hlen : vs.length ≤ 40) (hst : st.length ≤ 100) (hse : Seats st.length sp) :
    Ctr PySem.Challenge.rw_rl0154_01.row.prog w (Mine.hd.heap_39 w.params) Mine.hd.view_39 77 2 2 [.str st t2, .ref l] news (fun tl r => tl = [] ∧ ∃ t, r = .str (Str.mk (insAll st.cps.toList sp).toArray) t) := by
  k_with_none
  k_with "pyIter ref" => (refine Stop.intro ?_)
  k_with "FPost" => (dsimp only [FPost])
  k_with "call builtin:len cons nil" => (k_here; (with_reducible show wpAny _ _ (call (Value.builtin "len") [Value.ref _]) _ _ _); k_dflt (refine' r_len ?k1 ?k2 ?k3 ?_; (case k1 => k_asm); (case k2 => k_mem); (case k3 => (first | omega | (simp only [List.length_map, List.length_range, List.length_replicate]; omega))); k_whole))
  k_with "binaryOp Mult ref int" => (k_here; k_dflt (refine' r_mul1 ?k1 ?k2 ?k3 ?k4 ?k5 ?_; (case k1 => k_asm); (case k2 => k_asm); (case k3 => k_mem); (case k4 => omega); (case k5 => (simp only [rangeKs_length]; omega)); k_whole); intro D2 h2 F' N' l1c; (try k_lt l1c); (try k_sweep))
  k_with "subscriptTail" => (k_here; (with_reducible show wpAny _ _ (subscriptTail _ _ (Value.ref _) (Value.int _ _)) _ _ _); k_dflt (refine' r_sub ?k1 ?k2 ?k3 ?k4 ?k5 ?_; (case k1 => k_asm); (case k2 => k_mem); (case k3 => omega); (case k4 => with_reducible assumption); (case k5 => omega); k_whole))
  k_with "subscriptTail" => (k_here; (with_reducible show wpAny _ _ (subscriptTail _ _ (Value.ref _) (Value.int 0 _)) _ _ _); k_dflt (refine' r_pair0 ?k1 ?k2 ?_; (case k1 => k_asm); (case k2 => k_mem); k_whole))
  k_with "subscriptTail" => (k_here; (with_reducible show wpAny _ _ (subscriptTail _ _ (Value.ref _) (Value.int 1 _)) _ _ _); k_dflt (refine' r_pair1 ?k1 ?k2 ?_; (case k1 => k_asm); (case k2 => k_mem); k_whole))
  k_with "call builtin:list.pop cons nil" => (k_here; k_dflt (refine' r_popAt ?k1 ?k2 ?k3 ?k4 ?k5 ?k6 ?_; (case k1 => k_asm); (case k2 => k_asm); (case k5 => with_reducible assumption); (case k3 => k_upd); (case k4 => omega); (case k6 => omega); k_whole); intro h' F' N'; (try k_sweep))
  k_with "call builtin:str.join cons nil" => (k_here; k_dflt (refine' r_join ?k1 ?k2 ?k3 ?k4 ?k5 ?_; (case k1 => k_asm); (case k3 => with_reducible assumption); (case k2 => k_mem); (case k4 => exact rfl); (case k5 => with_reducible assumption); k_whole); intro t' tk')
  k_with "setItem ref int" => (k_here; k_dflt (refine' r_setAt ?k1 ?k2 ?k3 ?k4 ?k5 ?k6 ?_; (case k1 => k_asm); (case k2 => k_asm); (case k3 => k_upd); (case k4 => omega); (case k5 => omega); (case k6 => omega); k_whole); intro h' F' N'; (try k_sweep))
  k_fill
  w_top off
  unfold Ctr
  intro loose mean mg mb dp un gd cn cs a ccd cl outer A₀ base h₀ L m s Q E cB cF cX cN cT cK cD cU hret
  replace cN := news_dup cN hl
  refine wpAny_call ?_
  k_dflt cell_enter
  k_steps
  rename_i D1 fvs0 c1 _ _ hI1 l1a _ _ le _ l1b _ _ _ _ _ _ _ _ Hr _ _ _
  obtain ⟨hvl, hvs⟩ := hi
  have ha1 : ∀ p ∈ news, p.1 ≠ D1 := fun p hp => Nat.ne_of_lt (allLt_mem l1a.2 p hp)
  have ha2 : ∀ p ∈ news, p.1 ≠ D2 := fun p hp => Nat.ne_of_lt (allLt_mem l1c.2.2.2 p hp)
  unfold Stop
  refine' forRange (σ := List Value × Nat × List Value) (n := sp.length) (fun c => (D2, listOf c.2.2.toArray 0) :: (D1, listOf c.1.toArray c.2.1) :: (l, listOf vs.toArray n) :: news) (fun c => [(Str.ofString "free", .ref D1), (Str.ofString "word", .ref D2), (Str.ofString "stem", .str st t2), (Str.ofString "story", .ref l)]) (fun i c => SeatP st.length sp i c.1 c.2.2) rfl (by assumption) ?_ ?_ (by assumption) (by assumption) ?_ ?_ ?_
  · exact small_down (by omega) (by omega) (by decide) (by decide)
  · rw [rangeSize_downNat]; omega
  · have hR : IntsAre fvs0 (rangeKs 0 (st.length + sp.length)) := by
      have e : ((st.length : Int) + (vs.length : Int) - 0).toNat = st.length + sp.length := by omega
      rw [e] at hI1
      exact hI1
    have eN : ((rangeKs 0 ((st.length : Int) + (vs.length : Int) - 0).toNat).length : Int).toNat = st.length + sp.length := by
      rw [rangeKs_length]; omega
    rw [eN]
    refine' ⟨(_, _, _), by kst_inAny, by kst_all, ?_⟩
    exact seat_start st.length sp hR
  · rintro ⟨fvs, e1, wvs⟩ I i ti u h tk oI hin hP hne F N
    dsimp only [kstB] at F hP N
    have hidx : (vs.length : Int) - 1 + i * -1 = ((sp.length - (i + 1) : Nat) : Int) := by omega
    obtain ⟨fs, ws, hfs, hws, hst', hle, hfl, hwl, hw1, hfb⟩ := hP
    have hj : sp.length - (i + 1) < sp.length := by omega
    obtain ⟨a9, ta, tb, n9, hv, hm⟩ := hvs (sp.length - (i + 1)) sp[sp.length - (i + 1)] (by simp [hj])
    obtain ⟨q1, q2, q3, q4⟩ := hse (sp.length - (i + 1)) sp[sp.length - (i + 1)] (by simp [hj])
    generalize hx : sp[sp.length - (i + 1)] = x at *
    obtain ⟨x1, x2⟩ := x
    dsimp only at hm q1 q2 q3 q4
    have hfi : x2.toNat < fs.length := by omega
    obtain ⟨tf, hpop⟩ := hfs.get x2.toNat fs[x2.toNat] (by simp [hfi])
    obtain ⟨f1, f2⟩ := hfb fs[x2.toNat] (List.getElem_mem hfi)
    generalize hf : fs[x2.toNat] = f at *
    have hv' : vs[(((sp.length - (i + 1) : Nat) : Int)).toNat]? = some (.ref a9) := by rw [Int.toNat_natCast]; exact hv
    have hIa := neN (a := D2) (b := I) (hne _ (.head _))
    have hIb := neN (a := D1) (b := I) (hne _ (.tail _ (.head _)))
    have hfl' := hfs.length
    have hwl' := StrsAre_length hws
    rw [hidx] at F
    k_steps
    refine' FEnd.intro (_, _, _) (by assumption) (by assumption) (.head _) (by kst_in) ?_ (by kst_all) ?_
    · exact List.forall_mem_cons.mpr ⟨hIa, List.forall_mem_cons.mpr ⟨hIb, fun p hp => hne p (.tail _ (.tail _ hp))⟩⟩
    · exact seat_turn hfs hws hst' hin hfl hwl hw1 hfb hx hfi f hf
  · rintro ⟨fvs, e1, wvs⟩ u h tk hP F N
    dsimp only [kstB] at F hP N
    obtain ⟨fs, ws, hfs, hws, hst', hle, hfl, hwl, hw1, hfb⟩ := hP
    have hfl' := hfs.length
    k_steps
    unfold Stop
    refine' forRange (σ := List Value) (n := st.length) (fun c => (D2, listOf c.toArray 0) :: (D1, listOf fvs.toArray e1) :: (l, listOf vs.toArray n) :: news) (fun c => [(Str.ofString "free", .ref D1), (Str.ofString "word", .ref D2), (Str.ofString "stem", .str st t2)]) (fun i c => SpotP (st.length + sp.length) fs (signs st) (putL ws fs (signs st)) i c) rfl (by assumption) ?_ ?_ (by assumption) (by assumption) ?_ ?_ ?_
    · exact small_up (by omega) (by omega)
    · exact rangeSize_up _
    · refine' ⟨_, by kst_in, by kst_all, ?_⟩
      exact ⟨ws, hws, hwl, hw1, rfl⟩
    · rintro wv2 I i ti u h tk oI hin hP hne F N
      dsimp only [kstB] at F hP N
      obtain ⟨ws2, hws2, hwl2, hw2, hput⟩ := hP
      have hidx : (0 : Int) + i * 1 = (i : Int) := by omega
      rw [hidx] at F
      have hfi : i < fs.length := by omega
      obtain ⟨tf, hpop⟩ := hfs.get i fs[i] (by simp [hfi])
      have hpop' : fvs[((i : Int)).toNat]? = some (Value.int fs[i] tf) := by rw [Int.toNat_natCast]; exact hpop
      obtain ⟨f1, f2⟩ := hfb fs[i] (List.getElem_mem hfi)
      have hIa := neN (a := D2) (b := I) (hne _ (.head _))
      have hIb := neN (a := D1) (b := I) (hne _ (.tail _ (.head _)))
      have hwl2' := StrsAre_length hws2
      have hg1 : 0 ≤ fs.getD ((i : Int)).toNat 0 := by rw [Int.toNat_natCast, List.getD_eq_getElem?_getD, List.getElem?_eq_getElem hfi]; exact f1
      have hg2 : fs.getD ((i : Int)).toNat 0 < (wv2.length : Int) := by rw [Int.toNat_natCast, List.getD_eq_getElem?_getD, List.getElem?_eq_getElem hfi]; simp; omega
      k_steps
      refine' FEnd.intro _ (by assumption) (by assumption) (.head _) (by kst_in) ?_ (by kst_all) ?_
      · exact List.forall_mem_cons.mpr ⟨hIa, List.forall_mem_cons.mpr ⟨hIb, fun p hp => hne p (.tail _ (.tail _ hp))⟩⟩
      · exact spot_turn hws2 hwl2 hw2 hput hfi (by rw [signs_length]; exact hin) (item_sign hin).1 (item_sign hin).2
    · rintro wv2 u h tk hP F N
      dsimp only [kstB] at F hP N
      obtain ⟨ws2, hws2, hwl2, hw2, hput⟩ := hP
      have hsum : (ws2.map (·.length)).sum ≤ 1000000 := Nat.le_trans (sum_le1 hw2) (by omega)
      k_steps
      refine hret _ [] _ _ (by assumption) (news_sub (by assumption) ?_) (fun _ _ _ h9 => nomatch h9) ⟨rfl, _, by rw [seat_done hse hst' hfl hput]⟩
      exact fun p hp => List.mem_cons_of_mem _ (List.mem_cons_of_mem _ (List.mem_cons_of_mem _ hp))
end
end Mine

namespace Mine
section
/-- the loop rule for one iterable of ints, whatever it is: lx is what it needs of the ledger -/
def IterR (prog : Program) (w : World) (it : Value) (lx : List (Addr × Obj)) (oc : List Int) : Prop :=
  ∀ {σ : Type} {A : Around} {E : Value → Shared → Prop} {Q : Flow → Shared → Prop} {s : Shared} {env : Env} {h₀ : Heap} {x : Str} {body : List Stmt} {m₀ : Str → Option Value} {news : List (Addr × Obj)}
    (Led : σ → List (Addr × Obj)) (ps : σ → List (Str × Value)) (P : Nat → σ → Prop), A.handled = none → (∀ c, ∀ p ∈ lx, p ∈ Led c) →
    Fr h₀ env.locals s.heap m₀ → News h₀ env.locals s.heap news → (∃ c₀ : σ, (∀ p ∈ Led c₀, p ∈ news) ∧ (∀ p ∈ ps c₀, m₀ p.1 = some p.2) ∧ P 0 c₀) →
    (∀ (c : σ) I (i : Nat) o t (u : Str → Option Value) h tk oI, oc[i]? = some o → P i c → (∀ p ∈ Led c, p.1 ≠ I) →
      Fr h₀ env.locals h (fun y => if y = x then some (.int o t) else kstB u (ps c) y) → News h₀ env.locals h ((I, oI) :: Led c) →
      wpAny (model prog w) A (execs body env) (FPost h₀ env.locals { s with heap := h, toks := tk } I oI Led ps (P (i + 1)) Q) E { s with heap := h, toks := tk }) →
    (∀ (c : σ) (u : Str → Option Value) h tk, P oc.length c → Fr h₀ env.locals h (kstB u (ps c)) → News h₀ env.locals h (Led c) → Q .next { s with heap := h, toks := tk }) →
    wpAny (model prog w) A (pyIter it) (fun it s₂ => LoopAtV prog w A h₀ env x body Q E it s₂) E s
theorem IterR.list {prog : Program} {w : World} {l : Addr} {vs : List Value} {nn : Nat} {oc : List Int} (hi : IntsAre vs oc) : IterR prog w (.ref l) [(l, listOf vs.toArray nn)] oc := by
  intro σ A E Q s env h₀ x body m₀ news Led ps P hh hl F N start turn done
  refine forList Led ps P hh (fun c => hl c _ (.head _)) F N start (fun c I i v u h tk oI hin hv hP hne F' N' => ?_) (hi.length ▸ done)
  have hlo : i < oc.length := by rw [← hi.length]; exact hin
  obtain ⟨ti, hv'⟩ := hi.get i oc[i] (by simp [hlo])
  obtain rfl := Option.some.inj (hv.symm.trans hv')
  exact turn c I i oc[i] ti u h tk oI (by simp [hlo]) hP hne F' N'
theorem IterR.bytes {prog : Program} {w : World} {bs : Array UInt8} {tb : Tok} {oc : List Int} (hi : KBw.bInts bs = oc) : IterR prog w (.bytes bs tb) [] oc := by
  intro σ A E Q s env h₀ x body m₀ news Led ps P hh hl F N start turn done
  have hb : bs.size = oc.length := by rw [← hi]; exact (KBw.ints_length bs).symm
  refine forBytes Led ps P hh F N start (fun c I i k t u h tk oI _ hv hP hne F' N' => ?_) (hb ▸ done)
  exact turn c I i _ t u h tk oI (by rw [← hi]; exact KBw.ints_get hv) hP hne F' N'
end
end Mine

namespace Mine
section
local macro_rules | `(tactic| k_all) => `(tactic| assumption)
theorem readG_c (w : World) (news : List (Addr × Obj)) (st : Str) (t2 : Tok) (it : Value) (lx : List (Addr × Obj)) (oc : List Int) (hlx : ∀ p ∈ lx, p ∈ news) (H : IterR PySem.Challenge.rw_rl0154_01.row.prog w it lx oc) (hlen : oc.length ≤ 40) (hst : st.length ≤ 60) :
    Ctr PySem.Challenge.rw_rl0154_01.row.prog w (Mine.hd.heap_39 w.params) Mine.hd.view_39 84 4 4 [.str st t2, it] news (fun tl r => tl = [] ∧ ∃ t, r = .str (Str.mk (insAll st.cps.toList (readL oc st.length 72 (-1) [] [])).toArray) t) := by
  k_with_none
  k_with "pyIter" => (refine Stop.intro ?_)
  k_with "exec For Name Name cons nil" => (k_here; (rename Fr _ _ _ _ => lF'); (with_unfolding_all refine' For_invVF lF' ?k1 ?k2 ?_; (case k1 => exact rfl); (case k2 => exact rfl); k_whole))
  k_with "FPost" => (dsimp only [FPost])
  k_with "call ref cons nil" => (k_here; k_dflt (refine' Ctr.ask (least_c _ _ _ _ _ _) (ret := ?_)); intro r9 tl9 h9 tk9 F9 N9 hl9 hR9; obtain ⟨ht9, t9, he9, hx9, hy9⟩ := hR9; subst ht9; subst he9; clear hl9; (simp only [List.nil_append] at N9); (try k_sweep); (try dsimp only); (try k_fold))
  k_with "call ref cons nil" => (k_here; k_dflt (refine' Ctr.ask (number_c _ _ _ _ _ _ _ _ ?h1 ?h2 ?h3 ?h4) (ret := ?_)); (case h1 => k_mem); (case h2 => exact intsAre_app (by with_reducible assumption)); (case h3 => (simp only [List.length_append, List.length_cons, List.length_nil]; omega)); (case h4 => exact fig_app (by with_reducible assumption) (by omega) (by omega)); intro r9 tl9 h9 tk9 F9 N9 hl9 hR9; obtain ⟨ht9, t9, he9, hx9⟩ := hR9; subst ht9; subst he9; clear hl9; (simp only [List.nil_append] at N9); (try k_sweep); (try dsimp only); (try k_fold))
  k_with "call ref cons nil" => (k_here; k_dflt (refine' Ctr.ask (bias_c _ _ _ _ _ _ _ ?h1 ?h2 ?h3 ?h4) (ret := ?_)); (case h4 => with_reducible assumption); (case h1 => exact Fit.nonneg (by with_reducible assumption)); (case h2 => omega); (case h3 => omega); intro r9 tl9 h9 tk9 F9 N9 hl9 hR9; obtain ⟨ht9, t9, he9⟩ := hR9; subst ht9; subst he9; clear hl9; (simp only [List.nil_append] at N9); (try k_sweep); (try dsimp only); (try k_fold))
  k_with "call ref cons nil" => (k_here; k_dflt (refine' Ctr.ask (seated_c _ _ _ _ _ _ _ _ ?h1 ?h2 ?h3 ?h4 ?h5) (ret := ?_)); (case h1 => k_mem); (case h2 => exact StoryIn.sub (by with_reducible assumption) (by kst_in)); (case h3 => omega); (case h4 => omega); (case h5 => with_reducible assumption); intro r9 tl9 h9 tk9 F9 N9 hl9 hR9; obtain ⟨ht9, t9, he9⟩ := hR9; subst ht9; subst he9; clear hl9; (simp only [List.nil_append] at N9); (try k_sweep); (try dsimp only); (try k_fold))
  k_with "call builtin:list.append cons nil" => (k_here; k_dflt (first | (refine' r_append ?k1 ?k2 ?k3 ?k4 ?_; (case k1 => k_asm); (case k2 => k_asm); (case k3 => k_upd); (case k4 => omega); k_whole) | ((rename News _ _ _ _ => nX); (replace nX := news_cut2 nX); refine' r_append ?k1 ?k2 ?k3 ?k4 ?_; (case k1 => k_asm); (case k2 => exact nX); (case k3 => k_upd); (case k4 => omega); k_whole)); intro h' F' N'; (try k_sweep))
  k_with "subscriptTail" => (k_here; (with_reducible show wpAny _ _ (subscriptTail _ _ (Value.ref _) (Value.int _ _)) _ _ _); k_dflt (refine' r_last ?k1 ?k2 ?k3 ?_; (case k1 => k_asm); (case k2 => k_mem); (case k3 => omega); k_whole))
  k_with "call builtin:len cons nil" => (k_here; (with_reducible show wpAny _ _ (call (Value.builtin "len") [Value.ref _]) _ _ _); k_dflt (refine' r_len ?k1 ?k2 ?k3 ?_; (case k1 => k_asm); (case k2 => k_mem); (case k3 => (first | omega | (simp only [List.length_append, List.length_cons, List.length_nil]; omega))); k_whole))
  k_fill
  w_top off
  unfold Ctr
  intro loose mean mg mb dp un gd cn cs a ccd cl outer A₀ base h₀ L m s Q E cB cF cX cN cT cK cD cU hret
  refine wpAny_call ?_
  k_dflt cell_enter
  k_steps
  rename_i Df _ l1f _ Ds _ l1s _ _
  unfold Stop
  refine' H (σ := { c : RS // ∀ p ∈ lx, p ∈ c.rest }) (fun c => (c.1.Df, listOf c.1.fv.toArray c.1.fe) :: (c.1.Ds, listOf c.1.sv.toArray c.1.se) :: c.1.rest) (fun c => [(Str.ofString "size", .int c.1.size c.1.ts), (Str.ofString "bias", .int c.1.bias c.1.tb), (Str.ofString "hour", .int c.1.hour c.1.th), (Str.ofString "figures", .ref c.1.Df), (Str.ofString "story", .ref c.1.Ds), (Str.ofString "stem", .str st t2)]) (fun i c => RSP st.length oc (readL oc st.length 72 (-1) [] []) news i c.1) rfl (fun c p hp => .tail _ (.tail _ (c.2 p hp))) (by assumption) (by assumption) ?_ ?_ ?_
  · refine' ⟨⟨⟨_, _, _, _, _, _, Df, [], 0, Ds, [], 0, news, [], []⟩, hlx⟩, ?_, by kst_all, ?_⟩
    · exact List.forall_mem_cons.mpr ⟨.tail _ (.head _), List.forall_mem_cons.mpr ⟨.head _, fun p hp => .tail _ (.tail _ hp)⟩⟩
    · exact RSP.start (fun p hp => Nat.ne_of_lt (l1f p hp)) (fun p hp => Nat.ne_of_lt (allLt_mem l1s.2 p hp)) (Nat.ne_of_lt l1s.1)
  · rintro ⟨⟨size, ts, bias, tb, hour, th, Df, fv, fe, Ds, sv, se, rest, figs, sp⟩, hx⟩ I i o ti u h tk oI ho hP hne F N
    dsimp only [kstB] at F hP N
    dsimp only at hx
    have hP0 := hP
    obtain ⟨_, hfv, hfl, hfb, hsz, hsl, hse, hsto, hhr, hsub, hoF, hoS, hoD⟩ := hP
    dsimp only at hfv hfl hfb hsz hsl hse hsto hhr hsub hoF hoS hoD
    have hIf := neN (a := I) (b := Df) (fun e => hne _ (.head _) e.symm)
    have hIs := neN (a := I) (b := Ds) (fun e => hne _ (.tail _ (.head _)) e.symm)
    have hDD := neN (a := Df) (b := Ds) hoD
    have hfvl := hfv.length
    have hsvl := hsto.1
    have hil : i < oc.length := (List.getElem?_eq_some_iff.mp ho).1
    have hslen : sp.length ≤ 40 := by omega
    k_steps
    · rename_i Dt _ l1t _ _ _ _ _ Dn _ l1n _ _ _
      refine' FEnd.intro ⟨⟨_, _, _, _, _, _, Dn, [], 0, Ds, sv ++ [.ref Dt], se + 1, (Dt, pairObj 63 ((hour + (numF bias 0 (figs ++ [o - 65]) + 1)).fmod (size + 1)) _ _ _) :: rest, [], sp ++ [(63, ((hour + (numF bias 0 (figs ++ [o - 65]) + 1)).fmod (size + 1)))]⟩, fun p hp => .tail _ (hx p hp)⟩ (by assumption) (by assumption) (by k_memK) (by kst_in) ?_ (by kst_all) ?_
      · dsimp only
        exact List.forall_mem_cons.mpr ⟨Nat.ne_of_gt l1n.2.1, List.forall_mem_cons.mpr ⟨Ne.symm hIs, List.forall_mem_cons.mpr ⟨Nat.ne_of_gt l1t.2.1, fun p hp => hne p (.tail _ (.tail _ hp))⟩⟩⟩
      · exact hP0.turn ho (dig_great (by assumption) (by assumption)) (lt_of_tF hfvl (by assumption)) hlen (signOf_big (by assumption)) rfl (by rw [len1_eq hsvl]) rfl (Nat.ne_of_gt l1t.2.2.2.1) (Nat.ne_of_lt l1n.1) (Nat.ne_of_gt l1n.2.2.2.1) l1n.2.2.2.2
    · rename_i Dt _ l1t _ _ _ _ _ Dn _ l1n _ _ _
      refine' FEnd.intro ⟨⟨_, _, _, _, _, _, Dn, [], 0, Ds, sv ++ [.ref Dt], se + 1, (Dt, pairObj ((hour + (numF bias 0 (figs ++ [o - 65]) + 1)).fdiv (size + 1) + 128) ((hour + (numF bias 0 (figs ++ [o - 65]) + 1)).fmod (size + 1)) _ _ _) :: rest, [], sp ++ [(((hour + (numF bias 0 (figs ++ [o - 65]) + 1)).fdiv (size + 1) + 128), ((hour + (numF bias 0 (figs ++ [o - 65]) + 1)).fmod (size + 1)))]⟩, fun p hp => .tail _ (hx p hp)⟩ (by assumption) (by assumption) (by k_memK) (by kst_in) ?_ (by kst_all) ?_
      · dsimp only
        exact List.forall_mem_cons.mpr ⟨Nat.ne_of_gt l1n.2.1, List.forall_mem_cons.mpr ⟨Ne.symm hIs, List.forall_mem_cons.mpr ⟨Nat.ne_of_gt l1t.2.1, fun p hp => hne p (.tail _ (.tail _ hp))⟩⟩⟩
      · exact hP0.turn ho (dig_great (by assumption) (by assumption)) (lt_of_tF hfvl (by assumption)) hlen (signOf_small (by assumption)) rfl (by rw [len1_eq hsvl]) rfl (Nat.ne_of_gt l1t.2.2.2.1) (Nat.ne_of_lt l1n.1) (Nat.ne_of_gt l1n.2.2.2.1) l1n.2.2.2.2
    · refine' FEnd.intro ⟨⟨_, _, _, _, _, _, Df, _, _, Ds, sv, se, rest, figs ++ [o - 65], sp⟩, hx⟩ (by assumption) (by assumption) (by k_memK) (by kst_in) ?_ (by kst_all) ?_
      · dsimp only
        exact List.forall_mem_cons.mpr ⟨Ne.symm hIf, List.forall_mem_cons.mpr ⟨Ne.symm hIs, fun p hp => hne p (.tail _ (.tail _ hp))⟩⟩
      · exact hP0.go ho (dig_great (by assumption) (by assumption)) (not_lt_of_tF hfvl (by assumption))
    · refine hret _ [] _ _ (by assumption) (news_sub (by assumption) ?_) (fun _ _ _ h9 => nomatch h9) ⟨rfl, _, by rw [← hP0.stop ho (dig_none (by omega) (by omega))]⟩
      intro p hp
      have hp' := hsub p hp
      simp [hp']
    · refine' FEnd.intro ⟨⟨_, _, _, _, _, _, Df, _, _, Ds, sv, se, rest, figs ++ [o - 22], sp⟩, hx⟩ (by assumption) (by assumption) (by k_memK) (by kst_in) ?_ (by kst_all) ?_
      · dsimp only
        exact List.forall_mem_cons.mpr ⟨Ne.symm hIf, List.forall_mem_cons.mpr ⟨Ne.symm hIs, fun p hp => hne p (.tail _ (.tail _ hp))⟩⟩
      · exact hP0.go ho (dig_figure (by assumption) (by assumption)) (fun hc => by have := tF_range figs.length bias; omega)
    · refine hret _ [] _ _ (by assumption) (news_sub (by assumption) ?_) (fun _ _ _ h9 => nomatch h9) ⟨rfl, _, by rw [← hP0.stop ho (dig_none (by omega) (by omega))]⟩
      intro p hp
      have hp' := hsub p hp
      simp [hp']
    · refine hret _ [] _ _ (by assumption) (news_sub (by assumption) ?_) (fun _ _ _ h9 => nomatch h9) ⟨rfl, _, by rw [← hP0.stop ho (dig_none (by omega) (by omega))]⟩
      intro p hp
      have hp' := hsub p hp
      simp [hp']
  · rintro ⟨⟨size, ts, bias, tb, hour, th, Df, fv, fe, Ds, sv, se, rest, figs, sp⟩, hx⟩ u h tk hP F N
    dsimp only [kstB] at F hP N
    have hP0 := hP
    obtain ⟨_, hfv, hfl, hfb, hsz, hsl, hse, hsto, hhr, hsub, hoF, hoS, hoD⟩ := hP
    dsimp only at hfv hfl hfb hsz hsl hse hsto hhr hsub hoF hoS hoD
    have hsvl := hsto.1
    k_steps
    refine hret _ [] _ _ (by assumption) (news_sub (by assumption) ?_) (fun _ _ _ h9 => nomatch h9) ⟨rfl, _, by rw [← hP0.all (by omega)]⟩
    intro p hp
    have hp' := hsub p hp
    simp [hp']
theorem readL_c (w : World) (news : List (Addr × Obj)) (st : Str) (t2 : Tok) (l : Addr) (vs : List Value) (n : Nat) (oc : List Int) (hl : (l, listOf vs.toArray n) ∈ news) (hi : IntsAre vs oc) (hlen : oc.length ≤ 40) (hst : st.length ≤ 60) :
    Ctr PySem.Challenge.rw_rl0154_01.row.prog w (Mine.hd.heap_39 w.params) Mine.hd.view_39 84 4 4 [.str st t2, .ref l] news (fun tl r => tl = [] ∧ ∃ t, r = .str (Str.mk (insAll st.cps.toList (readL oc st.length 72 (-1) [] [])).toArray) t) :=
  readG_c w news st t2 (.ref l) [(l, listOf vs.toArray n)] oc (fun p hp => by rw [List.mem_singleton.mp hp]; exact hl) (IterR.list hi) hlen hst
theorem readB_c (w : World) (news : List (Addr × Obj)) (st : Str) (t2 : Tok) (bs : Array UInt8) (t3 : Tok) (oc : List Int) (hi : KBw.bInts bs = oc) (hlen : oc.length ≤ 40) (hst : st.length ≤ 60) :
    Ctr PySem.Challenge.rw_rl0154_01.row.prog w (Mine.hd.heap_39 w.params) Mine.hd.view_39 84 4 4 [.str st t2, .bytes bs t3] news (fun tl r => tl = [] ∧ ∃ t, r = .str (Str.mk (insAll st.cps.toList (readL oc st.length 72 (-1) [] [])).toArray) t) :=
  readG_c w news st t2 (.bytes bs t3) [] oc (fun _ hp => nomatch hp) (IterR.bytes hi) hlen hst
end
end Mine

namespace Mine
section
theorem bint_get {bs : Array UInt8} {oc : List Int} (hi : KBw.bInts bs = oc) {i : Nat} {o : Int} (ho : oc[i]? = some o) : ∃ c : UInt8, bs[i]? = some c ∧ (c.toNat : Int) = o := by
  have hlt := (List.getElem?_eq_some_iff.mp ho).1
  have hb : i < bs.size := by rw [← hi, KBw.ints_length] at hlt; exact hlt
  have h1 := KBw.ints_get (b := bs) (i := i) (c := bs[i]) (by simp [hb])
  rw [hi, ho] at h1
  exact ⟨bs[i], by simp [hb], (Option.some.inj h1).symm⟩
section
variable {prog : Program} {w : World} {A : Around} {E : Value → Shared → Prop} {s : Shared} {bs : Array UInt8} {oc : List Int} {i : Int} {o : Int} {t u : Tok}
theorem fitsIndex_bytes {i : Int} (h0 : 0 ≤ i) (h1 : i < 2 ^ 63) : Builtin.Bytes.fitsIndex i = true := by
  simp only [Builtin.Bytes.fitsIndex, Bool.and_eq_true, decide_eq_true_eq]; omega
theorem raises_bytes_getitem (b : Array UInt8) (i : Int) (t u : Tok) (hr : Builtin.Bytes.fitsIndex i = true) (h : (seqIndex? i b.size).bind (b[·]?) = none) :
    Meets (Builtin.«bytes.__getitem__» ⟨[.bytes b t, .int i u], []⟩) (raisesNew "IndexError") := by
  intro prog w A R s hS
  show wpAny _ _ (Builtin.Bytes.subscript? (.int i u) >>= fun r => _) _ _ s
  refine wpAny_bind ?_
  unfold Builtin.Bytes.subscript?
  refine wpAny_bind (wpAny_specialOf (typeIs_int s i u) F.slot_int_index.lookup ?_)
  show wpAny _ _ (if (!Builtin.Bytes.fitsIndex i) = true then _ else pure (some i)) _ _ s
  rw [hr]
  refine wpAny_pure ?_
  show wpAny _ _ (match (seqIndex? i b.size).bind (b[·]?) with | some x => retInt x.toNat | none => _) _ _ s
  rw [h]
  first
    | exact wpAny_bind (wpAny_rule (by exact_raiseError plainExc_IndexError hS.1 hS.2))
    | exact wpAny_bind (wpAny_rule (wpAny_bind (by exact_raiseError plainExc_IndexError hS.1 hS.2)))
theorem r_bitem {value slice : PySem.Expr} {Q : Value → Shared → Prop} (hi : KBw.bInts bs = oc) (h0 : 0 ≤ i) (hz : oc.length ≤ 1000000) (ho : oc[i.toNat]? = some o) (h : Q (.int o s.toks) { s with toks := s.toks + 1 })
    (hs : subscripted slice false (.bytes bs t) (.int i u) = operate [.bytes bs t, .int i u] (getItem (.bytes bs t) (.int i u)) := by with_unfolding_all rfl) :
    wpAny (model prog w) A (subscriptTail value slice (.bytes bs t) (.int i u)) Q E s := by
  obtain ⟨c, hc, rfl⟩ := bint_get hi ho
  have hb : i.toNat < bs.size := (Array.getElem?_eq_some_iff.mp hc).1
  have hbz : bs.size = oc.length := by rw [← hi]; exact (KBw.ints_length bs).symm
  refine tail_any (typeIs_bytes s bs t) FB.slot_bytes_getitem.lookup (getItem_gives (typeIs_bytes s _ t) (by decide) FB.slot_bytes_getitem FB.entry_bytes_getitem (FB.args_bytes_getitem_2 _ _) (gives_bytes_getitem _ i t u c (fitsIndex_bytes h0 (by omega)) ?_) h) hs
  have : seqIndex? i bs.size = some i.toNat := by
    have hn : ¬ i < 0 := by omega
    simp [seqIndex?, hn, h0]; omega
  rw [this]; exact hc
theorem r_bitem_out {value slice : PySem.Expr} {Q : Value → Shared → Prop} (hA : A.handled = none) (h0 : 0 ≤ i) (hz : i < 2 ^ 63) (ho : (bs.size : Int) ≤ i)
    (hE : ∀ h' tk e, Heap.NewExc s.heap h' e "IndexError" → E (.ref e) { s with heap := h', toks := tk })
    (hs : subscripted slice false (.bytes bs t) (.int i u) = operate [.bytes bs t, .int i u] (getItem (.bytes bs t) (.int i u)) := by with_unfolding_all rfl) :
    wpAny (model prog w) A (subscriptTail value slice (.bytes bs t) (.int i u)) Q E s := by
  refine tail_any (typeIs_bytes s bs t) FB.slot_bytes_getitem.lookup (getItem_meets (typeIs_bytes s _ t) (by decide) FB.slot_bytes_getitem FB.entry_bytes_getitem (FB.args_bytes_getitem_2 _ _) (raises_bytes_getitem _ i t u (fitsIndex_bytes h0 hz) ?_) ⟨hA, fun h' tk e hx => hE h' tk e hx⟩) hs
  have : seqIndex? i bs.size = none := by
    have hn : ¬ i < 0 := by omega
    simp [seqIndex?, hn, h0]; omega
  rw [this]; rfl
end
end
end Mine

namespace Mine
section
theorem frames_in {env : Env} {outer : List Env} {L b : Addr} (hf : env.frame = some L) (hm : b ∈ (env :: outer).filterMap (·.frame)) : b = L ∨ b ∈ outer.filterMap (·.frame) := by
  rw [List.filterMap_cons, hf] at hm
  exact List.mem_cons.mp hm
section
variable {prog : Program} {w : World} {A₀ A : Around} {s : Shared} {base h₀ : Heap} {outer : List Env} {env : Env} {L : Addr} {m : Str → Option Value} {news : List (Addr × Obj)} {K : Frag} {p : Program} {loose : List Str} {mean : ExcName → Option Value} {mg mb : Str → Option Value}
/-- what a callee that turned the frames gives back to its caller, whatever the caller's place -/
theorem turn_back {g g' H : Heap} {L' : Addr} {m' : Str → Option Value} {news' : List (Addr × Obj)} (B : Below A₀ base outer h₀) (hf : env.frame = some L) (FG : Fr h₀ L g m) (XB : K.In base) (TB : Top p loose mean mg mb base) (D : KtsDicts (outer.filterMap (·.frame)) h₀)
    (T : KtsTurn ((env :: outer).filterMap (·.frame)) g g') (F : Fr g' L' H m') (N : News g' L' H news') :
    ∃ h₀', KtsTurn (outer.filterMap (·.frame)) h₀ h₀' ∧ Fr h₀' L H m ∧ News h₀' L H news' ∧ Below A₀ base outer h₀' ∧ K.In h₀' ∧ Top p loose mean mg mb h₀' ∧ KtsDicts (outer.filterMap (·.frame)) h₀' := by
  have apart : h₀.get? L = none := kts_self FG
  obtain ⟨oL, es, ep, hL, r⟩ := FG.ns
  obtain ⟨sl, hsl⟩ := T.up hL
  have up : ∀ b o, h₀.get? b = some o → ∃ sl, H.get? b = some { o with slots := sl } := fun b o e => by
    obtain ⟨q, hq⟩ := T.up (FG.keep b o e)
    exact ⟨q, F.keep _ _ hq⟩
  obtain ⟨T₁, S₁⟩ := kts_turn_at (g := h₀) (h := H) (fs := outer.filterMap (·.frame)) (fun b hb => (B.frames.mem hb).2.imp fun _ x => x.1)
    (fun b o e nb => F.keep b o (T.other b o (FG.keep b o e) fun hm => (frames_in hf hm).elim (fun z => by rw [z, apart] at e; cases e) nb)) fun b o e _ => up b o e
  have B₁ : Below A₀ base outer (ktsHeap H (outer.filterMap (·.frame)) h₀) := by
    refine ⟨B.stack, fun b o e => T₁.other b o (B.stays b o e) fun hm => ?_, B.frames.of_keeps fun b o e _ => ?_⟩
    · rw [(B.frames.mem hm).1] at e; cases e
    · obtain ⟨q, hq⟩ := T₁.up e
      exact ⟨_, hq, rfl⟩
  refine ⟨_, T₁, ⟨⟨_, es, ep, F.keep _ _ hsl, r⟩, S₁, by rw [T₁.size]; exact FG.above⟩, fun x hx => ⟨(N x hx).1, fun e => ?_, T₁.none_ _ ?_⟩, B₁, XB.keeps B₁.stays, TB.keeps B₁.stays, D.turn T₁⟩
  · have h9 := (N x hx).2.2
    rw [e, hsl] at h9; cases h9
  · cases q : h₀.get? x.1 with
    | none => rfl
    | some o =>
      obtain ⟨sl', hs'⟩ := T.up (FG.keep _ _ q)
      have h9 := (N x hx).2.2
      rw [hs'] at h9; cases h9

/-- a plain def entered from any frame, where the callee may turn the frames -/
theorem enterT {R : Result → Shared → Prop} {name qual : Str} {params : Arguments} {body : List Stmt} {scope : Scope} {dV kV doc pm cdv ct oc : Value} {an od : Option Addr} {osl : Array (Option Value)} {f : Addr} {args : Args} {binds : List (Str × Value)}
    (B : Below A₀ base outer h₀) (F : Fr h₀ L s.heap m) (X₀ : K.In h₀) (N : News h₀ L s.heap news) (T : Top p loose mean mg mb h₀) (XB : K.In base) (TB : Top p loose mean mg mb base) (D : KtsDicts (outer.filterMap (·.frame)) h₀)
    (hA : A.frames = some (env :: outer)) (hf : env.frame = some L) (hke : env.scope.kind = .function)
    (ho : K.lookup f = some ⟨oc, od, .func (fnOf name qual params body scope dV kV doc pm an cdv ct), osl⟩) (hcd : codeIn K cdv qual = true) (hroom : A.depth < recursionLimit)
    (hbind : BindsTo s (fnOf name qual params body scope dV kV doc pm an cdv ct) args binds) (hloc : ∀ y ∈ binds, scope.names.lookup y.1 = some .local)
    (h : ∀ g L' h₁, Fr h₀ L g m → Fr g L' h₁ (fun y => binds.reverse.lookup y) → News g L' h₁ news → Below A base (env :: outer) g → K.In g → Top p loose mean mg mb g → KtsDicts ((env :: outer).filterMap (·.frame)) g →
      wpAny (model prog w) (A.deeper (envOf qual scope L' f cdv)) (execs body (envOf qual scope L' f cdv))
        (fun fl s' => LeaveS ((env :: outer).filterMap (·.frame)) A₀ base outer K p loose mean mg mb h₀ h₀ L m g R (match fl with | .ret v => v | _ => .none) s')
        (fun e s' => wpAny (model prog w) (A.deeper (envOf qual scope L' f cdv)) (leaving (envOf qual scope L' f cdv) e) (fun _ s'' => R (.error e) s'') (fun e' s'' => R (.error e') s'') s')
        { s with heap := h₁, toks := s.toks + binds.length })
    (hco : scope.isCoroutine = false) (hgen : scope.isGenerator = false) (hk : scope.kind = .function)
    (hcell : ∀ x ∈ scope.names, x.2 ≠ .cell) : codeAny (model prog w) A (.call (.ref f) args) R s := by
  have X := X₀.keeps F.keep
  obtain ⟨FG, BG, st, lv⟩ := groundX (R := R) B F N hA hf hke
  have DG : KtsDicts ((env :: outer).filterMap (·.frame)) (hideAll s.heap (news.map (·.1))) := fun b hb => by
    rcases frames_in hf hb with rfl | hb
    · obtain ⟨oL, es, ep, hL, hd, _⟩ := FG.ns
      exact ⟨oL, es, ep, hL, hd⟩
    · obtain ⟨o, es, n, ho', hd⟩ := D b hb
      exact ⟨o, es, n, st b o ho', hd⟩
  refine codeAny_call_def (fd := fnOf name qual params body scope dV kV doc pm an cdv ct) (body := body) (binds := binds) hroom (X _ _ ho) rfl (T.nolimit.keeps F.keep) (codeRec_of X hcd) rfl hbind hcell hloc (fun h₁ hns hk₁ => ?_) hco hgen hk
  refine wpAny_mono (h _ s.heap.objs.size h₁ FG ⟨hns, fun b o e => hk₁ b o (of_hideAll _ e), Nat.le_of_eq (hideAll_size _ _)⟩
    (fun p hp => ⟨hk₁ _ _ (N p hp).1, Nat.ne_of_lt (Heap.lt_size (N p hp).1), hideAll_none _ (List.mem_map_of_mem hp)⟩) BG (X₀.keeps st) (T.keeps st) DG) (fun fl s' hl => ?_) fun _ _ y => y
  rcases hl with hl | ⟨g', L', m', news', T', F', N', k⟩
  · exact lv _ _ hl
  · obtain ⟨h₀', T₁, F₁, N₁, B₁, X₁, P₁, D₁⟩ := turn_back B hf FG XB TB D T' F' N'
    exact k h₀' T₁ F₁ N₁ B₁ X₁ P₁ D₁
end

section
variable {prog : Program} {w : World} {A₀ : Around} {E : Value → Shared → Prop} {s' : Shared} {base g h : Heap} {outer : List Env} {L a e : Addr} {m : Str → Option Value} {name : Str} {scope : Scope} {cd : Value}
  {b₀ : Stmt} {suite : List Stmt} {pos np : Pos} {rest : List ExceptHandler} {Q : Flow → Shared → Prop} {news : List (Addr × Obj)} {KF : Frag}
  {p : Program} {loose : List Str} {mean : ExcName → Option Value} {mg mb : Str → Option Value} {x : Str} {X T' : String}
/-- an exception of this frame's own line, caught by this frame's own clause, at any depth -/
theorem caught_here0 (hx : Heap.NewExc h s'.heap e X) (F : Fr g L h m) (N : News g L h news) (K : Below A₀ base outer g) (XB : KF.In base) (TB : Top p loose mean mg mb base) (D : KtsDicts (outer.filterMap (·.frame)) g)
    (ex : nsIn KF mainGlobals x = some none) (hv : bootBuiltins x = some (.type T')) (hn' : x ≠ "__name__")
    (hexc : isSubtype (.type T') (.type "BaseException") = pure true) (hnt : isSubtype (.type ((Manifest.find? T').elim "type" fun y => y.metatype)) (.type "tuple") = pure false) (hsub : isSubtype (.type X) (.type T') = pure true)
    (k : ∀ h' g', KtsTurn (outer.filterMap (·.frame)) g g' → Fr g' L h' m → News g' L h' news → Below A₀ base outer g' → KF.In g' → Top p loose mean mg mb g' → KtsDicts (outer.filterMap (·.frame)) g' →
      wpAny (model prog w) ((A₀.deeper (envOf name scope L a cd)).mark (some (.ref e))) (execs (b₀ :: suite) (envOf name scope L a cd)) Q E { s' with heap := h' })
    (hk : scope.kind = .function := by rfl) (hxk : (envOf name scope L a cd).kindOf x = some .globalImplicit := by rfl) (hd : (x == ("__debug__" : Str)) = false := by decide)
    (hE : PassesOwnAt (model prog w) ((A₀.deeper (envOf name scope L a cd)).mark (some (.ref e))) (A₀.deeper (envOf name scope L a cd)) (envOf name scope L a cd) E := by passes_own) :
    wpAny (model prog w) (A₀.deeper (envOf name scope L a cd)) (noteFrame (.ref e) (envOf name scope L a cd))
      (fun _ s₂ => wpAny (model prog w) (A₀.deeper (envOf name scope L a cd)) (setFlight (.ref e) none) (fun _ s₃ =>
        wpAny (model prog w) (A₀.deeper (envOf name scope L a cd)) (handleBy (.ref e) (envOf name scope L a cd) (.ExceptHandler (some (.Name x np)) none (b₀ :: suite) pos :: rest)) Q E s₃) E s₂) E s' := by
  have K' := K.push (name := name) (a := a) (cd := cd) F hk
  have hfe : (envOf name scope L a cd).frame = some L := rfl
  have off : ∀ b o, h.get? b = some o → b ∉ (envOf name scope L a cd :: outer).filterMap (·.frame) → (hideAll h ((envOf name scope L a cd :: outer).filterMap (·.frame))).get? b = some o := fun b o e nb => hideAll_get _ e nb
  obtain ⟨ob, tp, he, hcls, hdt⟩ := hx.there
  have hen : (hideAll h ((envOf name scope L a cd :: outer).filterMap (·.frame))).get? e = none := by
    cases q : (hideAll h ((envOf name scope L a cd :: outer).filterMap (·.frame))).get? e with
    | none => rfl
    | some o => have := of_hideAll _ q; rw [hx.new] at this; cases this
  have hff : s'.heap.FunFrames (hideAll h ((envOf name scope L a cd :: outer).filterMap (·.frame))) (envOf name scope L a cd :: outer) :=
    (funFrames_hide K'.frames fun env he b hb => List.mem_filterMap.mpr ⟨env, he, hb⟩).of_keeps fun b o hb _ => ⟨o, hx.keeps b o hb, rfl⟩
  have led : ∀ q ∈ news, (hideAll h ((envOf name scope L a cd :: outer).filterMap (·.frame))).get? q.1 = some q.2 := fun q hq => by
    refine off _ _ (N q hq).1 fun hm => ?_
    rcases frames_in hfe hm with z | z
    · exact (N q hq).2.1 z
    · obtain ⟨_, o, ho, _⟩ := K.frames.mem z
      rw [(N q hq).2.2] at ho; cases ho
  have up₀ : h.UpToSlots s'.heap := Heap.UpToSlots.of_keeps hx.keeps
  unfold noteFrame
  simp only [hfe]
  refine wpAny_bind (wpAny_field he hdt (x := .none) rfl ?_)
  rw [if_neg (by decide)]
  refine wpAny_entryW (a0 := tp) (Around.frames_deeper K.stack) hff rfl he (fun b o eb => hx.keeps b o (of_hideAll _ eb)) hen hdt (by show 1 < 6; decide) rfl fun h₄ hN => ?_
  obtain ⟨n1, n2, n3, n4⟩ := hN
  rw [hcls] at n3
  have held₄ : Heap.HeldW (hideAll h ((envOf name scope L a cd :: outer).filterMap (·.frame))) (envOf name scope L a cd :: outer) e (.type X) tp L h₄ := ⟨n1, hen, n2, n3⟩
  refine wpAny_landsW held₄ fun h₅ held₅ up₅ => ?_
  have up₅' : h.UpToSlots h₅ := (up₀.trans n4).trans up₅
  obtain ⟨g₅, T₅, F₅, K₅⟩ := kts_ground K F off held₅.1 up₅'
  obtain ⟨ob₅, hob₅, hobc₅⟩ := held₅.there
  refine wpAny_handleBy_builtin (X := X) (T := T') (b := true) hexc hnt hsub (name_B F₅ (XB.keeps K₅.stays) (topRead_of (TB.keeps K₅.stays)) ex hv hn' ⟨rfl, ⟨ob₅, hob₅, hobc₅⟩, ?_⟩ hk hxk hd)
  refine lands_againW held₅ fun h₆ fl₆ up₆ => ?_
  obtain ⟨g₆, T₆, F₆, K₆⟩ := kts_ground K F off fl₆.1 (up₅'.trans up₆)
  refine wpAny_passesOwnAt hE (k h₆ g₆ T₆ F₆ (fun q hq => ⟨fl₆.1 _ _ (led q hq), (N q hq).2.1, T₆.none_ _ (N q hq).2.2⟩) K₆ (XB.keeps K₆.stays) (TB.keeps K₆.stays) (D.turn T₆))
end

/-- as Ctr, for a def that may turn the frames: a calm end, or one over turned frames -/
def CtrT (prog : Program) (w : World) (K : Frag) (p : Program) (f : Addr) (dd uu : Nat) (vs : List Value) (news : List (Addr × Obj)) (R RT : List (Addr × Obj) → Value → Prop) : Prop :=
  ∀ (loose : List Str) (mean : ExcName → Option Value) (mg mb : Str → Option Value) (dp un : Nat) (gd : Option (List Code)) (cn : Str) (cs : Scope) (a : Addr) (ccd : Value) (cl : List (Str × Addr)) (outer : List Env) (A₀ : Around) (base h₀ : Heap) (L : Addr) (m : Str → Option Value) (s : Shared) (Q E : Value → Shared → Prop),
    Below A₀ base outer h₀ → Fr h₀ L s.heap m → K.In h₀ → News h₀ L s.heap news → Top p loose mean mg mb h₀ → cs.kind = .function → dp + dd < recursionLimit → un + 8 * uu < cLine →
    K.In base → Top p loose mean mg mb base → KtsDicts (outer.filterMap (·.frame)) h₀ →
    (∀ r tl h' tk', Fr h₀ L h' m → News h₀ L h' (tl ++ news) → (∀ q ∈ news, ∀ p ∈ tl, q.1 < p.1) → R tl r → Q r { s with heap := h', toks := tk' }) →
    (∀ r tl h' tk' h₀', KtsTurn (outer.filterMap (·.frame)) h₀ h₀' → Fr h₀' L h' m → News h₀' L h' (tl ++ news) → (∀ q ∈ news, ∀ p ∈ tl, q.1 < p.1) → Below A₀ base outer h₀' → K.In h₀' → Top p loose mean mg mb h₀' → KtsDicts (outer.filterMap (·.frame)) h₀' → RT tl r → Q r { s with heap := h', toks := tk' }) →
      wpAny (model prog w) (ktrTop dp un gd cn cs L a ccd cl outer) (call (.ref f) vs) Q E s

theorem CtrT.use {prog : Program} {w : World} {K : Frag} {p : Program} {f : Addr} {dd uu : Nat} {vs : List Value} {news : List (Addr × Obj)} {R RT : List (Addr × Obj) → Value → Prop}
    {loose : List Str} {mean : ExcName → Option Value} {mg mb : Str → Option Value} {dp un : Nat} {gd : Option (List Code)} {cn : Str} {cs : Scope} {a : Addr} {ccd : Value} {cl : List (Str × Addr)} {outer : List Env} {A₀ : Around} {base h₀ : Heap} {L : Addr} {m : Str → Option Value} {s : Shared} {Q E : Value → Shared → Prop}
    (C : CtrT prog w K p f dd uu vs news R RT) (B : Below A₀ base outer h₀) (F : Fr h₀ L s.heap m) (X : K.In h₀) (N : News h₀ L s.heap news) (T : Top p loose mean mg mb h₀) (hk : cs.kind = .function) (hd : dp + dd < recursionLimit) (hu : un + 8 * uu < cLine)
    (XB : K.In base) (TB : Top p loose mean mg mb base) (D : KtsDicts (outer.filterMap (·.frame)) h₀)
    (calm : ∀ r tl h' tk', Fr h₀ L h' m → News h₀ L h' (tl ++ news) → (∀ q ∈ news, ∀ p ∈ tl, q.1 < p.1) → R tl r → Q r { s with heap := h', toks := tk' })
    (turned : ∀ r tl h' tk' h₀', KtsTurn (outer.filterMap (·.frame)) h₀ h₀' → Fr h₀' L h' m → News h₀' L h' (tl ++ news) → (∀ q ∈ news, ∀ p ∈ tl, q.1 < p.1) → Below A₀ base outer h₀' → K.In h₀' → Top p loose mean mg mb h₀' → KtsDicts (outer.filterMap (·.frame)) h₀' → RT tl r → Q r { s with heap := h', toks := tk' }) :
    wpAny (model prog w) (ktrTop dp un gd cn cs L a ccd cl outer) (call (.ref f) vs) Q E s := C _ _ _ _ _ _ _ _ _ _ _ _ _ _ _ _ _ _ _ _ _ B F X N T hk hd hu XB TB D calm turned

theorem turn_nil {h₀ h₀' : Heap} (T : KtsTurn [] h₀ h₀') {L : Addr} {h : Heap} {m : Str → Option Value} {news : List (Addr × Obj)} (F : Fr h₀' L h m) (N : News h₀' L h news) : Fr h₀ L h m ∧ News h₀ L h news := by
  have kp : ∀ b o, h₀.get? b = some o → h₀'.get? b = some o := fun b o e => T.other b o e (fun h => nomatch h)
  refine ⟨⟨F.ns, fun b o e => F.keep b o (kp b o e), by rw [← T.size]; exact F.above⟩, fun q hq => ⟨(N q hq).1, (N q hq).2.1, ?_⟩⟩
  cases e : h₀.get? q.1 with
  | none => rfl
  | some o => have h9 := (N q hq).2.2; rw [kp _ _ e] at h9; cases h9

/-- the same from the law's own frame, where there is no frame below to turn -/
theorem CtrT.use0 {prog : Program} {w : World} {K : Frag} {p : Program} {f : Addr} {dd uu : Nat} {vs : List Value} {news : List (Addr × Obj)} {R RT : List (Addr × Obj) → Value → Prop}
    {loose : List Str} {mean : ExcName → Option Value} {mg mb : Str → Option Value} {dp un : Nat} {gd : Option (List Code)} {cn : Str} {cs : Scope} {a : Addr} {ccd : Value} {cl : List (Str × Addr)} {A₀ : Around} {base h₀ : Heap} {L : Addr} {m : Str → Option Value} {s : Shared} {Q E : Value → Shared → Prop}
    (C : CtrT prog w K p f dd uu vs news R RT) (B : Below A₀ base [] h₀) (F : Fr h₀ L s.heap m) (X : K.In h₀) (N : News h₀ L s.heap news) (T : Top p loose mean mg mb h₀) (hk : cs.kind = .function) (hd : dp + dd < recursionLimit) (hu : un + 8 * uu < cLine)
    (XB : K.In base) (TB : Top p loose mean mg mb base)
    (ret : ∀ r tl h' tk', Fr h₀ L h' m → News h₀ L h' (tl ++ news) → (∀ q ∈ news, ∀ p ∈ tl, q.1 < p.1) → (R tl r ∨ RT tl r) → Q r { s with heap := h', toks := tk' }) :
    wpAny (model prog w) (ktrTop dp un gd cn cs L a ccd cl []) (call (.ref f) vs) Q E s :=
  C.use B F X N T hk hd hu XB TB ktsDicts_nil (fun r tl h' tk' F' N' l hr => ret r tl h' tk' F' N' l (.inl hr)) fun r tl h' tk' h₀' T' F' N' l _ _ _ _ hr =>
    let x := turn_nil T' F' N'
    ret r tl h' tk' x.1 x.2 l (.inr hr)

/-- the same, its premises found by themselves -/
theorem CtrT.ask0 {prog : Program} {w : World} {K : Frag} {p : Program} {f : Addr} {dd uu : Nat} {vs : List Value} {news : List (Addr × Obj)} {R RT : List (Addr × Obj) → Value → Prop}
    {loose : List Str} {mean : ExcName → Option Value} {mg mb : Str → Option Value} {dp un : Nat} {gd : Option (List Code)} {cn : Str} {cs : Scope} {a : Addr} {ccd : Value} {cl : List (Str × Addr)} {A₀ : Around} {base h₀ : Heap} {L : Addr} {m : Str → Option Value} {s : Shared} {Q E : Value → Shared → Prop}
    (C : CtrT prog w K p f dd uu vs news R RT) (B : Below A₀ base [] h₀ := by k_asm) (F : Fr h₀ L s.heap m := by k_asm) (X : K.In h₀ := by k_asm) (N : News h₀ L s.heap news := by k_asm) (T : Top p loose mean mg mb h₀ := by k_asm) (hk : cs.kind = .function := by first | exact rfl | assumption) (hd : dp + dd < recursionLimit := by ktr_room) (hu : un + 8 * uu < cLine := by ktr_units)
    (XB : K.In base := by assumption) (TB : Top p loose mean mg mb base := by assumption)
    (ret : ∀ r tl h' tk', Fr h₀ L h' m → News h₀ L h' (tl ++ news) → (∀ q ∈ news, ∀ p ∈ tl, q.1 < p.1) → (R tl r ∨ RT tl r) → Q r { s with heap := h', toks := tk' }) :
    wpAny (model prog w) (ktrTop dp un gd cn cs L a ccd cl []) (call (.ref f) vs) Q E s :=
  C.use B F X N T hk hd hu XB TB ktsDicts_nil (fun r tl h' tk' F' N' l hr => ret r tl h' tk' F' N' l (.inl hr)) fun r tl h' tk' h₀' T' F' N' l _ _ _ _ hr =>
    let x := turn_nil T' F' N'
    ret r tl h' tk' x.1 x.2 l (.inr hr)
end
end Mine

namespace Mine
section
/-- how many octets one numeral takes, and its number (none: no numeral stands there) -/
def decF (b : Int) : List Int → List Int → Nat × Option Int
  | [], _ => (1, none)
  | o :: r, figs => match dig o with
    | none => (1, none)
    | some d => if d < tF figs.length b then (1, some (numF b 0 (figs ++ [d]))) else ((decF b r (figs ++ [d])).1 + 1, (decF b r (figs ++ [d])).2)
def wF (b : Int) : Nat → List Int → Int
  | _, [] => 1
  | j, _ :: r => (36 - tF j b) * wF b (j + 1) r
theorem numF_snoc (b d : Int) : ∀ (figs : List Int) (j : Nat), numF b j (figs ++ [d]) = numF b j figs + d * wF b j figs
  | [], j => by simp [numF, wF]
  | f :: r, j => by
    show f + (36 - tF j b) * numF b (j + 1) (r ++ [d]) = f + (36 - tF j b) * numF b (j + 1) r + d * ((36 - tF j b) * wF b (j + 1) r)
    rw [numF_snoc b d r (j + 1), Int.mul_add, Int.mul_left_comm d]
    omega
theorem wF_snoc (b d : Int) : ∀ (figs : List Int) (j : Nat), wF b j (figs ++ [d]) = wF b j figs * (36 - tF (j + figs.length : Nat) b)
  | [], j => by simp [wF]
  | f :: r, j => by
    show (36 - tF j b) * wF b (j + 1) (r ++ [d]) = (36 - tF j b) * wF b (j + 1) r * (36 - tF (j + (r.length + 1) : Nat) b)
    rw [wF_snoc b d r (j + 1), Int.mul_assoc]
    have e : j + 1 + r.length = j + (r.length + 1) := by omega
    rw [e]
/-- where the reading of one numeral stands: j figures behind, at octet ep -/
structure DP (b : Int) (oc : List Int) (p : Nat) (re ww : Int) (j ep : Nat) : Prop where
  at_ : ep = p + j
  inn : ep ≤ oc.length
  rest : ∃ figs : List Int, figs.length = j ∧ re = numF b 0 figs ∧ ww = wF b 0 figs ∧ (decF b (oc.drop p) []).1 = (decF b (oc.drop ep) figs).1 + j ∧ (decF b (oc.drop p) []).2 = (decF b (oc.drop ep) figs).2
theorem DP.start {b : Int} {oc : List Int} {p : Nat} (hp : p ≤ oc.length) : DP b oc p 0 1 0 p := ⟨rfl, hp, [], rfl, rfl, rfl, rfl, rfl⟩
theorem decF_cons {b o : Int} {r figs : List Int} {d : Int} (hd : dig o = some d) :
    decF b (o :: r) figs = if d < tF figs.length b then (1, some (numF b 0 (figs ++ [d]))) else ((decF b r (figs ++ [d])).1 + 1, (decF b r (figs ++ [d])).2) := by
  show (match dig o with | none => _ | some d => _) = _
  rw [hd]
theorem DP.go {b : Int} {oc : List Int} {p : Nat} {re ww : Int} {j ep : Nat} (h : DP b oc p re ww j ep) {o d : Int} (ho : oc[ep]? = some o) (hd : dig o = some d) (hn : ¬ d < tF j b) :
    DP b oc p (re + d * ww) (ww * (36 - tF j b)) (j + 1) (ep + 1) := by
  obtain ⟨h1, h2, figs, f1, f2, f3, f4, f5⟩ := h
  have hlt := (List.getElem?_eq_some_iff.mp ho).1
  have q := decF_cons (b := b) (r := oc.drop (ep + 1)) (figs := figs) hd
  rw [← drop_of ho, f1, if_neg hn] at q
  rw [q] at f4 f5
  refine ⟨by omega, by omega, figs ++ [d], by simp [f1], by rw [numF_snoc, f2, f3], ?_, ?_, f5⟩
  · rw [wF_snoc, f3, Nat.zero_add, f1]
  · rw [f4]; dsimp only; omega
theorem DP.done {b : Int} {oc : List Int} {p : Nat} {re ww : Int} {j ep : Nat} (h : DP b oc p re ww j ep) {o d : Int} (ho : oc[ep]? = some o) (hd : dig o = some d) (hn : d < tF j b) :
    p + (decF b (oc.drop p) []).1 = ep + 1 ∧ (decF b (oc.drop p) []).2 = some (re + d * ww) := by
  obtain ⟨h1, h2, figs, f1, f2, f3, f4, f5⟩ := h
  have q := decF_cons (b := b) (r := oc.drop (ep + 1)) (figs := figs) hd
  rw [← drop_of ho, f1, if_pos hn] at q
  rw [q] at f4 f5
  refine ⟨by rw [f4]; dsimp only; omega, by rw [f5, numF_snoc, f2, f3]⟩
theorem DP.bad {b : Int} {oc : List Int} {p : Nat} {re ww : Int} {j ep : Nat} (h : DP b oc p re ww j ep) {o : Int} (ho : oc[ep]? = some o) (hd : dig o = none) :
    p + (decF b (oc.drop p) []).1 = ep + 1 ∧ (decF b (oc.drop p) []).2 = none := by
  obtain ⟨h1, h2, figs, f1, f2, f3, f4, f5⟩ := h
  have q : decF b (oc.drop ep) figs = (1, none) := by
    rw [drop_of ho]
    show (match dig o with | none => _ | some d => _) = _
    rw [hd]
  rw [q] at f4 f5
  exact ⟨by rw [f4]; dsimp only; omega, f5⟩
theorem DP.out {b : Int} {oc : List Int} {p : Nat} {re ww : Int} {j ep : Nat} (h : DP b oc p re ww j ep) (he : oc.length ≤ ep) :
    p + (decF b (oc.drop p) []).1 = ep + 1 ∧ (decF b (oc.drop p) []).2 = none := by
  obtain ⟨h1, h2, figs, f1, f2, f3, f4, f5⟩ := h
  have q : decF b (oc.drop ep) figs = (1, none) := by
    rw [List.drop_eq_nil_of_le he]; rfl
  rw [q] at f4 f5
  exact ⟨by rw [f4]; dsimp only; omega, f5⟩

/-- what the next numeral does to a reading -/
theorem readL_none (b : Int) : ∀ (l : List Int) (size hour : Int) (figs : List Int) (sp : List (Int × Int)), (decF b l figs).2 = none → readL l size b hour figs sp = sp
  | [], _, _, _, _, _ => rfl
  | o :: r, size, hour, figs, sp, h => by
    unfold readL
    cases hd : dig o with
    | none => rfl
    | some d =>
      rw [decF_cons hd] at h
      dsimp only
      by_cases hn : d < tF figs.length b
      · rw [if_pos hn] at h; cases h
      · rw [if_neg hn] at h ⊢
        exact readL_none b r size hour (figs ++ [d]) sp h
theorem readL_some (b nu : Int) : ∀ (l : List Int) (size hour : Int) (figs : List Int) (sp : List (Int × Int)), (decF b l figs).2 = some nu →
    readL l size b hour figs sp = readL (l.drop (decF b l figs).1) (size + 1) (biasF nu (sp.length == 0) (size + 1))
      ((signOf ((hour + (nu + 1)).fdiv (size + 1) + 128) - 128) * (size + 1 + 1) + (hour + (nu + 1)).fmod (size + 1)) [] (sp ++ [(signOf ((hour + (nu + 1)).fdiv (size + 1) + 128), (hour + (nu + 1)).fmod (size + 1))])
  | [], _, _, _, _, h => by cases h
  | o :: r, size, hour, figs, sp, h => by
    cases hd : dig o with
    | none =>
      have q : decF b (o :: r) figs = (1, none) := by
        show (match dig o with | none => _ | some d => _) = _
        rw [hd]
      rw [q] at h; cases h
    | some d =>
      have q := decF_cons (b := b) (r := r) (figs := figs) hd
      by_cases hn : d < tF figs.length b
      · rw [if_pos hn] at q
        rw [q] at h ⊢
        obtain rfl : numF b 0 (figs ++ [d]) = nu := Option.some.inj h
        conv => lhs; unfold readL
        rw [hd]
        dsimp only
        rw [if_pos hn]
        rfl
      · rw [if_neg hn] at q
        rw [q] at h ⊢
        conv => lhs; unfold readL
        rw [hd]
        dsimp only
        rw [if_neg hn, readL_some b nu r size hour (figs ++ [d]) sp h]
        rw [List.drop_succ_cons]
theorem decF_range (b : Int) : ∀ (l figs : List Int) (nu : Int), (∀ f ∈ figs, 0 ≤ f ∧ f < 36) → (decF b l figs).2 = some nu → 0 ≤ nu ∧ (decF b l figs).1 ≤ l.length ∧ nu < 36 ^ (figs.length + l.length)
  | [], _, _, _, h => by cases h
  | o :: r, figs, nu, hf, h => by
    cases hd : dig o with
    | none =>
      have q : decF b (o :: r) figs = (1, none) := by
        show (match dig o with | none => _ | some d => _) = _
        rw [hd]
      rw [q] at h; cases h
    | some d =>
      have hf' := fig_app hf (dig_range hd).1 (dig_range hd).2
      have q := decF_cons (b := b) (r := r) (figs := figs) hd
      by_cases hn : d < tF figs.length b
      · rw [if_pos hn] at q
        rw [q] at h ⊢
        obtain rfl : numF b 0 (figs ++ [d]) = nu := Option.some.inj h
        obtain ⟨x1, x2⟩ := numF_bound b (figs ++ [d]) 0 hf'
        refine ⟨x1, by dsimp only; simp, Int.lt_of_lt_of_le x2 ?_⟩
        have e : (36 : Nat) ^ (figs ++ [d]).length ≤ 36 ^ (figs.length + (o :: r).length) := Nat.pow_le_pow_right (by decide) (by simp)
        have e' := Int.ofNat_le.mpr e
        simpa using e'
      · rw [if_neg hn] at q
        rw [q] at h ⊢
        obtain ⟨x1, x2, x3⟩ := decF_range b r (figs ++ [d]) nu hf' h
        refine ⟨x1, by dsimp only; simp; omega, ?_⟩
        have e : (figs ++ [d]).length + r.length = figs.length + (o :: r).length := by simp; omega
        rw [← e]; exact x3
def pairOf (v u : Value) : Obj := { cls := .type "tuple", data := .seq #[v, u] }
def DecN (b : Int) (oc : List Int) (p : Nat) (tl : List (Addr × Obj)) (r : Value) : Prop :=
  ∃ (D : Addr) (x : Int) (t : Tok), r = .ref D ∧ tl = [(D, pairOf (.int x t) .none)] ∧ (decF b (oc.drop p) []).2 = none
def DecS (b : Int) (oc : List Int) (p : Nat) (tl : List (Addr × Obj)) (r : Value) : Prop :=
  ∃ (D : Addr) (x : Int) (t : Tok) (nu : Int) (t2 : Tok), r = .ref D ∧ tl = [(D, pairOf (.int x t) (.int nu t2))] ∧ (decF b (oc.drop p) []).2 = some nu ∧ x = ((p + (decF b (oc.drop p) []).1 : Nat) : Int)
theorem DecS.mk' {b : Int} {oc : List Int} {p ep j : Nat} {re ww o d : Int} {D : Addr} {t t2 : Tok} (h : DP b oc p re ww j ep) (ho : oc[ep]? = some o) (hd : dig o = some d) (hn : d < tF j b) :
    DecS b oc p [(D, pairOf (.int ((ep : Int) + 1) t) (.int (re + d * ww) t2))] (.ref D) := by
  obtain ⟨h1, h2⟩ := h.done ho hd hn
  exact ⟨D, _, t, _, t2, rfl, rfl, h2, by rw [h1]; omega⟩
theorem DecN.bad {b : Int} {oc : List Int} {p ep j : Nat} {re ww o x : Int} {D : Addr} {t : Tok} (h : DP b oc p re ww j ep) (ho : oc[ep]? = some o) (hd : dig o = none) :
    DecN b oc p [(D, pairOf (.int x t) .none)] (.ref D) := ⟨D, _, t, rfl, rfl, (h.bad ho hd).2⟩
theorem DecN.out {b : Int} {oc : List Int} {p ep j : Nat} {re ww x : Int} {D : Addr} {t : Tok} (h : DP b oc p re ww j ep) (he : oc.length ≤ ep) :
    DecN b oc p [(D, pairOf (.int x t) .none)] (.ref D) := ⟨D, _, t, rfl, rfl, (h.out he).2⟩
theorem fresh1 {news : List (Addr × Obj)} {D : Addr} {o : Obj} (h : ∀ p ∈ news, p.1 < D) : ∀ q ∈ news, ∀ p ∈ [(D, o)], q.1 < p.1 := fun q hq p hp => by
  rw [List.mem_singleton.mp hp]; exact h q hq
theorem decF_pos (b : Int) : ∀ (l figs : List Int), 1 ≤ (decF b l figs).1
  | [], _ => Nat.le_refl _
  | o :: r, figs => by
    cases hd : dig o with
    | none =>
      have q : decF b (o :: r) figs = (1, none) := by
        show (match dig o with | none => _ | some d => _) = _
        rw [hd]
      rw [q]; exact Nat.le_refl _
    | some d =>
      rw [decF_cons hd]
      split
      · exact Nat.le_refl _
      · dsimp only; omega
theorem fdiv_up {a n : Int} (h : 0 ≤ a) (hn : 0 ≤ n) : 0 ≤ a.fdiv n := by
  rw [Int.fdiv_eq_ediv_of_nonneg _ hn]; exact Int.ediv_nonneg h hn
theorem fmod_in {a n : Int} (hn : 0 < n) : 0 ≤ a.fmod n ∧ a.fmod n < n := by
  rw [Int.fmod_eq_emod_of_nonneg _ (Int.le_of_lt hn)]; exact ⟨Int.emod_nonneg _ (Int.ne_of_gt hn), Int.emod_lt_of_pos _ hn⟩
end
end Mine

namespace Mine
section
theorem decode_c (w : World) (news : List (Addr × Obj)) (bs : Array UInt8) (oc : List Int) (hi : KBw.bInts bs = oc) (p : Nat) (b : Int) (er : Str) (t1 t2 t3 t4 : Tok) (her : (er == Str.ofString "strict") = false) (hlen : oc.length ≤ 40) (hp : p ≤ oc.length) :
    CtrT PySem.Challenge.rw_rl0154_01.row.prog w (Mine.hd.heap_39 w.params) Mine.hd.view_39 35 2 2 [.bytes bs t1, .int p t2, .int b t3, .str er t4] news (fun tl r => DecS b oc p tl r ∨ DecN b oc p tl r) (fun tl r => DecN b oc p tl r) := by
  k_with_none
  k_with "exec While Constant int cons nil" => (refine Stop.intro ?_)
  k_with "exec While Constant cons nil" => (refine Stop.intro ?_)
  k_with "exec While" => (refine Stop.intro ?_)
  k_with "WPost" => (dsimp only [WPost])
  k_with "call ref cons nil" => (k_here; k_dflt (refine Ctr.ask (T_c _ _ _ _ _ _) (ret := ?_)); intro r9 tl9 h9 tk9 F9 N9 hl9 hR9; obtain ⟨ht9, t9, he9, hx9, hy9⟩ := hR9; subst ht9; subst he9; clear hl9; (simp only [List.nil_append] at N9); (try k_sweep); (try dsimp only); (try k_fold))
  k_with "subscriptTail" => (k_here; (with_reducible show wpAny _ _ (subscriptTail _ _ (Value.bytes _ _) (Value.int _ _)) _ _ _); (with_unfolding_all refine' r_bitem_out ?k0 ?k1 ?k2 ?k3 ?_; (case k0 => rfl); (case k1 => omega); (case k2 => omega); (case k3 => omega); k_whole); intro h' tk' e' x')
  k_with "subscriptTail" => (k_here; (with_reducible show wpAny _ _ (subscriptTail _ _ (Value.bytes _ _) (Value.int _ _)) _ _ _); k_dflt (refine' r_bitem ?k1 ?k2 ?k3 ?k4 ?_; (case k1 => with_reducible assumption); (case k2 => omega); (case k3 => omega); (case k4 => with_reducible assumption); k_whole))
  k_with "compareOp Eq str str" => (k_here; k_dflt (refine PyProof.Rows.eq_str ?_); (rename ((_ == Str.ofString "strict") = false) => hx9); (with_unfolding_all rw [hx9]))
  k_with "noteFrame ref" => (k_here; (rename KtsDicts _ _ => kdX); k_dflt (refine' caught_here0 (T' := "IndexError") ?R ?F ?N ?K ?XB ?TB ?D ?ex PyProof.Rows.Boot.«IndexError» ?hn PySem.F.isExc_IndexError PySem.F.notTuple_IndexError ?hs ?_; (case R => assumption); (case F => assumption); (case N => assumption); (case K => assumption); (case XB => assumption); (case TB => assumption); (case D => assumption); (case ex => k_is); (case hn => decide); (case hs => kts_sub); k_whole); intro h9 g9 T9 F9 N9 K9 X9 P9 D9)
  k_fill
  w_top off
  unfold CtrT
  intro loose mean mg mb dp un gd cn cs a ccd cl outer A₀ base h₀ L m s Q E cB cF cX cN cT cK cD cU bX bT bD calm turned
  have hbs : bs.size = oc.length := by rw [← hi]; exact (KBw.ints_length bs).symm
  refine wpAny_call ?_
  k_dflt (refine' enterT ?k1 ?k2 ?k3 ?k4 ?k5 ?XB ?TB ?D ?kA ?kF ?kK ?k6 ?k7 ?k8 ?k9 ?kB ?_ ?c2 ?c3 ?c4 ?c5; (case kA => exact rfl); (case kF => exact rfl); (case kK => assumption); (case k1 => k_asm); (case k2 => k_asm); (case k3 => k_asm); (case k4 => k_asm); (case k5 => k_asm); (case XB => assumption); (case TB => assumption); (case D => assumption); (case k6 => k_is); (case k7 => k_is); (case k8 => ktr_room); (case k9 => exact BindsTo.of_eq rfl); (case c5 => decide); (case kB => exact locs rfl); (case c2 => exact rfl); (case c3 => exact rfl); (case c4 => exact rfl); k_whole; intro g' L' h' FG' F' N' B' X' T' D'; (try dsimp only); (try k_lift B'); (try k_fold))
  k_steps
  unfold Stop
  refine' whileR (σ := Int × Tok × Int × Tok × Nat × Tok × Nat × Tok) (fun _ => news) (fun c => [(Str.ofString "result", .int c.1 c.2.1), (Str.ofString "w", .int c.2.2.1 c.2.2.2.1), (Str.ofString "j", .int c.2.2.2.2.1 c.2.2.2.2.2.1), (Str.ofString "extpos", .int c.2.2.2.2.2.2.1 c.2.2.2.2.2.2.2), (Str.ofString "extended", .bytes bs t1), (Str.ofString "bias", .int b t3), (Str.ofString "errors", .str er t4)]) (fun c => DP b oc p c.1 c.2.2.1 c.2.2.2.2.1 c.2.2.2.2.2.2.1) (fun c => oc.length - c.2.2.2.2.2.2.1) (by assumption) (by assumption) ?_ ?_
  · refine' ⟨(_, _, _, _, 0, _, p, _), by kst_in, by kst_all, ?_⟩
    exact DP.start hp
  · rintro ⟨re, tr, ww, tw, j, tj, ep, te⟩ u h tk hP F N
    dsimp only [kstB] at F hP
    have hP0 := hP
    obtain ⟨hat, hinn, _⟩ := hP
    rcases Nat.lt_or_ge ep oc.length with hlt | hge
    · have ho : oc[((ep : Nat) : Int).toNat]? = some oc[ep] := by rw [Int.toNat_natCast]; simp [hlt]
      generalize oc[ep] = o at *
      have ho' : oc[ep]? = some o := by rw [Int.toNat_natCast] at ho; exact ho
      k_steps
      · exact calm _ [_] _ _ (by assumption) (by assumption) (fresh1 (by assumption)) (.inl (DecS.mk' hP0 ho' (dig_great (by assumption) (by assumption)) (by assumption)))
      · refine' WEnd.intro (_, _, _, _, j + 1, _, ep + 1, _) (by assumption) (by assumption) (fun _ hq => hq) (by kst_all) (hP0.go ho' (dig_great (by assumption) (by assumption)) (by assumption)) ?_
        dsimp only; omega
      · exact calm _ [_] _ _ (by assumption) (by assumption) (fresh1 (by assumption)) (.inr (DecN.bad hP0 ho' (dig_none (by omega) (by omega))))
      · refine' WEnd.intro (_, _, _, _, j + 1, _, ep + 1, _) (by assumption) (by assumption) (fun _ hq => hq) (by kst_all) (hP0.go ho' (dig_figure (by assumption) (by assumption)) (fun hc => by have := tF_range j b; omega)) ?_
        dsimp only; omega
      · exact calm _ [_] _ _ (by assumption) (by assumption) (fresh1 (by assumption)) (.inr (DecN.bad hP0 ho' (dig_none (by omega) (by omega))))
      · exact calm _ [_] _ _ (by assumption) (by assumption) (fresh1 (by assumption)) (.inr (DecN.bad hP0 ho' (dig_none (by omega) (by omega))))
    · k_steps
      exact turned _ [_] _ _ _ (by assumption) (by assumption) (by assumption) (fresh1 (by assumption)) (by assumption) (by assumption) (by assumption) (by assumption) (DecN.out hP0 hge)
section
variable {w : World} {news : List (Addr × Obj)} {bs : Array UInt8} {oc : List Int} {p : Nat} {b : Int} {er : Str} {t1 t2 t3 t4 : Tok} {loose : List Str} {mean : ExcName → Option Value} {mg mb : Str → Option Value} {dp un : Nat} {gd : Option (List Code)} {cn : Str} {cs : Scope} {a : Addr} {ccd : Value} {cl : List (Str × Addr)} {outer : List Env} {A₀ : Around} {base h₀ : Heap} {L : Addr} {m : Str → Option Value} {s : Shared} {Q E : Value → Shared → Prop}
theorem decode_some {nu : Int} (hi : KBw.bInts bs = oc) (her : (er == Str.ofString "strict") = false) (hlen : oc.length ≤ 40) (hp : p ≤ oc.length) (B : Below A₀ base outer h₀) (F : Fr h₀ L s.heap m) (X : (Mine.hd.heap_39 w.params).In h₀) (N : News h₀ L s.heap news) (T : Top Mine.hd.view_39 loose mean mg mb h₀) (hk : cs.kind = .function) (hd : dp + 2 < recursionLimit) (hu : un + 8 * 2 < cLine)
    (XB : (Mine.hd.heap_39 w.params).In base) (TB : Top Mine.hd.view_39 loose mean mg mb base) (D : KtsDicts (outer.filterMap (·.frame)) h₀) (hdec : (decF b (oc.drop p) []).2 = some nu)
    (k : ∀ D x t t' h' tk', Fr h₀ L h' m → News h₀ L h' ((D, { cls := .type "tuple", data := .seq #[.int x t, .int nu t'] }) :: news) → x = ((p + (decF b (oc.drop p) []).1 : Nat) : Int) → Q (.ref D) { s with heap := h', toks := tk' }) :
    wpAny (model PySem.Challenge.rw_rl0154_01.row.prog w) (ktrTop dp un gd cn cs L a ccd cl outer) (call (.ref 35) [.bytes bs t1, .int p t2, .int b t3, .str er t4]) Q E s := by
  refine CtrT.use (decode_c w news bs oc hi p b er t1 t2 t3 t4 her hlen hp) B F X N T hk hd hu XB TB D (fun r tl h' tk' F' N' _ hr => ?_) fun r tl h' tk' h₀' _ _ _ _ _ _ _ _ hr => ?_
  · rcases hr with ⟨D, x, t, nu', t', rfl, rfl, e, hx⟩ | ⟨D, x, t, rfl, rfl, e⟩
    · have e9 := e.symm.trans hdec
      cases e9
      exact k D x t t' h' tk' F' N' hx
    · have e9 := e.symm.trans hdec
      cases e9
  · obtain ⟨D, x, t, rfl, rfl, e⟩ := hr
    have e9 := e.symm.trans hdec
    cases e9
theorem decode_none (hi : KBw.bInts bs = oc) (her : (er == Str.ofString "strict") = false) (hlen : oc.length ≤ 40) (hp : p ≤ oc.length) (B : Below A₀ base outer h₀) (F : Fr h₀ L s.heap m) (X : (Mine.hd.heap_39 w.params).In h₀) (N : News h₀ L s.heap news) (T : Top Mine.hd.view_39 loose mean mg mb h₀) (hk : cs.kind = .function) (hd : dp + 2 < recursionLimit) (hu : un + 8 * 2 < cLine)
    (XB : (Mine.hd.heap_39 w.params).In base) (TB : Top Mine.hd.view_39 loose mean mg mb base) (D : KtsDicts (outer.filterMap (·.frame)) h₀) (hdec : (decF b (oc.drop p) []).2 = none)
    (k : ∀ D x t h' tk' h₀', KtsTurn (outer.filterMap (·.frame)) h₀ h₀' → Fr h₀' L h' m → News h₀' L h' ((D, { cls := .type "tuple", data := .seq #[.int x t, .none] }) :: news) → Below A₀ base outer h₀' → (Mine.hd.heap_39 w.params).In h₀' → Top Mine.hd.view_39 loose mean mg mb h₀' → KtsDicts (outer.filterMap (·.frame)) h₀' → Q (.ref D) { s with heap := h', toks := tk' }) :
    wpAny (model PySem.Challenge.rw_rl0154_01.row.prog w) (ktrTop dp un gd cn cs L a ccd cl outer) (call (.ref 35) [.bytes bs t1, .int p t2, .int b t3, .str er t4]) Q E s := by
  refine CtrT.use (decode_c w news bs oc hi p b er t1 t2 t3 t4 her hlen hp) B F X N T hk hd hu XB TB D (fun r tl h' tk' F' N' _ hr => ?_) fun r tl h' tk' h₀' T' F' N' _ B' X' P' D' hr => ?_
  · rcases hr with ⟨D, x, t, nu', t', rfl, rfl, e, hx⟩ | ⟨D₁, x, t, rfl, rfl, e⟩
    · have e9 := e.symm.trans hdec
      cases e9
    · exact k D₁ x t h' tk' h₀ KtsTurn.refl F' N' B X T D
  · obtain ⟨D, x, t, rfl, rfl, e⟩ := hr
    exact k D x t h' tk' h₀' T' F' N' B' X' P' D'
end
end
end Mine

namespace Mine
section
theorem slice_to_list {x : Str} {j : Int} (h0 : 0 ≤ j) (h1 : j ≤ x.length) : (Txt.slice x none (some j)).cps.toList = x.cps.toList.take j.toNat := by
  have e := slice_closes_toL h0 h1
  rw [beq_iff_eq] at e
  rw [e]
  simp
theorem slice_from_list {x : Str} {i : Int} (h0 : 0 ≤ i) (h1 : i ≤ x.length) : (Txt.slice x (some i) none).cps.toList = x.cps.toList.drop i.toNat := by
  have e := slice_closes_fromL (b := x.length) h0 h1 rfl
  rw [beq_iff_eq] at e
  rw [e]
  have q : x.cps.toList.length = x.length := by simp [Str.length]
  simp only [List.drop_zero]
  rw [List.take_of_length_le]
  rw [List.length_drop, q]; omega
theorem slices_len {x : Str} {i : Int} (k : Nat) (h0 : 0 ≤ i) (h1 : i ≤ x.length) : (Txt.slice x none (some i)).length + k + (Txt.slice x (some i) none).length = x.length + k := by
  have a := (fact_slice_ns x i).1 h0 h1
  have b := (fact_slice_sn x i).1 h0 h1
  omega
theorem insAll_snoc : ∀ (l : List Nat) (sp : List (Int × Int)) (y : Int × Int), insAll l (sp ++ [y]) = insAt (insAll l sp) y.2.toNat y.1.toNat
  | _, [], _ => rfl
  | l, x :: sp, y => insAll_snoc (insAt l x.2.toNat x.1.toNat) sp y
theorem str_of_list {x : Str} {l : List Nat} (h : x.cps.toList = l) : x = Str.mk l.toArray := by
  subst h; rfl
structure SP (st : Str) (oc : List Int) (RES : List (Int × Int)) (x : Str) (ch po bi : Int) (ep : Nat) : Prop where
  ends : ep ≤ oc.length
  low : 63 ≤ ch
  high : ch ≤ 1114111
  place : -1 ≤ po
  long : x.length ≤ st.length + ep
  story : ∃ sp : List (Int × Int), x.cps.toList = insAll st.cps.toList sp ∧ x.length = st.length + sp.length ∧ sp.length ≤ ep ∧ (((ep : Nat) : Int) == 0) = (sp.length == 0) ∧
    readL (oc.drop ep) x.length bi ((ch - 128) * (x.length + 1) + po) [] sp = RES
theorem SP.start {st : Str} {oc : List Int} : SP st oc (readL oc st.length 72 (-1) [] []) st 128 (-1) 72 0 :=
  ⟨Nat.zero_le _, by decide, by decide, by decide, by omega, [], rfl, rfl, Nat.le_refl _, rfl, by simp⟩
theorem SP.halt {st : Str} {oc : List Int} {RES : List (Int × Int)} {x : Str} {ch po bi : Int} {ep : Nat} (h : SP st oc RES x ch po bi ep) (hd : (decF bi (oc.drop ep) []).2 = Option.none) : x = Str.mk (insAll st.cps.toList RES).toArray := by
  obtain ⟨_, _, _, _, _, sp, h1, _, _, _, h5⟩ := h
  rw [readL_none _ _ _ _ _ _ hd] at h5
  subst h5
  exact str_of_list h1
theorem SP.over {st : Str} {oc : List Int} {RES : List (Int × Int)} {x : Str} {ch po bi : Int} {ep : Nat} (h : SP st oc RES x ch po bi ep) (hd : oc.length ≤ ep) : x = Str.mk (insAll st.cps.toList RES).toArray :=
  h.halt (by rw [List.drop_eq_nil_of_le hd]; rfl)
theorem SP.go {st : Str} {oc : List Int} {RES : List (Int × Int)} {x : Str} {ch po bi : Int} {ep : Nat} (h : SP st oc RES x ch po bi ep) {nu : Int} (hd : (decF bi (oc.drop ep) []).2 = some nu)
    {c' pl bi' nc : Int} {y : Str} (hc : c' = signOf (ch + (po + (nu + 1)).fdiv (x.length + 1))) (hpl : pl = (po + (nu + 1)).fmod (x.length + 1)) (hy : y.cps.toList = [c'.toNat]) (hbi : bi' = biasF nu (((ep : Nat) : Int) == 0) nc) (hnc : nc = (x.length : Int) + 1) :
    SP st oc RES (Txt.slice x none (some pl) ++ y ++ Txt.slice x (some pl) none) c' pl bi' (ep + (decF bi (oc.drop ep) []).1) := by
  obtain ⟨q1, q2, q3, q4, q5, sp, h1, h2, h3, h4, h5⟩ := h
  obtain ⟨d1, d2, _⟩ := decF_range bi (oc.drop ep) [] nu (fun _ h => nomatch h) hd
  have d3 := decF_pos bi (oc.drop ep) []
  rw [List.length_drop] at d2
  have hs1 : (0 : Int) < (x.length : Int) + 1 := by omega
  obtain ⟨p0, p1⟩ := fmod_in (a := po + (nu + 1)) hs1
  rw [← hpl] at p0 p1
  have hz : 0 ≤ (po + (nu + 1)).fdiv ((x.length : Int) + 1) := fdiv_up (by omega) (by omega)
  have hc0 : 63 ≤ c' ∧ c' ≤ 1114111 := by
    rw [hc]; unfold signOf; split <;> omega
  have hyl : y.length = 1 := by
    have := congrArg List.length hy
    simpa [Str.length] using this
  have hl : (Txt.slice x none (some pl) ++ y ++ Txt.slice x (some pl) none : Str).length = x.length + 1 := by
    rw [Str.length_append, Str.length_append, hyl]
    exact slices_len 1 p0 (by omega)
  have hcs : (Txt.slice x none (some pl) ++ y ++ Txt.slice x (some pl) none : Str).cps.toList = insAt x.cps.toList pl.toNat c'.toNat := by
    show ((Txt.slice x none (some pl)).cps ++ y.cps ++ (Txt.slice x (some pl) none).cps).toList = _
    rw [Array.toList_append, Array.toList_append, hy, slice_to_list p0 (by omega), slice_from_list p0 (by omega)]
    simp [insAt]
  rw [readL_some _ _ _ _ _ _ _ hd] at h5
  have e1 : (ch - 128) * ((x.length : Int) + 1) + po + (nu + 1) = (po + (nu + 1)) + (ch - 128) * ((x.length : Int) + 1) := by omega
  have e2 : ((ch - 128) * ((x.length : Int) + 1) + po + (nu + 1)).fdiv ((x.length : Int) + 1) + 128 = ch + (po + (nu + 1)).fdiv ((x.length : Int) + 1) := by
    rw [e1, Int.fdiv_eq_ediv_of_nonneg _ (Int.le_of_lt hs1), Int.fdiv_eq_ediv_of_nonneg _ (Int.le_of_lt hs1), Int.add_mul_ediv_right _ _ (Int.ne_of_gt hs1)]
    omega
  have e3 : ((ch - 128) * ((x.length : Int) + 1) + po + (nu + 1)).fmod ((x.length : Int) + 1) = pl := by
    rw [hpl, e1, Int.fmod_eq_emod_of_nonneg _ (Int.le_of_lt hs1), Int.fmod_eq_emod_of_nonneg _ (Int.le_of_lt hs1), Int.add_mul_emod_self_right]
  rw [e2, e3, ← hc, List.drop_drop] at h5
  have hne : ep + (decF bi (oc.drop ep) []).1 ≠ 0 := by omega
  refine ⟨by omega, hc0.1, hc0.2, by omega, by rw [hl]; omega, sp ++ [(c', pl)], ?_, ?_, ?_, ?_, ?_⟩
  · rw [hcs, insAll_snoc, h1]
  · rw [hl, h2, List.length_append, List.length_singleton]; omega
  · rw [List.length_append, List.length_singleton]; omega
  · rw [Bool.eq_iff_iff, beq_iff_eq, beq_iff_eq, List.length_append, List.length_singleton]
    constructor <;> intro q <;> omega
  · rw [hl, hbi, hnc, h4, Int.natCast_add]
    exact h5
end
end Mine

namespace Mine
section
theorem insort_c (w : World) (news : List (Addr × Obj)) (st : Str) (bs : Array UInt8) (oc : List Int) (hi : KBw.bInts bs = oc) (er : Str) (t1 t2 t3 : Tok) (her : (er == Str.ofString "strict") = false) (hlen : oc.length ≤ 40) (hst : st.length ≤ 60) :
    CtrT PySem.Challenge.rw_rl0154_01.row.prog w (Mine.hd.heap_39 w.params) Mine.hd.view_39 42 3 3 [.str st t1, .bytes bs t2, .str er t3] news (fun tl r => tl = [] ∧ ∃ t, r = .str (Str.mk (insAll st.cps.toList (readL oc st.length 72 (-1) [] [])).toArray) t) (fun tl r => tl = [] ∧ ∃ t, r = .str (Str.mk (insAll st.cps.toList (readL oc st.length 72 (-1) [] [])).toArray) t) := by
  k_with_none
  k_with "exec While Compare cons nil" => (refine Stop.intro ?_)
  k_with "exec While" => (refine Stop.intro ?_)
  k_with "WPost" => (dsimp only [WPost])
  k_with "call ref cons nil" => (k_here; k_dflt (refine' decode_some ?h1 ?h2 ?h3 ?h4 ?k1 ?k2 ?k3 ?k4 ?k5 ?kK ?kd ?ku ?XB ?TB ?D ?hh ?_); (case hh => assumption); (case k1 => k_asm); (case k2 => k_asm); (case k3 => k_asm); (case k4 => k_asm); (case k5 => k_asm); (case kK => first | exact rfl | assumption); (case kd => ktr_room); (case ku => ktr_units); (case h1 => assumption); (case h2 => assumption); (case h3 => assumption); (case h4 => omega); (case XB => assumption); (case TB => assumption); (case D => assumption); intro D9 x9 t9 u9 h9 tk9 F9 N9 hx9; subst hx9; (try k_sweep); (try dsimp only); (try k_fold))
  k_with "call ref cons nil" => (k_here; k_dflt (refine' decode_none ?h1 ?h2 ?h3 ?h4 ?k1 ?k2 ?k3 ?k4 ?k5 ?kK ?kd ?ku ?XB ?TB ?D ?hh ?_); (case hh => assumption); (case k1 => k_asm); (case k2 => k_asm); (case k3 => k_asm); (case k4 => k_asm); (case k5 => k_asm); (case kK => first | exact rfl | assumption); (case kd => ktr_room); (case ku => ktr_units); (case h1 => assumption); (case h2 => assumption); (case h3 => assumption); (case h4 => omega); (case XB => assumption); (case TB => assumption); (case D => assumption); intro D9 x9 t9 h9 tk9 g9 T9 F9 N9 B9 X9 P9 G9; (try k_sweep); (try dsimp only); (try k_fold))
  k_with "call ref cons nil" => (k_here; k_dflt (refine' Ctr.ask (adapt_c _ _ _ _ _ _ _ ?h1 ?h2 ?h3) (ret := ?_)); (case h1 => assumption); (case h2 => ((have q1 : (Str.ofString "?").length = 1 := by decide); omega)); (case h3 => ((have q1 : (Str.ofString "?").length = 1 := by decide); omega)); intro r9 tl9 h9 tk9 F9 N9 hl9 hR9; obtain ⟨ht9, t9, he9⟩ := hR9; subst ht9; subst he9; clear hl9; (simp only [List.nil_append] at N9); (try k_sweep); (try dsimp only); (try k_fold))
  k_with "compareOp Eq str str" => (k_here; k_dflt (refine PyProof.Rows.eq_str ?_); (with_unfolding_all rw [show (_ == Str.ofString "strict") = false from by assumption]))
  k_fill
  w_top off
  unfold CtrT
  intro loose mean mg mb dp un gd cn cs a ccd cl outer A₀ base h₀ L m s Q E cB cF cX cN cT cK cD cU bX bT bD calm turned
  have hbs : bs.size = oc.length := by rw [← hi]; exact (KBw.ints_length bs).symm
  refine wpAny_call ?_
  k_dflt (refine' enterT ?k1 ?k2 ?k3 ?k4 ?k5 ?XB ?TB ?D ?kA ?kF ?kK ?k6 ?k7 ?k8 ?k9 ?kB ?_ ?c2 ?c3 ?c4 ?c5; (case kA => exact rfl); (case kF => exact rfl); (case kK => assumption); (case k1 => k_asm); (case k2 => k_asm); (case k3 => k_asm); (case k4 => k_asm); (case k5 => k_asm); (case XB => assumption); (case TB => assumption); (case D => assumption); (case k6 => k_is); (case k7 => k_is); (case k8 => ktr_room); (case k9 => exact BindsTo.of_eq rfl); (case c5 => decide); (case kB => exact locs rfl); (case c2 => exact rfl); (case c3 => exact rfl); (case c4 => exact rfl); k_whole; intro g' L' h' FG' F' N' B' X' T' D'; (try dsimp only); (try k_lift B'); (try k_fold))
  k_steps
  unfold Stop
  refine' whileR (σ := Str × Tok × Int × Tok × Int × Tok × Int × Tok × Nat × Tok) (fun _ => news) (fun c => [(Str.ofString "base", .str c.1 c.2.1), (Str.ofString "char", .int c.2.2.1 c.2.2.2.1), (Str.ofString "pos", .int c.2.2.2.2.1 c.2.2.2.2.2.1), (Str.ofString "bias", .int c.2.2.2.2.2.2.1 c.2.2.2.2.2.2.2.1), (Str.ofString "extpos", .int c.2.2.2.2.2.2.2.2.1 c.2.2.2.2.2.2.2.2.2), (Str.ofString "extended", .bytes bs t2), (Str.ofString "errors", .str er t3)]) (fun c => SP st oc (readL oc st.length 72 (-1) [] []) c.1 c.2.2.1 c.2.2.2.2.1 c.2.2.2.2.2.2.1 c.2.2.2.2.2.2.2.2.1) (fun c => oc.length - c.2.2.2.2.2.2.2.2.1) (by assumption) (by assumption) ?_ ?_
  · refine' ⟨(st, _, _, _, _, _, _, _, 0, _), by kst_in, by kst_all, ?_⟩
    exact SP.start
  · rintro ⟨x, tx, ch, tc, po, tp, bi, tb, ep, te⟩ u h tk hP F N
    dsimp only [kstB] at F hP
    have hP0 := hP
    obtain ⟨hel, hc0, hc1, hp0, hxl, _⟩ := hP
    rcases hdec : (decF bi (oc.drop ep) []).2 with _ | nu
    · k_steps
      · exact turned _ [] _ _ _ (by assumption) (by assumption) (news_sub (by assumption) (by kst_in)) (fun _ _ _ h9 => nomatch h9) (by assumption) (by assumption) (by assumption) (by assumption) ⟨rfl, _, by rw [← hP0.halt hdec]⟩
      · exact calm _ [] _ _ (by assumption) (by assumption) (fun _ _ _ h9 => nomatch h9) ⟨rfl, _, by rw [← hP0.over (by omega)]⟩
    · obtain ⟨d1, d2, _⟩ := decF_range bi (oc.drop ep) [] nu (fun _ h => nomatch h) hdec
      have d3 := decF_pos bi (oc.drop ep) []
      rw [List.length_drop] at d2
      have d4 : 0 ≤ (po + (nu + 1)).fdiv ((x.length : Int) + 1) := fdiv_up (by omega) (by omega)
      obtain ⟨d5, d6⟩ := fmod_in (a := po + (nu + 1)) (n := (x.length : Int) + 1) (by omega)
      k_steps
      · refine' WEnd.intro (_, _, 63, _, _, _, _, _, ep + (decF bi (oc.drop ep) []).1, _) (by assumption) (by assumption) (by kst_in) (by kst_all) (hP0.go hdec ?_ rfl ?_ rfl ?_) ?_
        · rw [signOf_big (by assumption)]
        · show (Str.ofString "?").cps.toList = [63]
          decide
        · rw [show (Str.ofString "?").length = 1 from by decide, slices_len 1 d5 (by omega)]; rfl
        · dsimp only; omega
      · refine' WEnd.intro (_, _, _, _, _, _, _, _, ep + (decF bi (oc.drop ep) []).1, _) (by assumption) (by assumption) (by kst_in) (by kst_all) (hP0.go hdec ?_ rfl ?_ rfl ?_) ?_
        · rw [← signOf_small (by assumption)]
        · rfl
        · rw [slices_len 1 d5 (by omega)]; rfl
        · dsimp only; omega
section
variable {w : World} {news : List (Addr × Obj)} {bs : Array UInt8} {oc : List Int} {st er : Str} {t1 t2 t3 : Tok} {loose : List Str} {mean : ExcName → Option Value} {mg mb : Str → Option Value} {dp un : Nat} {gd : Option (List Code)} {cn : Str} {cs : Scope} {a : Addr} {ccd : Value} {cl : List (Str × Addr)} {outer : List Env} {A₀ : Around} {base h₀ : Heap} {L : Addr} {m : Str → Option Value} {s : Shared} {Q E : Value → Shared → Prop}
theorem insort_use (hi : KBw.bInts bs = oc) (her : (er == Str.ofString "strict") = false) (hlen : oc.length ≤ 40) (hst : st.length ≤ 60) (B : Below A₀ base outer h₀) (F : Fr h₀ L s.heap m) (X : (Mine.hd.heap_39 w.params).In h₀) (N : News h₀ L s.heap news) (T : Top Mine.hd.view_39 loose mean mg mb h₀) (hk : cs.kind = .function) (hd : dp + 3 < recursionLimit) (hu : un + 8 * 3 < cLine)
    (XB : (Mine.hd.heap_39 w.params).In base) (TB : Top Mine.hd.view_39 loose mean mg mb base) (D : KtsDicts (outer.filterMap (·.frame)) h₀)
    (k : ∀ t h' tk' h₀', KtsTurn (outer.filterMap (·.frame)) h₀ h₀' → Fr h₀' L h' m → News h₀' L h' news → Below A₀ base outer h₀' → (Mine.hd.heap_39 w.params).In h₀' → Top Mine.hd.view_39 loose mean mg mb h₀' → KtsDicts (outer.filterMap (·.frame)) h₀' → Q (.str (Str.mk (insAll st.cps.toList (readL oc st.length 72 (-1) [] [])).toArray) t) { s with heap := h', toks := tk' }) :
    wpAny (model PySem.Challenge.rw_rl0154_01.row.prog w) (ktrTop dp un gd cn cs L a ccd cl outer) (call (.ref 42) [.str st t1, .bytes bs t2, .str er t3]) Q E s := by
  refine CtrT.use (insort_c w news st bs oc hi er t1 t2 t3 her hlen hst) B F X N T hk hd hu XB TB D (fun r tl h' tk' F' N' _ hr => ?_) fun r tl h' tk' h₀' T' F' N' _ B' X' P' D' hr => ?_
  · obtain ⟨rfl, t, rfl⟩ := hr
    exact k t h' tk' h₀ KtsTurn.refl F' N' B X T D
  · obtain ⟨rfl, t, rfl⟩ := hr
    exact k t h' tk' h₀' T' F' N' B' X' P' D'
end
end
end Mine

namespace Mine
section
section
open Builtin
theorem slot_rfind : Slot "bytes" "rfind" "bytes.rfind" :=
  .of (owner := "bytes") (n := "rfind") (by rw [typeLookup_type, builtinLookup_eq_fast]; kernel_rfl) (by decide +kernel) (by decide +kernel) (by decide +kernel)
    (by first | exact .inl (by decide +kernel) | exact .inr (by decide +kernel)) (by rw [isSubtype_type]; kernel_rfl)
theorem type_rfind : typeOf (.builtin "bytes.rfind") = pure (.type "method_descriptor") := by show builtinType _ = _; rw [builtinType_eq_fast]; kernel_rfl
theorem entry_rfind : entryFor table "bytes.rfind" = some Builtin.«bytes.rfind» := entryFor_of_tree (by kernel_rfl)
theorem args_rfind (a b : Value) : argsOk "bytes.rfind" ⟨[a, b], []⟩ := by
  unfold argsOk; rw [signature?_of (id := "bytes.rfind") (n := "rfind".toList.reverse) (o := "bytes".toList.reverse) (by kernel_rfl) FB.owner_bytes]; kernel_rfl
theorem slot_upper : Slot "bytes" "upper" "bytes.upper" :=
  .of (owner := "bytes") (n := "upper") (by rw [typeLookup_type, builtinLookup_eq_fast]; kernel_rfl) (by decide +kernel) (by decide +kernel) (by decide +kernel)
    (by first | exact .inl (by decide +kernel) | exact .inr (by decide +kernel)) (by rw [isSubtype_type]; kernel_rfl)
theorem type_upper : typeOf (.builtin "bytes.upper") = pure (.type "method_descriptor") := by show builtinType _ = _; rw [builtinType_eq_fast]; kernel_rfl
theorem entry_upper : entryFor table "bytes.upper" = some Builtin.«bytes.upper» := entryFor_of_tree (by kernel_rfl)
theorem args_upper (a : Value) : argsOk "bytes.upper" ⟨[a], []⟩ := by
  unfold argsOk; rw [signature?_of (id := "bytes.upper") (n := "upper".toList.reverse) (o := "bytes".toList.reverse) (by kernel_rfl) FB.owner_bytes]; kernel_rfl
def rfI (b : Array UInt8) : Int := match (if (1 : Int) > b.size then none else Bytes.rfind? b #[45] 0 b.size) with | some i => (i : Int) | none => -1
section
variable {b : Array UInt8} {t u : Tok}
theorem gives_upper : Gives («bytes.upper» ⟨[.bytes b t], []⟩) (.bytes (b.toList.map Bytes.toUpper).toArray) := .of_eq (by kernel_rfl)
theorem window_all (n : Nat) : Bytes.window n none none = (0, (n : Int)) := by
  unfold Bytes.window
  have h : ¬ ((n : Int) < 0) := by omega
  simp [h]
theorem search_eq : Bytes.searchArgs .bytes "rfind" ⟨[.bytes b t, .bytes #[45] u], []⟩ = pure (b, #[45], if (1 : Int) > b.size then none else some (0, b.size)) := by
  unfold Bytes.searchArgs
  show (Bytes.buffer? _ (.bytes #[45] u) >>= fun r => _) = _
  rw [KBy.buffer_eq]
  show (pure (b, (#[45] : Array UInt8), if (Bytes.window b.size none none).2 - (Bytes.window b.size none none).1 < ((1 : Nat) : Int) then none else some ((Bytes.window b.size none none).1.toNat, (Bytes.window b.size none none).2.toNat)) : Sem (Array UInt8 × Array UInt8 × Option (Nat × Nat))) = _
  rw [window_all]
  simp
theorem gives_rfind : Gives («bytes.rfind» ⟨[.bytes b t, .bytes #[45] u], []⟩) (.int (rfI b)) := by
  refine .of_wp fun M A E s Q h => ?_
  show wpAny M A (Bytes.searchArgs .bytes "rfind" ⟨[.bytes b t, .bytes #[45] u], []⟩ >>= fun r => _) _ E s
  refine wpAny_bind (wpAny_of_eq search_eq ?_)
  by_cases hb : (1 : Int) > b.size
  · have e : rfI b = -1 := by unfold rfI; rw [if_pos hb]
    rw [e] at h
    rw [if_pos hb]
    exact wpAny_bind (wpAny_rule (wpAny_bind (wpAny_mkInt (wpAny_pure ⟨_, rfl, h⟩))))
  · rw [if_neg hb]
    show wpAny M A (match Bytes.rfind? b #[45] 0 b.size with | some i => retInt i | none => rule _ >>= fun _ => retInt (-1)) _ E s
    have e : rfI b = match Bytes.rfind? b #[45] 0 b.size with | some i => (i : Int) | none => -1 := by unfold rfI; rw [if_neg hb]
    rw [e] at h
    cases hr : Bytes.rfind? b #[45] 0 b.size with
    | some i => rw [hr] at h; exact wpAny_bind (wpAny_mkInt (wpAny_pure ⟨_, rfl, h⟩))
    | none => rw [hr] at h; exact wpAny_bind (wpAny_rule (wpAny_bind (wpAny_mkInt (wpAny_pure ⟨_, rfl, h⟩))))
end
section
variable {prog : Program} {w : World} {A : Around} {E : Value → Shared → Prop} {s : Shared} {b : Array UInt8} {t u : Tok}
theorem r_upper {Q : Value → Shared → Prop} (hz : b.size ≤ 1000000) (h : ∀ t' k, Q (.bytes (b.toList.map Bytes.toUpper).toArray t') { s with toks := k }) :
    wpAny (model prog w) A (call (.builtin "bytes.upper") [.bytes b t]) Q E s :=
  call_gives slot_upper (typeIs_bytes _ _ _) entry_upper (args_upper _) gives_upper ⟨by rw [sizeLine_eq]; simp; omega, h _ _⟩
theorem m_upper {M : Model} {pl : Sem Bool} {Q : Value × List Value → Shared → Prop} (h : Q (.builtin "bytes.upper", [.bytes b t]) s) : wpAny M A (getMethod (.bytes b t) "upper" pl) Q E s := by
  with_reducible exact KBd.method_of (.bytes b t) (typeIs_bytes _ _ _) slot_upper type_upper KBd.noRef h
theorem m_rfind {M : Model} {pl : Sem Bool} {Q : Value × List Value → Shared → Prop} (h : Q (.builtin "bytes.rfind", [.bytes b t]) s) : wpAny M A (getMethod (.bytes b t) "rfind" pl) Q E s := by
  with_reducible exact KBd.method_of (.bytes b t) (typeIs_bytes _ _ _) slot_rfind type_rfind KBd.noRef h
theorem r_rfind {Q : Value → Shared → Prop} (h : ∀ t' k, Q (.int (rfI b) t') { s with toks := k }) :
    wpAny (model prog w) A (call (.builtin "bytes.rfind") [.bytes b t, .bytes #[45] u]) Q E s :=
  call_gives slot_rfind (typeIs_bytes _ _ _) entry_rfind (args_rfind _ _) gives_rfind (h _ _)
end
end
end
end Mine

namespace Mine
section
section
open Builtin
theorem loop_pureL {S : Type} (f : Nat → S → Sem (ForInStep S)) (st : Nat → S) (n : Nat) (h : ∀ i, i < n → f i (st i) = pure (.yield (st (i + 1)))) :
    ∀ k i, i + k = n → forIn (List.range' i k) (st i) f = pure (st n)
  | 0, i, e => by
    obtain rfl : i = n := by omega
    rfl
  | k + 1, i, e => by
    rw [List.range'_succ, List.forIn_cons, h i (by omega), pure_bind]
    exact loop_pureL f st n h k (i + 1) (by omega)
theorem loop_pure {S : Type} (f : Nat → S → Sem (ForInStep S)) (st : Nat → S) (n : Nat) (h : ∀ i, i < n → f i (st i) = pure (.yield (st (i + 1)))) :
    forIn [:n] (st 0) f = pure (st n) := by
  rw [Std.Legacy.Range.forIn_eq_forIn_range']
  have e : ([:n] : Std.Legacy.Range).size = n := by simp [Std.Legacy.Range.size]
  rw [e]
  exact loop_pureL f st n h n 0 (by omega)
theorem run_ascii (id : String) (er : Option PySem.Str) (b : Array UInt8) (hb : ∀ c ∈ b.toList, c.toNat < 128) (hz : b.size ≤ 1000000) :
    _codecs.runDecoder id _codecs.asciiDecoder er true b 0 [] = pure ((b.toList.map UInt8.toNat).toArray, b.size) := by
  unfold _codecs.runDecoder
  have key := loop_pure (S := Nat × Array Nat × _codecs.Faults) (st := fun i => (i, ((b.toList.take i).map UInt8.toNat).toArray, { })) (n := b.size)
  refine Eq.trans (congrArg (· >>= fun s => pure (s.2.1, s.1)) (key _ fun i hi => ?_)) ?_
  · have hsz : ¬ (((b.toList.take i).map UInt8.toNat).toArray.size > sizeLine) := by
      rw [sizeLine_eq, List.size_toArray, List.length_map, List.length_take]; omega
    have hge : ¬ (i ≥ b.size) := by omega
    have hlt : i < b.toList.length := by simpa using hi
    have hc : (b.getD i 0).toNat < 128 := by
      have e : b.getD i 0 = b.toList[i] := by simp [Array.getD, hi]
      rw [e]; exact hb _ (List.getElem_mem hlt)
    have hf : _codecs.asciiDecoder.find true b i = .text [(b.getD i 0).toNat] (i + 1) := by
      show (if (b.getD i 0).toNat < 128 then _codecs.Found.char (b.getD i 0).toNat (i + 1) else _) = _
      rw [if_pos hc]; rfl
    dsimp only
    rw [if_neg hsz, if_neg hge, hf]
    dsimp only
    have e2 : (List.map UInt8.toNat (List.take i b.toList)).toArray ++ [(b.getD i 0).toNat].toArray = (List.map UInt8.toNat (List.take (i + 1) b.toList)).toArray := by
      rw [List.take_add_one, List.getElem?_eq_getElem hlt, List.map_append]
      have e : b.getD i 0 = b.toList[i] := by simp [Array.getD, hi]
      rw [e]
      simp
    rw [e2]
  · rw [pure_bind]
    have : b.toList.take b.size = b.toList := List.take_of_length_le (by simp)
    rw [this]

section
variable {b : Array UInt8} {c : UInt8} {cs : List UInt8} {t t1 t2 t3 : Tok} {er : PySem.Str}
theorem road_ascii {id : String} {er : Option PySem.Str} : _codecs.decodeRoad id b (PySem.Str.ofString "ascii") er [] = (_codecs.runDecoder id _codecs.asciiDecoder er true b 0 [] >>= fun r => mkStr ⟨r.1⟩) := by kernel_rfl
def txtOf (b : Array UInt8) : PySem.Str := ⟨(b.toList.map UInt8.toNat).toArray⟩
theorem txtOf_length : (txtOf b).length = b.size := by show ((b.toList.map UInt8.toNat).toArray).size = _; simp
theorem meets_textA {d : PySem.Str} (hb : ∀ c ∈ b.toList, c.toNat < 128) (hz : b.size ≤ 1000000) :
    Meets («_codecs.decode.text» ⟨[.bytes b t, .str (PySem.Str.ofString "ascii") t1, .str er t2, .str d t3], []⟩) (fun _ R s => R (.ok (.ret (.str (txtOf b) s.toks))) { s with toks := s.toks + 1 }) := by
  refine .of_wp fun prog w A R s h => ?_
  show wpAny _ _ (Bytes.bytesLike _ (.bytes b t) >>= fun r => _) _ _ s
  refine wpAny_bind (wpAny_of_eq KBd.like_eq ?_)
  refine wpAny_bind (wpAny_of_eq KBd.held_eq ?_)
  show wpAny _ _ (_codecs.decodeRoad _ b (PySem.Str.ofString "ascii") (some er) [] >>= fun v => _) _ _ s
  rw [road_ascii, run_ascii _ _ b hb hz]
  refine wpAny_bind (wpAny_bind (wpAny_pure ?_))
  exact wpAny_mkStr (wpAny_pure ⟨_, rfl, h⟩) (by rw [sizeLine_eq]; show (txtOf b).length ≤ _; rw [txtOf_length]; omega)
def kwA (er : PySem.Str) (t1 t2 : Tok) : List (PySem.Str × Value) := [(PySem.Str.ofString "encoding", .str (PySem.Str.ofString "ascii") t1), (PySem.Str.ofString "errors", .str er t2)]
theorem args_decodeA (a : Value) : argsOk "bytes.decode" ⟨[a], kwA er t1 t2⟩ := by
  unfold argsOk; rw [signature?_of (id := "bytes.decode") (n := "decode".toList.reverse) (o := "bytes".toList.reverse) (by kernel_rfl) FB.owner_bytes]; kernel_rfl
theorem entry_eqA (her : er = PySem.Str.ofString "ignore" ∨ er = PySem.Str.ofString "replace" ∨ er = PySem.Str.ofString "strict") : «bytes.decode» ⟨[.bytes (c :: cs).toArray t], kwA er t1 t2⟩ = (mkStr (PySem.Str.ofString "utf-8") >>= fun _ => mkStr (PySem.Str.ofString "ascii") >>= fun e => mkStr er >>= fun r => mkStr (PySem.Str.ofString "bytes.decode") >>= fun d =>
    call (.builtin "_codecs.decode.text") [.bytes (c :: cs).toArray t, e, r, d] >>= fun v => ret v) := by
  rcases her with rfl | rfl | rfl <;> kernel_rfl
theorem entry_eq0 (her : er = PySem.Str.ofString "ignore" ∨ er = PySem.Str.ofString "replace" ∨ er = PySem.Str.ofString "strict") : «bytes.decode» ⟨[.bytes #[] t], kwA er t1 t2⟩ = (rule "bytes.decode.empty" >>= fun _ => mkStr PySem.Str.empty >>= fun v => ret v) := by
  rcases her with rfl | rfl | rfl <;> kernel_rfl
theorem meets_decodeA (hb : ∀ c ∈ b.toList, c.toNat < 128) (hz : b.size ≤ 1000000) (her : er = PySem.Str.ofString "ignore" ∨ er = PySem.Str.ofString "replace" ∨ er = PySem.Str.ofString "strict") :
    Meets («bytes.decode» ⟨[.bytes b t], kwA er t1 t2⟩) (fun _ R s => ∀ t' k, R (.ok (.ret (.str (txtOf b) t'))) { s with toks := k }) := by
  have hel : er.length ≤ sizeLine := by rcases her with rfl | rfl | rfl <;> decide
  obtain ⟨l⟩ := b
  cases l with
  | nil =>
    refine .of_wp fun prog w A R s h => ?_
    show wpAny _ _ («bytes.decode» ⟨[.bytes #[] t], kwA er t1 t2⟩) _ _ s
    rw [entry_eq0 her]
    exact wpAny_bind (wpAny_rule (wpAny_bind (wpAny_mkStr (wpAny_pure ⟨_, rfl, h _ _⟩) (by decide))))
  | cons c cs =>
    refine .of_wp fun prog w A R s h => ?_
    show wpAny _ _ («bytes.decode» ⟨[.bytes (c :: cs).toArray t], kwA er t1 t2⟩) _ _ s
    rw [entry_eqA her]
    refine wpAny_bind (wpAny_mkStr ?_ (by decide))
    refine wpAny_bind (wpAny_mkStr ?_ (by decide))
    refine wpAny_bind (wpAny_mkStr ?_ hel)
    refine wpAny_bind (wpAny_mkStr ?_ (by decide))
    exact wpAny_bind (call_function_meets KBd.kind_text KBd.plain_text KBd.entry_text (KBd.args_text _ _ _ _) (meets_textA hb hz) (wpAny_pure ⟨_, rfl, h _ _⟩))
end
section
variable {prog : Program} {w : World} {A : Around} {E : Value → Shared → Prop} {s : Shared} {b : Array UInt8} {t t1 t2 : Tok} {er : PySem.Str}
theorem call_meetsK {T : String} {name : PySem.Str} {id : String} {B : Builtin} {self : Value} {rest : List Value} {kw : List (PySem.Str × Value)} {S : PySem.Spec} {Q : Value → Shared → Prop} (slot : Slot T name id) (hT : s.TypeIs self T)
    (entry : entryFor table id = some B) (args : argsOk id ⟨self :: rest, kw⟩) (g : Meets (B ⟨self :: rest, kw⟩) S) (h : S A (wants Q E) s) :
    wpAny (model prog w) A (call (.builtin id) (self :: rest) kw) Q E s :=
  wpAny_call (codeAny_call_builtin slot.plain entry (slot.check _ _ _ _ _ _ _ _ hT args (g prog w A (wants Q E) s h)))
theorem decodeA {Q : Value → Shared → Prop} (hb : ∀ c ∈ b.toList, c.toNat < 128) (hz : b.size ≤ 1000000) (her : er = PySem.Str.ofString "ignore" ∨ er = PySem.Str.ofString "replace" ∨ er = PySem.Str.ofString "strict") (h : ∀ t' k, Q (.str (txtOf b) t') { s with toks := k }) :
    wpAny (model prog w) A (call (.builtin "bytes.decode") [.bytes b t] (kwA er t1 t2)) Q E s :=
  call_meetsK FB.slot_bytes_decode (typeIs_bytes _ _ _) FB.entry_bytes_decode (args_decodeA _) (meets_decodeA hb hz her) h
theorem new_treeA (her : er = PySem.Str.ofString "ignore" ∨ er = PySem.Str.ofString "replace" ∨ er = PySem.Str.ofString "strict") : «str.__new__» ⟨[.type "str", .bytes b t, .str (PySem.Str.ofString "ascii") t1, .str er t2], []⟩ = (mkStr (PySem.Str.ofString "ascii") >>= fun e => mkStr er >>= fun r => rule "str.__new__.decode-bytes" >>= fun _ => call (.builtin "bytes.decode") [.bytes b t] [(PySem.Str.ofString "encoding", e), (PySem.Str.ofString "errors", r)] >>= fun v => ret v) := by
  rcases her with rfl | rfl | rfl <;> kernel_rfl
theorem meets_newA (hb : ∀ c ∈ b.toList, c.toNat < 128) (hz : b.size ≤ 1000000) (her : er = PySem.Str.ofString "ignore" ∨ er = PySem.Str.ofString "replace" ∨ er = PySem.Str.ofString "strict") :
    Meets («str.__new__» ⟨[.type "str", .bytes b t, .str (PySem.Str.ofString "ascii") t1, .str er t2], []⟩) (fun _ R s => ∀ t' k, R (.ok (.ret (.str (txtOf b) t'))) { s with toks := k }) := by
  have hel : er.length ≤ sizeLine := by rcases her with rfl | rfl | rfl <;> decide
  refine .of_wp fun prog w A R s h => ?_
  rw [new_treeA her]
  refine wpAny_bind (wpAny_mkStr ?_ (by decide))
  refine wpAny_bind (wpAny_mkStr ?_ hel)
  refine wpAny_bind (wpAny_rule ?_)
  exact wpAny_bind (decodeA hb hz her fun t' k => wpAny_pure ⟨_, rfl, h t' k⟩)
theorem typeCall_str_3 (a b c : Value) : checkTypeCall "str" ⟨[a, b, c], []⟩ = pure () := by kernel_rfl
theorem newCall_str_3 (a b c : Value) : checkBuiltinCall "str.__new__" ⟨[.type "str", a, b, c], []⟩ = pure () := by kernel_rfl
theorem args_init_4 (o a b c : Value) : argsOk "object.__init__" ⟨[o, a, b, c], []⟩ := by unfold argsOk; kernel_rfl
theorem r_strA {Q : Value → Shared → Prop} (hb : ∀ c ∈ b.toList, c.toNat < 128) (hz : b.size ≤ 1000000) (her : er = PySem.Str.ofString "ignore" ∨ er = PySem.Str.ofString "replace" ∨ er = PySem.Str.ofString "strict") (h : ∀ t' k, Q (.str (txtOf b) t') { s with toks := k }) :
    wpAny (model prog w) A (call (.type "str") [.bytes b t, .str (PySem.Str.ofString "ascii") t1, .str er t2]) Q E s :=
  callType_new F.called_str (by decide) (typeCall_str_3 _ _ _) (newCall_str_3 _ _ _) (fun obj => args_init_4 obj _ _ _) F.entry_str_new (meets_newA hb hz her) fun t' k => ⟨typeIs_str _ _ _, h t' k⟩
end
end
end
end Mine

namespace Mine
section
def hyp (oc : List Int) : Nat → Int
  | 0 => -1
  | n + 1 => if oc[n]? = some 45 then (n : Int) else hyp oc n
theorem hyp_range (oc : List Int) : ∀ n, -1 ≤ hyp oc n ∧ hyp oc n < n
  | 0 => by show (-1 : Int) ≤ -1 ∧ (-1 : Int) < ((0 : Nat) : Int); omega
  | n + 1 => by
    have := hyp_range oc n
    unfold hyp
    split <;> omega
def up (o : Int) : Int := if 97 ≤ o ∧ o ≤ 122 then o - 32 else o
def headL (oc : List Int) : List Nat := (oc.take (hyp oc oc.length).toNat).map Int.toNat
def greatL (oc : List Int) : List Int := (oc.drop (hyp oc oc.length + 1).toNat).map up
def readW (st : List Nat) (oc : List Int) : Str := Str.mk (insAll st (readL oc st.length 72 (-1) [] [])).toArray
theorem rf_find {b : Array UInt8} {oc : List Int} (hi : KBw.bInts b = oc) : ∀ n, n ≤ b.size →
    (match (List.range n).reverse.find? fun i => b.extract i (i + 1) == #[45] with | some i => (i : Int) | none => -1) = hyp oc n
  | 0, _ => rfl
  | n + 1, hn => by
    have hlt : n < b.size := by omega
    rw [List.range_succ, List.reverse_append, List.reverse_singleton, List.singleton_append, List.find?_cons]
    have e1 : b.extract n (n + 1) = #[b[n]] := by
      apply Array.ext
      · simp; omega
      · intro i h1 h2
        have hi0 : i = 0 := by simp at h2; omega
        subst hi0
        simp
    have e2 : oc[n]? = some ((b[n].toNat : Nat) : Int) := by
      rw [← hi]; exact KBw.ints_get (by simp [hlt])
    unfold hyp
    rw [e1, e2]
    by_cases h : b[n] = 45
    · rw [h]; simp
    · have h1 : ((#[b[n]] : Array UInt8) == #[45]) = false := by
        rw [beq_eq_false_iff_ne]; intro q
        exact h (by simpa using q)
      have h2 : ¬ (some ((b[n].toNat : Nat) : Int) = some 45) := by
        intro q
        have q' := Option.some.inj q
        exact h (UInt8.toNat_inj.mp (by have : b[n].toNat = 45 := by omega
                                        rw [this]; rfl))
      rw [h1, if_neg h2]
      exact rf_find hi n (by omega)
theorem rfI_hyp {b : Array UInt8} {oc : List Int} (hi : KBw.bInts b = oc) : rfI b = hyp oc oc.length := by
  have hs : b.size = oc.length := by rw [← hi]; exact (KBw.ints_length b).symm
  unfold rfI
  by_cases h : (1 : Int) > b.size
  · rw [if_pos h]
    have : oc.length = 0 := by omega
    rw [this]; rfl
  · rw [if_neg h, ← hs, ← rf_find hi b.size (Nat.le_refl _)]
    unfold Builtin.Bytes.rfind?
    have e : b.size + 1 - (0 + (#[45] : Array UInt8).size) = b.size := by simp
    rw [e]
    have e2 : (List.range b.size).map (fun x => x + 0) = List.range b.size := by simp
    rw [e2]
    rfl
theorem toUpper_up (c : UInt8) : (((Builtin.Bytes.toUpper c).toNat : Nat) : Int) = up ((c.toNat : Nat) : Int) := by
  unfold Builtin.Bytes.toUpper Builtin.Bytes.isLower up
  by_cases h : 97 ≤ c.toNat ∧ c.toNat ≤ 122
  · have h1 : (decide (97 ≤ c) && decide (c ≤ 122)) = true := by
      simp only [Bool.and_eq_true, decide_eq_true_eq, UInt8.le_iff_toNat_le]
      exact h
    rw [h1, if_pos rfl, if_pos (by omega), UInt8.toNat_sub_of_le _ _ (by rw [UInt8.le_iff_toNat_le]; show 32 ≤ c.toNat; omega)]
    show ((c.toNat - 32 : Nat) : Int) = _
    omega
  · have h1 : (decide (97 ≤ c) && decide (c ≤ 122)) = false := by
      rw [Bool.eq_false_iff]
      intro q
      simp only [Bool.and_eq_true, decide_eq_true_eq, UInt8.le_iff_toNat_le] at q
      exact h q
    rw [h1, if_neg (by decide), if_neg (by omega)]
theorem ints_upper {b : Array UInt8} {oc : List Int} (hi : KBw.bInts b = oc) : KBw.bInts (b.toList.map Builtin.Bytes.toUpper).toArray = oc.map up := by
  subst hi
  show ((b.toList.map Builtin.Bytes.toUpper).toArray.toList).map _ = (b.toList.map _).map _
  simp only [List.map_map]
  apply List.map_congr_left
  intro c _
  exact toUpper_up c
theorem picked_asc {b : Array UInt8} {lo hi : Option Int} (h : ∀ c ∈ b.toList, c.toNat < 128) : ∀ c ∈ (KBy.picked b lo hi).toList, c.toNat < 128 := fun c hc => by
  rw [KBc.picked_eq] at hc
  exact h c (List.mem_of_mem_drop (List.mem_of_mem_take (by simpa using hc)))
theorem asc_of {b : Array UInt8} {oc : List Int} (hi : KBw.bInts b = oc) (h : ∀ o ∈ oc, o < 128) : ∀ c ∈ b.toList, c.toNat < 128 := fun c hc => by
  have := h ((c.toNat : Nat) : Int) (by rw [← hi]; exact List.mem_map.mpr ⟨c, hc, rfl⟩)
  omega
theorem readW_str {st : Str} {l : List Nat} {oc : List Int} (h : st.cps.toList = l) : Str.mk (insAll st.cps.toList (readL oc st.length 72 (-1) [] [])).toArray = readW l oc := by
  subst h
  unfold readW
  have e : st.cps.toList.length = st.length := by simp [Str.length]
  rw [e]
theorem txtOf_ints {b : Array UInt8} {oc : List Int} (hi : KBw.bInts b = oc) : (txtOf b).cps.toList = oc.map Int.toNat := by
  subst hi
  show (b.toList.map UInt8.toNat).toArray.toList = (b.toList.map _).map Int.toNat
  simp [List.map_map, Function.comp_def]
theorem puny_neg {oc : List Int} (h : hyp oc oc.length = -1) : headL oc = [] ∧ greatL oc = oc.map up := by
  unfold headL greatL
  rw [h]
  exact ⟨rfl, rfl⟩
theorem puny_head {b : Array UInt8} {oc : List Int} (hi : KBw.bInts b = oc) (h0 : 0 ≤ hyp oc oc.length) : (txtOf (KBy.picked b none (some (hyp oc oc.length)))).cps.toList = headL oc := by
  obtain ⟨q1, q2⟩ := hyp_range oc oc.length
  rw [txtOf_ints (KBc.ints_picked hi none (some (hyp oc oc.length)))]
  unfold headL
  obtain ⟨n, hn⟩ : ∃ n : Nat, hyp oc oc.length = n := ⟨(hyp oc oc.length).toNat, by omega⟩
  rw [hn] at q2 ⊢
  have e : (Option.some (n : Int)).elim oc.length (clipAt oc.length) = n := by
    show clipAt oc.length (n : Int) = n
    rw [clipAt_nat]; omega
  rw [e]
  simp
theorem puny_tail {b : Array UInt8} {oc : List Int} (hi : KBw.bInts b = oc) (h0 : 0 ≤ hyp oc oc.length) : KBw.bInts ((KBy.picked b (some (hyp oc oc.length + 1)) none).toList.map Builtin.Bytes.toUpper).toArray = greatL oc := by
  obtain ⟨q1, q2⟩ := hyp_range oc oc.length
  rw [ints_upper (KBc.ints_picked hi (some (hyp oc oc.length + 1)) none)]
  unfold greatL
  obtain ⟨n, hn⟩ : ∃ n : Nat, hyp oc oc.length + 1 = n := ⟨(hyp oc oc.length + 1).toNat, by omega⟩
  rw [hn]
  have e : (Option.some (n : Int)).elim 0 (clipAt oc.length) = n := by
    show clipAt oc.length (n : Int) = n
    rw [clipAt_nat]; omega
  rw [e, Int.toNat_natCast]
  show ((oc.drop n).take (oc.length - n)).map up = _
  rw [List.take_of_length_le (by rw [List.length_drop]; omega)]
theorem greatL_len (oc : List Int) : (greatL oc).length ≤ oc.length := by
  unfold greatL; rw [List.length_map, List.length_drop]; omega
theorem headL_len (oc : List Int) : (headL oc).length ≤ oc.length := by
  unfold headL; rw [List.length_map, List.length_take]; omega
end
end Mine

namespace Mine
section
theorem puny_c (w : World) (news : List (Addr × Obj)) (bs : Array UInt8) (oc : List Int) (hi : KBw.bInts bs = oc) (er : Str) (t1 t3 : Tok) (her : er = Str.ofString "ignore" ∨ er = Str.ofString "replace") (hlen : oc.length ≤ 40) (hasc : ∀ o ∈ oc, o < 128) :
    CtrT PySem.Challenge.rw_rl0154_01.row.prog w (Mine.hd.heap_39 w.params) Mine.hd.view_39 49 4 4 [.bytes bs t1, .str er t3] news (fun tl r => tl = [] ∧ ∃ t, r = .str (readW (headL oc) (greatL oc)) t) (fun tl r => tl = [] ∧ ∃ t, r = .str (readW (headL oc) (greatL oc)) t) := by
  k_with_none
  k_with "getMethod bytes" => (k_here; (with_reducible refine m_rfind ?_))
  k_with "getMethod bytes" => (k_here; (with_reducible refine m_upper ?_))
  k_with "call builtin:bytes.rfind" => (k_here; k_dflt (refine r_rfind ?_; intro t9 k9; (try dsimp only)))
  k_with "call builtin:bytes.upper" => (k_here; k_dflt (refine' r_upper ?hz ?_; (case hz => first | omega | exact Nat.le_trans (KBc.size_picked_le _ _ _) (by omega)); intro t9 k9; (try dsimp only)))
  k_with "call type:str" => (k_here; k_dflt (refine' r_strA ?hb ?hz ?he ?_; (case hb => exact picked_asc (by assumption)); (case hz => exact Nat.le_trans (KBc.size_picked_le _ _ _) (by omega)); (case he => assumption); intro t9 k9; (try dsimp only)))
  k_with "call ref cons nil" => (k_here; k_dflt (refine' insort_use ?h1 ?h2 ?h3 ?h4 ?k1 ?k2 ?k3 ?k4 ?k5 ?kK ?kd ?ku ?XB ?TB ?D ?_); (case k1 => k_asm); (case k2 => k_asm); (case k3 => k_asm); (case k4 => k_asm); (case k5 => k_asm); (case kK => first | exact rfl | assumption); (case kd => ktr_room); (case ku => ktr_units); (case h1 => assumption); (case h2 => assumption); (case h3 => assumption); (case h4 => first | assumption | decide); (case XB => assumption); (case TB => assumption); (case D => assumption); intro t9 h9 tk9 g9 T9 F9 N9 B9 X9 P9 G9; (try k_sweep); (try dsimp only); (try k_fold))
  k_fill
  w_top off
  unfold CtrT
  intro loose mean mg mb dp un gd cn cs a ccd cl outer A₀ base h₀ L m s Q E cB cF cX cN cT cK cD cU bX bT bD calm turned
  have hbs : bs.size = oc.length := by rw [← hi]; exact (KBw.ints_length bs).symm
  have hrf := rfI_hyp hi
  obtain ⟨q1, q2⟩ := hyp_range oc oc.length
  refine wpAny_call ?_
  k_dflt (refine' enterT ?k1 ?k2 ?k3 ?k4 ?k5 ?XB ?TB ?D ?kA ?kF ?kK ?k6 ?k7 ?k8 ?k9 ?kB ?_ ?c2 ?c3 ?c4 ?c5; (case kA => exact rfl); (case kF => exact rfl); (case kK => assumption); (case k1 => k_asm); (case k2 => k_asm); (case k3 => k_asm); (case k4 => k_asm); (case k5 => k_asm); (case XB => assumption); (case TB => assumption); (case D => assumption); (case k6 => k_is); (case k7 => k_is); (case k8 => ktr_room); (case k9 => exact BindsTo.of_eq rfl); (case c5 => decide); (case kB => exact locs rfl); (case c2 => exact rfl); (case c3 => exact rfl); (case c4 => exact rfl); k_whole; intro g' L' h' FG' F' N' B' X' T' D'; (try dsimp only); (try k_lift B'); (try k_fold))
  have h3 : er = Str.ofString "ignore" ∨ er = Str.ofString "replace" ∨ er = Str.ofString "strict" := her.elim .inl fun h => .inr (.inl h)
  have hns : (er == Str.ofString "strict") = false := by rcases her with rfl | rfl <;> decide
  have hb0 := asc_of hi hasc
  have hgl : (greatL oc).length ≤ 40 := Nat.le_trans (greatL_len oc) hlen
  have hhl := Nat.le_trans (headL_len oc) hlen
  rw [← hrf] at q1 q2
  rcases Int.lt_or_le (rfI bs) 0 with hneg | hpos
  · have hm : rfI bs = -1 := by omega
    obtain ⟨e1, e2⟩ := puny_neg (hrf ▸ hm)
    have hu9 := (ints_upper hi).trans e2.symm
    k_steps
    · exact turned _ [] _ _ _ (by assumption) (by assumption) (by assumption) (fun _ _ _ h9 => nomatch h9) (by assumption) (by assumption) (by assumption) (by assumption) ⟨rfl, _, by rw [readW_str e1.symm]⟩
    · omega
  · have hm : ¬ rfI bs = -1 := by omega
    have hu9 := puny_tail hi (hrf ▸ hpos)
    have e1 := puny_head hi (hrf ▸ hpos)
    rw [← hrf] at hu9 e1
    have hst : (txtOf (KBy.picked bs none (some (rfI bs)))).length ≤ 60 := by
      have : (txtOf (KBy.picked bs none (some (rfI bs)))).cps.toList.length = (txtOf (KBy.picked bs none (some (rfI bs)))).length := by simp [Str.length]
      rw [← this, e1]; omega
    k_steps
    · omega
    · exact turned _ [] _ _ _ (by assumption) (by assumption) (by assumption) (fun _ _ _ h9 => nomatch h9) (by assumption) (by assumption) (by assumption) (by assumption) ⟨rfl, _, by rw [readW_str e1]⟩
end
end Mine

namespace Mine
section
theorem tab_lt (tbl : List UInt8) (h : (tbl.all fun c => decide (c.toNat < 128)) = true) (i : Nat) : 0 ≤ (((tbl.getD i 0).toNat : Nat) : Int) ∧ (((tbl.getD i 0).toNat : Nat) : Int) < 128 := by
  refine ⟨by omega, ?_⟩
  rw [List.getD_eq_getElem?_getD]
  cases e : tbl[i]? with
  | none => decide
  | some c =>
    have := List.all_eq_true.mp h c (List.mem_of_getElem? e)
    have h2 : c.toNat < 128 := by simpa using this
    show ((c.toNat : Nat) : Int) < 128
    omega
theorem bInts_of {ks : List Int} (h : ∀ k ∈ ks, 0 ≤ k ∧ k < 256) : KBw.bInts (ks.map fun n => n.toNat.toUInt8).toArray = ks := by
  show ((ks.map fun n => n.toNat.toUInt8).toArray.toList).map _ = ks
  simp only [List.map_map]
  conv => rhs; rw [← List.map_id ks]
  apply List.map_congr_left
  intro k hk
  obtain ⟨a, b⟩ := h k hk
  show ((k.toNat.toUInt8.toNat : Nat) : Int) = k
  have e : k.toNat.toUInt8.toNat = k.toNat := by
    show k.toNat % 256 = k.toNat
    omega
  rw [e]; omega
section
variable {prog : Program} {w : World} {A : Around} {E : Value → Shared → Prop} {s : Shared} {h₀ : Heap} {L : Addr} {m : Str → Option Value} {news : List (Addr × Obj)}
theorem label_K {l : Addr} {vs : List Value} {ks : List Int} {n : Nat} {Q : Value → Shared → Prop} (F : Fr h₀ L s.heap m) (N : News h₀ L s.heap news) (hl : s.heap.IsList l vs.toArray) (hi : IntsAre vs ks) (hk : ∀ o ∈ ks, 0 ≤ o ∧ o < 128) (hz : ks.length = n) (hn : n ≤ 24) (hh : A.handled = none)
    (h : ∀ h' t k bs oc, Fr h₀ L h' m → News h₀ L h' news → KBw.bInts bs = oc → bs.size = oc.length → (∀ o ∈ oc, o < 128) → oc.length ≤ 24 → Q (.bytes bs t) { s with heap := h', toks := k }) : wpAny (model prog w) A (call (.type "bytes") [.ref l]) Q E s := by
  have hb : ∀ k ∈ ks, 0 ≤ k ∧ k < 256 := fun k q => by have := hk k q; omega
  refine bytes_K F N hl hi hb (by rw [hi.length, hz, sizeLine_eq]; omega) hh fun h' t k F' N' _ => ?_
  exact h h' t k _ ks F' N' (bInts_of hb) (by simp) (fun o q => (hk o q).2) (by omega)
end
theorem hyp_step {oc : List Int} {i : Nat} {o : Int} (ho : oc[i]? = some o) : hyp oc (i + 1) = if o = 45 then (i : Int) else hyp oc i := by
  show (if oc[i]? = some 45 then (i : Int) else hyp oc i) = _
  rw [ho]
  by_cases h : o = 45
  · rw [if_pos h, if_pos (by rw [h])]
  · rw [if_neg h, if_neg (fun q => h (Option.some.inj q))]
end
end Mine

namespace Mine
section
def All2 (Rel : Int → Value → Prop) : List Int → List Value → Prop
  | [], [] => True
  | k :: ks, y :: ys => Rel k y ∧ All2 Rel ks ys
  | _, _ => False
theorem All2.snoc {Rel : Int → Value → Prop} {k : Int} {y : Value} : ∀ {ks : List Int} {ys : List Value}, All2 Rel ks ys → Rel k y → All2 Rel (ks ++ [k]) (ys ++ [y])
  | [], [], _, h => ⟨h, trivial⟩
  | _ :: _, _ :: _, ⟨a, b⟩, h => ⟨a, All2.snoc b h⟩
  | [], _ :: _, x, _ => x.elim
  | _ :: _, [], x, _ => x.elim
theorem All2.strs {g : Int → Str} : ∀ {ks : List Int} {ys : List Value}, All2 (fun k y => ∃ t, y = .str (g k) t) ks ys → StrsAre ys (ks.map g)
  | [], [], _ => .nil
  | k :: _, _ :: _, ⟨⟨t, rfl⟩, b⟩ => .cons (g k) t (All2.strs b)
  | [], _ :: _, x => x.elim
  | _ :: _, [], x => x.elim
theorem All2.ints {g : Int → Int} : ∀ {ks : List Int} {ys : List Value}, All2 (fun k y => ∃ t, y = .int (g k) t) ks ys → IntsAre ys (ks.map g)
  | [], [], _ => .nil
  | k :: _, _ :: _, ⟨⟨t, rfl⟩, b⟩ => .cons (g k) t (All2.ints b)
  | [], _ :: _, x => x.elim
  | _ :: _, [], x => x.elim
def KEl (news : List (Addr × Obj)) (P : Value → Prop) (y : Value) (news' : List (Addr × Obj)) : Prop := news' = news ∧ P y
def SrcB (prog : Program) (w : World) (A : Around) (h₀ : Heap) (L : Addr) (m : Str → Option Value) (env : Env) (elt : Expr) (x : Str) (scope : Scope) (cl : List (Str × Addr)) (Fin : Shared → List Value → List (Addr × Obj) → Prop) (xv : Value) (s₁ : Shared) : Prop :=
  ∃ bs t news, xv = .bytes bs t ∧ A.handled = none ∧ Fr h₀ L s₁.heap m ∧ News h₀ L s₁.heap news ∧ bs.size ≤ sizeLine ∧
    ∀ s₂ : Shared, (∃ h, s₂ = { s₁ with heap := h }) → LCg.CompRest prog w A h₀ L m env elt x scope cl s₂ (fun _ => True) (fun i v => ∃ (k : UInt8) (t : Tok), bs[i]? = some k ∧ v = .int (k.toNat : Int) t) (Fin s₂) bs.size 0 [] news
section
variable {prog : Program} {w : World} {A : Around} {E : Value → Shared → Prop} {s : Shared} {h₀ : Heap} {L : Addr} {m : Str → Option Value} {env : Env} {elt : Expr} {x : Str} {scope : Scope} {cl : List (Str × Addr)} {news : List (Addr × Obj)}
theorem SrcB.intro {Fin : Shared → List Value → List (Addr × Obj) → Prop} {bs : Array UInt8} {tb : Tok} {ks : List Int} {all : List (Addr × Obj)} (Rel : Int → Value → Prop) (news : List (Addr × Obj)) (hh : A.handled = none) (F : Fr h₀ L s.heap m) (N : News h₀ L s.heap all) (hsub : ∀ p ∈ news, p ∈ all) (hi : KBw.bInts bs = ks) (hz : ks.length ≤ 1000)
    (turn : ∀ k t I oI C oC D m₂ ys h tk (E' : Value → Shared → Prop), k ∈ ks → LCg.NsObj oC m₂ → m₂ x = some (.int k t) → Fr h₀ L h m → News h₀ L h ((I, oI) :: (C, oC) :: (D, LCg.lst ys) :: news) → LCg.Off3 I C D news → ((@Ne Nat I C) ∧ (@Ne Nat I D) ∧ (@Ne Nat C D)) →
      wpAny (model prog w) A (eval elt (compEnvC scope cl C env)) (LCg.CompEnd h₀ L m { s with heap := h, toks := tk } I oI C oC D (LCg.lst ys) (fun _ => True) (fun y news' => KEl news (Rel k) y news')) E' { s with heap := h, toks := tk })
    (fin : ∀ g ys, All2 Rel ks ys → Fin { s with heap := g } ys news) : SrcB prog w A h₀ L m env elt x scope cl Fin (.bytes bs tb) s := by
  have hbs : bs.size = ks.length := by rw [← hi]; exact (KBw.ints_length bs).symm
  refine ⟨bs, tb, news, rfl, hh, F, news_sub N hsub, by rw [sizeLine_eq]; omega, ?_⟩
  rintro _ ⟨g, rfl⟩
  have key : ∀ (j i : Nat) (ys : List Value), i + j = bs.size → All2 Rel (ks.take i) ys → LCg.CompRest prog w A h₀ L m env elt x scope cl { s with heap := g } (fun _ => True) (fun i v => ∃ (k : UInt8) (t : Tok), bs[i]? = some k ∧ v = .int (k.toNat : Int) t) (Fin { s with heap := g }) j i ys news := by
    intro j
    induction j with
    | zero =>
      intro i ys hi' hy
      have e : i = ks.length := by omega
      subst e
      rw [List.take_length] at hy
      exact LCg.CompRest.zero (fin g ys hy)
    | succ j ih =>
      intro i ys hi' hy
      refine LCg.CompRest.succ ?_
      intro v I oI C oC D m₂ h tk E' hv hC hx F' N' off ne
      obtain ⟨k, t, hk, rfl⟩ := hv
      have hk' : ks[i]? = some ((k.toNat : Nat) : Int) := by rw [← hi]; exact KBw.ints_get hk
      refine wpAny_mono (turn _ t I oI C oC D m₂ ys h tk E' (List.mem_of_getElem? hk') hC hx F' N' off ne) (fun y s₂ hq => ?_) fun _ _ e => e
      obtain ⟨h', tk', nw, e, F₂, N₂, off₂, _, rfl, hy'⟩ := hq
      refine ⟨h', tk', nw, e, F₂, N₂, off₂, trivial, ?_⟩
      refine ih (i + 1) _ (by omega) ?_
      rw [List.take_add_one, hk']
      exact hy.snoc hy'
  exact key bs.size 0 [] (by omega) trivial

theorem bytes_st {bs : Array UInt8} {tb : Tok} {I : Addr} : ∀ i (h h' : Heap) (o : Obj) (nw : List (Addr × Obj)), KBw.IsBytesIter h I bs tb i → h.get? I = some o → h'.get? I = some o → (∀ b o, h₀.get? b = some o → h'.get? b = some o) → News h₀ L h' nw → True → KBw.IsBytesIter h' I bs tb i :=
  fun i h h' o nw st e e' _ _ _ => by
    obtain ⟨o', ho, r⟩ := st
    rw [e] at ho
    obtain rfl := Option.some.inj ho
    exact ⟨o, e', r⟩
theorem ListComp_B {iter : Expr} {px : Pos} {pos : Pos} {Q : Value → Shared → Prop} (F₀ : Fr h₀ L s.heap m)
    (hclos : closureFor scope env = pure cl) (hcell : ∀ y ∈ scope.names, y.2 ≠ .cell) (hkind : scope.kind = .function)
    (hnames : ∀ y ∈ scope.names, y.2 = .local → scope.names.lookup y.1 = some .local) (hx : scope.names.lookup x = some .local)
    (h : wpAny (model prog w) A (eval iter env) (SrcB prog w A h₀ L m env elt x scope cl (fun s₂ => LCg.FinE h₀ L m s₂ Q)) E s)
    (hs : ∀ x, foldedSetIterable iter env x = pure x := by intro _; rfl) :
    wpAny (model prog w) A (eval (.ListComp elt [⟨.Name x px, iter, [], 0⟩] scope pos) env) Q E s := by
  rw [eval_ListComp]
  refine wpAny_comprehension_free (use := none) rfl hs hclos hkind hnames (wpAny_mono h (fun xv s₁ h₁ => ?_) fun _ _ e => e)
  obtain ⟨bs, tb, news, rfl, hh, F, N, hsz, R⟩ := h₁
  refine KBw.pyIter_bytes ?_
  refine LCg.block_U (KBw.walks (prog := prog) (w := w) hh s₁.heap.objs.size bs tb) hsz (fun i h st => by obtain ⟨o, e, _⟩ := st; exact ⟨o, e⟩) bytes_st hcell hkind hx ⟨_, Heap.get?_push_size _ rfl, rfl, rfl⟩ (fun b hb => ?_)
    (F.keeps fun _ _ e => Heap.get?_push_of_some _ e) (N.grown fun _ _ e => Heap.get?_push_of_some _ e) (Nat.ne_of_lt F.ns.lt) (next_is_new F) (fun p hp => Nat.ne_of_lt (Heap.lt_size (N p hp).1)) trivial (R _ ⟨_, rfl⟩) ?_
  · rw [List.mem_singleton.mp hb]
    show s₁.heap.objs.size < (s₁.heap.push _).objs.size
    rw [Heap.size_push]; exact Nat.lt_succ_self _
  · intro D C h tk m' ys news' F' N' o1 hn hC₀ hD₀ hCL hDL hCD offC fin
    refine ⟨m', hn, fun h'' hs'' => fin D h'' tk (F'.change hs'' hCL hC₀) (fun p hp => ⟨hs''.extBut _ _ ?_ (N' p hp).1, (N' p hp).2⟩) o1⟩
    rcases List.mem_cons.mp hp with rfl | hp
    · exact Ne.symm hCD
    · exact offC p hp
theorem Assign_ListComp_B {iter : Expr} {y : Str} {px py : Pos} {pos spos : Pos} {Q : Flow → Shared → Prop} (F₀ : Fr h₀ L s.heap m) (hLe : env.locals = L)
    (hsw : swapsWith (.ListComp elt [⟨.Name x px, iter, [], 0⟩] scope pos) (some (.Name y py)) spos.line env = pure true)
    (hclos : closureFor scope env = pure cl) (hcell : ∀ z ∈ scope.names, z.2 ≠ .cell) (hkind : scope.kind = .function)
    (hnames : ∀ z ∈ scope.names, z.2 = .local → scope.names.lookup z.1 = some .local) (hx : scope.names.lookup x = some .local)
    (hy : env.kindOf y = some .local) (hp : (env.scope.kind == .class || (env.scope.kind == .module && env.locals != env.globals)) = false)
    (h : wpAny (model prog w) A (eval iter env) (SrcB prog w A h₀ L m env elt x scope cl (fun s₂ => LCg.FinA h₀ L m s₂ y Q)) E s)
    (hs : ∀ x, foldedSetIterable iter env x = pure x := by intro _; rfl) :
    wpAny (model prog w) A (exec (.Assign [.Name y py] (.ListComp elt [⟨.Name x px, iter, [], 0⟩] scope pos) spos) env) Q E s := by
  subst hLe
  rw [exec_Assign_Name_used _ _ _ _ hsw]
  refine wpAny_bind (wpAny_standAt (wpAny_bind ?_))
  show wpAny _ A (do let _ ← comprehension (.ListComp elt [⟨.Name x px, iter, [], 0⟩] scope pos) scope env _ (newList []) false (eval iter env) (some (assign (.Name y py) env))) _ _ s
  refine wpAny_bind (wpAny_mono (wpAny_comprehension_free (use := some (assign (.Name y py) env)) (Q := fun _ s' => Q .next s') rfl hs hclos hkind hnames
    (wpAny_mono h (fun xv s₁ h₁ => ?_) fun _ _ e => e)) (fun _ s' hq => wpAny_pure (wpAny_pure hq)) fun _ _ e => e)
  obtain ⟨bs, tb, news, rfl, hh, F, N, hsz, R⟩ := h₁
  refine KBw.pyIter_bytes ?_
  refine LCg.block_U (KBw.walks (prog := prog) (w := w) hh s₁.heap.objs.size bs tb) hsz (fun i h st => by obtain ⟨o, e, _⟩ := st; exact ⟨o, e⟩) bytes_st hcell hkind hx ⟨_, Heap.get?_push_size _ rfl, rfl, rfl⟩ (fun b hb => ?_)
    (F.keeps fun _ _ e => Heap.get?_push_of_some _ e) (N.grown fun _ _ e => Heap.get?_push_of_some _ e) (Nat.ne_of_lt F.ns.lt) (next_is_new F) (fun p hp => Nat.ne_of_lt (Heap.lt_size (N p hp).1)) trivial (R _ ⟨_, rfl⟩) ?_
  · rw [List.mem_singleton.mp hb]
    show s₁.heap.objs.size < (s₁.heap.push _).objs.size
    rw [Heap.size_push]; exact Nat.lt_succ_self _
  · intro D C h' tk m' ys news' F' N' o1 hn hC₀ hD₀ hCL hDL hCD offC fin
    show wpAny _ A (assign (.Name y py) env (.ref D)) _ _ _
    refine wpAny_assign_Name (wpAny_storeName_local hy F'.ns (fun h₂ hn₂ hs₂ => ?_) hp)
    have hL₀ : h₀.get? env.locals = none := Heap.get?_none_of_le F'.above
    have F₂ : Fr h₀ env.locals h₂ (fun z => if z = y then some (.ref D) else m z) := ⟨hn₂, fun b o e => hs₂.extBut b o (fun q => by rw [q, hL₀] at e; cases e) (F'.keep b o e), F'.above⟩
    refine ⟨m', hn.sameBut hs₂ hCL, fun h'' hs'' => fin D h'' _ (F₂.change hs'' hCL hC₀) (fun p hp => ⟨hs''.extBut _ _ ?_ (hs₂.extBut _ _ (N' p hp).2.1 (N' p hp).1), (N' p hp).2⟩) o1⟩
    rcases List.mem_cons.mp hp with rfl | hp
    · exact Ne.symm hCD
    · exact offC p hp
end
theorem head_ints {bs : Array UInt8} {oc : List Int} (hi : KBw.bInts bs = oc) {hy : Int} (h : hy = hyp oc oc.length) : KBw.bInts (KBy.picked (KBy.picked bs none (some (hy + 1))) none (some (-1))) = oc.take (hyp oc oc.length).toNat := by
  obtain ⟨q1, q2⟩ := hyp_range oc oc.length
  subst h
  obtain ⟨n, hn⟩ : ∃ n : Nat, hyp oc oc.length + 1 = n := ⟨(hyp oc oc.length + 1).toNat, by omega⟩
  have hq : (hyp oc oc.length).toNat = n - 1 := by omega
  rw [KBc.ints_picked (KBc.ints_picked hi none (some (hyp oc oc.length + 1))) none (some (-1)), hn, hq]
  have e1 : (Option.some (n : Int)).elim oc.length (clipAt oc.length) = n := by
    show clipAt oc.length (n : Int) = n
    rw [clipAt_nat]; omega
  rw [e1]
  show (((oc.drop 0).take (n - 0)).drop 0).take (clipAt ((oc.drop 0).take (n - 0)).length (-((1 : Nat) : Int)) - 0) = _
  rw [clipAt_neg _ 1 (Nat.le_refl 1)]
  simp only [List.drop_zero, Nat.sub_zero, List.length_take, List.take_take]
  congr 1
  omega
theorem tail_ints {bs : Array UInt8} {oc : List Int} (hi : KBw.bInts bs = oc) {hy : Int} (h : hy = hyp oc oc.length) : KBw.bInts (KBy.picked bs (some (hy + 1)) none) = oc.drop (hyp oc oc.length + 1).toNat := by
  obtain ⟨q1, q2⟩ := hyp_range oc oc.length
  subst h
  rw [KBc.ints_picked hi (some (hyp oc oc.length + 1)) none]
  obtain ⟨n, hn⟩ : ∃ n : Nat, hyp oc oc.length + 1 = n := ⟨(hyp oc oc.length + 1).toNat, by omega⟩
  rw [hn]
  have e : (Option.some (n : Int)).elim 0 (clipAt oc.length) = n := by
    show clipAt oc.length (n : Int) = n
    rw [clipAt_nat]; omega
  rw [e, Int.toNat_natCast]
  show (oc.drop n).take (oc.length - n) = _
  rw [List.take_of_length_le (by rw [List.length_drop]; omega)]
section
variable {prog : Program} {w : World} {A : Around} {E : Value → Shared → Prop} {s : Shared} {h₀ : Heap} {L D : Addr} {news : List (Addr × Obj)} {ys : List Value} {n : Nat} {t : Tok}
theorem r_joinH {ks : List Int} {Q : Value → Shared → Prop} (N : News h₀ L s.heap news) (hm : (D, LCg.lst ys) ∈ news) (hi : All2 (fun k y => ∃ t, y = .str (sg k.toNat) t) ks ys) (hok : ks.length ≤ 1000000)
    (h : ∀ t' k H, H.cps.toList = ks.map Int.toNat → H.length = ks.length → Q (.str H t') { s with toks := k }) :
    wpAny (model prog w) A (call (.builtin "str.join") [.str (Str.ofString "") t, .ref D]) Q E s := by
  have e1 : ks.map (fun k => sg k.toNat) = (ks.map Int.toNat).map sg := by simp [List.map_map, Function.comp_def]
  refine r_join N hm hi.strs rfl ?_ fun t' k => ?_
  · have : (((ks.map fun k => sg k.toNat)).map (·.length)).sum = ks.length := by
      clear hi hok h
      induction ks with
      | nil => rfl
      | cons a r ih =>
        simp only [List.map_cons, List.sum_cons, List.length_cons]
        rw [ih (by simp [List.map_map, Function.comp_def])]
        show 1 + r.length = r.length + 1
        omega
    omega
  · rw [e1, join_sg]; exact h t' k _ rfl (by simp [Str.length])
end
theorem eq_strT {prog : Program} {w : World} {A : Around} {E : Value → Shared → Prop} {s : Shared} {x y : Str} {t u : Tok} {Q : Value → Shared → Prop} (e : x = y) (h : Q (.bool true) s) : wpAny (model prog w) A (compareOp .Eq (.str x t) (.str y u)) Q E s :=
  PyProof.Rows.eq_str (by subst e; rw [beq_self_eq_true]; exact h)
end
end Mine

namespace Mine
section
def BMark : Prop := True
theorem law_holds : PySem.Challenge.rw_rl0154_01.Holds := hd (by
  k_with_none
  k_with "pyIter ref" => (k_here; (with_reducible rename BMark => bm9); (refine Stop.intro ?_))
  k_with "FPost" => (dsimp only [FPost])
  k_with "call type:bytes" => (k_here; (with_reducible show wpAny _ _ (call (Value.type _) [Value.ref _]) _ _ _); k_dflt (refine' label_K ?F ?N ?l ?i ?r ?z ?n ?h ?_; (case F => k_asm); (case N => k_asm); (case l => is_list); (case i => with_reducible assumption); (case r => (intro o9 h9; obtain ⟨k9, _, e9⟩ := List.mem_map.mp h9; subst e9; exact tab_lt _ (by decide +kernel) _)); (case z => exact List.length_map _); (case n => (rw [List.length_take]; omega)); (case h => with_unfolding_all rfl); k_whole); intro h' t' k' bs9 oc9 F' N' hi9 hs9 ha9 hl9; (have bm9 : BMark := True.intro); (try k_sweep))
  k_with "eval ListComp" => (k_here; (with_reducible rename BMark => bm9); k_dflt (refine ListComp_B (F₀ := by k_asm) (by with_unfolding_all rfl) (by decide) (by rfl) (by decide) (by rfl) ?_))
  k_with "exec Assign cons ListComp" => (k_here; (with_reducible rename BMark => bm9); k_dflt (refine Assign_ListComp_B (F₀ := by k_asm) (by rfl) (by with_unfolding_all rfl) (by with_unfolding_all rfl) (by decide) (by rfl) (by decide) (by rfl) (by rfl) (by rfl) ?_))
  k_with "SrcB" => (refine Stop.intro ?_)
  k_with "call builtin:str.join" => (k_here; k_dflt (refine' r_joinH ?k1 ?k2 ?k3 ?k4 ?_; (case k1 => k_asm); (case k2 => k_mem); (case k3 => with_reducible assumption); (case k4 => (rw [List.length_take]; omega)); intro t9 k9 H9 hH9 hL9; (rw [List.length_take] at hL9)))
  k_with "call ref cons nil" => (k_here; k_dflt (refine' Ctr.ask (readL_c _ _ _ _ _ _ _ _ ?h1 ?h2 ?h3 ?h4) (ret := ?_)); (case h1 => k_mem); (case h2 => with_reducible assumption); (case h3 => ((have q1 : (Str.ofString "中").length = 1 := by decide); (have q2 : (Str.ofString "é").length = 1 := by decide); (try rw [Str.length_append]); (try rw [Str.length_append]); first | omega | (simp only [Str.length, List.length_map, List.length_take, List.length_drop, List.size_toArray]; omega) | (simp; omega))); (case h4 => ((have q1 : (Str.ofString "中").length = 1 := by decide); (have q2 : (Str.ofString "é").length = 1 := by decide); (try rw [Str.length_append]); (try rw [Str.length_append]); first | omega | (simp only [Str.length, List.length_map, List.length_take, List.length_drop, List.size_toArray]; omega) | (simp; omega))); intro r9 tl9 h9 tk9 F9 N9 hl9 hR9; obtain ⟨ht9, t9, he9⟩ := hR9; subst ht9; subst he9; clear hl9; (simp only [List.nil_append] at N9); (try k_sweep); (try dsimp only); (try k_fold))
  k_with "call ref cons nil" => (k_here; k_dflt (refine' Ctr.ask (readB_c _ _ _ _ _ _ _ ?h2 ?h3 ?h4) (ret := ?_)); (case h2 => with_reducible assumption); (case h3 => ((have q1 : (Str.ofString "中").length = 1 := by decide); (have q2 : (Str.ofString "é").length = 1 := by decide); (try rw [Str.length_append]); (try rw [Str.length_append]); first | omega | (simp only [Str.length, List.length_map, List.length_take, List.length_drop, List.size_toArray]; omega) | (simp; omega))); (case h4 => ((have q1 : (Str.ofString "中").length = 1 := by decide); (have q2 : (Str.ofString "é").length = 1 := by decide); (try rw [Str.length_append]); (try rw [Str.length_append]); first | omega | (simp only [Str.length, List.length_map, List.length_take, List.length_drop, List.size_toArray]; omega) | (simp; omega))); intro r9 tl9 h9 tk9 F9 N9 hl9 hR9; obtain ⟨ht9, t9, he9⟩ := hR9; subst ht9; subst he9; clear hl9; (simp only [List.nil_append] at N9); (try k_sweep); (try dsimp only); (try k_fold))
  k_with "call ref cons nil" => (k_here; k_dflt (refine' CtrT.ask0 (puny_c _ _ _ _ ?h1 _ _ _ ?h2 ?h3 ?h4) (ret := ?_)); (case h1 => with_reducible assumption); (case h2 => first | exact .inl rfl | exact .inr rfl); (case h3 => omega); (case h4 => assumption); intro r9 tl9 h9 tk9 F9 N9 hl9 hR9; replace hR9 := or_self_iff.mp hR9; obtain ⟨ht9, t9, he9⟩ := hR9; subst ht9; subst he9; clear hl9; (simp only [List.nil_append] at N9); (try k_sweep); (try dsimp only); (try k_fold))
  k_with "call ref cons nil" => (k_here; k_dflt (refine' CtrT.ask0 (insort_c _ _ _ _ _ ?h1 _ _ _ _ ?h2 ?h3 ?h4) (ret := ?_)); (case h1 => with_reducible assumption); (case h2 => decide); (case h3 => ((have q1 : (Str.ofString "中").length = 1 := by decide); (have q2 : (Str.ofString "é").length = 1 := by decide); (try rw [Str.length_append]); (try rw [Str.length_append]); first | omega | (simp only [Str.length, List.length_map, List.length_take, List.length_drop, List.size_toArray]; omega) | (simp; omega))); (case h4 => ((have q1 : (Str.ofString "中").length = 1 := by decide); (have q2 : (Str.ofString "é").length = 1 := by decide); (try rw [Str.length_append]); (try rw [Str.length_append]); first | omega | (simp only [Str.length, List.length_map, List.length_take, List.length_drop, List.size_toArray]; omega) | (simp; omega))); intro r9 tl9 h9 tk9 F9 N9 hl9 hR9; replace hR9 := or_self_iff.mp hR9; obtain ⟨ht9, t9, he9⟩ := hR9; subst ht9; subst he9; clear hl9; (simp only [List.nil_append] at N9); (try k_sweep); (try dsimp only); (try k_fold))
  k_with "compareOp Eq str str" => (k_here; k_dflt (refine' eq_strT ?eq9 ?_; (case eq9 => first | exact rfl | exact (readW_str (by assumption)).symm)))
  k_go0
  (all_goals try k_fold)
  k_steps
  rename KBw.bInts _ = _ => hi
  rename (Array.size _ = List.length _) => hbs
  rename (∀ o ∈ _, o < 128) => hasc
  rename (List.length _ ≤ 24) => hl
  rename Array UInt8 => bs
  rename List Int => oc
  unfold Stop
  refine' forRange (σ := Int × Tok × Tok) (n := oc.length) (fun _ => []) (fun c => [(Str.ofString "hyphen", .int c.1 c.2.1), (Str.ofString "label", .bytes bs c.2.2)]) (fun i c => c.1 = hyp oc i) rfl (by assumption) ?_ ?_ (by assumption) (by assumption) ?_ ?_ ?_
  · exact small_one (by omega) (by omega) (by omega) (by omega)
  · rw [rangeSize_nat]; omega
  · refine' ⟨(_, _, _), by kst_in, by kst_all, ?_⟩
    rfl
  · rintro ⟨hy, th, tl⟩ I i ti u h tk oI hin hP hne F N
    dsimp only [kstB] at F hP
    have ho : oc[i]? = some oc[i] := by simp [hin]
    have hg : oc.getD (0 + (i : Int) * 1).toNat 0 = oc[i] := by
      have e : (0 + (i : Int) * 1).toNat = i := by omega
      rw [e, List.getD_eq_getElem?_getD, ho]; rfl
    have hst := hyp_step ho
    rw [← hg] at hst
    k_steps
    · refine' FEnd.intro (_, _, _) (by assumption) (by assumption) (.head _) (fun _ h => nomatch h) (fun _ h => nomatch h) (by kst_all) ?_
      rw [hst, if_pos (by assumption)]
      dsimp only; omega
    · refine' FEnd.intro (_, _, _) (by assumption) (by assumption) (.head _) (fun _ h => nomatch h) (fun _ h => nomatch h) (by kst_all) ?_
      rw [hst, if_neg (by assumption)]
      exact hP
  · rintro ⟨hy, th, tl⟩ u h tk hP F N
    dsimp only [kstB] at F hP
    have hh9 := head_ints hi hP
    k_steps
    unfold Stop
    refine' SrcB.intro (fun k y => ∃ t, y = .str (sg k.toNat) t) [] rfl (by assumption) (by assumption) (fun _ h => nomatch h) hh9 (by rw [List.length_take]; omega) ?_ ?_
    · intro k t I oI C oC D m₂ ys h tk E' hk' hC' hx' F' N' off' ne'
      have hk0 := KBw.ints_in (hi ▸ List.mem_of_mem_take hk')
      (simp only [LCg.Off3, and_true] at off')
      (try k_fold)
      k_steps
      exact ⟨rfl, _, rfl⟩
    · intro g ys hA
      have ht9 := tail_ints hi hP
      k_steps
      unfold Stop
      refine' SrcB.intro (fun k y => ∃ t, y = .int (up k) t) [] rfl (by assumption) (by assumption) (fun _ h => nomatch h) ht9 (by rw [List.length_drop]; omega) ?_ ?_
      · intro k t I oI C oC D m₂ ys h tk E' hk' hC' hx' F' N' off' ne'
        (simp only [LCg.Off3, and_true] at off')
        (try k_fold)
        k_steps
        all_goals exact ⟨rfl, int_ret (by unfold up; split <;> omega)⟩
      · intro g ys hA2
        have hI2 := hA2.ints
        k_steps)
end
end Mine

theorem PySem.Challenge.cw_rl0154_01_holds : PySem.Challenge.rw_rl0154_01.Holds := by
  exact Mine.law_holds
