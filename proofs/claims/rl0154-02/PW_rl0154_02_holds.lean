import PyProof.Rows.All
import Wide.All
import OpenK.AllK
import Wide.FinOn
import PySem.Challenge.RW_rl0154_02
open PySem PySem.W PySem.Spec PySem.Calls PyProof.Rows
set_option Elab.async false
set_option maxRecDepth 100000
set_option maxHeartbeats 8000000
local macro_rules | `(tactic| walk_at $s:str) => `(tactic| k_extra $s)

namespace Mine
section
def Stop (P : Prop) : Prop := P
theorem Stop.intro {P : Prop} (h : Stop P) : P := h
theorem Stop.out {P : Prop} (h : P) : Stop P := h

/-- what is asked of the caller's place, and what the call hands back -/
def Ctr (prog : Program) (w : World) (K : Frag) (p : Program) (f : Addr) (dd uu : Nat) (vs : List Value) (news : List (Addr × Obj)) (R : List (Addr × Obj) → Value → Prop) : Prop :=
  ∀ (loose : List Str) (mean : ExcName → Option Value) (mg mb : Str → Option Value) (dp un : Nat) (gd : Option (List Code)) (cn : Str) (cs : Scope) (a : Addr) (ccd : Value) (cl : List (Str × Addr)) (outer : List Env) (A₀ : Around) (base h₀ : Heap) (L : Addr) (m : Str → Option Value) (s : Shared) (Q E : Value → Shared → Prop),
    Below A₀ base outer h₀ → Fr h₀ L s.heap m → K.In h₀ → News h₀ L s.heap news → Top p loose mean mg mb h₀ → cs.kind = .function → dp + dd < recursionLimit → un + 8 * uu < cLine →
    (∀ r tl h' tk', Fr h₀ L h' m → News h₀ L h' (tl ++ news) → (∀ q ∈ news, ∀ p ∈ tl, q.1 < p.1) → R tl r → Q r { s with heap := h', toks := tk' }) →
      wpAny (model prog w) (ktrTop dp un gd cn cs L a ccd cl outer) (call (.ref f) vs) Q E s

/-- the same, its premises found by themselves -/
theorem Ctr.ask {prog : Program} {w : World} {K : Frag} {p : Program} {f : Addr} {dd uu : Nat} {vs : List Value} {news : List (Addr × Obj)} {R : List (Addr × Obj) → Value → Prop}
    {loose : List Str} {mean : ExcName → Option Value} {mg mb : Str → Option Value} {dp un : Nat} {gd : Option (List Code)} {cn : Str} {cs : Scope} {a : Addr} {ccd : Value} {cl : List (Str × Addr)} {outer : List Env} {A₀ : Around} {base h₀ : Heap} {L : Addr} {m : Str → Option Value} {s : Shared} {Q E : Value → Shared → Prop}
    (C : Ctr prog w K p f dd uu vs news R) (B : Below A₀ base outer h₀ := by k_asm) (F : Fr h₀ L s.heap m := by k_asm) (X : K.In h₀ := by k_asm) (N : News h₀ L s.heap news := by k_asm) (T : Top p loose mean mg mb h₀ := by k_asm) (hk : cs.kind = .function := by first | exact rfl | assumption) (hd : dp + dd < recursionLimit := by ktr_room) (hu : un + 8 * uu < cLine := by ktr_units)
    (ret : ∀ r tl h' tk', Fr h₀ L h' m → News h₀ L h' (tl ++ news) → (∀ q ∈ news, ∀ p ∈ tl, q.1 < p.1) → R tl r → Q r { s with heap := h', toks := tk' }) :
    wpAny (model prog w) (ktrTop dp un gd cn cs L a ccd cl outer) (call (.ref f) vs) Q E s := C _ _ _ _ _ _ _ _ _ _ _ _ _ _ _ _ _ _ _ _ _ B F X N T hk hd hu ret

theorem news_sub {h₀ h : Heap} {L : Addr} {news led : List (Addr × Obj)} (N : News h₀ L h news) (hs : ∀ p ∈ led, p ∈ news) : News h₀ L h led := fun p hp => N p (hs p hp)
theorem news_dup {h₀ h : Heap} {L : Addr} {news : List (Addr × Obj)} {p : Addr × Obj} (N : News h₀ L h news) (hp : p ∈ news) : News h₀ L h (p :: news) := fun q hq => by
  rcases List.mem_cons.mp hq with rfl | hq
  · exact N _ hp
  · exact N _ hq
theorem allLt_mem {d : Addr} : ∀ {l : List (Addr × Obj)}, AllLt d l → ∀ p ∈ l, p.1 < d
  | [], _, _, hp => (nomatch hp)
  | q :: r, h, p, hp => by
    rcases List.mem_cons.mp hp with rfl | hp
    · exact h.1
    · exact allLt_mem h.2 p hp
/-- the frame's map m holds the pairs ps; the equations stand so that their proofs are short -/
def AllP (m : Str → Option Value) : List (Str × Value) → Prop
  | [] => True
  | p :: r => some p.2 = m p.1 ∧ AllP m r
theorem AllP.nil {m : Str → Option Value} : AllP m [] := True.intro
theorem AllP.cons {m : Str → Option Value} {x : Str} {v : Value} {r : List (Str × Value)} (h : some v = m x) (t : AllP m r) : AllP m ((x, v) :: r) := ⟨h, t⟩
theorem all_of {m : Str → Option Value} : ∀ {ps : List (Str × Value)}, AllP m ps → ∀ p ∈ ps, m p.1 = some p.2
  | [], _, _, hp => nomatch hp
  | _ :: _, h, p, hp => by
    rcases List.mem_cons.mp hp with rfl | hp
    · exact h.1.symm
    · exact all_of h.2 p hp
theorem kstB_all {m₁ : Str → Option Value} {ps : List (Str × Value)} (h : ∀ p ∈ ps, m₁ p.1 = some p.2) : kstB m₁ ps = m₁ := funext fun _ => kstB_eq h fun _ => rfl

/-- the end of a loop's turn, named: Q itself stays out of the walk's goals -/
def Blk (Q : Flow → Shared → Prop) : Flow → Shared → Prop := Q
theorem prod3 {A B C : Type} {P : A × B × C → Prop} (h : ∀ a b c, P (a, b, c)) : ∀ c, P c := fun (a, b, c) => h a b c
theorem prod4 {A B C D : Type} {P : A × B × C × D → Prop} (h : ∀ a b c d, P (a, b, c, d)) : ∀ c, P c := fun (a, b, c, d) => h a b c d
theorem prod8 {A B C D E F G H : Type} {P : A × B × C × D × E × F × G × H → Prop} (h : ∀ a b c d e f g i, P (a, b, c, d, e, f, g, i)) : ∀ c, P c := fun (a, b, c, d, e, f, g, i) => h a b c d e f g i
theorem prod10 {A B C D E F G H I J : Type} {P : A × B × C × D × E × F × G × H × I × J → Prop} (h : ∀ a b c d e f g i j k, P (a, b, c, d, e, f, g, i, j, k)) : ∀ c, P c := fun (a, b, c, d, e, f, g, i, j, k) => h a b c d e f g i j k

section
variable {prog : Program} {w : World} {A : Around} {E : Value → Shared → Prop} {Q : Flow → Shared → Prop} {s : Shared} {env : Env} {h₀ : Heap} {L : Addr} {σ : Type}

def WEnd (h₀ : Heap) (L : Addr) (s : Shared) (Led : σ → List (Addr × Obj)) (ps : σ → List (Str × Value)) (P : σ → Prop) (μ : σ → Nat) (c : σ) (s₂ : Shared) : Prop :=
  ∃ (c' : σ) (h' : Heap) (tk : Nat) (m' : Str → Option Value) (news' : List (Addr × Obj)), s₂ = { s with heap := h', toks := tk } ∧ Fr h₀ L h' m' ∧ News h₀ L h' news' ∧ (∀ p ∈ Led c', p ∈ news') ∧ (∀ p ∈ ps c', m' p.1 = some p.2) ∧ P c' ∧ μ c' < μ c
def WPost (h₀ : Heap) (L : Addr) (s : Shared) (Led : σ → List (Addr × Obj)) (ps : σ → List (Str × Value)) (P : σ → Prop) (μ : σ → Nat) (Q : Flow → Shared → Prop) (c : σ) (f : Flow) (s₂ : Shared) : Prop :=
  match f with
  | .ret v => Q (.ret v) s₂
  | .brk => Q .next s₂
  | _ => WEnd h₀ L s Led ps P μ c s₂
theorem WEnd.intro {Led : σ → List (Addr × Obj)} {ps : σ → List (Str × Value)} {P : σ → Prop} {μ : σ → Nat} {c : σ} {h' : Heap} {tk : Nat} {m' : Str → Option Value} {news' : List (Addr × Obj)} (c' : σ)
    (F : Fr h₀ L h' m') (N : News h₀ L h' news') (hn : ∀ p ∈ Led c', p ∈ news') (hk : AllP m' (ps c')) (hp : P c') (hm : μ c' < μ c) :
    WEnd h₀ L s Led ps P μ c { s with heap := h', toks := tk } := ⟨c', h', tk, m', news', rfl, F, N, hn, all_of hk, hp, hm⟩

theorem whileR {test : Expr} {body : List Stmt} {pos : Pos} {m₀ : Str → Option Value} {news : List (Addr × Obj)} (Led : σ → List (Addr × Obj)) (ps : σ → List (Str × Value)) (P : σ → Prop) (μ : σ → Nat)
    (F : Fr h₀ L s.heap m₀) (N : News h₀ L s.heap news) (start : ∃ c₀ : σ, (∀ p ∈ Led c₀, p ∈ news) ∧ AllP m₀ (ps c₀) ∧ P c₀)
    (turn : ∀ (c : σ) (u : Str → Option Value) h tk, P c → Fr h₀ L h (kstB u (ps c)) → News h₀ L h (Led c) → ∀ Qb : Flow → Shared → Prop, (∀ f s₂, WPost h₀ L s Led ps P μ Q c f s₂ → Qb f s₂) →
      wpAny (model prog w) A (isTrue test env (eval test env)) (fun b s₂ =>
        if b = true then wpAny (model prog w) A (execs body env) (Blk Qb) E s₂ else Q .next s₂) E { s with heap := h, toks := tk })
    (hE : PassesOwn (model prog w) A env E := by passes_own) :
    wpAny (model prog w) A (exec (.While test body [] pos) env) Q E s := by
  obtain ⟨c₀, hn, hk, hp⟩ := start
  replace hk := all_of hk
  refine While_inv2 (fun n m nx => ∃ c : σ, nx = Led c ∧ μ c = n ∧ (∀ p ∈ ps c, m p.1 = some p.2) ∧ P c) F (news_sub N hn) ⟨c₀, rfl, rfl, hk, hp⟩ ?_ hE
  rintro n m₁ nx h tk F₁ N₁ ⟨c, hnx, hsz, h1, hp'⟩
  rw [hnx] at N₁
  rw [← hsz]
  refine wpAny_mono (turn c m₁ h tk hp' ((kstB_all h1).symm ▸ F₁) N₁ (WPost h₀ L s Led ps P μ Q c) fun _ _ x => x) (fun b s₂ p => ?_) fun _ _ x => x
  cases b with
  | false => simpa using p
  | true =>
    simp only [if_true] at p ⊢
    refine wpAny_mono p (fun f s₃ q => ?_) fun _ _ x => x
    cases f with
    | ret v => exact q
    | brk => exact q
    | next =>
      obtain ⟨c', h', tk', m', news', rfl, F', N', hn', hk', hp9, hm9⟩ := q
      exact ⟨h', tk', m', Led c', μ c', rfl, F', fun p hp => N' p (hn' p hp), hm9, c', rfl, rfl, hk', hp9⟩
    | cont =>
      obtain ⟨c', h', tk', m', news', rfl, F', N', hn', hk', hp9, hm9⟩ := q
      exact ⟨h', tk', m', Led c', μ c', rfl, F', fun p hp => N' p (hn' p hp), hm9, c', rfl, rfl, hk', hp9⟩
end

section
variable {prog : Program} {w : World} {A : Around} {E : Value → Shared → Prop} {Q : Flow → Shared → Prop} {s : Shared} {env : Env} {h₀ : Heap} {σ : Type} {x : Str} {body : List Stmt}

def FEnd (h₀ : Heap) (L : Addr) (s : Shared) (I : Addr) (oI : Obj) (Led : σ → List (Addr × Obj)) (ps : σ → List (Str × Value)) (P : σ → Prop) (s₂ : Shared) : Prop :=
  ∃ (c' : σ) (h' : Heap) (tk : Nat) (m' : Str → Option Value) (news' : List (Addr × Obj)), s₂ = { s with heap := h', toks := tk } ∧ Fr h₀ L h' m' ∧ News h₀ L h' news' ∧ (I, oI) ∈ news' ∧ (∀ p ∈ Led c', p ∈ news') ∧ (∀ p ∈ Led c', p.1 ≠ I) ∧ (∀ p ∈ ps c', m' p.1 = some p.2) ∧ P c'
def FPost (h₀ : Heap) (L : Addr) (s : Shared) (I : Addr) (oI : Obj) (Led : σ → List (Addr × Obj)) (ps : σ → List (Str × Value)) (P : σ → Prop) (Q : Flow → Shared → Prop) (f : Flow) (s₂ : Shared) : Prop :=
  match f with
  | .ret v => Q (.ret v) s₂
  | .brk => Q .next s₂
  | _ => FEnd h₀ L s I oI Led ps P s₂
theorem FEnd.intro {L I : Addr} {oI : Obj} {Led : σ → List (Addr × Obj)} {ps : σ → List (Str × Value)} {P : σ → Prop} {h' : Heap} {tk : Nat} {m' : Str → Option Value} {news' : List (Addr × Obj)} (c' : σ)
    (F : Fr h₀ L h' m') (N : News h₀ L h' news') (hI : (I, oI) ∈ news') (hn : ∀ p ∈ Led c', p ∈ news') (hne : ∀ p ∈ Led c', p.1 ≠ I) (hk : AllP m' (ps c')) (hp : P c') :
    FEnd h₀ L s I oI Led ps P { s with heap := h', toks := tk } := ⟨c', h', tk, m', news', rfl, F, N, hI, hn, hne, all_of hk, hp⟩

theorem forR {I : Addr} {fp : List Addr} {n : Nat} {Pv : Nat → Value → Prop} {St : Nat → Heap → Prop} {m₀ : Str → Option Value} (Led : σ → List (Addr × Obj)) (ps : σ → List (Str × Value)) (P : Nat → σ → Prop) (c₀ : σ)
    (W : Walks prog w A I fp [I] n Pv St) (hst : St 0 s.heap) (hlive : ∀ i h, St i h → ∃ o, h.get? I = some o) (hIn : h₀.get? I = none) (hLI : env.locals ≠ I)
    (hfp : ∀ b ∈ fp, b = I ∨ ∃ o, ∀ c, (b, o) ∈ Led c)
    (F : Fr h₀ env.locals s.heap m₀) (N : News h₀ env.locals s.heap (Led c₀)) (hne : ∀ p ∈ Led c₀, p.1 ≠ I) (hk : ∀ p ∈ ps c₀, m₀ p.1 = some p.2) (hp : P 0 c₀)
    (turn : ∀ (c : σ) i v (u : Str → Option Value) h tk oI, i < n → Pv i v → P i c → (∀ p ∈ Led c, p.1 ≠ I) →
      Fr h₀ env.locals h (fun y => if y = x then some v else kstB u (ps c) y) → News h₀ env.locals h ((I, oI) :: Led c) →
      ∀ Qb : Flow → Shared → Prop, (∀ f s₂, FPost h₀ env.locals { s with heap := h, toks := tk } I oI Led ps (P (i + 1)) Q f s₂ → Qb f s₂) → wpAny (model prog w) A (execs body env) (Blk Qb) E { s with heap := h, toks := tk })
    (done : ∀ (c : σ) (u : Str → Option Value) h tk, P n c → Fr h₀ env.locals h (kstB u (ps c)) → News h₀ env.locals h (Led c) → Q .next { s with heap := h, toks := tk }) :
    LoopAtV prog w A h₀ env x body Q E (.ref I) s := by
  have hLf : env.locals ∉ fp := by
    intro hm
    rcases hfp _ hm with e | ⟨o, ho⟩
    · exact hLI e
    · exact (N _ (ho c₀)).2.1 rfl
  refine ⟨I, fp, [I], n, Pv, St, m₀, Led c₀, fun i m nx => ∃ c : σ, nx = Led c ∧ (∀ p ∈ ps c, m p.1 = some p.2) ∧ P i c, rfl, W, hLf, ?_, ?_, hst, F, N, ⟨c₀, rfl, hk, hp⟩, ?_, ?_⟩
  · intro b hb
    rw [List.mem_singleton.mp hb]; exact hIn
  · intro p hp' hI
    exact hne p hp' (List.mem_singleton.mp hI)
  · rintro i v m₁ nx s₁ own ⟨h, tk, rfl⟩ hi hP ⟨c, rfl, h1, hp'⟩ hoff hown hlv hall hst' F₁ N₁
    obtain ⟨oI, hoI⟩ := hlive _ _ hst'
    have hI : (I, oI) ∈ own := hall I (W.sub I (List.mem_singleton.mpr rfl)) hIn oI hoI
    have hne' : ∀ p ∈ Led c, p.1 ≠ I := fun p hp hq => hoff p hp (List.mem_singleton.mpr hq)
    have N₂ : News h₀ env.locals h ((I, oI) :: Led c) := fun p hp => by
      rcases List.mem_cons.mp hp with rfl | hp
      · exact N₁ _ (List.mem_append_left _ hI)
      · exact N₁ _ (List.mem_append_right _ hp)
    have eM : (fun y => if y = x then some v else kstB m₁ (ps c) y) = fun y => if y = x then some v else m₁ y := by rw [kstB_all h1]
    refine wpAny_mono (turn c i v m₁ h tk oI hi hP hp' hne' (eM.symm ▸ F₁) N₂ (FPost h₀ env.locals { s with heap := h, toks := tk } I oI Led ps (P (i + 1)) Q) fun _ _ x => x) (fun f s₂ q => ?_) fun _ _ e => e
    have fin : FEnd h₀ env.locals { s with heap := h, toks := tk } I oI Led ps (P (i + 1)) s₂ → LoopStepU h₀ env.locals [I] own (fun m nx => ∃ c : σ, nx = Led c ∧ (∀ p ∈ ps c, m p.1 = some p.2) ∧ P (i + 1) c) { s with heap := h, toks := tk } .next s₂ := by
      rintro ⟨c', h', tk', m', news', e, F', N', hI', hn', hx', hk', hp9⟩
      refine ⟨rfl, h', tk', m', Led c', e, F', ?_, ?_, c', rfl, hk', hp9⟩
      · intro p hp
        rcases List.mem_append.mp hp with hp | hp
        · rcases hfp _ (hown p hp) with eI | ⟨o, ho⟩
          · have e2 : p.2 = oI := by
              have h3 := hlv p hp
              rw [eI] at h3
              have h4 : some p.2 = some oI := h3.symm.trans hoI
              exact Option.some.inj h4
            have e3 : p = (I, oI) := Prod.ext eI e2
            rw [e3]; exact N' _ hI'
          · have e2 : p.2 = o := by
              have h3 := hlv p hp
              have h4 : some p.2 = some o := h3.symm.trans (N₁ _ (List.mem_append_right _ (ho c))).1
              exact Option.some.inj h4
            have e3 : p = (p.1, o) := Prod.ext rfl e2
            rw [e3]; exact N' _ (hn' _ (ho c'))
        · exact N' p (hn' p hp)
      · intro p hp hq
        exact hx' p hp (List.mem_singleton.mp hq)
    cases f with
    | ret v => exact .ret q
    | brk => exact .brk q
    | next => exact .next (fin q)
    | cont => exact .cont (fin q)
  · rintro h' tk m' news' F' N' _ ⟨c, rfl, h1, hp'⟩
    exact done c m' h' tk hp' ((kstB_all h1).symm ▸ F') N'

/-- over range(a₀, b₀, d) -/
theorem forRange {r : Addr} {a₀ b₀ d : Int} {t₀ u₀ v₀ : Tok} {n : Nat} {m₀ : Str → Option Value} {news : List (Addr × Obj)} (Led : σ → List (Addr × Obj)) (ps : σ → List (Str × Value)) (P : Nat → σ → Prop)
    (hh : A.handled = none) (hr : IsRange s.heap r a₀ b₀ d t₀ u₀ v₀) (hsmall : Builtin.Range.small a₀ b₀ d = true) (hn0 : Builtin.Range.rangeSize a₀ b₀ d = (n : Int))
    (F : Fr h₀ env.locals s.heap m₀) (N : News h₀ env.locals s.heap news) (start : ∃ c₀ : σ, (∀ p ∈ Led c₀, p ∈ news) ∧ AllP m₀ (ps c₀) ∧ P 0 c₀)
    (turn : ∀ (c : σ) I (i : Nat) t (u : Str → Option Value) h tk oI, i < n → P i c → (∀ p ∈ Led c, p.1 ≠ I) →
      Fr h₀ env.locals h (fun y => if y = x then some (.int (a₀ + i * d) t) else kstB u (ps c) y) → News h₀ env.locals h ((I, oI) :: Led c) →
      ∀ Qb : Flow → Shared → Prop, (∀ f s₂, FPost h₀ env.locals { s with heap := h, toks := tk } I oI Led ps (P (i + 1)) Q f s₂ → Qb f s₂) → wpAny (model prog w) A (execs body env) (Blk Qb) E { s with heap := h, toks := tk })
    (done : ∀ (c : σ) (u : Str → Option Value) h tk, P n c → Fr h₀ env.locals h (kstB u (ps c)) → News h₀ env.locals h (Led c) → Q .next { s with heap := h, toks := tk }) :
    wpAny (model prog w) A (pyIter (.ref r)) (fun it s₂ => LoopAtV prog w A h₀ env x body Q E it s₂) E s := by
  obtain ⟨c₀, hn, hk, hp⟩ := start
  replace hk := all_of hk
  have N0 := news_sub N hn
  refine wpAny_pyIter_range hr hsmall ?_
  have W := Walks.range (prog := prog) (w := w) hh s.heap.objs.size a₀ d n
  refine forR Led ps P c₀ W (by show IsRangeIter _ _ _ _ _; rw [hn0]; simpa using Heap.get?_push_size _ rfl) ?_ (next_is_new F) (Nat.ne_of_lt F.ns.lt) ?_ (F.push _) (fun p hp => ⟨Heap.get?_push_of_some _ (N0 p hp).1, (N0 p hp).2⟩) ?_ hk hp ?_ done
  · intro i h ho; exact ⟨_, ho⟩
  · intro b hb; exact .inl (List.mem_singleton.mp hb)
  · intro p hp e
    exact absurd (Heap.lt_size (N0 p hp).1) (by rw [e]; exact Nat.lt_irrefl _)
  · rintro c i v u h tk oI hi ⟨t, rfl⟩ hP hne F' N'
    exact turn c _ i t u h tk oI hi hP hne F' N'

end

abbrev pairObj (x y : Int) (t t' : Tok) (n : Nat) : Obj := { cls := .type "tuple", data := .seq #[.int x t, .int y t'] n }
/-- a list of pairs of ints, as the ledger bears it -/
def StoryIn (news : List (Addr × Obj)) (vs : List Value) (sp : List (Int × Int)) : Prop :=
  vs.length = sp.length ∧ ∀ (i : Nat) (x : Int × Int), sp[i]? = some x → ∃ a t t' n, vs[i]? = some (.ref a) ∧ (a, pairObj x.1 x.2 t t' n) ∈ news

theorem kl_cut_of : ∀ {l : List Value} {k : Nat} {y : Value}, l[k]? = some y → kl_cut l k = some (l.take k, y, l.drop (k + 1))
  | [], _, _, h => by simp at h
  | x :: r, 0, y, h => by simp at h; subst h; rfl
  | x :: r, k + 1, y, h => by
    have ih := kl_cut_of (l := r) (k := k) (y := y) (by simpa using h)
    unfold kl_cut
    rw [ih]
    rfl

section
variable {prog : Program} {w : World} {A : Around} {E : Value → Shared → Prop} {s : Shared} {h₀ : Heap} {L D : Addr} {m : Str → Option Value} {news news' : List (Addr × Obj)} {vs : List Value} {n : Nat} {k : Int} {t u : Tok} {v : Value}
theorem r_len {Q : Value → Shared → Prop} (N : News h₀ L s.heap news) (hm : (D, listOf vs.toArray n) ∈ news) (hz : vs.length ≤ 1000000) (h : Q (.int vs.length (s.toks + 1)) { s with toks := s.toks + 1 + 1 }) :
    wpAny (model prog w) A (call (.builtin "len") [.ref D]) Q E s :=
  PyProof.Rows.len_list (PySem.IsL.isList (n := n) (N _ hm).1) (by rw [List.size_toArray]; omega) (by rw [List.size_toArray]; exact h)
theorem r_item {Q : Value → Shared → Prop} (N : News h₀ L s.heap news) (hm : (D, listOf vs.toArray n) ∈ news) (h0 : 0 ≤ k) (hk : vs[k.toNat]? = some v) (hz : vs.length ≤ 1000000) (h : Q v s) :
    wpAny (model prog w) A (getItem (.ref D) (.int k u)) Q E s := by
  have hlt : k.toNat < vs.length := (List.getElem?_eq_some_iff.mp hk).1
  exact wpAny_getItem_list (PySem.IsL.isList (n := n) (N _ hm).1) h0 (by omega) (by simpa using hk) h
theorem r_sub {value slice : PySem.Expr} {Q : Value → Shared → Prop} (N : News h₀ L s.heap news) (hm : (D, listOf vs.toArray n) ∈ news) (h0 : 0 ≤ k) (hk : vs[k.toNat]? = some v) (hz : vs.length ≤ 1000000) (h : Q v s)
    (hs : subscripted slice false (.ref D) (.int k u) = operate [.ref D, .int k u] (getItem (.ref D) (.int k u)) := by with_unfolding_all rfl) :
    wpAny (model prog w) A (subscriptTail value slice (.ref D) (.int k u)) Q E s :=
  tail_any (PySem.IsL.isList (n := n) (N _ hm).1).typeIs slot_list_getitem.lookup (r_item N hm h0 hk hz h) hs
theorem r_popAt {Q : Value → Shared → Prop} (F : Fr h₀ L s.heap m) (N : News h₀ L s.heap news) (U : Upd D (listOf vs.toArray n) (listOf (vs.eraseIdx k.toNat).toArray (n + 1)) news news') (h0 : 0 ≤ k) (hk : vs[k.toNat]? = some v) (hz : vs.length ≤ 1000000)
    (h : ∀ h', Fr h₀ L h' m → News h₀ L h' news' → Q v { s with heap := h' }) : wpAny (model prog w) A (call (.builtin "list.pop") [.ref D, .int k u]) Q E s := by
  have hlt : k.toNat < vs.length := (List.getElem?_eq_some_iff.mp hk).1
  have e : vs.eraseIdx k.toNat = vs.take k.toNat ++ vs.drop (k.toNat + 1) := List.eraseIdx_eq_take_drop_succ ..
  rw [e] at U
  refine kl_popAt F N (k := k.toNat) ?_ ?_ (kl_cut_of hk) U (Nat.le_trans hz (by decide)) h
  · unfold Builtin.List.listFitsIndex
    simp only [Bool.and_eq_true, decide_eq_true_eq]
    constructor <;> omega
  · rw [List.size_toArray]
    unfold seqIndex?
    have : ¬ k < 0 := by omega
    simp [this]
    omega
theorem r_setAt {Q : Unit → Shared → Prop} (F : Fr h₀ L s.heap m) (N : News h₀ L s.heap news) (U : Upd D (listOf vs.toArray n) (listOf (vs.set k.toNat v).toArray n) news news') (h0 : 0 ≤ k) (h1 : k < vs.length) (hz : vs.length ≤ 1000000)
    (h : ∀ h', Fr h₀ L h' m → News h₀ L h' news' → Q () { s with heap := h' }) : wpAny (model prog w) A (setItem (.ref D) (.int k t) v) Q E s := by
  obtain ⟨pre, post, rfl, rfl, a, b⟩ := U.split
  have z := N (D, listOf vs.toArray n) (List.mem_append.mpr (.inr (.head _)))
  have hs : vs.toArray.size = vs.length := by rw [List.size_toArray]
  refine ki_setAt z.1 h0 (by omega) (by omega) (h _ (F.change (Heap.SameBut.update ..) z.2.1 z.2.2) (ki_turn _ N a b ?_ ?_))
  · show vs.toArray.setIfInBounds k.toNat v = (vs.set k.toNat v).toArray
    apply Array.toList_inj.mp
    simp
  · simp
theorem r_join {ys : List Str} {x : Str} {Q : Value → Shared → Prop} (N : News h₀ L s.heap news) (hm : (D, listOf vs.toArray n) ∈ news) (hi : StrsAre vs ys) (hx : x.length = 0) (hok : (ys.map (·.length)).sum ≤ 1000000)
    (h : ∀ t' k, Q (.str (Txt.join x ys) t') { s with toks := k }) : wpAny (model prog w) A (call (.builtin "str.join") [.str x t, .ref D]) Q E s :=
  join_list (PySem.IsL.isList (n := n) (N _ hm).1) (by simpa using hi) (by rw [hx]; omega) h
theorem r_pair0 {value slice : PySem.Expr} {a : Addr} {x y : Int} {t' t2 : Tok} {Q : Value → Shared → Prop} (N : News h₀ L s.heap news) (hm : (a, pairObj x y t' t2 n) ∈ news) (h : Q (.int x t') s)
    (hs : subscripted slice false (.ref a) (.int 0 u) = operate [.ref a, .int 0 u] (getItem (.ref a) (.int 0 u)) := by with_unfolding_all rfl) :
    wpAny (model prog w) A (subscriptTail value slice (.ref a) (.int 0 u)) Q E s :=
  item_tupleT (News.isTup N hm) (by decide) (by decide) (j := 0) rfl rfl h hs
theorem r_pair1 {value slice : PySem.Expr} {a : Addr} {x y : Int} {t' t2 : Tok} {Q : Value → Shared → Prop} (N : News h₀ L s.heap news) (hm : (a, pairObj x y t' t2 n) ∈ news) (h : Q (.int y t2) s)
    (hs : subscripted slice false (.ref a) (.int 1 u) = operate [.ref a, .int 1 u] (getItem (.ref a) (.int 1 u)) := by with_unfolding_all rfl) :
    wpAny (model prog w) A (subscriptTail value slice (.ref a) (.int 1 u)) Q E s :=
  item_tupleT (News.isTup N hm) (by decide) (by decide) (j := 1) rfl rfl h hs
end

theorem mul1_foldl (v : Value) : ∀ (k : Nat) (acc : Array Value), List.foldl (fun x1 x2 => x1 ++ x2) acc (List.replicate k #[v]) = acc ++ (List.replicate k v).toArray
  | 0, acc => by simp
  | k + 1, acc => by
    rw [List.replicate_succ, List.foldl_cons, mul1_foldl v k, List.replicate_succ]
    apply Array.toList_inj.mp
    simp
section
variable {prog : Program} {w : World} {A : Around} {E : Value → Shared → Prop} {s : Shared} {h₀ : Heap} {L D : Addr} {m : Str → Option Value} {news news' : List (Addr × Obj)} {n : Nat} {x : Int} {u : Tok} {v : Value}
theorem r_mul1 {Q : Value → Shared → Prop} (F : Fr h₀ L s.heap m) (N : News h₀ L s.heap news) (hm : (D, listOf #[v] n) ∈ news) (h0 : 0 ≤ x) (hx : x ≤ 1000000)
    (h : ∀ D' h', Fr h₀ L h' m → News h₀ L h' ((D', listOf (List.replicate x.toNat v).toArray 0) :: news) → (∀ p ∈ news, p.1 < D') → Q (.ref D') { s with heap := h' }) :
    wpAny (model prog w) A (binaryOp .Mult (.ref D) (.int x u)) Q E s := by
  refine PyProof.Rows.mul_list F N (N _ hm).1 (by omega) (by omega) (by simp; omega) (fun h' F' N' => h _ h' F' ?_ (fun p hp => Heap.lt_size (N p hp).1))
  have e : List.foldl (fun x1 x2 => x1 ++ x2) #[] (List.replicate (if (#[v] : Array Value).isEmpty = true then 0 else x.toNat) #[v]) = (List.replicate x.toNat v).toArray := by
    rw [mul1_foldl]; simp
  rw [e] at N'
  exact N'
end
theorem StrsAre_length : ∀ {vs : List Value} {ys : List Str}, StrsAre vs ys → vs.length = ys.length
  | _, _, .nil => rfl
  | _, _, .cons _ _ h => by simp [StrsAre_length h]
section
variable {prog : Program} {w : World} {A : Around} {E : Value → Shared → Prop} {s : Shared} {h₀ : Heap} {L D : Addr} {m : Str → Option Value} {news news' : List (Addr × Obj)} {vs : List Value} {n : Nat} {k : Int} {t u : Tok} {v : Value}
theorem r_append {Q : Value → Shared → Prop} (F : Fr h₀ L s.heap m) (N : News h₀ L s.heap news) (U : Upd D (listOf vs.toArray n) (listOf (vs ++ [v]).toArray (n + 1)) news news') (hz : vs.length ≤ 1000000)
    (h : ∀ h', Fr h₀ L h' m → News h₀ L h' news' → Q .none { s with heap := h' }) : wpAny (model prog w) A (call (.builtin "list.append") [.ref D, v]) Q E s := by
  have e : vs.toArray.push v = (vs ++ [v]).toArray := by simp
  refine append_K F N (e.symm ▸ U) h ?_
  rw [List.size_toArray, PySem.sizeLine_eq]
  omega
end
/-- the token counter is of no weight: any will do -/
theorem tok_any {M : Model} {α : Type} {A : Around} {m : Sem α} {Q : α → Shared → Prop} {E : Value → Shared → Prop} {h : Heap} {g d o} {t : Nat} (k : ∀ t', wpAny M A m Q E ⟨h, g, d, t', o⟩) : wpAny M A m Q E ⟨h, g, d, t, o⟩ := k t
/-- a local name is read; the equation stands the other way round, so that its proof is short -/
theorem nameV_L {M : Model} {A : Around} {E : Value → Shared → Prop} {s : Shared} {h₀ : Heap} {env : Env} {m : Str → Option Value} {x : Str} {pos : Pos} {v : Value} {Q : Value → Shared → Prop} (F : Fr h₀ env.locals s.heap m) (hv : some v = m x) (h : Q v s)
    (hk : env.scope.kind = .function) (hx : env.kindOf x = some .local) (hd : (x == ("__debug__" : Str)) = false := by decide) : wpAny M A (eval (.Name x pos) env) Q E s := wpAny_Name (wpAny_loadName_local hk hx F.ns hv.symm h) hd
section
variable {prog : Program} {w : World} {A : Around} {E : Value → Shared → Prop} {s : Shared} {h₀ : Heap} {env : Env} {m : Str → Option Value}
/-- a ≤ x ≤ b, x a local int: two ways on, not three -/
theorem isTrue_between {a b v : Int} {t : Tok} {x : Str} {ka kb : Nat} {p1 p2 p3 pos : Pos} {whole : Sem Value} {Q : Bool → Shared → Prop} (F : Fr h₀ env.locals s.heap m) (hv : some (.int v t) = m x) (h1 : a ≤ v → v ≤ b → ∀ tk, Q true { s with toks := tk }) (h2 : ¬ (a ≤ v ∧ v ≤ b) → ∀ tk, Q false { s with toks := tk })
    (hk : env.scope.kind = .function) (hx : env.kindOf x = some .local) (hd : (x == ("__debug__" : Str)) = false := by decide) :
    wpAny (model prog w) A (isTrue (.Compare (.Constant (.int a) ka p1) [.LtE, .LtE] [.Name x p2, .Constant (.int b) kb p3] pos) env whole) Q E s := by
  refine isTrue_chain (wpAny_Constant_int (test_link (nameV_L (s := { s with toks := s.toks + 1 }) F hv (PyProof.Rows.le_int (wpAny_truthy_bool ?_)) hk hx hd)))
  by_cases ha : a ≤ v
  · simp only [ha, decide_true, if_true]
    refine test_last (wpAny_Constant_int (PyProof.Rows.le_int (wpAny_truthy_bool ?_)))
    by_cases hb : v ≤ b
    · simp only [hb, decide_true]; exact h1 ha hb _
    · simp only [hb, decide_false]; exact h2 (fun q => hb q.2) _
  · simp only [ha, decide_false]
    exact h2 (fun q => ha q.1) _
end
/-- a mark for the walk: a row may ask for it -/
def BMark : Prop := True
/-- the ways through a statement that stores two names, joined -/
theorem st_join2 {M : Model} {A : Around} {E : Value → Shared → Prop} {Q : Flow → Shared → Prop} {s : Shared} {st : Stmt} {env : Env} {h₀ : Heap} {L : Addr} {m : Str → Option Value} {news : List (Addr × Obj)} (_F : Fr h₀ L s.heap m) (_N : News h₀ L s.heap news) (ps : List (Str × Value)) (x y : Str) (P : Value → Value → Prop) (_hk : AllP m ps)
    (hi : ∀ Q' : Flow → Shared → Prop, (∀ v w h' tk m', Fr h₀ L h' m' → News h₀ L h' news → AllP m' ((x, v) :: (y, w) :: ps) → P v w → Q' .next { s with heap := h', toks := tk }) → wpAny M A (exec st env) Q' E s)
    (k : ∀ v w h' tk u, Fr h₀ L h' (kstB u ((x, v) :: (y, w) :: ps)) → News h₀ L h' news → P v w → Q .next { s with heap := h', toks := tk }) : wpAny M A (exec st env) Q E s :=
  hi Q fun v w h' tk m' F' N' hk hp => k v w h' tk m' ((kstB_all (all_of hk)).symm ▸ F') N' hp
theorem st_join1 {M : Model} {A : Around} {E : Value → Shared → Prop} {Q : Flow → Shared → Prop} {s : Shared} {st : Stmt} {env : Env} {h₀ : Heap} {L : Addr} {m : Str → Option Value} {news : List (Addr × Obj)} (_F : Fr h₀ L s.heap m) (_N : News h₀ L s.heap news) (ps : List (Str × Value)) (x : Str) (P : Value → Prop) (_hk : AllP m ps)
    (hi : ∀ Q' : Flow → Shared → Prop, (∀ v h' tk m', Fr h₀ L h' m' → News h₀ L h' news → AllP m' ((x, v) :: ps) → P v → Q' .next { s with heap := h', toks := tk }) → wpAny M A (exec st env) Q' E s)
    (k : ∀ v h' tk u, Fr h₀ L h' (kstB u ((x, v) :: ps)) → News h₀ L h' news → P v → Q .next { s with heap := h', toks := tk }) : wpAny M A (exec st env) Q E s :=
  hi Q fun v h' tk m' F' N' hk hp => k v h' tk m' ((kstB_all (all_of hk)).symm ▸ F') N' hp
end
end Mine

namespace Mine
section
open_top hd for PySem.Challenge.rw_rl0154_02
end
end Mine

namespace Mine
section
theorem int_ret {x y : Int} {t : Tok} (h : x = y) : ∃ t', Value.int x t = .int y t' := ⟨t, by rw [h]⟩
theorem perm_sum {l l' : List Int} (p : l.Perm l') : l.sum = l'.sum := by
  induction p with
  | nil => rfl
  | cons x _ ih => simp [ih]
  | swap x y l => simp; omega
  | trans _ _ h1 h2 => rw [h1, h2]
def tF (j b : Int) : Int := if 36 * (j + 1) - b < 1 then 1 else if 36 * (j + 1) - b > 26 then 26 else 36 * (j + 1) - b
theorem tF_range (j b : Int) : 1 ≤ tF j b ∧ tF j b ≤ 26 := by
  unfold tF
  (repeat' split) <;> omega
theorem int_retT {x j b : Int} {t : Tok} (h : x = tF j b) : ∃ t', Value.int x t = .int (tF j b) t' ∧ 1 ≤ tF j b ∧ tF j b ≤ 26 := ⟨t, by rw [h], tF_range j b⟩
def biasL (d : Nat) (dv : Int) : Int := if h : 455 < d then biasL (d / 35) (dv + 36) else dv + ((36 * d / (d + 38) : Nat) : Int)
termination_by d
decreasing_by omega
def biasF (de : Int) (fi : Bool) (nc : Int) : Int := biasL ((if fi then de.toNat / 700 else de.toNat / 2) + (if fi then de.toNat / 700 else de.toNat / 2) / nc.toNat) 0


theorem biasL_step {d : Nat} {dv : Int} (h : 455 < d) : biasL d dv = biasL (d / 35) (dv + 36) := by
  rw [biasL]; simp only [h, dif_pos]
theorem biasL_end {d : Nat} {dv : Int} (h : ¬ 455 < d) : biasL d dv = dv + ((36 * d / (d + 38) : Nat) : Int) := by
  rw [biasL]; simp only [h, dif_neg, not_false_eq_true]
theorem toNat_div (n : Nat) {a : Int} (h : 0 ≤ a) : a.toNat / n = (a / (n : Int)).toNat := by
  obtain ⟨x, rfl⟩ := Int.eq_ofNat_of_zero_le h
  rfl
theorem adapt_start1 {de nc : Int} (h0 : 0 ≤ de) (h1 : 1 ≤ nc) (fi : Bool) (k : Int) (hk : k = if fi then 700 else 2) : 0 ≤ de.fdiv k + (de.fdiv k).fdiv nc ∧ biasL (de.fdiv k + (de.fdiv k).fdiv nc).toNat 0 = biasF de fi nc := by
  have hk0 : 0 < k := by subst hk; split <;> decide
  rw [Int.fdiv_eq_ediv_of_nonneg _ (Int.le_of_lt hk0), Int.fdiv_eq_ediv_of_nonneg _ (by omega : 0 ≤ nc)]
  have a1 : 0 ≤ de / k := Int.ediv_nonneg h0 (by omega)
  have a2 : 0 ≤ de / k / nc := Int.ediv_nonneg a1 (by omega)
  refine ⟨by omega, ?_⟩
  have e1 : (if fi then de.toNat / 700 else de.toNat / 2) = (de / k).toNat := by
    subst hk
    cases fi
    · exact toNat_div 2 h0
    · exact toNat_div 700 h0
  unfold biasF
  rw [e1]
  have e2 : (de / k / nc).toNat = (de / k).toNat / nc.toNat := by
    obtain ⟨x, hx⟩ := Int.eq_ofNat_of_zero_le a1
    obtain ⟨y, hy⟩ := Int.eq_ofNat_of_zero_le (by omega : 0 ≤ nc)
    rw [hx, hy]
    have q : ((x : Int) / (y : Int)) = ((x / y : Nat) : Int) := by simp
    rw [q]
    rfl
  rw [← e2]
  exact congrArg (biasL · 0) (Int.toNat_add a1 a2)
/-- a size that is far below every line -/
def Fit (x : Int) : Prop := 0 ≤ x ∧ x < 2 ^ 250
theorem Fit.nonneg {x : Int} (h : Fit x) : 0 ≤ x := h.1
def BiasP (X r t : Int) : Prop := 0 ≤ t ∧ t ≤ 400 ∧ 0 ≤ r ∧ r < 2 ^ 251 ∧ biasL (r / 35 ^ t.toNat).toNat (36 * t) = X
theorem BiasP.range {X r t : Int} (h : BiasP X r t) : 0 ≤ t ∧ t ≤ 400 := ⟨h.1, h.2.1⟩
theorem bias_start {de nc : Int} (h0 : 0 ≤ de) (h1 : 1 ≤ nc) (hf : Fit de) (fi : Bool) (k : Int) (hk : k = if fi then 700 else 2) : BiasP (biasF de fi nc) (de.fdiv k + (de.fdiv k).fdiv nc) 0 := by
  obtain ⟨a, b⟩ := adapt_start1 h0 h1 fi k hk
  refine ⟨by decide, by decide, a, ?_, ?_⟩
  · have hk0 : 2 ≤ k := by subst hk; split <;> decide
    rw [Int.fdiv_eq_ediv_of_nonneg _ (by omega : 0 ≤ k), Int.fdiv_eq_ediv_of_nonneg _ (by omega : 0 ≤ nc)]
    have a1 : de / k ≤ de := Int.ediv_le_self _ h0
    have a0 : 0 ≤ de / k := Int.ediv_nonneg h0 (by omega)
    have a2 : de / k / nc ≤ de / k := Int.ediv_le_self _ a0
    have hf2 := hf.2
    have e : (2 : Int) ^ 251 = 2 ^ 250 + 2 ^ 250 := by rw [Int.pow_succ (2 : Int) 250]; omega
    rw [e]
    generalize (2 : Int) ^ 250 = Z at hf2 ⊢
    omega
  · simpa using b
theorem pow35_ne (n : Nat) : (35 : Int) ^ n ≠ 0 := Int.ne_of_gt (Int.pow_pos (by decide))
theorem pow35_log {t : Int} (h1 : 0 ≤ t) (h2 : t ≤ 400) : ((35 : Int) ^ t.toNat).natAbs.log2 < 9000 := by
  have e : ((35 : Int) ^ t.toNat).natAbs = 35 ^ t.toNat := by rw [Int.natAbs_pow]; rfl
  rw [e, Nat.log2_lt (Nat.ne_of_gt (Nat.pow_pos (by decide)))]
  have a1 : (35 : Nat) ^ t.toNat ≤ 64 ^ t.toNat := Nat.pow_le_pow_left (by decide) _
  have a2 : (64 : Nat) ^ t.toNat = 2 ^ (6 * t.toNat) := by rw [Nat.pow_mul]
  have a3 : (2 : Nat) ^ (6 * t.toNat) < 2 ^ 9000 := Nat.pow_lt_pow_right (by decide) (by omega)
  omega
theorem BiasP.turn {X r t : Int} (h : BiasP X r t) (hgt : 455 < r.fdiv (35 ^ t.toNat)) : BiasP X r (t + 1) := by
  obtain ⟨a1, a2, a3, a4, a5⟩ := h
  have hp : 0 < (35 : Int) ^ t.toNat := Int.pow_pos (by decide)
  rw [Int.fdiv_eq_ediv_of_nonneg _ (Int.le_of_lt hp)] at hgt
  have et : (t + 1).toNat = t.toNat + 1 := by omega
  refine ⟨by omega, ?_, a3, a4, ?_⟩
  · have b1 : (2 : Int) ^ t.toNat ≤ 35 ^ t.toNat := by
      have q : (2 : Nat) ^ t.toNat ≤ 35 ^ t.toNat := Nat.pow_le_pow_left (by decide) _
      have q' : ((2 ^ t.toNat : Nat) : Int) ≤ ((35 ^ t.toNat : Nat) : Int) := Int.ofNat_le.mpr q
      simpa using q'
    have b2 : (35 : Int) ^ t.toNat ≤ r := by
      have q := Int.mul_ediv_add_emod r (35 ^ t.toNat)
      have q2 := Int.emod_nonneg r (Int.ne_of_gt hp)
      have q3 : 35 ^ t.toNat * 1 ≤ 35 ^ t.toNat * (r / 35 ^ t.toNat) := Int.mul_le_mul_of_nonneg_left (by omega) (Int.le_of_lt hp)
      omega
    have b3 : (2 : Int) ^ t.toNat < 2 ^ 251 := by omega
    have b4 : t.toNat < 251 := by
      apply Decidable.byContradiction
      intro hc
      have q : (2 : Nat) ^ 251 ≤ 2 ^ t.toNat := Nat.pow_le_pow_right (by decide) (by omega)
      have q' : ((2 ^ 251 : Nat) : Int) ≤ ((2 ^ t.toNat : Nat) : Int) := Int.ofNat_le.mpr q
      rw [Int.natCast_pow, Int.natCast_pow] at q'
      exact absurd b3 (Int.not_lt.mpr q')
    omega
  · rw [et, Int.pow_succ, ← Int.ediv_ediv_of_nonneg (Int.le_of_lt hp), ← a5]
    have e := biasL_step (d := (r / 35 ^ t.toNat).toNat) (dv := 36 * t) (by omega)
    rw [e, toNat_div 35 (a := r / 35 ^ t.toNat) (by omega)]
    exact congrArg (biasL _) (Int.mul_add 36 t 1)
theorem BiasP.less {t : Int} (h1 : 0 ≤ t) (h2 : t + 1 ≤ 400) : (400 - (t + 1)).toNat < (400 - t).toNat := by omega
theorem adapt_turn {d dv X : Int} (hb : biasL d.toNat dv = X) (h : 455 < d) : 0 ≤ d.fdiv 35 ∧ biasL (d.fdiv 35).toNat (dv + 36) = X := by
  rw [Int.fdiv_eq_ediv_of_nonneg _ (by decide)]
  refine ⟨by omega, ?_⟩
  have e := biasL_step (d := d.toNat) (dv := dv) (by omega)
  rw [← hb, e]
  exact congrArg (biasL · _) (toNat_div 35 (Int.le_of_lt (Int.lt_trans (by decide) h))).symm
theorem adapt_less {d : Int} (h : 455 < d) : (d.fdiv 35).toNat < d.toNat := by
  rw [Int.fdiv_eq_ediv_of_nonneg _ (by decide)]; omega
theorem adapt_done {d dv X : Int} (hd : 0 ≤ d) (hb : biasL d.toNat dv = X) (h : ¬ 455 < d) : dv + (36 * d).fdiv (d + 38) = X := by
  rw [Int.fdiv_eq_ediv_of_nonneg _ (by omega)]
  rw [← hb, biasL_end (by omega)]
  obtain ⟨x, rfl⟩ := Int.eq_ofNat_of_zero_le hd
  simp


theorem BiasP.done {X r t : Int} (h : BiasP X r t) (hgt : ¬ 455 < r.fdiv (35 ^ t.toNat)) : 36 * t + (36 * r.fdiv (35 ^ t.toNat)).fdiv (r.fdiv (35 ^ t.toNat) + 38) = X := by
  obtain ⟨a1, a2, a3, a4, a5⟩ := h
  have hp : 0 < (35 : Int) ^ t.toNat := Int.pow_pos (by decide)
  rw [Int.fdiv_eq_ediv_of_nonneg _ (Int.le_of_lt hp)] at hgt ⊢
  exact adapt_done (Int.ediv_nonneg a3 (Int.le_of_lt hp)) a5 hgt
theorem BiasP.pos {X r t : Int} (h : BiasP X r t) : 0 ≤ r.fdiv (35 ^ t.toNat) := by
  have hp : 0 < (35 : Int) ^ t.toNat := Int.pow_pos (by decide)
  rw [Int.fdiv_eq_ediv_of_nonneg _ (Int.le_of_lt hp)]
  exact Int.ediv_nonneg h.2.2.1 (Int.le_of_lt hp)

def numF (b : Int) : Nat → List Int → Int
  | _, [] => 0
  | j, f :: r => f + (36 - tF j b) * numF b (j + 1) r

theorem numF_drop {b : Int} {ns : List Int} {k : Nat} (h : k < ns.length) : numF b k (ns.drop k) = ns.getD k 0 + (36 - tF k b) * numF b (k + 1) (ns.drop (k + 1)) := by
  rw [List.drop_eq_getElem_cons h]
  simp [numF, List.getD_eq_getElem?_getD, h]

theorem numF_bound (b : Int) : ∀ (ns : List Int) (j : Nat), (∀ f ∈ ns, 0 ≤ f ∧ f < 36) → 0 ≤ numF b j ns ∧ numF b j ns < 36 ^ ns.length
  | [], j, _ => ⟨Int.le_refl _, by simp [numF]⟩
  | f :: r, j, h => by
    obtain ⟨h1, h2⟩ := numF_bound b r (j + 1) fun g hg => h g (.tail _ hg)
    obtain ⟨f1, f2⟩ := h f (.head _)
    obtain ⟨t1, t2⟩ := tF_range j b
    simp only [numF, List.length_cons, Int.pow_succ]
    have a1 : 0 ≤ (36 - tF j b) * numF b (j + 1) r := Int.mul_nonneg (by omega) h1
    have a2 : (36 - tF j b) * numF b (j + 1) r ≤ 35 * numF b (j + 1) r := Int.mul_le_mul_of_nonneg_right (by omega) h1
    generalize (36 : Int) ^ r.length = Z at *
    omega
theorem numF_fit {b : Int} {ns : List Int} {j : Nat} (hl : ns.length ≤ 40) (h : ∀ f ∈ ns, 0 ≤ f ∧ f < 36) : Fit (numF b j ns) := by
  obtain ⟨h1, h2⟩ := numF_bound b ns j h
  refine ⟨h1, Int.lt_of_lt_of_le h2 ?_⟩
  have q : (36 : Nat) ^ ns.length ≤ 36 ^ 40 := Nat.pow_le_pow_right (by decide) hl
  have q' : ((36 ^ ns.length : Nat) : Int) ≤ ((36 ^ 40 : Nat) : Int) := Int.ofNat_le.mpr q
  rw [Int.natCast_pow] at q'
  exact Int.le_trans q' (by decide)
theorem sub1 {n i : Nat} (h : i < n) : n - (i + 1) + 1 = n - i := by omega
theorem sub1_lt {n i : Nat} (h : i < n) : n - (i + 1) < n := by omega
theorem pred_add {a b i : Nat} (h : a + i = b) (h2 : 0 < a) : a - 1 + (i + 1) = b := by omega
theorem number_turn {b nu : Int} {ns : List Int} {i : Nat} (h : i < ns.length) (hP : nu = numF b (ns.length - i) (ns.drop (ns.length - i))) :
    nu * (36 - tF ((ns.length - (i + 1) : Nat) : Int) b) + ns.getD (((ns.length - (i + 1) : Nat) : Int)).toNat 0 = numF b (ns.length - (i + 1)) (ns.drop (ns.length - (i + 1))) := by
  rw [numF_drop (sub1_lt h), Int.toNat_natCast, hP]
  rw [sub1 h, Int.mul_comm]
  exact Int.add_comm _ _

def seatStep (x : Int × Int) (st : List Int × List Str) : List Int × List Str := (st.1.eraseIdx x.2.toNat, st.2.set (st.1.getD x.2.toNat 0).toNat (Str.mk #[x.1.toNat]))
/-- the seats are good for a stem of n signs -/
def Seats (n : Nat) (sp : List (Int × Int)) : Prop := ∀ (j : Nat) (x : Int × Int), sp[j]? = some x → 0 ≤ x.1 ∧ x.1 ≤ 1114111 ∧ 0 ≤ x.2 ∧ x.2 ≤ (n : Int) + j
def SeatP (n : Nat) (sp : List (Int × Int)) (i : Nat) (fvs wvs : List Value) : Prop :=
  ∃ fs ws, IntsAre fvs fs ∧ StrsAre wvs ws ∧ (fs, ws) = (sp.drop (sp.length - i)).foldr seatStep (rangeKs 0 (n + sp.length), List.replicate (n + sp.length) (Str.mk #[])) ∧ i ≤ sp.length ∧
    fs.length + i = n + sp.length ∧ ws.length = n + sp.length ∧ (∀ y ∈ ws, y.length ≤ 1) ∧ ∀ f ∈ fs, 0 ≤ f ∧ f < (n + sp.length : Nat)

def putL : List Str → List Int → List Str → List Str
  | ws, f :: fs, x :: b => putL (ws.set f.toNat x) fs b
  | ws, _, _ => ws
/-- the signs of a text, each a text of its own -/
def signs (x : Str) : List Str := x.cps.toList.map fun c => Str.mk #[c]
theorem signs_length (x : Str) : (signs x).length = x.length := by simp [signs, Str.length]
def SpotP (n : Nat) (fs : List Int) (b RES : List Str) (i : Nat) (wvs : List Value) : Prop :=
  ∃ ws, StrsAre wvs ws ∧ ws.length = n ∧ (∀ y ∈ ws, y.length ≤ 1) ∧ putL ws (fs.drop i) (b.drop i) = RES

theorem small_up {b : Int} (hb : 0 ≤ b) (hb' : b < 2 ^ 62) : Builtin.Range.small 0 b 1 = true := by
  unfold Builtin.Range.small
  rw [rangeSize_nat]
  simp only [Builtin.Range.rangeFitsLong, Bool.and_eq_true, Bool.or_eq_true, decide_eq_true_eq, beq_iff_eq]
  simp
  omega
theorem rangeSize_up (n : Nat) : Builtin.Range.rangeSize 0 (n : Int) 1 = (n : Int) := by
  rw [rangeSize_nat]; omega
theorem intsAre_erase : ∀ {vs : List Value} {ns : List Int}, IntsAre vs ns → ∀ j, IntsAre (vs.eraseIdx j) (ns.eraseIdx j)
  | _, _, .nil, _ => .nil
  | _, _, .cons _ _ h, 0 => h
  | _, _, .cons i t h, j + 1 => .cons i t (intsAre_erase h j)
theorem strsAre_set {x : Str} {u : Tok} : ∀ {vs : List Value} {ys : List Str}, StrsAre vs ys → ∀ j : Nat, StrsAre (vs.set j (.str x u)) (ys.set j x)
  | _, _, .nil, _ => .nil
  | _, _, .cons _ _ h, 0 => .cons x u h
  | _, _, .cons i t h, j + 1 => .cons i t (strsAre_set h j)
theorem strsAre_replicate (x : Str) (u : Tok) : ∀ n, StrsAre (List.replicate n (.str x u)) (List.replicate n x)
  | 0 => .nil
  | n + 1 => .cons x u (strsAre_replicate x u n)
theorem set_le1 {ws : List Str} {c j : Nat} (h : ∀ y ∈ ws, y.length ≤ 1) : ∀ y ∈ ws.set j (Str.mk #[c]), y.length ≤ 1 := fun y hy => by
  rcases List.mem_or_eq_of_mem_set hy with h1 | rfl
  · exact h y h1
  · exact Nat.le_refl _
theorem sum_le1 : ∀ {ws : List Str}, (∀ y ∈ ws, y.length ≤ 1) → (ws.map (·.length)).sum ≤ ws.length
  | [], _ => Nat.le_refl _
  | y :: r, h => by
    have h1 := h y (.head _)
    have h2 := sum_le1 (ws := r) fun z hz => h z (.tail _ hz)
    simp only [List.map_cons, List.sum_cons, List.length_cons]
    omega
theorem seat_start (n : Nat) (sp : List (Int × Int)) {fvs : List Value} {u : Tok} (hi : IntsAre fvs (rangeKs 0 (n + sp.length))) :
    SeatP n sp 0 fvs (List.replicate (n + sp.length) (.str (Str.mk #[]) u)) := by
  refine ⟨_, _, hi, strsAre_replicate _ _ _, ?_, Nat.zero_le _, ?_, ?_, ?_, ?_⟩
  · simp
  · rw [rangeKs_length]; rfl
  · simp
  · intro y hy
    rw [List.eq_of_mem_replicate hy]
    exact Nat.zero_le _
  · intro f hf
    have := mem_rangeKs hf
    omega
theorem seat_turn {n i : Nat} {sp : List (Int × Int)} {fvs wvs : List Value} {fs : List Int} {ws : List Str} {x1 x2 : Int} {u : Tok} (hfs : IntsAre fvs fs) (hws : StrsAre wvs ws)
    (hst : (fs, ws) = (sp.drop (sp.length - i)).foldr seatStep (rangeKs 0 (n + sp.length), List.replicate (n + sp.length) (Str.mk #[]))) (hi : i < sp.length) (hfl : fs.length + i = n + sp.length) (hwl : ws.length = n + sp.length)
    (hw1 : ∀ y ∈ ws, y.length ≤ 1) (hfb : ∀ f ∈ fs, 0 ≤ f ∧ f < (n + sp.length : Nat)) (hx : sp[sp.length - (i + 1)]'(sub1_lt hi) = (x1, x2)) (h2 : x2.toNat < fs.length) (f : Int) (hf : fs[x2.toNat] = f) :
    SeatP n sp (i + 1) (fvs.eraseIdx x2.toNat) (wvs.set f.toNat (.str (Str.mk #[x1.toNat]) u)) := by
  refine ⟨fs.eraseIdx x2.toNat, ws.set f.toNat (Str.mk #[x1.toNat]), intsAre_erase hfs _, strsAre_set hws _, ?_, hi, ?_, ?_, set_le1 hw1, ?_⟩
  · rw [List.drop_eq_getElem_cons (sub1_lt hi), hx, List.foldr_cons]
    rw [sub1 hi, ← hst]
    simp [seatStep, List.getD_eq_getElem?_getD, h2, hf]
  · rw [List.length_eraseIdx_of_lt h2]; exact pred_add hfl (Nat.lt_of_le_of_lt (Nat.zero_le _) h2)
  · rw [List.length_set]; exact hwl
  · intro g hg
    exact hfb g (List.mem_of_mem_eraseIdx hg)
theorem item_sign {x : Str} {i : Nat} (h : i < x.length) : Txt.item x (i : Int) = (signs x).getD i (Str.mk #[]) ∧ Txt.item x (i : Int) = Str.mk #[x.cps[i]'h] := by
  have e : Txt.item x (i : Int) = Str.mk #[x.cps[i]'h] := by
    unfold Txt.item
    have hc : Txt.charAt x (i : Int) = some (x.cps[i]'h) := by
      have hs : seqIndex? (i : Int) x.length = some i := by
        unfold seqIndex?
        have h1 : ¬ (i : Int) < 0 := by omega
        simp [h1, h]
      unfold Txt.charAt
      rw [hs]
      exact Array.getElem?_eq_getElem (xs := x.cps) h
    rw [hc]
    rfl
  refine ⟨?_, e⟩
  rw [e]
  have h' : i < x.cps.size := h
  simp [signs, List.getD_eq_getElem?_getD, h']
  rfl
theorem spot_turn {n i : Nat} {fs : List Int} {b RES : List Str} {wvs : List Value} {ws : List Str} {x : Str} {c : Nat} {u : Tok} (hws : StrsAre wvs ws) (hwl : ws.length = n) (hw1 : ∀ y ∈ ws, y.length ≤ 1) (hp : putL ws (fs.drop i) (b.drop i) = RES)
    (h1 : i < fs.length) (h2 : i < b.length) (hx : x = b.getD i (Str.mk #[])) (hc : x = Str.mk #[c]) : SpotP n fs b RES (i + 1) (wvs.set (fs.getD i 0).toNat (.str x u)) := by
  refine ⟨ws.set (fs.getD i 0).toNat x, strsAre_set hws _, by rw [List.length_set]; exact hwl, by rw [hc]; exact set_le1 hw1, ?_⟩
  rw [← hp, List.drop_eq_getElem_cons h1, List.drop_eq_getElem_cons h2]
  rw [hx]
  simp [putL, List.getD_eq_getElem?_getD, h1, h2]

def insAt {α : Type} (b : List α) (p : Nat) (c : α) : List α := b.take p ++ c :: b.drop p
def insAll : List Nat → List (Int × Int) → List Nat
  | b, [] => b
  | b, x :: r => insAll (insAt b x.2.toNat x.1.toNat) r
def sg (c : Nat) : Str := Str.mk #[c]
theorem insAt_map (l : List Nat) (p c : Nat) : insAt (l.map sg) p (sg c) = (insAt l p c).map sg := by simp [insAt]
theorem insAt_length {α : Type} {b : List α} {p : Nat} {c : α} (h : p ≤ b.length) : (insAt b p c).length = b.length + 1 := by simp [insAt]; omega
theorem putL_ins : ∀ (p : Nat) (fs : List Int) (ws b : List Str) (c : Str), (fs.map Int.toNat).Nodup → p ≤ b.length → fs.length = b.length + 1 → putL (ws.set (fs.getD p 0).toNat c) (fs.eraseIdx p) b = putL ws fs (insAt b p c)
  | _, [], _, _, _, _, _, h => by simp at h
  | 0, f :: fs, ws, b, c, _, _, _ => by simp [insAt, putL]
  | p + 1, f :: fs, ws, [], c, _, h, _ => by simp at h
  | p + 1, f :: fs, ws, b0 :: b, c, hn, h, hl => by
    have ih := putL_ins p fs (ws.set f.toNat b0) b c (by simp at hn ⊢; exact hn.2) (by simpa using h) (by simpa using hl)
    simp only [List.length_cons] at h hl
    have hne : f.toNat ≠ (fs.getD p 0).toNat := by
      intro e
      have hp : p < fs.length := by omega
      rw [List.getD_eq_getElem?_getD, List.getElem?_eq_getElem hp] at e
      simp only [List.map_cons, List.nodup_cons] at hn
      exact hn.1 (List.mem_map.mpr ⟨fs[p], List.getElem_mem hp, by simpa using e.symm⟩)
    show putL ((ws.set (fs.getD p 0).toNat c).set f.toNat b0) (fs.eraseIdx p) b = putL (ws.set f.toNat b0) fs (insAt b p c)
    rw [← ih, List.set_comm _ _ hne.symm]
theorem nodup_erase {l : List Int} (h : (l.map Int.toNat).Nodup) (j : Nat) : ((l.eraseIdx j).map Int.toNat).Nodup :=
  h.sublist ((List.eraseIdx_sublist l j).map _)
theorem seats_tail {n : Nat} {x : Int × Int} {r : List (Int × Int)} (h : Seats n (x :: r)) : Seats (n + 1) r := fun j y hy => by
  obtain ⟨a, b, c, d⟩ := h (j + 1) y (by simpa using hy)
  exact ⟨a, b, c, by omega⟩
theorem seat_fold : ∀ (sp : List (Int × Int)) (l : List Nat) (fs0 : List Int) (ws0 : List Str), Seats l.length sp → (fs0.map Int.toNat).Nodup → fs0.length = l.length + sp.length →
    let r := sp.foldr seatStep (fs0, ws0)
    (r.1.map Int.toNat).Nodup ∧ r.1.length = l.length ∧ putL r.2 r.1 (l.map sg) = putL ws0 fs0 ((insAll l sp).map sg)
  | [], l, fs0, ws0, _, hn, hl => ⟨hn, by simpa using hl, rfl⟩
  | x :: sp, l, fs0, ws0, hs, hn, hl => by
    obtain ⟨q1, q2, q3, q4⟩ := hs 0 x rfl
    have hp : x.2.toNat ≤ l.length := by omega
    have hl' : (insAt l x.2.toNat x.1.toNat).length = l.length + 1 := insAt_length hp
    obtain ⟨i1, i2, i3⟩ := seat_fold sp (insAt l x.2.toNat x.1.toNat) fs0 ws0 (by rw [hl']; exact seats_tail hs) hn (by rw [hl']; simp only [List.length_cons] at hl; omega)
    rw [hl'] at i2
    refine ⟨nodup_erase i1 _, ?_, ?_⟩
    · show ((sp.foldr seatStep (fs0, ws0)).1.eraseIdx x.2.toNat).length = l.length
      rw [List.length_eraseIdx_of_lt (by omega)]; omega
    · show putL ((sp.foldr seatStep (fs0, ws0)).2.set ((sp.foldr seatStep (fs0, ws0)).1.getD x.2.toNat 0).toNat (sg x.1.toNat)) ((sp.foldr seatStep (fs0, ws0)).1.eraseIdx x.2.toNat) (l.map sg) = _
      rw [putL_ins _ _ _ _ _ i1 (by rw [List.length_map]; exact hp) (by rw [List.length_map]; exact i2), insAt_map, i3]
      rfl
theorem rangeKs_nodup (n : Nat) : ((rangeKs 0 n).map Int.toNat).Nodup := by
  have e : (rangeKs 0 n).map Int.toNat = List.range n := by
    unfold rangeKs
    rw [List.map_map]
    conv => rhs; rw [← List.map_id (List.range n)]
    apply List.map_congr_left
    intro i _
    simp
  rw [e]
  exact List.nodup_range
theorem putL_range : ∀ (b ws pre : List Str) (a : Nat), ws.length = b.length → a = pre.length → putL (pre ++ ws) ((List.range' a b.length).map fun (i : Nat) => (i : Int)) b = pre ++ b
  | [], ws, pre, a, h, _ => by
    have : ws = [] := List.eq_nil_of_length_eq_zero (by simpa using h)
    simp [putL, this]
  | x :: b, [], pre, a, h, _ => by simp at h
  | x :: b, y :: ws, pre, a, h, ha => by
    have ih := putL_range b ws (pre ++ [x]) (a + 1) (by simpa using h) (by simp [ha])
    simp only [List.length_cons, List.range'_succ, List.map_cons, putL, Int.toNat_natCast]
    have e : (pre ++ y :: ws).set a x = (pre ++ [x]) ++ ws := by
      subst ha
      simp
    rw [e, ih]
    simp
theorem rangeKs_range' (n : Nat) : rangeKs 0 n = (List.range' 0 n).map fun (i : Nat) => (i : Int) := by
  unfold rangeKs
  rw [List.range_eq_range']
  apply List.map_congr_left
  intro i _
  simp
theorem join_sg : ∀ l : List Nat, Txt.join (Str.ofString "") (l.map sg) = Str.mk l.toArray := by
  have e0 : (Str.ofString "") = Str.mk #[] := by decide
  intro l
  rw [e0]
  have e1 := StrLaws.glued_eq_join (Str.mk #[]) (l.map sg)
  refine (Eq.trans (by rfl) e1 : Txt.join (Str.mk #[]) (l.map sg) = _).trans ?_
  clear e1
  induction l with
  | nil => rfl
  | cons c l ih =>
    cases l with
    | nil => rfl
    | cons d l =>
      show (sg c ++ Str.mk #[] ++ Str.join (Str.mk #[]) ((d :: l).map sg) : Str) = _
      rw [ih]
      show Str.mk ((#[c] ++ #[]) ++ (d :: l).toArray) = _
      congr 1
      apply Array.toList_inj.mp
      simp
theorem insAll_length : ∀ (sp : List (Int × Int)) (l : List Nat), Seats l.length sp → (insAll l sp).length = l.length + sp.length
  | [], l, _ => rfl
  | x :: sp, l, hs => by
    obtain ⟨q1, q2, q3, q4⟩ := hs 0 x rfl
    have hl' : (insAt l x.2.toNat x.1.toNat).length = l.length + 1 := insAt_length (by omega)
    show (insAll (insAt l x.2.toNat x.1.toNat) sp).length = _
    rw [insAll_length sp _ (by rw [hl']; exact seats_tail hs), hl', List.length_cons]
    omega
theorem seat_done {st : Str} {sp : List (Int × Int)} {fs : List Int} {ws ws2 : List Str} (hs : Seats st.length sp) (h1 : (fs, ws) = (sp.drop (sp.length - sp.length)).foldr seatStep (rangeKs 0 (st.length + sp.length), List.replicate (st.length + sp.length) (Str.mk #[])))
    (hfl : fs.length + sp.length = st.length + sp.length) (h2 : putL ws2 (fs.drop st.length) ((signs st).drop st.length) = putL ws fs (signs st)) : Txt.join (Str.ofString "") ws2 = Str.mk (insAll st.cps.toList sp).toArray := by
  have e1 : fs.drop st.length = [] := List.drop_eq_nil_of_le (by omega)
  rw [e1] at h2
  rw [Nat.sub_self, List.drop_zero] at h1
  have hL : st.cps.toList.length = st.length := by simp [Str.length]
  obtain ⟨_, _, q⟩ := seat_fold sp st.cps.toList (rangeKs 0 (st.length + sp.length)) (List.replicate (st.length + sp.length) (Str.mk #[])) (by rw [hL]; exact hs) (rangeKs_nodup _) (by rw [rangeKs_length, hL])
  rw [← h1] at q
  have hb : signs st = st.cps.toList.map sg := rfl
  have hlen := insAll_length sp st.cps.toList (by rw [hL]; exact hs)
  rw [hL] at hlen
  have r := putL_range ((insAll st.cps.toList sp).map sg) (List.replicate (st.length + sp.length) (Str.mk #[])) [] 0 (by simp [hlen]) rfl
  rw [List.length_map, hlen, ← rangeKs_range', List.nil_append, List.nil_append] at r
  have e2 : putL ws2 [] ((signs st).drop st.length) = ws2 := by simp [putL]
  rw [e2, hb] at h2
  dsimp only at q
  rw [h2, q, r, join_sg]

def dig (o : Int) : Option Int := if 65 ≤ o ∧ o ≤ 90 then some (o - 65) else if 48 ≤ o ∧ o ≤ 57 then some (o - 22) else none
def signOf (x : Int) : Int := if 1114111 < x then 63 else x
def readL : List Int → Int → Int → Int → List Int → List (Int × Int) → List (Int × Int)
  | [], _, _, _, _, sp => sp
  | o :: r, size, bias, hour, figs, sp =>
    match dig o with
    | none => sp
    | some d =>
      if d < tF figs.length bias then
        let nu := numF bias 0 (figs ++ [d])
        let s := signOf ((hour + (nu + 1)).fdiv (size + 1) + 128)
        let pl := (hour + (nu + 1)).fmod (size + 1)
        readL r (size + 1) (biasF nu (sp.length == 0) (size + 1)) ((s - 128) * (size + 1 + 1) + pl) [] (sp ++ [(s, pl)])
      else readL r size bias hour (figs ++ [d]) sp
def neN' (a b : Nat) : Prop := a ≠ b
/-- where a reading stands -/
structure RS where
  size : Int
  ts : Tok
  bias : Int
  tb : Tok
  hour : Int
  th : Tok
  Df : Addr
  fv : List Value
  fe : Nat
  Ds : Addr
  sv : List Value
  se : Nat
  rest : List (Addr × Obj)
  figs : List Int
  sp : List (Int × Int)
theorem StoryIn.sub {l1 l2 : List (Addr × Obj)} {vs : List Value} {sp : List (Int × Int)} (h : StoryIn l1 vs sp) (hs : ∀ p ∈ l1, p ∈ l2) : StoryIn l2 vs sp :=
  ⟨h.1, fun i x hx => let ⟨a, t, t', n, h1, h2⟩ := h.2 i x hx; ⟨a, t, t', n, h1, hs _ h2⟩⟩
theorem intsAre_app {k : Int} {t : Tok} : ∀ {vs : List Value} {ns : List Int}, IntsAre vs ns → IntsAre (vs ++ [.int k t]) (ns ++ [k])
  | _, _, .nil => .cons k t .nil
  | _, _, .cons i u h => .cons i u (intsAre_app h)
theorem fig_app {figs : List Int} {d : Int} (h : ∀ f ∈ figs, 0 ≤ f ∧ f < 36) (h0 : 0 ≤ d) (h1 : d < 36) : ∀ f ∈ figs ++ [d], 0 ≤ f ∧ f < 36 := fun f hf => by
  rcases List.mem_append.mp hf with hf | hf
  · exact h f hf
  · rw [List.mem_singleton.mp hf]; exact ⟨h0, h1⟩
theorem news_cut2 {h₀ h : Heap} {L : Addr} {p q : Addr × Obj} {r : List (Addr × Obj)} (N : News h₀ L h (p :: q :: r)) : News h₀ L h (p :: r) := fun x hx => by
  rcases List.mem_cons.mp hx with rfl | hx
  · exact N _ (.head _)
  · exact N _ (.tail _ (.tail _ hx))
structure RSP (n : Nat) (oc : List Int) (RES : List (Int × Int)) (news : List (Addr × Obj)) (i : Nat) (c : RS) : Prop where
  res : readL (oc.drop i) c.size c.bias c.hour c.figs c.sp = RES
  figs : IntsAre c.fv c.figs
  flen : c.figs.length ≤ i
  fin : ∀ f ∈ c.figs, 0 ≤ f ∧ f < 36
  size : c.size = (n : Int) + c.sp.length
  slen : c.sp.length ≤ i
  seats : Seats n c.sp
  story : StoryIn c.rest c.sv c.sp
  hour : -65 * (c.size + 1) ≤ c.hour + 1
  sub : ∀ p ∈ news, p ∈ c.rest
  offF : ∀ p ∈ c.rest, p.1 ≠ c.Df
  offS : ∀ p ∈ c.rest, p.1 ≠ c.Ds
  offD : neN' c.Df c.Ds

theorem story_snoc {l : List (Addr × Obj)} {vs : List Value} {sp : List (Int × Int)} (h : StoryIn l vs sp) (a : Addr) (s p : Int) (t t' : Tok) (n : Nat) :
    StoryIn ((a, pairObj s p t t' n) :: l) (vs ++ [.ref a]) (sp ++ [(s, p)]) := by
  obtain ⟨hl, hs⟩ := h
  refine ⟨by simp [hl], fun i x hx => ?_⟩
  by_cases hi : i < sp.length
  · rw [List.getElem?_append_left hi] at hx
    obtain ⟨b, u, u', k, h1, h2⟩ := hs i x hx
    exact ⟨b, u, u', k, by rw [List.getElem?_append_left (by omega)]; exact h1, .tail _ h2⟩
  · have hlt := (List.getElem?_eq_some_iff.mp hx).1
    rw [List.length_append, List.length_singleton] at hlt
    have e : i = sp.length := by omega
    subst e
    rw [List.getElem?_append_right (Nat.le_refl _), Nat.sub_self] at hx
    have ex : x = (s, p) := by simpa using hx.symm
    subst ex
    exact ⟨a, t, t', n, by rw [List.getElem?_append_right (by omega), hl, Nat.sub_self]; rfl, .head _⟩
theorem seats_snoc {n : Nat} {sp : List (Int × Int)} (h : Seats n sp) {s p : Int} (h1 : 0 ≤ s) (h2 : s ≤ 1114111) (h3 : 0 ≤ p) (h4 : p ≤ (n : Int) + sp.length) : Seats n (sp ++ [(s, p)]) := fun i x hx => by
  by_cases hi : i < sp.length
  · rw [List.getElem?_append_left hi] at hx
    exact h i x hx
  · have hlt := (List.getElem?_eq_some_iff.mp hx).1
    rw [List.length_append, List.length_singleton] at hlt
    have e : i = sp.length := by omega
    subst e
    rw [List.getElem?_append_right (Nat.le_refl _), Nat.sub_self] at hx
    have ex : x = (s, p) := by simpa using hx.symm
    subst ex
    exact ⟨h1, h2, h3, h4⟩
theorem dig_great {o : Int} (h1 : 65 ≤ o) (h2 : o ≤ 90) : dig o = some (o - 65) := by unfold dig; rw [if_pos ⟨h1, h2⟩]
theorem dig_figure {o : Int} (h1 : 48 ≤ o) (h2 : o ≤ 57) : dig o = some (o - 22) := by unfold dig; rw [if_neg (by omega), if_pos ⟨h1, h2⟩]
theorem dig_none {o : Int} (h1 : ¬ (65 ≤ o ∧ o ≤ 90)) (h2 : ¬ (48 ≤ o ∧ o ≤ 57)) : dig o = none := by unfold dig; rw [if_neg h1, if_neg h2]
theorem dig_range {o d : Int} (h : dig o = some d) : 0 ≤ d ∧ d < 36 := by
  unfold dig at h
  split at h
  · have := Option.some.inj h; omega
  · split at h
    · have := Option.some.inj h; omega
    · cases h
theorem drop_of {oc : List Int} {i : Nat} {o : Int} (ho : oc[i]? = some o) : oc.drop i = o :: oc.drop (i + 1) := by
  obtain ⟨h, e⟩ := List.getElem?_eq_some_iff.mp ho
  rw [List.drop_eq_getElem_cons h, e]
theorem RSP.go {n : Nat} {oc : List Int} {RES : List (Int × Int)} {news : List (Addr × Obj)} {i : Nat} {size : Int} {ts : Tok} {bias : Int} {tb : Tok} {hour : Int} {th : Tok} {Df : Addr} {fv : List Value} {fe : Nat} {Ds : Addr} {sv : List Value} {se : Nat} {rest : List (Addr × Obj)} {figs : List Int} {sp : List (Int × Int)}
    (h : RSP n oc RES news i ⟨size, ts, bias, tb, hour, th, Df, fv, fe, Ds, sv, se, rest, figs, sp⟩) {o d : Int} {t : Tok} (ho : oc[i]? = some o) (hd : dig o = some d) (hn : ¬ d < tF figs.length bias) :
    RSP n oc RES news (i + 1) ⟨size, ts, bias, tb, hour, th, Df, fv ++ [.int d t], fe + 1, Ds, sv, se, rest, figs ++ [d], sp⟩ := by
  have h1 := h.res
  dsimp only at h1
  rw [drop_of ho] at h1
  unfold readL at h1
  rw [hd] at h1
  dsimp only at h1
  rw [if_neg hn] at h1
  have hfl := h.flen
  have hsl := h.slen
  dsimp only at hfl hsl
  exact ⟨h1, intsAre_app h.figs, by simp; exact hfl, fig_app h.fin (dig_range hd).1 (dig_range hd).2, h.size, by dsimp only; omega, h.seats, h.story, h.hour, h.sub, h.offF, h.offS, h.offD⟩
theorem RSP.turn {n : Nat} {oc : List Int} {RES : List (Int × Int)} {news : List (Addr × Obj)} {i : Nat} {size : Int} {ts : Tok} {bias : Int} {tb : Tok} {hour : Int} {th : Tok} {Df : Addr} {fv : List Value} {fe : Nat} {Ds : Addr} {sv : List Value} {se : Nat} {rest : List (Addr × Obj)} {figs : List Int} {sp : List (Int × Int)}
    (h : RSP n oc RES news i ⟨size, ts, bias, tb, hour, th, Df, fv, fe, Ds, sv, se, rest, figs, sp⟩) {o d : Int} (ho : oc[i]? = some o) (hd : dig o = some d) (hlt : d < tF figs.length bias) (hlen : oc.length ≤ 40)
    {s pl bi hr : Int} {ts' tb' th' t t' : Tok} {Dt Dn : Addr} {k : Nat} (hs : s = signOf ((hour + (numF bias 0 (figs ++ [d]) + 1)).fdiv (size + 1) + 128)) (hpl : pl = (hour + (numF bias 0 (figs ++ [d]) + 1)).fmod (size + 1))
    (hbi : bi = biasF (numF bias 0 (figs ++ [d])) (sp.length == 0) (size + 1)) (hhr : hr = (s - 128) * (size + 1 + 1) + pl) (a1 : neN' Dt Ds) (a2 : neN' Dt Dn) (a3 : neN' Dn Ds) (a4 : AllLt Dn rest) :
    RSP n oc RES news (i + 1) ⟨size + 1, ts', bi, tb', hr, th', Dn, [], 0, Ds, sv ++ [.ref Dt], se + 1, (Dt, pairObj s pl t t' k) :: rest, [], sp ++ [(s, pl)]⟩ := by
  have h1 := h.res
  dsimp only at h1
  rw [drop_of ho] at h1
  unfold readL at h1
  rw [hd] at h1
  dsimp only at h1
  rw [if_pos hlt, ← hpl, ← hs, ← hbi, ← hhr] at h1
  have hfl := h.flen
  have hsl := h.slen
  have hsz := h.size
  have hh := h.hour
  have hse := h.seats
  dsimp only at hfl hsl hsz hh hse
  have hil := (List.getElem?_eq_some_iff.mp ho).1
  have hnu := numF_fit (b := bias) (j := 0) (ns := figs ++ [d]) (by simp; omega) (fig_app h.fin (dig_range hd).1 (dig_range hd).2)
  have hnu0 := hnu.1
  generalize numF bias 0 (figs ++ [d]) = nu at *
  have hs1 : 0 < size + 1 := by omega
  rw [Int.fdiv_eq_ediv_of_nonneg _ (Int.le_of_lt hs1)] at hs
  rw [Int.fmod_eq_emod_of_nonneg _ (Int.le_of_lt hs1)] at hpl
  have p0 : 0 ≤ pl := by rw [hpl]; exact Int.emod_nonneg _ (Int.ne_of_gt hs1)
  have p1 : pl < size + 1 := by rw [hpl]; exact Int.emod_lt_of_pos _ hs1
  have q : -65 ≤ (hour + (nu + 1)) / (size + 1) := Int.le_ediv_of_mul_le hs1 (by omega)
  have s0 : 63 ≤ s ∧ s ≤ 1114111 := by
    rw [hs]; unfold signOf
    generalize (hour + (nu + 1)) / (size + 1) = z at *
    split <;> omega
  have hm : -65 * (size + 1 + 1) ≤ (s - 128) * (size + 1 + 1) := Int.mul_le_mul_of_nonneg_right (by omega) (by omega)
  refine ⟨h1, .nil, Nat.zero_le _, (fun f hf => nomatch hf), ?_, ?_, ?_, story_snoc h.story _ _ _ _ _ _, ?_, fun p hp => .tail _ (h.sub p hp), ?_, ?_, a3⟩
  · simp; omega
  · simp; omega
  · exact seats_snoc hse (by omega) s0.2 p0 (by omega)
  · dsimp only; rw [hhr]; omega
  · intro p hp
    rcases List.mem_cons.mp hp with rfl | hp
    · exact a2
    · exact Nat.ne_of_lt (allLt_mem a4 p hp)
  · intro p hp
    rcases List.mem_cons.mp hp with rfl | hp
    · exact a1
    · exact h.offS p hp

theorem RSP.start {n : Nat} {oc : List Int} {news : List (Addr × Obj)} {ts tb th : Tok} {Df Ds : Addr} (hF : ∀ p ∈ news, p.1 ≠ Df) (hS : ∀ p ∈ news, p.1 ≠ Ds) (hD : neN' Df Ds) :
    RSP n oc (readL oc n 72 (-1) [] []) news 0 ⟨(n : Int), ts, 72, tb, -1, th, Df, [], 0, Ds, [], 0, news, [], []⟩ :=
  ⟨by simp, .nil, Nat.zero_le _, (fun f hf => nomatch hf), by simp, Nat.zero_le _, (fun j x hx => by simp at hx), ⟨rfl, fun j x hx => by simp at hx⟩, by dsimp only; omega, fun p hp => hp, hF, hS, hD⟩
theorem lt_of_tF {fv : List Value} {figs : List Int} {x : Value} {d b : Int} (h : fv.length = figs.length) (hx : d < tF (((fv ++ [x]).length : Int) - 1) b) : d < tF figs.length b := by
  have e : (((fv ++ [x]).length : Int) - 1) = figs.length := by simp; omega
  rw [e] at hx; exact hx
theorem not_lt_of_tF {fv : List Value} {figs : List Int} {x : Value} {d b : Int} (h : fv.length = figs.length) (hx : ¬ d < tF (((fv ++ [x]).length : Int) - 1) b) : ¬ d < tF figs.length b := fun hc => hx (by
  have e : (((fv ++ [x]).length : Int) - 1) = figs.length := by simp; omega
  rw [e]; exact hc)
theorem signOf_small {x : Int} (h : ¬ 1114111 < x) : x = signOf x := by unfold signOf; rw [if_neg h]
theorem len1_eq {sv : List Value} {sp : List (Int × Int)} {x : Value} (h : sv.length = sp.length) : (((sv ++ [x]).length : Int) == 1) = (sp.length == 0) := by
  rw [Bool.eq_iff_iff, beq_iff_eq, beq_iff_eq, List.length_append, List.length_singleton, h]
  constructor <;> intro q <;> omega
end
end Mine

namespace Mine
section
theorem T_c (w : World) (news : List (Addr × Obj)) (j b : Int) (t1 t2 : Tok) :
    Ctr PySem.Challenge.rw_rl0154_02.row.prog w (Mine.hd.heap_39 w.params) Mine.hd.view_39 21 1 1 [.int j t1, .int b t2] news (fun tl r => tl = [] ∧ ∃ t, r = .int (tF j b) t ∧ 1 ≤ tF j b ∧ tF j b ≤ 26) := by
  k_with_none
  k_with "execs cons" => ((try dsimp only); refine tok_any ?_; intro _; refine wpAny_execs_cons ?_)
  k_with "eval Name" => (k_here; k_dflt (refine' nameV_L ?nv1 ?nv2 ?_ ?nv3 ?nv4; (case nv1 => k_asm); (case nv3 => rfl); (case nv4 => rfl); (case nv2 => rfl); k_whole))
  k_fill
  w_top off
  unfold Ctr
  intro loose mean mg mb dp un gd cn cs a ccd cl outer A₀ base h₀ L m s Q E cB cF cX cN cT cK cD cU hret
  refine wpAny_call ?_
  k_dflt cell_enter
  k_steps
  all_goals (
    refine hret _ [] _ _ (by assumption) (by assumption) (fun _ _ _ h9 => nomatch h9) ⟨rfl, int_retT ?_⟩
    unfold tF
    (repeat' split) <;> omega)
end
end Mine

namespace Mine
section
theorem least_eq {n : List Int} {j b : Int} (e : n.length = 3) (p : n.Perm [1, 36 * j + 36 - b, 26])
    (h0 : (n.getD 0 0 = 1 ∨ n.getD 0 0 = 36 * j + 36 - b ∨ n.getD 0 0 = 26) ∧ n.getD 0 0 ≤ 1 ∧ n.getD 0 0 ≤ 36 * j + 36 - b ∧ n.getD 0 0 ≤ 26)
    (h2 : (n.getD 2 0 = 1 ∨ n.getD 2 0 = 36 * j + 36 - b ∨ n.getD 2 0 = 26) ∧ 1 ≤ n.getD 2 0 ∧ 36 * j + 36 - b ≤ n.getD 2 0 ∧ 26 ≤ n.getD 2 0) : n.getD 1 0 = tF j b := by
  have hs := perm_sum p
  match n, e with
  | [x, y, z], _ =>
    simp at hs h0 h2 ⊢
    unfold tF
    split
    · omega
    · split <;> omega
theorem least_c (w : World) (news : List (Addr × Obj)) (j b : Int) (t1 t2 : Tok) :
    Ctr PySem.Challenge.rw_rl0154_02.row.prog w (Mine.hd.heap_39 w.params) Mine.hd.view_39 56 1 1 [.int j t1, .int b t2] news (fun tl r => tl = [] ∧ ∃ t, r = .int (tF j b) t ∧ 1 ≤ tF j b ∧ tF j b ≤ 26) := by
  k_with_none
  k_with "execs cons" => ((try dsimp only); refine tok_any ?_; intro _; refine wpAny_execs_cons ?_)
  k_with "eval Name" => (k_here; k_dflt (refine' nameV_L ?nv1 ?nv2 ?_ ?nv3 ?nv4; (case nv1 => k_asm); (case nv3 => rfl); (case nv4 => rfl); (case nv2 => rfl); k_whole))
  k_fill
  w_top off
  unfold Ctr
  intro loose mean mg mb dp un gd cn cs a ccd cl outer A₀ base h₀ L m s Q E cB cF cX cN cT cK cD cU hret
  refine wpAny_call ?_
  k_dflt cell_enter
  k_steps
  refine hret _ [] _ _ (by assumption) ?_ (fun _ _ _ h9 => nomatch h9) ⟨rfl, int_retT (least_eq (by assumption) (by assumption) (by assumption) (by assumption))⟩
  exact news_sub (by assumption) (fun p hp => by simp only [List.nil_append] at hp; exact List.mem_cons_of_mem _ (List.mem_cons_of_mem _ hp))
end
end Mine

namespace Mine
section
theorem adapt_c (w : World) (news : List (Addr × Obj)) (de : Int) (fi : Bool) (nc : Int) (t1 t2 : Tok) (h0 : 0 ≤ de) (h1 : 1 ≤ nc) (h2 : nc ≤ 1000) :
    Ctr PySem.Challenge.rw_rl0154_02.row.prog w (Mine.hd.heap_39 w.params) Mine.hd.view_39 28 1 1 [.int de t1, .bool fi, .int nc t2] news (fun tl r => tl = [] ∧ ∃ t, r = .int (biasF de fi nc) t) := by
  k_with_none
  k_with "exec While Compare cons nil" => (refine Stop.intro ?_)
  k_with "execs cons" => ((try dsimp only); refine tok_any ?_; intro _; refine wpAny_execs_cons ?_)
  k_with "eval Name" => (k_here; k_dflt (refine' nameV_L ?nv1 ?nv2 ?_ ?nv3 ?nv4; (case nv1 => k_asm); (case nv3 => rfl); (case nv4 => rfl); (case nv2 => rfl); k_whole))
  k_with "Blk" => (refine hb9 _ _ ?_; dsimp only [WPost])
  k_fill
  w_top off
  unfold Ctr
  intro loose mean mg mb dp un gd cn cs a ccd cl outer A₀ base h₀ L m s Q E cB cF cX cN cT cK cD cU hret
  refine wpAny_call ?_
  k_dflt cell_enter
  k_steps
  all_goals (
    rename (fi = _) => hfi
    unfold Stop
    refine' whileR (σ := Int × Tok × Int × Tok) (fun _ => news) (fun c => [(Str.ofString "delta", .int c.1 c.2.1), (Str.ofString "divisions", .int c.2.2.1 c.2.2.2)]) (fun c => 0 ≤ c.1 ∧ biasL c.1.toNat c.2.2.1 = biasF de fi nc) (fun c => c.1.toNat) (by assumption) (by assumption) ?_ ?_
    · refine' ⟨(_, _, _, _), by kst_in, by ((try dsimp only); (repeat (refine AllP.cons (by with_unfolding_all rfl) ?_)); exact AllP.nil), ?_⟩
      exact adapt_start1 h0 h1 fi _ (by rw [hfi]; rfl)
    · refine prod4 fun d td dv tv u h tk hdb F N Qb hb9 => ?_
      obtain ⟨hd, hb⟩ := hdb
      dsimp only [kstB] at F hd hb
      k_steps
      · refine' WEnd.intro (_, _, _, _) (by assumption) (by assumption) (by kst_in) (by ((try dsimp only); (repeat (refine AllP.cons (by with_unfolding_all rfl) ?_)); exact AllP.nil)) ?_ ?_
        · exact adapt_turn hb (by assumption)
        · exact adapt_less (by assumption)
      · exact hret _ [] _ _ (by assumption) (by assumption) (fun _ _ _ h9 => nomatch h9) ⟨rfl, _, by rw [adapt_done hd hb (by assumption)]⟩)
end
end Mine

namespace Mine
section
theorem bias_c (w : World) (news : List (Addr × Obj)) (de : Int) (fi : Bool) (nc : Int) (t1 t2 : Tok) (h0 : 0 ≤ de) (h1 : 1 ≤ nc) (h2 : nc ≤ 1000) (hfit : Fit de) :
    Ctr PySem.Challenge.rw_rl0154_02.row.prog w (Mine.hd.heap_39 w.params) Mine.hd.view_39 63 1 1 [.int de t1, .bool fi, .int nc t2] news (fun tl r => tl = [] ∧ ∃ t, r = .int (biasF de fi nc) t) := by
  k_with_none
  k_with "exec While Compare cons nil" => (refine Stop.intro ?_)
  k_with "execs cons" => ((try dsimp only); refine tok_any ?_; intro _; refine wpAny_execs_cons ?_)
  k_with "eval Name" => (k_here; k_dflt (refine' nameV_L ?nv1 ?nv2 ?_ ?nv3 ?nv4; (case nv1 => k_asm); (case nv3 => rfl); (case nv4 => rfl); (case nv2 => rfl); k_whole))
  k_with "Blk" => (refine hb9 _ _ ?_; dsimp only [WPost])
  k_with "binaryOp FloorDiv int int" => (with_reducible refine floordiv_int (pow35_ne _) ?_ (Or.inl (PyProof.noPylong_of_log2 (pow35_log (by assumption) (by assumption)))))
  k_fill
  w_top off
  unfold Ctr
  intro loose mean mg mb dp un gd cn cs a ccd cl outer A₀ base h₀ L m s Q E cB cF cX cN cT cK cD cU hret
  refine wpAny_call ?_
  k_dflt cell_enter
  k_steps
  all_goals (
    rename (fi = _) => hfi
    unfold Stop
    refine' whileR (σ := Int × Tok × Int × Tok) (fun _ => news) (fun c => [(Str.ofString "rest", .int c.1 c.2.1), (Str.ofString "turns", .int c.2.2.1 c.2.2.2)]) (fun c => BiasP (biasF de fi nc) c.1 c.2.2.1) (fun c => (400 - c.2.2.1).toNat) (by assumption) (by assumption) ?_ ?_
    · refine' ⟨(_, _, _, _), by kst_in, by ((try dsimp only); (repeat (refine AllP.cons (by with_unfolding_all rfl) ?_)); exact AllP.nil), ?_⟩
      exact bias_start h0 h1 hfit fi _ (by rw [hfi]; rfl)
    · refine prod4 fun d td dv tv u h tk hP F N Qb hb9 => ?_
      dsimp only [kstB] at F hP
      obtain ⟨hp1, hp2⟩ := hP.range
      have hp3 := hP.pos
      k_steps
      · refine' WEnd.intro (_, _, _, _) (by assumption) (by assumption) (by kst_in) (by ((try dsimp only); (repeat (refine AllP.cons (by with_unfolding_all rfl) ?_)); exact AllP.nil)) ?_ ?_
        · exact hP.turn (by assumption)
        · exact BiasP.less hp1 (hP.turn (by assumption)).range.2
      · exact hret _ [] _ _ (by assumption) (by assumption) (fun _ _ _ h9 => nomatch h9) ⟨rfl, int_ret (hP.done (by assumption))⟩)
end
end Mine

namespace Mine
section
theorem number_c (w : World) (news : List (Addr × Obj)) (l : Addr) (vs : List Value) (n : Nat) (ns : List Int) (b : Int) (t2 : Tok) (hl : (l, listOf vs.toArray n) ∈ news) (hi : IntsAre vs ns) (hlen : ns.length ≤ 40) (hfig : ∀ f ∈ ns, 0 ≤ f ∧ f < 36) :
    Ctr PySem.Challenge.rw_rl0154_02.row.prog w (Mine.hd.heap_39 w.params) Mine.hd.view_39 70 2 2 [.ref l, .int b t2] news (fun tl r => tl = [] ∧ ∃ t, r = .int (numF b 0 ns) t ∧ Fit (numF b 0 ns)) := by
  k_with_none
  k_with "pyIter ref" => (refine Stop.intro ?_)
  k_with "execs cons" => ((try dsimp only); refine tok_any ?_; intro _; refine wpAny_execs_cons ?_)
  k_with "eval Name" => (k_here; k_dflt (refine' nameV_L ?nv1 ?nv2 ?_ ?nv3 ?nv4; (case nv1 => k_asm); (case nv3 => rfl); (case nv4 => rfl); (case nv2 => rfl); k_whole))
  k_with "Blk" => (refine hb9 _ _ ?_; dsimp only [FPost])
  k_with "call ref cons nil" => (k_here; k_dflt (refine' Ctr.ask (least_c _ _ _ _ _ _) (ret := ?_)); intro r9 tl9 h9 tk9 F9 N9 hl9 hR9; obtain ⟨ht9, t9, he9, hx9, hy9⟩ := hR9; subst ht9; subst he9; clear hl9; (simp only [List.nil_append] at N9); (try k_sweep); (try dsimp only); (try k_fold))
  k_fill
  w_top off
  unfold Ctr
  intro loose mean mg mb dp un gd cn cs a ccd cl outer A₀ base h₀ L m s Q E cB cF cX cN cT cK cD cU hret
  replace cN := news_dup cN hl
  refine wpAny_call ?_
  k_dflt cell_enter
  k_steps
  unfold Stop
  refine' forRange (σ := Int × Tok) (n := ns.length) (fun _ => (l, listOf vs.toArray n) :: news) (fun c => [(Str.ofString "number", .int c.1 c.2), (Str.ofString "figures", .ref l), (Str.ofString "bias", .int b t2)]) (fun i c => i ≤ ns.length ∧ c.1 = numF b (ns.length - i) (ns.drop (ns.length - i))) rfl (by assumption) ?_ ?_ (by assumption) (by assumption) ?_ ?_ ?_
  · exact small_down (by omega) (by omega) (by decide) (by decide)
  · rw [rangeSize_downNat]; omega
  · refine' ⟨(_, _), by kst_in, by ((try dsimp only); (repeat (refine AllP.cons (by with_unfolding_all rfl) ?_)); exact AllP.nil), ?_⟩
    refine ⟨Nat.zero_le _, ?_⟩
    simp [numF]
  · rintro ⟨nu, tn⟩ I i ti u h tk oI hin ⟨_, hP⟩ hne F N Qb hb9
    dsimp only [kstB] at F hP
    have hidx : (ns.length : Int) - 1 + i * -1 = ((ns.length - (i + 1) : Nat) : Int) := by omega
    have hlt : ns.length - (i + 1) < ns.length := by omega
    rw [hidx] at F
    k_steps
    refine' FEnd.intro (_, _) (by assumption) (by assumption) (.head _) (by kst_in) hne (by ((try dsimp only); (repeat (refine AllP.cons (by with_unfolding_all rfl) ?_)); exact AllP.nil)) ⟨by omega, ?_⟩
    exact number_turn hin hP
  · rintro ⟨nu, tn⟩ u h tk ⟨_, hP⟩ F N
    dsimp only [kstB] at F hP
    k_steps
    refine hret _ [] _ _ (by assumption) (news_sub (by assumption) fun p hp => List.mem_cons_of_mem _ hp) (fun _ _ _ h9 => nomatch h9) ⟨rfl, tn, ?_, numF_fit hlen hfig⟩
    have e : nu = numF b 0 ns := by simpa using hP
    rw [e]
end
end Mine

namespace Mine
section
local macro_rules | `(tactic| k_mem) => `(tactic| assumption)
local macro_rules | `(tactic| k_all) => `(tactic| assumption)
theorem seated_c (w : World) (news : List (Addr × Obj)) (st : Str) (l : Addr) (vs : List Value) (n : Nat) (sp : List (Int × Int)) (t2 : Tok) (hl : (l, listOf vs.toArray n) ∈ news) (hi : StoryIn news vs sp) (hlen : vs.length ≤ 40) (hst : st.length ≤ 100) (hse : Seats st.length sp) :
    Ctr PySem.Challenge.rw_rl0154_02.row.prog w (Mine.hd.heap_39 w.params) Mine.hd.view_39 84 2 2 [.str st t2, .ref l] news (fun tl r => tl = [] ∧ ∃ t, r = .str (Str.mk (insAll st.cps.toList sp).toArray) t) := by
  k_with_none
  k_with "pyIter ref" => (refine Stop.intro ?_)
  k_with "execs cons" => ((try dsimp only); refine tok_any ?_; intro _; refine wpAny_execs_cons ?_)
  k_with "eval Name" => (k_here; k_dflt (refine' nameV_L ?nv1 ?nv2 ?_ ?nv3 ?nv4; (case nv1 => k_asm); (case nv3 => rfl); (case nv4 => rfl); (case nv2 => rfl); k_whole))
  k_with "Blk" => (refine hb9 _ _ ?_; dsimp only [FPost])
  k_with "call builtin:len cons nil" => (k_here; (with_reducible show wpAny _ _ (call (Value.builtin "len") [Value.ref _]) _ _ _); k_dflt (refine' r_len ?k1 ?k2 ?k3 ?_; (case k1 => k_asm); (case k2 => k_mem); (case k3 => (first | omega | (simp only [List.length_map, List.length_range, List.length_replicate]; omega))); k_whole))
  k_with "binaryOp Mult ref int" => (k_here; k_dflt (refine' r_mul1 ?k1 ?k2 ?k3 ?k4 ?k5 ?_; (case k1 => k_asm); (case k2 => k_asm); (case k3 => k_mem); (case k4 => omega); (case k5 => (simp only [rangeKs_length]; omega)); k_whole); intro D2 h2 F' N' l1c; (try k_lt l1c); (try k_sweep))
  k_with "subscriptTail" => (k_here; (with_reducible show wpAny _ _ (subscriptTail _ _ (Value.ref _) (Value.int _ _)) _ _ _); k_dflt (refine' r_sub ?k1 ?k2 ?k3 ?k4 ?k5 ?_; (case k1 => k_asm); (case k2 => k_mem); (case k3 => omega); (case k4 => with_reducible assumption); (case k5 => omega); k_whole))
  k_with "subscriptTail" => (k_here; (with_reducible show wpAny _ _ (subscriptTail _ _ (Value.ref _) (Value.int 0 _)) _ _ _); k_dflt (refine' r_pair0 ?k1 ?k2 ?_; (case k1 => k_asm); (case k2 => k_mem); k_whole))
  k_with "subscriptTail" => (k_here; (with_reducible show wpAny _ _ (subscriptTail _ _ (Value.ref _) (Value.int 1 _)) _ _ _); k_dflt (refine' r_pair1 ?k1 ?k2 ?_; (case k1 => k_asm); (case k2 => k_mem); k_whole))
  k_with "call builtin:list.pop cons nil" => (k_here; k_dflt (refine' r_popAt ?k1 ?k2 ?k3 ?k4 ?k5 ?k6 ?_; (case k1 => k_asm); (case k2 => k_asm); (case k5 => with_reducible assumption); (case k3 => k_upd); (case k4 => omega); (case k6 => omega); k_whole); intro h' F' N'; (try k_sweep))
  k_with "call builtin:str.join cons nil" => (k_here; k_dflt (refine' r_join ?k1 ?k2 ?k3 ?k4 ?k5 ?_; (case k1 => k_asm); (case k3 => with_reducible assumption); (case k2 => k_mem); (case k4 => exact rfl); (case k5 => with_reducible assumption); k_whole); intro t' tk')
  k_with "setItem ref int" => (k_here; k_dflt (refine' r_setAt ?k1 ?k2 ?k3 ?k4 ?k5 ?k6 ?_; (case k1 => k_asm); (case k2 => k_asm); (case k3 => k_upd); (case k4 => omega); (case k5 => omega); (case k6 => omega); k_whole); intro h' F' N'; (try k_sweep))
  k_fill
  w_top off
  unfold Ctr
  intro loose mean mg mb dp un gd cn cs a ccd cl outer A₀ base h₀ L m s Q E cB cF cX cN cT cK cD cU hret
  replace cN := news_dup cN hl
  refine wpAny_call ?_
  k_dflt cell_enter
  k_steps
  rename_i D1 fvs0 c1 _ _ hI1 l1a _ _ _ _ l1b _ _ _ _ _ _ _ _ _ Hr _ _ _
  obtain ⟨hvl, hvs⟩ := hi
  have ha1 : ∀ p ∈ news, p.1 ≠ D1 := fun p hp => Nat.ne_of_lt (allLt_mem l1a.2 p hp)
  have ha2 : ∀ p ∈ news, p.1 ≠ D2 := fun p hp => Nat.ne_of_lt (allLt_mem l1c.2.2.2 p hp)
  unfold Stop
  refine' forRange (σ := List Value × Nat × List Value) (n := sp.length) (fun c => (D2, listOf c.2.2.toArray 0) :: (D1, listOf c.1.toArray c.2.1) :: (l, listOf vs.toArray n) :: news) (fun c => [(Str.ofString "free", .ref D1), (Str.ofString "word", .ref D2), (Str.ofString "stem", .str st t2), (Str.ofString "story", .ref l)]) (fun i c => SeatP st.length sp i c.1 c.2.2) rfl (by assumption) ?_ ?_ (by assumption) (by assumption) ?_ ?_ ?_
  · exact small_down (by omega) (by omega) (by decide) (by decide)
  · rw [rangeSize_downNat]; omega
  · have hR : IntsAre fvs0 (rangeKs 0 (st.length + sp.length)) := by
      have e : ((st.length : Int) + (vs.length : Int) - 0).toNat = st.length + sp.length := by omega
      rw [e] at hI1
      exact hI1
    have eN : ((rangeKs 0 ((st.length : Int) + (vs.length : Int) - 0).toNat).length : Int).toNat = st.length + sp.length := by
      rw [rangeKs_length]; omega
    rw [eN]
    refine' ⟨(_, _, _), by kst_inAny, by ((try dsimp only); (repeat (refine AllP.cons (by with_unfolding_all rfl) ?_)); exact AllP.nil), ?_⟩
    exact seat_start st.length sp hR
  · rintro ⟨fvs, e1, wvs⟩ I i ti u h tk oI hin hP hne F N Qb hb9
    dsimp only [kstB] at F hP N
    have hidx : (vs.length : Int) - 1 + i * -1 = ((sp.length - (i + 1) : Nat) : Int) := by omega
    obtain ⟨fs, ws, hfs, hws, hst', hle, hfl, hwl, hw1, hfb⟩ := hP
    have hj : sp.length - (i + 1) < sp.length := by omega
    obtain ⟨a9, ta, tb, n9, hv, hm⟩ := hvs (sp.length - (i + 1)) sp[sp.length - (i + 1)] (by simp [hj])
    obtain ⟨q1, q2, q3, q4⟩ := hse (sp.length - (i + 1)) sp[sp.length - (i + 1)] (by simp [hj])
    generalize hx : sp[sp.length - (i + 1)] = x at *
    obtain ⟨x1, x2⟩ := x
    dsimp only at hm q1 q2 q3 q4
    have hfi : x2.toNat < fs.length := by omega
    obtain ⟨tf, hpop⟩ := hfs.get x2.toNat fs[x2.toNat] (by simp [hfi])
    obtain ⟨f1, f2⟩ := hfb fs[x2.toNat] (List.getElem_mem hfi)
    generalize hf : fs[x2.toNat] = f at *
    have hv' : vs[(((sp.length - (i + 1) : Nat) : Int)).toNat]? = some (.ref a9) := by rw [Int.toNat_natCast]; exact hv
    have hIa := neN (a := D2) (b := I) (hne _ (.head _))
    have hIb := neN (a := D1) (b := I) (hne _ (.tail _ (.head _)))
    have hfl' := hfs.length
    have hwl' := StrsAre_length hws
    rw [hidx] at F
    k_steps
    refine' FEnd.intro (_, _, _) (by assumption) (by assumption) (.head _) (by kst_in) ?_ (by ((try dsimp only); (repeat (refine AllP.cons (by with_unfolding_all rfl) ?_)); exact AllP.nil)) ?_
    · exact List.forall_mem_cons.mpr ⟨hIa, List.forall_mem_cons.mpr ⟨hIb, fun p hp => hne p (.tail _ (.tail _ hp))⟩⟩
    · exact seat_turn hfs hws hst' hin hfl hwl hw1 hfb hx hfi f hf
  · rintro ⟨fvs, e1, wvs⟩ u h tk hP F N
    dsimp only [kstB] at F hP N
    obtain ⟨fs, ws, hfs, hws, hst', hle, hfl, hwl, hw1, hfb⟩ := hP
    have hfl' := hfs.length
    k_steps
    unfold Stop
    refine' forRange (σ := List Value) (n := st.length) (fun c => (D2, listOf c.toArray 0) :: (D1, listOf fvs.toArray e1) :: (l, listOf vs.toArray n) :: news) (fun c => [(Str.ofString "free", .ref D1), (Str.ofString "word", .ref D2), (Str.ofString "stem", .str st t2)]) (fun i c => SpotP (st.length + sp.length) fs (signs st) (putL ws fs (signs st)) i c) rfl (by assumption) ?_ ?_ (by assumption) (by assumption) ?_ ?_ ?_
    · exact small_up (by omega) (by omega)
    · exact rangeSize_up _
    · refine' ⟨_, by kst_in, by ((try dsimp only); (repeat (refine AllP.cons (by with_unfolding_all rfl) ?_)); exact AllP.nil), ?_⟩
      exact ⟨ws, hws, hwl, hw1, rfl⟩
    · rintro wv2 I i ti u h tk oI hin hP hne F N Qb hb9
      dsimp only [kstB] at F hP N
      obtain ⟨ws2, hws2, hwl2, hw2, hput⟩ := hP
      have hidx : (0 : Int) + i * 1 = (i : Int) := by omega
      rw [hidx] at F
      have hfi : i < fs.length := by omega
      obtain ⟨tf, hpop⟩ := hfs.get i fs[i] (by simp [hfi])
      have hpop' : fvs[((i : Int)).toNat]? = some (Value.int fs[i] tf) := by rw [Int.toNat_natCast]; exact hpop
      obtain ⟨f1, f2⟩ := hfb fs[i] (List.getElem_mem hfi)
      have hIa := neN (a := D2) (b := I) (hne _ (.head _))
      have hIb := neN (a := D1) (b := I) (hne _ (.tail _ (.head _)))
      have hwl2' := StrsAre_length hws2
      have hg1 : 0 ≤ fs.getD ((i : Int)).toNat 0 := by rw [Int.toNat_natCast, List.getD_eq_getElem?_getD, List.getElem?_eq_getElem hfi]; exact f1
      have hg2 : fs.getD ((i : Int)).toNat 0 < (wv2.length : Int) := by rw [Int.toNat_natCast, List.getD_eq_getElem?_getD, List.getElem?_eq_getElem hfi]; simp; omega
      k_steps
      refine' FEnd.intro _ (by assumption) (by assumption) (.head _) (by kst_in) ?_ (by ((try dsimp only); (repeat (refine AllP.cons (by with_unfolding_all rfl) ?_)); exact AllP.nil)) ?_
      · exact List.forall_mem_cons.mpr ⟨hIa, List.forall_mem_cons.mpr ⟨hIb, fun p hp => hne p (.tail _ (.tail _ hp))⟩⟩
      · exact spot_turn hws2 hwl2 hw2 hput hfi (by rw [signs_length]; exact hin) (item_sign hin).1 (item_sign hin).2
    · rintro wv2 u h tk hP F N
      dsimp only [kstB] at F hP N
      obtain ⟨ws2, hws2, hwl2, hw2, hput⟩ := hP
      have hsum : (ws2.map (·.length)).sum ≤ 1000000 := Nat.le_trans (sum_le1 hw2) (by omega)
      k_steps
      refine hret _ [] _ _ (by assumption) (news_sub (by assumption) ?_) (fun _ _ _ h9 => nomatch h9) ⟨rfl, _, by rw [seat_done hse hst' hfl hput]⟩
      exact fun p hp => List.mem_cons_of_mem _ (List.mem_cons_of_mem _ (List.mem_cons_of_mem _ hp))
end
end Mine

namespace Mine
section
theorem bint_get {bs : Array UInt8} {oc : List Int} (hi : KBw.bInts bs = oc) {i : Nat} {o : Int} (ho : oc[i]? = some o) : ∃ c : UInt8, bs[i]? = some c ∧ (c.toNat : Int) = o := by
  have hlt := (List.getElem?_eq_some_iff.mp ho).1
  have hb : i < bs.size := by rw [← hi, KBw.ints_length] at hlt; exact hlt
  have h1 := KBw.ints_get (b := bs) (i := i) (c := bs[i]) (by simp [hb])
  rw [hi, ho] at h1
  exact ⟨bs[i], by simp [hb], (Option.some.inj h1).symm⟩
section
variable {prog : Program} {w : World} {A : Around} {E : Value → Shared → Prop} {s : Shared} {bs : Array UInt8} {oc : List Int} {i : Int} {o : Int} {t u : Tok}
theorem fitsIndex_bytes {i : Int} (h0 : 0 ≤ i) (h1 : i < 2 ^ 63) : Builtin.Bytes.fitsIndex i = true := by
  simp only [Builtin.Bytes.fitsIndex, Bool.and_eq_true, decide_eq_true_eq]; omega
theorem raises_bytes_getitem (b : Array UInt8) (i : Int) (t u : Tok) (hr : Builtin.Bytes.fitsIndex i = true) (h : (seqIndex? i b.size).bind (b[·]?) = none) :
    Meets (Builtin.«bytes.__getitem__» ⟨[.bytes b t, .int i u], []⟩) (raisesNew "IndexError") := by
  intro prog w A R s hS
  show wpAny _ _ (Builtin.Bytes.subscript? (.int i u) >>= fun r => _) _ _ s
  refine wpAny_bind ?_
  unfold Builtin.Bytes.subscript?
  refine wpAny_bind (wpAny_specialOf (typeIs_int s i u) F.slot_int_index.lookup ?_)
  show wpAny _ _ (if (!Builtin.Bytes.fitsIndex i) = true then _ else pure (some i)) _ _ s
  rw [hr]
  refine wpAny_pure ?_
  show wpAny _ _ (match (seqIndex? i b.size).bind (b[·]?) with | some x => retInt x.toNat | none => _) _ _ s
  rw [h]
  first
    | exact wpAny_bind (wpAny_rule (by exact_raiseError plainExc_IndexError hS.1 hS.2))
    | exact wpAny_bind (wpAny_rule (wpAny_bind (by exact_raiseError plainExc_IndexError hS.1 hS.2)))
theorem r_bitem {value slice : PySem.Expr} {Q : Value → Shared → Prop} (hi : KBw.bInts bs = oc) (h0 : 0 ≤ i) (hz : oc.length ≤ 1000000) (ho : oc[i.toNat]? = some o) (h : Q (.int o s.toks) { s with toks := s.toks + 1 })
    (hs : subscripted slice false (.bytes bs t) (.int i u) = operate [.bytes bs t, .int i u] (getItem (.bytes bs t) (.int i u)) := by with_unfolding_all rfl) :
    wpAny (model prog w) A (subscriptTail value slice (.bytes bs t) (.int i u)) Q E s := by
  obtain ⟨c, hc, rfl⟩ := bint_get hi ho
  have hb : i.toNat < bs.size := (Array.getElem?_eq_some_iff.mp hc).1
  have hbz : bs.size = oc.length := by rw [← hi]; exact (KBw.ints_length bs).symm
  refine tail_any (typeIs_bytes s bs t) FB.slot_bytes_getitem.lookup (getItem_gives (typeIs_bytes s _ t) (by decide) FB.slot_bytes_getitem FB.entry_bytes_getitem (FB.args_bytes_getitem_2 _ _) (gives_bytes_getitem _ i t u c (fitsIndex_bytes h0 (by omega)) ?_) h) hs
  have : seqIndex? i bs.size = some i.toNat := by
    have hn : ¬ i < 0 := by omega
    simp [seqIndex?, hn, h0]; omega
  rw [this]; exact hc
theorem r_bitem_out {value slice : PySem.Expr} {Q : Value → Shared → Prop} (hA : A.handled = none) (h0 : 0 ≤ i) (hz : i < 2 ^ 63) (ho : (bs.size : Int) ≤ i)
    (hE : ∀ h' tk e, Heap.NewExc s.heap h' e "IndexError" → E (.ref e) { s with heap := h', toks := tk })
    (hs : subscripted slice false (.bytes bs t) (.int i u) = operate [.bytes bs t, .int i u] (getItem (.bytes bs t) (.int i u)) := by with_unfolding_all rfl) :
    wpAny (model prog w) A (subscriptTail value slice (.bytes bs t) (.int i u)) Q E s := by
  refine tail_any (typeIs_bytes s bs t) FB.slot_bytes_getitem.lookup (getItem_meets (typeIs_bytes s _ t) (by decide) FB.slot_bytes_getitem FB.entry_bytes_getitem (FB.args_bytes_getitem_2 _ _) (raises_bytes_getitem _ i t u (fitsIndex_bytes h0 hz) ?_) ⟨hA, fun h' tk e hx => hE h' tk e hx⟩) hs
  have : seqIndex? i bs.size = none := by
    have hn : ¬ i < 0 := by omega
    simp [seqIndex?, hn, h0]; omega
  rw [this]; rfl
end
end
end Mine

namespace Mine
section
theorem frames_in {env : Env} {outer : List Env} {L b : Addr} (hf : env.frame = some L) (hm : b ∈ (env :: outer).filterMap (·.frame)) : b = L ∨ b ∈ outer.filterMap (·.frame) := by
  rw [List.filterMap_cons, hf] at hm
  exact List.mem_cons.mp hm
section
variable {prog : Program} {w : World} {A₀ A : Around} {s : Shared} {base h₀ : Heap} {outer : List Env} {env : Env} {L : Addr} {m : Str → Option Value} {news : List (Addr × Obj)} {K : Frag} {p : Program} {loose : List Str} {mean : ExcName → Option Value} {mg mb : Str → Option Value}
/-- what a callee that turned the frames gives back to its caller, whatever the caller's place -/
theorem turn_back {g g' H : Heap} {L' : Addr} {m' : Str → Option Value} {news' : List (Addr × Obj)} (B : Below A₀ base outer h₀) (hf : env.frame = some L) (FG : Fr h₀ L g m) (XB : K.In base) (TB : Top p loose mean mg mb base) (D : KtsDicts (outer.filterMap (·.frame)) h₀)
    (T : KtsTurn ((env :: outer).filterMap (·.frame)) g g') (F : Fr g' L' H m') (N : News g' L' H news') :
    ∃ h₀', KtsTurn (outer.filterMap (·.frame)) h₀ h₀' ∧ Fr h₀' L H m ∧ News h₀' L H news' ∧ Below A₀ base outer h₀' ∧ K.In h₀' ∧ Top p loose mean mg mb h₀' ∧ KtsDicts (outer.filterMap (·.frame)) h₀' := by
  have apart : h₀.get? L = none := kts_self FG
  obtain ⟨oL, es, ep, hL, r⟩ := FG.ns
  obtain ⟨sl, hsl⟩ := T.up hL
  have up : ∀ b o, h₀.get? b = some o → ∃ sl, H.get? b = some { o with slots := sl } := fun b o e => by
    obtain ⟨q, hq⟩ := T.up (FG.keep b o e)
    exact ⟨q, F.keep _ _ hq⟩
  obtain ⟨T₁, S₁⟩ := kts_turn_at (g := h₀) (h := H) (fs := outer.filterMap (·.frame)) (fun b hb => (B.frames.mem hb).2.imp fun _ x => x.1)
    (fun b o e nb => F.keep b o (T.other b o (FG.keep b o e) fun hm => (frames_in hf hm).elim (fun z => by rw [z, apart] at e; cases e) nb)) fun b o e _ => up b o e
  have B₁ : Below A₀ base outer (ktsHeap H (outer.filterMap (·.frame)) h₀) := by
    refine ⟨B.stack, fun b o e => T₁.other b o (B.stays b o e) fun hm => ?_, B.frames.of_keeps fun b o e _ => ?_⟩
    · rw [(B.frames.mem hm).1] at e; cases e
    · obtain ⟨q, hq⟩ := T₁.up e
      exact ⟨_, hq, rfl⟩
  refine ⟨_, T₁, ⟨⟨_, es, ep, F.keep _ _ hsl, r⟩, S₁, by rw [T₁.size]; exact FG.above⟩, fun x hx => ⟨(N x hx).1, fun e => ?_, T₁.none_ _ ?_⟩, B₁, XB.keeps B₁.stays, TB.keeps B₁.stays, D.turn T₁⟩
  · have h9 := (N x hx).2.2
    rw [e, hsl] at h9; cases h9
  · cases q : h₀.get? x.1 with
    | none => rfl
    | some o =>
      obtain ⟨sl', hs'⟩ := T.up (FG.keep _ _ q)
      have h9 := (N x hx).2.2
      rw [hs'] at h9; cases h9

/-- a plain def entered from any frame, where the callee may turn the frames -/
theorem enterT {R : Result → Shared → Prop} {name qual : Str} {params : Arguments} {body : List Stmt} {scope : Scope} {dV kV doc pm cdv ct oc : Value} {an od : Option Addr} {osl : Array (Option Value)} {f : Addr} {args : Args} {binds : List (Str × Value)}
    (B : Below A₀ base outer h₀) (F : Fr h₀ L s.heap m) (X₀ : K.In h₀) (N : News h₀ L s.heap news) (T : Top p loose mean mg mb h₀) (XB : K.In base) (TB : Top p loose mean mg mb base) (D : KtsDicts (outer.filterMap (·.frame)) h₀)
    (hA : A.frames = some (env :: outer)) (hf : env.frame = some L) (hke : env.scope.kind = .function)
    (ho : K.lookup f = some ⟨oc, od, .func (fnOf name qual params body scope dV kV doc pm an cdv ct), osl⟩) (hcd : codeIn K cdv qual = true) (hroom : A.depth < recursionLimit)
    (hbind : BindsTo s (fnOf name qual params body scope dV kV doc pm an cdv ct) args binds) (hloc : ∀ y ∈ binds, scope.names.lookup y.1 = some .local)
    (h : ∀ g L' h₁, Fr h₀ L g m → Fr g L' h₁ (fun y => binds.reverse.lookup y) → News g L' h₁ news → Below A base (env :: outer) g → K.In g → Top p loose mean mg mb g → KtsDicts ((env :: outer).filterMap (·.frame)) g →
      wpAny (model prog w) (A.deeper (envOf qual scope L' f cdv)) (execs body (envOf qual scope L' f cdv))
        (fun fl s' => LeaveS ((env :: outer).filterMap (·.frame)) A₀ base outer K p loose mean mg mb h₀ h₀ L m g R (match fl with | .ret v => v | _ => .none) s')
        (fun e s' => wpAny (model prog w) (A.deeper (envOf qual scope L' f cdv)) (leaving (envOf qual scope L' f cdv) e) (fun _ s'' => R (.error e) s'') (fun e' s'' => R (.error e') s'') s')
        { s with heap := h₁, toks := s.toks + binds.length })
    (hco : scope.isCoroutine = false) (hgen : scope.isGenerator = false) (hk : scope.kind = .function)
    (hcell : ∀ x ∈ scope.names, x.2 ≠ .cell) : codeAny (model prog w) A (.call (.ref f) args) R s := by
  have X := X₀.keeps F.keep
  obtain ⟨FG, BG, st, lv⟩ := groundX (R := R) B F N hA hf hke
  have DG : KtsDicts ((env :: outer).filterMap (·.frame)) (hideAll s.heap (news.map (·.1))) := fun b hb => by
    rcases frames_in hf hb with rfl | hb
    · obtain ⟨oL, es, ep, hL, hd, _⟩ := FG.ns
      exact ⟨oL, es, ep, hL, hd⟩
    · obtain ⟨o, es, n, ho', hd⟩ := D b hb
      exact ⟨o, es, n, st b o ho', hd⟩
  refine codeAny_call_def (fd := fnOf name qual params body scope dV kV doc pm an cdv ct) (body := body) (binds := binds) hroom (X _ _ ho) rfl (T.nolimit.keeps F.keep) (codeRec_of X hcd) rfl hbind hcell hloc (fun h₁ hns hk₁ => ?_) hco hgen hk
  refine wpAny_mono (h _ s.heap.objs.size h₁ FG ⟨hns, fun b o e => hk₁ b o (of_hideAll _ e), Nat.le_of_eq (hideAll_size _ _)⟩
    (fun p hp => ⟨hk₁ _ _ (N p hp).1, Nat.ne_of_lt (Heap.lt_size (N p hp).1), hideAll_none _ (List.mem_map_of_mem hp)⟩) BG (X₀.keeps st) (T.keeps st) DG) (fun fl s' hl => ?_) fun _ _ y => y
  rcases hl with hl | ⟨g', L', m', news', T', F', N', k⟩
  · exact lv _ _ hl
  · obtain ⟨h₀', T₁, F₁, N₁, B₁, X₁, P₁, D₁⟩ := turn_back B hf FG XB TB D T' F' N'
    exact k h₀' T₁ F₁ N₁ B₁ X₁ P₁ D₁
end

section
variable {prog : Program} {w : World} {A₀ : Around} {E : Value → Shared → Prop} {s' : Shared} {base g h : Heap} {outer : List Env} {L a e : Addr} {m : Str → Option Value} {name : Str} {scope : Scope} {cd : Value}
  {b₀ : Stmt} {suite : List Stmt} {pos np : Pos} {rest : List ExceptHandler} {Q : Flow → Shared → Prop} {news : List (Addr × Obj)} {KF : Frag}
  {p : Program} {loose : List Str} {mean : ExcName → Option Value} {mg mb : Str → Option Value} {x : Str} {X T' : String}
end

theorem turn_nil {h₀ h₀' : Heap} (T : KtsTurn [] h₀ h₀') {L : Addr} {h : Heap} {m : Str → Option Value} {news : List (Addr × Obj)} (F : Fr h₀' L h m) (N : News h₀' L h news) : Fr h₀ L h m ∧ News h₀ L h news := by
  have kp : ∀ b o, h₀.get? b = some o → h₀'.get? b = some o := fun b o e => T.other b o e (fun h => nomatch h)
  refine ⟨⟨F.ns, fun b o e => F.keep b o (kp b o e), by rw [← T.size]; exact F.above⟩, fun q hq => ⟨(N q hq).1, (N q hq).2.1, ?_⟩⟩
  cases e : h₀.get? q.1 with
  | none => rfl
  | some o => have h9 := (N q hq).2.2; rw [kp _ _ e] at h9; cases h9

end
end Mine

namespace Mine
section
/-- how many octets one numeral takes, and its number (none: no numeral stands there) -/
def decF (b : Int) : List Int → List Int → Nat × Option Int
  | [], _ => (1, none)
  | o :: r, figs => match dig o with
    | none => (1, none)
    | some d => if d < tF figs.length b then (1, some (numF b 0 (figs ++ [d]))) else ((decF b r (figs ++ [d])).1 + 1, (decF b r (figs ++ [d])).2)
def wF (b : Int) : Nat → List Int → Int
  | _, [] => 1
  | j, _ :: r => (36 - tF j b) * wF b (j + 1) r
theorem numF_snoc (b d : Int) : ∀ (figs : List Int) (j : Nat), numF b j (figs ++ [d]) = numF b j figs + d * wF b j figs
  | [], j => by simp [numF, wF]
  | f :: r, j => by
    show f + (36 - tF j b) * numF b (j + 1) (r ++ [d]) = f + (36 - tF j b) * numF b (j + 1) r + d * ((36 - tF j b) * wF b (j + 1) r)
    rw [numF_snoc b d r (j + 1), Int.mul_add, Int.mul_left_comm d]
    omega
theorem wF_snoc (b d : Int) : ∀ (figs : List Int) (j : Nat), wF b j (figs ++ [d]) = wF b j figs * (36 - tF (j + figs.length : Nat) b)
  | [], j => by simp [wF]
  | f :: r, j => by
    show (36 - tF j b) * wF b (j + 1) (r ++ [d]) = (36 - tF j b) * wF b (j + 1) r * (36 - tF (j + (r.length + 1) : Nat) b)
    rw [wF_snoc b d r (j + 1), Int.mul_assoc]
    have e : j + 1 + r.length = j + (r.length + 1) := by omega
    rw [e]
/-- where the reading of one numeral stands: j figures behind, at octet ep -/
structure DP (b : Int) (oc : List Int) (p : Nat) (re ww : Int) (j ep : Nat) : Prop where
  at_ : ep = p + j
  inn : ep ≤ oc.length
  rest : ∃ figs : List Int, figs.length = j ∧ re = numF b 0 figs ∧ ww = wF b 0 figs ∧ (decF b (oc.drop p) []).1 = (decF b (oc.drop ep) figs).1 + j ∧ (decF b (oc.drop p) []).2 = (decF b (oc.drop ep) figs).2
theorem DP.start {b : Int} {oc : List Int} {p : Nat} (hp : p ≤ oc.length) : DP b oc p 0 1 0 p := ⟨rfl, hp, [], rfl, rfl, rfl, rfl, rfl⟩
theorem decF_cons {b o : Int} {r figs : List Int} {d : Int} (hd : dig o = some d) :
    decF b (o :: r) figs = if d < tF figs.length b then (1, some (numF b 0 (figs ++ [d]))) else ((decF b r (figs ++ [d])).1 + 1, (decF b r (figs ++ [d])).2) := by
  show (match dig o with | none => _ | some d => _) = _
  rw [hd]
theorem DP.go {b : Int} {oc : List Int} {p : Nat} {re ww : Int} {j ep : Nat} (h : DP b oc p re ww j ep) {o d : Int} (ho : oc[ep]? = some o) (hd : dig o = some d) (hn : ¬ d < tF j b) :
    DP b oc p (re + d * ww) (ww * (36 - tF j b)) (j + 1) (ep + 1) := by
  obtain ⟨h1, h2, figs, f1, f2, f3, f4, f5⟩ := h
  have hlt := (List.getElem?_eq_some_iff.mp ho).1
  have q := decF_cons (b := b) (r := oc.drop (ep + 1)) (figs := figs) hd
  rw [← drop_of ho, f1, if_neg hn] at q
  rw [q] at f4 f5
  refine ⟨by omega, by omega, figs ++ [d], by simp [f1], by rw [numF_snoc, f2, f3], ?_, ?_, f5⟩
  · rw [wF_snoc, f3, Nat.zero_add, f1]
  · rw [f4]; dsimp only; omega
theorem DP.done {b : Int} {oc : List Int} {p : Nat} {re ww : Int} {j ep : Nat} (h : DP b oc p re ww j ep) {o d : Int} (ho : oc[ep]? = some o) (hd : dig o = some d) (hn : d < tF j b) :
    p + (decF b (oc.drop p) []).1 = ep + 1 ∧ (decF b (oc.drop p) []).2 = some (re + d * ww) := by
  obtain ⟨h1, h2, figs, f1, f2, f3, f4, f5⟩ := h
  have q := decF_cons (b := b) (r := oc.drop (ep + 1)) (figs := figs) hd
  rw [← drop_of ho, f1, if_pos hn] at q
  rw [q] at f4 f5
  refine ⟨by rw [f4]; dsimp only; omega, by rw [f5, numF_snoc, f2, f3]⟩
theorem DP.bad {b : Int} {oc : List Int} {p : Nat} {re ww : Int} {j ep : Nat} (h : DP b oc p re ww j ep) {o : Int} (ho : oc[ep]? = some o) (hd : dig o = none) :
    p + (decF b (oc.drop p) []).1 = ep + 1 ∧ (decF b (oc.drop p) []).2 = none := by
  obtain ⟨h1, h2, figs, f1, f2, f3, f4, f5⟩ := h
  have q : decF b (oc.drop ep) figs = (1, none) := by
    rw [drop_of ho]
    show (match dig o with | none => _ | some d => _) = _
    rw [hd]
  rw [q] at f4 f5
  exact ⟨by rw [f4]; dsimp only; omega, f5⟩
theorem DP.out {b : Int} {oc : List Int} {p : Nat} {re ww : Int} {j ep : Nat} (h : DP b oc p re ww j ep) (he : oc.length ≤ ep) :
    p + (decF b (oc.drop p) []).1 = ep + 1 ∧ (decF b (oc.drop p) []).2 = none := by
  obtain ⟨h1, h2, figs, f1, f2, f3, f4, f5⟩ := h
  have q : decF b (oc.drop ep) figs = (1, none) := by
    rw [List.drop_eq_nil_of_le he]; rfl
  rw [q] at f4 f5
  exact ⟨by rw [f4]; dsimp only; omega, f5⟩

theorem decF_range (b : Int) : ∀ (l figs : List Int) (nu : Int), (∀ f ∈ figs, 0 ≤ f ∧ f < 36) → (decF b l figs).2 = some nu → 0 ≤ nu ∧ (decF b l figs).1 ≤ l.length ∧ nu < 36 ^ (figs.length + l.length)
  | [], _, _, _, h => by cases h
  | o :: r, figs, nu, hf, h => by
    cases hd : dig o with
    | none =>
      have q : decF b (o :: r) figs = (1, none) := by
        show (match dig o with | none => _ | some d => _) = _
        rw [hd]
      rw [q] at h; cases h
    | some d =>
      have hf' := fig_app hf (dig_range hd).1 (dig_range hd).2
      have q := decF_cons (b := b) (r := r) (figs := figs) hd
      by_cases hn : d < tF figs.length b
      · rw [if_pos hn] at q
        rw [q] at h ⊢
        obtain rfl : numF b 0 (figs ++ [d]) = nu := Option.some.inj h
        obtain ⟨x1, x2⟩ := numF_bound b (figs ++ [d]) 0 hf'
        refine ⟨x1, by dsimp only; simp, Int.lt_of_lt_of_le x2 ?_⟩
        have e : (36 : Nat) ^ (figs ++ [d]).length ≤ 36 ^ (figs.length + (o :: r).length) := Nat.pow_le_pow_right (by decide) (by simp)
        have e' := Int.ofNat_le.mpr e
        simpa using e'
      · rw [if_neg hn] at q
        rw [q] at h ⊢
        obtain ⟨x1, x2, x3⟩ := decF_range b r (figs ++ [d]) nu hf' h
        refine ⟨x1, by dsimp only; simp; omega, ?_⟩
        have e : (figs ++ [d]).length + r.length = figs.length + (o :: r).length := by simp; omega
        rw [← e]; exact x3
def pairOf (v u : Value) : Obj := { cls := .type "tuple", data := .seq #[v, u] }
def DecS (b : Int) (oc : List Int) (p : Nat) (tl : List (Addr × Obj)) (r : Value) : Prop :=
  ∃ (D : Addr) (x : Int) (t : Tok) (nu : Int) (t2 : Tok), r = .ref D ∧ tl = [(D, pairOf (.int x t) (.int nu t2))] ∧ (decF b (oc.drop p) []).2 = some nu ∧ x = ((p + (decF b (oc.drop p) []).1 : Nat) : Int)
theorem DecS.mk' {b : Int} {oc : List Int} {p ep j : Nat} {re ww o d : Int} {D : Addr} {t t2 : Tok} (h : DP b oc p re ww j ep) (ho : oc[ep]? = some o) (hd : dig o = some d) (hn : d < tF j b) :
    DecS b oc p [(D, pairOf (.int ((ep : Int) + 1) t) (.int (re + d * ww) t2))] (.ref D) := by
  obtain ⟨h1, h2⟩ := h.done ho hd hn
  exact ⟨D, _, t, _, t2, rfl, rfl, h2, by rw [h1]; omega⟩
theorem fresh1 {news : List (Addr × Obj)} {D : Addr} {o : Obj} (h : ∀ p ∈ news, p.1 < D) : ∀ q ∈ news, ∀ p ∈ [(D, o)], q.1 < p.1 := fun q hq p hp => by
  rw [List.mem_singleton.mp hp]; exact h q hq
theorem decF_pos (b : Int) : ∀ (l figs : List Int), 1 ≤ (decF b l figs).1
  | [], _ => Nat.le_refl _
  | o :: r, figs => by
    cases hd : dig o with
    | none =>
      have q : decF b (o :: r) figs = (1, none) := by
        show (match dig o with | none => _ | some d => _) = _
        rw [hd]
      rw [q]; exact Nat.le_refl _
    | some d =>
      rw [decF_cons hd]
      split
      · exact Nat.le_refl _
      · dsimp only; omega
theorem fdiv_up {a n : Int} (h : 0 ≤ a) (hn : 0 ≤ n) : 0 ≤ a.fdiv n := by
  rw [Int.fdiv_eq_ediv_of_nonneg _ hn]; exact Int.ediv_nonneg h hn
theorem fmod_in {a n : Int} (hn : 0 < n) : 0 ≤ a.fmod n ∧ a.fmod n < n := by
  rw [Int.fmod_eq_emod_of_nonneg _ (Int.le_of_lt hn)]; exact ⟨Int.emod_nonneg _ (Int.ne_of_gt hn), Int.emod_lt_of_pos _ hn⟩
end
end Mine

namespace Mine
section
theorem slice_to_list {x : Str} {j : Int} (h0 : 0 ≤ j) (h1 : j ≤ x.length) : (Txt.slice x none (some j)).cps.toList = x.cps.toList.take j.toNat := by
  have e := slice_closes_toL h0 h1
  rw [beq_iff_eq] at e
  rw [e]
  simp
theorem slice_from_list {x : Str} {i : Int} (h0 : 0 ≤ i) (h1 : i ≤ x.length) : (Txt.slice x (some i) none).cps.toList = x.cps.toList.drop i.toNat := by
  have e := slice_closes_fromL (b := x.length) h0 h1 rfl
  rw [beq_iff_eq] at e
  rw [e]
  have q : x.cps.toList.length = x.length := by simp [Str.length]
  simp only [List.drop_zero]
  rw [List.take_of_length_le]
  rw [List.length_drop, q]; omega
theorem slices_len {x : Str} {i : Int} (k : Nat) (h0 : 0 ≤ i) (h1 : i ≤ x.length) : (Txt.slice x none (some i)).length + k + (Txt.slice x (some i) none).length = x.length + k := by
  have a := (fact_slice_ns x i).1 h0 h1
  have b := (fact_slice_sn x i).1 h0 h1
  omega
theorem insAll_snoc : ∀ (l : List Nat) (sp : List (Int × Int)) (y : Int × Int), insAll l (sp ++ [y]) = insAt (insAll l sp) y.2.toNat y.1.toNat
  | _, [], _ => rfl
  | l, x :: sp, y => insAll_snoc (insAt l x.2.toNat x.1.toNat) sp y
theorem str_of_list {x : Str} {l : List Nat} (h : x.cps.toList = l) : x = Str.mk l.toArray := by
  subst h; rfl
end
end Mine

namespace Mine
section
section
open Builtin
theorem slot_rfind : Slot "bytes" "rfind" "bytes.rfind" :=
  .of (owner := "bytes") (n := "rfind") (by rw [typeLookup_type, builtinLookup_eq_fast]; kernel_rfl) (by decide +kernel) (by decide +kernel) (by decide +kernel)
    (by first | exact .inl (by decide +kernel) | exact .inr (by decide +kernel)) (by rw [isSubtype_type]; kernel_rfl)
theorem type_rfind : typeOf (.builtin "bytes.rfind") = pure (.type "method_descriptor") := by show builtinType _ = _; rw [builtinType_eq_fast]; kernel_rfl
theorem entry_rfind : entryFor table "bytes.rfind" = some Builtin.«bytes.rfind» := entryFor_of_tree (by kernel_rfl)
theorem args_rfind (a b : Value) : argsOk "bytes.rfind" ⟨[a, b], []⟩ := by
  unfold argsOk; rw [signature?_of (id := "bytes.rfind") (n := "rfind".toList.reverse) (o := "bytes".toList.reverse) (by kernel_rfl) FB.owner_bytes]; kernel_rfl
theorem slot_upper : Slot "bytes" "upper" "bytes.upper" :=
  .of (owner := "bytes") (n := "upper") (by rw [typeLookup_type, builtinLookup_eq_fast]; kernel_rfl) (by decide +kernel) (by decide +kernel) (by decide +kernel)
    (by first | exact .inl (by decide +kernel) | exact .inr (by decide +kernel)) (by rw [isSubtype_type]; kernel_rfl)
theorem type_upper : typeOf (.builtin "bytes.upper") = pure (.type "method_descriptor") := by show builtinType _ = _; rw [builtinType_eq_fast]; kernel_rfl
theorem entry_upper : entryFor table "bytes.upper" = some Builtin.«bytes.upper» := entryFor_of_tree (by kernel_rfl)
theorem args_upper (a : Value) : argsOk "bytes.upper" ⟨[a], []⟩ := by
  unfold argsOk; rw [signature?_of (id := "bytes.upper") (n := "upper".toList.reverse) (o := "bytes".toList.reverse) (by kernel_rfl) FB.owner_bytes]; kernel_rfl
def rfI (b : Array UInt8) : Int := match (if (1 : Int) > b.size then none else Bytes.rfind? b #[45] 0 b.size) with | some i => (i : Int) | none => -1
section
variable {b : Array UInt8} {t u : Tok}
theorem gives_upper : Gives («bytes.upper» ⟨[.bytes b t], []⟩) (.bytes (b.toList.map Bytes.toUpper).toArray) := .of_eq (by kernel_rfl)
theorem window_all (n : Nat) : Bytes.window n none none = (0, (n : Int)) := by
  unfold Bytes.window
  have h : ¬ ((n : Int) < 0) := by omega
  simp [h]
theorem search_eq : Bytes.searchArgs .bytes "rfind" ⟨[.bytes b t, .bytes #[45] u], []⟩ = pure (b, #[45], if (1 : Int) > b.size then none else some (0, b.size)) := by
  unfold Bytes.searchArgs
  show (Bytes.buffer? _ (.bytes #[45] u) >>= fun r => _) = _
  rw [KBy.buffer_eq]
  show (pure (b, (#[45] : Array UInt8), if (Bytes.window b.size none none).2 - (Bytes.window b.size none none).1 < ((1 : Nat) : Int) then none else some ((Bytes.window b.size none none).1.toNat, (Bytes.window b.size none none).2.toNat)) : Sem (Array UInt8 × Array UInt8 × Option (Nat × Nat))) = _
  rw [window_all]
  simp
theorem gives_rfind : Gives («bytes.rfind» ⟨[.bytes b t, .bytes #[45] u], []⟩) (.int (rfI b)) := by
  refine .of_wp fun M A E s Q h => ?_
  show wpAny M A (Bytes.searchArgs .bytes "rfind" ⟨[.bytes b t, .bytes #[45] u], []⟩ >>= fun r => _) _ E s
  refine wpAny_bind (wpAny_of_eq search_eq ?_)
  by_cases hb : (1 : Int) > b.size
  · have e : rfI b = -1 := by unfold rfI; rw [if_pos hb]
    rw [e] at h
    rw [if_pos hb]
    exact wpAny_bind (wpAny_rule (wpAny_bind (wpAny_mkInt (wpAny_pure ⟨_, rfl, h⟩))))
  · rw [if_neg hb]
    show wpAny M A (match Bytes.rfind? b #[45] 0 b.size with | some i => retInt i | none => rule _ >>= fun _ => retInt (-1)) _ E s
    have e : rfI b = match Bytes.rfind? b #[45] 0 b.size with | some i => (i : Int) | none => -1 := by unfold rfI; rw [if_neg hb]
    rw [e] at h
    cases hr : Bytes.rfind? b #[45] 0 b.size with
    | some i => rw [hr] at h; exact wpAny_bind (wpAny_mkInt (wpAny_pure ⟨_, rfl, h⟩))
    | none => rw [hr] at h; exact wpAny_bind (wpAny_rule (wpAny_bind (wpAny_mkInt (wpAny_pure ⟨_, rfl, h⟩))))
end
section
variable {prog : Program} {w : World} {A : Around} {E : Value → Shared → Prop} {s : Shared} {b : Array UInt8} {t u : Tok}
theorem r_upper {Q : Value → Shared → Prop} (hz : b.size ≤ 1000000) (h : ∀ t' k, Q (.bytes (b.toList.map Bytes.toUpper).toArray t') { s with toks := k }) :
    wpAny (model prog w) A (call (.builtin "bytes.upper") [.bytes b t]) Q E s :=
  call_gives slot_upper (typeIs_bytes _ _ _) entry_upper (args_upper _) gives_upper ⟨by rw [sizeLine_eq]; simp; omega, h _ _⟩
theorem m_upper {M : Model} {pl : Sem Bool} {Q : Value × List Value → Shared → Prop} (h : Q (.builtin "bytes.upper", [.bytes b t]) s) : wpAny M A (getMethod (.bytes b t) "upper" pl) Q E s := by
  with_reducible exact KBd.method_of (.bytes b t) (typeIs_bytes _ _ _) slot_upper type_upper KBd.noRef h
theorem m_rfind {M : Model} {pl : Sem Bool} {Q : Value × List Value → Shared → Prop} (h : Q (.builtin "bytes.rfind", [.bytes b t]) s) : wpAny M A (getMethod (.bytes b t) "rfind" pl) Q E s := by
  with_reducible exact KBd.method_of (.bytes b t) (typeIs_bytes _ _ _) slot_rfind type_rfind KBd.noRef h
theorem r_rfind {Q : Value → Shared → Prop} (h : ∀ t' k, Q (.int (rfI b) t') { s with toks := k }) :
    wpAny (model prog w) A (call (.builtin "bytes.rfind") [.bytes b t, .bytes #[45] u]) Q E s :=
  call_gives slot_rfind (typeIs_bytes _ _ _) entry_rfind (args_rfind _ _) gives_rfind (h _ _)
end
end
end
end Mine

namespace Mine
section
section
open Builtin
theorem loop_pureL {S : Type} (f : Nat → S → Sem (ForInStep S)) (st : Nat → S) (n : Nat) (h : ∀ i, i < n → f i (st i) = pure (.yield (st (i + 1)))) :
    ∀ k i, i + k = n → forIn (List.range' i k) (st i) f = pure (st n)
  | 0, i, e => by
    obtain rfl : i = n := by omega
    rfl
  | k + 1, i, e => by
    rw [List.range'_succ, List.forIn_cons, h i (by omega), pure_bind]
    exact loop_pureL f st n h k (i + 1) (by omega)
theorem loop_pure {S : Type} (f : Nat → S → Sem (ForInStep S)) (st : Nat → S) (n : Nat) (h : ∀ i, i < n → f i (st i) = pure (.yield (st (i + 1)))) :
    forIn [:n] (st 0) f = pure (st n) := by
  rw [Std.Legacy.Range.forIn_eq_forIn_range']
  have e : ([:n] : Std.Legacy.Range).size = n := by simp [Std.Legacy.Range.size]
  rw [e]
  exact loop_pureL f st n h n 0 (by omega)
theorem run_ascii (id : String) (er : Option PySem.Str) (b : Array UInt8) (hb : ∀ c ∈ b.toList, c.toNat < 128) (hz : b.size ≤ 1000000) :
    _codecs.runDecoder id _codecs.asciiDecoder er true b 0 [] = pure ((b.toList.map UInt8.toNat).toArray, b.size) := by
  unfold _codecs.runDecoder
  have key := loop_pure (S := Nat × Array Nat × _codecs.Faults) (st := fun i => (i, ((b.toList.take i).map UInt8.toNat).toArray, { })) (n := b.size)
  refine Eq.trans (congrArg (· >>= fun s => pure (s.2.1, s.1)) (key _ fun i hi => ?_)) ?_
  · have hsz : ¬ (((b.toList.take i).map UInt8.toNat).toArray.size > sizeLine) := by
      rw [sizeLine_eq, List.size_toArray, List.length_map, List.length_take]; omega
    have hge : ¬ (i ≥ b.size) := by omega
    have hlt : i < b.toList.length := by simpa using hi
    have hc : (b.getD i 0).toNat < 128 := by
      have e : b.getD i 0 = b.toList[i] := by simp [Array.getD, hi]
      rw [e]; exact hb _ (List.getElem_mem hlt)
    have hf : _codecs.asciiDecoder.find true b i = .text [(b.getD i 0).toNat] (i + 1) := by
      show (if (b.getD i 0).toNat < 128 then _codecs.Found.char (b.getD i 0).toNat (i + 1) else _) = _
      rw [if_pos hc]; rfl
    dsimp only
    rw [if_neg hsz, if_neg hge, hf]
    dsimp only
    have e2 : (List.map UInt8.toNat (List.take i b.toList)).toArray ++ [(b.getD i 0).toNat].toArray = (List.map UInt8.toNat (List.take (i + 1) b.toList)).toArray := by
      rw [List.take_add_one, List.getElem?_eq_getElem hlt, List.map_append]
      have e : b.getD i 0 = b.toList[i] := by simp [Array.getD, hi]
      rw [e]
      simp
    rw [e2]
  · rw [pure_bind]
    have : b.toList.take b.size = b.toList := List.take_of_length_le (by simp)
    rw [this]

section
variable {b : Array UInt8} {c : UInt8} {cs : List UInt8} {t t1 t2 t3 : Tok} {er : PySem.Str}
theorem road_ascii {id : String} {er : Option PySem.Str} : _codecs.decodeRoad id b (PySem.Str.ofString "ascii") er [] = (_codecs.runDecoder id _codecs.asciiDecoder er true b 0 [] >>= fun r => mkStr ⟨r.1⟩) := by kernel_rfl
def txtOf (b : Array UInt8) : PySem.Str := ⟨(b.toList.map UInt8.toNat).toArray⟩
theorem txtOf_length : (txtOf b).length = b.size := by show ((b.toList.map UInt8.toNat).toArray).size = _; simp
theorem meets_textA {d : PySem.Str} (hb : ∀ c ∈ b.toList, c.toNat < 128) (hz : b.size ≤ 1000000) :
    Meets («_codecs.decode.text» ⟨[.bytes b t, .str (PySem.Str.ofString "ascii") t1, .str er t2, .str d t3], []⟩) (fun _ R s => R (.ok (.ret (.str (txtOf b) s.toks))) { s with toks := s.toks + 1 }) := by
  refine .of_wp fun prog w A R s h => ?_
  show wpAny _ _ (Bytes.bytesLike _ (.bytes b t) >>= fun r => _) _ _ s
  refine wpAny_bind (wpAny_of_eq KBd.like_eq ?_)
  refine wpAny_bind (wpAny_of_eq KBd.held_eq ?_)
  show wpAny _ _ (_codecs.decodeRoad _ b (PySem.Str.ofString "ascii") (some er) [] >>= fun v => _) _ _ s
  rw [road_ascii, run_ascii _ _ b hb hz]
  refine wpAny_bind (wpAny_bind (wpAny_pure ?_))
  exact wpAny_mkStr (wpAny_pure ⟨_, rfl, h⟩) (by rw [sizeLine_eq]; show (txtOf b).length ≤ _; rw [txtOf_length]; omega)
def kwA (er : PySem.Str) (t1 t2 : Tok) : List (PySem.Str × Value) := [(PySem.Str.ofString "encoding", .str (PySem.Str.ofString "ascii") t1), (PySem.Str.ofString "errors", .str er t2)]
theorem args_decodeA (a : Value) : argsOk "bytes.decode" ⟨[a], kwA er t1 t2⟩ := by
  unfold argsOk; rw [signature?_of (id := "bytes.decode") (n := "decode".toList.reverse) (o := "bytes".toList.reverse) (by kernel_rfl) FB.owner_bytes]; kernel_rfl
theorem entry_eqA (her : er = PySem.Str.ofString "ignore" ∨ er = PySem.Str.ofString "replace" ∨ er = PySem.Str.ofString "strict") : «bytes.decode» ⟨[.bytes (c :: cs).toArray t], kwA er t1 t2⟩ = (mkStr (PySem.Str.ofString "utf-8") >>= fun _ => mkStr (PySem.Str.ofString "ascii") >>= fun e => mkStr er >>= fun r => mkStr (PySem.Str.ofString "bytes.decode") >>= fun d =>
    call (.builtin "_codecs.decode.text") [.bytes (c :: cs).toArray t, e, r, d] >>= fun v => ret v) := by
  rcases her with rfl | rfl | rfl <;> kernel_rfl
theorem entry_eq0 (her : er = PySem.Str.ofString "ignore" ∨ er = PySem.Str.ofString "replace" ∨ er = PySem.Str.ofString "strict") : «bytes.decode» ⟨[.bytes #[] t], kwA er t1 t2⟩ = (rule "bytes.decode.empty" >>= fun _ => mkStr PySem.Str.empty >>= fun v => ret v) := by
  rcases her with rfl | rfl | rfl <;> kernel_rfl
theorem meets_decodeA (hb : ∀ c ∈ b.toList, c.toNat < 128) (hz : b.size ≤ 1000000) (her : er = PySem.Str.ofString "ignore" ∨ er = PySem.Str.ofString "replace" ∨ er = PySem.Str.ofString "strict") :
    Meets («bytes.decode» ⟨[.bytes b t], kwA er t1 t2⟩) (fun _ R s => ∀ t' k, R (.ok (.ret (.str (txtOf b) t'))) { s with toks := k }) := by
  have hel : er.length ≤ sizeLine := by rcases her with rfl | rfl | rfl <;> decide
  obtain ⟨l⟩ := b
  cases l with
  | nil =>
    refine .of_wp fun prog w A R s h => ?_
    show wpAny _ _ («bytes.decode» ⟨[.bytes #[] t], kwA er t1 t2⟩) _ _ s
    rw [entry_eq0 her]
    exact wpAny_bind (wpAny_rule (wpAny_bind (wpAny_mkStr (wpAny_pure ⟨_, rfl, h _ _⟩) (by decide))))
  | cons c cs =>
    refine .of_wp fun prog w A R s h => ?_
    show wpAny _ _ («bytes.decode» ⟨[.bytes (c :: cs).toArray t], kwA er t1 t2⟩) _ _ s
    rw [entry_eqA her]
    refine wpAny_bind (wpAny_mkStr ?_ (by decide))
    refine wpAny_bind (wpAny_mkStr ?_ (by decide))
    refine wpAny_bind (wpAny_mkStr ?_ hel)
    refine wpAny_bind (wpAny_mkStr ?_ (by decide))
    exact wpAny_bind (call_function_meets KBd.kind_text KBd.plain_text KBd.entry_text (KBd.args_text _ _ _ _) (meets_textA hb hz) (wpAny_pure ⟨_, rfl, h _ _⟩))
end
section
variable {prog : Program} {w : World} {A : Around} {E : Value → Shared → Prop} {s : Shared} {b : Array UInt8} {t t1 t2 : Tok} {er : PySem.Str}
theorem call_meetsK {T : String} {name : PySem.Str} {id : String} {B : Builtin} {self : Value} {rest : List Value} {kw : List (PySem.Str × Value)} {S : PySem.Spec} {Q : Value → Shared → Prop} (slot : Slot T name id) (hT : s.TypeIs self T)
    (entry : entryFor table id = some B) (args : argsOk id ⟨self :: rest, kw⟩) (g : Meets (B ⟨self :: rest, kw⟩) S) (h : S A (wants Q E) s) :
    wpAny (model prog w) A (call (.builtin id) (self :: rest) kw) Q E s :=
  wpAny_call (codeAny_call_builtin slot.plain entry (slot.check _ _ _ _ _ _ _ _ hT args (g prog w A (wants Q E) s h)))
theorem decodeA {Q : Value → Shared → Prop} (hb : ∀ c ∈ b.toList, c.toNat < 128) (hz : b.size ≤ 1000000) (her : er = PySem.Str.ofString "ignore" ∨ er = PySem.Str.ofString "replace" ∨ er = PySem.Str.ofString "strict") (h : ∀ t' k, Q (.str (txtOf b) t') { s with toks := k }) :
    wpAny (model prog w) A (call (.builtin "bytes.decode") [.bytes b t] (kwA er t1 t2)) Q E s :=
  call_meetsK FB.slot_bytes_decode (typeIs_bytes _ _ _) FB.entry_bytes_decode (args_decodeA _) (meets_decodeA hb hz her) h
theorem new_treeA (her : er = PySem.Str.ofString "ignore" ∨ er = PySem.Str.ofString "replace" ∨ er = PySem.Str.ofString "strict") : «str.__new__» ⟨[.type "str", .bytes b t, .str (PySem.Str.ofString "ascii") t1, .str er t2], []⟩ = (mkStr (PySem.Str.ofString "ascii") >>= fun e => mkStr er >>= fun r => rule "str.__new__.decode-bytes" >>= fun _ => call (.builtin "bytes.decode") [.bytes b t] [(PySem.Str.ofString "encoding", e), (PySem.Str.ofString "errors", r)] >>= fun v => ret v) := by
  rcases her with rfl | rfl | rfl <;> kernel_rfl
theorem meets_newA (hb : ∀ c ∈ b.toList, c.toNat < 128) (hz : b.size ≤ 1000000) (her : er = PySem.Str.ofString "ignore" ∨ er = PySem.Str.ofString "replace" ∨ er = PySem.Str.ofString "strict") :
    Meets («str.__new__» ⟨[.type "str", .bytes b t, .str (PySem.Str.ofString "ascii") t1, .str er t2], []⟩) (fun _ R s => ∀ t' k, R (.ok (.ret (.str (txtOf b) t'))) { s with toks := k }) := by
  have hel : er.length ≤ sizeLine := by rcases her with rfl | rfl | rfl <;> decide
  refine .of_wp fun prog w A R s h => ?_
  rw [new_treeA her]
  refine wpAny_bind (wpAny_mkStr ?_ (by decide))
  refine wpAny_bind (wpAny_mkStr ?_ hel)
  refine wpAny_bind (wpAny_rule ?_)
  exact wpAny_bind (decodeA hb hz her fun t' k => wpAny_pure ⟨_, rfl, h t' k⟩)
theorem typeCall_str_3 (a b c : Value) : checkTypeCall "str" ⟨[a, b, c], []⟩ = pure () := by kernel_rfl
theorem newCall_str_3 (a b c : Value) : checkBuiltinCall "str.__new__" ⟨[.type "str", a, b, c], []⟩ = pure () := by kernel_rfl
theorem args_init_4 (o a b c : Value) : argsOk "object.__init__" ⟨[o, a, b, c], []⟩ := by unfold argsOk; kernel_rfl
theorem r_strA {Q : Value → Shared → Prop} (hb : ∀ c ∈ b.toList, c.toNat < 128) (hz : b.size ≤ 1000000) (her : er = PySem.Str.ofString "ignore" ∨ er = PySem.Str.ofString "replace" ∨ er = PySem.Str.ofString "strict") (h : ∀ t' k, Q (.str (txtOf b) t') { s with toks := k }) :
    wpAny (model prog w) A (call (.type "str") [.bytes b t, .str (PySem.Str.ofString "ascii") t1, .str er t2]) Q E s :=
  callType_new F.called_str (by decide) (typeCall_str_3 _ _ _) (newCall_str_3 _ _ _) (fun obj => args_init_4 obj _ _ _) F.entry_str_new (meets_newA hb hz her) fun t' k => ⟨typeIs_str _ _ _, h t' k⟩
end
end
end
end Mine

namespace Mine
section
def hyp (oc : List Int) : Nat → Int
  | 0 => -1
  | n + 1 => if oc[n]? = some 45 then (n : Int) else hyp oc n
theorem hyp_range (oc : List Int) : ∀ n, -1 ≤ hyp oc n ∧ hyp oc n < n
  | 0 => by show (-1 : Int) ≤ -1 ∧ (-1 : Int) < ((0 : Nat) : Int); omega
  | n + 1 => by
    have := hyp_range oc n
    unfold hyp
    split <;> omega
def up (o : Int) : Int := if 97 ≤ o ∧ o ≤ 122 then o - 32 else o
def headL (oc : List Int) : List Nat := (oc.take (hyp oc oc.length).toNat).map Int.toNat
def greatL (oc : List Int) : List Int := (oc.drop (hyp oc oc.length + 1).toNat).map up
theorem rf_find {b : Array UInt8} {oc : List Int} (hi : KBw.bInts b = oc) : ∀ n, n ≤ b.size →
    (match (List.range n).reverse.find? fun i => b.extract i (i + 1) == #[45] with | some i => (i : Int) | none => -1) = hyp oc n
  | 0, _ => rfl
  | n + 1, hn => by
    have hlt : n < b.size := by omega
    rw [List.range_succ, List.reverse_append, List.reverse_singleton, List.singleton_append, List.find?_cons]
    have e1 : b.extract n (n + 1) = #[b[n]] := by
      apply Array.ext
      · simp; omega
      · intro i h1 h2
        have hi0 : i = 0 := by simp at h2; omega
        subst hi0
        simp
    have e2 : oc[n]? = some ((b[n].toNat : Nat) : Int) := by
      rw [← hi]; exact KBw.ints_get (by simp [hlt])
    unfold hyp
    rw [e1, e2]
    by_cases h : b[n] = 45
    · rw [h]; simp
    · have h1 : ((#[b[n]] : Array UInt8) == #[45]) = false := by
        rw [beq_eq_false_iff_ne]; intro q
        exact h (by simpa using q)
      have h2 : ¬ (some ((b[n].toNat : Nat) : Int) = some 45) := by
        intro q
        have q' := Option.some.inj q
        exact h (UInt8.toNat_inj.mp (by have : b[n].toNat = 45 := by omega
                                        rw [this]; rfl))
      rw [h1, if_neg h2]
      exact rf_find hi n (by omega)
theorem rfI_hyp {b : Array UInt8} {oc : List Int} (hi : KBw.bInts b = oc) : rfI b = hyp oc oc.length := by
  have hs : b.size = oc.length := by rw [← hi]; exact (KBw.ints_length b).symm
  unfold rfI
  by_cases h : (1 : Int) > b.size
  · rw [if_pos h]
    have : oc.length = 0 := by omega
    rw [this]; rfl
  · rw [if_neg h, ← hs, ← rf_find hi b.size (Nat.le_refl _)]
    unfold Builtin.Bytes.rfind?
    have e : b.size + 1 - (0 + (#[45] : Array UInt8).size) = b.size := by simp
    rw [e]
    have e2 : (List.range b.size).map (fun x => x + 0) = List.range b.size := by simp
    rw [e2]
    rfl
theorem toUpper_up (c : UInt8) : (((Builtin.Bytes.toUpper c).toNat : Nat) : Int) = up ((c.toNat : Nat) : Int) := by
  unfold Builtin.Bytes.toUpper Builtin.Bytes.isLower up
  by_cases h : 97 ≤ c.toNat ∧ c.toNat ≤ 122
  · have h1 : (decide (97 ≤ c) && decide (c ≤ 122)) = true := by
      simp only [Bool.and_eq_true, decide_eq_true_eq, UInt8.le_iff_toNat_le]
      exact h
    rw [h1, if_pos rfl, if_pos (by omega), UInt8.toNat_sub_of_le _ _ (by rw [UInt8.le_iff_toNat_le]; show 32 ≤ c.toNat; omega)]
    show ((c.toNat - 32 : Nat) : Int) = _
    omega
  · have h1 : (decide (97 ≤ c) && decide (c ≤ 122)) = false := by
      rw [Bool.eq_false_iff]
      intro q
      simp only [Bool.and_eq_true, decide_eq_true_eq, UInt8.le_iff_toNat_le] at q
      exact h q
    rw [h1, if_neg (by decide), if_neg (by omega)]
theorem ints_upper {b : Array UInt8} {oc : List Int} (hi : KBw.bInts b = oc) : KBw.bInts (b.toList.map Builtin.Bytes.toUpper).toArray = oc.map up := by
  subst hi
  show ((b.toList.map Builtin.Bytes.toUpper).toArray.toList).map _ = (b.toList.map _).map _
  simp only [List.map_map]
  apply List.map_congr_left
  intro c _
  exact toUpper_up c
theorem picked_asc {b : Array UInt8} {lo hi : Option Int} (h : ∀ c ∈ b.toList, c.toNat < 128) : ∀ c ∈ (KBy.picked b lo hi).toList, c.toNat < 128 := fun c hc => by
  rw [KBc.picked_eq] at hc
  exact h c (List.mem_of_mem_drop (List.mem_of_mem_take (by simpa using hc)))
theorem asc_of {b : Array UInt8} {oc : List Int} (hi : KBw.bInts b = oc) (h : ∀ o ∈ oc, o < 128) : ∀ c ∈ b.toList, c.toNat < 128 := fun c hc => by
  have := h ((c.toNat : Nat) : Int) (by rw [← hi]; exact List.mem_map.mpr ⟨c, hc, rfl⟩)
  omega
theorem txtOf_ints {b : Array UInt8} {oc : List Int} (hi : KBw.bInts b = oc) : (txtOf b).cps.toList = oc.map Int.toNat := by
  subst hi
  show (b.toList.map UInt8.toNat).toArray.toList = (b.toList.map _).map Int.toNat
  simp [List.map_map, Function.comp_def]
theorem puny_neg {oc : List Int} (h : hyp oc oc.length = -1) : headL oc = [] ∧ greatL oc = oc.map up := by
  unfold headL greatL
  rw [h]
  exact ⟨rfl, rfl⟩
theorem puny_head {b : Array UInt8} {oc : List Int} (hi : KBw.bInts b = oc) (h0 : 0 ≤ hyp oc oc.length) : (txtOf (KBy.picked b none (some (hyp oc oc.length)))).cps.toList = headL oc := by
  obtain ⟨q1, q2⟩ := hyp_range oc oc.length
  rw [txtOf_ints (KBc.ints_picked hi none (some (hyp oc oc.length)))]
  unfold headL
  obtain ⟨n, hn⟩ : ∃ n : Nat, hyp oc oc.length = n := ⟨(hyp oc oc.length).toNat, by omega⟩
  rw [hn] at q2 ⊢
  have e : (Option.some (n : Int)).elim oc.length (clipAt oc.length) = n := by
    show clipAt oc.length (n : Int) = n
    rw [clipAt_nat]; omega
  rw [e]
  simp
theorem puny_tail {b : Array UInt8} {oc : List Int} (hi : KBw.bInts b = oc) (h0 : 0 ≤ hyp oc oc.length) : KBw.bInts ((KBy.picked b (some (hyp oc oc.length + 1)) none).toList.map Builtin.Bytes.toUpper).toArray = greatL oc := by
  obtain ⟨q1, q2⟩ := hyp_range oc oc.length
  rw [ints_upper (KBc.ints_picked hi (some (hyp oc oc.length + 1)) none)]
  unfold greatL
  obtain ⟨n, hn⟩ : ∃ n : Nat, hyp oc oc.length + 1 = n := ⟨(hyp oc oc.length + 1).toNat, by omega⟩
  rw [hn]
  have e : (Option.some (n : Int)).elim 0 (clipAt oc.length) = n := by
    show clipAt oc.length (n : Int) = n
    rw [clipAt_nat]; omega
  rw [e, Int.toNat_natCast]
  show ((oc.drop n).take (oc.length - n)).map up = _
  rw [List.take_of_length_le (by rw [List.length_drop]; omega)]
theorem greatL_len (oc : List Int) : (greatL oc).length ≤ oc.length := by
  unfold greatL; rw [List.length_map, List.length_drop]; omega
theorem headL_len (oc : List Int) : (headL oc).length ≤ oc.length := by
  unfold headL; rw [List.length_map, List.length_take]; omega
end
end Mine

namespace Mine
section
theorem tab_lt (tbl : List UInt8) (h : (tbl.all fun c => decide (c.toNat < 128)) = true) (i : Nat) : 0 ≤ (((tbl.getD i 0).toNat : Nat) : Int) ∧ (((tbl.getD i 0).toNat : Nat) : Int) < 128 := by
  refine ⟨by omega, ?_⟩
  rw [List.getD_eq_getElem?_getD]
  cases e : tbl[i]? with
  | none => decide
  | some c =>
    have := List.all_eq_true.mp h c (List.mem_of_getElem? e)
    have h2 : c.toNat < 128 := by simpa using this
    show ((c.toNat : Nat) : Int) < 128
    omega
theorem bInts_of {ks : List Int} (h : ∀ k ∈ ks, 0 ≤ k ∧ k < 256) : KBw.bInts (ks.map fun n => n.toNat.toUInt8).toArray = ks := by
  show ((ks.map fun n => n.toNat.toUInt8).toArray.toList).map _ = ks
  simp only [List.map_map]
  conv => rhs; rw [← List.map_id ks]
  apply List.map_congr_left
  intro k hk
  obtain ⟨a, b⟩ := h k hk
  show ((k.toNat.toUInt8.toNat : Nat) : Int) = k
  have e : k.toNat.toUInt8.toNat = k.toNat := by
    show k.toNat % 256 = k.toNat
    omega
  rw [e]; omega
section
variable {prog : Program} {w : World} {A : Around} {E : Value → Shared → Prop} {s : Shared} {h₀ : Heap} {L : Addr} {m : Str → Option Value} {news : List (Addr × Obj)}
end
theorem hyp_step {oc : List Int} {i : Nat} {o : Int} (ho : oc[i]? = some o) : hyp oc (i + 1) = if o = 45 then (i : Int) else hyp oc i := by
  show (if oc[i]? = some 45 then (i : Int) else hyp oc i) = _
  rw [ho]
  by_cases h : o = 45
  · rw [if_pos h, if_pos (by rw [h])]
  · rw [if_neg h, if_neg (fun q => h (Option.some.inj q))]
end
end Mine

namespace Mine
section
def All2 (Rel : Int → Value → Prop) : List Int → List Value → Prop
  | [], [] => True
  | k :: ks, y :: ys => Rel k y ∧ All2 Rel ks ys
  | _, _ => False
theorem All2.snoc {Rel : Int → Value → Prop} {k : Int} {y : Value} : ∀ {ks : List Int} {ys : List Value}, All2 Rel ks ys → Rel k y → All2 Rel (ks ++ [k]) (ys ++ [y])
  | [], [], _, h => ⟨h, trivial⟩
  | _ :: _, _ :: _, ⟨a, b⟩, h => ⟨a, All2.snoc b h⟩
  | [], _ :: _, x, _ => x.elim
  | _ :: _, [], x, _ => x.elim
theorem All2.strs {g : Int → Str} : ∀ {ks : List Int} {ys : List Value}, All2 (fun k y => ∃ t, y = .str (g k) t) ks ys → StrsAre ys (ks.map g)
  | [], [], _ => .nil
  | k :: _, _ :: _, ⟨⟨t, rfl⟩, b⟩ => .cons (g k) t (All2.strs b)
  | [], _ :: _, x => x.elim
  | _ :: _, [], x => x.elim
theorem All2.ints {g : Int → Int} : ∀ {ks : List Int} {ys : List Value}, All2 (fun k y => ∃ t, y = .int (g k) t) ks ys → IntsAre ys (ks.map g)
  | [], [], _ => .nil
  | k :: _, _ :: _, ⟨⟨t, rfl⟩, b⟩ => .cons (g k) t (All2.ints b)
  | [], _ :: _, x => x.elim
  | _ :: _, [], x => x.elim
def KEl (news : List (Addr × Obj)) (P : Value → Prop) (y : Value) (news' : List (Addr × Obj)) : Prop := news' = news ∧ P y
def SrcB (prog : Program) (w : World) (A : Around) (h₀ : Heap) (L : Addr) (m : Str → Option Value) (env : Env) (elt : Expr) (x : Str) (scope : Scope) (cl : List (Str × Addr)) (Fin : Shared → List Value → List (Addr × Obj) → Prop) (xv : Value) (s₁ : Shared) : Prop :=
  ∃ bs t news, xv = .bytes bs t ∧ A.handled = none ∧ Fr h₀ L s₁.heap m ∧ News h₀ L s₁.heap news ∧ bs.size ≤ sizeLine ∧
    ∀ s₂ : Shared, (∃ h, s₂ = { s₁ with heap := h }) → LCg.CompRest prog w A h₀ L m env elt x scope cl s₂ (fun _ => True) (fun i v => ∃ (k : UInt8) (t : Tok), bs[i]? = some k ∧ v = .int (k.toNat : Int) t) (Fin s₂) bs.size 0 [] news
section
variable {prog : Program} {w : World} {A : Around} {E : Value → Shared → Prop} {s : Shared} {h₀ : Heap} {L : Addr} {m : Str → Option Value} {env : Env} {elt : Expr} {x : Str} {scope : Scope} {cl : List (Str × Addr)} {news : List (Addr × Obj)}
theorem SrcB.intro {Fin : Shared → List Value → List (Addr × Obj) → Prop} {bs : Array UInt8} {tb : Tok} {ks : List Int} {all : List (Addr × Obj)} (Rel : Int → Value → Prop) (news : List (Addr × Obj)) (hh : A.handled = none) (F : Fr h₀ L s.heap m) (N : News h₀ L s.heap all) (hsub : ∀ p ∈ news, p ∈ all) (hi : KBw.bInts bs = ks) (hz : ks.length ≤ 1000)
    (turn : ∀ k t I oI C oC D m₂ ys h tk (E' : Value → Shared → Prop), k ∈ ks → LCg.NsObj oC m₂ → m₂ x = some (.int k t) → Fr h₀ L h m → News h₀ L h ((I, oI) :: (C, oC) :: (D, LCg.lst ys) :: news) → LCg.Off3 I C D news → ((@Ne Nat I C) ∧ (@Ne Nat I D) ∧ (@Ne Nat C D)) →
      wpAny (model prog w) A (eval elt (compEnvC scope cl C env)) (LCg.CompEnd h₀ L m { s with heap := h, toks := tk } I oI C oC D (LCg.lst ys) (fun _ => True) (fun y news' => KEl news (Rel k) y news')) E' { s with heap := h, toks := tk })
    (fin : ∀ g ys, All2 Rel ks ys → Fin { s with heap := g } ys news) : SrcB prog w A h₀ L m env elt x scope cl Fin (.bytes bs tb) s := by
  have hbs : bs.size = ks.length := by rw [← hi]; exact (KBw.ints_length bs).symm
  refine ⟨bs, tb, news, rfl, hh, F, news_sub N hsub, by rw [sizeLine_eq]; omega, ?_⟩
  rintro _ ⟨g, rfl⟩
  have key : ∀ (j i : Nat) (ys : List Value), i + j = bs.size → All2 Rel (ks.take i) ys → LCg.CompRest prog w A h₀ L m env elt x scope cl { s with heap := g } (fun _ => True) (fun i v => ∃ (k : UInt8) (t : Tok), bs[i]? = some k ∧ v = .int (k.toNat : Int) t) (Fin { s with heap := g }) j i ys news := by
    intro j
    induction j with
    | zero =>
      intro i ys hi' hy
      have e : i = ks.length := by omega
      subst e
      rw [List.take_length] at hy
      exact LCg.CompRest.zero (fin g ys hy)
    | succ j ih =>
      intro i ys hi' hy
      refine LCg.CompRest.succ ?_
      intro v I oI C oC D m₂ h tk E' hv hC hx F' N' off ne
      obtain ⟨k, t, hk, rfl⟩ := hv
      have hk' : ks[i]? = some ((k.toNat : Nat) : Int) := by rw [← hi]; exact KBw.ints_get hk
      refine wpAny_mono (turn _ t I oI C oC D m₂ ys h tk E' (List.mem_of_getElem? hk') hC hx F' N' off ne) (fun y s₂ hq => ?_) fun _ _ e => e
      obtain ⟨h', tk', nw, e, F₂, N₂, off₂, _, rfl, hy'⟩ := hq
      refine ⟨h', tk', nw, e, F₂, N₂, off₂, trivial, ?_⟩
      refine ih (i + 1) _ (by omega) ?_
      rw [List.take_add_one, hk']
      exact hy.snoc hy'
  exact key bs.size 0 [] (by omega) trivial

theorem bytes_st {bs : Array UInt8} {tb : Tok} {I : Addr} : ∀ i (h h' : Heap) (o : Obj) (nw : List (Addr × Obj)), KBw.IsBytesIter h I bs tb i → h.get? I = some o → h'.get? I = some o → (∀ b o, h₀.get? b = some o → h'.get? b = some o) → News h₀ L h' nw → True → KBw.IsBytesIter h' I bs tb i :=
  fun i h h' o nw st e e' _ _ _ => by
    obtain ⟨o', ho, r⟩ := st
    rw [e] at ho
    obtain rfl := Option.some.inj ho
    exact ⟨o, e', r⟩
theorem ListComp_B {iter : Expr} {px : Pos} {pos : Pos} {Q : Value → Shared → Prop} (F₀ : Fr h₀ L s.heap m)
    (hclos : closureFor scope env = pure cl) (hcell : ∀ y ∈ scope.names, y.2 ≠ .cell) (hkind : scope.kind = .function)
    (hnames : ∀ y ∈ scope.names, y.2 = .local → scope.names.lookup y.1 = some .local) (hx : scope.names.lookup x = some .local)
    (h : wpAny (model prog w) A (eval iter env) (SrcB prog w A h₀ L m env elt x scope cl (fun s₂ => LCg.FinE h₀ L m s₂ Q)) E s)
    (hs : ∀ x, foldedSetIterable iter env x = pure x := by intro _; rfl) :
    wpAny (model prog w) A (eval (.ListComp elt [⟨.Name x px, iter, [], 0⟩] scope pos) env) Q E s := by
  rw [eval_ListComp]
  refine wpAny_comprehension_free (use := none) rfl hs hclos hkind hnames (wpAny_mono h (fun xv s₁ h₁ => ?_) fun _ _ e => e)
  obtain ⟨bs, tb, news, rfl, hh, F, N, hsz, R⟩ := h₁
  refine KBw.pyIter_bytes ?_
  refine LCg.block_U (KBw.walks (prog := prog) (w := w) hh s₁.heap.objs.size bs tb) hsz (fun i h st => by obtain ⟨o, e, _⟩ := st; exact ⟨o, e⟩) bytes_st hcell hkind hx ⟨_, Heap.get?_push_size _ rfl, rfl, rfl⟩ (fun b hb => ?_)
    (F.keeps fun _ _ e => Heap.get?_push_of_some _ e) (N.grown fun _ _ e => Heap.get?_push_of_some _ e) (Nat.ne_of_lt F.ns.lt) (next_is_new F) (fun p hp => Nat.ne_of_lt (Heap.lt_size (N p hp).1)) trivial (R _ ⟨_, rfl⟩) ?_
  · rw [List.mem_singleton.mp hb]
    show s₁.heap.objs.size < (s₁.heap.push _).objs.size
    rw [Heap.size_push]; exact Nat.lt_succ_self _
  · intro D C h tk m' ys news' F' N' o1 hn hC₀ hD₀ hCL hDL hCD offC fin
    refine ⟨m', hn, fun h'' hs'' => fin D h'' tk (F'.change hs'' hCL hC₀) (fun p hp => ⟨hs''.extBut _ _ ?_ (N' p hp).1, (N' p hp).2⟩) o1⟩
    rcases List.mem_cons.mp hp with rfl | hp
    · exact Ne.symm hCD
    · exact offC p hp
theorem Assign_ListComp_B {iter : Expr} {y : Str} {px py : Pos} {pos spos : Pos} {Q : Flow → Shared → Prop} (F₀ : Fr h₀ L s.heap m) (hLe : env.locals = L)
    (hsw : swapsWith (.ListComp elt [⟨.Name x px, iter, [], 0⟩] scope pos) (some (.Name y py)) spos.line env = pure true)
    (hclos : closureFor scope env = pure cl) (hcell : ∀ z ∈ scope.names, z.2 ≠ .cell) (hkind : scope.kind = .function)
    (hnames : ∀ z ∈ scope.names, z.2 = .local → scope.names.lookup z.1 = some .local) (hx : scope.names.lookup x = some .local)
    (hy : env.kindOf y = some .local) (hp : (env.scope.kind == .class || (env.scope.kind == .module && env.locals != env.globals)) = false)
    (h : wpAny (model prog w) A (eval iter env) (SrcB prog w A h₀ L m env elt x scope cl (fun s₂ => LCg.FinA h₀ L m s₂ y Q)) E s)
    (hs : ∀ x, foldedSetIterable iter env x = pure x := by intro _; rfl) :
    wpAny (model prog w) A (exec (.Assign [.Name y py] (.ListComp elt [⟨.Name x px, iter, [], 0⟩] scope pos) spos) env) Q E s := by
  subst hLe
  rw [exec_Assign_Name_used _ _ _ _ hsw]
  refine wpAny_bind (wpAny_standAt (wpAny_bind ?_))
  show wpAny _ A (do let _ ← comprehension (.ListComp elt [⟨.Name x px, iter, [], 0⟩] scope pos) scope env _ (newList []) false (eval iter env) (some (assign (.Name y py) env))) _ _ s
  refine wpAny_bind (wpAny_mono (wpAny_comprehension_free (use := some (assign (.Name y py) env)) (Q := fun _ s' => Q .next s') rfl hs hclos hkind hnames
    (wpAny_mono h (fun xv s₁ h₁ => ?_) fun _ _ e => e)) (fun _ s' hq => wpAny_pure (wpAny_pure hq)) fun _ _ e => e)
  obtain ⟨bs, tb, news, rfl, hh, F, N, hsz, R⟩ := h₁
  refine KBw.pyIter_bytes ?_
  refine LCg.block_U (KBw.walks (prog := prog) (w := w) hh s₁.heap.objs.size bs tb) hsz (fun i h st => by obtain ⟨o, e, _⟩ := st; exact ⟨o, e⟩) bytes_st hcell hkind hx ⟨_, Heap.get?_push_size _ rfl, rfl, rfl⟩ (fun b hb => ?_)
    (F.keeps fun _ _ e => Heap.get?_push_of_some _ e) (N.grown fun _ _ e => Heap.get?_push_of_some _ e) (Nat.ne_of_lt F.ns.lt) (next_is_new F) (fun p hp => Nat.ne_of_lt (Heap.lt_size (N p hp).1)) trivial (R _ ⟨_, rfl⟩) ?_
  · rw [List.mem_singleton.mp hb]
    show s₁.heap.objs.size < (s₁.heap.push _).objs.size
    rw [Heap.size_push]; exact Nat.lt_succ_self _
  · intro D C h' tk m' ys news' F' N' o1 hn hC₀ hD₀ hCL hDL hCD offC fin
    show wpAny _ A (assign (.Name y py) env (.ref D)) _ _ _
    refine wpAny_assign_Name (wpAny_storeName_local hy F'.ns (fun h₂ hn₂ hs₂ => ?_) hp)
    have hL₀ : h₀.get? env.locals = none := Heap.get?_none_of_le F'.above
    have F₂ : Fr h₀ env.locals h₂ (fun z => if z = y then some (.ref D) else m z) := ⟨hn₂, fun b o e => hs₂.extBut b o (fun q => by rw [q, hL₀] at e; cases e) (F'.keep b o e), F'.above⟩
    refine ⟨m', hn.sameBut hs₂ hCL, fun h'' hs'' => fin D h'' _ (F₂.change hs'' hCL hC₀) (fun p hp => ⟨hs''.extBut _ _ ?_ (hs₂.extBut _ _ (N' p hp).2.1 (N' p hp).1), (N' p hp).2⟩) o1⟩
    rcases List.mem_cons.mp hp with rfl | hp
    · exact Ne.symm hCD
    · exact offC p hp
end
theorem head_ints {bs : Array UInt8} {oc : List Int} (hi : KBw.bInts bs = oc) {hy : Int} (h : hy = hyp oc oc.length) : KBw.bInts (KBy.picked (KBy.picked bs none (some (hy + 1))) none (some (-1))) = oc.take (hyp oc oc.length).toNat := by
  obtain ⟨q1, q2⟩ := hyp_range oc oc.length
  subst h
  obtain ⟨n, hn⟩ : ∃ n : Nat, hyp oc oc.length + 1 = n := ⟨(hyp oc oc.length + 1).toNat, by omega⟩
  have hq : (hyp oc oc.length).toNat = n - 1 := by omega
  have hle : n ≤ oc.length := by omega
  rw [KBc.ints_picked (KBc.ints_picked hi none (some (hyp oc oc.length + 1))) none (some (-1)), hn, hq]
  have e1 : (Option.some (n : Int)).elim oc.length (clipAt oc.length) = n := by
    show clipAt oc.length (n : Int) = n
    rw [clipAt_nat]; exact Nat.min_eq_left hle
  rw [e1]
  clear e1 q1 q2 hn hq
  show (((oc.drop 0).take (n - 0)).drop 0).take (clipAt ((oc.drop 0).take (n - 0)).length (-((1 : Nat) : Int)) - 0) = _
  rw [clipAt_neg _ 1 (Nat.le_refl 1)]
  simp only [List.drop_zero, Nat.sub_zero, List.length_take, List.take_take]
  rw [Nat.min_eq_left hle, Nat.min_eq_left (Nat.sub_le n 1)]
theorem tail_ints {bs : Array UInt8} {oc : List Int} (hi : KBw.bInts bs = oc) {hy : Int} (h : hy = hyp oc oc.length) : KBw.bInts (KBy.picked bs (some (hy + 1)) none) = oc.drop (hyp oc oc.length + 1).toNat := by
  obtain ⟨q1, q2⟩ := hyp_range oc oc.length
  subst h
  rw [KBc.ints_picked hi (some (hyp oc oc.length + 1)) none]
  obtain ⟨n, hn⟩ : ∃ n : Nat, hyp oc oc.length + 1 = n := ⟨(hyp oc oc.length + 1).toNat, by omega⟩
  rw [hn]
  have e : (Option.some (n : Int)).elim 0 (clipAt oc.length) = n := by
    show clipAt oc.length (n : Int) = n
    rw [clipAt_nat]; omega
  rw [e, Int.toNat_natCast]
  show (oc.drop n).take (oc.length - n) = _
  rw [List.take_of_length_le (by rw [List.length_drop]; omega)]
section
variable {prog : Program} {w : World} {A : Around} {E : Value → Shared → Prop} {s : Shared} {h₀ : Heap} {L D : Addr} {news : List (Addr × Obj)} {ys : List Value} {n : Nat} {t : Tok}
theorem r_joinH {ks : List Int} {Q : Value → Shared → Prop} (N : News h₀ L s.heap news) (hm : (D, LCg.lst ys) ∈ news) (hi : All2 (fun k y => ∃ t, y = .str (sg k.toNat) t) ks ys) (hok : ks.length ≤ 1000000)
    (h : ∀ t' k H, H.cps.toList = ks.map Int.toNat → H.length = ks.length → Q (.str H t') { s with toks := k }) :
    wpAny (model prog w) A (call (.builtin "str.join") [.str (Str.ofString "") t, .ref D]) Q E s := by
  have e1 : ks.map (fun k => sg k.toNat) = (ks.map Int.toNat).map sg := by simp [List.map_map, Function.comp_def]
  refine r_join N hm hi.strs rfl ?_ fun t' k => ?_
  · have : (((ks.map fun k => sg k.toNat)).map (·.length)).sum = ks.length := by
      clear hi hok h
      induction ks with
      | nil => rfl
      | cons a r ih =>
        simp only [List.map_cons, List.sum_cons, List.length_cons]
        rw [ih (by simp [List.map_map, Function.comp_def])]
        show 1 + r.length = r.length + 1
        omega
    omega
  · rw [e1, join_sg]; exact h t' k _ rfl (by simp [Str.length])
end
end
end Mine

namespace Mine
section
/-- an exception under way whose record answers P (P bears a change of the traceback) -/
def TrP (P : Array Value → Prop) (h base : Heap) (e : Addr) (cls fl : Value) : Prop :=
  ∃ oe vs T oT ts, h.get? e = some oe ∧ oe.cls = cls ∧ P vs ∧ oe.data = .fields vs ∧ vs[1]? = some (.ref T) ∧ base.get? T = none ∧ T ≠ e ∧ h.get? T = some oT ∧ oT.data = .fields ts ∧ ts[3]? = some fl
def NotedP (P : Array Value → Prop) (base : Heap) (l : List Env) (e : Addr) (cls fl : Value) (h h' : Heap) : Prop :=
  base.StaysIn h' ∧ h'.FunFrames base l ∧ TrP P h' base e cls fl ∧ h.UpToSlots h'
def Bears (P : Array Value → Prop) : Prop := ∀ vs x, P vs → P (vs.setIfInBounds 1 x)
theorem TrP.there {P : Array Value → Prop} {h base : Heap} {e : Addr} {cls fl : Value} (x : TrP P h base e cls fl) : ∃ ob vs, h.get? e = some ob ∧ ob.cls = cls ∧ ob.data = .fields vs ∧ P vs := by
  obtain ⟨oe, vs, _, _, _, he, hc, hp, hd, _⟩ := x
  exact ⟨oe, vs, he, hc, hd, hp⟩
section
variable {M : Model} {A : Around} {E : Value → Shared → Prop} {s : Shared} {P : Array Value → Prop}
theorem entryP (hP : Bears P) {base : Heap} {env : Env} {outer : List Env} {L e : Addr} {oe : Obj} {vs : Array Value} {head : Value} {hadNext : Bool} {Q : Unit → Shared → Prop}
    (hfr : A.frames = some (env :: outer)) (hl : s.heap.FunFrames base (env :: outer)) (hf : env.frame = some L)
    (he : s.heap.get? e = some oe) (hkb : base.StaysIn s.heap) (hen : base.get? e = none) (hd : oe.data = .fields vs) (hsz : 1 < vs.size) (hp : P vs)
    (h : ∀ h', NotedP P base (env :: outer) e oe.cls (rawInt L) s.heap h' → Q () { s with heap := h' }) :
    wpAny M A (do let a ← frameOf env; let pl ← entryPlaceOf L hadNext; let b ← EntryCells.newEntry head a .none (rawInt L) .none pl; setField (.ref e) 1 b) Q E s := by
  have apart : e ∉ (env :: outer).filterMap (·.frame) := fun hm => by
    obtain ⟨_, o, ho, hnf⟩ := hl.mem hm
    rw [he] at ho
    exact hnf vs ((Option.some.inj ho) ▸ hd)
  refine wpAny_bind (wpAny_frameOf_fun hfr hl hf fun h₁ hs₁ => ?_)
  refine wpAny_bind (wpAny_entryPlaceOf fun pl hpl => ?_)
  unfold EntryCells.newEntry newFields
  refine wpAny_bind (wpAny_newObj_type ?_ (hpl.sizeOk5 _ _ _ _ _))
  have he₁ : h₁.get? e = some oe := (hs₁.2.1 e apart).trans he
  have kb₁ : base.StaysIn h₁ := fun b o hbo => (hs₁.2.1 b fun hm => by rw [(hl.mem hm).1] at hbo; cases hbo).trans (hkb b o hbo)
  generalize hT : ({ cls := .type "traceback", dict := none, data := .fields ([head, .ref L, .none, rawInt L, .none] ++ (if pl.isEmpty then List.replicate 6 Value.none else pl)).toArray } : Obj) = oT
  have he₂ := Heap.get?_push_of_some (h := h₁) oT he₁
  refine wpAny_setField he₂ hd hsz (h _ ?_)
  have hTe : h₁.objs.size ≠ e := Nat.ne_of_gt (Heap.lt_size he₁)
  have hd₃ := Obj.data_mapFields hd (·.setIfInBounds 1 (Value.ref h₁.objs.size))
  have he₃ := Heap.get?_update_self (Obj.mapFields (·.setIfInBounds 1 (Value.ref h₁.objs.size))) he₂ (Obj.isFreed_of_fields hd₃)
  have hTd : oT.data = .fields ([head, .ref L, .none, rawInt L, .none] ++ (if pl.isEmpty then List.replicate 6 Value.none else pl)).toArray := by subst hT; rfl
  have hTp : (h₁.push oT).get? h₁.objs.size = some oT := Heap.get?_push_size h₁ (by subst hT; rfl)
  have hT₃ := (Heap.get?_update_other (h₁.push oT) (Obj.mapFields (·.setIfInBounds 1 (Value.ref h₁.objs.size))) (Ne.symm hTe)).trans hTp
  have keep : ∀ b o, b ≠ e → h₁.get? b = some o → ((h₁.push oT).update e (Obj.mapFields (·.setIfInBounds 1 (Value.ref h₁.objs.size)))).get? b = some o := fun b o hbe hb =>
    (Heap.get?_update_other _ _ (Ne.symm hbe)).trans (Heap.get?_push_of_some _ hb)
  have noRec : ∀ b o, s.heap.get? b = some o → (∀ vs, o.data ≠ .fields vs) → b ≠ e := fun b o hb hnf q => by
    rw [q, he] at hb
    exact hnf vs ((Option.some.inj hb) ▸ hd)
  refine ⟨fun b o hbo => keep b o (fun q => by rw [q, hen] at hbo; cases hbo) (kb₁ b o hbo), hl.of_keeps fun b o hb hnf => ?_, ?_, fun b o hb hnf => ?_⟩
  · obtain ⟨sl, hs⟩ := hs₁.2.2 b o hb
    exact ⟨_, keep b _ (noRec b o hb hnf) hs, rfl⟩
  · exact ⟨_, _, h₁.objs.size, _, _, he₃, Obj.cls_mapFields _ _, hP _ _ hp, hd₃, by simp [hsz], kb₁.fresh, hTe, hT₃, hTd, by first | (simp; done) | (rcases hpl with rfl | ⟨_, _, _, _, _, _, _, rfl⟩ <;> simp)⟩
  · obtain ⟨sl, hs⟩ := hs₁.2.2 b o hb
    exact ⟨sl, keep b _ (noRec b o hb hnf) hs⟩
/-- the first note of a made exception -/
theorem note_firstP (hP : Bears P) {base : Heap} {env : Env} {outer : List Env} {L e : Addr} {oe : Obj} {vs : Array Value} {Q : Unit → Shared → Prop}
    (hfr : A.frames = some (env :: outer)) (hl : s.heap.FunFrames base (env :: outer)) (hf : env.frame = some L)
    (he : s.heap.get? e = some oe) (hkb : base.StaysIn s.heap) (hen : base.get? e = none) (hd : oe.data = .fields vs) (h1 : vs[1]? = some .none) (hp : P vs)
    (h : ∀ h', NotedP P base (env :: outer) e oe.cls (rawInt L) s.heap h' → Q () { s with heap := h' }) : wpAny M A (noteFrame (.ref e) env) Q E s := by
  unfold noteFrame
  simp only [hf]
  refine wpAny_bind (wpAny_field he hd h1 ?_)
  rw [if_neg (by decide)]
  exact entryP hP hfr hl hf he hkb hen hd (Array.getElem?_eq_some_iff.mp h1).1 hp h
/-- a further frame's note -/
theorem note_onP (hP : Bears P) {base : Heap} {env : Env} {outer : List Env} {L e : Addr} {cls : Value} {Q : Unit → Shared → Prop}
    (hfr : A.frames = some (env :: outer)) (hl : s.heap.FunFrames base (env :: outer)) (hf : env.frame = some L) (ht : TrP P s.heap base e cls .none) (hkb : base.StaysIn s.heap) (hen : base.get? e = none)
    (h : ∀ h', NotedP P base (env :: outer) e cls (rawInt L) s.heap h' → Q () { s with heap := h' }) : wpAny M A (noteFrame (.ref e) env) Q E s := by
  obtain ⟨oe, vs, T, oT, ts, he, rfl, hp, hd, h1, hnT, hTe, hT, hdT, h3⟩ := ht
  unfold noteFrame
  simp only [hf]
  refine wpAny_bind (wpAny_field he hd h1 ?_)
  rw [if_pos (show (Value.ref T != Value.none) = true from by simp)]
  refine wpAny_bind (wpAny_field hT hdT h3 ?_)
  rw [if_neg (show ¬ ((Value.none == rawInt L) = true) from by simp [rawInt])]
  refine wpAny_bind (wpAny_setField hT hdT (Array.getElem?_eq_some_iff.mp h3).1 ?_)
  have other : ∀ b, b ≠ T → (s.heap.update T (Obj.mapFields (·.setIfInBounds 3 Value.none))).get? b = s.heap.get? b := fun b hb => Heap.get?_update_other _ _ (Ne.symm hb)
  have noRec : ∀ b o, s.heap.get? b = some o → (∀ vs, o.data ≠ .fields vs) → b ≠ T := fun b o hb hnf q => by
    rw [q, hT] at hb
    exact hnf ts ((Option.some.inj hb) ▸ hdT)
  refine entryP hP hfr (hl.of_keeps fun b o hb hnf => ⟨o, (other b (noRec b o hb hnf)).trans hb, rfl⟩) hf ((other e (Ne.symm hTe)).trans he)
    (fun b o hbo => (other b fun q => by rw [q, hnT] at hbo; cases hbo).trans (hkb b o hbo)) hen hd (Array.getElem?_eq_some_iff.mp h1).1 hp
    fun h' ⟨x1, x2, x3, x4⟩ => h h' ⟨x1, x2, x3, fun b o hb hnf => x4 b o ((other b (noRec b o hb hnf)).trans hb) hnf⟩
/-- the flight is put off -/
theorem flight_offP {base : Heap} {l : List Env} {e : Addr} {cls fl : Value} {Q : Unit → Shared → Prop}
    (hkb : base.StaysIn s.heap) (hl : s.heap.FunFrames base l) (ht : TrP P s.heap base e cls fl)
    (h : ∀ h', NotedP P base l e cls .none s.heap h' → Q () { s with heap := h' }) : wpAny M A (setFlight (.ref e) none) Q E s := by
  obtain ⟨oe, vs, T, oT, ts, he, hcls, hp, hd, h1, hnT, hTe, hT, hdT, h3⟩ := ht
  have hsz3 : 3 < ts.size := (Array.getElem?_eq_some_iff.mp h3).1
  have other : ∀ b, b ≠ T → (s.heap.update T (Obj.mapFields (·.setIfInBounds 3 ((none : Option Addr).elim Value.none fun f => rawInt f)))).get? b = s.heap.get? b :=
    fun b hb => Heap.get?_update_other _ _ (Ne.symm hb)
  have noRec : ∀ b o, s.heap.get? b = some o → (∀ vs, o.data ≠ .fields vs) → b ≠ T := fun b o hb hnf q => by
    rw [q, hT] at hb
    exact hnf ts ((Option.some.inj hb) ▸ hdT)
  unfold setFlight
  refine wpAny_bind (wpAny_field he hd h1 ?_)
  rw [if_pos (show (Value.ref T != Value.none) = true from by simp)]
  refine wpAny_setField hT hdT hsz3 (h _ ⟨fun b o hbo => (other b fun q => by rw [q, hnT] at hbo; cases hbo).trans (hkb b o hbo),
    hl.of_keeps fun b o hb hnf => ⟨o, (other b (noRec b o hb hnf)).trans hb, rfl⟩, ?_, fun b o hb hnf => ⟨o.slots, (other b (noRec b o hb hnf)).trans hb⟩⟩)
  exact ⟨oe, vs, T, _, _, (other e (Ne.symm hTe)).trans he, hcls, hp, hd, h1, hnT, hTe, Heap.get?_update_self _ hT (Obj.isFreed_of_fields (Obj.data_mapFields hdT _)), Obj.data_mapFields hdT _, by simp [hsz3]⟩
end
end
end Mine

namespace Mine
section
theorem TrP.mono {P P' : Array Value → Prop} {h base : Heap} {e : Addr} {cls fl : Value} (hpp : ∀ vs, P vs → P' vs) (x : TrP P h base e cls fl) : TrP P' h base e cls fl := by
  obtain ⟨oe, vs, T, oT, ts, a, b, c, r⟩ := x
  exact ⟨oe, vs, T, oT, ts, a, b, hpp vs c, r⟩
def CtxOk (G B : Heap) (x : Value) : Prop := x = .none ∨ ∃ c oc cs, x = .ref c ∧ B.get? c = some oc ∧ oc.data = .fields cs ∧ cs[2]? = some .none ∧ G.get? c = none
def CtxP (cx : Bool) (G B : Heap) (vs : Array Value) : Prop := cx = true → ∃ x, vs[2]? = some x ∧ CtxOk G B x
def CtxN (news : List (Addr × Obj)) (x : Value) : Prop := x = .none ∨ ∃ c oc cs, x = .ref c ∧ (c, oc) ∈ news ∧ oc.data = .fields cs ∧ cs[2]? = some .none
theorem bears_ctx {P : Array Value → Prop} {cx : Bool} {G B : Heap} (hP : Bears P) : Bears (fun vs => P vs ∧ CtxP cx G B vs) := fun vs x ⟨h1, h2⟩ => ⟨hP vs x h1, fun hc => by
  obtain ⟨y, hy, r⟩ := h2 hc
  exact ⟨y, by rw [Array.getElem?_setIfInBounds_ne (by decide)]; exact hy, r⟩⟩
/-- a raised exception under way over the frames l, its record known by P -/
def RaisedP (P : Array Value → Prop) (cx : Bool) (base G : Heap) (l : List Env) (e : Addr) (cls : Value) (news : List (Addr × Obj)) (h : Heap) : Prop :=
  ∃ B, base.StaysIn B ∧ (∀ b o, G.get? b = some o → b ∉ l.filterMap (·.frame) → B.get? b = some o) ∧ (∀ q ∈ news, B.get? q.1 = some q.2 ∧ G.get? q.1 = none ∧ base.get? q.1 = none) ∧
    B.StaysIn h ∧ B.get? e = none ∧ h.FunFrames B l ∧ TrP (fun vs => P vs ∧ CtxP cx G B vs) h B e cls .none
theorem CtxP.of {cx : Bool} {g G B : Heap} (k : ∀ b, G.get? b = none → g.get? b = none) {vs : Array Value} (x : CtxP cx G B vs) : CtxP cx g B vs := fun hc => by
  obtain ⟨y, hy, r⟩ := x hc
  refine ⟨y, hy, r.imp id ?_⟩
  rintro ⟨c, oc, cs, h1, h2, h3, h4, h5⟩
  exact ⟨c, oc, cs, h1, h2, h3, h4, k _ h5⟩
theorem RaisedP.back {P : Array Value → Prop} {cx : Bool} {base g g' : Heap} {l : List Env} {e : Addr} {cls : Value} {news : List (Addr × Obj)} {h : Heap} (T : KtsTurn (l.filterMap (·.frame)) g g') (R : RaisedP P cx base g' l e cls news h) : RaisedP P cx base g l e cls news h := by
  obtain ⟨B, a, b, c, d, f, i, j⟩ := R
  have nn : ∀ b, g'.get? b = none → g.get? b = none := fun b e => by
    cases q : g.get? b with
    | none => rfl
    | some o => obtain ⟨sl, hs⟩ := T.up q; rw [e] at hs; cases hs
  exact ⟨B, a, fun x o hx hn => b x o (T.other x o hx hn) hn, fun q hq => ⟨(c q hq).1, nn _ (c q hq).2.1, (c q hq).2.2⟩, d, f, i, j.mono fun vs p => ⟨p.1, p.2.of nn⟩⟩
theorem turn_slots {fs : List Addr} {g g' : Heap} (T : KtsTurn fs g g') : g.UpToSlots g' := fun _ _ e _ => T.up e
theorem RaisedP.sub {P : Array Value → Prop} {cx : Bool} {base g : Heap} {l : List Env} {e : Addr} {cls : Value} {n1 n2 : List (Addr × Obj)} {h : Heap} (s : ∀ q ∈ n2, q ∈ n1) (R : RaisedP P cx base g l e cls n1 h) : RaisedP P cx base g l e cls n2 h := by
  obtain ⟨B, a, b, c, r⟩ := R
  exact ⟨B, a, b, fun q hq => c q (s q hq), r⟩
section
variable {M : Model} {A : Around} {E : Value → Shared → Prop} {s' : Shared} {base g g₂ : Heap} {outer : List Env} {env : Env} {L e : Addr} {m : Str → Option Value} {Q : Unit → Shared → Prop} {news news' : List (Addr × Obj)} {P : Array Value → Prop} {cx : Bool} {cls : Value}
/-- the ground of a raise in the frame at hand -/
theorem raise_ground {oe : Obj} {vs : Array Value} (hP : Bears P) (K : Below A base outer g) (F : Fr g L s'.heap m) (N : News g L s'.heap news) (hf : env.frame = some L) (hk : env.scope.kind = .function)
    (he : (e, oe) ∈ news) (hd : oe.data = .fields vs) (hcx : cx = true → ∃ x, vs[2]? = some x ∧ CtxN news x) (h2 : cx = true → vs[2]? ≠ some (.ref e)) (hn : ∀ q ∈ news', q ∈ news ∧ q.1 ≠ e) :
    ∃ B, base.StaysIn B ∧ (∀ b o, g.get? b = some o → b ∉ outer.filterMap (·.frame) → B.get? b = some o) ∧ (∀ q ∈ news', B.get? q.1 = some q.2 ∧ g.get? q.1 = none ∧ base.get? q.1 = none) ∧ B.StaysIn s'.heap ∧ B.get? e = none ∧
      s'.heap.FunFrames B (env :: outer) ∧ CtxP cx g B vs ∧ B.get? L = none ∧ (∀ b o, s'.heap.get? b = some o → b ≠ e → b ∉ (env :: outer).filterMap (·.frame) → B.get? b = some o) := by
  have K' := pushX K F hf hk
  have off : ∀ q ∈ news, q.1 ∉ (env :: outer).filterMap (·.frame) := fun q hq hm => by
    rcases frames_in hf hm with z | z
    · exact (N q hq).2.1 z
    · obtain ⟨_, o, ho, _⟩ := K.frames.mem z
      rw [(N q hq).2.2] at ho; cases ho
  have sg : ∀ b o, g.get? b = some o → b ∉ outer.filterMap (·.frame) → b ∉ e :: (env :: outer).filterMap (·.frame) := fun b o q nm hm => by
    rcases List.mem_cons.mp hm with rfl | hm
    · have h9 := (N _ he).2.2; rw [q] at h9; cases h9
    · rcases frames_in hf hm with z | z
      · rw [z, kts_self F] at q; cases q
      · exact nm z
  have led : ∀ q ∈ news, q.1 ≠ e → (hideAll s'.heap (e :: (env :: outer).filterMap (·.frame))).get? q.1 = some q.2 := fun q hq ne => hideAll_get _ (N q hq).1 fun hm => by
    rcases List.mem_cons.mp hm with z | z
    · exact ne z
    · exact off q hq z
  refine ⟨hideAll s'.heap (e :: (env :: outer).filterMap (·.frame)), fun b o q => hideAll_get _ (F.keep b o (K.stays b o q)) ?_, fun b o q nm => hideAll_get _ (F.keep b o q) (sg b o q nm), fun q hq => ?_, fun b o q => of_hideAll _ q, hideAll_none _ (.head _), ?_, fun hc => ?_, hideAll_none _ ?_, fun b o q ne nm => hideAll_get _ q fun hm => (List.mem_cons.mp hm).elim ne nm⟩
  · intro hm
    rcases List.mem_cons.mp hm with rfl | hm
    · have h9 := (N _ he).2.2; rw [K.stays _ _ q] at h9; cases h9
    · have h9 := (K'.frames.mem hm).1; rw [q] at h9; cases h9
  · obtain ⟨hq1, ne⟩ := hn q hq
    exact ⟨led q hq1 ne, (N q hq1).2.2, fresh_of_stays K.stays (N q hq1).2.2⟩
  · exact funFrames_hide K'.frames fun env' h' b hb => .tail _ (List.mem_filterMap.mpr ⟨env', h', hb⟩)
  · obtain ⟨x, hx, r⟩ := hcx hc
    refine ⟨x, hx, r.imp id ?_⟩
    rintro ⟨c, oc, cs, rfl, hc1, hc2, hc3⟩
    exact ⟨c, oc, cs, rfl, led _ hc1 (fun q => h2 hc (by rw [hx]; show some (Value.ref c) = _; rw [show c = e from q])), hc2, hc3, (N _ hc1).2.2⟩
  · refine .tail _ ?_
    rw [List.filterMap_cons, hf]; exact .head _
/-- a frame is left by an exception made in it -/
theorem leave_newP {oe : Obj} {vs : Array Value} (hP : Bears P) (K : Below A base outer g) (F : Fr g L s'.heap m) (N : News g L s'.heap news) (hf : env.frame = some L) (hk : env.scope.kind = .function)
    (he : (e, oe) ∈ news) (hd : oe.data = .fields vs) (h1 : vs[1]? = some .none) (hp : P vs) (hcx : cx = true → ∃ x, vs[2]? = some x ∧ CtxN news x) (h2 : cx = true → vs[2]? ≠ some (.ref e)) (hn : ∀ q ∈ news', q ∈ news ∧ q.1 ≠ e)
    (hQ : ∀ h', RaisedP P cx base g outer e oe.cls news' h' → g.UpToSlots h' → Q () { s' with heap := h' }) : wpAny M (A.deeper env) (leaving env (.ref e)) Q E s' := by
  obtain ⟨B, b1, b2, b3, b4, b5, b6, b7, b8, b9⟩ := raise_ground (cx := cx) hP K F N hf hk he hd hcx h2 hn
  have hfr := Around.frames_deeper (env := env) K.stack
  unfold leaving
  refine wpAny_bind (note_firstP (bears_ctx (cx := cx) (G := g) (B := B) hP) hfr b6 hf (N _ he).1 b4 b5 hd h1 ⟨hp, b7⟩ fun h₁ N₁ => ?_)
  obtain ⟨n1, n2, n3, n4⟩ := N₁
  refine flight_offP (base := B) (l := env :: outer) n1 n2 n3 fun h₂ N₂ => ?_
  obtain ⟨p1, p2, p3, p4⟩ := N₂
  exact hQ h₂ ⟨B, b1, b2, b3, p1, b5, p2.2.2, p3⟩ (((Heap.UpToSlots.of_keeps F.keep).trans n4).trans p4)
/-- a frame is left by an exception that came out of a callee -/
theorem leave_onP (hP : Bears P) (K : Below A base outer g) (F : Fr g L g₂ m) (hf : env.frame = some L) (R : RaisedP P cx base g₂ (env :: outer) e cls news s'.heap) (hsm : g₂.UpToSlots s'.heap)
    (hQ : ∀ h', RaisedP P cx base g outer e cls news h' → g.UpToSlots h' → Q () { s' with heap := h' }) : wpAny M (A.deeper env) (leaving env (.ref e)) Q E s' := by
  obtain ⟨B, b1, b2, b3, b4, b5, b6, b7⟩ := R
  have hfr := Around.frames_deeper (env := env) K.stack
  unfold leaving
  refine wpAny_bind (note_onP (bears_ctx (cx := cx) (G := g₂) (B := B) hP) hfr b6 hf b7 b4 b5 fun h₁ N₁ => ?_)
  obtain ⟨n1, n2, n3, n4⟩ := N₁
  refine flight_offP (base := B) (l := env :: outer) n1 n2 n3 fun h₂ N₂ => ?_
  obtain ⟨p1, p2, p3, p4⟩ := N₂
  refine hQ h₂ ⟨B, b1, fun b o q nm => b2 b o (F.keep b o q) (fun hm => ?_), fun q hq => ⟨(b3 q hq).1, kts_none F.keep (b3 q hq).2.1, (b3 q hq).2.2⟩, p1, b5, p2.2.2, p3.mono fun vs p => ⟨p.1, p.2.of fun b e => kts_none F.keep e⟩⟩ (((Heap.UpToSlots.of_keeps F.keep).trans hsm).trans (n4.trans p4))
  rcases frames_in hf hm with z | z
  · rw [z, kts_self F] at q; cases q
  · exact nm z
end
end
end Mine

namespace Mine
section
def FlyAt (B : Heap) (P : Array Value → Prop) (cx : Bool) (base g G : Heap) (l : List Env) (e : Addr) (cls : Value) (news : List (Addr × Obj)) (h : Heap) : Prop :=
  base.StaysIn B ∧ (∀ b o, G.get? b = some o → b ∉ l.filterMap (·.frame) → B.get? b = some o) ∧ (∀ q ∈ news, B.get? q.1 = some q.2 ∧ g.get? q.1 = none ∧ base.get? q.1 = none) ∧
    B.StaysIn h ∧ B.get? e = none ∧ h.FunFrames B l ∧ TrP (fun vs => P vs ∧ CtxP cx g B vs) h B e cls .none
section
variable {prog : Program} {w : World} {A₀ : Around} {E : Value → Shared → Prop} {s' : Shared} {base g G B : Heap} {outer : List Env} {L a e : Addr} {m : Str → Option Value} {cn : Str} {cs : Scope} {ccd cls : Value} {cl : List (Str × Addr)}
  {n : Str} {b₀ : Stmt} {suite : List Stmt} {pos np : Pos} {hrest : List ExceptHandler} {Q : Flow → Shared → Prop} {news : List (Addr × Obj)} {KF : Frag}
  {p : Program} {loose : List Str} {mean : ExcName → Option Value} {mg mb : Str → Option Value} {x : Str} {X T' : String} {P : Array Value → Prop} {cx : Bool}
theorem ground_at {h : Heap} (K : Below A₀ base outer g) (F : Fr g L G m) (hBG : ∀ b o, G.get? b = some o → b ∉ (envX cn cs L a ccd cl :: outer).filterMap (·.frame) → B.get? b = some o) (hBh : B.StaysIn h) (hsm : G.UpToSlots h) :
    ∃ g', KtsTurn (outer.filterMap (·.frame)) g g' ∧ Fr g' L h m ∧ Below A₀ base outer g' := kts_ground (name := cn) (scope := cs) (a := a) (cd := ccd) K F hBG hBh hsm
/-- what the clause finds on the ledger -/
theorem held_news {h g' : Heap} (K : Below A₀ base outer g) (F : Fr g L G m) (hf : FlyAt B P cx base g G (envX cn cs L a ccd cl :: outer) e cls news h) (hsm : G.UpToSlots h) (T : KtsTurn (outer.filterMap (·.frame)) g g') :
    ∃ oe vs rest, oe.cls = cls ∧ oe.data = .fields vs ∧ P vs ∧ (cx = true → ∃ x, vs[2]? = some x ∧ CtxN rest x) ∧ News g' L h ((e, oe) :: rest) ∧ (∀ q ∈ news, q ∈ rest) ∧ (∀ q ∈ rest, q.1 ≠ e) := by
  obtain ⟨b1, b2, b3, b4, b5, b6, b7⟩ := hf
  obtain ⟨oe, vs, he, hc, hd, hp, hx⟩ := b7.there
  have hBL : B.get? L = none := by
    obtain ⟨_, ⟨L', _, hf', hn', _⟩, _⟩ := b6
    obtain rfl : L = L' := Option.some.inj hf'
    exact hn'
  have hge : g'.get? e = none := by
    refine T.none_ _ ?_
    cases q : g.get? e with
    | none => rfl
    | some o =>
      exfalso
      by_cases hm : e ∈ outer.filterMap (·.frame)
      · obtain ⟨_, o', ho', hnf⟩ := K.frames.mem hm
        rw [q] at ho'; cases ho'
        obtain ⟨sl, hs⟩ := hsm _ _ (F.keep _ _ q) hnf
        rw [he] at hs; cases hs
        exact hnf _ hd
      · have := b2 _ _ (F.keep _ _ q) (fun hm' => by
          rcases frames_in (env := envX cn cs L a ccd cl) rfl hm' with z | z
          · rw [z, kts_self F] at q; cases q
          · exact hm z)
        rw [b5] at this; cases this
  have heL : e ≠ L := fun q => by
    obtain ⟨oL, es, ep, hL, hLd, _⟩ := hsm.ns F.ns
    rw [← q, he] at hL; cases hL
    rw [hd] at hLd; cases hLd
  have one : ∀ c oc, B.get? c = some oc → g.get? c = none → h.get? c = some oc ∧ c ≠ L ∧ g'.get? c = none := fun c oc hb hg => ⟨b4 _ _ hb, (fun q => by rw [q, hBL] at hb; cases hb), T.none_ _ hg⟩
  have neB : ∀ c oc, B.get? c = some oc → c ≠ e := fun c oc hb q => by rw [q, b5] at hb; cases hb
  have N0 : News g' L h ((e, oe) :: news) := fun q hq => by
    rcases List.mem_cons.mp hq with rfl | hq
    · exact ⟨he, heL, hge⟩
    · exact one _ _ (b3 q hq).1 (b3 q hq).2.1
  by_cases hc' : cx = true
  · obtain ⟨y, hy, hok⟩ := hx hc'
    rcases hok with rfl | ⟨c, oc, cs', rfl, h1, h2, h3, h4⟩
    · exact ⟨oe, vs, news, hc, hd, hp, fun _ => ⟨_, hy, .inl rfl⟩, N0, fun _ h => h, fun q hq => neB _ _ (b3 q hq).1⟩
    · refine ⟨oe, vs, (c, oc) :: news, hc, hd, hp, fun _ => ⟨_, hy, .inr ⟨c, oc, cs', rfl, .head _, h2, h3⟩⟩, fun q hq => ?_, fun _ h => .tail _ h, fun q hq => ?_⟩
      · rcases List.mem_cons.mp hq with rfl | hq
        · exact ⟨he, heL, hge⟩
        · rcases List.mem_cons.mp hq with rfl | hq
          · exact one _ _ h1 h4
          · exact one _ _ (b3 q hq).1 (b3 q hq).2.1
      · rcases List.mem_cons.mp hq with rfl | hq
        · exact neB _ _ h1
        · exact neB _ _ (b3 q hq).1
  · exact ⟨oe, vs, news, hc, hd, hp, fun q => absurd q hc', N0, fun _ h => h, fun q hq => neB _ _ (b3 q hq).1⟩
theorem FlyAt.off {h h' : Heap} {l : List Env} (R : FlyAt B P cx base g G l e cls news h) (N : NotedP (fun vs => P vs ∧ CtxP cx g B vs) B l e cls .none h h') : FlyAt B P cx base g G l e cls news h' := by
  obtain ⟨b1, b2, b3, b4, b5, b6, b7⟩ := R
  exact ⟨b1, b2, b3, N.1, b5, N.2.1, N.2.2.1⟩
/-- a clause «except X as n» of a frame -/
theorem handle_asP (hP : Bears P) (R : FlyAt B P cx base g G (envX cn cs L a ccd cl :: outer) e (.type X) news s'.heap) (F : Fr g L G m) (K : Below A₀ base outer g) (hsm : G.UpToSlots s'.heap) (XB : KF.In base) (TB : Top p loose mean mg mb base) (D : KtsDicts (outer.filterMap (·.frame)) g)
    (ex : nsIn KF mainGlobals x = some none) (hv : bootBuiltins x = some (.type T')) (hn' : x ≠ "__name__")
    (hexc : isSubtype (.type T') (.type "BaseException") = pure true) (hnt : isSubtype (.type ((Manifest.find? T').elim "type" fun y => y.metatype)) (.type "tuple") = pure false) (hsub : isSubtype (.type X) (.type T') = pure true)
    (k : ∀ h' g' tk oe vs rest, KtsTurn (outer.filterMap (·.frame)) g g' → Fr g' L h' (fun y => if y = n then some (.ref e) else m y) → oe.cls = .type X → oe.data = .fields vs → P vs → (cx = true → ∃ x, vs[2]? = some x ∧ CtxN rest x) → News g' L h' ((e, oe) :: rest) → (∀ q ∈ news, q ∈ rest) → (∀ q ∈ rest, q.1 ≠ e) →
      Below A₀ base outer g' → KF.In g' → Top p loose mean mg mb g' → KtsDicts (outer.filterMap (·.frame)) g' →
      wpAny (model prog w) ((A₀.deeper (envX cn cs L a ccd cl)).mark (some (.ref e))) (execs (b₀ :: suite) (envX cn cs L a ccd cl))
        (fun f s₄ => wpAny (model prog w) (A₀.deeper (envX cn cs L a ccd cl)) (do bindName (envX cn cs L a ccd cl) n .none; unbindBehindTheSuite (envX cn cs L a ccd cl) n pos) (fun _ s₅ => Q f s₅) E s₄)
        (AsSuiteRaised (model prog w) ((A₀.deeper (envX cn cs L a ccd cl)).mark (some (.ref e))) (envX cn cs L a ccd cl) n pos (notedBy (model prog w) ((A₀.deeper (envX cn cs L a ccd cl)).mark (some (.ref e))) (envX cn cs L a ccd cl) (cameBackBy (model prog w) (A₀.deeper (envX cn cs L a ccd cl)) (envX cn cs L a ccd cl) E)))
        { s' with heap := h', toks := tk })
    (hk : cs.kind = .function := by rfl) (hlo : (envX cn cs L a ccd cl).kindOf n = some .local := by rfl) (hx : (envX cn cs L a ccd cl).kindOf x = some .globalImplicit := by rfl) (hd : (x == ("__debug__" : Str)) = false := by decide) :
    wpAny (model prog w) (A₀.deeper (envX cn cs L a ccd cl)) (handleBy (.ref e) (envX cn cs L a ccd cl) (.ExceptHandler (some (.Name x np)) (some n) (b₀ :: suite) pos :: hrest)) Q E s' := by
  obtain ⟨g₅, T₅, F₅, K₅⟩ := ground_at (cn := cn) (cs := cs) (a := a) (ccd := ccd) (cl := cl) K F R.2.1 R.2.2.2.1 hsm
  obtain ⟨ob, vs₀, hob, hobc, _⟩ := R.2.2.2.2.2.2.there
  refine wpAny_handleBy_builtin_as (X := X) (T := T') (b := true) hexc hnt hsub (nameX_B F₅ (XB.keeps K₅.stays) (topRead_of (TB.keeps K₅.stays)) ex hv hn' ⟨rfl, ⟨ob, hob, hobc⟩, ?_⟩ hk hx hd)
  refine flight_offP (base := B) (l := envX cn cs L a ccd cl :: outer) R.2.2.2.1 R.2.2.2.2.2.1 R.2.2.2.2.2.2 fun h₆ N₆ => ?_
  have R₆ := R.off N₆
  obtain ⟨g₆, T₆, F₆, K₆⟩ := ground_at (cn := cn) (cs := cs) (a := a) (ccd := ccd) (cl := cl) K F R.2.1 R₆.2.2.2.1 (hsm.trans N₆.2.2.2)
  obtain ⟨oe, vs, rest, c1, c2, c3, c4, c5, c6, c7⟩ := held_news K F R₆ (hsm.trans N₆.2.2.2) T₆
  refine storeX_L F₆ c5 (fun h₇ F₇ N₇ => ?_) hk hlo
  exact k h₇ g₆ _ oe vs rest T₆ F₇ c1 c2 c3 c4 N₇ c6 c7 K₆ (XB.keeps K₆.stays) (TB.keeps K₆.stays) (D.turn T₆)
/-- a clause «except X» of a frame -/
theorem handle_P (hP : Bears P) (R : FlyAt B P cx base g G (envX cn cs L a ccd cl :: outer) e (.type X) news s'.heap) (F : Fr g L G m) (K : Below A₀ base outer g) (hsm : G.UpToSlots s'.heap) (XB : KF.In base) (TB : Top p loose mean mg mb base) (D : KtsDicts (outer.filterMap (·.frame)) g)
    (ex : nsIn KF mainGlobals x = some none) (hv : bootBuiltins x = some (.type T')) (hn' : x ≠ "__name__")
    (hexc : isSubtype (.type T') (.type "BaseException") = pure true) (hnt : isSubtype (.type ((Manifest.find? T').elim "type" fun y => y.metatype)) (.type "tuple") = pure false) (hsub : isSubtype (.type X) (.type T') = pure true)
    (k : ∀ h' g' oe vs rest, KtsTurn (outer.filterMap (·.frame)) g g' → Fr g' L h' m → oe.cls = .type X → oe.data = .fields vs → P vs → (cx = true → ∃ x, vs[2]? = some x ∧ CtxN rest x) → News g' L h' ((e, oe) :: rest) → (∀ q ∈ news, q ∈ rest) → (∀ q ∈ rest, q.1 ≠ e) →
      Below A₀ base outer g' → KF.In g' → Top p loose mean mg mb g' → KtsDicts (outer.filterMap (·.frame)) g' →
      wpAny (model prog w) ((A₀.deeper (envX cn cs L a ccd cl)).mark (some (.ref e))) (execs (b₀ :: suite) (envX cn cs L a ccd cl)) Q E { s' with heap := h' })
    (hk : cs.kind = .function := by rfl) (hx : (envX cn cs L a ccd cl).kindOf x = some .globalImplicit := by rfl) (hd : (x == ("__debug__" : Str)) = false := by decide)
    (hE : PassesOwnAt (model prog w) ((A₀.deeper (envX cn cs L a ccd cl)).mark (some (.ref e))) (A₀.deeper (envX cn cs L a ccd cl)) (envX cn cs L a ccd cl) E := by passes_own) :
    wpAny (model prog w) (A₀.deeper (envX cn cs L a ccd cl)) (handleBy (.ref e) (envX cn cs L a ccd cl) (.ExceptHandler (some (.Name x np)) none (b₀ :: suite) pos :: hrest)) Q E s' := by
  obtain ⟨g₅, T₅, F₅, K₅⟩ := ground_at (cn := cn) (cs := cs) (a := a) (ccd := ccd) (cl := cl) K F R.2.1 R.2.2.2.1 hsm
  obtain ⟨ob, vs₀, hob, hobc, _⟩ := R.2.2.2.2.2.2.there
  refine wpAny_handleBy_builtin (X := X) (T := T') (b := true) hexc hnt hsub (nameX_B F₅ (XB.keeps K₅.stays) (topRead_of (TB.keeps K₅.stays)) ex hv hn' ⟨rfl, ⟨ob, hob, hobc⟩, ?_⟩ hk hx hd)
  refine flight_offP (base := B) (l := envX cn cs L a ccd cl :: outer) R.2.2.2.1 R.2.2.2.2.2.1 R.2.2.2.2.2.2 fun h₆ N₆ => ?_
  have R₆ := R.off N₆
  obtain ⟨g₆, T₆, F₆, K₆⟩ := ground_at (cn := cn) (cs := cs) (a := a) (ccd := ccd) (cl := cl) K F R.2.1 R₆.2.2.2.1 (hsm.trans N₆.2.2.2)
  obtain ⟨oe, vs, rest, c1, c2, c3, c4, c5, c6, c7⟩ := held_news K F R₆ (hsm.trans N₆.2.2.2) T₆
  exact wpAny_passesOwnAt hE (k h₆ g₆ oe vs rest T₆ F₆ c1 c2 c3 c4 c5 c6 c7 K₆ (XB.keeps K₆.stays) (TB.keeps K₆.stays) (D.turn T₆))
/-- the exception came out of a callee -/
theorem caughtP {Z : List ExceptHandler} (hP : Bears P) (R : RaisedP P cx base G (envX cn cs L a ccd cl :: outer) e cls news s'.heap) (F : Fr g L G m) (K : Below A₀ base outer g) (hsm : G.UpToSlots s'.heap)
    (k : ∀ h' B, FlyAt B P cx base g G (envX cn cs L a ccd cl :: outer) e cls news h' → G.UpToSlots h' → wpAny (model prog w) (A₀.deeper (envX cn cs L a ccd cl)) (handleBy (.ref e) (envX cn cs L a ccd cl) Z) Q E { s' with heap := h' }) :
    wpAny (model prog w) (A₀.deeper (envX cn cs L a ccd cl)) (noteFrame (.ref e) (envX cn cs L a ccd cl))
      (fun _ s₂ => wpAny (model prog w) (A₀.deeper (envX cn cs L a ccd cl)) (setFlight (.ref e) none) (fun _ s₃ =>
        wpAny (model prog w) (A₀.deeper (envX cn cs L a ccd cl)) (handleBy (.ref e) (envX cn cs L a ccd cl) Z) Q E s₃) E s₂) E s' := by
  obtain ⟨B, b1, b2, b3, b4, b5, b6, b7⟩ := R
  have hfr := Around.frames_deeper (env := envX cn cs L a ccd cl) K.stack
  refine note_onP (bears_ctx (cx := cx) (G := G) (B := B) hP) hfr b6 rfl b7 b4 b5 fun h₁ N₁ => ?_
  obtain ⟨n1, n2, n3, n4⟩ := N₁
  refine flight_offP (base := B) (l := envX cn cs L a ccd cl :: outer) n1 n2 n3 fun h₂ N₂ => ?_
  obtain ⟨p1, p2, p3, p4⟩ := N₂
  exact k h₂ B ⟨b1, b2, fun q hq => ⟨(b3 q hq).1, kts_none F.keep (b3 q hq).2.1, (b3 q hq).2.2⟩, p1, b5, p2, p3.mono fun vs p => ⟨p.1, p.2.of fun b e => kts_none F.keep e⟩⟩ ((hsm.trans n4).trans p4)
/-- the exception was made in this frame -/
theorem caught_hereP {Z : List ExceptHandler} {oe : Obj} {vs : Array Value} {news' : List (Addr × Obj)} (hP : Bears P) (K : Below A₀ base outer g) (F : Fr g L s'.heap m) (N : News g L s'.heap news) (hk : cs.kind = .function) (he : (e, oe) ∈ news) (hd : oe.data = .fields vs) (h1 : vs[1]? = some .none) (hp : P vs)
    (hn : ∀ q ∈ news', q ∈ news ∧ q.1 ≠ e)
    (k : ∀ h' B, FlyAt B P false base g (hideAll s'.heap [e]) (envX cn cs L a ccd cl :: outer) e oe.cls news' h' → Fr g L (hideAll s'.heap [e]) m → (hideAll s'.heap [e]).UpToSlots h' → wpAny (model prog w) (A₀.deeper (envX cn cs L a ccd cl)) (handleBy (.ref e) (envX cn cs L a ccd cl) Z) Q E { s' with heap := h' }) :
    wpAny (model prog w) (A₀.deeper (envX cn cs L a ccd cl)) (noteFrame (.ref e) (envX cn cs L a ccd cl))
      (fun _ s₂ => wpAny (model prog w) (A₀.deeper (envX cn cs L a ccd cl)) (setFlight (.ref e) none) (fun _ s₃ =>
        wpAny (model prog w) (A₀.deeper (envX cn cs L a ccd cl)) (handleBy (.ref e) (envX cn cs L a ccd cl) Z) Q E s₃) E s₂) E s' := by
  obtain ⟨B, b1, b2, b3, b4, b5, b6, b7, b8, b9⟩ := raise_ground (cx := false) hP K F N (env := envX cn cs L a ccd cl) rfl hk he hd (fun q => nomatch q) (fun q => nomatch q) hn
  have hfr := Around.frames_deeper (env := envX cn cs L a ccd cl) K.stack
  refine note_firstP (bears_ctx (cx := false) (G := g) (B := B) hP) hfr b6 rfl (N _ he).1 b4 b5 hd h1 ⟨hp, b7⟩ fun h₁ N₁ => ?_
  obtain ⟨n1, n2, n3, n4⟩ := N₁
  refine flight_offP (base := B) (l := envX cn cs L a ccd cl :: outer) n1 n2 n3 fun h₂ N₂ => ?_
  obtain ⟨p1, p2, p3, p4⟩ := N₂
  have hHe : (hideAll s'.heap [e]).get? e = none := hideAll_none _ (.head _)
  have hG : ∀ b o, (hideAll s'.heap [e]).get? b = some o → s'.heap.get? b = some o := fun b o q => of_hideAll _ q
  have hG' : ∀ b o, s'.heap.get? b = some o → b ≠ e → (hideAll s'.heap [e]).get? b = some o := fun b o q ne => hideAll_get _ q fun hm => ne (List.mem_singleton.mp hm)
  have hge := (N _ he).2.2
  have FG : Fr g L (hideAll s'.heap [e]) m := by
    obtain ⟨oL, es, ep, hL, hr⟩ := F.ns
    refine ⟨⟨oL, es, ep, hG' _ _ hL (fun q => (N _ he).2.1 q.symm), hr⟩, fun b o q => hG' b o (F.keep b o q) fun q' => ?_, F.above⟩
    rw [q'] at q
    have h9 := hge.symm.trans q
    cases h9
  refine k h₂ B ⟨b1, fun b o q nm => b9 b o (hG b o q) (fun q' => ?_) nm, b3, p1, b5, p2, p3⟩ FG (((Heap.UpToSlots.of_keeps hG).trans n4).trans p4)
  rw [q', hHe] at q; cases q
end
end
end Mine

namespace Mine
section
section
open Builtin
theorem ude_newCheck (rest : List Value) : checkBuiltinCall "UnicodeDecodeError.__new__" ⟨.type "UnicodeDecodeError" :: rest, []⟩ = pure () := by kernel_rfl
theorem ude_newEntry : entryFor table "UnicodeDecodeError.__new__" = some Builtin.«BaseException.__new__» := entryFor_alias (id' := "BaseException.__new__") (by kernel_rfl) (by first | rfl | (unfold String.splitOn; simp +decide [String.splitOnAux])) (by decide +kernel) (by kernel_rfl)
theorem ude_subOwner : isSubtype (.type "UnicodeDecodeError") (.type ("UnicodeDecodeError.__new__".dropRight 8)) = pure true := by rw [isSubtype_type]; kernel_rfl
theorem ude_madeHere : Bind.madeHere "BaseException.__new__" (.type "UnicodeDecodeError") = pure () := by kernel_rfl
theorem ude_notAttr : isSubtype (.type "UnicodeDecodeError") (.type "AttributeError") = pure false := by rw [isSubtype_type]; kernel_rfl
theorem ude_notName : isSubtype (.type "UnicodeDecodeError") (.type "NameError") = pure false := by rw [isSubtype_type]; kernel_rfl
theorem ude_self : isSubtype (.type "UnicodeDecodeError") (.type "UnicodeDecodeError") = pure true := by rw [isSubtype_type]; kernel_rfl
theorem ude_base : isSubtype (.type "UnicodeDecodeError") (.type "BaseException") = pure true := by rw [isSubtype_type]; kernel_rfl
theorem ude_initSlot : Slot "UnicodeDecodeError" "__init__" "UnicodeDecodeError.__init__" := .of (owner := "UnicodeDecodeError") (n := "__init__") (by rw [typeLookup_type, builtinLookup_eq_fast]; kernel_rfl) (by decide +kernel) (by decide +kernel) (by decide +kernel)
    (by first | exact .inl (by decide +kernel) | exact .inr (by decide +kernel)) (by rw [isSubtype_type]; kernel_rfl)
theorem ude_initEntry : entryFor table "UnicodeDecodeError.__init__" = some Builtin.«UnicodeDecodeError.__init__» := entryFor_of_tree (by kernel_rfl)
theorem ude_initArgs (o a b c d e : Value) : argsOk "UnicodeDecodeError.__init__" ⟨[o, a, b, c, d, e], []⟩ := by unfold argsOk; kernel_rfl
theorem ude_typeCall (rest : List Value) : checkTypeCall "UnicodeDecodeError" ⟨rest, []⟩ = pure () := by kernel_rfl
theorem ude_madeBy : Bind.madeBy (.type "UnicodeDecodeError") = pure (some "UnicodeDecodeError.__new__") := by kernel_rfl
theorem ude_mro : ∃ l, mroOf (.type "UnicodeDecodeError") = pure l ∧ l.isEmpty = false := by
  have h : (fastBuiltinMro "UnicodeDecodeError").map (·.isEmpty) = some false := by kernel_rfl
  rw [mroOf_type]
  cases hm : fastBuiltinMro "UnicodeDecodeError" with
  | none => rw [hm] at h; cases h
  | some l => rw [hm] at h; exact ⟨l, rfl, by simpa using h⟩
section
variable {prog : Program} {w : World} {A : Around} {E : Value → Shared → Prop} {s : Shared}
theorem ude_new {rest : List Value} {Q : Value → Shared → Prop}
    (h : Q (.ref (s.heap.push { cls := .type "tuple", data := .seq rest.toArray }).objs.size) { s with heap := (s.heap.push { cls := .type "tuple", data := .seq rest.toArray }).push { cls := .type "UnicodeDecodeError", data := .fields #[.ref s.heap.objs.size, .none, .none, .none, .bool false, .none] } }) (hrest : rest.length ≤ sizeLine) :
    wpAny (model prog w) A (call (.builtin "UnicodeDecodeError.__new__") (.type "UnicodeDecodeError" :: rest)) Q E s := by
  refine call_builtin_at (by decide +kernel) ude_newEntry (ude_newCheck rest) ?_
  unfold Builtin.«BaseException.__new__»
  refine PyProof.Rows.wpAt_bind (PyProof.Rows.wpAt_owner rfl (by decide +kernel) (PyProof.Rows.wpAt_of_any ?_))
  dsimp only
  refine wpAny_bind (m := isType _) (wpAny_of_eq (a := true) rfl ?_)
  simp only [Bool.not_true, Bool.false_eq_true, if_false]
  refine wpAny_bind (wpAny_of_eq ude_subOwner ?_)
  simp only [Bool.not_true, Bool.false_eq_true, if_false]
  refine wpAny_bind (wpAny_of_eq ude_madeHere ?_)
  refine wpAny_bind (wpAny_of_eq (a := 0) ?own ?_)
  case own =>
    show (do
      if ← isSubtype (.type "UnicodeDecodeError") (.type "AttributeError") then return 2
      if ← isSubtype (.type "UnicodeDecodeError") (.type "NameError") then return 1
      return 0 : Sem Nat) = pure 0
    simp only [ude_notAttr, ude_notName, pure_bind, Bool.false_eq_true, if_false]
  unfold newTuple
  refine wpAny_bind (wpAny_newObj_type (wpAny_bind (wpAny_newObj_type (wpAny_pure ⟨_, rfl, ?_⟩) (by size_fits))) (by show rest.toArray.size ≤ sizeLine; rw [List.size_toArray]; exact hrest))
  first
    | exact h
    | simpa using h
end
end
end
end Mine

namespace Mine
section
section
open Builtin Builtin.UnicodeEncodeError
def RecAt (h : Heap) (e : Addr) (cls : Value) (vs : Array Value) : Prop := ∃ ob, h.get? e = some ob ∧ ob.cls = cls ∧ ob.data = .fields vs
def OthersAs (e : Addr) (h h' : Heap) : Prop := ∀ b, b ≠ e → h'.get? b = h.get? b
theorem OthersAs.trans {e : Addr} {h h₁ h₂ : Heap} (a : OthersAs e h h₁) (b : OthersAs e h₁ h₂) : OthersAs e h h₂ := fun x hx => (b x hx).trans (a x hx)
def recOf (p : Array Value) (m : Members) : Array Value := p.extract 0 6 ++ #[m.encoding, m.object, rawInt m.start, rawInt m.stop, m.reason]
section
variable {M : Model} {A : Around} {E : Value → Shared → Prop} {s : Shared} {e : Addr} {cls : Value} {vs : Array Value}
theorem rec_upd {f : Array Value → Array Value} (R : RecAt s.heap e cls vs) : OthersAs e s.heap (s.heap.update e (Obj.mapFields f)) ∧ RecAt (s.heap.update e (Obj.mapFields f)) e cls (f vs) := by
  obtain ⟨ob, ho, hc, hd⟩ := R
  have hd' := Obj.data_mapFields hd f
  exact ⟨fun b hb => Heap.get?_update_other _ _ (Ne.symm hb), _, Heap.get?_update_self _ ho (Obj.isFreed_of_fields hd'), (Obj.cls_mapFields _ _).trans hc, hd'⟩
theorem set_mem {m : Members} {Q : Unit → Shared → Prop} (R : RecAt s.heap e cls vs)
    (h : ∀ h', OthersAs e s.heap h' → RecAt h' e cls (recOf vs m) → Q () { s with heap := h' }) : wpAny M A (setMembers (.ref e) m) Q E s := by
  obtain ⟨x1, x2⟩ := rec_upd (f := fun vs => vs.extract 0 6 ++ #[m.encoding, m.object, rawInt m.start, rawInt m.stop, m.reason]) R
  obtain ⟨ob, ho, hc, hd⟩ := R
  show wpAny M A (updateFields e _) Q E s
  exact wpAny_updateFields ho hd (h _ x1 x2) (by rw [sizeLine_eq]; simp; omega)
theorem get_mem0 {Q : Members → Shared → Prop} (R : RecAt s.heap e cls vs) (hv : (vs.extract 6).toList = []) (h : Q {} s) : wpAny M A (members (.ref e)) Q E s := by
  obtain ⟨ob, ho, hc, hd⟩ := R
  unfold members
  refine wpAny_bind (wpAny_fieldsOf ho hd ?_)
  rw [hv]
  exact wpAny_pure h
theorem rec_tail {p : Array Value} {m : Members} (hp : 6 ≤ p.size) : ((recOf p m).extract 6).toList = [m.encoding, m.object, rawInt m.start, rawInt m.stop, m.reason] := by
  unfold recOf
  have e : (p.extract 0 6).size = 6 := by simp; omega
  rw [Array.extract_append]
  simp [e]
theorem get_mem {p : Array Value} {m : Members} {Q : Members → Shared → Prop} (R : RecAt s.heap e cls (recOf p m)) (hp : 6 ≤ p.size) (h : Q m s) : wpAny M A (members (.ref e)) Q E s := by
  obtain ⟨ob, ho, hc, hd⟩ := R
  unfold members
  refine wpAny_bind (wpAny_fieldsOf ho hd ?_)
  rw [rec_tail hp]
  exact wpAny_pure h
theorem rec_rec {p : Array Value} {m m' : Members} (hp : 6 ≤ p.size) : recOf (recOf p m) m' = recOf p m' := by
  have e : (p.extract 0 6).size = 6 := by simp; omega
  have e2 : (recOf p m).extract 0 6 = p.extract 0 6 := by
    unfold recOf
    rw [Array.extract_append]
    simp [e]
  show (recOf p m).extract 0 6 ++ _ = _
  rw [e2]
  rfl
end
end
section
open Builtin Builtin.UnicodeEncodeError
abbrev UDE : Value := .type "UnicodeDecodeError"
section
variable {prog : Program} {w : World} {A : Around} {E : Value → Shared → Prop} {s : Shared} {e t0 : Addr} {enc re : PySem.Str} {bs : Array UInt8} {i j : Int} {t1 tb ti tj tr : Tok}
theorem ude_begin {M : Model} {vs : Array Value} {rest : List Value} {Q : Value × List Value → Shared → Prop} (R : RecAt s.heap e UDE #[.ref t0, .none, .none, .none, .bool false, .none]) (hr : rest.length = 5)
    (h : ∀ h' t2, s.heap.get? t2 = none → t2 ≠ e → (∀ b o, b ≠ e → s.heap.get? b = some o → h'.get? b = some o) → RecAt h' e UDE (recOf #[.ref t2, .none, .none, .none, .bool false, .none] {}) → Q (.ref e, rest) { s with heap := h' }) :
    wpAny M A (beginInit "UnicodeDecodeError.__init__" 5 ⟨.ref e :: rest, []⟩) Q E s := by
  unfold beginInit
  dsimp only
  rw [if_neg (by simp)]
  obtain ⟨ob, ho, hc, hd⟩ := R
  refine wpAny_bind (wpAny_field ho hd rfl ?_)
  unfold newTuple
  refine wpAny_bind (wpAny_newObj_type ?_ (by show rest.toArray.size ≤ sizeLine; rw [List.size_toArray, hr, sizeLine_eq]; decide))
  have ho₁ := Heap.get?_push_of_some (h := s.heap) { cls := .type "tuple", data := .seq rest.toArray } ho
  refine wpAny_bind (wpAny_setField ho₁ hd (Nat.zero_lt_succ 5) ?_)
  obtain ⟨u1, r1⟩ := rec_upd (s := { s with heap := s.heap.push { cls := .type "tuple", data := .seq rest.toArray } }) (f := (·.setIfInBounds 0 (.ref s.heap.objs.size))) ⟨ob, ho₁, hc, hd⟩
  have hp : 6 ≤ (#[Value.ref s.heap.objs.size, .none, .none, .none, .bool false, .none] : Array Value).size := Nat.le_refl 6
  replace r1 : RecAt _ e UDE #[Value.ref s.heap.objs.size, .none, .none, .none, .bool false, .none] := r1
  refine wpAny_bind (wpAny_letGo ?_)
  rw [if_pos (show ((5 : Nat) == 5) = true from rfl)]
  refine wpAny_bind (get_mem0 r1 rfl (wpAny_bind (set_mem r1 fun h₂ u2 r2 => wpAny_bind (wpAny_letGo ?_))))
  refine wpAny_bind (get_mem r2 hp (wpAny_bind (set_mem r2 fun h₃ u3 r3 => wpAny_bind (wpAny_letGo ?_))))
  rw [rec_rec hp] at r3
  refine wpAny_bind (get_mem r3 hp (wpAny_bind (set_mem r3 fun h₄ u4 r4 => wpAny_bind (wpAny_letGo ?_))))
  rw [rec_rec hp] at r4
  rw [if_neg (by rw [hr]; decide)]
  refine wpAny_pure (h h₄ s.heap.objs.size (Heap.get?_none_of_le (Nat.le_refl _)) (Nat.ne_of_gt (Heap.lt_size ho)) (fun b o hb hbo => ?_) r4)
  have q := ((u1.trans u2).trans u3).trans u4
  exact (q b hb).trans (Heap.get?_push_of_some _ hbo)
theorem size_arg {M : Model} {Q : Int → Shared → Prop} (h0 : -(2 ^ 63) ≤ i) (h1 : i < 2 ^ 63) (h : Q i s) : wpAny M A (sizeArgument "UnicodeDecodeError.__init__" (.int i ti)) Q E s := by
  unfold sizeArgument
  refine wpAny_bind (wpAny_of_eq (a := i) rfl ?_)
  rw [if_neg (by simp only [Bool.or_eq_true, decide_eq_true_eq]; omega)]
  exact wpAny_pure h
theorem ude_range {M : Model} {p : Array Value} {m : Members} {Q : Unit → Shared → Prop} (hp : 6 ≤ p.size) (R : RecAt s.heap e UDE (recOf p m)) (h0 : -(2 ^ 63) ≤ i) (h1 : i < 2 ^ 63) (h2 : -(2 ^ 63) ≤ j) (h3 : j < 2 ^ 63)
    (h : ∀ h', OthersAs e s.heap h' → RecAt h' e UDE (recOf p { m with start := i, stop := j }) → Q () { s with heap := h' }) : wpAny M A (initRange "UnicodeDecodeError.__init__" (.ref e) (.int i ti) (.int j tj)) Q E s := by
  unfold initRange
  refine wpAny_bind (size_arg h0 h1 ?_)
  refine wpAny_bind (get_mem R hp (wpAny_bind (set_mem R fun h₁ u1 r1 => ?_)))
  rw [rec_rec hp] at r1
  refine wpAny_bind (size_arg h2 h3 ?_)
  refine wpAny_bind (get_mem r1 hp (set_mem r1 fun h₂ u2 r2 => ?_))
  rw [rec_rec hp] at r2
  exact h h₂ (u1.trans u2) r2
end
end
section
open Builtin Builtin.UnicodeEncodeError
section
variable {prog : Program} {w : World} {A : Around} {E : Value → Shared → Prop} {s : Shared} {e t0 : Addr} {enc re : PySem.Str} {bs : Array UInt8} {i j : Int} {t1 tb ti tj tr : Tok}
/-- the record of a made UnicodeDecodeError -/
def udeRec (t2 : Addr) (enc : PySem.Str) (t1 : Tok) (bs : Array UInt8) (tb : Tok) (i j : Int) (re : PySem.Str) (tr : Tok) : Array Value :=
  recOf #[.ref t2, .none, .none, .none, .bool false, .none] { encoding := .str enc t1, object := .bytes bs tb, start := i, stop := j, reason := .str re tr }
theorem ude_init {Q : Value → Shared → Prop} (R : RecAt s.heap e UDE #[.ref t0, .none, .none, .none, .bool false, .none]) (h0 : -(2 ^ 63) ≤ i) (h1 : i < 2 ^ 63) (h2 : -(2 ^ 63) ≤ j) (h3 : j < 2 ^ 63)
    (h : ∀ h' t2, s.heap.get? t2 = none → t2 ≠ e → (∀ b o, b ≠ e → s.heap.get? b = some o → h'.get? b = some o) → RecAt h' e UDE (udeRec t2 enc t1 bs tb i j re tr) → Q .none { s with heap := h' }) :
    wpAny (model prog w) A (call (.builtin "UnicodeDecodeError.__init__") [.ref e, .str enc t1, .bytes bs tb, .int i ti, .int j tj, .str re tr]) Q E s := by
  have hT : s.TypeIs (.ref e) "UnicodeDecodeError" := by obtain ⟨ob, ho, hc, _⟩ := R; exact ⟨ob, ho, hc⟩
  refine wpAny_call (codeAny_call_builtin ude_initSlot.plain ude_initEntry (ude_initSlot.check _ _ _ _ _ _ _ _ hT (ude_initArgs _ _ _ _ _ _) ?_))
  show wpAny _ _ (beginInit "UnicodeDecodeError.__init__" 5 ⟨[.ref e, .str enc t1, .bytes bs tb, .int i ti, .int j tj, .str re tr], []⟩ >>= fun r => _) _ _ s
  refine wpAny_bind (ude_begin (vs := #[]) R rfl fun h₁ t2 n1 n2 k1 r1 => ?_)
  have hp : 6 ≤ (#[Value.ref t2, .none, .none, .none, .bool false, .none] : Array Value).size := Nat.le_refl 6
  dsimp only
  refine wpAny_bind (m := strArgument _ 1 _) (wpAny_of_eq (a := ()) rfl ?_)
  refine wpAny_bind (ude_range hp r1 h0 h1 h2 h3 fun h₂ u2 r2 => ?_)
  refine wpAny_bind (m := strArgument _ 5 _) (wpAny_of_eq (a := ()) rfl ?_)
  show wpAny _ _ (members (.ref e) >>= fun m => setMembers (.ref e) { m with encoding := .str enc t1, object := .bytes bs tb, reason := .str re tr } >>= fun _ => ret .none) _ _ _
  refine wpAny_bind (get_mem r2 hp (wpAny_bind (set_mem r2 fun h₃ u3 r3 => wpAny_pure ?_)))
  rw [rec_rec hp] at r3
  exact h h₃ t2 n1 n2 (fun b o hb hbo => (u3 b hb).trans ((u2 b hb).trans (k1 b o hb hbo))) r3
theorem call_ude {Q : Value → Shared → Prop} (h0 : -(2 ^ 63) ≤ i) (h1 : i < 2 ^ 63) (h2 : -(2 ^ 63) ≤ j) (h3 : j < 2 ^ 63)
    (h : ∀ h' e t2, s.heap.get? e = none → (∀ b o, s.heap.get? b = some o → h'.get? b = some o) → RecAt h' e UDE (udeRec t2 enc t1 bs tb i j re tr) → Q (.ref e) { s with heap := h' }) :
    wpAny (model prog w) A (call (.type "UnicodeDecodeError") [.str enc t1, .bytes bs tb, .int i ti, .int j tj, .str re tr]) Q E s := by
  refine wpAny_call (codeAny_of_tree ?_)
  show wpAny _ _ (callAny (.type "UnicodeDecodeError") ⟨[.str enc t1, .bytes bs tb, .int i ti, .int j tj, .str re tr], []⟩) _ _ s
  simp only [callAny]
  refine wpAny_pure ⟨Code.quiet_builtin _ (by decide +kernel), codeAny_builtin entry_type_call ?_⟩
  rw [Around.under_plain (weight_type_call _ _ _) (by first | rfl | kernel_rfl | decide +kernel)]
  unfold Builtin.«type.__call__»
  dsimp only
  rw [if_neg (by decide +kernel), if_neg (by decide +kernel)]
  obtain ⟨l, hl, hle⟩ := ude_mro
  refine wpAny_bind (wpAny_of_eq (ude_typeCall _) (wpAny_bind (wpAny_of_eq hl ?_)))
  rw [if_neg (by rw [hle]; exact Bool.false_ne_true)]
  refine wpAny_bind (wpAny_of_eq ude_madeBy ?_)
  dsimp only
  refine wpAny_bind (wpAny_pure (wpAny_bind (wpAny_holding (ude_new ?_ (by rw [sizeLine_eq]; show 5 ≤ 16777216; decide)))))
  refine wpAny_bind (wpAny_isInstance (T := "UnicodeDecodeError") ⟨_, Heap.get?_push_size _ rfl, rfl⟩ ude_self ?_)
  simp only [Bool.not_true, Bool.false_eq_true, if_false]
  refine wpAny_bind (wpAny_holding (wpAny_callSpecial?_slot (name := Str.ofString "__init__") (T := "UnicodeDecodeError") ⟨_, Heap.get?_push_size _ rfl, rfl⟩ ude_initSlot
    (ude_init ⟨_, Heap.get?_push_size _ rfl, rfl, rfl⟩ h0 h1 h2 h3 fun h' t2 n1 n2 k r => ?_)))
  dsimp only
  rw [if_neg (by simp)]
  refine wpAny_pure (h _ _ t2 (Heap.get?_none_of_le (by simp)) (fun b o hb => k b o ?_ (Heap.get?_push_of_some _ (Heap.get?_push_of_some _ hb))) r)
  exact Nat.ne_of_lt (Nat.lt_of_lt_of_le (Heap.lt_size hb) (by simp))
end
end
end
end Mine

namespace Mine
section
section
open Builtin Builtin.UnicodeEncodeError
theorem slot_md_get : Slot "member_descriptor" "__get__" "member_descriptor.__get__" :=
  .of (owner := "member_descriptor") (n := "__get__") (by rw [typeLookup_type, builtinLookup_eq_fast]; kernel_rfl) (by decide +kernel) (by decide +kernel) (by decide +kernel)
    (by first | exact .inl (by decide +kernel) | exact .inr (by decide +kernel)) (by rw [isSubtype_type]; kernel_rfl)
theorem slot_md_set : Slot "member_descriptor" "__set__" "member_descriptor.__set__" :=
  .of (owner := "member_descriptor") (n := "__set__") (by rw [typeLookup_type, builtinLookup_eq_fast]; kernel_rfl) (by decide +kernel) (by decide +kernel) (by decide +kernel)
    (by first | exact .inl (by decide +kernel) | exact .inr (by decide +kernel)) (by rw [isSubtype_type]; kernel_rfl)
theorem entry_md_get : entryFor table "member_descriptor.__get__" = some Builtin.«member_descriptor.__get__» := entryFor_of_tree (by kernel_rfl)
theorem args_md_get (a b c : Value) : argsOk "member_descriptor.__get__" ⟨[a, b, c], []⟩ := by unfold argsOk; kernel_rfl
theorem ude_ga : Slot "UnicodeDecodeError" "__getattribute__" "BaseException.__getattribute__" := .of (owner := "BaseException") (n := "__getattribute__") (by rw [typeLookup_type, builtinLookup_eq_fast]; kernel_rfl) (by decide +kernel) (by decide +kernel) (by decide +kernel)
    (by first | exact .inl (by decide +kernel) | exact .inr (by decide +kernel)) (by rw [isSubtype_type]; kernel_rfl)
structure UdeAttr (nm : PySem.Str) (id : String) (B : Builtin) : Prop where
  lk : typeLookup (.type "UnicodeDecodeError") nm = pure (some (.builtin id))
  ty : typeOf (.builtin id) = pure (.type "member_descriptor")
  entry : entryFor table id = some B
  owner : (".".intercalate (id.cutAt '.').dropLast) = "UnicodeDecodeError"
  quiet : id.startsWith "lifetime." = false
theorem attr_start : UdeAttr "start" "UnicodeDecodeError.start" Builtin.«UnicodeDecodeError.start» where
  lk := by rw [typeLookup_type, builtinLookup_eq_fast]; kernel_rfl
  ty := by kernel_rfl
  entry := entryFor_of_tree (by kernel_rfl)
  owner := by
    have e0 : "UnicodeDecodeError.start".cutAt '.' = ["UnicodeDecodeError", "start"] := by first | rfl | decide +kernel
    rw [e0]; decide +kernel
  quiet := by decide +kernel
theorem attr_end : UdeAttr "end" "UnicodeDecodeError.end" Builtin.«UnicodeDecodeError.end» where
  lk := by rw [typeLookup_type, builtinLookup_eq_fast]; kernel_rfl
  ty := by kernel_rfl
  entry := entryFor_of_tree (by kernel_rfl)
  owner := by
    have e0 : "UnicodeDecodeError.end".cutAt '.' = ["UnicodeDecodeError", "end"] := by first | rfl | decide +kernel
    rw [e0]; decide +kernel
  quiet := by decide +kernel
theorem attr_reason : UdeAttr "reason" "UnicodeDecodeError.reason" Builtin.«UnicodeDecodeError.reason» where
  lk := by rw [typeLookup_type, builtinLookup_eq_fast]; kernel_rfl
  ty := by kernel_rfl
  entry := entryFor_of_tree (by kernel_rfl)
  owner := by
    have e0 : "UnicodeDecodeError.reason".cutAt '.' = ["UnicodeDecodeError", "reason"] := by first | rfl | decide +kernel
    rw [e0]; decide +kernel
  quiet := by decide +kernel
section
variable {prog : Program} {w : World} {A : Around} {E : Value → Shared → Prop} {h : Heap} {g : Array GenState} {d : Drawn} {t t' : Nat} {os : OsState} {a : Addr} {nm : PySem.Str} {id : String} {B : Builtin} {v : Value}
theorem ude_get {R : Result → Shared → Prop} (FX : UdeAttr nm id B) (hT : (⟨h, g, d, t, os⟩ : Shared).TypeIs (.ref a) "UnicodeDecodeError") (hB : ∀ (A' : Around) (Q' : Fin → Shared → Prop) (E' : Value → Shared → Prop), Q' (.done (.ret v)) ⟨h, g, d, t', os⟩ → wpAny (model prog w) A' (B ⟨[.ref a], []⟩) Q' E' ⟨h, g, d, t, os⟩) (hq : R (.ok (.ret v)) ⟨h, g, d, t', os⟩) :
    codeAny (model prog w) A (.call (.builtin "member_descriptor.__get__") ⟨[.builtin id, .ref a, .type "UnicodeDecodeError"], []⟩) R ⟨h, g, d, t, os⟩ := by
  have hT5 : (⟨h, g, d, t, os⟩ : Shared).TypeIs (.builtin id) "member_descriptor" := FX.ty
  have f8 : isSubtype (.type "UnicodeDecodeError") (.type (".".intercalate (id.cutAt '.').dropLast)) = pure true := by rw [FX.owner]; exact ude_self
  refine codeAny_call_builtin slot_md_get.plain entry_md_get (slot_md_get.check _ _ _ _ _ _ _ _ hT5 (args_md_get _ _ _) ?_)
  repeat (any_goals (first | assumption | wp_step))
  refine ⟨Code.quiet_builtin _ FX.quiet, codeAny_builtin FX.entry (hB _ _ _ hq)⟩
theorem ude_entry {tk : Tok} {Q : Fin → Shared → Prop} (FX : UdeAttr nm id B) (hT : (⟨h, g, d, t, os⟩ : Shared).TypeIs (.ref a) "UnicodeDecodeError") (hB : ∀ (A' : Around) (Q' : Fin → Shared → Prop) (E' : Value → Shared → Prop), Q' (.done (.ret v)) ⟨h, g, d, t', os⟩ → wpAny (model prog w) A' (B ⟨[.ref a], []⟩) Q' E' ⟨h, g, d, t, os⟩) (hq : Q (.done (.ret v)) ⟨h, g, d, t', os⟩) :
    wpAny (model prog w) A (Builtin.«object.__getattribute__» ⟨[.ref a, .str nm tk], []⟩) Q E ⟨h, g, d, t, os⟩ := by
  have hT5 : (⟨h, g, d, t, os⟩ : Shared).TypeIs (.builtin id) "member_descriptor" := FX.ty
  have f4 := FX.lk
  have f5 := FX.ty
  have f6 := slot_md_get.lookup
  have f7 := slot_md_set.lookup
  repeat (any_goals (first | assumption | wp_step))
  refine ude_get FX hT hB ?_
  repeat (any_goals (first | assumption | wp_step))
theorem ude_by {tk : Tok} {fill expr : Bool} {Q : Value → Shared → Prop} (FX : UdeAttr nm id B) (hT : (⟨h, g, d, t, os⟩ : Shared).TypeIs (.ref a) "UnicodeDecodeError") (hB : ∀ (A' : Around) (Q' : Fin → Shared → Prop) (E' : Value → Shared → Prop), Q' (.done (.ret v)) ⟨h, g, d, t', os⟩ → wpAny (model prog w) A' (B ⟨[.ref a], []⟩) Q' E' ⟨h, g, d, t, os⟩)
    (hv : (∃ i u, v = .int i u) ∨ ∃ x u, v = .str x u) (hq : Q v ⟨h, g, d, t', os⟩) : wpAny (model prog w) A (getAttrBy (.ref a) (.str nm tk) fill expr) Q E ⟨h, g, d, t, os⟩ := by
  have f2 := ude_ga.lookup
  have f3 := ude_ga.bind (.ref a)
  have hx0 : (expr && onTheHeap (Value.builtin "BaseException.__getattribute__")) = false := by cases expr <;> rfl
  repeat (any_goals (first | assumption | wp_step))
  refine codeAny_call_builtin ude_ga.plain F.entry_bexc_ga (ude_ga.check _ _ _ _ _ _ _ _ hT (F.args_bexc_ga _ _) (ude_entry FX hT hB ?_))
  repeat (any_goals (first | assumption | wp_step))
  rcases hv with ⟨i, u, rfl⟩ | ⟨x, u, rfl⟩ <;> exact wpAny_pure hq
theorem ude_attr {expr : Bool} {Q : Value → Shared → Prop} {t0 : Nat} (FX : UdeAttr nm id B) (hT : (⟨h, g, d, t0 + 1, os⟩ : Shared).TypeIs (.ref a) "UnicodeDecodeError") (hB : ∀ (A' : Around) (Q' : Fin → Shared → Prop) (E' : Value → Shared → Prop), Q' (.done (.ret v)) ⟨h, g, d, t', os⟩ → wpAny (model prog w) A' (B ⟨[.ref a], []⟩) Q' E' ⟨h, g, d, t0 + 1, os⟩)
    (hv : (∃ i u, v = .int i u) ∨ ∃ x u, v = .str x u) (hq : Q v ⟨h, g, d, t', os⟩) (hnm : nm.length ≤ sizeLine) : wpAny (model prog w) A (getAttr (.ref a) nm expr) Q E ⟨h, g, d, t0, os⟩ := by
  unfold getAttr
  repeat (any_goals (first | assumption | with_reducible apply ude_by FX hT hB hv | wp_step))
theorem run_size {id : String} {get : Members → Int} {p : Array Value} {m : Members} (hp : 6 ≤ p.size) (hx : RecAt h a UDE (recOf p m)) (A' : Around) (Q' : Fin → Shared → Prop) (E' : Value → Shared → Prop) (hq : Q' (.done (.ret (.int (get m) t))) ⟨h, g, d, t + 1, os⟩) :
    wpAny (model prog w) A' (sizeGet id get ⟨[.ref a], []⟩) Q' E' ⟨h, g, d, t, os⟩ := by
  unfold sizeGet
  dsimp only
  exact wpAny_bind (get_mem hx hp (wpAny_bind (wpAny_mkInt (wpAny_pure hq))))
theorem run_object {id : String} {get : Members → Value} {p : Array Value} {m : Members} (hp : 6 ≤ p.size) (hx : RecAt h a UDE (recOf p m)) (hu : isUnset (get m) = false) (A' : Around) (Q' : Fin → Shared → Prop) (E' : Value → Shared → Prop) (hq : Q' (.done (.ret (get m))) ⟨h, g, d, t, os⟩) :
    wpAny (model prog w) A' (objectGet id get ⟨[.ref a], []⟩) Q' E' ⟨h, g, d, t, os⟩ := by
  unfold objectGet
  dsimp only
  refine wpAny_bind (get_mem hx hp ?_)
  rw [hu]
  exact wpAny_pure hq
theorem start_attr {expr : Bool} {Q : Value → Shared → Prop} {p : Array Value} {m : Members} (hp : 6 ≤ p.size) (hx : RecAt h a UDE (recOf p m)) (hq : Q (.int m.start (t + 1)) ⟨h, g, d, t + 1 + 1, os⟩) : wpAny (model prog w) A (getAttr (.ref a) "start" expr) Q E ⟨h, g, d, t, os⟩ :=
  ude_attr attr_start (by obtain ⟨ob, ho, hc, _⟩ := hx; exact ⟨ob, ho, hc⟩) (fun A' Q' E' q => run_size hp hx A' Q' E' q) (.inl ⟨_, _, rfl⟩) hq (by decide)
theorem end_attr {expr : Bool} {Q : Value → Shared → Prop} {p : Array Value} {m : Members} (hp : 6 ≤ p.size) (hx : RecAt h a UDE (recOf p m)) (hq : Q (.int m.stop (t + 1)) ⟨h, g, d, t + 1 + 1, os⟩) : wpAny (model prog w) A (getAttr (.ref a) "end" expr) Q E ⟨h, g, d, t, os⟩ :=
  ude_attr attr_end (by obtain ⟨ob, ho, hc, _⟩ := hx; exact ⟨ob, ho, hc⟩) (fun A' Q' E' q => run_size hp hx A' Q' E' q) (.inl ⟨_, _, rfl⟩) hq (by decide)
theorem reason_attr {expr : Bool} {Q : Value → Shared → Prop} {p : Array Value} {m : Members} (hp : 6 ≤ p.size) (hx : RecAt h a UDE (recOf p m)) {re : PySem.Str} {tr : Tok} (hr : m.reason = .str re tr) (hq : Q (.str re tr) ⟨h, g, d, t + 1, os⟩) : wpAny (model prog w) A (getAttr (.ref a) "reason" expr) Q E ⟨h, g, d, t, os⟩ :=
  ude_attr attr_reason (by obtain ⟨ob, ho, hc, _⟩ := hx; exact ⟨ob, ho, hc⟩) (fun A' Q' E' q => run_object hp hx (by rw [hr]; rfl) A' Q' E' q) (.inr ⟨_, _, hr⟩) (hr ▸ hq) (by decide)
end
end
end
end Mine

namespace Mine
section
section
variable {M : Model} {A : Around} {E : Value → Shared → Prop} {s s' : Shared} {P : Array Value → Prop}
/-- the flight is set to a frame, or off -/
theorem flight_setP {base : Heap} {e : Addr} {cls fl : Value} {fr : Option Addr} {Q : Unit → Shared → Prop} (ht : TrP P s.heap base e cls fl)
    (h : ∀ h', (∀ b o, base.get? b = some o → s.heap.get? b = some o → h'.get? b = some o) → (∀ b o, s.heap.get? b = some o → (∀ vs, o.data ≠ .fields vs) → h'.get? b = some o) → TrP P h' base e cls (fr.elim Value.none fun f => rawInt f) → Q () { s with heap := h' }) : wpAny M A (setFlight (.ref e) fr) Q E s := by
  obtain ⟨oe, vs, T, oT, ts, he, hcls, hp, hd, h1, hnT, hTe, hT, hdT, h3⟩ := ht
  have hsz3 : 3 < ts.size := (Array.getElem?_eq_some_iff.mp h3).1
  have other : ∀ b, b ≠ T → (s.heap.update T (Obj.mapFields (·.setIfInBounds 3 (fr.elim Value.none fun f => rawInt f)))).get? b = s.heap.get? b :=
    fun b hb => Heap.get?_update_other _ _ (Ne.symm hb)
  unfold setFlight
  refine wpAny_bind (wpAny_field he hd h1 ?_)
  rw [if_pos (show (Value.ref T != Value.none) = true from by simp)]
  refine wpAny_setField hT hdT hsz3 (h _ (fun b o hbo hb => (other b fun q => by rw [q, hnT] at hbo; cases hbo).trans hb) (fun b o hb hnf => (other b fun q => by rw [q, hT] at hb; cases hb; exact hnf _ hdT).trans hb) ?_)
  exact ⟨oe, vs, T, _, _, (other e (Ne.symm hTe)).trans he, hcls, hp, hd, h1, hnT, hTe, Heap.get?_update_self _ hT (Obj.isFreed_of_fields (Obj.data_mapFields hdT _)), Obj.data_mapFields hdT _, by simp [hsz3]⟩
theorem TrP.move {h h' base : Heap} {e : Addr} {cls fl : Value} (k : ∀ b o vs, h.get? b = some o → o.data = .fields vs → h'.get? b = some o) (x : TrP P h base e cls fl) : TrP P h' base e cls fl := by
  obtain ⟨oe, vs, T, oT, ts, he, hcls, hp, hd, h1, hnT, hTe, hT, hdT, h3⟩ := x
  exact ⟨oe, vs, T, oT, ts, k _ _ _ he hd, hcls, hp, hd, h1, hnT, hTe, k _ _ _ hT hdT, hdT, h3⟩
theorem FunFrames.move {h h' base : Heap} : ∀ {l : List Env}, (∀ b ∈ l.filterMap (·.frame), ∃ o, h'.get? b = some o ∧ ∀ vs, o.data ≠ .fields vs) → h.FunFrames base l → h'.FunFrames base l
  | [], _, _ => trivial
  | env :: l, k, ⟨hk, ⟨L, o, hf, hn, ho, hd⟩, hr⟩ => by
    rw [List.filterMap_cons, hf] at k
    obtain ⟨o', ho', hd'⟩ := k L (.head _)
    exact ⟨hk, ⟨L, o', hf, hn, ho', hd'⟩, FunFrames.move (fun b hb => k b (.tail _ hb)) hr⟩
theorem leaving_marked {base : Heap} {env : Env} {L e : Addr} {cls : Value} {Q : Unit → Shared → Prop} (hf : env.frame = some L) (ht : TrP P s.heap base e cls (rawInt L))
    (h : ∀ h', (∀ b o, base.get? b = some o → s.heap.get? b = some o → h'.get? b = some o) → (∀ b o, s.heap.get? b = some o → (∀ vs, o.data ≠ .fields vs) → h'.get? b = some o) → TrP P h' base e cls .none → Q () { s with heap := h' }) : wpAny M A (leaving env (.ref e)) Q E s := by
  have ht' := ht
  obtain ⟨oe, vs, T, oT, ts, he, hcls, hp, hd, h1, hnT, hTe, hT, hdT, h3⟩ := ht'
  unfold leaving
  exact wpAny_bind (wpAny_noteFrame_inFlight hf he hd h1 hT hdT h3 (flight_setP (fr := none) ht h))
variable {base g : Heap} {outer : List Env} {env : Env} {L e : Addr} {m : Str → Option Value} {news news' : List (Addr × Obj)} {cx : Bool} {n : Str} {pos : Pos} {hx : Option Value}
/-- an exception made in a suite «except .. as n» leaves the suite and the frame -/
theorem leave_suiteP {oe : Obj} {vs : Array Value} {Qe Ee : Value → Shared → Prop} (hP : Bears P) (K : Below A base outer g) (F : Fr g L s'.heap m) (N : News g L s'.heap news) (hf : env.frame = some L) (hloc : env.locals = L) (hk : env.scope.kind = .function) (hlo : env.kindOf n = some .local)
    (he : (e, oe) ∈ news) (hd : oe.data = .fields vs) (h1 : vs[1]? = some .none) (hp : P vs) (hcx : cx = true → ∃ x, vs[2]? = some x ∧ CtxN news x) (h2 : cx = true → vs[2]? ≠ some (.ref e)) (hn : ∀ q ∈ news', q ∈ news ∧ q.1 ≠ e)
    (hQ : ∀ h' tk, RaisedP P cx base g outer e oe.cls news' h' → g.UpToSlots h' → Qe (.ref e) { s' with heap := h', toks := tk }) :
    AsSuiteRaised M ((A.deeper env).mark hx) env n pos (notedBy M ((A.deeper env).mark hx) env (cameBackBy M (A.deeper env) env (fun x s => wpAny M (A.deeper env) (leaving env x) (fun _ s'' => Qe x s'') Ee s))) (.ref e) s' := by
  obtain ⟨B, b1, b2, b3, b4, b5, b6, b7, b8, b9⟩ := raise_ground (cx := cx) hP K F N hf hk he hd hcx h2 hn
  have hfr : ((A.deeper env).mark hx).frames = some (env :: outer) := Around.frames_deeper (env := env) K.stack
  show wpAny M _ (noteFrame (.ref e) env) _ _ s'
  refine note_firstP (bears_ctx (cx := cx) (G := g) (B := B) hP) hfr b6 hf (N _ he).1 b4 b5 hd h1 ⟨hp, b7⟩ fun h₁ N₁ => ?_
  obtain ⟨n1, n2, n3, n4⟩ := N₁
  have up₁ : g.UpToSlots h₁ := (Heap.UpToSlots.of_keeps F.keep).trans n4
  have ns₁ : h₁.Ns env.locals m := by rw [hloc]; exact n4.ns F.ns
  refine wpAny_nameGoes hlo ns₁ (by rw [hk]; rfl) fun h₂ m₂ ns₂ sb => ?_
  rw [hloc] at sb ns₂ ns₁
  obtain ⟨oL, es, ep, hL₂, hLd₂, _⟩ := ns₂
  obtain ⟨oL₁, es₁, ep₁, hL₁, hLd₁, _⟩ := ns₁
  have keepF : ∀ b o vs, h₁.get? b = some o → o.data = .fields vs → h₂.get? b = some o := fun b o vs q hv => (sb.2 b fun z => by
    rw [z, hL₁] at q; cases q; rw [hLd₁] at hv; cases hv).trans q
  have tr₂ := n3.move keepF
  have B₂ : B.StaysIn h₂ := fun b o q => (sb.2 b fun z => by rw [z, b8] at q; cases q).trans (n1 b o q)
  have ff₂ : h₂.FunFrames B (env :: outer) := FunFrames.move (fun b hb => by
    by_cases z : b = L
    · subst z; exact ⟨oL, hL₂, fun vs q => by rw [hLd₂] at q; cases q⟩
    · obtain ⟨_, o, ho, hnf⟩ := n2.mem hb
      exact ⟨o, (sb.2 b z).trans ho, hnf⟩) n2
  have up₂ : g.UpToSlots h₂ := fun b o q hnf => by
    obtain ⟨sl, hs⟩ := up₁ b o q hnf
    exact ⟨sl, (sb.2 b fun z => by rw [z, kts_self F] at q; cases q).trans hs⟩
  unfold PySem.passOn
  have tr₂' := tr₂
  obtain ⟨oe', vs', T, oT, ts, he', hc', hp', hd', h1', _⟩ := tr₂'
  refine wpAny_bind (wpAny_field he' hd' h1' ?_)
  rw [if_neg (show ¬ ((Value.ref T == Value.none) = true) from by simp)]
  have step : wpAny M ((A.deeper env).mark hx) (setFlight (.ref e) env.frame) (fun _ s₃ => (notedBy M ((A.deeper env).mark hx) env (cameBackBy M (A.deeper env) env (fun x s => wpAny M (A.deeper env) (leaving env x) (fun _ s'' => Qe x s'') Ee s))) (.ref e) s₃)
      (notedBy M ((A.deeper env).mark hx) env (cameBackBy M (A.deeper env) env (fun x s => wpAny M (A.deeper env) (leaving env x) (fun _ s'' => Qe x s'') Ee s))) { s' with heap := h₂, toks := s'.toks + 1 } := by
    refine flight_setP tr₂ fun h₃ k1 k2 tr₃ => ?_
    rw [hf] at tr₃
    refine PassesOwnAt.leaving (Q₁ := Qe) (E₁ := Ee) _ _ ?_
    refine leaving_marked hf tr₃ fun h₄ k3 k4 tr₄ => ?_
    have st : ∀ b o, h₂.get? b = some o → (∀ vs, o.data ≠ .fields vs) → h₄.get? b = some o := fun b o q hnf => k4 b o (k2 b o q hnf) hnf
    exact hQ h₄ _ ⟨B, b1, b2, b3, fun b o q => k3 b o q (k1 b o q (B₂ b o q)), b5, (FunFrames.move (fun b hb => by
      obtain ⟨_, o, ho, hnf⟩ := ff₂.mem hb
      exact ⟨o, st b o ho hnf, hnf⟩) ff₂).2.2, tr₄⟩ fun b o q hnf => by
        obtain ⟨sl, hs⟩ := up₂ b o q hnf
        exact ⟨sl, st _ _ hs hnf⟩
  first
    | exact wpAny_bind (wpAny_pure (wpAny_bind (wpAny_mono step (fun _ _ q => wpAny_throw q) fun _ _ q => q)))
    | exact wpAny_bind (wpAny_mono step (fun _ _ q => wpAny_throw q) fun _ _ q => q)
end
section
variable {prog : Program} {w : World} {A : Around} {E : Value → Shared → Prop} {s : Shared} {env : Env}
theorem entry_unchain : entryFor table "proto.unchain" = some Builtin.«proto.unchain» := entryFor_of_tree (by kernel_rfl)
def ThrowsU (prog : Program) (w : World) (A : Around) (Q : Flow → Shared → Prop) (E : Value → Shared → Prop) (v : Value) (s₁ : Shared) : Prop :=
  ∃ a ob vs, v = .ref a ∧ s₁.heap.get? a = some ob ∧ ob.cls = .type "UnicodeDecodeError" ∧ ob.data = .fields vs ∧ vs[1]? = some .none ∧ wpAny (model prog w) A (raiseNew (.ref a) : Sem Flow) Q E s₁
theorem Raise_ude {e : Expr} {pos : Pos} {Q : Flow → Shared → Prop} (h : wpAny (model prog w) A (eval e env) (ThrowsU prog w A Q E) E s) : wpAny (model prog w) A (exec (.Raise (some e) none pos) env) Q E s := by
  show wpAny _ A (do standAt pos; raiseStmt env (some (do let v ← eval e env; standAt pos; pure v)) none) Q E s
  refine wpAny_bind (wpAny_standAt ?_)
  unfold raiseStmt
  dsimp only
  refine wpAny_bind (wpAny_bind (wpAny_mono h (fun v s₁ h₁ => wpAny_bind (wpAny_standAt (wpAny_pure ?_))) fun _ _ x => x))
  obtain ⟨a, ob, vs, rfl, ha, hcls, hd, h1, hE⟩ := h₁
  have hT : s₁.TypeIs (.ref a) "UnicodeDecodeError" := ⟨ob, ha, hcls⟩
  have hnt : ∀ {Q' : Bool → Shared → Prop}, Q' false s₁ → wpAny (model prog w) A (isType (.ref a)) Q' E s₁ := by
    intro Q' hq
    simp only [isType, loadHead]
    refine wpAny_bind (wpAny_loadPart ha ?_)
    rw [hd]; exact wpAny_pure hq
  refine wpAny_bind (wpAny_pure ?_)
  dsimp only
  refine wpAny_bind (wpAny_holding ?_)
  unfold excFromValue isExcClass
  refine wpAny_bind (wpAny_bind (hnt ?_))
  simp only [Bool.false_eq_true, if_false]
  refine wpAny_pure ?_
  simp only [Bool.false_eq_true, if_false]
  refine wpAny_bind (wpAny_isInstance hT ude_base ?_)
  simp only [if_true]
  refine wpAny_pure ?_
  refine wpAny_bind (hnt ?_)
  simp only [Bool.false_eq_true, if_false]
  unfold raisedInstance
  refine wpAny_bind (wpAny_bind (wpAny_typeOf hT (wpAny_bind (m := typeOf (.type "UnicodeDecodeError")) (wpAny_pure ?_))))
  rw [if_pos (by decide +kernel)]
  refine wpAny_pure ?_
  unfold setFlight
  refine wpAny_bind (wpAny_bind (wpAny_field ha hd h1 ?_))
  rw [if_neg (by decide)]
  exact wpAny_pure hE
/-- raise .. from None -/
theorem Raise_udeN {e : Expr} {pos kp : Pos} {ki : Nat} {Q : Flow → Shared → Prop} (h : wpAny (model prog w) A (eval e env) (fun v s₁ => ∃ a ob vs, v = .ref a ∧ s₁.heap.get? a = some ob ∧ ob.cls = .type "UnicodeDecodeError" ∧ ob.data = .fields vs ∧ vs[1]? = some .none ∧ 5 ≤ vs.size ∧
      ∀ h', Heap.SameBut a s₁.heap h' → (∃ ob', h'.get? a = some ob' ∧ ob'.cls = .type "UnicodeDecodeError" ∧ ob'.data = .fields ((vs.setIfInBounds 3 .none).setIfInBounds 4 (.bool true))) → wpAny (model prog w) A (raiseNew (.ref a) : Sem Flow) Q E { s₁ with heap := h' }) E s) :
    wpAny (model prog w) A (exec (.Raise (some e) (some (.Constant .none ki kp)) pos) env) Q E s := by
  show wpAny _ A (do standAt pos; raiseStmt env (some (do let v ← eval e env; standAt pos; pure v)) (some (do let v ← eval (.Constant .none ki kp) env; standAt pos; pure v))) Q E s
  refine wpAny_bind (wpAny_standAt ?_)
  unfold raiseStmt
  dsimp only
  refine wpAny_bind (wpAny_bind (wpAny_mono h (fun v s₁ h₁ => wpAny_bind (wpAny_standAt (wpAny_pure ?_))) fun _ _ x => x))
  obtain ⟨a, ob, vs, rfl, ha, hcls, hd, h1, h5, hE⟩ := h₁
  have hT : s₁.TypeIs (.ref a) "UnicodeDecodeError" := ⟨ob, ha, hcls⟩
  have hnt : ∀ {Q' : Bool → Shared → Prop}, Q' false s₁ → wpAny (model prog w) A (isType (.ref a)) Q' E s₁ := by
    intro Q' hq
    simp only [isType, loadHead]
    refine wpAny_bind (wpAny_loadPart ha ?_)
    rw [hd]; exact wpAny_pure hq
  refine wpAny_bind (wpAny_holding (wpAny_bind (m := eval (.Constant .none ki kp) env) (wpAny_pure (wpAny_bind (wpAny_standAt (wpAny_pure ?_))))))
  refine wpAny_bind (wpAny_pure ?_)
  refine wpAny_bind (wpAny_holding ?_)
  unfold excFromValue isExcClass
  refine wpAny_bind (wpAny_bind (hnt ?_))
  simp only [Bool.false_eq_true, if_false]
  refine wpAny_pure ?_
  simp only [Bool.false_eq_true, if_false]
  refine wpAny_bind (wpAny_isInstance hT ude_base ?_)
  simp only [if_true]
  refine wpAny_pure ?_
  rw [if_pos (by decide)]
  refine wpAny_bind (wpAny_pure ?_)
  refine wpAny_bind (wpAny_setField ha hd (by omega) ?_)
  have hd2 := Obj.data_mapFields hd (·.setIfInBounds 3 Value.none)
  have ha2 := Heap.get?_update_self (Obj.mapFields (·.setIfInBounds 3 Value.none)) ha (Obj.isFreed_of_fields hd2)
  refine wpAny_bind (wpAny_setField ha2 hd2 (by simp; omega) ?_)
  have hd3 := Obj.data_mapFields hd2 (·.setIfInBounds 4 (Value.bool true))
  have ha3 := Heap.get?_update_self (Obj.mapFields (·.setIfInBounds 4 (Value.bool true))) ha2 (Obj.isFreed_of_fields hd3)
  have hc3 : (Obj.mapFields (·.setIfInBounds 4 (Value.bool true)) (Obj.mapFields (·.setIfInBounds 3 Value.none) ob)).cls = .type "UnicodeDecodeError" := by rw [Obj.cls_mapFields, Obj.cls_mapFields]; exact hcls
  have hT' : (Shared.mk ((s₁.heap.update a (Obj.mapFields (·.setIfInBounds 3 Value.none))).update a (Obj.mapFields (·.setIfInBounds 4 (Value.bool true)))) s₁.gens s₁.drawn s₁.toks s₁.os).TypeIs (.ref a) "UnicodeDecodeError" := ⟨_, ha3, hc3⟩
  have hnt' : ∀ {Q' : Bool → Shared → Prop}, Q' false (Shared.mk ((s₁.heap.update a (Obj.mapFields (·.setIfInBounds 3 Value.none))).update a (Obj.mapFields (·.setIfInBounds 4 (Value.bool true)))) s₁.gens s₁.drawn s₁.toks s₁.os) → wpAny (model prog w) A (isType (.ref a)) Q' E (Shared.mk ((s₁.heap.update a (Obj.mapFields (·.setIfInBounds 3 Value.none))).update a (Obj.mapFields (·.setIfInBounds 4 (Value.bool true)))) s₁.gens s₁.drawn s₁.toks s₁.os) := by
    intro Q' hq
    simp only [isType, loadHead]
    refine wpAny_bind (wpAny_loadPart ha3 ?_)
    rw [hd3]; exact wpAny_pure hq
  have h1' : ((vs.setIfInBounds 3 .none).setIfInBounds 4 (.bool true))[1]? = some Value.none := by
    rw [Array.getElem?_setIfInBounds_ne (by decide), Array.getElem?_setIfInBounds_ne (by decide)]; exact h1
  refine wpAny_bind (hnt' ?_)
  simp only [Bool.false_eq_true, if_false]
  unfold raisedInstance
  refine wpAny_bind (wpAny_bind (wpAny_typeOf hT' (wpAny_bind (m := typeOf (.type "UnicodeDecodeError")) (wpAny_pure ?_))))
  rw [if_pos (by decide +kernel)]
  refine wpAny_pure ?_
  unfold setFlight
  refine wpAny_bind (wpAny_bind (wpAny_field ha3 hd3 h1' ?_))
  rw [if_neg (by decide)]
  exact wpAny_pure (hE _ ((Heap.SameBut.update ..).trans (Heap.SameBut.update ..)) ⟨_, ha3, hc3, hd3⟩)
/-- what the raise finds under way -/
theorem raise_calm {a : Addr} {Q : Flow → Shared → Prop} (hh : A.handled = none) (hE : E (.ref a) s) : wpAny (model prog w) A (raiseNew (.ref a) : Sem Flow) Q E s := by
  unfold raiseNew
  refine wpAny_bind (wpAny_handled ?_)
  rw [hh]
  first
    | exact wpAny_throw hE
    | exact wpAny_bind (wpAny_pure (wpAny_throw hE))
theorem unchain_end {a o sl : Addr} {b : Bool} {R : Result → Shared → Prop} {oo : Obj} {vs : Array Value} (ho : s.heap.get? o = some oo) (hd : oo.data = .fields vs) (h2 : vs[2]? = some .none) (h : R (.ok (.ret .none)) s) :
    codeAny (model prog w) A (.builtin "proto.unchain" ⟨[.ref a, .ref o, .ref sl, .bool b], []⟩) R s := by
  refine codeAny_builtin entry_unchain ?_
  unfold Builtin.«proto.unchain»
  dsimp only
  refine wpAny_bind (wpAny_field ho hd h2 ?_)
  exact wpAny_pure h
theorem unchain_two {a o c : Addr} {R : Result → Shared → Prop} {oo oc : Obj} {vs cs : Array Value} (ho : s.heap.get? o = some oo) (hd : oo.data = .fields vs) (h2 : vs[2]? = some (.ref c)) (hc : s.heap.get? c = some oc) (hcd : oc.data = .fields cs) (hc2 : cs[2]? = some .none) (hca : c ≠ a) (h : R (.ok (.ret .none)) s) :
    codeAny (model prog w) A (.builtin "proto.unchain" ⟨[.ref a, .ref o, .ref o, .bool false], []⟩) R s := by
  refine codeAny_builtin entry_unchain ?_
  unfold Builtin.«proto.unchain»
  dsimp only
  refine wpAny_bind (wpAny_field ho hd h2 ?_)
  rw [if_neg (show ¬ ((Value.ref c == Value.none) = true) from by simp), if_neg (show ¬ ((Value.ref c == Value.ref a) = true) from by simp [hca])]
  by_cases hco : c = o
  · subst hco
    rw [if_pos (by simp)]
    exact wpAny_bind (wpAny_rule (wpAny_pure h))
  · rw [if_neg (show ¬ ((Value.ref c == Value.ref o) = true) from by simp [hco])]
    first
      | exact wpAny_pure ⟨Code.quiet_builtin _ (by decide +kernel), unchain_end hc hcd hc2 h⟩
      | exact wpAny_bind (wpAny_pure (wpAny_pure ⟨Code.quiet_builtin _ (by decide +kernel), unchain_end hc hcd hc2 h⟩))
theorem raise_over {a o : Addr} {oa oo : Obj} {va vs : Array Value} {Q : Flow → Shared → Prop} (hh : A.handled = some (.ref o)) (hne : o ≠ a) (ha : s.heap.get? a = some oa) (had : oa.data = .fields va) (hsz : 2 < va.size)
    (ho : s.heap.get? o = some oo) (hd : oo.data = .fields vs) (h2 : vs[2]? = some .none ∨ ∃ c oc cs, vs[2]? = some (.ref c) ∧ s.heap.get? c = some oc ∧ oc.data = .fields cs ∧ cs[2]? = some .none ∧ c ≠ a)
    (hE : E (.ref a) { s with heap := s.heap.update a (Obj.mapFields (·.setIfInBounds 2 (.ref o))) }) : wpAny (model prog w) A (raiseNew (.ref a) : Sem Flow) Q E s := by
  unfold raiseNew
  refine wpAny_bind (wpAny_handled ?_)
  rw [hh]
  dsimp only
  rw [if_pos (show (Value.ref o != Value.ref a) = true from by simp [hne])]
  have fin : wpAny (model prog w) A (updateField a 2 (.ref o)) (fun _ s₂ => E (.ref a) s₂) E s := wpAny_setField (a := a) ha had hsz hE
  have run : codeAny (model prog w) A (.builtin "proto.unchain" ⟨[.ref a, .ref o, .ref o, .bool false], []⟩) (fun r s' => match r with | .ok (.ret _) => s' = s | .ok _ => False | .error _ => False) s := by
    rcases h2 with h2 | ⟨c, oc, cs, h2, hc, hcd, hc2, hca⟩
    · exact unchain_end ho hd h2 rfl
    · exact unchain_two ho hd h2 hc hcd hc2 hca rfl
  refine wpAny_bind (wpAny_holding (wpAny_runValue (codeAny_mono run fun r s' hr => ?_)))
  match r, hr with
  | .ok (.ret _), hr =>
    subst hr
    exact wpAny_bind (wpAny_mono fin (fun _ s₂ q => wpAny_throw q) fun _ _ q => q)
end
end
end Mine

namespace Mine
section
theorem rec_set {p : Array Value} {m : Builtin.UnicodeEncodeError.Members} {i : Nat} {x : Value} (hp : 6 ≤ p.size) (hi : i < 6) : (recOf p m).setIfInBounds i x = recOf (p.setIfInBounds i x) m := by
  have hz : (p.extract 0 6).size = 6 := by simp; omega
  have hz2 : ((p.setIfInBounds i x).extract 0 6).size = 6 := by simp; omega
  unfold recOf
  apply Array.ext_getElem?
  intro j
  rw [Array.getElem?_setIfInBounds]
  by_cases hj : j < 6
  · rw [Array.getElem?_append_left (by omega), Array.getElem?_append_left (by omega)]
    have hj1 : j < min 6 p.size := by omega
    by_cases h : i = j
    · subst h
      rw [if_pos rfl, if_pos (by rw [Array.size_append, hz]; omega)]
      simp [hj1]
    · rw [if_neg h]
      simp [Array.getElem?_extract, h]
  · rw [Array.getElem?_append_right (by omega), Array.getElem?_append_right (by omega), hz, hz2, if_neg (by omega)]
/-- a record of a UnicodeDecodeError that tells f -/
def UdeR (f : Int × Int × Str) (vs : Array Value) : Prop := ∃ p m tr, 6 ≤ p.size ∧ vs = recOf p m ∧ m.start = f.1 ∧ m.stop = f.2.1 ∧ m.reason = .str f.2.2 tr
theorem UdeR.set {f : Int × Int × Str} {vs : Array Value} {i : Nat} {x : Value} (h : UdeR f vs) (hi : i < 6) : UdeR f (vs.setIfInBounds i x) := by
  obtain ⟨p, m, tr, h1, rfl, h2⟩ := h
  exact ⟨p.setIfInBounds i x, m, tr, by simpa using h1, rec_set h1 hi, h2⟩
theorem UdeR.bears {f : Int × Int × Str} : Bears (UdeR f) := fun _ _ h => h.set (by decide)
theorem UdeR.made {t2 : Addr} {enc : Str} {t1 : Tok} {bs : Array UInt8} {tb : Tok} {i j : Int} {re : Str} {tr : Tok} : UdeR (i, j, re) (udeRec t2 enc t1 bs tb i j re tr) := ⟨#[.ref t2, .none, .none, .none, .bool false, .none], _, tr, Nat.le_refl 6, rfl, rfl, rfl, rfl⟩
theorem bears_and {c : Prop} {P : Array Value → Prop} (h : Bears P) : Bears (fun vs => c ∧ P vs) := fun vs x q => ⟨q.1, h vs x q.2⟩
section
variable {prog : Program} {w : World} {A : Around} {E : Value → Shared → Prop} {s : Shared} {h₀ g : Heap} {L : Addr} {m : Str → Option Value} {news rest : List (Addr × Obj)} {enc re : Str} {bs : Array UInt8} {i j : Int} {t1 tb ti tj tr : Tok}
theorem call_udeN {Q : Value → Shared → Prop} (F : Fr h₀ L s.heap m) (N : News h₀ L s.heap news) (h0 : -(2 ^ 63) ≤ i) (h1 : i < 2 ^ 63) (h2 : -(2 ^ 63) ≤ j) (h3 : j < 2 ^ 63)
    (h : ∀ h' e oe t2, Fr h₀ L h' m → News h₀ L h' ((e, oe) :: news) → (∀ q ∈ news, q.1 ≠ e) → oe.cls = UDE → oe.data = .fields (udeRec t2 enc t1 bs tb i j re tr) → Q (.ref e) { s with heap := h' }) :
    wpAny (model prog w) A (call (.type "UnicodeDecodeError") [.str enc t1, .bytes bs tb, .int i ti, .int j tj, .str re tr]) Q E s := by
  refine call_ude h0 h1 h2 h3 fun h' e t2 hn hk hr => ?_
  obtain ⟨oe, he, hc, hd⟩ := hr
  obtain ⟨oL, es, ep, hL, hLr⟩ := F.ns
  have ne : ∀ b o, s.heap.get? b = some o → b ≠ e := fun b o q z => by rw [z, hn] at q; cases q
  refine h h' e oe t2 ⟨⟨oL, es, ep, hk _ _ hL, hLr⟩, fun b o q => hk b o (F.keep b o q), F.above⟩ (fun q hq => ?_) (fun q hq => ne _ _ (N q hq).1) hc hd
  rcases List.mem_cons.mp hq with rfl | hq
  · exact ⟨he, fun z => ne _ _ hL z.symm, kts_none F.keep hn⟩
  · exact ⟨hk _ _ (N q hq).1, (N q hq).2⟩
/-- a change of one object of the ledger's head -/
theorem head_turns {e : Addr} {oe oe' : Obj} {h' : Heap} (F : Fr g L s.heap m) (N : News g L s.heap ((e, oe) :: rest)) (hne : ∀ q ∈ rest, q.1 ≠ e) (sb : Heap.SameBut e s.heap h') (ho : h'.get? e = some oe') : Fr g L h' m ∧ News g L h' ((e, oe') :: rest) := by
  have hE := N _ (.head _)
  refine ⟨⟨F.ns.sameBut sb (Ne.symm hE.2.1), fun b o q => (sb.2 b fun z => by rw [z, hE.2.2] at q; cases q).trans (F.keep b o q), F.above⟩, fun q hq => ?_⟩
  rcases List.mem_cons.mp hq with rfl | hq
  · exact ⟨ho, hE.2⟩
  · exact ⟨(sb.2 _ (hne q hq)).trans (N q (.tail _ hq)).1, (N q (.tail _ hq)).2⟩
theorem throw_over {e e2 : Addr} {oe oe2 : Obj} {vs va : Array Value} {Q : Flow → Shared → Prop} (hh : A.handled = some (.ref e)) (F : Fr g L s.heap m) (N : News g L s.heap ((e2, oe2) :: rest)) (he : (e, oe) ∈ rest) (hne : ∀ q ∈ rest, q.1 ≠ e2) (hd : oe.data = .fields vs)
    (hcx : ∃ x, vs[2]? = some x ∧ CtxN rest x) (ha : oe2.data = .fields va) (hsz : 2 < va.size)
    (k : ∀ h' oe', Fr g L h' m → News g L h' ((e2, oe') :: rest) → oe'.cls = oe2.cls → oe'.data = .fields (va.setIfInBounds 2 (.ref e)) → E (.ref e2) { s with heap := h' }) : wpAny (model prog w) A (raiseNew (.ref e2) : Sem Flow) Q E s := by
  have hE2 := N _ (.head _)
  have hd2 := Obj.data_mapFields ha (·.setIfInBounds 2 (Value.ref e))
  have hs2 := Heap.get?_update_self (Obj.mapFields (·.setIfInBounds 2 (Value.ref e))) hE2.1 (Obj.isFreed_of_fields hd2)
  obtain ⟨F', N'⟩ := head_turns F N hne (Heap.SameBut.update ..) hs2
  refine raise_over hh (hne _ he) hE2.1 ha hsz (N _ (.tail _ he)).1 hd ?_ (k _ _ F' N' (Obj.cls_mapFields _ _) hd2)
  obtain ⟨x, hx, rfl | ⟨c, oc, cs, rfl, hc, hcd, hc2⟩⟩ := hcx
  · exact .inl hx
  · exact .inr ⟨c, oc, cs, hx, (N _ (.tail _ hc)).1, hcd, hc2, hne _ hc⟩
end
section
variable {prog : Program} {w : World} {A₀ : Around} {E : Value → Shared → Prop} {s' : Shared} {base g h : Heap} {outer : List Env} {L a e : Addr} {m : Str → Option Value} {cn : Str} {cs : Scope} {ccd : Value} {cl : List (Str × Addr)}
  {b₀ : Stmt} {suite : List Stmt} {pos np : Pos} {hrest : List ExceptHandler} {Q : Flow → Shared → Prop} {news : List (Addr × Obj)} {KF : Frag}
  {p : Program} {loose : List Str} {mean : ExcName → Option Value} {mg mb : Str → Option Value} {x : Str} {X T' : String}
/-- an exception of the interpreter's own, raised and caught in one frame; its record stays known -/
theorem caught_idx (hx : Heap.NewExc h s'.heap e X) (F : Fr g L h m) (N : News g L h news) (K : Below A₀ base outer g) (XB : KF.In base) (TB : Top p loose mean mg mb base) (D : KtsDicts (outer.filterMap (·.frame)) g)
    (ex : nsIn KF mainGlobals x = some none) (hv : bootBuiltins x = some (.type T')) (hn' : x ≠ "__name__")
    (hexc : isSubtype (.type T') (.type "BaseException") = pure true) (hnt : isSubtype (.type ((Manifest.find? T').elim "type" fun y => y.metatype)) (.type "tuple") = pure false) (hsub : isSubtype (.type X) (.type T') = pure true)
    (k : ∀ h' g' oe vs, KtsTurn (outer.filterMap (·.frame)) g g' → Fr g' L h' m → oe.data = .fields vs → vs[2]? = some .none → News g' L h' ((e, oe) :: news) → (∀ q ∈ news, q.1 ≠ e) → Below A₀ base outer g' → KF.In g' → Top p loose mean mg mb g' → KtsDicts (outer.filterMap (·.frame)) g' →
      wpAny (model prog w) ((A₀.deeper (envX cn cs L a ccd cl)).mark (some (.ref e))) (execs (b₀ :: suite) (envX cn cs L a ccd cl)) Q E { s' with heap := h' })
    (hk : cs.kind = .function := by rfl) (hxk : (envX cn cs L a ccd cl).kindOf x = some .globalImplicit := by rfl) (hd : (x == ("__debug__" : Str)) = false := by decide)
    (hE : PassesOwnAt (model prog w) ((A₀.deeper (envX cn cs L a ccd cl)).mark (some (.ref e))) (A₀.deeper (envX cn cs L a ccd cl)) (envX cn cs L a ccd cl) E := by passes_own) :
    wpAny (model prog w) (A₀.deeper (envX cn cs L a ccd cl)) (noteFrame (.ref e) (envX cn cs L a ccd cl))
      (fun _ s₂ => wpAny (model prog w) (A₀.deeper (envX cn cs L a ccd cl)) (setFlight (.ref e) none) (fun _ s₃ =>
        wpAny (model prog w) (A₀.deeper (envX cn cs L a ccd cl)) (handleBy (.ref e) (envX cn cs L a ccd cl) (.ExceptHandler (some (.Name x np)) none (b₀ :: suite) pos :: hrest)) Q E s₃) E s₂) E s' := by
  obtain ⟨ob, tp, he, hcls, hdt⟩ := hx.there
  obtain ⟨oL, es, ep, hL, hLr⟩ := F.ns
  have ne : ∀ b o, h.get? b = some o → b ≠ e := fun b o q z => by rw [z, hx.new] at q; cases q
  have F' : Fr g L s'.heap m := ⟨⟨oL, es, ep, hx.keeps _ _ hL, hLr⟩, fun b o q => hx.keeps b o (F.keep b o q), F.above⟩
  have N' : News g L s'.heap ((e, ob) :: news) := fun q hq => by
    rcases List.mem_cons.mp hq with rfl | hq
    · exact ⟨he, fun z => ne _ _ hL z.symm, kts_none F.keep hx.new⟩
    · exact ⟨hx.keeps _ _ (N q hq).1, (N q hq).2⟩
  have hP : Bears (fun vs : Array Value => vs[2]? = some .none) := fun vs y q => by
    show (vs.setIfInBounds 1 y)[2]? = _
    rw [Array.getElem?_setIfInBounds_ne (by decide)]; exact q
  have nne : ∀ q ∈ news, q.1 ≠ e := fun q hq => ne _ _ (N q hq).1
  refine caught_hereP (P := fun vs => vs[2]? = some .none) (news' := news) hP K F' N' hk (.head _) hdt rfl rfl (fun q hq => ⟨.tail _ hq, nne q hq⟩) fun h₁ B R FG up => ?_
  refine handle_P hP (hcls ▸ R) FG K up XB TB D ex hv hn' hexc hnt hsub (fun h' g' oe vs rest T₁ F₁ _ d1 p1 _ N₁ sub _ K₁ X₁ P₁ D₁ => k h' g' oe vs T₁ F₁ d1 p1 (fun q hq => ?_) nne K₁ X₁ P₁ D₁) hk hxk hd hE
  rcases List.mem_cons.mp hq with rfl | hq
  · exact N₁ _ (.head _)
  · exact N₁ _ (.tail _ (sub q hq))
end
/-- a contract with an exceptional end, the raised UnicodeDecodeError's record known -/
def CtrE (prog : Program) (w : World) (K : Frag) (p : Program) (f : Addr) (dd uu : Nat) (vs : List Value) (news : List (Addr × Obj)) (R : List (Addr × Obj) → Value → Prop) (X : Array Value → Prop) (cx : Bool) : Prop :=
  ∀ (loose : List Str) (mean : ExcName → Option Value) (mg mb : Str → Option Value) (dp un : Nat) (gd : Option (List Code)) (cn : Str) (cs : Scope) (a : Addr) (ccd : Value) (cl : List (Str × Addr)) (outer : List Env) (A₀ : Around) (base h₀ : Heap) (L : Addr) (m : Str → Option Value) (s : Shared) (Q E : Value → Shared → Prop),
    Below A₀ base outer h₀ → Fr h₀ L s.heap m → K.In h₀ → News h₀ L s.heap news → Top p loose mean mg mb h₀ → cs.kind = .function → dp + dd < recursionLimit → un + 8 * uu < cLine →
    K.In base → Top p loose mean mg mb base → KtsDicts (outer.filterMap (·.frame)) h₀ →
    (∀ r tl h' tk', Fr h₀ L h' m → News h₀ L h' (tl ++ news) → (∀ q ∈ news, ∀ p ∈ tl, q.1 < p.1) → R tl r → Q r { s with heap := h', toks := tk' }) →
    (∀ e h' tk' G, RaisedP X cx base G (envX cn cs L a ccd cl :: outer) e UDE news h' → Fr h₀ L G m → G.UpToSlots h' → E (.ref e) { s with heap := h', toks := tk' }) →
      wpAny (model prog w) (ktrTop dp un gd cn cs L a ccd cl outer) (call (.ref f) vs) Q E s
theorem CtrE.ask {prog : Program} {w : World} {K : Frag} {p : Program} {f : Addr} {dd uu : Nat} {vs : List Value} {news : List (Addr × Obj)} {R : List (Addr × Obj) → Value → Prop} {X : Array Value → Prop} {cx : Bool}
    {loose : List Str} {mean : ExcName → Option Value} {mg mb : Str → Option Value} {dp un : Nat} {gd : Option (List Code)} {cn : Str} {cs : Scope} {a : Addr} {ccd : Value} {cl : List (Str × Addr)} {outer : List Env} {A₀ : Around} {base h₀ : Heap} {L : Addr} {m : Str → Option Value} {s : Shared} {Q E : Value → Shared → Prop}
    (C : CtrE prog w K p f dd uu vs news R X cx) (B : Below A₀ base outer h₀ := by k_asm) (F : Fr h₀ L s.heap m := by k_asm) (XI : K.In h₀ := by k_asm) (N : News h₀ L s.heap news := by k_asm) (T : Top p loose mean mg mb h₀ := by k_asm) (hk : cs.kind = .function := by first | exact rfl | assumption) (hd : dp + dd < recursionLimit := by ktr_room) (hu : un + 8 * uu < cLine := by ktr_units)
    (XB : K.In base := by assumption) (TB : Top p loose mean mg mb base := by assumption) (D : KtsDicts (outer.filterMap (·.frame)) h₀ := by first | assumption | exact ktsDicts_nil)
    (calm : ∀ r tl h' tk', Fr h₀ L h' m → News h₀ L h' (tl ++ news) → (∀ q ∈ news, ∀ p ∈ tl, q.1 < p.1) → R tl r → Q r { s with heap := h', toks := tk' })
    (raised : ∀ e h' tk' G, RaisedP X cx base G (envX cn cs L a ccd cl :: outer) e UDE news h' → Fr h₀ L G m → G.UpToSlots h' → E (.ref e) { s with heap := h', toks := tk' }) :
    wpAny (model prog w) (ktrTop dp un gd cn cs L a ccd cl outer) (call (.ref f) vs) Q E s := C _ _ _ _ _ _ _ _ _ _ _ _ _ _ _ _ _ _ _ _ _ B F XI N T hk hd hu XB TB D calm raised
theorem ude_size {t2 : Addr} {enc : Str} {t1 : Tok} {bs : Array UInt8} {tb : Tok} {i j : Int} {re : Str} {tr : Tok} : (udeRec t2 enc t1 bs tb i j re tr).size = 11 := rfl
theorem ude_at1 {t2 : Addr} {enc : Str} {t1 : Tok} {bs : Array UInt8} {tb : Tok} {i j : Int} {re : Str} {tr : Tok} : (udeRec t2 enc t1 bs tb i j re tr)[1]? = some .none := rfl
theorem ude_at2 {t2 : Addr} {enc : Str} {t1 : Tok} {bs : Array UInt8} {tb : Tok} {i j : Int} {re : Str} {tr : Tok} : (udeRec t2 enc t1 bs tb i j re tr)[2]? = some .none := rfl
section
variable {prog : Program} {w : World} {A : Around} {E : Value → Shared → Prop} {s : Shared} {base g : Heap} {outer : List Env} {env : Env} {L : Addr} {m : Str → Option Value} {news rest : List (Addr × Obj)} {enc re : Str} {bs : Array UInt8} {i j : Int} {t1 tb tr : Tok} {t2 e : Addr} {oe : Obj}
/-- raise of a made UnicodeDecodeError, no exception under way -/
theorem throws_calm {Q : Flow → Shared → Prop} (hh : A.handled = none) (N : News g L s.heap ((e, oe) :: news)) (hc : oe.cls = UDE) (hd : oe.data = .fields (udeRec t2 enc t1 bs tb i j re tr)) (hE : E (.ref e) s) : ThrowsU prog w A Q E (.ref e) s :=
  ⟨e, oe, _, rfl, (N _ (.head _)).1, hc, hd, ude_at1, raise_calm hh hE⟩
/-- a frame is left by a made UnicodeDecodeError that was raised with no exception under way -/
theorem leave_calm {P : Array Value → Prop} {Q : Unit → Shared → Prop} {M : Model} (hP : Bears P) (K : Below A base outer g) (F : Fr g L s.heap m) (N : News g L s.heap ((e, oe) :: news)) (hf : env.frame = some L) (hk : env.scope.kind = .function) (hne : ∀ q ∈ news, q.1 ≠ e) (hc : oe.cls = UDE) (hd : oe.data = .fields (udeRec t2 enc t1 bs tb i j re tr)) (hp : P (udeRec t2 enc t1 bs tb i j re tr))
    (hQ : ∀ h', RaisedP P true base g outer e UDE news h' → g.UpToSlots h' → Q () { s with heap := h' }) : wpAny M (A.deeper env) (leaving env (.ref e)) Q E s :=
  leave_newP (cx := true) hP K F N hf hk (.head _) hd ude_at1 hp (fun _ => ⟨_, ude_at2, .inl rfl⟩) (fun _ h => by rw [ude_at2] at h; cases h) (fun q hq => ⟨.tail _ hq, hne q hq⟩) (hc ▸ hQ)
/-- .. that was raised over another exception -/
theorem leave_over {P : Array Value → Prop} {Q : Unit → Shared → Prop} {M : Model} {x : Addr} {ox oe' : Obj} {vx : Array Value} (hP : Bears P) (K : Below A base outer g) (F : Fr g L s.heap m) (N : News g L s.heap ((e, oe') :: (x, ox) :: news)) (hf : env.frame = some L) (hk : env.scope.kind = .function) (hne : ∀ q ∈ (x, ox) :: news, q.1 ≠ e) (hc : oe'.cls = UDE)
    (hd : oe'.data = .fields ((udeRec t2 enc t1 bs tb i j re tr).setIfInBounds 2 (.ref x))) (hx : ox.data = .fields vx) (hx2 : vx[2]? = some .none) (hp : P ((udeRec t2 enc t1 bs tb i j re tr).setIfInBounds 2 (.ref x)))
    (hQ : ∀ h', RaisedP P true base g outer e UDE news h' → g.UpToSlots h' → Q () { s with heap := h' }) : wpAny M (A.deeper env) (leaving env (.ref e)) Q E s := by
  have h2 : ((udeRec t2 enc t1 bs tb i j re tr).setIfInBounds 2 (.ref x))[2]? = some (Value.ref x) := by simp [ude_size]
  exact leave_newP (cx := true) hP K F N hf hk (.head _) hd (by rw [Array.getElem?_setIfInBounds_ne (by decide)]; exact ude_at1) hp (fun _ => ⟨_, h2, .inr ⟨x, ox, vx, rfl, .tail _ (.head _), hx, hx2⟩⟩)
    (fun _ h => by rw [h2] at h; cases h; exact hne _ (.head _) rfl) (fun q hq => ⟨.tail _ (.tail _ hq), hne q (.tail _ hq)⟩) (hc ▸ hQ)
end
theorem RaisedP.mono {P P' : Array Value → Prop} {cx : Bool} {base G : Heap} {l : List Env} {e : Addr} {cls : Value} {news : List (Addr × Obj)} {h : Heap} (hpp : ∀ vs, P vs → P' vs) (R : RaisedP P cx base G l e cls news h) : RaisedP P' cx base G l e cls news h := by
  obtain ⟨B, a, b, c, d, f, i, j⟩ := R
  exact ⟨B, a, b, c, d, f, i, j.mono fun vs p => ⟨hpp vs p.1, p.2⟩⟩
theorem RaisedP.told {P : Array Value → Prop} {cx : Bool} {base G : Heap} {l : List Env} {e : Addr} {cls : Value} {news : List (Addr × Obj)} {h : Heap} (R : RaisedP P cx base G l e cls news h) : ∃ vs, P vs := by
  obtain ⟨B, a, b, c, d, f, i, j⟩ := R
  obtain ⟨_, vs, _, _, _, hp⟩ := j.there
  exact ⟨vs, hp.1⟩
end
end Mine

namespace Mine
section
def hexS (a : Int) : Str := Str.mk ((Nat.toDigits 16 a.natAbs).map Char.toNat).toArray
def hexBody (neg : Bool) (digits : List Nat) : Str :=
  let sign : List Nat := if neg = true then [45] else []
  let other : Int := sign.length + ([] : List Nat).length + ([] : List Nat).length
  let ds := if digits.isEmpty = true then [] else List.replicate ((0 : Int).toNat - digits.length) 48 ++ digits
  let pad := ((-1 : Int) - other - ds.length).toNat
  ⟨(List.replicate pad 32 ++ sign ++ [] ++ List.replicate 0 32 ++ ds ++ [] ++ List.replicate 0 32).toArray⟩
theorem hexBody_eq {ds : List Nat} : hexBody false ds = Str.mk ds.toArray := by
  have e : ((-1 : Int) - (([] : List Nat).length + ([] : List Nat).length + ([] : List Nat).length : Int) - ((if ds.isEmpty = true then [] else List.replicate ((0 : Int).toNat - ds.length) 48 ++ ds : List Nat).length : Int)).toNat = 0 := by
    simp only [List.length_nil]; omega
  have e2 : (if ds.isEmpty = true then [] else List.replicate ((0 : Int).toNat - ds.length) 48 ++ ds : List Nat) = ds := by
    cases ds with
    | nil => rfl
    | cons a l => simp
  unfold hexBody
  simp only [Bool.false_eq_true, if_false]
  rw [e, e2]
  simp
theorem hex_f : (fun c : Char => (if ((120 : Nat) == 88) = true then c.toUpper else c).toNat) = Char.toNat := by
  funext c
  rw [if_neg (by decide)]
theorem hex_e {a : Int} (h0 : 0 ≤ a) : hexBody (decide (a < 0)) ((Nat.toDigits 16 a.natAbs).map fun c => (if ((120 : Nat) == 88) = true then c.toUpper else c).toNat) = hexS a := by
  rw [decide_eq_false (by omega), hexBody_eq, hex_f]
  rfl
theorem tree_eq {α : Type} {M : Model} {A : Around} {E : Value → Shared → Prop} {s : Shared} {t t' : Sem α} {Q : α → Shared → Prop} (e : t = t') (h : wpAny M A t' Q E s) : wpAny M A t Q E s := by rw [e]; exact h
section
set_option maxHeartbeats 4000000
open Builtin Builtin.Str Builtin.Int Builtin.Float
theorem meets_hex {a : Int} {t u : Tok} (h0 : 0 ≤ a) (hL : (hexS a).length ≤ 1000000) : Meets («int.__format__» ⟨[.int a t, .str (Str.ofString "x") u], []⟩) (fun _ R s => ∀ t' k, R (.ok (.ret (.str (hexS a) t'))) { s with toks := k }) := by
  apply KPc.meets_of
  intro _ _ _ _ _ _ _
  unfold Builtin.«int.__format__»
  refine wpAny_bind (wpAny_of_eq (a := (_, _)) rfl ?_)
  refine wpAny_bind (wpAny_of_eq (a := _) rfl ?_)
  kxf_if
  refine wpAny_bind (wpAny_typeNameOf (T := "str") (typeIs_str _ _ _) (by decide) fun _ => ?_)
  refine wpAny_bind (wpAny_of_eq (a := some _) rfl ?_)
  kxf_if
  kxf_if
  refine wpAny_bind (wpAny_typeNameOfCut_int ?_)
  (repeat kxf_if)
  have e := hex_e h0
  refine tree_eq (t' := retStr (hexBody (decide (a < 0)) ((Nat.toDigits 16 a.natAbs).map fun c => (if ((120 : Nat) == 88) = true then c.toUpper else c).toNat))) ?eqx ?_
  case eqx => kernel_rfl
  refine KXf.ret_text e (by rw [e, sizeLine_eq]; omega) ?_
  assumption
end
end
end Mine

namespace Mine
section
def shortText : Str := Str.ofString "incomplete punycode string"
def badText (o : Int) : Str := Str.empty ++ Str.ofString "Invalid extended code point '" ++ Str.ofString (toString o) ++ Str.ofString "'"
/-- the first octet that is no figure, or the end: the fault of a numeral that does not end -/
def decE : List Int → Int → Int × Int × Str
  | [], sp => (sp, sp + 1, shortText)
  | o :: r, sp => match dig o with
    | none => (sp, sp + 1, badText o)
    | some _ => decE r (sp + 1)
theorem decE_go {oc : List Int} {ep : Nat} {o d : Int} (ho : oc[ep]? = some o) (hd : dig o = some d) : decE (oc.drop ep) ep = decE (oc.drop (ep + 1)) ((ep + 1 : Nat) : Int) := by
  rw [drop_of ho]
  show (match dig o with | none => _ | some _ => _) = _
  rw [hd]
  rfl
theorem decE_bad {oc : List Int} {ep : Nat} {o : Int} (ho : oc[ep]? = some o) (hd : dig o = none) : decE (oc.drop ep) ep = ((ep : Int), (ep : Int) + 1, badText o) := by
  rw [drop_of ho]
  show (match dig o with | none => _ | some _ => _) = _
  rw [hd]
theorem decE_out {oc : List Int} {ep : Nat} (he : oc.length ≤ ep) : decE (oc.drop ep) ep = ((ep : Int), (ep : Int) + 1, shortText) := by
  rw [List.drop_eq_nil_of_le he]; rfl
abbrev Fault := Int × Int × Str
def bigText (s : Int) : Str := Str.empty ++ Str.ofString "Invalid character U+" ++ hexS s
/-- the law's strict reading -/
def readS : List Int → Int → Int → Int → Int → Int → List Int → List (Int × Int) → Fault ⊕ List (Int × Int)
  | [], spot, _, _, _, _, figs, sp => match figs with
    | [] => .inr sp
    | _ :: _ => .inl (spot, spot + 1, shortText)
  | o :: r, spot, size, bias, hour, place, figs, sp =>
    match dig o with
    | none => .inl (spot, spot + 1, badText o)
    | some d =>
      if d < tF figs.length bias then
        let nu := numF bias 0 (figs ++ [d])
        let s := (hour + (nu + 1)).fdiv (size + 1) + 128
        let pl := (hour + (nu + 1)).fmod (size + 1)
        if 1114111 < s then .inl (place + (nu + 1) - 1, place + (nu + 1), bigText s)
        else readS r (spot + 1) (size + 1) (biasF nu (sp.length == 0) (size + 1)) ((s - 128) * (size + 1 + 1) + pl) pl [] (sp ++ [(s, pl)])
      else readS r (spot + 1) size bias hour place (figs ++ [d]) sp
theorem readS_bad {o : Int} {r : List Int} {spot size bias hour place : Int} {figs : List Int} {sp : List (Int × Int)} (hd : dig o = none) : readS (o :: r) spot size bias hour place figs sp = .inl (spot, spot + 1, badText o) := by
  conv => lhs; unfold readS
  rw [hd]
theorem readS_go {o d : Int} {r : List Int} {spot size bias hour place : Int} {figs : List Int} {sp : List (Int × Int)} (hd : dig o = some d) (hn : ¬ d < tF figs.length bias) : readS (o :: r) spot size bias hour place figs sp = readS r (spot + 1) size bias hour place (figs ++ [d]) sp := by
  conv => lhs; unfold readS
  rw [hd]
  dsimp only
  rw [if_neg hn]
theorem readS_big {o d : Int} {r : List Int} {spot size bias hour place : Int} {figs : List Int} {sp : List (Int × Int)} (hd : dig o = some d) (hn : d < tF figs.length bias) (hb : 1114111 < (hour + (numF bias 0 (figs ++ [d]) + 1)).fdiv (size + 1) + 128) :
    readS (o :: r) spot size bias hour place figs sp = .inl (place + (numF bias 0 (figs ++ [d]) + 1) - 1, place + (numF bias 0 (figs ++ [d]) + 1), bigText ((hour + (numF bias 0 (figs ++ [d]) + 1)).fdiv (size + 1) + 128)) := by
  conv => lhs; unfold readS
  rw [hd]
  dsimp only
  rw [if_pos hn, if_pos hb]
theorem readS_turn {o d : Int} {r : List Int} {spot size bias hour place : Int} {figs : List Int} {sp : List (Int × Int)} (hd : dig o = some d) (hn : d < tF figs.length bias) (hb : ¬ 1114111 < (hour + (numF bias 0 (figs ++ [d]) + 1)).fdiv (size + 1) + 128) :
    readS (o :: r) spot size bias hour place figs sp = readS r (spot + 1) (size + 1) (biasF (numF bias 0 (figs ++ [d])) (sp.length == 0) (size + 1)) (((hour + (numF bias 0 (figs ++ [d]) + 1)).fdiv (size + 1) + 128 - 128) * (size + 1 + 1) + (hour + (numF bias 0 (figs ++ [d]) + 1)).fmod (size + 1)) ((hour + (numF bias 0 (figs ++ [d]) + 1)).fmod (size + 1)) []
      (sp ++ [((hour + (numF bias 0 (figs ++ [d]) + 1)).fdiv (size + 1) + 128, (hour + (numF bias 0 (figs ++ [d]) + 1)).fmod (size + 1))]) := by
  conv => lhs; unfold readS
  rw [hd]
  dsimp only
  rw [if_pos hn, if_neg hb]
theorem decF_bad {b o : Int} {r figs : List Int} (hd : dig o = none) : decF b (o :: r) figs = (1, none) := by
  show (match dig o with | none => _ | some d => _) = _
  rw [hd]
theorem readS_none (b : Int) : ∀ (l : List Int) (spot size hour place : Int) (figs : List Int) (sp : List (Int × Int)), (decF b l figs).2 = none → (l = [] → figs ≠ []) → readS l spot size b hour place figs sp = .inl (decE l spot)
  | [], _, _, _, _, figs, _, _, hne => by
    cases figs with
    | nil => exact absurd rfl (hne rfl)
    | cons _ _ => rfl
  | o :: r, spot, size, hour, place, figs, sp, h, _ => by
    cases hd : dig o with
    | none =>
      rw [readS_bad hd]
      show _ = Sum.inl (match dig o with | none => _ | some _ => _)
      rw [hd]
    | some d =>
      rw [decF_cons hd] at h
      by_cases hn : d < tF figs.length b
      · rw [if_pos hn] at h; cases h
      · rw [if_neg hn] at h
        rw [readS_go hd hn, readS_none b r (spot + 1) size hour place (figs ++ [d]) sp h (fun _ q => by simp at q)]
        show _ = Sum.inl (match dig o with | none => _ | some _ => _)
        rw [hd]
theorem readS_some (b nu : Int) : ∀ (l : List Int) (spot size hour place : Int) (figs : List Int) (sp : List (Int × Int)), (decF b l figs).2 = some nu →
    readS l spot size b hour place figs sp = if 1114111 < (hour + (nu + 1)).fdiv (size + 1) + 128 then .inl (place + (nu + 1) - 1, place + (nu + 1), bigText ((hour + (nu + 1)).fdiv (size + 1) + 128))
      else readS (l.drop (decF b l figs).1) (spot + (decF b l figs).1) (size + 1) (biasF nu (sp.length == 0) (size + 1)) (((hour + (nu + 1)).fdiv (size + 1) + 128 - 128) * (size + 1 + 1) + (hour + (nu + 1)).fmod (size + 1)) ((hour + (nu + 1)).fmod (size + 1)) []
        (sp ++ [((hour + (nu + 1)).fdiv (size + 1) + 128, (hour + (nu + 1)).fmod (size + 1))])
  | [], _, _, _, _, _, _, h => by cases h
  | o :: r, spot, size, hour, place, figs, sp, h => by
    cases hd : dig o with
    | none => rw [decF_bad hd] at h; cases h
    | some d =>
      have q := decF_cons (b := b) (r := r) (figs := figs) hd
      by_cases hn : d < tF figs.length b
      · rw [if_pos hn] at q
        rw [q] at h ⊢
        obtain rfl : numF b 0 (figs ++ [d]) = nu := Option.some.inj h
        by_cases hb : 1114111 < (hour + (numF b 0 (figs ++ [d]) + 1)).fdiv (size + 1) + 128
        · rw [if_pos hb, readS_big hd hn hb]
        · rw [if_neg hb, readS_turn hd hn hb]
          rfl
      · rw [if_neg hn] at q
        rw [q] at h ⊢
        rw [readS_go hd hn, readS_some b nu r (spot + 1) size hour place (figs ++ [d]) sp h, List.drop_succ_cons]
        have e : spot + 1 + ((decF b r (figs ++ [d])).1 : Int) = spot + (((decF b r (figs ++ [d])).1 + 1 : Nat) : Int) := by omega
        rw [e]
structure SPS (st : Str) (oc : List Int) (RES : Fault ⊕ List (Int × Int)) (x : Str) (ch po bi : Int) (ep : Nat) : Prop where
  ends : ep ≤ oc.length
  low : 128 ≤ ch
  high : ch ≤ 1114111
  place : -1 ≤ po
  placeHi : po ≤ x.length
  long : x.length ≤ st.length + ep
  story : ∃ sp : List (Int × Int), x.cps.toList = insAll st.cps.toList sp ∧ x.length = st.length + sp.length ∧ sp.length ≤ ep ∧ (((ep : Nat) : Int) == 0) = (sp.length == 0) ∧
    readS (oc.drop ep) ep x.length bi ((ch - 128) * (x.length + 1) + po) po [] sp = RES
theorem SPS.start {st : Str} {oc : List Int} : SPS st oc (readS oc 0 st.length 72 (-1) (-1) [] []) st 128 (-1) 72 0 :=
  ⟨Nat.zero_le _, by decide, by decide, by decide, by omega, by omega, [], rfl, rfl, Nat.le_refl _, rfl, by simp⟩
theorem SPS.over {st : Str} {oc : List Int} {RES : Fault ⊕ List (Int × Int)} {x : Str} {ch po bi : Int} {ep : Nat} (h : SPS st oc RES x ch po bi ep) (hd : oc.length ≤ ep) : ∃ sp, RES = .inr sp ∧ x = Str.mk (insAll st.cps.toList sp).toArray := by
  obtain ⟨_, _, _, _, _, _, sp, h1, _, _, _, h5⟩ := h
  rw [List.drop_eq_nil_of_le hd] at h5
  exact ⟨sp, h5.symm, str_of_list h1⟩
theorem SPS.halt {st : Str} {oc : List Int} {RES : Fault ⊕ List (Int × Int)} {x : Str} {ch po bi : Int} {ep : Nat} (h : SPS st oc RES x ch po bi ep) (hlt : ep < oc.length) (hd : (decF bi (oc.drop ep) []).2 = Option.none) : RES = .inl (decE (oc.drop ep) ep) := by
  obtain ⟨_, _, _, _, _, _, sp, h1, _, _, _, h5⟩ := h
  rw [readS_none _ _ _ _ _ _ _ _ hd (fun q => by have := congrArg List.length q; simp at this; omega)] at h5
  exact h5.symm
theorem char_same {ch po nu n : Int} (hn : 0 < n) : ((ch - 128) * n + po + (nu + 1)).fdiv n + 128 = ch + (po + (nu + 1)).fdiv n ∧ ((ch - 128) * n + po + (nu + 1)).fmod n = (po + (nu + 1)).fmod n := by
  have e1 : (ch - 128) * n + po + (nu + 1) = (po + (nu + 1)) + (ch - 128) * n := by omega
  constructor
  · rw [e1, Int.fdiv_eq_ediv_of_nonneg _ (Int.le_of_lt hn), Int.fdiv_eq_ediv_of_nonneg _ (Int.le_of_lt hn), Int.add_mul_ediv_right _ _ (Int.ne_of_gt hn)]
    omega
  · rw [e1, Int.fmod_eq_emod_of_nonneg _ (Int.le_of_lt hn), Int.fmod_eq_emod_of_nonneg _ (Int.le_of_lt hn), Int.add_mul_emod_self_right]
theorem SPS.big {st : Str} {oc : List Int} {RES : Fault ⊕ List (Int × Int)} {x : Str} {ch po bi : Int} {ep : Nat} (h : SPS st oc RES x ch po bi ep) {nu : Int} (hd : (decF bi (oc.drop ep) []).2 = some nu) (hb : 1114111 < ch + (po + (nu + 1)).fdiv (x.length + 1)) :
    RES = .inl (po + (nu + 1) - 1, po + (nu + 1), bigText (ch + (po + (nu + 1)).fdiv (x.length + 1))) := by
  obtain ⟨_, _, _, _, _, _, sp, _, _, _, _, h5⟩ := h
  have hs1 : (0 : Int) < (x.length : Int) + 1 := by omega
  rw [readS_some _ _ _ _ _ _ _ _ _ hd, (char_same hs1).1, if_pos hb] at h5
  exact h5.symm
theorem SPS.go {st : Str} {oc : List Int} {RES : Fault ⊕ List (Int × Int)} {x : Str} {ch po bi : Int} {ep : Nat} (h : SPS st oc RES x ch po bi ep) {nu : Int} (hd : (decF bi (oc.drop ep) []).2 = some nu)
    {c' pl bi' nc : Int} {y : Str} (hc : c' = ch + (po + (nu + 1)).fdiv (x.length + 1)) (hb : ¬ 1114111 < c') (hpl : pl = (po + (nu + 1)).fmod (x.length + 1)) (hy : y.cps.toList = [c'.toNat]) (hbi : bi' = biasF nu (((ep : Nat) : Int) == 0) nc) (hnc : nc = (x.length : Int) + 1) :
    SPS st oc RES (Txt.slice x none (some pl) ++ y ++ Txt.slice x (some pl) none) c' pl bi' (ep + (decF bi (oc.drop ep) []).1) := by
  obtain ⟨q1, q2, q3, q4, q6, q5, sp, h1, h2, h3, h4, h5⟩ := h
  obtain ⟨d1, d2, _⟩ := decF_range bi (oc.drop ep) [] nu (fun _ h => nomatch h) hd
  have d3 := decF_pos bi (oc.drop ep) []
  rw [List.length_drop] at d2
  have hs1 : (0 : Int) < (x.length : Int) + 1 := by omega
  obtain ⟨p0, p1⟩ := fmod_in (a := po + (nu + 1)) hs1
  rw [← hpl] at p0 p1
  have hz : 0 ≤ (po + (nu + 1)).fdiv ((x.length : Int) + 1) := fdiv_up (by omega) (by omega)
  have hc0 : 128 ≤ c' ∧ c' ≤ 1114111 := by omega
  have hyl : y.length = 1 := by
    have := congrArg List.length hy
    simpa [Str.length] using this
  have hl : (Txt.slice x none (some pl) ++ y ++ Txt.slice x (some pl) none : Str).length = x.length + 1 := by
    rw [Str.length_append, Str.length_append, hyl]
    exact slices_len 1 p0 (by omega)
  have hcs : (Txt.slice x none (some pl) ++ y ++ Txt.slice x (some pl) none : Str).cps.toList = insAt x.cps.toList pl.toNat c'.toNat := by
    show ((Txt.slice x none (some pl)).cps ++ y.cps ++ (Txt.slice x (some pl) none).cps).toList = _
    rw [Array.toList_append, Array.toList_append, hy, slice_to_list p0 (by omega), slice_from_list p0 (by omega)]
    simp [insAt]
  obtain ⟨e2, e3⟩ := char_same (ch := ch) (po := po) (nu := nu) hs1
  rw [readS_some _ _ _ _ _ _ _ _ _ hd, e2, e3, ← hc, ← hpl, if_neg hb, List.drop_drop] at h5
  have hne : ep + (decF bi (oc.drop ep) []).1 ≠ 0 := by omega
  refine ⟨by omega, hc0.1, hc0.2, by omega, by rw [hl]; omega, by rw [hl]; omega, sp ++ [(c', pl)], ?_, ?_, ?_, ?_, ?_⟩
  · rw [hcs, insAll_snoc, h1]
  · rw [hl, h2, List.length_append, List.length_singleton]; omega
  · rw [List.length_append, List.length_singleton]; omega
  · rw [Bool.eq_iff_iff, beq_iff_eq, beq_iff_eq, List.length_append, List.length_singleton]
    constructor <;> intro q <;> omega
  · rw [hl, hbi, hnc, h4, Int.natCast_add]
    exact h5
theorem hex_len : ∀ (k n : Nat), n < 16 ^ (k + 1) → (Nat.toDigits 16 n).length ≤ k + 1
  | 0, n, h => by
    rw [Nat.toDigits_of_lt_base (by omega)]; simp
  | k + 1, n, h => by
    by_cases hn : n < 16
    · rw [Nat.toDigits_of_lt_base hn]; simp
    · rw [Nat.toDigits_of_base_le (by decide) (by omega), List.length_append]
      have := hex_len k (n / 16) (by rw [Nat.div_lt_iff_lt_mul (by decide)]; rw [Nat.pow_succ] at h; exact h)
      simp; omega
theorem hexS_len {a : Int} (h0 : 0 ≤ a) (h1 : a < 2 ^ 64) : (hexS a).length ≤ 64 := by
  have e : (hexS a).length = (Nat.toDigits 16 a.natAbs).length := by simp [hexS, Str.length]
  rw [e]
  have h2 : a.natAbs < 16 ^ (15 + 1) := by
    have : (16 : Nat) ^ (15 + 1) = 2 ^ 64 := by decide
    omega
  exact Nat.le_trans (hex_len 15 _ h2) (by decide)
/-- every numeral of oc fits a machine word -/
def CalmN (oc : List Int) : Prop := ∀ (i : Nat) (b nu : Int), (decF b (oc.drop i) []).2 = some nu → nu < 4738381338321616896
theorem fdiv_le {a n : Int} (h : 0 ≤ a) (hn : 0 < n) : a.fdiv n ≤ a := by
  rw [Int.fdiv_eq_ediv_of_nonneg _ (Int.le_of_lt hn)]; exact Int.ediv_le_self _ h
theorem strict_hexx {a : Int} {spec : Str} {t u : Tok} (hs : spec = Str.ofString "x") (h0 : 0 ≤ a) (h1 : a < 2 ^ 64) : Meets (Builtin.«int.__format__» ⟨[.int a t, .str spec u], []⟩) (fun _ R s => ∀ t' k, R (.ok (.ret (.str (hexS a) t'))) { s with toks := k }) := by
  subst hs
  exact meets_hex h0 (Nat.le_trans (hexS_len h0 h1) (by decide))
theorem big_fits {a : Int} (h0 : 0 ≤ a) (h1 : a < 2 ^ 64) : (Str.empty ++ Str.ofString "Invalid character U+" ++ hexS a).length ≤ sizeLine := by
  rw [Str.length_append, Str.length_append]
  have := hexS_len h0 h1
  have q1 : (Str.empty).length = 0 := by decide
  have q2 : (Str.ofString "Invalid character U+").length = 20 := by decide
  rw [sizeLine_eq]; omega
/-- a fault that fits a machine word -/
def FitF (f : Fault) : Prop := -1 ≤ f.1 ∧ f.1 ≤ 4738381338321617896 ∧ -1 ≤ f.2.1 ∧ f.2.1 ≤ 4738381338321617896
def FaultR (RES : Fault ⊕ List (Int × Int)) (vs : Array Value) : Prop := ∃ f, RES = .inl f ∧ FitF f ∧ UdeR f vs
theorem FaultR.bears {RES : Fault ⊕ List (Int × Int)} : Bears (FaultR RES) := fun _ _ ⟨f, h1, h2, h3⟩ => ⟨f, h1, h2, h3.set (by decide)⟩
theorem decE_fit : ∀ (l : List Int) (sp : Int), sp ≤ (decE l sp).1 ∧ (decE l sp).1 ≤ sp + l.length ∧ (decE l sp).2.1 = (decE l sp).1 + 1
  | [], sp => by simp [decE]
  | o :: r, sp => by
    unfold decE
    cases hd : dig o with
    | none => simp; omega
    | some d =>
      dsimp only
      have := decE_fit r (sp + 1)
      simp; omega
theorem decE_fits {oc : List Int} {ep : Nat} (h : oc.length ≤ 40) (h2 : ep ≤ oc.length) : FitF (decE (oc.drop ep) ep) := by
  obtain ⟨a, b, c⟩ := decE_fit (oc.drop ep) ep
  rw [List.length_drop] at b
  have d : (decE (oc.drop ep) ep).1 ≤ 40 := by omega
  clear b h h2
  exact ⟨by omega, by omega, by omega, by omega⟩
def shiftF (k : Int) (f : Fault) : Fault := (k + f.1, k + f.2.1, f.2.2)
def ShiftR (k : Int) (RES : Fault ⊕ List (Int × Int)) (vs : Array Value) : Prop := ∃ f, RES = .inl f ∧ UdeR (shiftF k f) vs
theorem ShiftR.bears {k : Int} {RES : Fault ⊕ List (Int × Int)} : Bears (ShiftR k RES) := fun _ _ ⟨f, h1, h3⟩ => ⟨f, h1, h3.set (by decide)⟩
end
end Mine

namespace Mine
section
theorem decodeS_c (w : World) (news : List (Addr × Obj)) (bs : Array UInt8) (oc : List Int) (hi : KBw.bInts bs = oc) (p : Nat) (b : Int) (t1 t2 t3 t4 : Tok) (hlen : oc.length ≤ 40) (hp : p ≤ oc.length) (hby : ∀ o ∈ oc, 0 ≤ o ∧ o < 256) :
    CtrE PySem.Challenge.rw_rl0154_02.row.prog w (Mine.hd.heap_39 w.params) Mine.hd.view_39 35 2 2 [.bytes bs t1, .int p t2, .int b t3, .str (Str.ofString "strict") t4] news (fun tl r => DecS b oc p tl r) (fun vs => (decF b (oc.drop p) []).2 = none ∧ UdeR (decE (oc.drop p) p) vs) true := by
  k_with_none
  k_with "execs cons" => ((try dsimp only); refine tok_any ?_; intro _; refine wpAny_execs_cons ?_)
  k_with "eval Name" => (k_here; k_dflt (refine' nameV_L ?nv1 ?nv2 ?_ ?nv3 ?nv4; (case nv1 => k_asm); (case nv3 => rfl); (case nv4 => rfl); (case nv2 => rfl); k_whole))
  k_with "isTrue Compare" => (k_here; k_dflt (refine' isTrue_between ?bt1 ?bt2 ?_ ?_ ?bt3 ?bt4; (case bt1 => k_asm); (case bt3 => rfl); (case bt4 => rfl); (case bt2 => rfl); k_whole); (all_goals intros))
  k_with "exec If" => (k_here; (with_reducible rename BMark => bm9); (with_reducible show wpAny _ _ (exec (Stmt.If (Expr.Compare (Expr.Constant _ _ _) _ _ _) _ _ _) _) _ _ _); (refine Stop.intro ?_))
  k_with "Blk" => (refine hb9 _ _ ?_; dsimp only [WPost])
  k_with "exec While Constant int cons nil" => (refine Stop.intro ?_)
  k_with "exec While Constant cons nil" => (refine Stop.intro ?_)
  k_with "exec While" => (refine Stop.intro ?_)
  k_with "call ref cons nil" => (k_here; k_dflt (refine Ctr.ask (T_c _ _ _ _ _ _) (ret := ?_)); intro r9 tl9 h9 tk9 F9 N9 hl9 hR9; obtain ⟨ht9, t9, he9, hx9, hy9⟩ := hR9; subst ht9; subst he9; clear hl9; (simp only [List.nil_append] at N9); (try k_sweep); (try dsimp only); (try k_fold))
  k_with "subscriptTail" => (k_here; (with_reducible show wpAny _ _ (subscriptTail _ _ (Value.bytes _ _) (Value.int _ _)) _ _ _); (with_unfolding_all refine' r_bitem_out ?k0 ?k1 ?k2 ?k3 ?_; (case k0 => rfl); (case k1 => omega); (case k2 => omega); (case k3 => omega); k_whole); intro h' tk' e' x')
  k_with "subscriptTail" => (k_here; (with_reducible show wpAny _ _ (subscriptTail _ _ (Value.bytes _ _) (Value.int _ _)) _ _ _); k_dflt (refine' r_bitem ?k1 ?k2 ?k3 ?k4 ?_; (case k1 => with_reducible assumption); (case k2 => omega); (case k3 => omega); (case k4 => with_reducible assumption); k_whole))
  k_with "noteFrame ref" => (k_here; (rename KtsDicts _ _ => kdX); k_dflt (refine' caught_idx (T' := "IndexError") ?R ?F ?N ?K ?XB ?TB ?D ?ex PyProof.Rows.Boot.«IndexError» ?hn PySem.F.isExc_IndexError PySem.F.notTuple_IndexError ?hs ?_; (case R => assumption); (case F => assumption); (case N => assumption); (case K => assumption); (case XB => assumption); (case TB => assumption); (case D => assumption); (case ex => k_is); (case hn => decide); (case hs => kts_sub); k_whole); intro h9 g9 oI9 vI9 T9 F9 dI9 pI9 N9 nI9 K9 X9 P9 D9)
  k_with "exec Raise some none" => (k_here; (with_reducible refine Raise_ude ?_))
  k_with "ThrowsU" => (refine Stop.intro ?_)
  k_with "call type:UnicodeDecodeError" => (k_here; k_dflt (refine' call_udeN ?uF ?uN ?u0 ?u1 ?u2 ?u3 ?_; (case uF => k_asm); (case uN => k_asm); (case u0 => omega); (case u1 => omega); (case u2 => omega); (case u3 => omega); k_whole); intro hU eU oU tU FU NU nU cU dU; (try k_sweep))
  k_fill
  w_top off
  unfold CtrE
  intro loose mean mg mb dp un gd cn cs a ccd cl outer A₀ base h₀ L m s Q E cB cF cX cN cT cK cD cU bX bT bD calm raised
  have hbs : bs.size = oc.length := by rw [← hi]; exact (KBw.ints_length bs).symm
  refine wpAny_call ?_
  k_dflt (refine' enterT ?k1 ?k2 ?k3 ?k4 ?k5 ?XB ?TB ?D ?kA ?kF ?kK ?k6 ?k7 ?k8 ?k9 ?kB ?_ ?c2 ?c3 ?c4 ?c5; (case kA => exact rfl); (case kF => exact rfl); (case kK => assumption); (case k1 => k_asm); (case k2 => k_asm); (case k3 => k_asm); (case k4 => k_asm); (case k5 => k_asm); (case XB => assumption); (case TB => assumption); (case D => assumption); (case k6 => k_is); (case k7 => k_is); (case k8 => ktr_room); (case k9 => exact BindsTo.of_eq rfl); (case c5 => decide); (case kB => exact locs rfl); (case c2 => exact rfl); (case c3 => exact rfl); (case c4 => exact rfl); k_whole; intro g' L' h' FG' F' N' B' X' T' D'; (try dsimp only); (try k_lift B'); (try k_fold))
  k_steps
  unfold Stop
  refine' whileR (σ := Int × Tok × Int × Tok × Nat × Tok × Nat × Tok) (fun _ => news) (fun c => [(Str.ofString "result", .int c.1 c.2.1), (Str.ofString "w", .int c.2.2.1 c.2.2.2.1), (Str.ofString "j", .int c.2.2.2.2.1 c.2.2.2.2.2.1), (Str.ofString "extpos", .int c.2.2.2.2.2.2.1 c.2.2.2.2.2.2.2), (Str.ofString "extended", .bytes bs t1), (Str.ofString "bias", .int b t3), (Str.ofString "errors", .str (Str.ofString "strict") t4)]) (fun c => DP b oc p c.1 c.2.2.1 c.2.2.2.2.1 c.2.2.2.2.2.2.1 ∧ decE (oc.drop p) p = decE (oc.drop c.2.2.2.2.2.2.1) c.2.2.2.2.2.2.1) (fun c => oc.length - c.2.2.2.2.2.2.1) (by assumption) (by assumption) ?_ ?_
  · refine' ⟨(_, _, _, _, 0, _, p, _), by kst_in, by ((try dsimp only); (repeat (refine AllP.cons (by with_unfolding_all rfl) ?_)); exact AllP.nil), ?_⟩
    exact ⟨DP.start hp, rfl⟩
  · refine prod8 fun re tr ww tw j tj ep te u h tk hP F N Qb hb9 => ?_
    dsimp only [kstB] at F hP
    obtain ⟨hP0, hE0⟩ := hP
    have hP := hP0
    obtain ⟨hat, hinn, _⟩ := hP
    rcases Nat.lt_or_ge ep oc.length with hlt | hge
    · have ho : oc[((ep : Nat) : Int).toNat]? = some oc[ep] := by rw [Int.toNat_natCast]; simp [hlt]
      have hbo := hby oc[ep] (List.getElem_mem hlt)
      generalize oc[ep] = o at *
      have ho' : oc[ep]? = some o := by rw [Int.toNat_natCast] at ho; exact ho
      have bad : dig o = none → ∀ vs, UdeR ((ep : Int), (ep : Int) + 1, badText o) vs → (decF b (oc.drop p) []).2 = none ∧ UdeR (decE (oc.drop p) p) vs := fun hd vs h => ⟨(hP0.bad ho' hd).2, by rw [hE0, decE_bad ho' hd]; exact h⟩
      have e1 : (ep : Int) + 1 - 1 = ep := by omega
      have e2 : oc.getD ((ep : Nat) : Int).toNat 0 = o := by rw [Int.toNat_natCast, List.getD_eq_getElem?_getD, ho']; rfl
      have bm9 : BMark := True.intro
      k_steps
      unfold Stop
      rename Fr _ _ _ _ => FB
      rename News _ _ _ _ => NB
      refine' st_join1 FB NB [(Str.ofString "result", .int re tr), (Str.ofString "w", .int ww tw), (Str.ofString "j", .int j tj), (Str.ofString "extpos", .int (ep + 1) ?te9), (Str.ofString "extended", .bytes bs t1), (Str.ofString "bias", .int b t3), (Str.ofString "errors", .str (Str.ofString "strict") t4)] (Str.ofString "digit") (fun v => ∃ d t, v = .int d t ∧ dig o = some d) ?kpx ?hix ?kx
      case kpx => ((try dsimp only); (repeat (refine AllP.cons (by with_unfolding_all rfl) ?_)); exact AllP.nil)
      case hix =>
        intro Q2 ret2
        clear bm9
        k_steps
        · exact ret2 _ _ _ _ (by assumption) (by assumption) (by ((try dsimp only); (repeat (refine AllP.cons (by with_unfolding_all rfl) ?_)); exact AllP.nil)) ⟨_, _, rfl, dig_great (by assumption) (by assumption)⟩
        · exact ret2 _ _ _ _ (by assumption) (by assumption) (by ((try dsimp only); (repeat (refine AllP.cons (by with_unfolding_all rfl) ?_)); exact AllP.nil)) ⟨_, _, rfl, dig_figure (by assumption) (by assumption)⟩
        · rw [e1, e2] at dU
          refine Stop.out (throws_calm rfl NU cU dU ?_)
          k_unfold
          exact leave_calm (P := fun vs => (decF b (oc.drop p) []).2 = none ∧ UdeR (decE (oc.drop p) p) vs) (bears_and UdeR.bears) (by assumption) FU NU rfl rfl nU cU dU (bad (dig_none (by omega) (by omega)) _ UdeR.made) fun h' R U => raised _ _ _ _ R FG' U
      case kx =>
        rintro _ h8 tk8 u8 F8 N8 ⟨d, td, rfl, hd⟩
        dsimp only [kstB] at F8
        clear bm9
        obtain ⟨hd0, hd1⟩ := dig_range hd
        k_steps
        · exact calm _ [_] _ _ (by assumption) (by assumption) (fresh1 (by assumption)) (DecS.mk' hP0 ho' hd (by assumption))
        · refine' WEnd.intro (_, _, _, _, j + 1, _, ep + 1, _) (by assumption) (by assumption) (fun _ hq => hq) (by ((try dsimp only); (repeat (refine AllP.cons (by with_unfolding_all rfl) ?_)); exact AllP.nil)) ⟨hP0.go ho' hd (by assumption), hE0.trans (decE_go ho' hd)⟩ ?_
          dsimp only; omega
    · k_steps
      refine Stop.out ⟨_, _, _, rfl, (NU _ (.head _)).1, cU, dU, ude_at1, throw_over rfl FU NU (.head _) nU dI9 ⟨_, pI9, .inl rfl⟩ dU (by rw [ude_size]; decide) fun h' oe' F8 N8 c8 d8 => ?_⟩
      k_unfold
      exact leave_over (P := fun vs => (decF b (oc.drop p) []).2 = none ∧ UdeR (decE (oc.drop p) p) vs) (bears_and UdeR.bears) (by assumption) F8 N8 rfl rfl nU (c8.trans cU) d8 dI9 pI9 ⟨(hP0.out hge).2, by rw [hE0, decE_out hge]; exact UdeR.made.set (by decide)⟩ fun h' R U => raised _ _ _ _ (R.back T9) FG' ((turn_slots T9).trans U)
section
variable {w : World} {news : List (Addr × Obj)} {bs : Array UInt8} {oc : List Int} {p : Nat} {b : Int} {t1 t2 t3 t4 : Tok} {loose : List Str} {mean : ExcName → Option Value} {mg mb : Str → Option Value} {dp un : Nat} {gd : Option (List Code)} {cn : Str} {cs : Scope} {a : Addr} {ccd : Value} {cl : List (Str × Addr)} {outer : List Env} {A₀ : Around} {base h₀ : Heap} {L : Addr} {m : Str → Option Value} {s : Shared} {Q E : Value → Shared → Prop}
theorem decodeS_some {nu : Int} (hi : KBw.bInts bs = oc) (hlen : oc.length ≤ 40) (hp : p ≤ oc.length) (hby : ∀ o ∈ oc, 0 ≤ o ∧ o < 256) (hdec : (decF b (oc.drop p) []).2 = some nu) (B : Below A₀ base outer h₀ := by k_asm) (F : Fr h₀ L s.heap m := by k_asm) (X : (Mine.hd.heap_39 w.params).In h₀ := by k_asm) (N : News h₀ L s.heap news := by k_asm) (T : Top Mine.hd.view_39 loose mean mg mb h₀ := by k_asm) (hk : cs.kind = .function := by first | exact rfl | assumption) (hd : dp + 2 < recursionLimit := by ktr_room) (hu : un + 8 * 2 < cLine := by ktr_units)
    (XB : (Mine.hd.heap_39 w.params).In base := by assumption) (TB : Top Mine.hd.view_39 loose mean mg mb base := by assumption) (D : KtsDicts (outer.filterMap (·.frame)) h₀ := by assumption)
    (k : ∀ D x t t' h' tk', Fr h₀ L h' m → News h₀ L h' ((D, { cls := .type "tuple", data := .seq #[.int x t, .int nu t'] }) :: news) → x = ((p + (decF b (oc.drop p) []).1 : Nat) : Int) → Q (.ref D) { s with heap := h', toks := tk' }) :
    wpAny (model PySem.Challenge.rw_rl0154_02.row.prog w) (ktrTop dp un gd cn cs L a ccd cl outer) (call (.ref 35) [.bytes bs t1, .int p t2, .int b t3, .str (Str.ofString "strict") t4]) Q E s := by
  refine CtrE.ask (decodeS_c w news bs oc hi p b t1 t2 t3 t4 hlen hp hby) B F X N T hk hd hu XB TB D (fun r tl h' tk' F' N' _ hr => ?_) fun e h' tk' G R _ _ => ?_
  · obtain ⟨D, x, t, nu', t', rfl, rfl, e, hx⟩ := hr
    have e9 := e.symm.trans hdec
    cases e9
    exact k D x t t' h' tk' F' N' hx
  · obtain ⟨vs, hv, _⟩ := R.told
    have e9 := hv.symm.trans hdec
    cases e9
theorem decodeS_none (hi : KBw.bInts bs = oc) (hlen : oc.length ≤ 40) (hp : p ≤ oc.length) (hby : ∀ o ∈ oc, 0 ≤ o ∧ o < 256) (hdec : (decF b (oc.drop p) []).2 = none) (B : Below A₀ base outer h₀ := by k_asm) (F : Fr h₀ L s.heap m := by k_asm) (X : (Mine.hd.heap_39 w.params).In h₀ := by k_asm) (N : News h₀ L s.heap news := by k_asm) (T : Top Mine.hd.view_39 loose mean mg mb h₀ := by k_asm) (hk : cs.kind = .function := by first | exact rfl | assumption) (hd : dp + 2 < recursionLimit := by ktr_room) (hu : un + 8 * 2 < cLine := by ktr_units)
    (XB : (Mine.hd.heap_39 w.params).In base := by assumption) (TB : Top Mine.hd.view_39 loose mean mg mb base := by assumption) (D : KtsDicts (outer.filterMap (·.frame)) h₀ := by assumption)
    (k : ∀ e h' tk' G, RaisedP (UdeR (decE (oc.drop p) p)) true base G (envX cn cs L a ccd cl :: outer) e UDE news h' → Fr h₀ L G m → G.UpToSlots h' → E (.ref e) { s with heap := h', toks := tk' }) :
    wpAny (model PySem.Challenge.rw_rl0154_02.row.prog w) (ktrTop dp un gd cn cs L a ccd cl outer) (call (.ref 35) [.bytes bs t1, .int p t2, .int b t3, .str (Str.ofString "strict") t4]) Q E s := by
  refine CtrE.ask (decodeS_c w news bs oc hi p b t1 t2 t3 t4 hlen hp hby) B F X N T hk hd hu XB TB D (fun r tl h' tk' F' N' _ hr => ?_) fun e h' tk' G R FG U => k e h' tk' G (R.mono fun vs q => q.2) FG U
  obtain ⟨D, x, t, nu', t', rfl, rfl, e, hx⟩ := hr
  have e9 := e.symm.trans hdec
  cases e9
end
end
end Mine

namespace Mine
section
theorem insortS_c (w : World) (news : List (Addr × Obj)) (st : Str) (bs : Array UInt8) (oc : List Int) (hi : KBw.bInts bs = oc) (t1 t2 t3 : Tok) (hlen : oc.length ≤ 40) (hst : st.length ≤ 60) (hby : ∀ o ∈ oc, 0 ≤ o ∧ o < 256) (hcalm : CalmN oc) :
    CtrE PySem.Challenge.rw_rl0154_02.row.prog w (Mine.hd.heap_39 w.params) Mine.hd.view_39 42 3 3 [.str st t1, .bytes bs t2, .str (Str.ofString "strict") t3] news (fun tl r => tl = [] ∧ ∃ sp t, readS oc 0 st.length 72 (-1) (-1) [] [] = .inr sp ∧ r = .str (Str.mk (insAll st.cps.toList sp).toArray) t) (FaultR (readS oc 0 st.length 72 (-1) (-1) [] [])) true := by
  k_with_none
  k_with "exec While Compare cons nil" => (refine Stop.intro ?_)
  k_with "exec While" => (refine Stop.intro ?_)
  k_with "execs cons" => ((try dsimp only); refine tok_any ?_; intro _; refine wpAny_execs_cons ?_)
  k_with "eval Name" => (k_here; k_dflt (refine' nameV_L ?nv1 ?nv2 ?_ ?nv3 ?nv4; (case nv1 => k_asm); (case nv3 => rfl); (case nv4 => rfl); (case nv2 => rfl); k_whole))
  k_with "Blk" => (refine hb9 _ _ ?_; dsimp only [WPost])
  k_with "call ref cons nil" => (k_here; k_dflt (refine' decodeS_some ?h1 ?h2 ?h4 ?h3 ?hh (k := ?_); (case hh => assumption); (case h1 => assumption); (case h2 => assumption); (case h3 => assumption); (case h4 => omega)); intro D9 x9 t9 u9 h9 tk9 F9 N9 hx9; subst hx9; (try k_sweep); (try dsimp only); (try k_fold))
  k_with "call ref cons nil" => (k_here; k_dflt (refine' decodeS_none ?h1 ?h2 ?h4 ?h3 ?hh (k := ?_); (case hh => assumption); (case h1 => assumption); (case h2 => assumption); (case h3 => assumption); (case h4 => omega)); intro e9 h9 tk9 G9 R9 FG9 U9; refine Stop.intro ?_)
  k_with "call ref cons nil" => (k_here; k_dflt (refine' Ctr.ask (adapt_c _ _ _ _ _ _ _ ?h1 ?h2 ?h3) (ret := ?_)); (case h1 => assumption); (case h2 => omega); (case h3 => omega); intro r9 tl9 h9 tk9 F9 N9 hl9 hR9; obtain ⟨ht9, t9, he9⟩ := hR9; subst ht9; subst he9; clear hl9; (simp only [List.nil_append] at N9); (try k_sweep); (try dsimp only); (try k_fold))
  k_with "exec Raise some none" => (k_here; (with_reducible refine Raise_ude ?_))
  k_with "ThrowsU" => (refine Stop.intro ?_)
  k_with "call type:UnicodeDecodeError" => (k_here; k_dflt (refine' call_udeN ?uF ?uN ?u0 ?u1 ?u2 ?u3 ?_; (case uF => k_asm); (case uN => k_asm); (case u0 => omega); (case u1 => omega); (case u2 => omega); (case u3 => omega); k_whole); intro hU eU oU tU FU NU nU cU dU; (try k_sweep))
  k_with "formatField int" => (k_here; (with_reducible show wpAny _ _ (formatField (Value.int _ _) _) _ _ _); k_dflt (refine' KXf.field_int (spec' := Str.ofString "x") ?kxs ?kxa ?kxb ?kxc ?_; (case kxs => first | rfl | decide +kernel); (case kxa => decide +kernel); (case kxb => decide +kernel); (case kxc => (intro _; exact strict_hexx rfl (by omega) (by omega)))); intro _ _)
  k_with "joinParts" => (k_here; (with_reducible show wpAny _ _ (joinParts _ (evalEach [] _)) _ _ _); k_dflt (refine joinParts_nil ?_ (big_fits (by omega) (by omega))))
  k_fill
  w_top off
  unfold CtrE
  intro loose mean mg mb dp un gd cn cs a ccd cl outer A₀ base h₀ L m s Q E cB cF cX cN cT cK cD cU bX bT bD calm raised
  have hbs : bs.size = oc.length := by rw [← hi]; exact (KBw.ints_length bs).symm
  refine wpAny_call ?_
  k_dflt (refine' enterT ?k1 ?k2 ?k3 ?k4 ?k5 ?XB ?TB ?D ?kA ?kF ?kK ?k6 ?k7 ?k8 ?k9 ?kB ?_ ?c2 ?c3 ?c4 ?c5; (case kA => exact rfl); (case kF => exact rfl); (case kK => assumption); (case k1 => k_asm); (case k2 => k_asm); (case k3 => k_asm); (case k4 => k_asm); (case k5 => k_asm); (case XB => assumption); (case TB => assumption); (case D => assumption); (case k6 => k_is); (case k7 => k_is); (case k8 => ktr_room); (case k9 => exact BindsTo.of_eq rfl); (case c5 => decide); (case kB => exact locs rfl); (case c2 => exact rfl); (case c3 => exact rfl); (case c4 => exact rfl); k_whole; intro g' L' h' FG' F' N' B' X' T' D'; (try dsimp only); (try k_lift B'); (try k_fold))
  k_steps
  unfold Stop
  refine' whileR (σ := Str × Tok × Int × Tok × Int × Tok × Int × Tok × Nat × Tok) (fun _ => news) (fun c => [(Str.ofString "base", .str c.1 c.2.1), (Str.ofString "char", .int c.2.2.1 c.2.2.2.1), (Str.ofString "pos", .int c.2.2.2.2.1 c.2.2.2.2.2.1), (Str.ofString "bias", .int c.2.2.2.2.2.2.1 c.2.2.2.2.2.2.2.1), (Str.ofString "extpos", .int c.2.2.2.2.2.2.2.2.1 c.2.2.2.2.2.2.2.2.2), (Str.ofString "extended", .bytes bs t2), (Str.ofString "errors", .str (Str.ofString "strict") t3)]) (fun c => SPS st oc (readS oc 0 st.length 72 (-1) (-1) [] []) c.1 c.2.2.1 c.2.2.2.2.1 c.2.2.2.2.2.2.1 c.2.2.2.2.2.2.2.2.1) (fun c => oc.length - c.2.2.2.2.2.2.2.2.1) (by assumption) (by assumption) ?_ ?_
  · refine' ⟨(st, _, _, _, _, _, _, _, 0, _), by kst_in, by ((try dsimp only); (repeat (refine AllP.cons (by with_unfolding_all rfl) ?_)); exact AllP.nil), ?_⟩
    exact SPS.start
  · refine prod10 fun x tx ch tc po tp bi tb ep te u h tk hP F N Qb hb9 => ?_
    dsimp only [kstB] at F hP
    have hP0 := hP
    obtain ⟨hel, hc0, hc1, hp0, hp1, hxl, _⟩ := hP
    rcases hdec : (decF bi (oc.drop ep) []).2 with _ | nu
    · k_steps
      · refine Stop.out ?_
        k_unfold
        exact leave_onP (P := FaultR (readS oc 0 st.length 72 (-1) (-1) [] [])) FaultR.bears (by assumption) FG9 rfl (R9.mono fun vs q => ⟨_, hP0.halt (by omega) hdec, decE_fits hlen hel, q⟩) U9 fun h' R U => raised _ _ _ _ R FG' U
      · obtain ⟨sp, hs1, hs2⟩ := hP0.over (by omega)
        exact calm _ [] _ _ (by assumption) (by assumption) (fun _ _ _ h9 => nomatch h9) ⟨rfl, sp, _, hs1, by rw [← hs2]⟩
    · obtain ⟨d1, d2, _⟩ := decF_range bi (oc.drop ep) [] nu (fun _ h => nomatch h) hdec
      have d3 := decF_pos bi (oc.drop ep) []
      have d7 := hcalm _ _ _ hdec
      rw [List.length_drop] at d2
      have d4 : 0 ≤ (po + (nu + 1)).fdiv ((x.length : Int) + 1) := fdiv_up (by omega) (by omega)
      have d8 : (po + (nu + 1)).fdiv ((x.length : Int) + 1) ≤ po + (nu + 1) := fdiv_le (by omega) (by omega)
      obtain ⟨d5, d6⟩ := fmod_in (a := po + (nu + 1)) (n := (x.length : Int) + 1) (by omega)
      k_steps
      · exact big_fits (by omega) (by omega)
      · refine Stop.out (throws_calm rfl NU cU dU ?_)
        k_unfold
        exact leave_calm (P := FaultR (readS oc 0 st.length 72 (-1) (-1) [] [])) FaultR.bears (by assumption) FU NU rfl rfl nU cU dU ⟨_, hP0.big hdec (by assumption), ⟨by dsimp only; omega, by dsimp only; omega, by dsimp only; omega, by dsimp only; omega⟩, UdeR.made⟩ fun h' R U => raised _ _ _ _ (R.sub fun q hq => .tail _ hq) FG' U
      · refine' WEnd.intro (_, _, _, _, _, _, _, _, ep + (decF bi (oc.drop ep) []).1, _) (by assumption) (by assumption) (by kst_in) (by ((try dsimp only); (repeat (refine AllP.cons (by with_unfolding_all rfl) ?_)); exact AllP.nil)) (hP0.go hdec rfl (by assumption) rfl ?_ rfl ?_) ?_
        · rfl
        · rw [slices_len 1 d5 (by omega)]; rfl
        · dsimp only; omega
end
end Mine

namespace Mine
section
theorem ude_notTuple : isSubtype (.type ((Manifest.find? "UnicodeDecodeError").elim "type" fun x => x.metatype)) (.type "tuple") = pure false := by
  rw [show ((Manifest.find? "UnicodeDecodeError").elim "type" fun x => x.metatype) = "type" from by kernel_rfl, isSubtype_type]; kernel_rfl
section
variable {prog : Program} {w : World} {A : Around} {E : Value → Shared → Prop} {s : Shared} {g : Heap} {L e : Addr} {oe : Obj} {news : List (Addr × Obj)} {p : Array Value} {m : Builtin.UnicodeEncodeError.Members} {expr : Bool}
theorem ude_startN {Q : Value → Shared → Prop} (N : News g L s.heap news) (he : (e, oe) ∈ news) (hc : oe.cls = UDE) (hd : oe.data = .fields (recOf p m)) (hp : 6 ≤ p.size) (h : ∀ t k, Q (.int m.start t) { s with toks := k }) : wpAny (model prog w) A (getAttr (.ref e) "start" expr) Q E s := start_attr hp ⟨oe, (N _ he).1, hc, hd⟩ (h _ _)
theorem ude_endN {Q : Value → Shared → Prop} (N : News g L s.heap news) (he : (e, oe) ∈ news) (hc : oe.cls = UDE) (hd : oe.data = .fields (recOf p m)) (hp : 6 ≤ p.size) (h : ∀ t k, Q (.int m.stop t) { s with toks := k }) : wpAny (model prog w) A (getAttr (.ref e) "end" expr) Q E s := end_attr hp ⟨oe, (N _ he).1, hc, hd⟩ (h _ _)
theorem ude_reasonN {Q : Value → Shared → Prop} {re : Str} {tr : Tok} (N : News g L s.heap news) (he : (e, oe) ∈ news) (hc : oe.cls = UDE) (hd : oe.data = .fields (recOf p m)) (hp : 6 ≤ p.size) (hr : m.reason = .str re tr) (h : ∀ k, Q (.str re tr) { s with toks := k }) : wpAny (model prog w) A (getAttr (.ref e) "reason" expr) Q E s := reason_attr hp ⟨oe, (N _ he).1, hc, hd⟩ hr (h _)
end
section
variable {prog : Program} {w : World} {A : Around} {E : Value → Shared → Prop} {s : Shared} {env : Env}
def ThrowsN (prog : Program) (w : World) (A : Around) (Q : Flow → Shared → Prop) (E : Value → Shared → Prop) (v : Value) (s₁ : Shared) : Prop :=
  ∃ a ob vs, v = .ref a ∧ s₁.heap.get? a = some ob ∧ ob.cls = .type "UnicodeDecodeError" ∧ ob.data = .fields vs ∧ vs[1]? = some .none ∧ 5 ≤ vs.size ∧
      ∀ h', Heap.SameBut a s₁.heap h' → (∃ ob', h'.get? a = some ob' ∧ ob'.cls = .type "UnicodeDecodeError" ∧ ob'.data = .fields ((vs.setIfInBounds 3 .none).setIfInBounds 4 (.bool true))) → wpAny (model prog w) A (raiseNew (.ref a) : Sem Flow) Q E { s₁ with heap := h' }
theorem Raise_udeM {e : Expr} {pos kp : Pos} {ki : Nat} {Q : Flow → Shared → Prop} (h : wpAny (model prog w) A (eval e env) (ThrowsN prog w A Q E) E s) : wpAny (model prog w) A (exec (.Raise (some e) (some (.Constant .none ki kp)) pos) env) Q E s := Raise_udeN h
/-- raise .. from None in a suite that handles e, the made exception e2 on the ledger's head -/
theorem throws_over {g : Heap} {L e e2 : Addr} {oe oe2 : Obj} {m : Str → Option Value} {rest : List (Addr × Obj)} {vs va : Array Value} {Q : Flow → Shared → Prop} (hh : A.handled = some (.ref e)) (F : Fr g L s.heap m) (N : News g L s.heap ((e2, oe2) :: rest)) (he : (e, oe) ∈ rest) (hne : ∀ q ∈ rest, q.1 ≠ e2) (hd : oe.data = .fields vs)
    (hcx : ∃ x, vs[2]? = some x ∧ CtxN rest x) (hc : oe2.cls = UDE) (ha : oe2.data = .fields va) (h1 : va[1]? = some .none) (hsz : 5 ≤ va.size)
    (k : ∀ h' oe', Fr g L h' m → News g L h' ((e2, oe') :: rest) → oe'.cls = UDE → oe'.data = .fields (((va.setIfInBounds 3 .none).setIfInBounds 4 (.bool true)).setIfInBounds 2 (.ref e)) → E (.ref e2) { s with heap := h' }) : ThrowsN prog w A Q E (.ref e2) s := by
  refine ⟨e2, oe2, va, rfl, (N _ (.head _)).1, hc, ha, h1, hsz, fun h' sb ⟨ob', q1, q2, q3⟩ => ?_⟩
  obtain ⟨F', N'⟩ := head_turns F N hne sb q1
  exact throw_over (s := { s with heap := h' }) hh F' N' he hne hd hcx q3 (by simp; omega) fun h'' oe' F'' N'' c'' d'' => k h'' oe' F'' N'' (c''.trans q2) d''
end
theorem CtxN.sub {n1 n2 : List (Addr × Obj)} {x : Value} (h : CtxN n1 x) (s : ∀ q ∈ n1, q ∈ n2) : CtxN n2 x := h.imp id fun ⟨c, oc, cs, h1, h2, h3⟩ => ⟨c, oc, cs, h1, s _ h2, h3⟩
theorem udeN_at1 {vs : Array Value} {x : Value} (h : vs[1]? = some .none) : ((((vs.setIfInBounds 3 .none).setIfInBounds 4 (.bool true)).setIfInBounds 2 x))[1]? = some Value.none := by
  rw [Array.getElem?_setIfInBounds_ne (by decide), Array.getElem?_setIfInBounds_ne (by decide), Array.getElem?_setIfInBounds_ne (by decide)]; exact h
end
end Mine

namespace Mine
section
theorem great_byte {oc : List Int} (h : ∀ o ∈ oc, 0 ≤ o ∧ o < 128) : ∀ o ∈ greatL oc, 0 ≤ o ∧ o < 256 := fun o ho => by
  unfold greatL at ho
  obtain ⟨x, hx, rfl⟩ := List.mem_map.mp ho
  have := h x (List.mem_of_mem_drop hx)
  unfold up
  split <;> omega
end
end Mine

namespace Mine
section
theorem punyS_c (w : World) (news : List (Addr × Obj)) (bs : Array UInt8) (oc : List Int) (hi : KBw.bInts bs = oc) (t1 t3 : Tok) (hlen : oc.length ≤ 40) (hasc : ∀ o ∈ oc, 0 ≤ o ∧ o < 128) (hcalm : CalmN (greatL oc)) :
    CtrE PySem.Challenge.rw_rl0154_02.row.prog w (Mine.hd.heap_39 w.params) Mine.hd.view_39 49 4 4 [.bytes bs t1, .str (Str.ofString "strict") t3] news (fun tl r => tl = [] ∧ ∃ sp t, readS (greatL oc) 0 (headL oc).length 72 (-1) (-1) [] [] = .inr sp ∧ r = .str (Str.mk (insAll (headL oc) sp).toArray) t) (ShiftR (hyp oc oc.length + 1) (readS (greatL oc) 0 (headL oc).length 72 (-1) (-1) [] [])) false := by
  k_with_none
  k_with "execs cons" => ((try dsimp only); refine tok_any ?_; intro _; refine wpAny_execs_cons ?_)
  k_with "eval Name" => (k_here; k_dflt (refine' nameV_L ?nv1 ?nv2 ?_ ?nv3 ?nv4; (case nv1 => k_asm); (case nv3 => rfl); (case nv4 => rfl); (case nv2 => rfl); k_whole))
  k_with "exec If" => (k_here; (with_reducible rename BMark => bm9); (with_reducible show wpAny _ _ (exec (Stmt.If (Expr.Compare _ _ _ _) _ _ _) _) _ _ _); (refine Stop.intro ?_))
  k_with "getMethod bytes" => (k_here; (with_reducible refine m_rfind ?_))
  k_with "getMethod bytes" => (k_here; (with_reducible refine m_upper ?_))
  k_with "call builtin:bytes.rfind" => (k_here; k_dflt (refine r_rfind ?_; intro t9 k9; (try dsimp only)))
  k_with "call builtin:bytes.upper" => (k_here; k_dflt (refine' r_upper ?hz ?_; (case hz => first | omega | exact Nat.le_trans (KBc.size_picked_le _ _ _) (by omega)); intro t9 k9; (try dsimp only)))
  k_with "call type:str" => (k_here; k_dflt (refine' r_strA ?hb ?hz ?he ?_; (case hb => exact picked_asc (by assumption)); (case hz => exact Nat.le_trans (KBc.size_picked_le _ _ _) (by omega)); (case he => exact .inr (.inr rfl)); intro t9 k9; (try dsimp only)))
  k_with "call ref cons nil" => (k_here; k_dflt (refine' CtrE.ask (insortS_c _ _ _ _ _ ?h1 _ _ _ ?h3 ?h4 ?h5 ?h6) (calm := ?_) (raised := ?_); (case h1 => assumption); (case h3 => assumption); (case h4 => first | assumption | decide); (case h5 => assumption); (case h6 => assumption)); rotate_left; (intro e9 h9 tk9 G9 R9 FG9 U9); (refine Stop.intro ?_); rotate_right; intro r9 tl9 h9 tk9 F9 N9 hl9 hR9; obtain ⟨ht9, sp9, t9, hs9, he9⟩ := hR9; subst ht9; subst he9; clear hl9; (simp only [List.nil_append] at N9); (try k_sweep); (try dsimp only); (try k_fold))
  k_with "exec Raise some some" => (k_here; (with_reducible refine Raise_udeM ?_))
  k_with "ThrowsN" => (refine Stop.intro ?_)
  k_with "getAttr ref" => (k_here; (with_reducible show wpAny _ _ (getAttr _ ("start" : Str) _) _ _ _); k_dflt (refine' ude_startN ?gN ?gm ?gc ?gd ?gp ?_; (case gN => k_asm); (case gm => k_mem); (case gc => assumption); (case gd => assumption); (case gp => assumption); k_whole); intro t9 k9)
  k_with "getAttr ref" => (k_here; (with_reducible show wpAny _ _ (getAttr _ ("end" : Str) _) _ _ _); k_dflt (refine' ude_endN ?gN ?gm ?gc ?gd ?gp ?_; (case gN => k_asm); (case gm => k_mem); (case gc => assumption); (case gd => assumption); (case gp => assumption); k_whole); intro t9 k9)
  k_with "getAttr ref" => (k_here; (with_reducible show wpAny _ _ (getAttr _ ("reason" : Str) _) _ _ _); k_dflt (refine' ude_reasonN ?gN ?gm ?gc ?gd ?gp ?gr ?_; (case gN => k_asm); (case gm => k_mem); (case gc => assumption); (case gd => assumption); (case gp => assumption); (case gr => assumption); k_whole); intro k9)
  k_with "call type:UnicodeDecodeError" => (k_here; k_dflt (refine' call_udeN ?uF ?uN ?u0 ?u1 ?u2 ?u3 ?_; (case uF => k_asm); (case uN => k_asm); (case u0 => omega); (case u1 => omega); (case u2 => omega); (case u3 => omega); k_whole); intro hU eU oU tU FU NU nU cU dU; (try k_sweep))
  k_fill
  w_top off
  unfold CtrE
  intro loose mean mg mb dp un gd cn cs a ccd cl outer A₀ base h₀ L m s Q E cB cF cX cN cT cK cD cU bX bT bD calm raised
  have hbs : bs.size = oc.length := by rw [← hi]; exact (KBw.ints_length bs).symm
  have hrf := rfI_hyp hi
  obtain ⟨q1, q2⟩ := hyp_range oc oc.length
  refine wpAny_call ?_
  k_dflt (refine' enterT ?k1 ?k2 ?k3 ?k4 ?k5 ?XB ?TB ?D ?kA ?kF ?kK ?k6 ?k7 ?k8 ?k9 ?kB ?_ ?c2 ?c3 ?c4 ?c5; (case kA => exact rfl); (case kF => exact rfl); (case kK => assumption); (case k1 => k_asm); (case k2 => k_asm); (case k3 => k_asm); (case k4 => k_asm); (case k5 => k_asm); (case XB => assumption); (case TB => assumption); (case D => assumption); (case k6 => k_is); (case k7 => k_is); (case k8 => ktr_room); (case k9 => exact BindsTo.of_eq rfl); (case c5 => decide); (case kB => exact locs rfl); (case c2 => exact rfl); (case c3 => exact rfl); (case c4 => exact rfl); k_whole; intro g' L' h' FG' F' N' B' X' T' D'; (try dsimp only); (try k_lift B'); (try k_fold))
  have hb0 := asc_of hi (fun o ho => (hasc o ho).2)
  have hgl : (greatL oc).length ≤ 40 := Nat.le_trans (greatL_len oc) hlen
  have hgb := great_byte hasc
  have hhl := Nat.le_trans (headL_len oc) hlen
  rw [← hrf] at q1 q2
  have bm9 : BMark := True.intro
  k_steps
  unfold Stop
  rename Fr _ _ _ _ => FB
  rename News _ _ _ _ => NB
  refine' st_join2 FB NB [(Str.ofString "pos", .int (rfI bs) ?tp9), (Str.ofString "text", .bytes bs t1), (Str.ofString "errors", .str (Str.ofString "strict") t3)] (Str.ofString "base") (Str.ofString "extended") (fun v w => ∃ x tx ub tu, v = .str x tx ∧ w = .bytes ub tu ∧ x.cps.toList = headL oc ∧ KBw.bInts ub = greatL oc) ?kpx ?hix ?kx
  case kpx => ((try dsimp only); (repeat (refine AllP.cons (by with_unfolding_all rfl) ?_)); exact AllP.nil)
  case hix =>
    intro Q2 ret2
    clear bm9
    rcases Int.lt_or_le (rfI bs) 0 with hneg | hpos
    · have hm : rfI bs = -1 := by omega
      obtain ⟨e1, e2⟩ := puny_neg (hrf ▸ hm)
      have hu9 := (ints_upper hi).trans e2.symm
      k_steps
      · exact ret2 _ _ _ _ _ (by assumption) (by assumption) (by ((try dsimp only); (repeat (refine AllP.cons (by with_unfolding_all rfl) ?_)); exact AllP.nil)) ⟨_, _, _, _, rfl, rfl, by rw [e1]; rfl, hu9⟩
      · omega
    · have hm : ¬ rfI bs = -1 := by omega
      have hu9 := puny_tail hi (hrf ▸ hpos)
      have e1 := puny_head hi (hrf ▸ hpos)
      rw [← hrf] at hu9 e1
      k_steps
      · omega
      · exact ret2 _ _ _ _ _ (by assumption) (by assumption) (by ((try dsimp only); (repeat (refine AllP.cons (by with_unfolding_all rfl) ?_)); exact AllP.nil)) ⟨_, _, _, _, rfl, rfl, e1, hu9⟩
  case kx =>
    rintro _ _ h8 tk8 u8 F8 N8 ⟨x, tx, ub, tu, rfl, rfl, ec, hu9⟩
    dsimp only [kstB] at F8
    clear bm9
    have el : (headL oc).length = x.length := by rw [← ec]; simp [Str.length]
    have hst : x.length ≤ 60 := by rw [← el]; omega
    k_steps
    · exact calm _ [] _ _ (by assumption) (by assumption) (fun _ _ _ h9 => nomatch h9) ⟨rfl, _, _, by rw [el]; assumption, by rw [← ec]⟩
    · refine Stop.out ?_
      refine caughtP FaultR.bears R9 FG9 (by assumption) U9 fun h1 B1 Y1 U1 => ?_
      refine handle_asP FaultR.bears Y1 FG9 (by assumption) U1 bX bT (by assumption) ?_ PyProof.Rows.Boot.«UnicodeDecodeError» (by decide) ude_base ude_notTuple ude_self fun h2 g2 tk2 oe vs rest T2 F2 c2 d2 p2 x2 N2 s2 n2 K2 X2 P2 D2 => ?_
      · k_is
      obtain ⟨f, hf1, hf2, pp, mm, tr, q1, rfl, q2, q3, q4⟩ := p2
      obtain ⟨x5, x6⟩ := x2 rfl
      obtain ⟨z1, z2, z3, z4⟩ := hf2
      try k_lift K2
      k_steps
      refine Stop.out (throws_over rfl FU NU (.head _) nU d2 ⟨x5, x6.1, x6.2.sub fun q hq => .tail _ hq⟩ cU dU ude_at1 (by rw [ude_size]; decide) fun h5 oe5 F5 N5 c5 d5 => ?_)
      refine leave_suiteP (cx := false) (P := ShiftR (hyp oc oc.length + 1) (readS (greatL oc) 0 (headL oc).length 72 (-1) (-1) [] [])) (news' := news) ShiftR.bears (by assumption) F5 N5 rfl rfl rfl rfl (.head _) d5 (udeN_at1 ude_at1) ?_ (fun q => nomatch q) (fun q => nomatch q) (fun q hq => ⟨.tail _ (.tail _ (s2 q hq)), nU q (.tail _ (s2 q hq))⟩) fun h6 tk6 R U => raised _ _ _ _ ((c5 ▸ R).back T2) FG' ((turn_slots T2).trans U)
      refine ⟨f, by rw [el]; exact hf1, UdeR.set (UdeR.set (UdeR.set ?_ (by decide)) (by decide)) (by decide)⟩
      have e9 : shiftF (hyp oc oc.length + 1) f = (rfI bs + 1 + mm.start, rfI bs + 1 + mm.stop, f.2.2) := by unfold shiftF; rw [q2, q3, hrf]
      rw [e9]
      exact UdeR.made
end
end Mine

namespace Mine
section
def hexD (n : Nat) : List Nat := (Nat.toDigits 16 n).map Char.toNat
theorem hexD_lt {n : Nat} (h : n < 16) : hexD n = [n.digitChar.toNat] := by unfold hexD; rw [Nat.toDigits_of_lt_base h]; rfl
theorem hexD_ge {n : Nat} (h : 16 ≤ n) : hexD n = hexD (n / 16) ++ [(n % 16).digitChar.toNat] := by unfold hexD; rw [Nat.toDigits_of_base_le (by decide) h]; simp
structure HexP (N n : Int) (wd : Str) : Prop where
  low : 0 ≤ n
  high : n ≤ N
  long : wd.length ≤ (hexS N).length
  told : (n = 0 → wd.cps.toList = hexD N.toNat) ∧ (0 < n → hexD n.toNat ++ wd.cps.toList = hexD N.toNat)
theorem hexS_list {N : Int} (h : 0 ≤ N) : (hexS N).cps.toList = hexD N.toNat := by
  unfold hexS hexD
  have e : N.natAbs = N.toNat := by omega
  rw [e]
theorem HexP.start {N : Int} (h : 0 < N) : HexP N N (Str.ofString "") :=
  ⟨Int.le_of_lt h, Int.le_refl _, by rw [show (Str.ofString "").length = 0 from by decide]; exact Nat.zero_le _, fun q => by omega, fun _ => by
    rw [show (Str.ofString "").cps.toList = [] from by decide, List.append_nil]⟩
theorem HexP.done {N n : Int} {wd : Str} (h : HexP N n wd) (hN : 0 < N) (hn : ¬ 0 < n) : wd = hexS N := by
  have h1 := h.told.1 (by have := h.low; omega)
  rw [← hexS_list (Int.le_of_lt hN)] at h1
  obtain ⟨⟨l⟩⟩ := wd
  have h2 := str_of_list (x := hexS N) (l := l) h1.symm
  rw [h2]
theorem HexP.turn {N n : Int} {wd y : Str} (h : HexP N n wd) (hN : 0 < N) (hn : 0 < n) (hy : y.cps.toList = [(n.toNat % 16).digitChar.toNat]) : HexP N (n.fdiv 16) (y ++ wd) := by
  obtain ⟨h1, h2, h3, h4⟩ := h
  have ht := h4.2 hn
  have e0 : n.fdiv 16 = n / 16 := Int.fdiv_eq_ediv_of_nonneg _ (by decide)
  have e1 : (n.fdiv 16).toNat = n.toNat / 16 := by rw [e0]; omega
  have hcs : (y ++ wd).cps.toList = (n.toNat % 16).digitChar.toNat :: wd.cps.toList := by
    show (y.cps ++ wd.cps).toList = _
    rw [Array.toList_append, hy]; rfl
  have all : (n.fdiv 16 = 0 → (y ++ wd).cps.toList = hexD N.toNat) ∧ (0 < n.fdiv 16 → hexD (n.fdiv 16).toNat ++ (y ++ wd).cps.toList = hexD N.toNat) := by
    by_cases h16 : n.toNat < 16
    · rw [hexD_lt h16] at ht
      have em : n.toNat % 16 = n.toNat := Nat.mod_eq_of_lt h16
      refine ⟨fun _ => by rw [hcs, em]; exact ht, fun q => ?_⟩
      rw [e0] at q; omega
    · rw [hexD_ge (by omega), List.append_assoc, List.singleton_append] at ht
      refine ⟨fun q => ?_, fun _ => by rw [hcs, e1]; exact ht⟩
      rw [e0] at q; omega
  refine ⟨by rw [e0]; omega, by rw [e0]; omega, ?_, all⟩
  have hl : (y ++ wd : Str).length = (y ++ wd).cps.toList.length := by simp [Str.length]
  have hN' : (hexS N).length = (hexD N.toNat).length := by rw [← hexS_list (Int.le_of_lt hN)]; simp [Str.length]
  rw [hl, hN']
  rcases Int.lt_or_le 0 (n.fdiv 16) with q | q
  · rw [← all.2 q, List.length_append]; omega
  · rw [all.1 (by rw [e0] at q ⊢; omega)]; exact Nat.le_refl _
theorem hex_items : ∀ k : _root_.Fin 16, (Txt.item (Str.ofString "0123456789abcdef") ((k.val : Nat) : Int)).cps.toList = [k.val.digitChar.toNat] := by decide +kernel
theorem hex_item {n : Int} (h : 0 ≤ n) : (Txt.item (Str.ofString "0123456789abcdef") (n.fmod 16)).cps.toList = [(n.toNat % 16).digitChar.toNat] := by
  have e : n.fmod 16 = ((n.toNat % 16 : Nat) : Int) := by rw [Int.fmod_eq_emod_of_nonneg _ (by decide)]; omega
  rw [e]
  exact hex_items ⟨n.toNat % 16, Nat.mod_lt _ (by decide)⟩
theorem hex_less {n : Int} (h : 0 < n) : (n.fdiv 16).toNat < n.toNat := by rw [Int.fdiv_eq_ediv_of_nonneg _ (by decide)]; omega
end
end Mine

namespace Mine
section
theorem hexS_len4 {a : Int} (h0 : 0 ≤ a) (h1 : a < 2 ^ 256) : (hexS a).length ≤ 64 := by
  have e : (hexS a).length = (Nat.toDigits 16 a.natAbs).length := by simp [hexS, Str.length]
  rw [e]
  have h2 : a.natAbs < 16 ^ (63 + 1) := by
    have e2 : (16 : Nat) ^ (63 + 1) = 2 ^ 256 := by decide
    rw [e2]
    omega
  exact hex_len 63 _ h2
/-- a tuple of two ints and a text -/
abbrev tup3 (f : Fault) (t1 t2 t3 : Tok) : Obj := { cls := .type "tuple", data := .seq #[.int f.1 t1, .int f.2.1 t2, .str f.2.2 t3] }
def ReadR (RES : Fault ⊕ List (Int × Int)) (st : Str) (tl : List (Addr × Obj)) (r : Value) : Prop :=
  (∃ f D t1 t2 t3, RES = .inl f ∧ r = .ref D ∧ tl = [(D, tup3 f t1 t2 t3)]) ∨ (∃ sp t, RES = .inr sp ∧ tl = [] ∧ r = .str (Str.mk (insAll st.cps.toList sp).toArray) t)
/-- what is asked of the octets, be they a list or bytes: their length, an item -/
def SeqR (prog : Program) (w : World) (it : Value) (lx : List (Addr × Obj)) (oc : List Int) : Prop :=
  (∀ {A : Around} {E : Value → Shared → Prop} {s : Shared} {h₀ : Heap} {L : Addr} {news : List (Addr × Obj)} {Q : Value → Shared → Prop}, News h₀ L s.heap news → (∀ p ∈ lx, p ∈ news) → (∀ t k, Q (.int oc.length t) { s with toks := k }) → wpAny (model prog w) A (call (.builtin "len") [it]) Q E s) ∧
  (∀ {A : Around} {E : Value → Shared → Prop} {s : Shared} {h₀ : Heap} {L : Addr} {news : List (Addr × Obj)} {Q : Value → Shared → Prop} {value : Expr} {x : Str} {pos : Pos} {i o : Int} {u : Tok}, News h₀ L s.heap news → (∀ p ∈ lx, p ∈ news) → 0 ≤ i → oc[i.toNat]? = some o → (∀ t k, Q (.int o t) { s with toks := k }) → wpAny (model prog w) A (subscriptTail value (.Name x pos) it (.int i u)) Q E s)
theorem SeqR.list {prog : Program} {w : World} {l : Addr} {vs : List Value} {nn : Nat} {oc : List Int} (hi : IntsAre vs oc) (hlen : oc.length ≤ 40) : SeqR prog w (.ref l) [(l, listOf vs.toArray nn)] oc := by
  have hl := hi.length
  refine ⟨fun N hx k => ?_, fun N hx h0 ho k => ?_⟩
  · refine r_len N (hx _ (.head _)) (by omega) ?_
    rw [hl]; exact k _ _
  · obtain ⟨t, ht⟩ := hi.get _ _ ho
    exact r_sub N (hx _ (.head _)) h0 ht (by omega) (k _ _)
theorem SeqR.bytes {prog : Program} {w : World} {bs : Array UInt8} {tb : Tok} {oc : List Int} (hi : KBw.bInts bs = oc) (hlen : oc.length ≤ 40) : SeqR prog w (.bytes bs tb) [] oc := by
  have hb : bs.size = oc.length := by rw [← hi]; exact (KBw.ints_length bs).symm
  exact ⟨fun N hx k => KBw.len_K hi (by omega) (k _ _), fun N hx h0 ho k => r_bitem hi h0 (by omega) ho (k _ _)⟩
/-- where the strict reading stands -/
structure RSS (n : Nat) (oc : List Int) (RES : Fault ⊕ List (Int × Int)) (news : List (Addr × Obj)) (i : Nat) (c : RS) (place : Int) : Prop where
  at_ : i ≤ oc.length
  base : ∃ X, RSP n oc X news i c
  res : readS (oc.drop i) i c.size c.bias c.hour place c.figs c.sp = RES
  hi : c.hour ≤ 2 ^ 40
  lo : -1 ≤ c.hour
theorem RSS.start {n : Nat} {oc : List Int} {news : List (Addr × Obj)} {ts tb th : Tok} {Df Ds : Addr} (hF : ∀ p ∈ news, p.1 ≠ Df) (hS : ∀ p ∈ news, p.1 ≠ Ds) (hD : neN' Df Ds) :
    RSS n oc (readS oc 0 n 72 (-1) (-1) [] []) news 0 ⟨(n : Int), ts, 72, tb, -1, th, Df, [], 0, Ds, [], 0, news, [], []⟩ (-1) :=
  ⟨Nat.zero_le _, ⟨_, RSP.start hF hS hD⟩, rfl, by dsimp only; decide, by dsimp only; decide⟩
theorem RSS.bad {n : Nat} {oc : List Int} {RES : Fault ⊕ List (Int × Int)} {news : List (Addr × Obj)} {i : Nat} {c : RS} {place : Int} (h : RSS n oc RES news i c place) {o : Int} (ho : oc[i]? = some o) (hd : dig o = none) : RES = .inl ((i : Int), (i : Int) + 1, badText o) := by
  have h1 := h.res
  rw [drop_of ho, readS_bad hd] at h1
  exact h1.symm
theorem RSS.go {n : Nat} {oc : List Int} {RES : Fault ⊕ List (Int × Int)} {news : List (Addr × Obj)} {i : Nat} {size : Int} {ts : Tok} {bias : Int} {tb : Tok} {hour : Int} {th : Tok} {Df : Addr} {fv : List Value} {fe : Nat} {Ds : Addr} {sv : List Value} {se : Nat} {rest : List (Addr × Obj)} {figs : List Int} {sp : List (Int × Int)} {place : Int}
    (h : RSS n oc RES news i ⟨size, ts, bias, tb, hour, th, Df, fv, fe, Ds, sv, se, rest, figs, sp⟩ place) {o d : Int} {t : Tok} (ho : oc[i]? = some o) (hd : dig o = some d) (hn : ¬ d < tF figs.length bias) :
    RSS n oc RES news (i + 1) ⟨size, ts, bias, tb, hour, th, Df, fv ++ [.int d t], fe + 1, Ds, sv, se, rest, figs ++ [d], sp⟩ place := by
  obtain ⟨X, hX⟩ := h.base
  have h1 := h.res
  dsimp only at h1
  rw [drop_of ho, readS_go hd hn] at h1
  exact ⟨(List.getElem?_eq_some_iff.mp ho).1, ⟨X, hX.go ho hd hn⟩, h1, h.hi, h.lo⟩
theorem RSS.big {n : Nat} {oc : List Int} {RES : Fault ⊕ List (Int × Int)} {news : List (Addr × Obj)} {i : Nat} {c : RS} {place : Int} (h : RSS n oc RES news i c place) {o d : Int} (ho : oc[i]? = some o) (hd : dig o = some d) (hn : d < tF c.figs.length c.bias) (hb : 1114111 < (c.hour + (numF c.bias 0 (c.figs ++ [d]) + 1)).fdiv (c.size + 1) + 128) :
    RES = .inl (place + (numF c.bias 0 (c.figs ++ [d]) + 1) - 1, place + (numF c.bias 0 (c.figs ++ [d]) + 1), bigText ((c.hour + (numF c.bias 0 (c.figs ++ [d]) + 1)).fdiv (c.size + 1) + 128)) := by
  have h1 := h.res
  rw [drop_of ho, readS_big hd hn hb] at h1
  exact h1.symm
theorem RSS.turn {n : Nat} {oc : List Int} {RES : Fault ⊕ List (Int × Int)} {news : List (Addr × Obj)} {i : Nat} {size : Int} {ts : Tok} {bias : Int} {tb : Tok} {hour : Int} {th : Tok} {Df : Addr} {fv : List Value} {fe : Nat} {Ds : Addr} {sv : List Value} {se : Nat} {rest : List (Addr × Obj)} {figs : List Int} {sp : List (Int × Int)} {place : Int}
    (h : RSS n oc RES news i ⟨size, ts, bias, tb, hour, th, Df, fv, fe, Ds, sv, se, rest, figs, sp⟩ place) {o d : Int} (ho : oc[i]? = some o) (hd : dig o = some d) (hlt : d < tF figs.length bias) (hlen : oc.length ≤ 40) (hst : n ≤ 60)
    {s pl bi hr : Int} {ts' tb' th' t t' : Tok} {Dt Dn : Addr} {k : Nat} (hs : s = (hour + (numF bias 0 (figs ++ [d]) + 1)).fdiv (size + 1) + 128) (hb : ¬ 1114111 < s) (hpl : pl = (hour + (numF bias 0 (figs ++ [d]) + 1)).fmod (size + 1))
    (hbi : bi = biasF (numF bias 0 (figs ++ [d])) (sp.length == 0) (size + 1)) (hhr : hr = (s - 128) * (size + 1 + 1) + pl) (a1 : neN' Dt Ds) (a2 : neN' Dt Dn) (a3 : neN' Dn Ds) (a4 : AllLt Dn rest) :
    RSS n oc RES news (i + 1) ⟨size + 1, ts', bi, tb', hr, th', Dn, [], 0, Ds, sv ++ [.ref Dt], se + 1, (Dt, pairObj s pl t t' k) :: rest, [], sp ++ [(s, pl)]⟩ pl := by
  obtain ⟨X, hX⟩ := h.base
  have h1 := h.res
  dsimp only at h1
  rw [drop_of ho, readS_turn hd hlt (hs ▸ hb), ← hpl, ← hs, ← hbi, ← hhr] at h1
  have hfl := hX.flen
  have hsl := hX.slen
  have hsz := hX.size
  have hlo := h.lo
  dsimp only at hfl hsl hsz hlo
  have hil := (List.getElem?_eq_some_iff.mp ho).1
  have hnu := numF_fit (b := bias) (j := 0) (ns := figs ++ [d]) (by simp; omega) (fig_app hX.fin (dig_range hd).1 (dig_range hd).2)
  have hnu0 := hnu.1
  have hs1 : 0 < size + 1 := by omega
  obtain ⟨p0, p1⟩ := fmod_in (a := hour + (numF bias 0 (figs ++ [d]) + 1)) hs1
  rw [← hpl] at p0 p1
  have hz : 0 ≤ (hour + (numF bias 0 (figs ++ [d]) + 1)).fdiv (size + 1) := fdiv_up (by omega) (by omega)
  have hs128 : 128 ≤ s := by omega
  have hm1 : (s - 128) * (size + 1 + 1) ≤ 1114111 * (size + 1 + 1) := Int.mul_le_mul_of_nonneg_right (by omega) (by omega)
  have hm0 : 0 ≤ (s - 128) * (size + 1 + 1) := Int.mul_nonneg (by omega) (by omega)
  refine ⟨hil, ⟨X, hX.turn ho hd hlt hlen ?_ hpl hbi hhr a1 a2 a3 a4⟩, h1, by dsimp only; omega, by dsimp only; omega⟩
  rw [hs]
  exact signOf_small (hs ▸ hb)
theorem RSS.over {n : Nat} {oc : List Int} {RES : Fault ⊕ List (Int × Int)} {news : List (Addr × Obj)} {i : Nat} {c : RS} {place : Int} (h : RSS n oc RES news i c place) (hi : oc.length ≤ i) :
    (c.figs = [] → RES = .inr c.sp) ∧ (c.figs ≠ [] → RES = .inl ((i : Int), (i : Int) + 1, shortText)) := by
  have h1 := h.res
  rw [List.drop_eq_nil_of_le hi] at h1
  constructor
  · intro q
    rw [q] at h1
    exact h1.symm
  · intro q
    cases hf : c.figs with
    | nil => exact absurd hf q
    | cons a l => rw [hf] at h1; exact h1.symm
theorem sign_fits {hour nu size : Int} (h1 : hour ≤ 2 ^ 40) (h2 : -1 ≤ hour) (hf : Fit nu) (hs : 0 ≤ size) : (hour + (nu + 1)).fdiv (size + 1) + 128 < 2 ^ 256 := by
  have := hf.1
  have h3 := hf.2
  have := fdiv_le (a := hour + (nu + 1)) (n := size + 1) (by omega) (by omega)
  omega
theorem empty_app (x : Str) : Str.empty ++ x = x := by
  show Str.mk (Str.empty.cps ++ x.cps) = x
  have e : Str.empty.cps = #[] := by decide
  rw [e]; simp
theorem bigText_eq {s : Int} : Str.ofString "Invalid character U+" ++ hexS s = bigText s := by unfold bigText; rw [empty_app]
theorem badText_eq {o : Int} : Str.ofString "Invalid extended code point '" ++ Str.ofString (toString o) ++ Str.ofString "'" = badText o := by unfold badText; rw [empty_app]
theorem ReadR.bad {RES : Fault ⊕ List (Int × Int)} {st : Str} {D : Addr} {a b : Int} {x : Str} {t1 t2 t3 : Tok} {f : Fault} (h : RES = .inl f) (e1 : a = f.1) (e2 : b = f.2.1) (e3 : x = f.2.2) : ReadR RES st [(D, { cls := .type "tuple", data := .seq #[.int a t1, .int b t2, .str x t3] })] (.ref D) := by
  subst e1 e2 e3
  exact .inl ⟨f, D, t1, t2, t3, h, rfl, rfl⟩
end
end Mine

namespace Mine
section
theorem sixteens_c (w : World) (news : List (Addr × Obj)) (nn : Int) (t1 : Tok) (h0 : 0 < nn) (h1 : nn < 2 ^ 256) :
    Ctr PySem.Challenge.rw_rl0154_02.row.prog w (Mine.hd.heap_39 w.params) Mine.hd.view_39 77 1 1 [.int nn t1] news (fun tl r => tl = [] ∧ ∃ t, r = .str (hexS nn) t) := by
  k_with_none
  k_with "exec While Compare cons nil" => (refine Stop.intro ?_)
  k_with "execs cons" => ((try dsimp only); refine tok_any ?_; intro _; refine wpAny_execs_cons ?_)
  k_with "eval Name" => (k_here; k_dflt (refine' nameV_L ?nv1 ?nv2 ?_ ?nv3 ?nv4; (case nv1 => k_asm); (case nv3 => rfl); (case nv4 => rfl); (case nv2 => rfl); k_whole))
  k_with "Blk" => (refine hb9 _ _ ?_; dsimp only [WPost])
  k_fill
  w_top off
  unfold Ctr
  intro loose mean mg mb dp un gd cn cs a ccd cl outer A₀ base h₀ L m s Q E cB cF cX cN cT cK cD cU hret
  refine wpAny_call ?_
  k_dflt cell_enter
  k_steps
  unfold Stop
  refine' whileR (σ := Int × Tok × Str × Tok) (fun _ => news) (fun c => [(Str.ofString "number", .int c.1 c.2.1), (Str.ofString "word", .str c.2.2.1 c.2.2.2)]) (fun c => HexP nn c.1 c.2.2.1) (fun c => c.1.toNat) (by assumption) (by assumption) ?_ ?_
  · refine' ⟨(_, _, _, _), by kst_in, by ((try dsimp only); (repeat (refine AllP.cons (by with_unfolding_all rfl) ?_)); exact AllP.nil), ?_⟩
    exact HexP.start h0
  · refine prod4 fun n tn wd tw u h tk hP F N Qb hb9 => ?_
    dsimp only [kstB] at F hP
    have hP0 := hP
    obtain ⟨p1, p2, p3, p4⟩ := hP
    have p5 := hexS_len4 (Int.le_of_lt h0) h1
    k_steps
    · refine' WEnd.intro (_, _, _, _) (by assumption) (by assumption) (by kst_in) (by ((try dsimp only); (repeat (refine AllP.cons (by with_unfolding_all rfl) ?_)); exact AllP.nil)) (hP0.turn h0 (by assumption) (hex_item p1)) ?_
      exact hex_less (by assumption)
    · exact hret _ [] _ _ (by assumption) (by assumption) (fun _ _ _ h9 => nomatch h9) ⟨rfl, _, by rw [hP0.done h0 (by assumption)]⟩
end
end Mine

namespace Mine
section
local macro_rules | `(tactic| k_all) => `(tactic| assumption)
theorem readS_c (w : World) (news : List (Addr × Obj)) (st : Str) (t2 : Tok) (it : Value) (lx : List (Addr × Obj)) (oc : List Int) (hlx : ∀ p ∈ lx, p ∈ news) (H : SeqR PySem.Challenge.rw_rl0154_02.row.prog w it lx oc) (hlen : oc.length ≤ 40) (hst : st.length ≤ 60) (hby : ∀ o ∈ oc, 0 ≤ o ∧ o < 256) :
    Ctr PySem.Challenge.rw_rl0154_02.row.prog w (Mine.hd.heap_39 w.params) Mine.hd.view_39 91 4 4 [.str st t2, it] news (fun tl r => ReadR (readS oc 0 st.length 72 (-1) (-1) [] []) st tl r) := by
  k_with_none
  k_with "pyIter ref" => (refine Stop.intro ?_)
  k_with "execs cons" => ((try dsimp only); refine tok_any ?_; intro _; refine wpAny_execs_cons ?_)
  k_with "eval Name" => (k_here; k_dflt (refine' nameV_L ?nv1 ?nv2 ?_ ?nv3 ?nv4; (case nv1 => k_asm); (case nv3 => rfl); (case nv4 => rfl); (case nv2 => rfl); k_whole))
  k_with "isTrue Compare" => (k_here; k_dflt (refine' isTrue_between ?bt1 ?bt2 ?_ ?_ ?bt3 ?bt4; (case bt1 => k_asm); (case bt3 => rfl); (case bt4 => rfl); (case bt2 => rfl); k_whole); (all_goals intros))
  k_with "Blk" => (refine hb9 _ _ ?_; dsimp only [FPost])
  k_with "call ref cons nil" => (k_here; k_dflt (refine' Ctr.ask (least_c _ _ _ _ _ _) (ret := ?_)); intro r9 tl9 h9 tk9 F9 N9 hl9 hR9; obtain ⟨ht9, t9, he9, hx9, hy9⟩ := hR9; subst ht9; subst he9; clear hl9; (simp only [List.nil_append] at N9); (try k_sweep); (try dsimp only); (try k_fold))
  k_with "call ref cons nil" => (k_here; k_dflt (refine' Ctr.ask (number_c _ _ _ _ _ _ _ _ ?h1 ?h2 ?h3 ?h4) (ret := ?_)); (case h1 => k_mem); (case h2 => exact intsAre_app (by with_reducible assumption)); (case h3 => (simp only [List.length_append, List.length_cons, List.length_nil]; omega)); (case h4 => exact fig_app (by with_reducible assumption) (by omega) (by omega)); intro r9 tl9 h9 tk9 F9 N9 hl9 hR9; obtain ⟨ht9, t9, he9, hx9⟩ := hR9; subst ht9; subst he9; clear hl9; (simp only [List.nil_append] at N9); (try k_sweep); (try dsimp only); (try k_fold))
  k_with "call ref cons nil" => (k_here; k_dflt (refine' Ctr.ask (bias_c _ _ _ _ _ _ _ ?h1 ?h2 ?h3 ?h4) (ret := ?_)); (case h4 => with_reducible assumption); (case h1 => exact Fit.nonneg (by with_reducible assumption)); (case h2 => omega); (case h3 => omega); intro r9 tl9 h9 tk9 F9 N9 hl9 hR9; obtain ⟨ht9, t9, he9⟩ := hR9; subst ht9; subst he9; clear hl9; (simp only [List.nil_append] at N9); (try k_sweep); (try dsimp only); (try k_fold))
  k_with "call ref cons nil" => (k_here; k_dflt (refine' Ctr.ask (seated_c _ _ _ _ _ _ _ _ ?h1 ?h2 ?h3 ?h4 ?h5) (ret := ?_)); (case h1 => k_mem); (case h2 => exact StoryIn.sub (by with_reducible assumption) (by kst_in)); (case h3 => omega); (case h4 => omega); (case h5 => with_reducible assumption); intro r9 tl9 h9 tk9 F9 N9 hl9 hR9; obtain ⟨ht9, t9, he9⟩ := hR9; subst ht9; subst he9; clear hl9; (simp only [List.nil_append] at N9); (try k_sweep); (try dsimp only); (try k_fold))
  k_with "call builtin:list.append cons nil" => (k_here; k_dflt (first | (refine' r_append ?k1 ?k2 ?k3 ?k4 ?_; (case k1 => k_asm); (case k2 => k_asm); (case k3 => k_upd); (case k4 => omega); k_whole) | ((rename News _ _ _ _ => nX); (replace nX := news_cut2 nX); refine' r_append ?k1 ?k2 ?k3 ?k4 ?_; (case k1 => k_asm); (case k2 => exact nX); (case k3 => k_upd); (case k4 => omega); k_whole)); intro h' F' N'; (try k_sweep))
  k_with "subscriptTail" => (k_here; (with_reducible show wpAny _ _ (subscriptTail _ _ (Value.ref _) (Value.int _ _)) _ _ _); k_dflt (refine' r_last ?k1 ?k2 ?k3 ?_; (case k1 => k_asm); (case k2 => k_mem); (case k3 => omega); k_whole))
  k_with "call builtin:len cons nil" => (k_here; (with_reducible show wpAny _ _ (call (Value.builtin "len") [Value.ref _]) _ _ _); k_dflt (refine' r_len ?k1 ?k2 ?k3 ?_; (case k1 => k_asm); (case k2 => k_mem); (case k3 => (first | omega | (simp only [List.length_append, List.length_cons, List.length_nil]; omega))); k_whole))
  k_with "call ref cons nil" => (k_here; k_dflt (refine' Ctr.ask (sixteens_c _ _ _ _ ?h1 ?h2) (ret := ?_)); (case h1 => omega); (case h2 => exact sign_fits hhi hlo (by assumption) (by omega)); intro r9 tl9 h9 tk9 F9 N9 hl9 hR9; obtain ⟨ht9, t9, he9⟩ := hR9; subst ht9; subst he9; clear hl9; (have ql9 := hexS_len4 (a := (hour + (numF bias 0 (figs ++ [o - 65]) + 1)).fdiv (size + 1) + 128) (by omega) (sign_fits hhi hlo (by assumption) (by omega))); (simp only [List.nil_append] at N9); (try k_sweep); (try dsimp only); (try k_fold))
  k_with "subscriptTail" => (k_here; (with_reducible show wpAny _ _ (subscriptTail _ (Expr.Name _ _) _ (Value.int _ _)) _ _ _); k_dflt (refine' H.2 ?sN ?sx ?s0 ?so ?_; (case sN => k_asm); (case so => with_reducible assumption); (case sx => (intro p9 hp9; first | exact .tail _ (.tail _ (hx p9 hp9)) | exact .tail _ (.tail _ (.tail _ (hx p9 hp9))) | exact .tail _ (.tail _ (hlx p9 hp9)))); (case s0 => omega)); intro t9 k9)
  k_with "call builtin:len cons nil" => (k_here; k_dflt (refine' H.1 ?sN ?sx ?_; (case sN => k_asm); (case sx => (intro p9 hp9; first | exact .tail _ (.tail _ (hx p9 hp9)) | exact .tail _ (.tail _ (.tail _ (hx p9 hp9))) | exact .tail _ (.tail _ (hlx p9 hp9))))); intro t9 k9)
  k_fill
  w_top off
  unfold Ctr
  intro loose mean mg mb dp un gd cn cs a ccd cl outer A₀ base h₀ L m s Q E cB cF cX cN cT cK cD cU hret
  refine wpAny_call ?_
  k_dflt cell_enter
  k_steps
  rename_i Df _ l1f _ _ Ds _ l1s _ _ _ _ _ _ _ _ _ _ _ _ _
  unfold Stop
  refine' forRange (σ := { c : RS × Int × Tok // ∀ p ∈ lx, p ∈ c.1.rest }) (n := oc.length) (fun c => (c.1.1.Df, listOf c.1.1.fv.toArray c.1.1.fe) :: (c.1.1.Ds, listOf c.1.1.sv.toArray c.1.1.se) :: c.1.1.rest) (fun c => [(Str.ofString "size", .int c.1.1.size c.1.1.ts), (Str.ofString "bias", .int c.1.1.bias c.1.1.tb), (Str.ofString "hour", .int c.1.1.hour c.1.1.th), (Str.ofString "place", .int c.1.2.1 c.1.2.2), (Str.ofString "figures", .ref c.1.1.Df), (Str.ofString "story", .ref c.1.1.Ds), (Str.ofString "stem", .str st t2), (Str.ofString "octets", it)]) (fun i c => RSS st.length oc (readS oc 0 st.length 72 (-1) (-1) [] []) news i c.1.1 c.1.2.1) rfl (by assumption) ?_ ?_ (by assumption) (by assumption) ?_ ?_ ?_
  · exact small_up (by omega) (by omega)
  · exact rangeSize_up _
  · refine' ⟨⟨⟨⟨_, _, _, _, _, _, Df, [], 0, Ds, [], 0, news, [], []⟩, -1, _⟩, hlx⟩, ?_, by ((try dsimp only); (repeat (refine AllP.cons (by with_unfolding_all rfl) ?_)); exact AllP.nil), ?_⟩
    · exact List.forall_mem_cons.mpr ⟨.tail _ (.head _), List.forall_mem_cons.mpr ⟨.head _, fun p hp => .tail _ (.tail _ hp)⟩⟩
    · exact RSS.start (fun p hp => Nat.ne_of_lt (l1f p hp)) (fun p hp => Nat.ne_of_lt (allLt_mem l1s.2 p hp)) (Nat.ne_of_lt l1s.1)
  · rintro ⟨⟨⟨size, ts, bias, tb, hour, th, Df, fv, fe, Ds, sv, se, rest, figs, sp⟩, place, tpl⟩, hx⟩ I i ti u h tk oI hin hP hne F N Qb hb9
    dsimp only [kstB] at F hP N
    dsimp only at hx
    have hP0 := hP
    obtain ⟨hat, ⟨X0, hX0⟩, hres, hhi, hlo⟩ := hP
    obtain ⟨_, hfv, hfl, hfb, hsz, hsl, hse, hsto, hhr, hsub, hoF, hoS, hoD⟩ := hX0
    dsimp only at hfv hfl hfb hsz hsl hse hsto hhr hsub hoF hoS hoD hhi hlo
    have hIf := neN (a := I) (b := Df) (fun e => hne _ (.head _) e.symm)
    have hIs := neN (a := I) (b := Ds) (fun e => hne _ (.tail _ (.head _)) e.symm)
    have hDD := neN (a := Df) (b := Ds) hoD
    have hfvl := hfv.length
    have hsvl := hsto.1
    have ho : oc[((i : Nat) : Int).toNat]? = some oc[i] := by rw [Int.toNat_natCast]; simp [hin]
    have hbo := hby oc[i] (List.getElem_mem hin)
    generalize oc[i] = o at *
    have ho' : oc[i]? = some o := by rw [Int.toNat_natCast] at ho; exact ho
    have hidx : (0 : Int) + i * 1 = (i : Int) := by omega
    rw [hidx] at F
    have hslen : sp.length ≤ 40 := by omega
    k_steps
    · rename (_ ∧ _ ∧ _ ∧ _ ∧ AllLt _ rest) => lz
      exact hret _ [_] _ _ (by assumption) (news_sub (by assumption) fun p hp => (List.mem_cons.mp hp).elim (fun q => by rw [q]; exact .head _) fun q => .tail _ (.tail _ (.tail _ (.tail _ (.tail _ (hsub p q)))))) (fresh1 fun q hq => allLt_mem lz.2.2.2.2 q (hsub q hq)) (ReadR.bad (hP0.big ho' (dig_great (by assumption) (by assumption)) (lt_of_tF hfvl (by assumption)) (by assumption)) (by dsimp only; omega) (by dsimp only; omega) bigText_eq)
    · rename_i Dt _ l1t _ _ _ _ _ _ _ Dn _ l1n _ _ _
      refine' FEnd.intro ⟨(⟨_, _, _, _, _, _, Dn, [], 0, Ds, sv ++ [.ref Dt], se + 1, (Dt, pairObj ((hour + (numF bias 0 (figs ++ [o - 65]) + 1)).fdiv (size + 1) + 128) ((hour + (numF bias 0 (figs ++ [o - 65]) + 1)).fmod (size + 1)) _ _ _) :: rest, [], sp ++ [(((hour + (numF bias 0 (figs ++ [o - 65]) + 1)).fdiv (size + 1) + 128), ((hour + (numF bias 0 (figs ++ [o - 65]) + 1)).fmod (size + 1)))]⟩, _, _), fun p hp => .tail _ (hx p hp)⟩ (by assumption) (by assumption) (by k_memK) (by kst_in) ?_ (by ((try dsimp only); (repeat (refine AllP.cons (by with_unfolding_all rfl) ?_)); exact AllP.nil)) ?_
      · dsimp only
        exact List.forall_mem_cons.mpr ⟨Nat.ne_of_gt l1n.2.1, List.forall_mem_cons.mpr ⟨Ne.symm hIs, List.forall_mem_cons.mpr ⟨Nat.ne_of_gt l1t.2.1, fun p hp => hne p (.tail _ (.tail _ hp))⟩⟩⟩
      · exact hP0.turn ho' (dig_great (by assumption) (by assumption)) (lt_of_tF hfvl (by assumption)) hlen hst rfl (by assumption) rfl (by rw [len1_eq hsvl]) rfl (Nat.ne_of_gt l1t.2.2.2.1) (Nat.ne_of_lt l1n.1) (Nat.ne_of_gt l1n.2.2.2.1) l1n.2.2.2.2
    · refine' FEnd.intro ⟨(⟨_, _, _, _, _, _, Df, _, _, Ds, sv, se, rest, figs ++ [o - 65], sp⟩, place, _), hx⟩ (by assumption) (by assumption) (by k_memK) (by kst_in) ?_ (by ((try dsimp only); (repeat (refine AllP.cons (by with_unfolding_all rfl) ?_)); exact AllP.nil)) ?_
      · dsimp only
        exact List.forall_mem_cons.mpr ⟨Ne.symm hIf, List.forall_mem_cons.mpr ⟨Ne.symm hIs, fun p hp => hne p (.tail _ (.tail _ hp))⟩⟩
      · exact hP0.go ho' (dig_great (by assumption) (by assumption)) (not_lt_of_tF hfvl (by assumption))
    · refine' FEnd.intro ⟨(⟨_, _, _, _, _, _, Df, _, _, Ds, sv, se, rest, figs ++ [o - 22], sp⟩, place, _), hx⟩ (by assumption) (by assumption) (by k_memK) (by kst_in) ?_ (by ((try dsimp only); (repeat (refine AllP.cons (by with_unfolding_all rfl) ?_)); exact AllP.nil)) ?_
      · dsimp only
        exact List.forall_mem_cons.mpr ⟨Ne.symm hIf, List.forall_mem_cons.mpr ⟨Ne.symm hIs, fun p hp => hne p (.tail _ (.tail _ hp))⟩⟩
      · exact hP0.go ho' (dig_figure (by assumption) (by assumption)) (fun hc => by have := tF_range figs.length bias; omega)
    · rename (_ ∧ _ ∧ _ ∧ AllLt _ rest) => lz
      exact hret _ [_] _ _ (by assumption) (news_sub (by assumption) fun p hp => (List.mem_cons.mp hp).elim (fun q => by rw [q]; exact .head _) fun q => .tail _ (.tail _ (.tail _ (.tail _ (hsub p q))))) (fresh1 fun q hq => allLt_mem lz.2.2.2 q (hsub q hq)) (ReadR.bad (hP0.bad ho' (dig_none (by omega) (by omega))) rfl rfl badText_eq)
  · rintro ⟨⟨⟨size, ts, bias, tb, hour, th, Df, fv, fe, Ds, sv, se, rest, figs, sp⟩, place, tpl⟩, hx⟩ u h tk hP F N
    dsimp only [kstB] at F hP N
    dsimp only at hx
    have hP0 := hP
    obtain ⟨hat, ⟨X0, hX0⟩, hres, hhi, hlo⟩ := hP
    obtain ⟨_, hfv, hfl, hfb, hsz, hsl, hse, hsto, hhr, hsub, hoF, hoS, hoD⟩ := hX0
    dsimp only at hfv hfl hfb hsz hsl hse hsto hhr hsub hoF hoS hoD
    have hsvl := hsto.1
    have hov := hP0.over (Nat.le_refl _)
    dsimp only at hov
    k_steps
    · rename (_ ∧ _ ∧ AllLt _ rest) => lz
      exact hret _ [_] _ _ (by assumption) (news_sub (by assumption) fun p hp => (List.mem_cons.mp hp).elim (fun q => by rw [q]; exact .head _) fun q => .tail _ (.tail _ (.tail _ (hsub p q)))) (fresh1 fun q hq => allLt_mem lz.2.2 q (hsub q hq)) (ReadR.bad (hov.2 (fun q => by subst q; simp at *)) rfl rfl rfl)
    · exact hret _ [] _ _ (by assumption) (news_sub (by assumption) fun p hp => .tail _ (.tail _ (hsub p hp))) (fun _ _ _ h9 => nomatch h9) (.inr ⟨sp, _, hov.1 (by cases figs with | nil => rfl | cons a l => simp at *), rfl, rfl⟩)
theorem readSL_c (w : World) (news : List (Addr × Obj)) (st : Str) (t2 : Tok) (l : Addr) (vs : List Value) (n : Nat) (oc : List Int) (hl : (l, listOf vs.toArray n) ∈ news) (hi : IntsAre vs oc) (hlen : oc.length ≤ 40) (hst : st.length ≤ 60) (hby : ∀ o ∈ oc, 0 ≤ o ∧ o < 256) :
    Ctr PySem.Challenge.rw_rl0154_02.row.prog w (Mine.hd.heap_39 w.params) Mine.hd.view_39 91 4 4 [.str st t2, .ref l] news (fun tl r => ReadR (readS oc 0 st.length 72 (-1) (-1) [] []) st tl r) :=
  readS_c w news st t2 (.ref l) [(l, listOf vs.toArray n)] oc (fun p hp => by rw [List.mem_singleton.mp hp]; exact hl) (SeqR.list hi hlen) hlen hst hby
theorem readSB_c (w : World) (news : List (Addr × Obj)) (st : Str) (t2 : Tok) (bs : Array UInt8) (t3 : Tok) (oc : List Int) (hi : KBw.bInts bs = oc) (hlen : oc.length ≤ 40) (hst : st.length ≤ 60) (hby : ∀ o ∈ oc, 0 ≤ o ∧ o < 256) :
    Ctr PySem.Challenge.rw_rl0154_02.row.prog w (Mine.hd.heap_39 w.params) Mine.hd.view_39 91 4 4 [.str st t2, .bytes bs t3] news (fun tl r => ReadR (readS oc 0 st.length 72 (-1) (-1) [] []) st tl r) :=
  readS_c w news st t2 (.bytes bs t3) [] oc (fun _ hp => nomatch hp) (SeqR.bytes hi hlen) hlen hst hby
end
end Mine

namespace Mine
section
def Shp (oc : List Int) : Prop := oc.length ≤ 11 ∨ (oc[12]? = some 65 ∧ oc.length ≤ 25)
theorem decF_stop {b : Int} {post : List Int} : ∀ (pre figs : List Int) (nu : Int), (∀ f ∈ figs, 0 ≤ f ∧ f < 36) → (decF b (pre ++ 65 :: post) figs).2 = some nu → nu < 36 ^ (figs.length + pre.length)
  | [], figs, nu, hf, h => by
    have hd : dig 65 = some 0 := by decide
    rw [List.nil_append, decF_cons hd, if_pos (by have := tF_range figs.length b; omega)] at h
    obtain rfl : numF b 0 (figs ++ [0]) = nu := Option.some.inj h
    rw [numF_snoc, Int.zero_mul, Int.add_zero]
    exact (numF_bound b figs 0 hf).2
  | o :: r, figs, nu, hf, h => by
    rw [List.cons_append] at h
    cases hd : dig o with
    | none => rw [decF_bad hd] at h; cases h
    | some d =>
      have hf' := fig_app hf (dig_range hd).1 (dig_range hd).2
      rw [decF_cons hd] at h
      by_cases hn : d < tF figs.length b
      · rw [if_pos hn] at h
        obtain rfl : numF b 0 (figs ++ [d]) = nu := Option.some.inj h
        obtain ⟨x1, x2⟩ := numF_bound b (figs ++ [d]) 0 hf'
        refine Int.lt_of_lt_of_le x2 ?_
        have e : (36 : Nat) ^ (figs ++ [d]).length ≤ 36 ^ (figs.length + (o :: r).length) := Nat.pow_le_pow_right (by decide) (by simp)
        have e' := Int.ofNat_le.mpr e
        simpa using e'
      · rw [if_neg hn] at h
        have q := decF_stop r (figs ++ [d]) nu hf' h
        have e : (figs ++ [d]).length + r.length = figs.length + (o :: r).length := by simp; omega
        rw [← e]; exact q
theorem pow36 {n : Nat} {nu : Int} (h : nu < 36 ^ n) (hn : n ≤ 12) : nu < 4738381338321616896 := by
  have e : (36 : Nat) ^ n ≤ 36 ^ 12 := Nat.pow_le_pow_right (by decide) hn
  have e' := Int.ofNat_le.mpr e
  have e2 : ((36 ^ 12 : Nat) : Int) = 4738381338321616896 := by decide
  have e3 : ((36 ^ n : Nat) : Int) = (36 : Int) ^ n := by simp
  rw [e2] at e'
  have e4 : ((36 ^ n : Nat) : Int) ≤ 4738381338321616896 := e'
  omega
theorem calm_shp {M : List Int} (h : Shp M) (p : Nat) (b nu : Int) (hd : (decF b (M.drop p) []).2 = some nu) : nu < 4738381338321616896 := by
  obtain ⟨_, _, hb⟩ := decF_range b (M.drop p) [] nu (fun _ h => nomatch h) hd
  rw [List.length_nil, Nat.zero_add, List.length_drop] at hb
  rcases h with h | ⟨h65, hlen⟩
  · exact pow36 hb (by omega)
  · by_cases hp : p ≤ 12
    · have hlt := (List.getElem?_eq_some_iff.mp h65).1
      have e : M.drop p = (M.drop p).take (12 - p) ++ 65 :: M.drop 13 := by
        conv => lhs; rw [← List.take_append_drop (12 - p) (M.drop p)]
        rw [List.drop_drop, show p + (12 - p) = 12 from by omega, drop_of h65]
      rw [e] at hd
      have q := decF_stop _ [] nu (fun _ h => nomatch h) hd
      refine pow36 q ?_
      simp; omega
    · exact pow36 hb (by omega)
theorem Shp.map {M : List Int} (h : Shp M) : Shp (M.map up) := by
  rcases h with h | ⟨h1, h2⟩
  · exact .inl (by rw [List.length_map]; exact h)
  · refine .inr ⟨?_, by rw [List.length_map]; exact h2⟩
    rw [List.getElem?_map, h1]; rfl
theorem calm_drop {oc : List Int} {j : Nat} (h : Shp oc) : CalmN (oc.drop j) := fun i b nu hd => by
  rw [List.drop_drop] at hd
  exact calm_shp h _ b nu hd
theorem calm_great {oc : List Int} (h : Shp oc) : CalmN (greatL oc) := by
  unfold greatL
  rw [List.map_drop]
  exact calm_drop h.map
end
end Mine

namespace Mine
section
section
variable {prog : Program} {w : World} {A : Around} {E : Value → Shared → Prop} {s : Shared} {h₀ : Heap} {L : Addr} {news : List (Addr × Obj)} {D1 D2 : Addr} {a a' b b' : Int} {x x' : Str} {t1 t2 t3 u1 u2 u3 : Tok} {n1 n2 : Nat}
theorem eq_tup3 {Q : Value → Shared → Prop} (N : News h₀ L s.heap news) (m1 : (D1, { cls := .type "tuple", data := .seq #[.int a t1, .int b t2, .str x t3] n1 }) ∈ news) (m2 : (D2, { cls := .type "tuple", data := .seq #[.int a' u1, .int b' u2, .str x' u3] n2 }) ∈ news)
    (ea : a = a') (eb : b = b') (ex : x = x') (hu : A.units < cLine) (h : Q (.bool true) s) : wpAny (model prog w) A (compareOp .Eq (.ref D1) (.ref D2)) Q E s := by
  subst ea eb ex
  refine SeqAt.eq_tupleAt (e := fun _ => true) ⟨_, (N _ m1).1, rfl, _, rfl⟩ ⟨_, (N _ m2).1, rfl, _, rfl⟩ hu (fun j h1 h2 => ?_) ?_
  · match j, h1 with
    | 0, _ => have := SeqAt.EqAt.int_int (A := A.in1) (s := s) a t1 a u1; rwa [beq_self_eq_true] at this
    | 1, _ => have := SeqAt.EqAt.int_int (A := A.in1) (s := s) b t2 b u2; rwa [beq_self_eq_true] at this
    | 2, _ => have := SeqAt.EqAt.str_str (A := A.in1) (s := s) x t3 x u3; rwa [beq_self_eq_true] at this
  · exact h
end
def LabP (ks : List Int) : Prop := (∀ o ∈ ks, 0 ≤ o ∧ o < 128) ∧ ks.length ≤ 25 ∧ Shp ks
theorem lab_short {f : Int → Int} {l : List Int} (hf : ∀ x, 0 ≤ f x ∧ f x < 128) (h : ¬ 11 < ((l.map f).length : Int)) : LabP (l.map f) := by
  refine ⟨fun o ho => ?_, by omega, .inl (by omega)⟩
  obtain ⟨x, _, rfl⟩ := List.mem_map.mp ho
  exact hf x
theorem lab_long {f : Int → Int} {l : List Int} (hf : ∀ x, 0 ≤ f x ∧ f x < 128) (hl : l.length ≤ 24) (h : 11 < ((l.map f).length : Int)) : LabP ((l.map f).take 12 ++ [65] ++ (l.map f).drop 12) := by
  have hm : (l.map f).length = l.length := List.length_map _
  have h12 : ((l.map f).take 12).length = 12 := by rw [List.length_take]; omega
  refine ⟨fun o ho => ?_, ?_, .inr ⟨?_, ?_⟩⟩
  · have all : ∀ o ∈ l.map f, 0 ≤ o ∧ o < 128 := fun o ho => by
      obtain ⟨x, _, rfl⟩ := List.mem_map.mp ho
      exact hf x
    rcases List.mem_append.mp ho with ho | ho
    · rcases List.mem_append.mp ho with ho | ho
      · exact all o (List.mem_of_mem_take ho)
      · rw [List.mem_singleton.mp ho]; decide
    · exact all o (List.mem_of_mem_drop ho)
  · simp only [List.length_append, List.length_take, List.length_drop, List.length_singleton]; omega
  · rw [List.getElem?_append_left (by rw [List.length_append, h12]; decide), List.getElem?_append_right (by omega), h12]; rfl
  · simp only [List.length_append, List.length_take, List.length_drop, List.length_singleton]; omega
def LabJ (h₀ : Heap) (L : Addr) (s s' : Shared) : Prop :=
  ∃ (h' : Heap) (tk : Nat) (D : Addr) (vs : List Value) (ks : List Int) (u : Str → Option Value) (n : Nat), s' = { s with heap := h', toks := tk } ∧ Fr h₀ L h' (fun y => if y = Str.ofString "drawn" then some (.ref D) else u y) ∧ News h₀ L h' [(D, listOf vs.toArray n)] ∧ IntsAre vs ks ∧ LabP ks
theorem LabJ.intro {h₀ : Heap} {L : Addr} {s : Shared} {h' : Heap} {tk : Nat} {D : Addr} {vs : List Value} {ks : List Int} {u : Str → Option Value} {n : Nat} {news : List (Addr × Obj)} (F : Fr h₀ L h' (fun y => if y = Str.ofString "drawn" then some (.ref D) else u y)) (N : News h₀ L h' news) (hm : (D, listOf vs.toArray n) ∈ news) (hi : IntsAre vs ks) (hp : LabP ks) :
    LabJ h₀ L s { s with heap := h', toks := tk } := ⟨h', tk, D, vs, ks, u, n, rfl, F, fun p hq => by rw [List.mem_singleton.mp hq]; exact N _ hm, hi, hp⟩
theorem if_join {M : Model} {A : Around} {E : Value → Shared → Prop} {Q : Flow → Shared → Prop} {s : Shared} {h₀ : Heap} {L : Addr} {m : Str → Option Value} {st : Stmt} {env : Env} (_F : Fr h₀ L s.heap m) (hi : wpAny M A (exec st env) (fun f s' => f = .next ∧ LabJ h₀ L s s') E s) (k : ∀ s', LabJ h₀ L s s' → Q .next s') : wpAny M A (exec st env) Q E s :=
  wpAny_mono hi (fun f s' ⟨e, j⟩ => by rw [e]; exact k s' j) fun _ _ x => x
section
variable {prog : Program} {w : World} {A : Around} {E : Value → Shared → Prop} {s : Shared} {h₀ : Heap} {L : Addr} {m : Str → Option Value} {news : List (Addr × Obj)}
theorem label_S {l : Addr} {vs : List Value} {ks : List Int} {Q : Value → Shared → Prop} (F : Fr h₀ L s.heap m) (N : News h₀ L s.heap news) (hl : s.heap.IsList l vs.toArray) (hi : IntsAre vs ks) (hp : LabP ks) (hh : A.handled = none)
    (h : ∀ h' t k bs oc, Fr h₀ L h' m → News h₀ L h' news → KBw.bInts bs = oc → bs.size = oc.length → LabP oc → Q (.bytes bs t) { s with heap := h', toks := k }) : wpAny (model prog w) A (call (.type "bytes") [.ref l]) Q E s := by
  have hb : ∀ k ∈ ks, 0 ≤ k ∧ k < 256 := fun k q => by have := hp.1 k q; omega
  have hn := hp.2.1
  refine bytes_K F N hl hi hb (by rw [hi.length, sizeLine_eq]; omega) hh fun h' t k F' N' _ => ?_
  exact h h' t k _ ks F' N' (bInts_of hb) (by simp) hp
end
def ToldP (hy : Int) (RES : Fault ⊕ List (Int × Int)) (st : List Nat) (tv : Value) (led : List (Addr × Obj)) : Prop :=
  (∃ f D t1 t2 t3, RES = .inl f ∧ tv = .ref D ∧ (D, tup3 (f.1 + hy + 1, f.2.1 + hy + 1, f.2.2) t1 t2 t3) ∈ led) ∨ (∃ sp t, RES = .inr sp ∧ tv = .str (Str.mk (insAll st sp).toArray) t)
def LaidP (RES : Fault ⊕ List (Int × Int)) (st : List Nat) (tv : Value) (led : List (Addr × Obj)) : Prop :=
  (∃ f D t1 t2 t3, RES = .inl f ∧ tv = .ref D ∧ (D, tup3 f t1 t2 t3) ∈ led) ∨ (∃ sp t, RES = .inr sp ∧ tv = .str (Str.mk (insAll st sp).toArray) t)
/-- two values that are equal: texts, or tuples of two ints and a text -/
def EqV (led : List (Addr × Obj)) (a b : Value) : Prop :=
  (∃ x t u, a = .str x t ∧ b = .str x u) ∨ (∃ D1 D2 f t1 t2 t3 u1 u2 u3, a = .ref D1 ∧ b = .ref D2 ∧ (D1, tup3 f t1 t2 t3) ∈ led ∧ (D2, tup3 f u1 u2 u3) ∈ led)
theorem EqV.sub {l1 l2 : List (Addr × Obj)} {a b : Value} (h : EqV l1 a b) (s : ∀ p ∈ l1, p ∈ l2) : EqV l2 a b :=
  h.imp id fun ⟨D1, D2, f, t1, t2, t3, u1, u2, u3, e1, e2, m1, m2⟩ => ⟨D1, D2, f, t1, t2, t3, u1, u2, u3, e1, e2, s _ m1, s _ m2⟩
theorem LaidP.same {RES : Fault ⊕ List (Int × Int)} {st : Str} {lv rv : Value} {led tl : List (Addr × Obj)} (h : LaidP RES st.cps.toList lv led) (r : ReadR RES st tl rv) : EqV (tl ++ led) lv rv := by
  rcases h with ⟨f, D, t1, t2, t3, e1, rfl, m⟩ | ⟨sp, t, e1, rfl⟩ <;> rcases r with ⟨f', D', u1, u2, u3, e2, rfl, rfl⟩ | ⟨sp', u, e2, rfl, rfl⟩
  · rw [e1] at e2; cases e2
    exact .inr ⟨_, _, f, t1, t2, t3, u1, u2, u3, rfl, rfl, List.mem_append_right _ m, .head _⟩
  · rw [e1] at e2; cases e2
  · rw [e1] at e2; cases e2
  · rw [e1] at e2; cases e2
    exact .inl ⟨_, _, _, rfl, rfl⟩
theorem eq_val {prog : Program} {w : World} {A : Around} {E : Value → Shared → Prop} {s : Shared} {h₀ : Heap} {L : Addr} {news : List (Addr × Obj)} {a b : Value} {Q : Value → Shared → Prop} (N : News h₀ L s.heap news) (h : EqV news a b) (hu : A.units < cLine) (hq : Q (.bool true) s) : wpAny (model prog w) A (compareOp .Eq a b) Q E s := by
  rcases h with ⟨x, t, u, rfl, rfl⟩ | ⟨D1, D2, f, t1, t2, t3, u1, u2, u3, rfl, rfl, m1, m2⟩
  · exact PyProof.Rows.eq_str (by rw [beq_self_eq_true]; exact hq)
  · exact eq_tup3 N m1 m2 rfl rfl rfl hu hq
theorem st_joinV {M : Model} {A : Around} {E : Value → Shared → Prop} {Q : Flow → Shared → Prop} {s : Shared} {st : Stmt} {env : Env} {h₀ : Heap} {L : Addr} {m : Str → Option Value} (_F : Fr h₀ L s.heap m) (ps : List (Str × Value)) (x : Str) (P : Value → List (Addr × Obj) → Prop) (_hk : AllP m ps)
    (hi : ∀ Q' : Flow → Shared → Prop, (∀ v led h' tk m' news, Fr h₀ L h' m' → News h₀ L h' news → (∀ p ∈ led, p ∈ news) → AllP m' ((x, v) :: ps) → P v led → Q' .next { s with heap := h', toks := tk }) → wpAny M A (exec st env) Q' E s)
    (k : ∀ v led h' tk u, Fr h₀ L h' (kstB u ((x, v) :: ps)) → News h₀ L h' led → P v led → Q .next { s with heap := h', toks := tk }) : wpAny M A (exec st env) Q E s :=
  hi Q fun v led h' tk m' _ F' N' hs hk hp => k v led h' tk m' ((kstB_all (all_of hk)).symm ▸ F') (news_sub N' hs) hp
theorem ToldP.calm {hy : Int} {RES : Fault ⊕ List (Int × Int)} {st : List Nat} {tv : Value} {led led' : List (Addr × Obj)} {sp : List (Int × Int)} {t : Tok} (h : ToldP hy RES st tv led) (e : RES = .inr sp) : EqV led' (.str (Str.mk (insAll st sp).toArray) t) tv := by
  rcases h with ⟨f, D, t1, t2, t3, e1, _, _⟩ | ⟨sp', u, e1, rfl⟩
  · rw [e1] at e; cases e
  · rw [e1] at e; cases e
    exact .inl ⟨_, _, _, rfl, rfl⟩
theorem ToldP.raised {hy : Int} {RES : Fault ⊕ List (Int × Int)} {st : List Nat} {tv : Value} {led led' : List (Addr × Obj)} {f : Fault} {D : Addr} {a b : Int} {x : Str} {t1 t2 t3 : Tok} (h : ToldP hy RES st tv led) (e : RES = .inl f) (ea : a = (shiftF (hy + 1) f).1) (eb : b = (shiftF (hy + 1) f).2.1) (ex : x = (shiftF (hy + 1) f).2.2) (hl : ∀ p ∈ led, p ∈ led') (m : (D, tup3 (a, b, x) t1 t2 t3) ∈ led') : EqV led' (.ref D) tv := by
  rcases h with ⟨f', D', u1, u2, u3, e1, rfl, m'⟩ | ⟨sp', u, e1, rfl⟩
  · rw [e1] at e; cases e
    have q1 : a = f.1 + hy + 1 := by rw [ea]; show hy + 1 + f.1 = _; omega
    have q2 : b = f.2.1 + hy + 1 := by rw [eb]; show hy + 1 + f.2.1 = _; omega
    subst q1 q2 ex
    exact .inr ⟨_, _, _, _, _, _, _, _, _, rfl, rfl, m, hl _ m'⟩
  · rw [e1] at e; cases e
theorem LaidP.raised {RES : Fault ⊕ List (Int × Int)} {st : List Nat} {led : List (Addr × Obj)} {f : Fault} {D : Addr} {a b : Int} {x : Str} {t1 t2 t3 : Tok} (e : RES = .inl f) (ea : a = f.1) (eb : b = f.2.1) (ex : x = f.2.2) (m : (D, tup3 (a, b, x) t1 t2 t3) ∈ led) : LaidP RES st (.ref D) led := by
  subst ea eb ex
  exact .inl ⟨f, D, t1, t2, t3, e, rfl, m⟩
theorem name_goesX {M : Model} {A : Around} {E : Value → Shared → Prop} {s : Shared} {env : Env} {h₀ : Heap} {L : Addr} {m : Str → Option Value} {news : List (Addr × Obj)} {n : Str} {pos : Pos} {Q : Unit → Shared → Prop} (hloc : env.locals = L) (F : Fr h₀ L s.heap m) (N : News h₀ L s.heap news) (hl : env.kindOf n = some .local) (hk : env.scope.kind = .function)
    (h : ∀ h' v, Fr h₀ L h' (fun x => if x = n then v else m x) → News h₀ L h' news → Q () { s with heap := h', toks := s.toks + 1 }) : wpAny M A (do bindName env n .none; unbindBehindTheSuite env n pos) Q E s := by
  subst hloc
  exact wpAny_nameGoes_keeps hl F.ns (by rw [hk]; rfl) fun h' v hn hs => h h' v (F.set hn hs) (N.set hs)
end
end Mine

namespace Mine
section
theorem law_holds : PySem.Challenge.rw_rl0154_02.Holds := hd (by
  k_with_none
  k_with "exec If" => (refine Stop.intro ?_)
  k_go0
  (all_goals try k_fold)
  k_steps
  k_with_none
  unfold Stop
  refine if_join (by k_asm) ?_ ?_
  · k_steps
    · rename (11 < _) => h11
      have h12 := lab_long (fun x => tab_lt _ (by decide +kernel) _) (by rw [List.length_take]; omega) h11
      exact LabJ.intro (by assumption) (by assumption) (.head _) (by assumption) h12
    · rename (¬ 11 < _) => h11
      have h12 := lab_short (fun x => tab_lt _ (by decide +kernel) _) h11
      dsimp only
      rename Fr _ _ _ _ => F9
      rename News _ _ _ _ => N9
      exact LabJ.intro F9 N9 (.head _) (by assumption) h12
  · rintro _ ⟨h5, tk5, D5, vs5, ks5, u5, n5, rfl, F5, N5, hi5, hp5⟩
    dsimp only
    k_with "call type:bytes" => (k_here; (with_reducible show wpAny _ _ (call (Value.type _) [Value.ref _]) _ _ _); k_dflt (refine' label_S ?F ?N ?l ?i ?r ?h ?_; (case F => k_asm); (case N => k_asm); (case l => is_list); (case i => assumption); (case r => assumption); (case h => with_unfolding_all rfl); k_whole); intro h' t' k' bs oc F' N' hi hbs hlp; (have hl := hlp.2.1); (have bm9 : BMark := True.intro); (try k_sweep))
    k_with "pyIter ref" => (k_here; (with_reducible rename BMark => bm9); (refine Stop.intro ?_))
    k_with "execs cons" => ((try dsimp only); refine tok_any ?_; intro _; refine wpAny_execs_cons ?_)
    k_with "eval Name" => (k_here; k_dflt (refine' nameV_L ?nv1 ?nv2 ?_ ?nv3 ?nv4; (case nv1 => k_asm); (case nv3 => rfl); (case nv4 => rfl); (case nv2 => rfl); k_whole))
    k_with "isTrue Compare" => (k_here; k_dflt (refine' isTrue_between ?bt1 ?bt2 ?_ ?_ ?bt3 ?bt4; (case bt1 => k_asm); (case bt3 => rfl); (case bt4 => rfl); (case bt2 => rfl); k_whole); (all_goals intros))
    k_with "Blk" => (refine hb9 _ _ ?_; dsimp only [FPost])
    k_with "eval ListComp" => (k_here; (with_reducible rename BMark => bm9); k_dflt (refine ListComp_B (F₀ := by k_asm) (by with_unfolding_all rfl) (by decide) (by rfl) (by decide) (by rfl) ?_))
    k_with "exec Assign cons ListComp" => (k_here; (with_reducible rename BMark => bm9); k_dflt (refine Assign_ListComp_B (F₀ := by k_asm) (by rfl) (by with_unfolding_all rfl) (by with_unfolding_all rfl) (by decide) (by rfl) (by decide) (by rfl) (by rfl) (by rfl) ?_))
    k_with "exec Try" => (k_here; (with_reducible refine wpAny_Try_except ?_))
    k_with "exec Try" => (k_here; (with_reducible rename BMark => bm9); (refine Stop.intro ?_))
    k_with "exec If" => (k_here; (with_reducible rename BMark => bm9); (with_reducible show wpAny _ _ (exec (Stmt.If (Expr.Call _ _ _ _) _ _ _) _) _ _ _); (refine Stop.intro ?_))
    k_with "call ref cons nil" => (refine Stop.intro ?_)
    k_with "call ref cons nil" => (k_here; k_dflt (refine' Ctr.ask (readSL_c _ _ _ _ _ _ _ _ ?ra1x ?ra2x ?ra3x ?ra4x ?ra5x) (ret := ?_); (case ra1x => k_mem); (case ra2x => with_reducible assumption); (case ra3x => exact hgl); (case ra4x => omega); (case ra5x => exact hgb); intro r9 tl9 h9 tk9 F9 N9 hl9 hR9; (try k_sweep); (try dsimp only)))
    k_with "call ref cons nil" => (k_here; k_dflt (refine' CtrE.ask (punyS_c _ _ _ _ hi _ _ ?ra3x ?ra4x ?ra5x) (calm := ?_) (raised := ?_); (case ra3x => omega); (case ra4x => exact hlp.1); (case ra5x => exact hcg); rotate_left; (intro e9 h9 tk9 G9 R9 FG9 U9); (refine Stop.intro ?_); rotate_right; (intro r9 tl9 h9 tk9 F9 N9 hl9 hR9); (refine Stop.intro ?_)))
    k_with "call ref cons nil" => (k_here; k_dflt (refine' CtrE.ask (insortS_c _ _ _ _ _ ht9 _ _ _ ?ra3x hst ?ra5x hct) (calm := ?_) (raised := ?_); (case ra3x => (rw [List.length_drop]; omega)); (case ra5x => (intro o9 ho9; have q9 := hlp.1 o9 (List.mem_of_mem_drop ho9); omega)); rotate_left; (intro e9 h9 tk9 G9 R9 FG9 U9); (refine Stop.intro ?_); rotate_right; (intro r9 tl9 h9 tk9 F9 N9 hl9 hR9); (refine Stop.intro ?_)))
    k_with "call ref cons nil" => (k_here; k_dflt (refine' Ctr.ask (readSB_c _ _ _ _ _ _ _ ht9 ?ra3x hst ?ra5x) (ret := ?_); (case ra3x => (rw [List.length_drop]; omega)); (case ra5x => (intro o9 ho9; have q9 := hlp.1 o9 (List.mem_of_mem_drop ho9); omega)); intro r9 tl9 h9 tk9 F9 N9 hl9 hR9; (try k_sweep); (try dsimp only)))
    k_with "compareOp Eq" => (k_here; k_dflt (refine' eq_val ?eN9 ?eV9 ?eU9 ?_; (case eN9 => k_asm); (case eV9 => first | with_reducible assumption | exact hL8.same (by with_reducible assumption)); (case eU9 => ktr_units)))
    k_with "getAttr ref" => (k_here; (with_reducible show wpAny _ _ (getAttr _ ("start" : Str) _) _ _ _); k_dflt (refine' ude_startN ?gN ?gm ?gc ?gd ?gp ?_; (case gN => k_asm); (case gm => k_mem); (case gc => assumption); (case gd => assumption); (case gp => assumption); k_whole); intro t9 k9)
    k_with "getAttr ref" => (k_here; (with_reducible show wpAny _ _ (getAttr _ ("end" : Str) _) _ _ _); k_dflt (refine' ude_endN ?gN ?gm ?gc ?gd ?gp ?_; (case gN => k_asm); (case gm => k_mem); (case gc => assumption); (case gd => assumption); (case gp => assumption); k_whole); intro t9 k9)
    k_with "getAttr ref" => (k_here; (with_reducible show wpAny _ _ (getAttr _ ("reason" : Str) _) _ _ _); k_dflt (refine' ude_reasonN ?gN ?gm ?gc ?gd ?gp ?gr ?_; (case gN => k_asm); (case gm => k_mem); (case gc => assumption); (case gd => assumption); (case gp => assumption); (case gr => assumption); k_whole); intro k9)
    k_with "SrcB" => (refine Stop.intro ?_)
    k_with "call builtin:str.join" => (k_here; k_dflt (refine' r_joinH ?k1 ?k2 ?k3 ?k4 ?_; (case k1 => k_asm); (case k2 => k_mem); (case k3 => with_reducible assumption); (case k4 => (rw [List.length_take]; omega)); intro t9 k9 H9 hH9 hL9; (rw [List.length_take] at hL9)))
    k_steps
    unfold Stop
    refine' forRange (σ := Int × Tok × Tok) (n := oc.length) (fun _ => []) (fun c => [(Str.ofString "hyphen", .int c.1 c.2.1), (Str.ofString "label", .bytes bs c.2.2)]) (fun i c => c.1 = hyp oc i) rfl (by assumption) ?_ ?_ (by assumption) (by assumption) ?_ ?_ ?_
    · exact small_one (by omega) (by omega) (by omega) (by omega)
    · rw [rangeSize_nat]; omega
    · refine' ⟨(_, _, _), by kst_in, by ((try dsimp only); (repeat (refine AllP.cons (by with_unfolding_all rfl) ?_)); exact AllP.nil), ?_⟩
      rfl
    · refine prod3 fun hy th tl I i ti u h tk oI hin hP hne F N Qb hb9 => ?_
      dsimp only [kstB] at F hP
      have ho : oc[i]? = some oc[i] := by simp [hin]
      have hg : oc.getD (0 + (i : Int) * 1).toNat 0 = oc[i] := by
        have e : (0 + (i : Int) * 1).toNat = i := by omega
        rw [e, List.getD_eq_getElem?_getD, ho]; rfl
      have hst := hyp_step ho
      rw [← hg] at hst
      k_steps
      · refine' FEnd.intro (_, _, _) (by assumption) (by assumption) (.head _) (fun _ h => nomatch h) (fun _ h => nomatch h) (by ((try dsimp only); (repeat (refine AllP.cons (by with_unfolding_all rfl) ?_)); exact AllP.nil)) ?_
        rw [hst, if_pos (by assumption)]
        dsimp only; omega
      · refine' FEnd.intro (_, _, _) (by assumption) (by assumption) (.head _) (fun _ h => nomatch h) (fun _ h => nomatch h) (by ((try dsimp only); (repeat (refine AllP.cons (by with_unfolding_all rfl) ?_)); exact AllP.nil)) ?_
        rw [hst, if_neg (by assumption)]
        exact hP
    · refine prod3 fun hy th tl u h tk hP F N => ?_
      dsimp only [kstB] at F hP
      have hh9 := head_ints hi hP
      k_steps
      unfold Stop
      refine' SrcB.intro (fun k y => ∃ t, y = .str (sg k.toNat) t) [] rfl (by assumption) (by assumption) (fun _ h => nomatch h) hh9 (by rw [List.length_take]; omega) ?_ ?_
      · intro k t I oI C oC D m₂ ys h tk E' hk' hC' hx' F' N' off' ne'
        have hk0 := KBw.ints_in (hi ▸ List.mem_of_mem_take hk')
        (simp only [LCg.Off3, and_true] at off')
        (try k_fold)
        k_steps
        exact ⟨rfl, _, rfl⟩
      · intro g ys hA
        have ht9 := tail_ints hi hP
        k_steps
        unfold Stop
        refine' SrcB.intro (fun k y => ∃ t, y = .int (up k) t) [] rfl (by assumption) (by assumption) (fun _ h => nomatch h) ht9 (by rw [List.length_drop]; omega) ?_ ?_
        · intro k t I oI C oC D m₂ ys h tk E' hk' hC' hx' F' N' off' ne'
          (simp only [LCg.Off3, and_true] at off')
          (try k_fold)
          k_steps
          all_goals exact ⟨rfl, int_ret (by unfold up; split <;> omega)⟩
        · intro g ys hA2
          have hI2 := hA2.ints
          obtain ⟨hy1, hy2⟩ := hyp_range oc oc.length
          have hgl : (List.map up (List.drop (hyp oc oc.length + 1).toNat oc)).length ≤ 40 := by rw [List.length_map, List.length_drop]; omega
          have hgb : ∀ o ∈ List.map up (List.drop (hyp oc oc.length + 1).toNat oc), 0 ≤ o ∧ o < 256 := great_byte hlp.1
          have hcg : CalmN (greatL oc) := calm_great hlp.2.2
          have hct : CalmN (List.drop (hyp oc oc.length + 1).toNat oc) := calm_drop hlp.2.2
          have hHl : (headL oc).length = H9.length := by
            have e : H9.cps.toList.length = H9.length := by simp [Str.length]
            rw [← e, hH9]; rfl
          have hst : (Str.ofString "中" ++ H9 ++ Str.ofString "é").length ≤ 60 := by
            have q1 : (Str.ofString "中").length = 1 := by decide
            have q2 : (Str.ofString "é").length = 1 := by decide
            rw [Str.length_append, Str.length_append]; omega
          k_steps
          unfold Stop
          rename Fr _ _ _ _ => FB
          have eG : readS (greatL oc) 0 (headL oc).length 72 (-1) (-1) [] [] = readS (List.map up (List.drop (hyp oc oc.length + 1).toNat oc)) 0 (H9.length : Nat) 72 (-1) (-1) [] [] := by rw [hHl]; rfl
          have eH : headL oc = H9.cps.toList := hH9.symm
          refine' st_joinV FB [(Str.ofString "stem", .str (Str.ofString "中" ++ H9 ++ Str.ofString "é") ?tsx), (Str.ofString "tail", .bytes (KBy.picked bs (some (hy + 1)) none) ?ttx), (Str.ofString "label", .bytes bs tl)] (Str.ofString "told") (ToldP hy (readS (List.map up (List.drop (hyp oc oc.length + 1).toNat oc)) 0 (H9.length : Nat) 72 (-1) (-1) [] []) H9.cps.toList) ?kpx ?hix ?kx
          case kpx => (try dsimp only); (repeat (refine AllP.cons (by with_unfolding_all rfl) ?_)); exact AllP.nil
          case hix =>
            intro Q2 ret2
            repeat (rename BMark => bmq; clear bmq)
            rcases hR9 with ⟨f9, D9, ta9, tb9, tc9, hf9, hr9, ht9'⟩ | ⟨sp9, t9', hf9, ht9', hr9⟩ <;> subst ht9' <;> subst hr9
            · k_steps
              exact ret2 _ _ _ _ _ _ (by assumption) (by assumption) (fun _ h => h) (by ((try dsimp only); (repeat (refine AllP.cons (by with_unfolding_all rfl) ?_)); exact AllP.nil)) (.inl ⟨f9, _, _, _, _, hf9, rfl, .head _⟩)
            · k_steps
              exact ret2 _ _ _ _ _ _ (by assumption) (by assumption) (fun _ h => h) (by ((try dsimp only); (repeat (refine AllP.cons (by with_unfolding_all rfl) ?_)); exact AllP.nil)) (.inr ⟨sp9, _, hf9, rfl⟩)
          case kx =>
            intro tv led h6 tk6 u6 F6 N6 hT6
            dsimp only [kstB] at F6
            dsimp only
            k_steps
            unfold Stop
            refine' st_joinV F6 [(Str.ofString "told", tv), (Str.ofString "stem", .str (Str.ofString "中" ++ H9 ++ Str.ofString "é") ?tsy), (Str.ofString "tail", .bytes (KBy.picked bs (some (hy + 1)) none) ?tty)] (Str.ofString "got") (fun gv led => EqV led gv tv) ?kpy ?hiy ?ky
            case kpy => (try dsimp only); (repeat (refine AllP.cons (by with_unfolding_all rfl) ?_)); exact AllP.nil
            case hiy =>
              intro Q3 ret3
              repeat (rename BMark => bmq; clear bmq)
              k_steps
              · refine Stop.out ?_
                obtain ⟨ht9, sp9, t9', hs9, he9⟩ := hR9
                subst ht9
                subst he9
                (simp only [List.nil_append] at N9)
                k_steps
                rw [eG] at hs9
                exact ret3 _ _ _ _ _ _ (by assumption) (by assumption) (fun _ h => h) (by ((try dsimp only); (repeat (refine AllP.cons (by with_unfolding_all rfl) ?_)); exact AllP.nil)) (by rw [eH]; exact hT6.calm hs9)
              · refine Stop.out ?_
                obtain ⟨vv9, f9, hf9, hu9⟩ := R9.told
                refine caughtP ShiftR.bears R9 FG9 (by assumption) U9 fun h1 B1 Y1 U1 => ?_
                refine handle_asP ShiftR.bears Y1 FG9 (by assumption) U1 (by assumption) (by assumption) ktsDicts_nil ?_ PyProof.Rows.Boot.«UnicodeDecodeError» (by decide) ude_base ude_notTuple ude_self fun h2 g2 tk2 oe vs rest T2 F2 c2 d2 p2 x2 N2 s2 n2 K2 X2 P2 D2 => ?_
                · k_is
                obtain ⟨f8, hf8, pp8, mm8, tr8, q1, rfl, q2, q3, q4⟩ := p2
                try k_lift K2
                k_steps
                refine name_goesX rfl (by assumption) (by assumption) rfl rfl fun h5 v5 F5 N5 => ?_
                obtain ⟨F5', N5'⟩ := turn_nil T2 F5 N5
                exact ret3 _ _ _ _ _ _ F5' N5' (fun _ h => h) (by ((try dsimp only); (repeat (refine AllP.cons (by with_unfolding_all rfl) ?_)); exact AllP.nil)) (hT6.raised (eG ▸ hf8) (by rw [hP]; exact q2) (by rw [hP]; exact q3) rfl (fun p hp => .tail _ (.tail _ (s2 p hp))) (.head _))
            case ky =>
              intro gv led2 h7 tk7 u7 F7 N7 hE7
              dsimp only [kstB] at F7
              dsimp only
              k_steps
              unfold Stop
              refine' st_joinV F7 [(Str.ofString "got", gv), (Str.ofString "told", tv), (Str.ofString "stem", .str (Str.ofString "中" ++ H9 ++ Str.ofString "é") ?tsz), (Str.ofString "tail", .bytes (KBy.picked bs (some (hy + 1)) none) ?ttz)] (Str.ofString "laid") (fun lv led => EqV led gv tv ∧ LaidP (readS (List.drop (hyp oc oc.length + 1).toNat oc) 0 (Str.ofString "中" ++ H9 ++ Str.ofString "é").length 72 (-1) (-1) [] []) (Str.ofString "中" ++ H9 ++ Str.ofString "é").cps.toList lv led) ?kpz ?hiz ?kz
              case kpz => (try dsimp only); (repeat (refine AllP.cons (by with_unfolding_all rfl) ?_)); exact AllP.nil
              case hiz =>
                intro Q4 ret4
                repeat (rename BMark => bmq; clear bmq)
                k_steps
                · refine Stop.out ?_
                  obtain ⟨ht9, sp9, t9', hs9, he9⟩ := hR9
                  subst ht9
                  subst he9
                  (simp only [List.nil_append] at N9)
                  k_steps
                  exact ret4 _ _ _ _ _ _ (by assumption) (by assumption) (fun _ h => h) (by ((try dsimp only); (repeat (refine AllP.cons (by with_unfolding_all rfl) ?_)); exact AllP.nil)) ⟨hE7, .inr ⟨sp9, _, hs9, rfl⟩⟩
                · refine Stop.out ?_
                  refine caughtP FaultR.bears R9 FG9 (by assumption) U9 fun h1 B1 Y1 U1 => ?_
                  refine handle_asP FaultR.bears Y1 FG9 (by assumption) U1 (by assumption) (by assumption) ktsDicts_nil ?_ PyProof.Rows.Boot.«UnicodeDecodeError» (by decide) ude_base ude_notTuple ude_self fun h2 g2 tk2 oe vs rest T2 F2 c2 d2 p2 x2 N2 s2 n2 K2 X2 P2 D2 => ?_
                  · k_is
                  obtain ⟨f8, hf8, _, pp8, mm8, tr8, q1, rfl, q2, q3, q4⟩ := p2
                  try k_lift K2
                  k_steps
                  refine name_goesX rfl (by assumption) (by assumption) rfl rfl fun h5 v5 F5 N5 => ?_
                  obtain ⟨F5', N5'⟩ := turn_nil T2 F5 N5
                  exact ret4 _ _ _ _ _ _ F5' N5' (fun _ h => h) (by ((try dsimp only); (repeat (refine AllP.cons (by with_unfolding_all rfl) ?_)); exact AllP.nil)) ⟨hE7.sub fun p hp => .tail _ (.tail _ (s2 p hp)), .raised hf8 q2 q3 rfl (.head _)⟩
              case kz =>
                rintro lv led3 h8 tk8 u8 F8 N8 ⟨hE8, hL8⟩
                dsimp only [kstB] at F8
                dsimp only
                k_steps)
end
end Mine

theorem PySem.Challenge.cw_rl0154_02_holds : PySem.Challenge.rw_rl0154_02.Holds := by
  exact Mine.law_holds
