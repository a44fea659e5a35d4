import PyProof.Rows.All
import Wide.All
import OpenK.AllK
import Wide.FinOn
import Lean
import PySem.Challenge.RW_ty0005_01
open PySem PySem.W PyProof.Rows
set_option Elab.async false
set_option maxRecDepth 100000
set_option maxHeartbeats 8000000
namespace Mine
open_top hd for PySem.Challenge.rw_ty0005_01
section
section lib
/-- names with values up to their tokens -/
def tokd (tk : Nat → Tok) : Nat → List (Str × (Tok → Value)) → List (Str × Value)
  | _, [] => []
  | i, p :: r => (p.1, p.2 (tk i)) :: tokd tk (i + 1) r
def Held (m : Str → Option Value) : List (Str × (Tok → Value)) → Prop
  | [] => True
  | p :: r => (∃ t, m p.1 = some (p.2 t)) ∧ Held m r
theorem tokd_congr {tk tk' : Nat → Tok} : ∀ (ps : List (Str × (Tok → Value))) (i : Nat), (∀ j, i ≤ j → tk j = tk' j) → tokd tk i ps = tokd tk' i ps
  | [], _, _ => rfl
  | p :: r, i, h => by
    show (p.1, p.2 (tk i)) :: tokd tk (i + 1) r = (p.1, p.2 (tk' i)) :: tokd tk' (i + 1) r
    rw [h i (Nat.le_refl _), tokd_congr r (i + 1) fun j hj => h j (by omega)]
theorem held_tokd {m : Str → Option Value} : ∀ {ps : List (Str × (Tok → Value))} (i : Nat), Held m ps → ∃ tk, ∀ q ∈ tokd tk i ps, m q.1 = some q.2
  | [], _, _ => ⟨fun _ => 0, fun _ hq => nomatch hq⟩
  | p :: r, i, h => by
    obtain ⟨⟨t, ht⟩, hr⟩ := h
    obtain ⟨tk, hk⟩ := held_tokd (ps := r) (i + 1) hr
    refine ⟨fun j => if j = i then t else tk j, fun q hq => ?_⟩
    have e : tokd (fun j => if j = i then t else tk j) (i + 1) r = tokd tk (i + 1) r := tokd_congr r (i + 1) fun j hj => by
      show (if j = i then t else tk j) = tk j
      rw [if_neg (by omega)]
    change q ∈ (p.1, p.2 (if i = i then t else tk i)) :: tokd (fun j => if j = i then t else tk j) (i + 1) r at hq
    rw [e, if_pos rfl] at hq
    rcases List.mem_cons.mp hq with rfl | hq
    · exact ht
    · exact hk q hq
theorem tokd_names (tk : Nat → Tok) {z : Str} : ∀ (ps : List (Str × (Tok → Value))) (i : Nat), (∀ q ∈ tokd tk i ps, z ≠ q.1) → ∀ p ∈ ps, z ≠ p.1
  | [], _, _, _, hp => nomatch hp
  | p :: r, i, h, q, hq => by
    rcases List.mem_cons.mp hq with rfl | hq
    · exact h (q.1, q.2 (tk i)) (.head _)
    · exact tokd_names tk r (i + 1) (fun q' hq' => h q' (.tail _ hq')) q hq
/-- what a name not stored holds still -/
def Rest (ps : List (Str × (Tok → Value))) (stored : List Str) (m₀ m : Str → Option Value) : Prop :=
  ∀ z, (∀ p ∈ ps, z ≠ p.1) → stored.contains z = false → m z = m₀ z
def env9 (ps : List (Str × (Tok → Value))) (stored : List Str) (m₀ u : Str → Option Value) (tk : Nat → Tok) : Str → Option Value :=
  kstB (fun z => if stored.contains z then u z else m₀ z) (tokd tk 0 ps)
theorem env9_eq {ps : List (Str × (Tok → Value))} {stored : List Str} {m₀ m : Str → Option Value} (h : Held m ps) (hr : Rest ps stored m₀ m) : ∃ tk, env9 ps stored m₀ m tk = m := by
  obtain ⟨tk, hk⟩ := held_tokd 0 h
  refine ⟨tk, funext fun y => ?_⟩
  refine kstB_eq hk fun hn => ?_
  show (if stored.contains y = true then m y else m₀ y) = m y
  cases h3 : stored.contains y with
  | true => simp
  | false => simp only [Bool.false_eq_true, if_false]; exact (hr y (tokd_names tk ps 0 hn) h3).symm
section
variable {prog : Program} {w : World} {A : Around} {E : Value → Shared → Prop} {Q : Flow → Shared → Prop} {s : Shared} {env : Env} {h₀ : Heap} {L : Addr}
def WEnd {σ : Type} (h₀ : Heap) (L : Addr) (s : Shared) (Led : σ → List (Addr × Obj)) (ps : σ → List (Str × (Tok → Value))) (stored : List Str) (m₀ : Str → Option Value) (P : σ → Prop) (μ : σ → Nat) (c : σ) (s₂ : Shared) : Prop :=
  ∃ (c' : σ) (h' : Heap) (tk : Nat) (m' : Str → Option Value) (news' : List (Addr × Obj)), s₂ = { s with heap := h', toks := tk } ∧ Fr h₀ L h' m' ∧ News h₀ L h' news' ∧ (∀ p ∈ Led c', p ∈ news') ∧ Held m' (ps c') ∧ Rest (ps c') stored m₀ m' ∧ P c' ∧ μ c' < μ c
def WPost {σ : Type} (h₀ : Heap) (L : Addr) (s : Shared) (Led : σ → List (Addr × Obj)) (ps : σ → List (Str × (Tok → Value))) (stored : List Str) (m₀ : Str → Option Value) (P : σ → Prop) (μ : σ → Nat) (Q : Flow → Shared → Prop) (c : σ) (f : Flow) (s₂ : Shared) : Prop :=
  match f with
  | .ret v => Q (.ret v) s₂
  | .brk => Q .next s₂
  | _ => WEnd h₀ L s Led ps stored m₀ P μ c s₂
theorem WEnd.intro {σ : Type} {s : Shared} {Led : σ → List (Addr × Obj)} {ps : σ → List (Str × (Tok → Value))} {stored : List Str} {m₀ m' : Str → Option Value} {P : σ → Prop} {μ : σ → Nat} {c : σ} {h' : Heap} {tk : Nat} {news' : List (Addr × Obj)} (c' : σ)
    (F : Fr h₀ L h' m') (N : News h₀ L h' news') (hn : ∀ p ∈ Led c', p ∈ news') (hk : Held m' (ps c')) (hr : Rest (ps c') stored m₀ m') (hp : P c') (hm : μ c' < μ c) :
    WEnd h₀ L s Led ps stored m₀ P μ c { s with heap := h', toks := tk } := ⟨c', h', tk, m', news', rfl, F, N, hn, hk, hr, hp, hm⟩
/-- a while by a state of one's own -/
theorem m_while {σ : Type} {test : Expr} {body : List Stmt} {pos : Pos} {m₀ : Str → Option Value} (Led : σ → List (Addr × Obj)) (ps : σ → List (Str × (Tok → Value))) (stored : List Str) (P : σ → Prop) (μ : σ → Nat) (c₀ : σ)
    (F : Fr h₀ L s.heap m₀) (N : News h₀ L s.heap (Led c₀)) (hk : Held m₀ (ps c₀)) (hp : P c₀)
    (turn : ∀ (c : σ) (u : Str → Option Value) tkf h tk, P c → Fr h₀ L h (env9 (ps c) stored m₀ u tkf) → News h₀ L h (Led c) →
      wpAny (model prog w) A (isTrue test env (eval test env)) (fun b s₂ =>
        if b = true then wpAny (model prog w) A (execs body env) (WPost h₀ L s Led ps stored m₀ P μ Q c) E s₂ else Q .next s₂) E { s with heap := h, toks := tk })
    (hE : PassesOwn (model prog w) A env E := by passes_own) :
    wpAny (model prog w) A (exec (.While test body [] pos) env) Q E s := by
  refine While_inv2 (fun n m nx => ∃ c : σ, nx = Led c ∧ μ c = n ∧ Held m (ps c) ∧ Rest (ps c) stored m₀ m ∧ P c) F N ⟨c₀, rfl, rfl, hk, fun _ _ _ => rfl, hp⟩ ?_ hE
  rintro n m₁ nx h tk F₁ N₁ ⟨c, rfl, rfl, h1, h2, hp'⟩
  obtain ⟨tkf, he⟩ := env9_eq h1 h2
  refine wpAny_mono (turn c m₁ tkf h tk hp' (he.symm ▸ F₁) N₁) (fun b s₂ p => ?_) fun _ _ x => x
  cases b with
  | false => simpa using p
  | true =>
    simp only [if_true] at p ⊢
    refine wpAny_mono p (fun f s₃ q => ?_) fun _ _ x => x
    cases f with
    | ret v => exact q
    | brk => exact q
    | next =>
      obtain ⟨c', h', tk', m', news', rfl, F', N', hn, hk9, hr9, hp9, hm9⟩ := q
      exact ⟨h', tk', m', Led c', μ c', rfl, F', fun p hp => N' p (hn p hp), hm9, c', rfl, rfl, hk9, hr9, hp9⟩
    | cont =>
      obtain ⟨c', h', tk', m', news', rfl, F', N', hn, hk9, hr9, hp9, hm9⟩ := q
      exact ⟨h', tk', m', Led c', μ c', rfl, F', fun p hp => N' p (hn p hp), hm9, c', rfl, rfl, hk9, hr9, hp9⟩
/-- a ledger off an address -/
abbrev Off (I : Addr) (l : List (Addr × Obj)) : Prop := LCg.Off1 I l
theorem off_of {I : Addr} : ∀ {l : List (Addr × Obj)}, (∀ q ∈ l, q.1 ≠ I) → Off I l
  | [], _ => trivial
  | _ :: _, h => ⟨h _ (.head _), off_of fun q hq => h q (.tail _ hq)⟩
theorem Off.mem {I : Addr} : ∀ {l : List (Addr × Obj)}, Off I l → ∀ q ∈ l, q.1 ≠ I
  | [], _, _, h => nomatch h
  | _ :: _, x, q, h => by
    rcases List.mem_cons.mp h with rfl | h
    · exact x.1
    · exact Off.mem x.2 q h
theorem Off.app {I : Addr} {l r : List (Addr × Obj)} (h1 : Off I l) (h2 : Off I r) : Off I (l ++ r) :=
  off_of fun q hq => (List.mem_append.mp hq).elim (Off.mem h1 q) (Off.mem h2 q)
theorem Off.left {I : Addr} {l r : List (Addr × Obj)} (h : Off I (l ++ r)) : Off I l := off_of fun q hq => Off.mem h q (List.mem_append.mpr (.inl hq))
theorem Off.right {I : Addr} {l r : List (Addr × Obj)} (h : Off I (l ++ r)) : Off I r := off_of fun q hq => Off.mem h q (List.mem_append.mpr (.inr hq))
def FEnd {σ : Type} (h₀ : Heap) (L : Addr) (x : Str) (s : Shared) (Led : σ → List (Addr × Obj)) (ps : σ → List (Str × (Tok → Value))) (stored : List Str) (m₀ : Str → Option Value) (P : Nat → σ → Prop) (i : Nat) (I : Addr) (oI : Obj) (s₂ : Shared) : Prop :=
  ∃ (c' : σ) (h' : Heap) (tk : Nat) (m' : Str → Option Value) (news' : List (Addr × Obj)), s₂ = { s with heap := h', toks := tk } ∧ Fr h₀ L h' m' ∧ News h₀ L h' news' ∧ (∀ p ∈ (I, oI) :: Led c', p ∈ news') ∧ Off I (Led c') ∧ Held m' (ps c') ∧ Rest (ps c') (x :: stored) m₀ m' ∧ P (i + 1) c'
def FPost {σ : Type} (h₀ : Heap) (L : Addr) (x : Str) (s : Shared) (Led : σ → List (Addr × Obj)) (ps : σ → List (Str × (Tok → Value))) (stored : List Str) (m₀ : Str → Option Value) (P : Nat → σ → Prop) (i : Nat) (I : Addr) (oI : Obj) (Q : Flow → Shared → Prop) (f : Flow) (s₂ : Shared) : Prop :=
  match f with
  | .ret v => Q (.ret v) s₂
  | .brk => Q .next s₂
  | _ => FEnd h₀ L x s Led ps stored m₀ P i I oI s₂
theorem FEnd.intro {σ : Type} {x : Str} {s : Shared} {Led : σ → List (Addr × Obj)} {ps : σ → List (Str × (Tok → Value))} {stored : List Str} {m₀ m' : Str → Option Value} {P : Nat → σ → Prop} {i : Nat} {I : Addr} {oI : Obj} {h' : Heap} {tk : Nat} {news' : List (Addr × Obj)} (c' : σ)
    (F : Fr h₀ L h' m') (N : News h₀ L h' news') (hn : ∀ p ∈ (I, oI) :: Led c', p ∈ news') (off : Off I (Led c')) (hk : Held m' (ps c')) (hr : Rest (ps c') (x :: stored) m₀ m') (hp : P (i + 1) c') :
    FEnd h₀ L x s Led ps stored m₀ P i I oI { s with heap := h', toks := tk } := ⟨c', h', tk, m', news', rfl, F, N, hn, off, hk, hr, hp⟩
theorem fr_x {x : Str} {v : Value} {ps : List (Str × (Tok → Value))} {stored : List Str} {m₀ m : Str → Option Value} {h : Heap} (h1 : Held m ps) (h2 : Rest ps (x :: stored) m₀ m) (F : Fr h₀ L h (fun y => if y = x then some v else m y)) :
    ∃ tk, Fr h₀ L h (fun y => if y = x then some v else env9 ps stored m₀ m tk y) := by
  obtain ⟨tk, hk⟩ := held_tokd 0 h1
  refine ⟨tk, ?_⟩
  have e : (fun y => if y = x then some v else env9 ps stored m₀ m tk y) = fun y => if y = x then some v else m y := by
    funext y
    by_cases hy : y = x
    · rw [if_pos hy, if_pos hy]
    · rw [if_neg hy, if_neg hy]
      refine kstB_eq hk fun hn => ?_
      show (if stored.contains y = true then m y else m₀ y) = m y
      cases h3 : stored.contains y with
      | true => simp
      | false =>
        simp only [Bool.false_eq_true, if_false]
        exact (h2 y (tokd_names tk ps 0 hn) (by rw [List.contains_cons, h3, Bool.or_false, beq_eq_false_iff_ne]; exact hy)).symm
  rw [e]; exact F
theorem fr_out {x : Str} {ps : List (Str × (Tok → Value))} {stored : List Str} {m₀ m : Str → Option Value} {h : Heap} (h1 : Held m ps) (h2 : Rest ps (x :: stored) m₀ m) (F : Fr h₀ L h m) :
    ∃ tk, Fr h₀ L h (env9 ps (x :: stored) m₀ m tk) := by
  obtain ⟨tk, e⟩ := env9_eq h1 h2
  exact ⟨tk, e.symm ▸ F⟩
/-- a for by a state of one's own, over anything that walks; the ledger may grow -/
theorem m_loop {σ : Type} {x : Str} {body : List Stmt} {I : Addr} {fp : List Addr} {n : Nat} {V : Nat → Value → Prop} {St : Nat → Heap → Prop} {m₀ : Str → Option Value}
    (Led : σ → List (Addr × Obj)) (ps : σ → List (Str × (Tok → Value))) (stored : List Str) (P : Nat → σ → Prop) (c₀ : σ)
    (W : Walks prog w A I fp [I] n V St) (hLf : env.locals ∉ fp) (hI₀ : h₀.get? I = none) (hnw : Off I (Led c₀)) (hst : St 0 s.heap) (hlive : ∀ i h, St i h → ∃ o, h.get? I = some o)
    (hfp : ∀ b ∈ fp, b = I ∨ (∃ o, h₀.get? b = some o) ∨ (∃ o, ∀ c, (b, o) ∈ Led c))
    (F : Fr h₀ env.locals s.heap m₀) (N : News h₀ env.locals s.heap (Led c₀)) (hk : Held m₀ (ps c₀)) (hp : P 0 c₀)
    (turn : ∀ (c : σ) i v u tkf h tk oI, i < n → V i v → Off I (Led c) → P i c → Fr h₀ env.locals h (fun y => if y = x then some v else env9 (ps c) stored m₀ u tkf y) → News h₀ env.locals h ((I, oI) :: Led c) →
      wpAny (model prog w) A (execs body env) (FPost h₀ env.locals x { s with heap := h, toks := tk } Led ps stored m₀ P i I oI Q) E { s with heap := h, toks := tk })
    (done : ∀ (c : σ) u tkf h tk, P n c → Fr h₀ env.locals h (env9 (ps c) (x :: stored) m₀ u tkf) → News h₀ env.locals h (Led c) → Q .next { s with heap := h, toks := tk }) :
    LoopAtV prog w A h₀ env x body Q E (.ref I) s := by
  have hL : env.locals ≠ I := fun e => hLf (W.sub _ (e ▸ List.mem_singleton.mpr rfl))
  refine ⟨I, fp, [I], n, V, St, m₀, Led c₀, (fun i m nx => ∃ c : σ, nx = Led c ∧ Held m (ps c) ∧ Rest (ps c) (x :: stored) m₀ m ∧ P i c), rfl, W, hLf, (fun b hb => by rw [List.mem_singleton.mp hb]; exact hI₀), (fun p hp hb => Off.mem hnw p hp (List.mem_singleton.mp hb)), hst, F, N, ⟨c₀, rfl, hk, fun _ _ _ => rfl, hp⟩, ?_, ?_⟩
  · rintro i v m₁ nx s₁ own ⟨hh, tk, rfl⟩ hin hV ⟨c, rfl, h1, h2, hp'⟩ hoff hsub hget hall hst₁ F₁ N₁
    obtain ⟨tkf, F₂⟩ := fr_x h1 h2 F₁
    obtain ⟨oI, ho⟩ := hlive _ _ hst₁
    have offI : Off I (Led c) := off_of fun q hq e => hoff q hq (by rw [e]; exact List.mem_singleton.mpr rfl)
    have N₂ : News h₀ env.locals hh ((I, oI) :: Led c) := fun p hp => by
      rcases List.mem_cons.mp hp with rfl | hp
      · exact ⟨ho, Ne.symm hL, hI₀⟩
      · exact N₁ p (List.mem_append.mpr (.inr hp))
    have fin : ∀ s₂, FEnd h₀ env.locals x { s with heap := hh, toks := tk } Led ps stored m₀ P i I oI s₂ → LoopStepU h₀ env.locals [I] own (fun m nx => ∃ c : σ, nx = Led c ∧ Held m (ps c) ∧ Rest (ps c) (x :: stored) m₀ m ∧ P (i + 1) c) { s with heap := hh, toks := tk } .next s₂ := by
      rintro s₂ ⟨c', h', tk', m', news', e, F', N', hn, off, hk', hr', hp''⟩
      refine ⟨rfl, h', tk', m', Led c', e, F', fun p hp => ?_, fun p hp hq => Off.mem off p hp (List.mem_singleton.mp hq), c', rfl, hk', hr', hp''⟩
      rcases List.mem_append.mp hp with hp | hp
      · rcases hfp _ (hsub p hp) with e1 | ⟨o, e1⟩ | ⟨o, e1⟩
        · have e2 := hget p hp
          rw [show ({ s with heap := hh, toks := tk } : Shared).heap = hh from rfl, e1, ho] at e2
          obtain ⟨p1, p2⟩ := p
          cases e1
          cases e2
          exact N' _ (hn _ (.head _))
        · have := (N₁ p (List.mem_append.mpr (.inl hp))).2.2
          rw [e1] at this; cases this
        · have e2 := hget p hp
          have e3 : hh.get? p.1 = some o := (N₁ _ (List.mem_append.mpr (.inr (e1 c)))).1
          rw [show ({ s with heap := hh, toks := tk } : Shared).heap = hh from rfl, e3] at e2
          obtain ⟨p1, p2⟩ := p
          cases e2
          exact N' _ (hn _ (.tail _ (e1 c')))
      · exact N' p (hn p (.tail _ hp))
    refine wpAny_mono (turn c i v m₁ tkf hh tk oI hin hV offI hp' F₂ N₂) (fun f s₂ p => ?_) fun _ _ e => e
    cases f with
    | ret v => exact .ret p
    | brk => exact .brk p
    | next => exact .next (fin _ p)
    | cont => exact .cont (fin _ p)
  · rintro h' tk m' nx F' N' hoff ⟨c, rfl, h1, h2, hp'⟩
    obtain ⟨tkf, F₂⟩ := fr_out h1 h2 F'
    exact done c m' tkf h' tk hp' F₂ N'
/-- .. over a range by ones -/
theorem m_range {σ : Type} {x : Str} {body : List Stmt} {r : Addr} {a₀ b₀ : Int} {t₀ u₀ v₀ : Tok} {n : Nat} {m₀ : Str → Option Value} (Led : σ → List (Addr × Obj)) (ps : σ → List (Str × (Tok → Value))) (stored : List Str) (P : Nat → σ → Prop) (c₀ : σ)
    (hh : A.handled = none) (hr : IsRange s.heap r a₀ b₀ 1 t₀ u₀ v₀) (hsmall : Builtin.Range.small a₀ b₀ 1 = true) (hn : Builtin.Range.rangeSize a₀ b₀ 1 = (n : Int)) (F : Fr h₀ env.locals s.heap m₀) (N : News h₀ env.locals s.heap (Led c₀)) (hk : Held m₀ (ps c₀)) (hp : P 0 c₀)
    (turn : ∀ (c : σ) i t u tkf h tk I oI, i < n → Off I (Led c) → P i c → Fr h₀ env.locals h (fun y => if y = x then some (.int (a₀ + (i : Int)) t) else env9 (ps c) stored m₀ u tkf y) → News h₀ env.locals h ((I, oI) :: Led c) →
      wpAny (model prog w) A (execs body env) (FPost h₀ env.locals x { s with heap := h, toks := tk } Led ps stored m₀ P i I oI Q) E { s with heap := h, toks := tk })
    (done : ∀ (c : σ) u tkf h tk, P n c → Fr h₀ env.locals h (env9 (ps c) (x :: stored) m₀ u tkf) → News h₀ env.locals h (Led c) → Q .next { s with heap := h, toks := tk }) :
    wpAny (model prog w) A (pyIter (.ref r)) (fun it s₂ => LoopAtV prog w A h₀ env x body Q E it s₂) E s := by
  refine wpAny_pyIter_range hr hsmall ?_
  refine m_loop Led ps stored P c₀ (LCg.range_walks hh a₀ n) ?_ (next_is_new F) ?_ (by show IsRangeIter _ _ _ _ _; rw [hn]; simpa using Heap.get?_push_size _ rfl) (fun i h st => ⟨_, st⟩) (fun b hb => .inl (List.mem_singleton.mp hb)) (F.push _) (fun p hp => ⟨Heap.get?_push_of_some _ (N p hp).1, (N p hp).2⟩) hk hp ?_ done
  · intro hm
    exact absurd F.ns.lt ((List.mem_singleton.mp hm) ▸ Nat.lt_irrefl _)
  · exact off_of fun p hp e => absurd (Heap.lt_size (N p hp).1) (e ▸ Nat.lt_irrefl _)
  · rintro c i v u tkf h tk oI hi ⟨t, rfl⟩ off hp' F₁ N₁
    exact turn c i t u tkf h tk _ oI hi off hp' F₁ N₁
/-- .. over a range by ones, one list of the ledger grown -/
theorem m_rangeL {x : Str} {body : List Stmt} {r : Addr} {a₀ b₀ : Int} {t₀ u₀ v₀ : Tok} {n : Nat} {m₀ : Str → Option Value} {D : Addr} {us₀ : List Value} {k₀ : Nat} {rest : List (Addr × Obj)} (ps : List Value → List (Str × (Tok → Value))) (stored : List Str) (P : Nat → List Value → Prop)
    (hh : A.handled = none) (hr : IsRange s.heap r a₀ b₀ 1 t₀ u₀ v₀) (hsmall : Builtin.Range.small a₀ b₀ 1 = true) (hn : Builtin.Range.rangeSize a₀ b₀ 1 = (n : Int)) (F : Fr h₀ env.locals s.heap m₀) (N : News h₀ env.locals s.heap ((D, listOf us₀.toArray k₀) :: rest)) (hk : Held m₀ (ps us₀)) (hp : P 0 us₀)
    (turn : ∀ (us : List Value) (kk : Nat) i t u tkf h tk I oI, i < n → (@Ne Nat D I) → Off I rest → P i us → Fr h₀ env.locals h (fun y => if y = x then some (.int (a₀ + (i : Int)) t) else env9 (ps us) stored m₀ u tkf y) → News h₀ env.locals h ((I, oI) :: (D, listOf us.toArray kk) :: rest) →
      wpAny (model prog w) A (execs body env) (FPost h₀ env.locals x { s with heap := h, toks := tk } (fun c : List Value × Nat => (D, listOf c.1.toArray c.2) :: rest) (fun c => ps c.1) stored m₀ (fun i c => P i c.1) i I oI Q) E { s with heap := h, toks := tk })
    (done : ∀ (us : List Value) (kk : Nat) u tkf h tk, P n us → Fr h₀ env.locals h (env9 (ps us) (x :: stored) m₀ u tkf) → News h₀ env.locals h ((D, listOf us.toArray kk) :: rest) → Q .next { s with heap := h, toks := tk }) :
    wpAny (model prog w) A (pyIter (.ref r)) (fun it s₂ => LoopAtV prog w A h₀ env x body Q E it s₂) E s :=
  m_range (σ := List Value × Nat) (fun c => (D, listOf c.1.toArray c.2) :: rest) (fun c => ps c.1) stored (fun i c => P i c.1) (us₀, k₀) hh hr hsmall hn F N hk hp
    (fun c i t u tkf h tk I oI hi off hp' F' N' => turn c.1 c.2 i t u tkf h tk I oI hi off.1 off.2 hp' F' N')
    (fun c u tkf h tk hp' F' N' => done c.1 c.2 u tkf h tk hp' F' N')
/-- .. over a made list of the ledger -/
theorem m_list {σ : Type} {x : Str} {body : List Stmt} {l : Addr} {vs : List Value} {k : Nat} {m₀ : Str → Option Value} (Led : σ → List (Addr × Obj)) (ps : σ → List (Str × (Tok → Value))) (stored : List Str) (P : Nat → σ → Prop) (c₀ : σ)
    (hh : A.handled = none) (hl : ∀ c, (l, listOf vs.toArray k) ∈ Led c) (F : Fr h₀ env.locals s.heap m₀) (N : News h₀ env.locals s.heap (Led c₀)) (hk : Held m₀ (ps c₀)) (hp : P 0 c₀)
    (turn : ∀ (c : σ) i v u tkf h tk I oI, i < vs.length → vs[i]? = some v → Off I (Led c) → P i c → Fr h₀ env.locals h (fun y => if y = x then some v else env9 (ps c) stored m₀ u tkf y) → News h₀ env.locals h ((I, oI) :: Led c) →
      wpAny (model prog w) A (execs body env) (FPost h₀ env.locals x { s with heap := h, toks := tk } Led ps stored m₀ P i I oI Q) E { s with heap := h, toks := tk })
    (done : ∀ (c : σ) u tkf h tk, P vs.length c → Fr h₀ env.locals h (env9 (ps c) (x :: stored) m₀ u tkf) → News h₀ env.locals h (Led c) → Q .next { s with heap := h, toks := tk }) :
    wpAny (model prog w) A (pyIter (.ref l)) (fun it s₂ => LoopAtV prog w A h₀ env x body Q E it s₂) E s := by
  have hls : s.heap.IsList l vs.toArray := ⟨_, (N _ (hl c₀)).1, rfl, k, rfl⟩
  have hlt : l < s.heap.objs.size := Heap.lt_size (N _ (hl c₀)).1
  have hne : l ≠ s.heap.objs.size := Nat.ne_of_lt hlt
  refine wpAny_pyIter_list hls ?_
  have W := Walks.list (prog := prog) (w := w) hh s.heap.objs.size l hne vs.toArray
  rw [show vs.toArray.size = vs.length from by simp] at W
  refine m_loop Led ps stored P c₀ W ?_ (next_is_new F) ?_ ⟨⟨_, Heap.get?_push_size _ rfl, rfl, rfl⟩, hls.at fun o e => Heap.get?_push_of_some _ e⟩ (fun i h st => by obtain ⟨o, e, _⟩ := st.1; exact ⟨o, e⟩) ?_ (F.push _) (fun p hp => ⟨Heap.get?_push_of_some _ (N p hp).1, (N p hp).2⟩) hk hp ?_ done
  · intro hm
    rcases List.mem_cons.mp hm with e | hm
    · exact absurd F.ns.lt (e ▸ Nat.lt_irrefl _)
    · have e := List.mem_singleton.mp hm
      exact (N _ (hl c₀)).2.1 e.symm
  · exact off_of fun p hp e => absurd (Heap.lt_size (N p hp).1) (e ▸ Nat.lt_irrefl _)
  · intro b hb
    rcases List.mem_cons.mp hb with e | hb
    · exact .inl e
    · rw [List.mem_singleton.mp hb]
      exact .inr (.inr ⟨_, hl⟩)
  · rintro c i v u tkf h tk oI hi hv off hp' F₁ N₁
    exact turn c i v u tkf h tk _ oI hi (by simpa using hv) off hp' F₁ N₁
end
theorem held_int {m : Str → Option Value} {x : Str} {n n' : Int} {t : Tok} (h : m x = some (.int n' t)) (e : n' = n) : ∃ t, m x = some (.int n t) := ⟨t, e ▸ h⟩
end lib
end
section
section tx
open PySem.Builtin PySem.Builtin.Str PySem.StrLaws
def find4 (x y : PySem.Str) (i j : Int) : Int := match occurrences x y (fromIndex x.length i) (min (fromIndex x.length j) x.length) 1 with | k :: _ => (k : Int) | [] => -1
theorem gives_find4 (x y : PySem.Str) (i j : Int) (t u v v' : Tok) : Gives («str.find» ⟨[.str x t, .str y u, .int i v, .int j v'], []⟩) (.int (find4 x y i j)) := by
  show Gives (match occurrences x y (fromIndex x.length i) (min (fromIndex x.length j) x.length) 1 with | k :: _ => retInt k | [] => (do rule "str.find.not-found"; retInt (-1))) _
  unfold find4
  cases occurrences x y (fromIndex x.length i) (min (fromIndex x.length j) x.length) 1 with
  | nil => exact .rule (.of_eq rfl)
  | cons k _ => exact .of_eq rfl
theorem call_find4 {prog : Program} {w : World} {A : Around} {E : Value → Shared → Prop} {s : Shared} {x y : PySem.Str} {t u v v' : Tok} {i j : Int} {Q : Value → Shared → Prop}
    (hq : Q (.int (find4 x y i j) s.toks) { s with toks := s.toks + 1 }) : wpAny (model prog w) A (call (.builtin "str.find") [.str x t, .str y u, .int i v, .int j v']) Q E s :=
  call_gives F.slot_str_find (typeIs_str _ _ _) F.entry_str_find (F.args_str_find_4 _ _ _ _) (gives_find4 x y i j t u v v') hq
theorem subAt_empty {x y : PySem.Str} (h : y.length = 0) (i : Nat) : subAt x y i = true := by
  rw [subAt_eq, h]
  have : y.cps.toList = [] := by
    have h' : y.cps.size = 0 := h
    simpa using h'
  rw [this]; simp
theorem find4_empty {x y : PySem.Str} {i j : Nat} (h : y.length = 0) (h1 : i ≤ j) (h2 : j ≤ x.length) : find4 x y (i : Int) (j : Int) = (i : Int) := by
  have e1 : fromIndex x.length (i : Int) = i := by unfold fromIndex; rw [if_neg (by omega)]; omega
  have e2 : fromIndex x.length (j : Int) = j := by unfold fromIndex; rw [if_neg (by omega)]; omega
  unfold find4
  rw [e1, e2, Nat.min_eq_left h2]
  have key : occurrences x y i j 1 = [i] ∨ ∃ r, occurrences x y i j 1 = i :: r := by
    rw [occ_eq]
    rcases occ_first x y j 1 (by decide) (List.range' i (j + 1 - i)) i (fun k hk => by have := List.mem_range'_1.mp hk; omega) with ⟨_, hn⟩ | ⟨pre, a, post, e, h0, ha, hn⟩
    · exact absurd ⟨by omega, subAt_empty h i⟩ (hn i (by rw [List.mem_range'_1]; omega))
    · have hs := range'_split_from e
      have : a = i := by
        rcases Nat.lt_or_ge i a with hlt | hge
        · exact absurd ⟨by omega, subAt_empty h i⟩ (hn i (hs.2 i (Nat.le_refl _) hlt))
        · omega
      subst this
      right
      refine ⟨((forIn (List.range' a (j + 1 - a)) ((#[] : Array Nat), a) (occBody x y j 1)).run.fst.toList).tail, ?_⟩
      generalize (forIn (List.range' a (j + 1 - a)) ((#[] : Array Nat), a) (occBody x y j 1)).run.fst = arr at h0
      have h1 : arr.toList[0]? = some a := by simpa using h0
      cases hL : arr.toList with
      | nil => rw [hL] at h1; cases h1
      | cons b t => rw [hL] at h1; simp at h1; rw [h1]; rfl
  rcases key with e | ⟨r, e⟩ <;> rw [e]
theorem find4_emptyI {x y : PySem.Str} {i j : Int} (h : y.length = 0) (h0 : 0 ≤ i) (h1 : i ≤ j) (h2 : j ≤ (x.length : Int)) : find4 x y i j = i := by
  have := find4_empty (x := x) (y := y) (i := i.toNat) (j := j.toNat) h (by omega) (by omega)
  rwa [show ((i.toNat : Nat) : Int) = i from by omega, show ((j.toNat : Nat) : Int) = j from by omega] at this
def lowAt (n : Nat) (lo : Option Int) : Nat := lo.elim 0 (clipAt n)
def highAt (n : Nat) (hi : Option Int) : Nat := hi.elim n (clipAt n)
theorem clip_le (n : Nat) (i : Int) : clipAt n i ≤ n := by
  have := clipAt_cast n i
  omega
theorem high_le (n : Nat) (hi : Option Int) : highAt n hi ≤ n := by
  cases hi with
  | none => exact Nat.le_refl _
  | some i => exact clip_le n i
theorem indices_eq (lo hi : Option Int) (n : Nat) : strSliceIndices lo hi 1 n = (List.range (highAt n hi - lowAt n lo)).map (lowAt n lo + ·) := by
  rw [← sliceRange_one]
  unfold strSliceIndices lowAt highAt
  cases lo <;> cases hi <;> simp only [Option.elim, clipAt_cast, show (1 : Int) > 0 from by decide, if_true] <;> rfl
theorem slice_list (x : PySem.Str) (lo hi : Option Int) : (Txt.slice x lo hi).cps.toList = (x.cps.toList.drop (lowAt x.length lo)).take (highAt x.length hi - lowAt x.length lo) := by
  have hh := high_le x.length hi
  have hx : x.cps.toList.length = x.length := by simp [PySem.Str.length]
  unfold Txt.slice
  rw [indices_eq]
  split
  · rename_i h
    simp only [List.length_map, List.length_range, beq_self_eq_true, Bool.true_and, beq_iff_eq] at h
    by_cases h0 : x.length = 0
    · have : x.cps.toList = [] := List.eq_nil_of_length_eq_zero (by omega)
      rw [this]; simp
    · have e : lowAt x.length lo = 0 := by omega
      rw [e, List.drop_zero, List.take_of_length_le (by omega)]
  · rw [pick_run]
def dots : PySem.Str := PySem.Str.ofString "..."
theorem dots_list : dots.cps.toList = [46, 46, 46] := by decide +kernel
theorem dots_len : dots.length = 3 := by decide +kernel
/-- no dot in it -/
def DF (x : PySem.Str) : Prop := ∀ c ∈ x.cps.toList, c ≠ 46
theorem DF.slice {x : PySem.Str} (h : DF x) (lo hi : Option Int) : DF (Txt.slice x lo hi) := fun c hc => by
  rw [slice_list] at hc
  exact h c (List.mem_of_mem_drop (List.mem_of_mem_take hc))
theorem DF.empty : DF PySem.Str.empty := fun c hc => by
  have : PySem.Str.empty.cps.toList = [] := rfl
  rw [this] at hc; cases hc
theorem occ_skip (s sub : PySem.Str) (hi limit : Nat) : ∀ (l : List Nat) (st : Array Nat × Nat), (∀ i ∈ l, st.2 ≤ i → ¬ At s sub hi i) → (forIn l st (occBody s sub hi limit)).run = st
  | [], st, _ => rfl
  | a :: l, st, h => by
    rw [List.forIn_cons]
    unfold occBody
    have c2 : ¬ (((st.fst.size < limit ∧ st.snd ≤ a) ∧ a + sub.length ≤ hi) ∧ subAt s sub a = true) := fun hc => h a (.head _) hc.1.1.2 ⟨hc.1.2, hc.2⟩
    rw [if_neg c2]
    exact occ_skip s sub hi limit l st fun i hi' => h i (.tail _ hi')
theorem occ_hit (s sub : PySem.Str) (hi limit : Nat) (a : Nat) (l : List Nat) (st : Array Nat × Nat) (h1 : st.1.size < limit) (h2 : st.2 ≤ a) (h3 : At s sub hi a) :
    forIn (a :: l) st (occBody s sub hi limit) = forIn l (st.1.push a, a + sub.length) (occBody s sub hi limit) := by
  rw [List.forIn_cons]
  unfold occBody
  rw [if_pos ⟨⟨⟨h1, h2⟩, h3.1⟩, h3.2⟩]
  rfl
theorem forIn_app {α : Type} (f : Nat → α → Id (ForInStep α)) (hf : ∀ a st, ∃ st', f a st = pure (ForInStep.yield st')) : ∀ (l r : List Nat) (st : α), (forIn (l ++ r) st f : Id α) = forIn r ((forIn l st f : Id α).run) f
  | [], r, st => rfl
  | a :: l, r, st => by
    rw [List.cons_append, List.forIn_cons, List.forIn_cons]
    obtain ⟨st', e⟩ := hf a st
    rw [e]
    exact forIn_app f hf l r st'
theorem occBody_yields (s sub : PySem.Str) (hi limit : Nat) (a : Nat) (st : Array Nat × Nat) : ∃ st', occBody s sub hi limit a st = pure (ForInStep.yield st') := by
  unfold occBody
  split
  · exact ⟨_, rfl⟩
  · exact ⟨_, rfl⟩
theorem at_dots {x : PySem.Str} {hi i : Nat} (h : At x dots hi i) : x.cps.toList[i]? = some 46 ∧ x.cps.toList[i + 1]? = some 46 ∧ x.cps.toList[i + 2]? = some 46 := by
  have h2 := h.2
  rw [subAt_eq, dots_len, dots_list] at h2
  have h3 : (x.cps.toList.drop i).take 3 = [46, 46, 46] := by simpa using h2
  have g : ∀ k, k < 3 → x.cps.toList[i + k]? = [46, 46, 46][k]? := fun k hk => by
    rw [← h3, List.getElem?_take_of_lt hk, List.getElem?_drop]
  exact ⟨g 0 (by decide), g 1 (by decide), g 2 (by decide)⟩
theorem occ_df {x : PySem.Str} (h : DF x) (hi limit lo : Nat) : occurrences x dots lo hi limit = [] := by
  rw [occ_eq, occ_skip]
  intro i _ _ ha
  exact h 46 (List.mem_of_getElem? (at_dots ha).1) rfl
/-- where the dots of a piece, the dots and a piece lie -/
theorem occ_two {a b : PySem.Str} (ha : DF a) (hb : DF b) (limit : Nat) (hl : 1 ≤ limit) : occurrences (a ++ dots ++ b) dots 0 (a ++ dots ++ b).length limit = [a.length] := by
  have hlen : (a ++ dots ++ b).length = a.length + 3 + b.length := by rw [PySem.Str.length_append, PySem.Str.length_append, dots_len]
  have hls : (a ++ dots ++ b).cps.toList = a.cps.toList ++ [46, 46, 46] ++ b.cps.toList := by
    rw [PySem.Str.cps_append, PySem.Str.cps_append, Array.toList_append, Array.toList_append, dots_list]
  have hal : a.cps.toList.length = a.length := by simp [PySem.Str.length]
  have hat : At (a ++ dots ++ b) dots (a ++ dots ++ b).length a.length := by
    refine ⟨by rw [hlen, dots_len]; omega, ?_⟩
    rw [subAt_eq, hls, dots_len, dots_list, List.append_assoc, ← hal, List.drop_left]
    simp
  have hno : ∀ i, i ≠ a.length → i ≠ a.length + 1 → i ≠ a.length + 2 → ¬ At (a ++ dots ++ b) dots (a ++ dots ++ b).length i := by
    intro i h0 h1 h2 hc
    have hg := (at_dots hc).1
    rw [hls] at hg
    rcases Nat.lt_or_ge i a.length with hlt | hge
    · rw [List.append_assoc, List.getElem?_append_left (by omega)] at hg
      exact ha 46 (List.mem_of_getElem? hg) rfl
    · rw [List.getElem?_append_right (by simp only [List.length_append, List.length_cons, List.length_nil]; omega)] at hg
      exact hb 46 (List.mem_of_getElem? hg) rfl
  rw [occ_eq]
  have er : List.range' 0 ((a ++ dots ++ b).length + 1 - 0) = List.range' 0 a.length ++ a.length :: List.range' (a.length + 1) ((a ++ dots ++ b).length - a.length) := by
    rw [show (a ++ dots ++ b).length + 1 - 0 = a.length + ((a ++ dots ++ b).length - a.length + 1) by omega, ← List.range'_append_1, List.range'_succ]
    simp
  have s1 : (forIn (List.range' 0 a.length) ((#[] : Array Nat), 0) (occBody (a ++ dots ++ b) dots (a ++ dots ++ b).length limit)).run = (#[], 0) := by
    refine occ_skip _ _ _ _ _ _ fun i hi _ => ?_
    have h3 := List.mem_range'_1.mp hi
    exact hno i (by omega) (by omega) (by omega)
  have s2 : (forIn (List.range' (a.length + 1) ((a ++ dots ++ b).length - a.length)) ((#[] : Array Nat).push a.length, a.length + dots.length) (occBody (a ++ dots ++ b) dots (a ++ dots ++ b).length limit)).run = ((#[] : Array Nat).push a.length, a.length + dots.length) := by
    refine occ_skip _ _ _ _ _ _ fun i hi h2 => ?_
    simp only [dots_len] at h2
    exact hno i (by omega) (by omega) (by omega)
  rw [er, forIn_app _ (occBody_yields _ _ _ _), s1, occ_hit _ _ _ _ _ _ _ (show 0 < limit from hl) (Nat.zero_le _) hat, s2]
  simp
theorem kind_dots (x : PySem.Str) : decide (PySem.Builtin.Str.strKind x < PySem.Builtin.Str.strKind dots) = false := by
  have e : PySem.Builtin.Str.strKind dots = 1 := by decide +kernel
  rw [e]
  refine decide_eq_false ?_
  unfold PySem.Builtin.Str.strKind
  split
  · omega
  · split <;> omega
theorem split_two {a b : PySem.Str} (ha : DF a) (hb : DF b) : Txt.split (a ++ dots ++ b) dots = [a, b] := by
  have hlen : (a ++ dots ++ b).length = a.length + 3 + b.length := by rw [PySem.Str.length_append, PySem.Str.length_append, dots_len]
  have hls : (a ++ dots ++ b).cps.toList = a.cps.toList ++ [46, 46, 46] ++ b.cps.toList := by
    rw [PySem.Str.cps_append, PySem.Str.cps_append, Array.toList_append, Array.toList_append, dots_list]
  have hal : a.cps.toList.length = a.length := by simp [PySem.Str.length]
  have hbl : b.cps.toList.length = b.length := by simp [PySem.Str.length]
  unfold Txt.split
  rw [if_neg (by rw [kind_dots, Bool.or_false, decide_eq_true_eq, hlen, dots_len]; omega), occ_two ha hb _ (by omega), if_neg (by simp), dots_len]
  have e1 : strSub (a ++ dots ++ b) 0 a.length = a := PySem.Str.ext' (by
    apply Array.toList_inj.mp
    rw [strSub_toList, hls, List.drop_zero, List.append_assoc, ← hal]
    simp)
  have e2 : strSub (a ++ dots ++ b) (a.length + 3) (a ++ dots ++ b).length = b := PySem.Str.ext' (by
    apply Array.toList_inj.mp
    rw [strSub_toList, hls, hlen, show a.length + 3 = (a.cps.toList ++ [46, 46, 46]).length by simp only [List.length_append, List.length_cons, List.length_nil]; omega, List.drop_left, List.take_of_length_le (by simp only [List.length_append, List.length_cons, List.length_nil]; omega)])
  show [strSub (a ++ dots ++ b) 0 a.length, strSub (a ++ dots ++ b) (a.length + 3) (a ++ dots ++ b).length] = _
  rw [e1, e2]
end tx
end
section
/-- a claim of a def that hands back a value: d frames deep -/
abbrev Cl (d : Nat) (w : World) (mean : ExcName → Option Value) (mg mb : Str → Option Value) (f : Addr) (news : List (Addr × Obj)) (pre : Prop) (vs : List Value) (R : Tok → Value) : Prop :=
  ∀ (dp un : Nat) (gd : Option (List Code)) (cn : Str) (cs : Scope) (a : Addr) (ccd : Value) (cl : List (Str × Addr)) (outer : List Env) (A₀ : Around) (base h₀ : Heap) (L : Addr) (m : Str → Option Value) (s : Shared) (Q E : Value → Shared → Prop),
    Below A₀ base outer h₀ → Fr h₀ L s.heap m → (hd.heap_39 w.params).In h₀ → News h₀ L s.heap news → Top hd.view_39 (looseW hd.view_39 []) mean mg mb h₀ → cs.kind = .function →
    pre → dp + d < recursionLimit → un + 8 * d < cLine → (∀ (t : Tok) (h' : Heap) (tk' : Nat), Fr h₀ L h' m → News h₀ L h' news → Q (R t) { s with heap := h', toks := tk' }) →
      wpAny (model PySem.Challenge.rw_ty0005_01.row.prog w) (ktrTop dp un gd cn cs L a ccd cl outer) (call (.ref f) vs) Q E s
/-- .. of a def that hands back a new object, the ledger turned as Out says -/
abbrev ClO (d : Nat) (w : World) (mean : ExcName → Option Value) (mg mb : Str → Option Value) (f : Addr) (news : List (Addr × Obj)) (pre : Prop) (vs : List Value) (Out : Value → List (Addr × Obj) → Prop) : Prop :=
  ∀ (dp un : Nat) (gd : Option (List Code)) (cn : Str) (cs : Scope) (a : Addr) (ccd : Value) (cl : List (Str × Addr)) (outer : List Env) (A₀ : Around) (base h₀ : Heap) (L : Addr) (m : Str → Option Value) (s : Shared) (Q E : Value → Shared → Prop),
    Below A₀ base outer h₀ → Fr h₀ L s.heap m → (hd.heap_39 w.params).In h₀ → News h₀ L s.heap news → Top hd.view_39 (looseW hd.view_39 []) mean mg mb h₀ → cs.kind = .function →
    pre → dp + d < recursionLimit → un + 8 * d < cLine → (∀ (r : Value) (news' : List (Addr × Obj)) (h' : Heap) (tk' : Nat), Fr h₀ L h' m → News h₀ L h' news' → Out r news' → Q r { s with heap := h', toks := tk' }) →
      wpAny (model PySem.Challenge.rw_ty0005_01.row.prog w) (ktrTop dp un gd cn cs L a ccd cl outer) (call (.ref f) vs) Q E s
section
variable {d : Nat} {w : World} {mean : ExcName → Option Value} {mg mb : Str → Option Value} {f : Addr} {news : List (Addr × Obj)} {pre : Prop} {vs : List Value} {R : Tok → Value} {Out : Value → List (Addr × Obj) → Prop}
    {dp un : Nat} {gd : Option (List Code)} {cn : Str} {cs : Scope} {a : Addr} {ccd : Value} {cl : List (Str × Addr)} {outer : List Env} {A₀ : Around} {base h₀ : Heap} {L : Addr} {m : Str → Option Value} {s : Shared} {Q E : Value → Shared → Prop}
theorem cl_use (C : Cl d w mean mg mb f news pre vs R) (B : Below A₀ base outer h₀) (F : Fr h₀ L s.heap m) (X : (hd.heap_39 w.params).In h₀) (N : News h₀ L s.heap news) (T : Top hd.view_39 (looseW hd.view_39 []) mean mg mb h₀) (hk : cs.kind = .function)
    (hp : pre) (hdp : dp + d < recursionLimit) (hun : un + 8 * d < cLine)
    (ret : ∀ (t : Tok) (h' : Heap) (tk' : Nat), Fr h₀ L h' m → News h₀ L h' news → Q (R t) { s with heap := h', toks := tk' }) :
    wpAny (model PySem.Challenge.rw_ty0005_01.row.prog w) (ktrTop dp un gd cn cs L a ccd cl outer) (call (.ref f) vs) Q E s := C _ _ _ _ _ _ _ _ _ _ _ _ _ _ _ _ _ B F X N T hk hp hdp hun ret
theorem clO_use (C : ClO d w mean mg mb f news pre vs Out) (B : Below A₀ base outer h₀) (F : Fr h₀ L s.heap m) (X : (hd.heap_39 w.params).In h₀) (N : News h₀ L s.heap news) (T : Top hd.view_39 (looseW hd.view_39 []) mean mg mb h₀) (hk : cs.kind = .function)
    (hp : pre) (hdp : dp + d < recursionLimit) (hun : un + 8 * d < cLine)
    (ret : ∀ (r : Value) (news' : List (Addr × Obj)) (h' : Heap) (tk' : Nat), Fr h₀ L h' m → News h₀ L h' news' → Out r news' → Q r { s with heap := h', toks := tk' }) :
    wpAny (model PySem.Challenge.rw_ty0005_01.row.prog w) (ktrTop dp un gd cn cs L a ccd cl outer) (call (.ref f) vs) Q E s := C _ _ _ _ _ _ _ _ _ _ _ _ _ _ _ _ _ B F X N T hk hp hdp hun ret
end
end
section
/-- a list's iterator, a bytes' iterator, as objects -/
abbrev itO (l : Addr) (i : Nat) : Obj := { cls := .type "list_iterator", data := .fields #[.ref l, .int (i : Int) 0] }
abbrev bitO (b : Array UInt8) (t : Tok) (i : Nat) : Obj := { cls := .type "bytes_iterator", data := .fields #[.bytes b t, .int (i : Int) 0] }
section nx
open PySem.Calls PySem.Spec
variable {prog : Program} {w : World} {A : Around} {E : Value → Shared → Prop} {s : Shared} {h₀ : Heap} {L : Addr} {m : Str → Option Value} {news : List (Addr × Obj)} {Q : Value → Shared → Prop}
theorem it_step (l : Addr) (i : Nat) : Obj.mapFields (·.setIfInBounds 1 (rawInt ((i : Int) + 1))) (itO l i) = itO l (i + 1) := by
  show Obj.mk _ _ (.fields _) _ = Obj.mk _ _ (.fields _) _
  simp [rawInt]
theorem bit_step (b : Array UInt8) (t : Tok) (i : Nat) : Obj.mapFields (·.setIfInBounds 1 (rawInt ((i : Int) + 1))) (bitO b t i) = bitO b t (i + 1) := by
  show Obj.mk _ _ (.fields _) _ = Obj.mk _ _ (.fields _) _
  simp [rawInt]
theorem m_next_list {it l : Addr} {i k : Nat} {vs : List Value} {v : Value} (F : Fr h₀ L s.heap m) (N : News h₀ L s.heap ((it, itO l i) :: news)) (off : Off it news) (hl : (l, listOf vs.toArray k) ∈ news) (hx : vs[i]? = some v)
    (h : ∀ h', Fr h₀ L h' m → News h₀ L h' ((it, itO l (i + 1)) :: news) → Q v { s with heap := h' }) :
    wpAny (model prog w) A (call (.builtin "next") [.ref it]) Q E s := by
  have hm := N (it, itO l i) (.head _)
  have ho : s.heap.get? it = some (itO l i) := hm.1
  have hd : (itO l i).data = .fields #[.ref l, .int (i : Int) 0] := rfl
  have hT : s.TypeIs (.ref it) "list_iterator" := ⟨_, ho, rfl⟩
  have hol := (N _ (List.mem_cons_of_mem _ hl)).1
  have hdl : (listOf vs.toArray k).data = .seq vs.toArray k := rfl
  refine call_function_entry (by decide +kernel) (by decide +kernel) kdk_entry_next (kdk_args_next _) ?_
  unfold Builtin.«next»
  refine wpAny_bind (m := someArgs "next" 1 2 _) (wpAny_of_eq (a := [Value.ref it]) (by first | rfl | kernel_rfl!) ?_)
  dsimp only
  refine wpAny_bind (wpAny_specialOf (name := Str.ofString "__next__") hT slot_listiter_next.lookup ?_)
  refine wpAny_ite_split (fun hab => absurd hab (by decide)) (fun _ => ?_)
  refine wpAny_bind (wpAny_callSpecial?_slot (name := Str.ofString "__next__") hT slot_listiter_next
    (wpAny_call_entry slot_listiter_next hT entry_listiter_next ?_ (args_listiter_next _)))
  show wpAny _ _ (field (.ref it) 0 >>= _) _ _ s
  refine wpAny_bind (wpAny_field ho hd (x := .ref l) rfl ?_)
  show wpAny _ _ (if (Value.ref l == Value.none) = true then _ else _) _ _ s
  rw [if_neg (show ¬ ((Value.ref l == Value.none) = true) from Bool.false_ne_true)]
  show wpAny _ _ (field (.ref it) 1 >>= _) _ _ s
  refine wpAny_bind (wpAny_field ho hd (x := .int i 0) rfl ?_)
  show wpAny _ _ (seqItems? (.ref l) >>= _) _ _ s
  refine wpAny_bind (wpAny_seqItems hol hdl ?_)
  have hx' : vs.toArray[i]? = some v := by simpa using hx
  simp only [Int.toNat_natCast, hx']
  have sb := Heap.SameBut.update s.heap it (Obj.mapFields (·.setIfInBounds 1 (rawInt ((i : Int) + 1))))
  have ho' : (s.heap.update it (Obj.mapFields (·.setIfInBounds 1 (rawInt ((i : Int) + 1))))).get? it = some (itO l (i + 1)) := by
    rw [← it_step]; exact Heap.get?_update_self _ ho rfl
  refine wpAny_bind (wpAny_setField ho hd (by simp) (wpAny_pure ⟨v, rfl, wpAny_pure ⟨_, rfl, h _ (F.change sb hm.2.1 hm.2.2) ?_⟩⟩))
  exact News.setIn (own := []) N (fun _ hp => nomatch hp) off.mem sb ho'
theorem m_next_bytes {it : Addr} {i : Nat} {b : Array UInt8} {t : Tok} {c : UInt8} (F : Fr h₀ L s.heap m) (N : News h₀ L s.heap ((it, bitO b t i) :: news)) (off : Off it news) (hx : b[i]? = some c)
    (h : ∀ h' tk tk', Fr h₀ L h' m → News h₀ L h' ((it, bitO b t (i + 1)) :: news) → Q (.int (c.toNat : Int) tk) { s with heap := h', toks := tk' }) :
    wpAny (model prog w) A (call (.builtin "next") [.ref it]) Q E s := by
  have hm := N (it, bitO b t i) (.head _)
  have ho : s.heap.get? it = some (bitO b t i) := hm.1
  have hd : (bitO b t i).data = .fields #[.bytes b t, .int (i : Int) 0] := rfl
  have hT : s.TypeIs (.ref it) "bytes_iterator" := ⟨_, ho, rfl⟩
  refine call_function_entry (by decide +kernel) (by decide +kernel) kdk_entry_next (kdk_args_next _) ?_
  unfold Builtin.«next»
  refine wpAny_bind (m := someArgs "next" 1 2 _) (wpAny_of_eq (a := [Value.ref it]) (by first | rfl | kernel_rfl!) ?_)
  dsimp only
  refine wpAny_bind (wpAny_specialOf (name := Str.ofString "__next__") hT KBw.slot_next.lookup ?_)
  refine wpAny_ite_split (fun hab => absurd hab (by decide)) (fun _ => ?_)
  refine wpAny_bind (wpAny_callSpecial?_slot (name := Str.ofString "__next__") hT KBw.slot_next
    (wpAny_call_entry KBw.slot_next hT KBw.entry_next ?_ (KBw.args_next _)))
  show wpAny _ _ (field (.ref it) 0 >>= _) _ _ s
  refine wpAny_bind (wpAny_field ho hd (x := .bytes b t) rfl ?_)
  show wpAny _ _ (if (Value.bytes b t == Value.none) = true then _ else _) _ _ s
  rw [if_neg (show ¬ ((Value.bytes b t == Value.none) = true) from Bool.false_ne_true)]
  show wpAny _ _ (field (.ref it) 1 >>= _) _ _ s
  refine wpAny_bind (wpAny_field ho hd (x := .int i 0) rfl ?_)
  refine wpAny_bind (wpAny_of_eq (a := b) rfl ?_)
  simp only [Int.toNat_natCast, hx]
  have sb := Heap.SameBut.update s.heap it (Obj.mapFields (·.setIfInBounds 1 (rawInt ((i : Int) + 1))))
  have ho' : (s.heap.update it (Obj.mapFields (·.setIfInBounds 1 (rawInt ((i : Int) + 1))))).get? it = some (bitO b t (i + 1)) := by
    rw [← bit_step]; exact Heap.get?_update_self _ ho rfl
  refine wpAny_bind (wpAny_setField ho hd (by simp) (wpAny_bind (wpAny_mkInt (wpAny_pure ⟨_, rfl, wpAny_pure ⟨_, rfl, h _ _ _ (F.change sb hm.2.1 hm.2.2) ?_⟩⟩))))
  exact News.setIn (own := []) N (fun _ hp => nomatch hp) off.mem sb ho'
theorem m_iter_list {l : Addr} {k : Nat} {vs : List Value} (F : Fr h₀ L s.heap m) (N : News h₀ L s.heap news) (hl : (l, listOf vs.toArray k) ∈ news)
    (h : ∀ (I : Addr) h', Fr h₀ L h' m → News h₀ L h' ((I, itO l 0) :: news) → (∀ p ∈ news, p.1 < I) → Q (.ref I) { s with heap := h' }) :
    wpAny (model prog w) A (call (.builtin "iter") [.ref l]) Q E s := by
  have hls : s.heap.IsList l vs.toArray := ⟨_, (N _ hl).1, rfl, k, rfl⟩
  refine call_function_entry (by decide +kernel) (by decide +kernel) kdk_entry_iter (kdk_args_iter _) ?_
  unfold Builtin.«iter»
  refine wpAny_bind (m := someArgs "iter" 1 2 _) (wpAny_of_eq (a := [Value.ref l]) (by first | rfl | kernel_rfl!) ?_)
  show wpAny _ _ (pyIter (.ref l) >>= _) _ _ _
  refine wpAny_bind (wpAny_pyIter_list hls ?_)
  exact wpAny_pure ⟨_, rfl, h _ _ (F.push _) (News.push F N _ rfl) (fun q hq => Heap.lt_size (N q hq).1)⟩
theorem m_iter_bytes {b : Array UInt8} {t : Tok} (F : Fr h₀ L s.heap m) (N : News h₀ L s.heap news)
    (h : ∀ (I : Addr) h', Fr h₀ L h' m → News h₀ L h' ((I, bitO b t 0) :: news) → (∀ p ∈ news, p.1 < I) → Q (.ref I) { s with heap := h' }) :
    wpAny (model prog w) A (call (.builtin "iter") [.bytes b t]) Q E s := by
  refine call_function_entry (by decide +kernel) (by decide +kernel) kdk_entry_iter (kdk_args_iter _) ?_
  unfold Builtin.«iter»
  refine wpAny_bind (m := someArgs "iter" 1 2 _) (wpAny_of_eq (a := [Value.bytes b t]) (by first | rfl | kernel_rfl!) ?_)
  show wpAny _ _ (pyIter (.bytes b t) >>= _) _ _ _
  refine wpAny_bind (KBw.pyIter_bytes ?_)
  exact wpAny_pure ⟨_, rfl, h _ _ (F.push _) (News.push F N _ rfl) (fun q hq => Heap.lt_size (N q hq).1)⟩
end nx
end
section
section ar
theorem and64_dec : ∀ n : Fin 128, n.val &&& 64 = if 64 ≤ n.val then 64 else 0 := by decide +kernel
theorem bitAnd_64 {x : Int} (h0 : 0 ≤ x) (h1 : x < 128) : Builtin.bitAnd x 64 = if 64 ≤ x then 64 else 0 := by
  rw [bitAnd_pp h0 (by decide)]
  have := and64_dec ⟨x.toNat, by omega⟩
  dsimp only at this
  rw [show (64 : Int).toNat = 64 from rfl, this]
  split <;> split <;> omega
theorem and_shift {v y : Nat} (h : y < 64) : (64 * v) &&& y = 0 := by
  apply Nat.eq_of_testBit_eq
  intro i
  rw [Nat.testBit_and, Nat.zero_testBit]
  rcases Nat.lt_or_ge i 6 with hi | hi
  · have : (64 * v).testBit i = false := by
      rw [show 64 * v = 2 ^ 6 * v from rfl, Nat.testBit_two_pow_mul]
      simp; omega
    rw [this, Bool.false_and]
  · have : y.testBit i = false := Nat.testBit_lt_two_pow (Nat.lt_of_lt_of_le h (by
      calc 64 = 2 ^ 6 := rfl
        _ ≤ 2 ^ i := Nat.pow_le_pow_right (by decide) hi))
    rw [this, Bool.and_false]
theorem bitOr_64 {v y : Int} (hv : 0 ≤ v) (h0 : 0 ≤ y) (h1 : y < 64) : Builtin.bitOr (v * 64) y = v * 64 + y := by
  rw [bitOr_and, bitAnd_pp (by omega) h0]
  have e : (v * 64).toNat = 64 * v.toNat := by omega
  rw [e, and_shift (by omega)]
  simp
end ar
end
section
section lb
open PySem.Calls PySem.Spec
variable {prog : Program} {w : World} {A : Around} {E : Value → Shared → Prop} {s : Shared}
def ByteAt (b : Array UInt8) (i : Nat) (v : Value) : Prop := ∃ c u, b[i]? = some c ∧ v = .int (c.toNat : Int) u
theorem m_extend_bytes {R : Result → Shared → Prop} (hh : A.handled = none) (x : Array UInt8) (t : Tok) (S : Addr) (res : Value) (c₀ : Nat) (hS : s.heap.get? S = some { cls := .type "list", data := .seq #[] c₀ })
    (hR : ∀ h' tk acc' c', (∀ b o, b ≠ S → s.heap.get? b = some o → h'.get? b = some o) → h'.get? S = some { cls := .type "list", dict := none, data := .seq acc' c', slots := #[] } →
      ItemsOf (ByteAt x) acc' x.size → R (.ok (.ret res)) { s with heap := h', toks := tk }) (hn : x.size ≤ sizeLine) :
    wpAny (model prog w) A.in1 (Builtin.List.listExtendWith (.ref S) (.bytes x t) res)
      (fun fin s' => match fin with | .done f => R (.ok f) s' | .again c' => c'.quiet = true ∧ codeAny (model prog w) A c' R s') (fun e s' => R (.error e) s') s := by
  have hSI : S ≠ s.heap.objs.size := Nat.ne_of_lt (Heap.lt_size hS)
  have hSf : S ∉ [s.heap.objs.size] := fun hm => hSI (List.mem_singleton.mp hm)
  unfold Builtin.List.listExtendWith
  refine wpAny_bind (wpAny_typeOf (T := "bytes") (v := .bytes x t) rfl ?_)
  have h1 : Builtin.List.listSameRef (.ref S) (.bytes x t) = false := rfl
  have h2 : (Value.type "bytes" == Value.type "list") = false := by decide
  have h3 : (Value.type "bytes" == Value.type "tuple") = false := by decide
  simp only [h1, h2, h3, Bool.or_false, Bool.false_eq_true, if_false]
  refine wpAny_bind (KBw.pyIter_bytes ?_)
  refine wpAny_bind (wpAny_holding ?_)
  unfold Builtin.List.listLengthHint
  refine wpAny_bind (wpAny_specialOf (T := "bytes") (v := .bytes x t) rfl FB.slot_bytes_len.lookup ?_)
  wp_delta
  refine wpAny_bind (wpAny_isInstance (T := "bytes") (v := .bytes x t) (b := true) rfl (by rw [isSubtype_type]; kernel_rfl) ?_)
  show wpAny _ _ (typeOf (Value.bytes x t) >>= _) _ _ _
  refine wpAny_bind (wpAny_typeOf (T := "bytes") (v := .bytes x t) rfl ?_)
  refine wpAny_pure ?_
  rw [if_neg (by decide)]
  refine wpAny_pure ⟨plainId_quiet F.plain_extend_loop _, codeAny_extend_loopS (KBw.walks (A := A.in1) hh s.heap.objs.size x t).toS hn _ hSf _ x.size 0 _ _ _ rfl (Nat.zero_le _) ⟨_, Heap.get?_push_size _ rfl, rfl, rfl⟩ (Heap.get?_push_of_some _ hS) (ItemsOf.nil _) fun s' acc' c' hm hS' hacc => ?_⟩
  rw [Moved.eq_with hm]
  refine hR s'.heap s'.toks acc' c' (fun b ob hb e => hm.heap b ob (fun hmem => ?_) (Heap.get?_push_of_some _ e)) hS' hacc
  rcases List.mem_cons.mp hmem with e' | hmem
  · exact hb e'
  · exact absurd (Heap.lt_size e) (by rw [List.mem_singleton.mp hmem]; exact Nat.lt_irrefl _)
theorem m_list_init_bytes {R : Result → Shared → Prop} (hh : A.handled = none) (x : Array UInt8) (t : Tok) (S : Addr) (hS : s.heap.get? S = some { cls := .type "list", data := .seq #[] })
    (hR : ∀ h' tk acc' c', (∀ b o, b ≠ S → s.heap.get? b = some o → h'.get? b = some o) → h'.get? S = some { cls := .type "list", dict := none, data := .seq acc' c', slots := #[] } →
      ItemsOf (ByteAt x) acc' x.size → R (.ok (.ret .none)) { s with heap := h', toks := tk }) (hn : x.size ≤ sizeLine) :
    wpAny (model prog w) A.in1 (Builtin.«list.__init__» ⟨[.ref S, .bytes x t], []⟩)
      (fun fin s' => match fin with | .done f => R (.ok f) s' | .again c' => c'.quiet = true ∧ codeAny (model prog w) A c' R s') (fun e s' => R (.error e) s') s := by
  show wpAny _ _ (do let old ← Builtin.List.listItems (.ref S); Builtin.List.listUpdate (.ref S) (fun _ => #[]); letGo old.toList.reverse; Builtin.List.listExtendWith (.ref S) (.bytes x t) .none) _ _ s
  refine wpAny_bind ?_
  unfold Builtin.List.listItems
  refine wpAny_bind (wpAny_seqItems hS rfl (wpAny_pure ?_))
  show wpAny _ _ (updateSeq S (fun _ => #[]) >>= fun _ => letGo (#[] : Array Value).toList.reverse >>= fun _ => Builtin.List.listExtendWith (.ref S) (.bytes x t) .none) _ _ s
  refine wpAny_bind (wpAny_updateSeq hS rfl ?_)
  have hS₂ := Heap.get?_update_self (Obj.mapSeq (fun _ => (#[] : Array Value))) hS rfl
  have oth : ∀ b o, b ≠ S → s.heap.get? b = some o → (s.heap.update S (Obj.mapSeq (fun _ => (#[] : Array Value)))).get? b = some o :=
    fun b o hb e => (Heap.get?_update_other _ _ (Ne.symm hb)).trans e
  refine wpAny_bind (wpAny_letGo ?_)
  refine m_extend_bytes (hn := hn) hh x t S .none _ hS₂ fun h' tk acc' c' hk hS' hacc => ?_
  exact hR h' tk acc' c' (fun b o hb e => hk b o hb (oth b o hb e)) hS' hacc
theorem m_call_list_bytes {Q : Value → Shared → Prop} (hh : A.handled = none) (x : Array UInt8) (t : Tok)
    (hQ : ∀ h' tk acc' c', (∀ b o, s.heap.get? b = some o → h'.get? b = some o) →
      h'.get? s.heap.objs.size = some { cls := .type "list", dict := none, data := .seq acc' c', slots := #[] } → ItemsOf (ByteAt x) acc' x.size → Q (.ref s.heap.objs.size) { s with heap := h', toks := tk }) (hn : x.size ≤ sizeLine) :
    wpAny (model prog w) A (call (.type "list") [.bytes x t]) Q E s := by
  refine callType_codes (Q₁ := fun obj s₁ => obj = .ref s.heap.objs.size ∧ s₁ = { s with heap := s.heap.push { cls := .type "list", data := .seq #[] } }) F.called_list (F.typeCall_list_1 _) F.entry_list_init
    (code_list_new _ ⟨rfl, rfl⟩) fun obj s₁ h₁ => ?_
  obtain ⟨rfl, rfl⟩ := h₁
  have hS : (s.heap.push { cls := .type "list", data := .seq #[] }).get? s.heap.objs.size = some { cls := .type "list", data := .seq #[] } := Heap.get?_push_size _ rfl
  refine ⟨⟨_, hS, rfl⟩, F.args_list_init_2 _ _, m_list_init_bytes (A := A.in1) (hn := hn) hh x t _ hS fun h' tk acc' c' hk hS' hacc => ?_⟩
  exact ⟨rfl, hQ h' tk acc' c' (fun b o e => hk b o (Nat.ne_of_lt (Heap.lt_size e)) (Heap.get?_push_of_some _ e)) hS' hacc⟩
theorem bytes_ints {x : Array UInt8} {acc : Array Value} (h : ItemsOf (ByteAt x) acc x.size) : IntsAre acc.toList (KBw.bInts x) := by
  have key : ∀ (l : List UInt8) (vs : List Value), vs.length = l.length → (∀ (j : Nat) (v : Value), vs[j]? = some v → ∃ (c : UInt8) (u : Tok), l[j]? = some c ∧ v = Value.int (c.toNat : Int) u) → IntsAre vs (l.map fun c => (c.toNat : Int)) := by
    intro l
    induction l with
    | nil => intro vs hl _; rw [List.eq_nil_of_length_eq_zero hl]; exact .nil
    | cons c r ih =>
      intro vs hl hv
      cases vs with
      | nil => cases hl
      | cons v vs =>
        obtain ⟨c', u, e1, e2⟩ := hv 0 v rfl
        cases e1
        subst e2
        exact .cons _ _ (ih vs (by simpa using hl) fun j v' hj => hv (j + 1) v' (by simpa using hj))
  refine key x.toList acc.toList (by simp [h.1]) fun j v hj => ?_
  obtain ⟨c, u, hc, e⟩ := h.2 j v (by simpa using hj)
  exact ⟨c, u, by simpa using hc, e⟩
/-- list(bytes) onto the ledger -/
theorem m_list_bytes {h₀ : Heap} {L : Addr} {m : Str → Option Value} {news : List (Addr × Obj)} {Q : Value → Shared → Prop} {x : Array UInt8} {t : Tok} (hh : A.handled = none) (F : Fr h₀ L s.heap m) (N : News h₀ L s.heap news) (hn : x.size ≤ 16777216)
    (h : ∀ (D : Addr) vs k h' tk, Fr h₀ L h' m → News h₀ L h' ((D, listOf vs.toArray k) :: news) → (∀ p ∈ news, p.1 < D) → IntsAre vs (KBw.bInts x) → Q (.ref D) { s with heap := h', toks := tk }) :
    wpAny (model prog w) A (call (.type "list") [.bytes x t]) Q E s := by
  refine m_call_list_bytes hh x t (fun h' tk acc' c' hk hS' hacc => ?_) (by rw [sizeLine_eq]; exact hn)
  refine h s.heap.objs.size acc'.toList c' h' tk (F.keeps hk) (fun p hp => ?_) (fun p hp => Heap.lt_size (N p hp).1) (bytes_ints hacc)
  rcases List.mem_cons.mp hp with rfl | hp
  · refine ⟨by simpa using hS', Nat.ne_of_gt F.ns.lt, next_is_new F⟩
  · exact ⟨hk _ _ (N p hp).1, (N p hp).2⟩
variable {h₀ : Heap} {L : Addr} {m : Str → Option Value} {news news' : List (Addr × Obj)} {Q : Value → Shared → Prop}
theorem m_addL {a b : Addr} {xs ys : List Value} {ka kb : Nat} (F : Fr h₀ L s.heap m) (N : News h₀ L s.heap news) (ha : (a, listOf xs.toArray ka) ∈ news) (hb : (b, listOf ys.toArray kb) ∈ news) (hz : xs.length + ys.length ≤ 16777216)
    (h : ∀ (D : Addr) h', Fr h₀ L h' m → News h₀ L h' ((D, listOf (xs ++ ys).toArray 0) :: news) → (∀ p ∈ news, p.1 < D) → Q (.ref D) { s with heap := h' }) :
    wpAny (model prog w) A (binaryOp .Add (.ref a) (.ref b)) Q E s :=
  add_lists (hsz := by rw [sizeLine_eq]; exact hz) F N ⟨_, (N _ ha).1, rfl, ka, rfl⟩ ⟨_, (N _ hb).1, rfl, kb, rfl⟩ fun h' F' N' => h _ h' F' N' fun p hp => Heap.lt_size (N p hp).1
theorem m_extendL {D b : Addr} {xs ys : List Value} {n kb : Nat} (F : Fr h₀ L s.heap m) (N : News h₀ L s.heap news) (hb : (b, listOf ys.toArray kb) ∈ news) (hne : ys ≠ []) (U : Upd D (listOf xs.toArray n) (listOf (xs ++ ys).toArray (n + 1)) news news') (hz : xs.length + ys.length ≤ 16777216)
    (h : ∀ h', Fr h₀ L h' m → News h₀ L h' news' → Q .none { s with heap := h' }) : wpAny (model prog w) A (call (.builtin "list.extend") [.ref D, .ref b]) Q E s :=
  kl_extend F N hb (by simp) (by simpa using hne) U (extend_door (by rw [sizeLine_eq]; simpa using hz)) (by rw [sizeLine_eq]; simp; omega) (by rw [sizeLine_eq]; simp; omega) h
theorem m_appendL {D : Addr} {xs : List Value} {v : Value} {n : Nat} (F : Fr h₀ L s.heap m) (N : News h₀ L s.heap news) (U : Upd D (listOf xs.toArray n) (listOf (xs ++ [v]).toArray (n + 1)) news news') (hz : xs.length ≤ 16777216)
    (h : ∀ h', Fr h₀ L h' m → News h₀ L h' news' → Q .none { s with heap := h' }) : wpAny (model prog w) A (call (.builtin "list.append") [.ref D, v]) Q E s :=
  append_K F N (by rw [List.push_toArray]; exact U) h (by rw [sizeLine_eq]; simpa using hz)
theorem ints_snoc {ys : List Value} {ns : List Int} {a b : Int} {t : Tok} (h : IntsAre ys ns) (e : a = b) : IntsAre (ys ++ [Value.int a t]) (ns ++ [b]) := e ▸ IntsAre.append h (.cons _ _ .nil)
theorem ne_of_all {d : Addr} (h : ∀ p ∈ news, p.1 < d) : ∀ p ∈ news, p.1 ≠ d := fun p hp => Nat.ne_of_lt (h p hp)
theorem ne_of_allLt {d : Addr} (h : AllLt d news) : ∀ p ∈ news, p.1 ≠ d := fun p hp => Nat.ne_of_lt (ktn_ltOf h p hp)
theorem ne_of_off {d : Addr} (h : Off d news) : ∀ p ∈ news, p.1 ≠ d := Off.mem h
end lb
end
section
section cp
variable {prog : Program} {w : World} {A : Around} {h₀ : Heap} {L : Addr} {m : Str → Option Value} {env : Env} {elt : Expr} {x : Str} {scope : Scope} {cl : List (Str × Addr)} {s : Shared} {S : List (Addr × Obj) → Prop} {V : Nat → Value → Prop} {Fin : List Value → List (Addr × Obj) → Prop} {news : List (Addr × Obj)}
/-- a comprehension's turns by a word over what is made -/
theorem m_rest {n : Nat} (J : Nat → List Value → List (Addr × Obj) → Prop) (h0 : J 0 [] news)
    (turn : ∀ i v I oI C oC D m₂ ys nw h tk (E' : Value → Shared → Prop), i < n → V i v → J i ys nw → LCg.NsObj oC m₂ → m₂ x = some v → Fr h₀ L h m → News h₀ L h ((I, oI) :: (C, oC) :: (D, LCg.lst ys) :: nw) → LCg.Off3 I C D nw → ((@Ne Nat I C) ∧ (@Ne Nat I D) ∧ (@Ne Nat C D)) →
      wpAny (model prog w) A (eval elt (compEnvC scope cl C env)) (LCg.CompEnd h₀ L m { s with heap := h, toks := tk } I oI C oC D (LCg.lst ys) S (fun y nw' => J (i + 1) (ys ++ [y]) nw')) E' { s with heap := h, toks := tk })
    (fin : ∀ ys nw, J n ys nw → Fin ys nw) : LCg.CompRest prog w A h₀ L m env elt x scope cl s S V Fin n 0 [] news := by
  have key : ∀ (j i : Nat) (ys : List Value) (nw : List (Addr × Obj)), i + j = n → J i ys nw → LCg.CompRest prog w A h₀ L m env elt x scope cl s S V Fin j i ys nw := by
    intro j
    induction j with
    | zero =>
      intro i ys nw hi hj
      obtain rfl : i = n := by omega
      exact LCg.CompRest.zero (fin ys nw hj)
    | succ j ih =>
      intro i ys nw hi hj
      refine LCg.CompRest.succ ?_
      intro v I oI C oC D m₂ h tk E' hv hC hx F N off ne
      refine wpAny_mono (turn i v I oI C oC D m₂ ys nw h tk E' (by omega) hv hj hC hx F N off ne) (fun y s₂ hq => ?_) fun _ _ e => e
      obtain ⟨h', tk', nw', e, F', N', off', hS, hj'⟩ := hq
      exact ⟨h', tk', nw', e, F', N', off', hS, ih (i + 1) _ _ (by omega) hj'⟩
  exact key n 0 [] news (by omega) h0
/-- .. where one object turns with the turn -/
theorem m_restO {n : Nat} {it : Addr} (O : Nat → Obj) {rest : List (Addr × Obj)} (R : Nat → List Value → Prop) (h0 : R 0 [])
    (turn : ∀ i v I oI C oC D m₂ ys h tk (E' : Value → Shared → Prop), i < n → V i v → R i ys → LCg.NsObj oC m₂ → m₂ x = some v → Fr h₀ L h m → News h₀ L h ((I, oI) :: (C, oC) :: (D, LCg.lst ys) :: (it, O i) :: rest) → LCg.Off3 I C D ((it, O i) :: rest) → ((@Ne Nat I C) ∧ (@Ne Nat I D) ∧ (@Ne Nat C D)) →
      wpAny (model prog w) A (eval elt (compEnvC scope cl C env)) (LCg.CompEnd h₀ L m { s with heap := h, toks := tk } I oI C oC D (LCg.lst ys) S (fun y nw' => nw' = (it, O (i + 1)) :: rest ∧ R (i + 1) (ys ++ [y]))) E' { s with heap := h, toks := tk })
    (fin : ∀ ys, R n ys → Fin ys ((it, O n) :: rest)) : LCg.CompRest prog w A h₀ L m env elt x scope cl s S V Fin n 0 [] ((it, O 0) :: rest) :=
  m_rest (fun i ys nw => nw = (it, O i) :: rest ∧ R i ys) ⟨rfl, h0⟩ (fun i v I oI C oC D m₂ ys nw h tk E' hi hv hj hC hx F N off ne => by
    obtain ⟨rfl, hj⟩ := hj
    exact turn i v I oI C oC D m₂ ys h tk E' hi hv hj hC hx F N off ne) fun ys nw hj => by
    obtain ⟨rfl, hj⟩ := hj
    exact fin ys hj
/-- .. where nothing made stays but the list -/
theorem m_restP {n : Nat} (R : Nat → List Value → Prop) (h0 : R 0 [])
    (turn : ∀ i v I oI C oC D m₂ ys h tk (E' : Value → Shared → Prop), i < n → V i v → R i ys → LCg.NsObj oC m₂ → m₂ x = some v → Fr h₀ L h m → News h₀ L h ((I, oI) :: (C, oC) :: (D, LCg.lst ys) :: news) → LCg.Off3 I C D news → ((@Ne Nat I C) ∧ (@Ne Nat I D) ∧ (@Ne Nat C D)) →
      wpAny (model prog w) A (eval elt (compEnvC scope cl C env)) (LCg.CompEnd h₀ L m { s with heap := h, toks := tk } I oI C oC D (LCg.lst ys) S (fun y nw' => nw' = news ∧ R (i + 1) (ys ++ [y]))) E' { s with heap := h, toks := tk })
    (fin : ∀ ys, R n ys → Fin ys news) : LCg.CompRest prog w A h₀ L m env elt x scope cl s S V Fin n 0 [] news :=
  m_rest (fun i ys nw => nw = news ∧ R i ys) ⟨rfl, h0⟩ (fun i v I oI C oC D m₂ ys nw h tk E' hi hv hj hC hx F N off ne => by
    obtain ⟨rfl, hj⟩ := hj
    exact turn i v I oI C oC D m₂ ys h tk E' hi hv hj hC hx F N off ne) fun ys nw hj => by
    obtain ⟨rfl, hj⟩ := hj
    exact fin ys hj
theorem off3_of {I C D : Addr} {l : List (Addr × Obj)} (h1 : Off I l) (h2 : Off C l) (h3 : Off D l) : LCg.Off3 I C D l := LCg.Off3.of fun p hp => ⟨Off.mem h1 p hp, Off.mem h2 p hp, Off.mem h3 p hp⟩
theorem off3_1 {I C D : Addr} {l : List (Addr × Obj)} (h : LCg.Off3 I C D l) : Off I l := off_of fun p hp => (h.mem p hp).1
theorem off3_2 {I C D : Addr} {l : List (Addr × Obj)} (h : LCg.Off3 I C D l) : Off C l := off_of fun p hp => (h.mem p hp).2.1
theorem off3_3 {I C D : Addr} {l : List (Addr × Obj)} (h : LCg.Off3 I C D l) : Off D l := off_of fun p hp => (h.mem p hp).2.2
theorem off_lt {d : Addr} {l : List (Addr × Obj)} (h : ∀ p ∈ l, p.1 < d) : Off d l := off_of fun p hp => Nat.ne_of_lt (h p hp)
end cp
end
section
section fc
variable {prog : Program} {w : World} {A : Around} {E : Value → Shared → Prop} {Q : Flow → Shared → Prop} {s : Shared} {env : Env} {h₀ : Heap}
/-- a for whose name is a cell -/
def LoopC (prog : Program) (w : World) (A : Around) (env : Env) (x : Str) (px : Pos) (body : List Stmt) (Q : Flow → Shared → Prop) (E : Value → Shared → Prop) (it : Value) (s₂ : Shared) : Prop :=
  codeAny (model prog w) A (.forLoop (.Name x px) it body [] env) (fun r s' => match r with | .ok f => Q f s' | .error e => cameBackBy (model prog w) A env E e s') s₂
theorem For_C {x : Str} {px pos : Pos} {iter : Expr} {body : List Stmt}
    (h : wpAny (model prog w) A (eval iter env) (fun xv s₁ => wpAny (model prog w) A (pyIter xv) (fun it s₂ => LoopC prog w A env x px body Q E it s₂) E s₁) E s)
    (hs : ∀ x, foldedSetIterable iter env x = pure x := by intro _; rfl) :
    wpAny (model prog w) A (exec (.For (.Name x px) iter body [] pos) env) Q E s := wpAny_For h hs
def CEnd {σ : Type} (h₀ : Heap) (L cx : Addr) (s : Shared) (Led : σ → List (Addr × Obj)) (ps : σ → List (Str × (Tok → Value))) (stored : List Str) (m₀ : Str → Option Value) (P : Nat → σ → Prop) (i : Nat) (I : Addr) (oI : Obj) (s₂ : Shared) : Prop :=
  ∃ (c' : σ) (oc : Obj) (vc : Option Value) (h' : Heap) (tk : Nat) (m' : Str → Option Value) (news' : List (Addr × Obj)), s₂ = { s with heap := h', toks := tk } ∧ Fr h₀ L h' m' ∧ News h₀ L h' news' ∧ (∀ p ∈ (I, oI) :: (cx, oc) :: Led c', p ∈ news') ∧ oc.data = .cell vc ∧ Off I (Led c') ∧ Off cx (Led c') ∧ Held m' (ps c') ∧ Rest (ps c') stored m₀ m' ∧ P (i + 1) c'
def CPost {σ : Type} (h₀ : Heap) (L cx : Addr) (s : Shared) (Led : σ → List (Addr × Obj)) (ps : σ → List (Str × (Tok → Value))) (stored : List Str) (m₀ : Str → Option Value) (P : Nat → σ → Prop) (i : Nat) (I : Addr) (oI : Obj) (Q : Flow → Shared → Prop) (f : Flow) (s₂ : Shared) : Prop :=
  match f with
  | .ret v => Q (.ret v) s₂
  | .brk => Q .next s₂
  | _ => CEnd h₀ L cx s Led ps stored m₀ P i I oI s₂
theorem CEnd.intro {σ : Type} {L cx : Addr} {s : Shared} {Led : σ → List (Addr × Obj)} {ps : σ → List (Str × (Tok → Value))} {stored : List Str} {m₀ m' : Str → Option Value} {P : Nat → σ → Prop} {i : Nat} {I : Addr} {oI oc : Obj} {vc : Option Value} {h' : Heap} {tk : Nat} {news' : List (Addr × Obj)} (c' : σ)
    (F : Fr h₀ L h' m') (N : News h₀ L h' news') (hn : ∀ p ∈ (I, oI) :: (cx, oc) :: Led c', p ∈ news') (hd : oc.data = .cell vc) (off : Off I (Led c')) (offc : Off cx (Led c')) (hk : Held m' (ps c')) (hr : Rest (ps c') stored m₀ m') (hp : P (i + 1) c') :
    CEnd h₀ L cx s Led ps stored m₀ P i I oI { s with heap := h', toks := tk } := ⟨c', oc, vc, h', tk, m', news', rfl, F, N, hn, hd, off, offc, hk, hr, hp⟩
theorem m_rangeC {σ : Type} {x : Str} {px : Pos} {body : List Stmt} {r cx : Addr} {a₀ b₀ : Int} {t₀ u₀ v₀ : Tok} {n : Nat} {m₀ : Str → Option Value} {oc₀ : Obj} {vc₀ : Option Value} (Led : σ → List (Addr × Obj)) (ps : σ → List (Str × (Tok → Value))) (stored : List Str) (P : Nat → σ → Prop) (c₀ : σ)
    (hx : env.kindOf x = some .cell) (hkind : env.scope.kind = .function) (hcx : env.cells.lookup x = some cx)
    (hh : A.handled = none) (hr : IsRange s.heap r a₀ b₀ 1 t₀ u₀ v₀) (hsmall : Builtin.Range.small a₀ b₀ 1 = true) (hn : Builtin.Range.rangeSize a₀ b₀ 1 = (n : Int)) (F : Fr h₀ env.locals s.heap m₀) (N : News h₀ env.locals s.heap ((cx, oc₀) :: Led c₀)) (hd₀ : oc₀.data = .cell vc₀) (offc₀ : Off cx (Led c₀)) (hk : Held m₀ (ps c₀)) (hp : P 0 c₀)
    (turn : ∀ (c : σ) i t u tkf h tk I oI oc, i < n → oc.data = .cell (some (.int (a₀ + (i : Int)) t)) → (@Ne Nat I cx) → Off I (Led c) → Off cx (Led c) → P i c → Fr h₀ env.locals h (env9 (ps c) stored m₀ u tkf) → News h₀ env.locals h ((I, oI) :: (cx, oc) :: Led c) →
      wpAny (model prog w) A (execs body env) (CPost h₀ env.locals cx { s with heap := h, toks := tk } Led ps stored m₀ P i I oI Q) E { s with heap := h, toks := tk })
    (done : ∀ (c : σ) u tkf h tk oc vc, oc.data = .cell vc → P n c → Off cx (Led c) → Fr h₀ env.locals h (env9 (ps c) stored m₀ u tkf) → News h₀ env.locals h ((cx, oc) :: Led c) → Q .next { s with heap := h, toks := tk })
    (hE : PassesOwn (model prog w) A env E := by passes_own) :
    wpAny (model prog w) A (pyIter (.ref r)) (fun it s₂ => LoopC prog w A env x px body Q E it s₂) E s := by
  refine wpAny_pyIter_range hr hsmall ?_
  unfold LoopC
  let I : Addr := s.heap.objs.size
  have W : Walks prog w A I [I] [I] n (fun i v => ∃ t, v = .int (a₀ + (i : Int)) t) (fun i h => IsRangeIter h I (a₀ + (i : Nat) * 1) ((n : Int) - (i : Nat)) 1) := LCg.range_walks hh a₀ n
  have hI₀ : h₀.get? I = none := next_is_new F
  have hLI : env.locals ≠ I := Nat.ne_of_lt F.ns.lt
  have hst : IsRangeIter (s.heap.push { cls := .type "range_iterator", data := .fields #[.int (a₀ + ((0 : Nat) : Int) * 1) 0, .int ((n : Int) - (0 : Nat)) 0, .int 1 0] }) I (a₀ + ((0 : Nat) : Int) * 1) ((n : Int) - (0 : Nat)) 1 := by
    first | exact Heap.get?_push_size _ rfl | simpa using Heap.get?_push_size _ rfl
  refine codeAny_forLoop
    (fun k s' => ∃ h' tk m' i c oc vc, s' = { s with heap := h', toks := tk } ∧ IsRangeIter h' I (a₀ + ((i : Nat) : Int) * 1) ((n : Int) - (i : Nat)) 1 ∧ Fr h₀ env.locals h' m' ∧ News h₀ env.locals h' ((cx, oc) :: Led c) ∧ oc.data = .cell vc ∧ (@Ne Nat I cx) ∧ Off I (Led c) ∧ Off cx (Led c) ∧ Held m' (ps c) ∧ Rest (ps c) stored m₀ m' ∧ P i c ∧ i ≤ n ∧ k = n + 1 - i) ?_ (n + 1)
    ⟨_, s.toks, m₀, 0, c₀, oc₀, vc₀, rfl, (by show IsRangeIter _ _ _ _ _; rw [hn]; simpa using Heap.get?_push_size _ rfl), F.push _, fun p hp => ⟨Heap.get?_push_of_some _ (N p hp).1, (N p hp).2⟩, hd₀, Nat.ne_of_gt (Heap.lt_size (N _ (.head _)).1), off_of fun q hq e => absurd (Heap.lt_size (N q (.tail _ hq)).1) (e ▸ Nat.lt_irrefl _), offc₀, hk, fun _ _ _ => rfl, hp, Nat.zero_le _, rfl⟩
  rintro k s' ⟨h', tk, m', i, c, oc, vc, rfl, hst', F', N', hdc, hIc, offI, offc, hk', hr', hp', hi, rfl⟩
  have next : ∀ h₁ : Heap, (∀ b o, b ∉ [I] → h'.get? b = some o → h₁.get? b = some o) → Fr h₀ env.locals h₁ m' ∧ News h₀ env.locals h₁ ((cx, oc) :: Led c) := fun h₁ hk₁ =>
    ⟨LCg.fr_but F' hk₁ hLI hI₀, LCg.news_but N' hk₁ fun p hp => by
      rcases List.mem_cons.mp hp with rfl | hp
      · exact Ne.symm hIc
      · exact Off.mem offI p hp⟩
  by_cases hlt : i < n
  · refine W.item i _ _ _ hlt hst' fun v h₁ tk₁ hP hst₁ hk₁ => ?_
    obtain ⟨t, rfl⟩ := hP
    obtain ⟨F₁, N₁⟩ := next h₁ hk₁
    have hcm := N₁ (cx, oc) (.head _)
    refine wpAny_assign_Name (wpAny_storeName_cell hkind hx hcx ⟨oc, hcm.1, hdc⟩ fun h₂ hv hs => ?_)
    obtain ⟨oc', hoc', hdc'⟩ := hv
    have F₂ : Fr h₀ env.locals h₂ m' := F₁.change hs hcm.2.1 hcm.2.2
    have N₂ : News h₀ env.locals h₂ ((cx, oc') :: Led c) := News.setIn (own := []) N₁ (fun _ hp => nomatch hp) offc.mem hs hoc'
    have hst₂ : IsRangeIter h₂ I (a₀ + ((i + 1 : Nat) : Int) * 1) ((n : Int) - ((i + 1 : Nat) : Int)) 1 := by
      have e : h₁.get? I = some _ := hst₁
      exact (hs.2 I hIc).trans e
    obtain ⟨tkf, he⟩ := env9_eq hk' hr'
    have N₃ : News h₀ env.locals h₂ ((I, _) :: (cx, oc') :: Led c) := fun p hp => by
      rcases List.mem_cons.mp hp with rfl | hp
      · exact ⟨hst₂, Ne.symm hLI, hI₀⟩
      · exact N₂ p hp
    refine wpAny_passesOwn hE (wpAny_mono (turn c i t m' tkf h₂ _ I _ oc' hlt hdc' hIc offI offc hp' (he.symm ▸ F₂) N₃) (fun f s₃ h₃ => ?_) fun _ _ e => e)
    cases f with
    | ret v => exact h₃
    | brk => exact h₃
    | cont =>
      obtain ⟨c', oc2, vc2, h3, tk3, m3, news3, rfl, F3, N3, sub, hd3, oI3, oc3, hk3, hr3, hp3⟩ := h₃
      exact ⟨n + 1 - (i + 1), by omega, h3, tk3, m3, i + 1, c', oc2, vc2, rfl, (N3 _ (sub _ (.head _))).1, F3, fun p hp => N3 p (sub p (.tail _ hp)), hd3, hIc, oI3, oc3, hk3, hr3, hp3, hlt, rfl⟩
    | next =>
      obtain ⟨c', oc2, vc2, h3, tk3, m3, news3, rfl, F3, N3, sub, hd3, oI3, oc3, hk3, hr3, hp3⟩ := h₃
      exact ⟨n + 1 - (i + 1), by omega, h3, tk3, m3, i + 1, c', oc2, vc2, rfl, (N3 _ (sub _ (.head _))).1, F3, fun p hp => N3 p (sub p (.tail _ hp)), hd3, hIc, oI3, oc3, hk3, hr3, hp3, hlt, rfl⟩
  · have hin : i = n := by omega
    subst hin
    refine W.done _ _ _ hst' fun h₁ tk₁ hk₁ => wpAny_execs_nil ?_
    obtain ⟨F₁, N₁⟩ := next h₁ hk₁
    obtain ⟨tkf, he⟩ := env9_eq hk' hr'
    exact done c m' tkf h₁ tk₁ oc vc hdc hp' offc (he.symm ▸ F₁) N₁
theorem news_swap {L : Addr} {h : Heap} {a b : Addr × Obj} {r : List (Addr × Obj)} (N : News h₀ L h (a :: b :: r)) : News h₀ L h (b :: a :: r) := fun p hp => N p (by
  simp only [List.mem_cons] at hp ⊢
  rcases hp with h | h | h
  · exact .inr (.inl h)
  · exact .inl h
  · exact .inr (.inr h))
theorem m_rangeCL {x : Str} {px : Pos} {body : List Stmt} {r cx : Addr} {a₀ b₀ : Int} {t₀ u₀ v₀ : Tok} {n : Nat} {m₀ : Str → Option Value} {oc₀ : Obj} {vc₀ : Option Value} {D : Addr} {us₀ : List Value} {k₀ : Nat} {rest : List (Addr × Obj)} (stored : List Str) (P : Nat → List Value → Prop)
    (hx : env.kindOf x = some .cell) (hkind : env.scope.kind = .function) (hcx : env.cells.lookup x = some cx)
    (hh : A.handled = none) (hr : IsRange s.heap r a₀ b₀ 1 t₀ u₀ v₀) (hsmall : Builtin.Range.small a₀ b₀ 1 = true) (hn : Builtin.Range.rangeSize a₀ b₀ 1 = (n : Int)) (F : Fr h₀ env.locals s.heap m₀) (N : News h₀ env.locals s.heap ((D, listOf us₀.toArray k₀) :: (cx, oc₀) :: rest)) (hd₀ : oc₀.data = .cell vc₀) (hDc : (@Ne Nat D cx)) (offc₀ : Off cx rest) (hp : P 0 us₀)
    (turn : ∀ (us : List Value) (kk : Nat) i t u tkf h tk I oI oc, i < n → oc.data = .cell (some (.int (a₀ + (i : Int)) t)) → (@Ne Nat I cx) → (@Ne Nat D I) → Off I rest → P i us → Fr h₀ env.locals h (env9 [] stored m₀ u tkf) → News h₀ env.locals h ((I, oI) :: (cx, oc) :: (D, listOf us.toArray kk) :: rest) →
      wpAny (model prog w) A (execs body env) (CPost h₀ env.locals cx { s with heap := h, toks := tk } (fun c : List Value × Nat => (D, listOf c.1.toArray c.2) :: rest) (fun _ => []) stored m₀ (fun i c => P i c.1) i I oI Q) E { s with heap := h, toks := tk })
    (done : ∀ (us : List Value) (kk : Nat) u tkf h tk oc vc, oc.data = .cell vc → P n us → Fr h₀ env.locals h (env9 [] stored m₀ u tkf) → News h₀ env.locals h ((cx, oc) :: (D, listOf us.toArray kk) :: rest) → Q .next { s with heap := h, toks := tk })
    (hE : PassesOwn (model prog w) A env E := by passes_own) :
    wpAny (model prog w) A (pyIter (.ref r)) (fun it s₂ => LoopC prog w A env x px body Q E it s₂) E s :=
  m_rangeC (σ := List Value × Nat) (fun c => (D, listOf c.1.toArray c.2) :: rest) (fun _ => []) stored (fun i c => P i c.1) (us₀, k₀) hx hkind hcx hh hr hsmall hn F (news_swap N) hd₀ ⟨hDc, offc₀⟩ trivial hp
    (fun c i t u tkf h tk I oI oc hi hd hI off offc hp' F' N' => turn c.1 c.2 i t u tkf h tk I oI oc hi hd hI off.1 off.2 hp' F' N')
    (fun c u tkf h tk oc vc hd hp' _ F' N' => done c.1 c.2 u tkf h tk oc vc hd hp' F' N') hE
end fc
end
section
section cb
variable {prog : Program} {w : World} {A : Around} {E : Value → Shared → Prop} {s : Shared} {h₀ : Heap} {L : Addr} {m : Str → Option Value} {env : Env}
/-- a comprehension over bytes -/
def SrcB (prog : Program) (w : World) (A : Around) (h₀ : Heap) (L : Addr) (m : Str → Option Value) (env : Env) (elt : Expr) (x : Str) (scope : Scope) (cl : List (Str × Addr)) (Fin : Shared → List Value → List (Addr × Obj) → Prop) (xv : Value) (s₁ : Shared) : Prop :=
  ∃ (b : Array UInt8) (t : Tok) (news : List (Addr × Obj)), xv = .bytes b t ∧ A.handled = none ∧ Fr h₀ L s₁.heap m ∧ News h₀ L s₁.heap news ∧ b.size ≤ sizeLine ∧
    ∀ g, LCg.CompRest prog w A h₀ L m env elt x scope cl { s₁ with heap := g } (fun _ => True) (ByteAt b) (Fin { s₁ with heap := g }) b.size 0 [] news
theorem SrcB.intro {elt : Expr} {x : Str} {scope : Scope} {cl : List (Str × Addr)} {Fin : Shared → List Value → List (Addr × Obj) → Prop} {b : Array UInt8} {t : Tok} {news : List (Addr × Obj)} {s₁ : Shared}
    (hh : A.handled = none) (F : Fr h₀ L s₁.heap m) (N : News h₀ L s₁.heap news) (hn : b.size ≤ sizeLine)
    (h : ∀ g, LCg.CompRest prog w A h₀ L m env elt x scope cl { s₁ with heap := g } (fun _ => True) (ByteAt b) (Fin { s₁ with heap := g }) b.size 0 [] news) :
    SrcB prog w A h₀ L m env elt x scope cl Fin (.bytes b t) s₁ := ⟨b, t, news, rfl, hh, F, N, hn, h⟩
theorem ListComp_B {elt iter : Expr} {x : Str} {px : Pos} {scope : Scope} {cl : List (Str × Addr)} {pos : Pos} {Q : Value → Shared → Prop} (F₀ : Fr h₀ L s.heap m)
    (hclos : closureFor scope env = pure cl) (hcell : ∀ y ∈ scope.names, y.2 ≠ .cell) (hkind : scope.kind = .function)
    (hnames : ∀ y ∈ scope.names, y.2 = .local → scope.names.lookup y.1 = some .local) (hx : scope.names.lookup x = some .local)
    (h : wpAny (model prog w) A (eval iter env) (SrcB prog w A h₀ L m env elt x scope cl (fun s₂ => LCg.FinE h₀ L m s₂ Q)) E s)
    (hs : ∀ x, foldedSetIterable iter env x = pure x := by intro _; rfl) :
    wpAny (model prog w) A (eval (.ListComp elt [⟨.Name x px, iter, [], 0⟩] scope pos) env) Q E s := by
  rw [eval_ListComp]
  refine wpAny_comprehension_free (use := none) rfl hs hclos hkind hnames (wpAny_mono h (fun xv s₁ h₁ => ?_) fun _ _ e => e)
  obtain ⟨b, t, news, rfl, hh, F, N, hsz, R⟩ := h₁
  refine KBw.pyIter_bytes ?_
  refine LCg.block_U (KBw.walks hh s₁.heap.objs.size b t) hsz (fun i h st => by obtain ⟨o, e, _⟩ := st; exact ⟨o, e⟩) (fun i h h' o nw st e e' _ _ _ => by
      obtain ⟨o', eo, r⟩ := st
      rw [e] at eo
      cases eo
      exact ⟨o, e', r⟩) hcell hkind hx ⟨_, Heap.get?_push_size _ rfl, rfl, rfl⟩ (fun b' hb => ?_)
    (F.keeps fun _ _ e => Heap.get?_push_of_some _ e) (N.grown fun _ _ e => Heap.get?_push_of_some _ e) (Nat.ne_of_lt F.ns.lt) (next_is_new F) (fun p hp => Nat.ne_of_lt (Heap.lt_size (N p hp).1)) trivial (R _) ?_
  · rw [List.mem_singleton.mp hb]
    show s₁.heap.objs.size < (s₁.heap.push _).objs.size
    rw [Heap.size_push]; exact Nat.lt_succ_self _
  · intro D C h tk m' ys news' F' N' o1 hn hC₀ hD₀ hCL hDL hCD offC fin
    refine ⟨m', hn, fun h'' hs'' => fin D h'' tk (F'.change hs'' hCL hC₀) (fun p hp => ?_) o1⟩
    refine ⟨hs''.extBut _ _ ?_ (N' p hp).1, (N' p hp).2⟩
    rcases List.mem_cons.mp hp with rfl | hp
    · exact Ne.symm hCD
    · exact offC p hp
end cb
end
section
section cc
variable {prog : Program} {w : World} {A : Around} {E : Value → Shared → Prop} {s : Shared} {h₀ : Heap} {L : Addr} {m : Str → Option Value} {env : Env}
abbrev noCell : Obj := { cls := .type "cell", data := .cell none }
theorem m_newEnv_cell {M : Model} {x : Str} {scope : Scope} {globals : Addr} {cl : List (Str × Addr)} {qual : Str} {outer : Env} {Q : Env → Shared → Prop}
    (hcells : ∀ k, cellsFrom k scope.names cl = (x, k) :: cl) (hpush : ∀ h, pushCells h scope.names = h.push noCell)
    (hQ : Q (newEnv scope s.heap.objs.size globals ((x, s.heap.objs.size + 1) :: cl) qual none .none (some outer) builtinsNs) { s with heap := (s.heap.push { cls := .type "dict", data := .dict #[] }).push noCell }) :
    wpAny M A (newFunctionEnv scope globals cl [] qual none .none (some outer)) Q E s := by
  simp only [newFunctionEnv, Option.isSome_some, if_true]
  refine wpAny_bind (wpAny_alloc ?_)
  refine wpAny_bind (wpAny_layCells _ (fun name kind cells => by cases hkc : kind == NameKind.cell <;> simp [hkc]) _ _ _ _ ?_)
  rw [show ({ s with heap := s.heap.push { cls := .type "dict", data := .dict #[] } } : Shared).heap.objs.size = s.heap.objs.size + 1 from Heap.size_push ..]
  rw [hcells, hpush]
  refine wpAny_bind ?_
  rw [List.forIn_nil]
  exact wpAny_pure (wpAny_pure hQ)
/-- a comprehension over a range whose name is a cell of the block -/
def SrcC (prog : Program) (w : World) (A : Around) (h₀ : Heap) (L : Addr) (m : Str → Option Value) (env : Env) (elt : Expr) (x : Str) (scope : Scope) (cl : List (Str × Addr)) (mD : Value → Str → Option Value) (Q : Value → Shared → Prop) (xv : Value) (s₁ : Shared) : Prop :=
  ∃ (r : Addr) (a b : Int) (t u v : Tok) (n : Nat) (news : List (Addr × Obj)) (J : Nat → List Value → List (Addr × Obj) → Prop), xv = .ref r ∧ A.handled = none ∧ Fr h₀ L s₁.heap m ∧ News h₀ L s₁.heap news ∧ IsRange s₁.heap r a b 1 t u v ∧ Builtin.Range.small a b 1 = true ∧ Builtin.Range.rangeSize a b 1 = ((n : Nat) : Int) ∧ n ≤ sizeLine ∧ J 0 [] news ∧
    (∀ i z I oI C oC D X oX ys nw h tk (E' : Value → Shared → Prop), i < n → J i ys nw → oX.data = .cell (some (.int (a + (i : Int)) z)) → Fr h₀ L h m → News h₀ L h ((I, oI) :: (C, oC) :: (D, LCg.lst ys) :: (X, oX) :: nw) → LCg.Off3 I C D ((X, oX) :: nw) → Off X nw → ((@Ne Nat I C) ∧ (@Ne Nat I D) ∧ (@Ne Nat C D)) →
      wpAny (model prog w) A (eval elt (compEnvC scope ((x, X) :: cl) C env)) (LCg.CompEnd h₀ L m { s₁ with heap := h, toks := tk } I oI C oC D (LCg.lst ys) (fun _ => True) (fun y nw'' => ∃ nw', nw'' = (X, oX) :: nw' ∧ Off X nw' ∧ J (i + 1) (ys ++ [y]) nw')) E' { s₁ with heap := h, toks := tk }) ∧
    (∀ ys nw D h tk, J n ys nw → Fr h₀ L h (mD (.ref D)) → News h₀ L h ((D, LCg.lst ys) :: nw) → Off D nw → Q (.ref D) { s₁ with heap := h, toks := tk })
theorem m_cellLoop {elt iter : Expr} {x : Str} {px : Pos} {scope : Scope} {cl : List (Str × Addr)} {pos : Pos} {s₁ : Shared} {I C D X : Addr} {n : Nat} {a : Int} {J : Nat → List Value → List (Addr × Obj) → Prop} {news : List (Addr × Obj)} {R : Result → Shared → Prop} {h₁ : Heap} {tk₁ : Nat} {m₁ : Str → Option Value} {oX₁ : Obj} {vX₁ : Option Value}
    (W : Walks prog w A I [I] [I] n (fun i v => ∃ t, v = .int (a + (i : Int)) t) (fun i h => IsRangeIter h I (a + (i : Nat) * 1) ((n : Int) - (i : Nat)) 1)) (hsz : n ≤ sizeLine)
    (hkind : scope.kind = .function) (hx : (relabel scope env).names.lookup x = some .cell)
    (hIL : L ≠ I) (hI₀ : h₀.get? I = none) (hCL : C ≠ L) (hC₀ : h₀.get? C = none) (hCI : @Ne Nat I C) (hDI : @Ne Nat I D) (hDC : @Ne Nat C D)
    (hst : IsRangeIter h₁ I (a + ((0 : Nat) : Int) * 1) ((n : Int) - ((0 : Nat) : Int)) 1) (F : Fr h₀ L h₁ m) (hns : h₁.Ns C m₁) (N : News h₀ L h₁ ((D, LCg.lst []) :: (X, oX₁) :: news)) (hdX : oX₁.data = .cell vX₁) (off : LCg.Off3 I C D ((X, oX₁) :: news)) (offX : Off X news) (hJ : J 0 [] news)
    (turn : ∀ i z I oI C oC D X oX ys nw h tk (E' : Value → Shared → Prop), i < n → J i ys nw → oX.data = .cell (some (.int (a + (i : Int)) z)) → Fr h₀ L h m → News h₀ L h ((I, oI) :: (C, oC) :: (D, LCg.lst ys) :: (X, oX) :: nw) → LCg.Off3 I C D ((X, oX) :: nw) → Off X nw → ((@Ne Nat I C) ∧ (@Ne Nat I D) ∧ (@Ne Nat C D)) →
      wpAny (model prog w) A (eval elt (compEnvC scope ((x, X) :: cl) C env)) (LCg.CompEnd h₀ L m { s₁ with heap := h, toks := tk } I oI C oC D (LCg.lst ys) (fun _ => True) (fun y nw'' => ∃ nw', nw'' = (X, oX) :: nw' ∧ Off X nw' ∧ J (i + 1) (ys ++ [y]) nw')) E' { s₁ with heap := h, toks := tk })
    (hRR : ∀ h tk m' ys nw, Fr h₀ L h m → News h₀ L h ((D, LCg.lst ys) :: nw) → Off D nw → h.Ns C m' → (∀ p ∈ nw, p.1 ≠ C) → J n ys nw → R (.ok .next) { s₁ with heap := h, toks := tk }) :
    codeAny (model prog w) A (.compLoop (.ListComp elt [⟨.Name x px, iter, [], 0⟩] scope pos) 0 (.ref I) (.ref D) (compEnvC scope ((x, X) :: cl) C env)) R { s₁ with heap := h₁, toks := tk₁ } := by
  refine codeAny_compLoop_tests
    (fun k s' => ∃ h' tk i ys m' oX vX nw, s' = { s₁ with heap := h', toks := tk } ∧ i ≤ n ∧ k = n + 1 - i ∧ ys.length = i ∧ IsRangeIter h' I (a + (i : Nat) * 1) ((n : Int) - (i : Nat)) 1 ∧ Fr h₀ L h' m ∧ h'.Ns C m' ∧ News h₀ L h' ((D, LCg.lst ys) :: (X, oX) :: nw) ∧
      oX.data = .cell vX ∧ LCg.Off3 I C D ((X, oX) :: nw) ∧ Off X nw ∧ J i ys nw) ?_ (n + 1)
    ⟨h₁, tk₁, 0, [], m₁, oX₁, vX₁, news, rfl, Nat.zero_le _, rfl, rfl, hst, F, hns, N, hdX, off, offX, hJ⟩
  rintro k s' ⟨h', tk, i, ys, m', oX, vX, nw, rfl, hi, rfl, hyl, hst', F', hn', N', hdX', off', offX', hJ'⟩
  have zX := N' (X, oX) (.tail _ (.head _))
  have zD := N' (D, LCg.lst ys) (.head _)
  have off3 := off'.mem
  have hXI : @Ne Nat X I := (off3 (X, oX) (.head _)).1
  have hXC : @Ne Nat X C := (off3 (X, oX) (.head _)).2.1
  have hXD : @Ne Nat X D := (off3 (X, oX) (.head _)).2.2
  have bI : ∀ p ∈ (D, LCg.lst ys) :: (X, oX) :: nw, p.1 ≠ I := fun p hp => by
    rcases List.mem_cons.mp hp with rfl | hp
    · exact Ne.symm hDI
    · exact (off3 p hp).1
  by_cases hlt : i < n
  · refine W.item i _ _ _ hlt hst' fun v h₂ tk₂ hPv hst₂ hk₂ => ?_
    obtain ⟨z, rfl⟩ := hPv
    have F₂ := LCg.fr_but F' hk₂ hIL hI₀
    have N₂ := LCg.news_but N' hk₂ bI
    have hn₂ : h₂.Ns C m' := hn'.at' fun o e => hk₂ _ o (by simpa using Ne.symm hCI) e
    refine wpAny_assign_Name (wpAny_storeName_cell (c := X) (by simp [compEnvC, relabel, hkind]) hx (by simp [compEnvC]) ⟨oX, (N₂ (X, oX) (.tail _ (.head _))).1, hdX'⟩ fun h₃ hv hs₃ => ?_)
    refine wpAny_tests_nil ?_
    simp only [if_true]
    obtain ⟨oX', hoX', hdX''⟩ := hv
    have F₃ : Fr h₀ L h₃ m := F₂.change hs₃ zX.2.1 zX.2.2
    have hst₃ : IsRangeIter h₃ I (a + ((i + 1 : Nat) : Int) * 1) ((n : Int) - ((i + 1 : Nat) : Int)) 1 := W.frame _ _ _ hst₂ fun b hb o e => hs₃.extBut b o (fun q => hXI (by rw [← q]; exact List.mem_singleton.mp hb)) e
    obtain ⟨oC, heC, hoC⟩ := LCg.ns_obj (hn₂.sameBut hs₃ (Ne.symm hXC))
    have N₃ : News h₀ L h₃ ((I, _) :: (C, oC) :: (D, LCg.lst ys) :: (X, oX') :: nw) := fun p hp => by
      rcases List.mem_cons.mp hp with rfl | hp
      · exact ⟨hst₃, Ne.symm hIL, hI₀⟩
      · rcases List.mem_cons.mp hp with rfl | hp
        · exact ⟨heC, hCL, hC₀⟩
        · rcases List.mem_cons.mp hp with rfl | hp
          · have z := N₂ (D, LCg.lst ys) (.head _)
            exact ⟨hs₃.extBut _ _ (Ne.symm hXD) z.1, z.2⟩
          · rcases List.mem_cons.mp hp with rfl | hp
            · exact ⟨hoX', zX.2.1, zX.2.2⟩
            · have z := N₂ p (.tail _ (.tail _ hp))
              exact ⟨hs₃.extBut _ _ (Off.mem offX' p hp) z.1, z.2⟩
    have off₃ : LCg.Off3 I C D ((X, oX') :: nw) := ⟨off'.1, off'.2⟩
    refine wpAny_mono (turn i z I _ C oC D X oX' ys nw h₃ _ _ hlt hJ' hdX'' F₃ N₃ off₃ offX' ⟨hCI, hDI, hDC⟩) (fun y s₄ h₄ => ?_) fun _ _ e => e
    obtain ⟨h₄, tk₄, news₄, rfl, F₄, N₄, off₄, -, nw', rfl, offX₄, R₄⟩ := h₄
    have yI := (N₄ _ List.mem_cons_self).1
    have yC := (N₄ (C, oC) (List.mem_cons_of_mem _ List.mem_cons_self)).1
    have yD := N₄ (D, LCg.lst ys) (List.mem_cons_of_mem _ (List.mem_cons_of_mem _ List.mem_cons_self))
    have N₄' : News h₀ L h₄ ((X, oX') :: nw') := fun p hp => N₄ p (List.mem_cons_of_mem _ (List.mem_cons_of_mem _ (List.mem_cons_of_mem _ hp)))
    refine append_at (hsz := by show ys.toArray.size ≤ sizeLine; rw [List.size_toArray, hyl]; exact Nat.le_trans hi hsz) yD.1 fun h₅ hs₅ hD₅ => ?_
    have off4 := off₄.mem
    refine ⟨n + 1 - (i + 1), by omega, h₅, tk₄, i + 1, ys ++ [y], _, oX', _, nw', rfl, hlt, rfl, by rw [List.length_append, List.length_singleton, hyl], ?_, F₄.change hs₅ yD.2.1 yD.2.2, (hoC.ns yC).sameBut hs₅ hDC, fun p hp => ?_, hdX'', off₄, offX₄, R₄⟩
    · have e : h₄.get? I = some _ := yI
      exact (hs₅.2 I hDI).trans e
    · rcases List.mem_cons.mp hp with rfl | hp
      · exact ⟨hD₅.trans (congrArg some (LCg.lst_snoc ys y)), yD.2⟩
      · exact ⟨hs₅.extBut _ _ (off4 p hp).2.2 (N₄' p hp).1, (N₄' p hp).2⟩
  · obtain rfl : i = n := Nat.le_antisymm hi (Nat.not_lt.mp hlt)
    refine W.done _ _ _ hst' fun h₂ tk₂ hk₂ => ?_
    have N₂ := LCg.news_but N' hk₂ bI
    refine hRR h₂ tk₂ _ ys nw (LCg.fr_but F' hk₂ hIL hI₀) (fun p hp => ?_) (off_of fun p hp => (off3 p (.tail _ hp)).2.2) (hn'.at' fun o e => hk₂ _ o (by simpa using Ne.symm hCI) e) (fun p hp => (off3 p (.tail _ hp)).2.1) hJ'
    rcases List.mem_cons.mp hp with rfl | hp
    · exact N₂ _ (.head _)
    · exact N₂ _ (.tail _ (.tail _ hp))
theorem m_cellBlock {elt iter : Expr} {x : Str} {px : Pos} {scope : Scope} {cl : List (Str × Addr)} {pos : Pos} {s₁ : Shared} {a b : Int} {n : Nat} {J : Nat → List Value → List (Addr × Obj) → Prop} {news : List (Addr × Obj)} {RR : Value → Addr → Result → Shared → Prop}
    (hcells : ∀ k, cellsFrom k scope.names cl = (x, k) :: cl) (hpush : ∀ h, pushCells h scope.names = h.push noCell) (hkind : scope.kind = .function) (hx : (relabel scope env).names.lookup x = some .cell)
    (hh : A.handled = none) (F : Fr h₀ L s₁.heap m) (N : News h₀ L s₁.heap news) (hn : Builtin.Range.rangeSize a b 1 = ((n : Nat) : Int)) (hsz : n ≤ sizeLine) (hJ : J 0 [] news)
    (turn : ∀ i z I oI C oC D X oX ys nw h tk (E' : Value → Shared → Prop), i < n → J i ys nw → oX.data = .cell (some (.int (a + (i : Int)) z)) → Fr h₀ L h m → News h₀ L h ((I, oI) :: (C, oC) :: (D, LCg.lst ys) :: (X, oX) :: nw) → LCg.Off3 I C D ((X, oX) :: nw) → Off X nw → ((@Ne Nat I C) ∧ (@Ne Nat I D) ∧ (@Ne Nat C D)) →
      wpAny (model prog w) A (eval elt (compEnvC scope ((x, X) :: cl) C env)) (LCg.CompEnd h₀ L m { s₁ with heap := h, toks := tk } I oI C oC D (LCg.lst ys) (fun _ => True) (fun y nw'' => ∃ nw', nw'' = (X, oX) :: nw' ∧ Off X nw' ∧ J (i + 1) (ys ++ [y]) nw')) E' { s₁ with heap := h, toks := tk })
    (hRR : ∀ D C h tk m' ys nw, Fr h₀ L h m → News h₀ L h ((D, LCg.lst ys) :: nw) → Off D nw → h.Ns C m' → h₀.get? C = none → C ≠ L → (∀ p ∈ (D, LCg.lst ys) :: nw, p.1 ≠ C) → J n ys nw → RR (.ref D) C (.ok .next) { s₁ with heap := h, toks := tk }) :
    wpAny (model prog w) A (newList []) (fun acc s₃ => wpAny (model prog w) A (newFunctionEnv scope env.globals cl [] env.qual none .none (some env)) (fun cenv s₄ =>
      codeAny (model prog w) A (.compStart (.ListComp elt [⟨.Name x px, iter, [], 0⟩] scope pos) 0 (.ref s₁.heap.objs.size) acc { cenv with scope := relabel scope env }) (RR acc cenv.locals) s₄) E s₃) E { s₁ with heap := s₁.heap.push { cls := .type "range_iterator", data := .fields #[rawInt a, rawInt (Builtin.Range.rangeSize a b 1), rawInt 1] } } := by
  refine wpAny_newObj_type ?_
  refine m_newEnv_cell hcells hpush ?_
  let oI : Obj := { cls := .type "range_iterator", data := .fields #[rawInt a, rawInt (Builtin.Range.rangeSize a b 1), rawInt 1] }
  let h1 : Heap := s₁.heap.push oI
  let h2 : Heap := h1.push { cls := .type "list", data := .seq #[] }
  let h3 : Heap := h2.push { cls := .type "dict", data := .dict #[] }
  let h4 : Heap := h3.push noCell
  have z1 : h1.objs.size = s₁.heap.objs.size + 1 := Heap.size_push ..
  have z2 : h2.objs.size = s₁.heap.objs.size + 2 := (Heap.size_push ..).trans (congrArg (· + 1) z1)
  have z3 : h3.objs.size = s₁.heap.objs.size + 3 := (Heap.size_push ..).trans (congrArg (· + 1) z2)
  have u34 : ∀ p o, h3.get? p = some o → h4.get? p = some o := fun p o e => Heap.get?_push_of_some _ e
  have u24 : ∀ p o, h2.get? p = some o → h4.get? p = some o := fun p o e => u34 _ _ (Heap.get?_push_of_some _ e)
  have u14 : ∀ p o, h1.get? p = some o → h4.get? p = some o := fun p o e => u24 _ _ (Heap.get?_push_of_some _ e)
  have u04 : ∀ p o, s₁.heap.get? p = some o → h4.get? p = some o := fun p o e => u14 _ _ (Heap.get?_push_of_some _ e)
  have fresh : ∀ p, s₁.heap.objs.size ≤ p → h₀.get? p = none := fun p hp => by
    cases e : h₀.get? p with
    | none => rfl
    | some o' => exact absurd (Heap.lt_size (F.keep p o' e)) (Nat.not_lt.mpr hp)
  have hL : @LT.lt Nat _ L s₁.heap.objs.size := F.ns.lt
  have gI : h4.get? s₁.heap.objs.size = some oI := u14 _ _ (Heap.get?_push_size _ rfl)
  have gD : h4.get? h1.objs.size = some (LCg.lst []) := u24 _ _ (Heap.get?_push_size _ rfl)
  have gX : h4.get? (h2.objs.size + 1) = some noCell := by
    have e : h3.objs.size = h2.objs.size + 1 := by omega
    rw [← e]; exact Heap.get?_push_size _ rfl
  have gC : h4.Ns h2.objs.size (fun _ => none) := (Heap.Ns.new h2 (.type "dict")).keeps u34
  have hst : IsRangeIter h4 s₁.heap.objs.size (a + ((0 : Nat) : Int) * 1) ((n : Int) - ((0 : Nat) : Int)) 1 := by
    show h4.get? _ = _
    rw [gI]
    simp only [oI, hn]
    simp [rawInt]
  have below : ∀ p ∈ news, p.1 < s₁.heap.objs.size := fun p hp => Heap.lt_size (N p hp).1
  have N4 : News h₀ L h4 ((h1.objs.size, LCg.lst []) :: (h2.objs.size + 1, noCell) :: news) := fun p hp => by
    rcases List.mem_cons.mp hp with rfl | hp
    · exact ⟨gD, by show @Ne Nat h1.objs.size L; omega, fresh _ (by show @LE.le Nat _ _ h1.objs.size; omega)⟩
    · rcases List.mem_cons.mp hp with rfl | hp
      · exact ⟨gX, by show @Ne Nat (h2.objs.size + 1) L; omega, fresh _ (by show @LE.le Nat _ _ (h2.objs.size + 1); omega)⟩
      · exact ⟨u04 _ _ (N p hp).1, (N p hp).2⟩
  have W := LCg.range_walks (prog := prog) (w := w) (A := A) (I := s₁.heap.objs.size) hh a n
  have loop := m_cellLoop (elt := elt) (iter := iter) (px := px) (pos := pos) (D := h1.objs.size) (C := h2.objs.size) (X := h2.objs.size + 1) (tk₁ := s₁.toks) (news := news) (J := J) (R := RR (.ref h1.objs.size) h2.objs.size)
    W hsz hkind hx (Nat.ne_of_lt hL) (fresh _ (Nat.le_refl _)) (by show @Ne Nat h2.objs.size L; omega) (fresh _ (by show @LE.le Nat _ _ h2.objs.size; omega)) (by omega) (by omega) (by omega) hst (F.keeps u04) gC N4 rfl
    (off3_of ⟨by show @Ne Nat (h2.objs.size + 1) _; omega, off_of fun p hp => Nat.ne_of_lt (below p hp)⟩ ⟨by show @Ne Nat (h2.objs.size + 1) _; omega, off_of fun p hp => Nat.ne_of_lt (Nat.lt_of_lt_of_le (below p hp) (by omega))⟩ ⟨by show @Ne Nat (h2.objs.size + 1) _; omega, off_of fun p hp => Nat.ne_of_lt (Nat.lt_of_lt_of_le (below p hp) (by omega))⟩)
    (off_of fun p hp => Nat.ne_of_lt (Nat.lt_of_lt_of_le (below p hp) (by omega))) hJ turn (fun h tk m' ys nw F' N' oD hns offC hJ' => ?_)
  · exact codeAny_compStart_list loop (W.self 0 _ _ _ hst loop)
  · refine hRR _ _ _ _ m' _ _ F' N' oD hns (fresh _ (by show @LE.le Nat _ _ h2.objs.size; omega)) (by show @Ne Nat h2.objs.size L; omega) (fun p hp => ?_) hJ'
    rcases List.mem_cons.mp hp with rfl | hp
    · show @Ne Nat h1.objs.size h2.objs.size
      omega
    · exact offC p hp
theorem ListComp_C {elt iter : Expr} {x : Str} {px : Pos} {scope : Scope} {cl : List (Str × Addr)} {pos : Pos} {Q : Value → Shared → Prop} (F₀ : Fr h₀ L s.heap m)
    (hclos : closureFor scope env = pure cl) (hcells : ∀ k, cellsFrom k scope.names cl = (x, k) :: cl) (hpush : ∀ h, pushCells h scope.names = h.push noCell) (hkind : scope.kind = .function)
    (hnames : ∀ y ∈ scope.names, y.2 = .local → scope.names.lookup y.1 = some .local) (hx : (relabel scope env).names.lookup x = some .cell)
    (h : wpAny (model prog w) A (eval iter env) (SrcC prog w A h₀ L m env elt x scope cl (fun _ => m) Q) E s)
    (hs : ∀ x, foldedSetIterable iter env x = pure x := by intro _; rfl) :
    wpAny (model prog w) A (eval (.ListComp elt [⟨.Name x px, iter, [], 0⟩] scope pos) env) Q E s := by
  rw [eval_ListComp]
  refine wpAny_comprehension_free (use := none) rfl hs hclos hkind hnames (wpAny_mono h (fun xv s₁ h₁ => ?_) fun _ _ e => e)
  obtain ⟨r, a, b, t, u, v, n, news, J, rfl, hh, F, N, hr, hsm, hn, hsz, hJ, turn, fin⟩ := h₁
  refine wpAny_pyIter_range hr hsm ?_
  refine m_cellBlock hcells hpush hkind hx hh F N hn hsz hJ turn fun D C h tk m' ys nw F' N' oD hns hC₀ hCL offC hJ' => ?_
  refine ⟨m', hns, fun h'' hs'' => fin ys nw _ h'' tk hJ' (F'.change hs'' hCL hC₀) (fun p hp => ?_) oD⟩
  exact ⟨hs''.extBut _ _ (offC p hp) (N' p hp).1, (N' p hp).2⟩
theorem Assign_C {elt iter : Expr} {x y : Str} {px py : Pos} {scope : Scope} {cl : List (Str × Addr)} {pos spos : Pos} {Q : Flow → Shared → Prop} (F₀ : Fr h₀ L s.heap m) (hLe : env.locals = L)
    (hsw : swapsWith (.ListComp elt [⟨.Name x px, iter, [], 0⟩] scope pos) (some (.Name y py)) spos.line env = pure true)
    (hclos : closureFor scope env = pure cl) (hcells : ∀ k, cellsFrom k scope.names cl = (x, k) :: cl) (hpush : ∀ h, pushCells h scope.names = h.push noCell) (hkind : scope.kind = .function)
    (hnames : ∀ z ∈ scope.names, z.2 = .local → scope.names.lookup z.1 = some .local) (hx : (relabel scope env).names.lookup x = some .cell)
    (hy : env.kindOf y = some .local) (hp : (env.scope.kind == .class || (env.scope.kind == .module && env.locals != env.globals)) = false)
    (h : wpAny (model prog w) A (eval iter env) (SrcC prog w A h₀ L m env elt x scope cl (fun v z => if z = y then some v else m z) (fun _ => Q .next)) E s)
    (hs : ∀ x, foldedSetIterable iter env x = pure x := by intro _; rfl) :
    wpAny (model prog w) A (exec (.Assign [.Name y py] (.ListComp elt [⟨.Name x px, iter, [], 0⟩] scope pos) spos) env) Q E s := by
  subst hLe
  rw [exec_Assign_Name_used _ _ _ _ hsw]
  refine wpAny_bind (wpAny_standAt (wpAny_bind ?_))
  show wpAny _ A (do let _ ← comprehension (.ListComp elt [⟨.Name x px, iter, [], 0⟩] scope pos) scope env _ (newList []) false (eval iter env) (some (assign (.Name y py) env))) _ _ s
  refine wpAny_bind (wpAny_mono (wpAny_comprehension_free (use := some (assign (.Name y py) env)) (Q := fun _ s' => Q .next s') rfl hs hclos hkind hnames
    (wpAny_mono h (fun xv s₁ h₁ => ?_) fun _ _ e => e)) (fun _ s' hq => wpAny_pure (wpAny_pure hq)) fun _ _ e => e)
  obtain ⟨r, a, b, t, u, v, n, news, J, rfl, hh, F, N, hr, hsm, hn, hsz, hJ, turn, fin⟩ := h₁
  refine wpAny_pyIter_range hr hsm ?_
  refine m_cellBlock hcells hpush hkind hx hh F N hn hsz hJ turn fun D C h tk m' ys nw F' N' oD hns hC₀ hCL offC hJ' => ?_
  show wpAny _ A (assign (.Name y py) env (.ref D)) _ _ _
  refine wpAny_assign_Name (wpAny_storeName_local hy F'.ns (fun h₂ hn₂ hs₂ => ?_) hp)
  have hL₀ : h₀.get? env.locals = none := Heap.get?_none_of_le F'.above
  have F₂ : Fr h₀ env.locals h₂ (fun z => if z = y then some (.ref D) else m z) := ⟨hn₂, fun b o e => hs₂.extBut b o (fun q => by rw [q, hL₀] at e; cases e) (F'.keep b o e), F'.above⟩
  refine ⟨m', hns.sameBut hs₂ hCL, fun h'' hs'' => fin ys nw D h'' _ hJ' (F₂.change hs'' hCL hC₀) (fun p hp => ?_) oD⟩
  have z : h₂.get? p.1 = some p.2 := hs₂.extBut _ _ (N' p hp).2.1 (N' p hp).1
  exact ⟨hs''.extBut _ _ (offC p hp) z, (N' p hp).2⟩
end cc
end
section
section cr
variable {prog : Program} {w : World} {A : Around} {E : Value → Shared → Prop} {s : Shared} {h₀ : Heap} {L : Addr} {m : Str → Option Value} {env : Env}
/-- a list of made lists -/
def RowsL (P : Nat → List Value → Prop) (i : Nat) (ys : List Value) (rl : List (Addr × Obj)) : Prop :=
  ∃ rows : List (Addr × List Value), rl = rows.map (fun p => (p.1, LCg.lst p.2)) ∧ ys = rows.map (fun p => Value.ref p.1) ∧ rows.length = i ∧ ∀ k p, rows[k]? = some p → P k p.2
theorem RowsL.nil {P : Nat → List Value → Prop} : RowsL P 0 [] [] := ⟨[], rfl, rfl, rfl, fun k p h => by simp at h⟩
theorem RowsL.snoc {P : Nat → List Value → Prop} {i : Nat} {ys row : List Value} {rl : List (Addr × Obj)} {D : Addr} (h : RowsL P i ys rl) (hp : P i row) : RowsL P (i + 1) (ys ++ [.ref D]) (rl ++ [(D, LCg.lst row)]) := by
  obtain ⟨rows, rfl, rfl, hl, hr⟩ := h
  refine ⟨rows ++ [(D, row)], by simp, by simp, by simp [hl], fun k p hk => ?_⟩
  by_cases e : k < rows.length
  · rw [List.getElem?_append_left e] at hk
    exact hr k p hk
  · rw [List.getElem?_append_right (by omega)] at hk
    have e2 : k - rows.length = 0 := by
      cases hh : k - rows.length with
      | zero => rfl
      | succ j => rw [hh] at hk; simp at hk
    rw [e2] at hk
    simp only [List.getElem?_cons_zero, Option.some.injEq] at hk
    subst hk
    rw [show k = i by omega]
    exact hp
theorem RowsL.len {P : Nat → List Value → Prop} {i : Nat} {ys : List Value} {rl : List (Addr × Obj)} (h : RowsL P i ys rl) : ys.length = i := by
  obtain ⟨rows, rfl, rfl, hl, hr⟩ := h
  simpa using hl
theorem RowsL.get {P : Nat → List Value → Prop} {i k : Nat} {ys : List Value} {rl : List (Addr × Obj)} (h : RowsL P i ys rl) (hk : k < i) : ∃ D row, ys[k]? = some (.ref D) ∧ (D, LCg.lst row) ∈ rl ∧ P k row := by
  obtain ⟨rows, rfl, rfl, hl, hr⟩ := h
  have hk' : k < rows.length := by omega
  refine ⟨rows[k].1, rows[k].2, by simp [hk'], List.mem_map.mpr ⟨rows[k], List.getElem_mem hk', rfl⟩, hr k _ (by simp [hk'])⟩
theorem SrcC_rows {elt : Expr} {x : Str} {scope : Scope} {cl : List (Str × Addr)} {mD : Value → Str → Option Value} {Q : Value → Shared → Prop} {r : Addr} {a b : Int} {t u v : Tok} {n : Nat} {base : List (Addr × Obj)} {s₁ : Shared} (P : Nat → List Value → Prop)
    (hh : A.handled = none) (F : Fr h₀ L s₁.heap m) (N : News h₀ L s₁.heap base) (hr : IsRange s₁.heap r a b 1 t u v) (hsm : Builtin.Range.small a b 1 = true) (hn : Builtin.Range.rangeSize a b 1 = ((n : Nat) : Int)) (hsz : n ≤ sizeLine)
    (turn : ∀ i z I oI C oC D X oX ys rl h tk (E' : Value → Shared → Prop), i < n → RowsL P i ys rl → oX.data = .cell (some (.int (a + (i : Int)) z)) → Fr h₀ L h m → News h₀ L h ((I, oI) :: (C, oC) :: (D, LCg.lst ys) :: (X, oX) :: (base ++ rl)) → LCg.Off3 I C D ((X, oX) :: (base ++ rl)) → Off X (base ++ rl) → ((@Ne Nat I C) ∧ (@Ne Nat I D) ∧ (@Ne Nat C D)) →
      wpAny (model prog w) A (eval elt (compEnvC scope ((x, X) :: cl) C env)) (LCg.CompEnd h₀ L m { s₁ with heap := h, toks := tk } I oI C oC D (LCg.lst ys) (fun _ => True) (fun y nw'' => ∃ D' row, y = .ref D' ∧ nw'' = (X, oX) :: (base ++ (rl ++ [(D', LCg.lst row)])) ∧ @Ne Nat D' X ∧ P i row)) E' { s₁ with heap := h, toks := tk })
    (fin : ∀ ys rl D h tk, RowsL P n ys rl → Fr h₀ L h (mD (.ref D)) → News h₀ L h ((D, LCg.lst ys) :: (base ++ rl)) → Off D (base ++ rl) → Q (.ref D) { s₁ with heap := h, toks := tk }) :
    SrcC prog w A h₀ L m env elt x scope cl mD Q (.ref r) s₁ := by
  refine ⟨r, a, b, t, u, v, n, base, fun i ys nw => ∃ rl, nw = base ++ rl ∧ RowsL P i ys rl, rfl, hh, F, N, hr, hsm, hn, hsz, ⟨[], by simp, RowsL.nil⟩, ?_, ?_⟩
  · intro i z I oI C oC D X oX ys nw h tk E' hi hJ hX F' N' off offX ne
    obtain ⟨rl, rfl, hR⟩ := hJ
    refine wpAny_mono (turn i z I oI C oC D X oX ys rl h tk E' hi hR hX F' N' off offX ne) (fun y s₂ hq => ?_) fun _ _ e => e
    obtain ⟨h', tk', nw', e, F2, N2, off2, hS, D', row, rfl, rfl, hDX, hP⟩ := hq
    refine ⟨h', tk', _, e, F2, N2, off2, trivial, _, rfl, ?_, _, rfl, hR.snoc hP⟩
    exact off_of fun p hp => by
      rw [← List.append_assoc] at hp
      rcases List.mem_append.mp hp with hp | hp
      · exact Off.mem offX p hp
      · rw [List.mem_singleton.mp hp]; exact hDX
  · intro ys nw D h tk hJ F' N' off
    obtain ⟨rl, rfl, hR⟩ := hJ
    exact fin ys rl D h tk hR F' N' off
theorem sub_rows {a b c x d : Addr × Obj} {base rl : List (Addr × Obj)} : ∀ p ∈ a :: b :: c :: x :: (base ++ (rl ++ [d])), p ∈ d :: a :: b :: c :: x :: (base ++ rl) := fun p hp => by
  rcases List.mem_cons.mp hp with h | hp
  · exact .tail _ (h ▸ .head _)
  rcases List.mem_cons.mp hp with h | hp
  · exact .tail _ (.tail _ (h ▸ .head _))
  rcases List.mem_cons.mp hp with h | hp
  · exact .tail _ (.tail _ (.tail _ (h ▸ .head _)))
  rcases List.mem_cons.mp hp with h | hp
  · exact .tail _ (.tail _ (.tail _ (.tail _ (h ▸ .head _))))
  rw [← List.append_assoc] at hp
  rcases List.mem_append.mp hp with hp | hp
  · exact .tail _ (.tail _ (.tail _ (.tail _ (.tail _ hp))))
  · rw [List.mem_singleton.mp hp]; exact .head _
theorem off3_rows {I C D D' : Addr} {x : Addr × Obj} {o : Obj} {base rl : List (Addr × Obj)} (h : LCg.Off3 I C D (x :: (base ++ rl))) (h1 : @Ne Nat D' I) (h2 : @Ne Nat D' C) (h3 : @Ne Nat D' D) : LCg.Off3 I C D (x :: (base ++ (rl ++ [(D', o)]))) :=
  LCg.Off3.of fun p hp => by
    have hm := h.mem
    rcases List.mem_cons.mp hp with rfl | hp
    · exact hm _ (.head _)
    · rw [← List.append_assoc] at hp
      rcases List.mem_append.mp hp with hp | hp
      · exact hm _ (.tail _ hp)
      · rw [List.mem_singleton.mp hp]; exact ⟨h1, h2, h3⟩
end cr
end
section
section ix
variable {prog : Program} {w : World} {A : Around} {E : Value → Shared → Prop} {s : Shared} {h₀ h : Heap} {L D : Addr} {m : Str → Option Value} {news : List (Addr × Obj)} {vs : List Value} {ns : List Int} {n : Nat}
theorem ints_kf : ∀ {vs : List Value} {ns : List Int}, IntsAre vs ns → kf_ints vs = true
  | _, _, .nil => rfl
  | _, _, .cons _ _ h => by unfold kf_ints; exact ints_kf h
theorem ints_at {k : Int} : ∀ {vs : List Value} {ns : List Int}, IntsAre vs ns → k ∈ ns → kf_at k vs = some (ns.idxOf k)
  | _, _, .nil, h => nomatch h
  | _, _, .cons (ns := r) a t h', hk => by
    unfold kf_at
    by_cases e : a = k
    · subst e
      simp [isInt]
    · have hk' : k ∈ r := by simpa [Ne.symm e] using hk
      rw [ints_at h' hk']
      simp only [isInt, List.idxOf_cons]
      cases a == k <;> rfl
/-- xs.index(k) of made ints -/
theorem m_index {k : Int} {t : Tok} {Q : Value → Shared → Prop} (N : News h₀ L s.heap news) (hm : (D, listOf vs.toArray n) ∈ news) (hi : IntsAre vs ns) (hk : k ∈ ns) (hz : ns.length ≤ 16777216)
    (h : Q (.int (ns.idxOf k : Nat) s.toks) { s with toks := s.toks + 1 }) : wpAny (model prog w) A (call (.builtin "list.index") [.ref D, .int k t]) Q E s :=
  kf_index N hm (ints_kf hi) (ints_at hi hk) rfl (by rw [sizeLine_eq, show vs.toArray.toList = vs from rfl, hi.length]; exact hz) h
end ix
section ix2
variable {prog : Program} {w : World} {A : Around} {E : Value → Shared → Prop} {s : Shared} {h₀ : Heap} {L D : Addr} {news : List (Addr × Obj)} {vs : List Value} {bs : List Bool} {n : Nat}
theorem gives_bool (a b : Bool) : MeetsSeq.EqGives (.bool a) (.bool b) (a == b) := fun prog w _ E _ Q h => SeqAt.EqAt.bool_bool a b prog w E Q h
def isB (k : Bool) : Value → Bool
  | .bool b => b == k
  | _ => false
theorem bools_gives {k : Bool} : ∀ {vs : List Value} {bs : List Bool}, LSm.BoolsAre vs bs → ∀ y ∈ vs, MeetsSeq.EqGives y (.bool k) (isB k y)
  | _, _, .nil => fun _ h => nomatch h
  | _, _, .cons b h => fun y hy => by
    rcases List.mem_cons.mp hy with rfl | hy
    · exact gives_bool b k
    · exact bools_gives h y hy
theorem bools_isB {k : Bool} : ∀ {vs : List Value} {bs : List Bool}, LSm.BoolsAre vs bs → ∀ (i : Nat) (hi : i < vs.length), isB k vs[i] = (bs.getD i false == k)
  | _, _, .cons b h, 0, _ => rfl
  | _, _, .cons b h, i + 1, hi => bools_isB h i (Nat.lt_of_succ_lt_succ hi)
theorem idxB_no {k : Bool} : ∀ {bs : List Bool} {i : Nat}, i < bs.idxOf k → (bs.getD i false == k) = false
  | [], _, h => absurd h (Nat.not_lt_zero _)
  | b :: r, i, h => by
    rw [List.idxOf_cons] at h
    cases e : b == k with
    | true => rw [e] at h; exact absurd h (Nat.not_lt_zero _)
    | false =>
      rw [e] at h
      cases i with
      | zero => exact e
      | succ i => exact idxB_no (bs := r) (i := i) (Nat.lt_of_succ_lt_succ h)
/-- xs.index(b) of made bools -/
theorem m_indexB {k : Bool} {Q : Value → Shared → Prop} (N : News h₀ L s.heap news) (hm : (D, listOf vs.toArray n) ∈ news) (hi : LSm.BoolsAre vs bs) (hk : k ∈ bs) (hz : bs.length ≤ 16777216)
    (h : Q (.int (bs.idxOf k : Nat) s.toks) { s with toks := s.toks + 1 }) : wpAny (model prog w) A (call (.builtin "list.index") [.ref D, .bool k]) Q E s := by
  have hl : vs.length = bs.length := hi.length
  have hj : bs.idxOf k < bs.length := List.idxOf_lt_length_iff.mpr hk
  refine call_meets PySem.F.slot_list_index ⟨_, (N _ hm).1, rfl⟩ PySem.F.entry_list_index (PySem.F.args_list_index_2 _ _)
    (MeetsSeq.list_index D vs.toArray n (.bool k) (isB k) (fun y hy => bools_gives hi y (by simpa using hy)) (bs.idxOf k) (by simpa [hl] using hj) (by omega) ?_ (fun i hi' hlt => ?_)) ⟨(N _ hm).1, h⟩
  · have e := bools_isB (k := k) hi (bs.idxOf k) (by omega)
    rw [List.getD_eq_getElem?_getD, List.getElem?_eq_getElem hj] at e
    simpa using e
  · have e := bools_isB (k := k) hi i (by simpa using hi')
    have : isB k vs[i] = false := e.trans (idxB_no hlt)
    simpa using this
/-- k in xs of made ints -/
theorem m_inI {ns : List Int} {k : Int} {t : Tok} {Q : Value → Shared → Prop} (N : News h₀ L s.heap news) (hm : (D, listOf vs.toArray n) ∈ news) (hi : IntsAre vs ns) (h : Q (.bool (ns.any (· == k))) s) :
    wpAny (model prog w) A (compareOp .In (.int k t) (.ref D)) Q E s :=
  kf_in N hm (ints_kf hi) (any_isInt k hi) h
end ix2
end
section
section ct
variable {prog : Program} {w : World} {A : Around} {h₀ : Heap} {L : Addr} {m : Str → Option Value} {env : Env} {ct elt : Expr} {x : Str} {scope : Scope} {cl : List (Str × Addr)} {s : Shared} {S : List (Addr × Obj) → Prop} {V : Nat → Value → Prop} {Fin : List Value → List (Addr × Obj) → Prop} {news : List (Addr × Obj)}
/-- a comprehension with a test, where nothing made stays but the list -/
theorem m_restT {n : Nat} (R : Nat → List Value → Prop) (h0 : R 0 [])
    (turn : ∀ i v I oI C oC D m₂ ys h tk (E' : Value → Shared → Prop), i < n → V i v → R i ys → LCg.NsObj oC m₂ → m₂ x = some v → Fr h₀ L h m → News h₀ L h ((I, oI) :: (C, oC) :: (D, LCg.lst ys) :: news) → LCg.Off3 I C D news → ((@Ne Nat I C) ∧ (@Ne Nat I D) ∧ (@Ne Nat C D)) →
      wpAny (model prog w) A (isTrue ct (compEnvC scope cl C env) (eval ct (compEnvC scope cl C env))) (fun ok s' => if ok = true then
        wpAny (model prog w) A (eval elt (compEnvC scope cl C env)) (LCg.CompEnd h₀ L m { s with heap := h, toks := tk } I oI C oC D (LCg.lst ys) S (fun y nw' => nw' = news ∧ R (i + 1) (ys ++ [y]))) E' s'
        else LCg.CompEnd h₀ L m { s with heap := h, toks := tk } I oI C oC D (LCg.lst ys) S (fun _ nw' => nw' = news ∧ R (i + 1) ys) Value.none s') E' { s with heap := h, toks := tk })
    (fin : ∀ ys, R n ys → Fin ys news) : LCt.CompRestT prog w A h₀ L m env ct elt x scope cl s S V Fin n 0 [] news := by
  have key : ∀ (j i : Nat) (ys : List Value), i + j = n → R i ys → LCt.CompRestT prog w A h₀ L m env ct elt x scope cl s S V Fin j i ys news := by
    intro j
    induction j with
    | zero =>
      intro i ys hi hj
      obtain rfl : i = n := by omega
      exact LCt.CompRestT.zero (fin ys hj)
    | succ j ih =>
      intro i ys hi hj
      refine LCt.CompRestT.succ ?_
      intro v I oI C oC D m₂ h tk E' hv hC hx F N off ne
      refine wpAny_mono (turn i v I oI C oC D m₂ ys h tk E' (by omega) hv hj hC hx F N off ne) (fun ok s₂ hq => ?_) fun _ _ e => e
      cases ok with
      | true =>
        rw [if_pos rfl] at hq ⊢
        refine wpAny_mono hq (fun y s₃ h3 => ?_) fun _ _ e => e
        obtain ⟨h', tk', nw', e, F', N', off', hS, rfl, hj'⟩ := h3
        exact ⟨h', tk', _, e, F', N', off', hS, ih (i + 1) _ (by omega) hj'⟩
      | false =>
        rw [if_neg (by decide)] at hq ⊢
        obtain ⟨h', tk', nw', e, F', N', off', hS, rfl, hj'⟩ := hq
        exact ⟨h', tk', _, e, F', N', off', hS, ih (i + 1) _ (by omega) hj'⟩
  exact key n 0 [] (by omega) h0
end ct
end
section
section sb
variable {prog : Program} {w : World} {A : Around} {E : Value → Shared → Prop} {s : Shared} {h₀ : Heap} {L D : Addr} {news : List (Addr × Obj)} {vs : List Value} {n : Nat} {k : Int} {u : Tok} {v : Value}
/-- an item of a made list -/
theorem m_sub {value slice : PySem.Expr} {Q : Value → Shared → Prop} (N : News h₀ L s.heap news) (hm : (D, listOf vs.toArray n) ∈ news) (hv : vs[k.toNat]? = some v) (h0 : 0 ≤ k) (hfit : k < 2 ^ 63) (h : Q v s)
    (hs : subscripted slice false (.ref D) (.int k u) = operate [.ref D, .int k u] (getItem (.ref D) (.int k u)) := by with_unfolding_all rfl) :
    wpAny (model prog w) A (subscriptTail value slice (.ref D) (.int k u)) Q E s :=
  tail_any (PySem.IsL.isList (n := n) (N _ hm).1).typeIs slot_list_getitem.lookup (wpAny_getItem_list (PySem.IsL.isList (n := n) (N _ hm).1) h0 hfit (by simpa using hv) h) hs
end sb
section eq2
variable {prog : Program} {w : World} {A : Around} {E : Value → Shared → Prop} {s : Shared} {a b x y x' y' : Addr} {v1 v2 u1 u2 : List Value} {k1 k2 l1 l2 : Nat} {ns ms : List Int} {Q : Value → Shared → Prop} {h₀ : Heap} {L : Addr} {news : List (Addr × Obj)}
/-- two lists of two lists of the same ints -/
theorem m_eq2 (N : News h₀ L s.heap news) (ha : s.heap.IsList a #[.ref x, .ref y]) (hb : s.heap.IsList b #[.ref x', .ref y']) (m1 : (x, listOf v1.toArray k1) ∈ news) (m2 : (y, listOf v2.toArray k2) ∈ news) (m3 : (x', listOf u1.toArray l1) ∈ news) (m4 : (y', listOf u2.toArray l2) ∈ news)
    (i1 : IntsAre v1 ns) (i2 : IntsAre v2 ms) (i3 : IntsAre u1 ns) (i4 : IntsAre u2 ms) (n1 : @Ne Nat x x') (n2 : @Ne Nat y y') (hu : A.in1.units + 64 < cLine) (hu' : A.units < cLine) (h : Q (.bool true) s) :
    wpAny (model prog w) A (compareOp .Eq (.ref a) (.ref b)) Q E s := by
  refine PySem.SeqAt.eq_listAt (e := fun _ => true) ha hb rfl hu' (fun j h1 h2 => ?_) ?_
  · have hj : j = 0 ∨ j = 1 := by have : j < 2 := h1; omega
    rcases hj with rfl | rfl
    · exact PySem.SeqAt.EqAt.of_refs n1 fun prog w E Q hq => eq_intsK (News.isList N m1) i1 (News.isList N m3) i3 hu (by simpa using hq)
    · exact PySem.SeqAt.EqAt.of_refs n2 fun prog w E Q hq => eq_intsK (News.isList N m2) i2 (News.isList N m4) i4 hu (by simpa using hq)
  · exact h
end eq2
end
section
section sl
open PySem.Builtin.Str PySem.StrLaws
def seg {α : Type} (L : List α) (a b : Nat) : List α := (L.drop a).take (b - a)
theorem str_ext {x y : PySem.Str} (h : x.cps.toList = y.cps.toList) : x = y := by
  cases x; cases y
  congr 1
  exact Array.toList_inj.mp h
theorem len_list (x : PySem.Str) : x.cps.toList.length = x.length := by simp [PySem.Str.length]
theorem str_beq (x y : PySem.Str) : (x == y) = (x.cps.toList == y.cps.toList) := by
  by_cases h : x = y
  · subst h; simp
  · have h2 : ¬ x.cps.toList = y.cps.toList := fun e => h (str_ext e)
    rw [beq_eq_false_iff_ne.mpr h, beq_eq_false_iff_ne.mpr h2]
theorem starts_list (x y : PySem.Str) : Txt.startswith x y = (x.cps.toList.take y.cps.toList.length == y.cps.toList) := by
  unfold Txt.startswith
  rw [subAt_eq, List.drop_zero, len_list]
  by_cases h : 0 + y.length ≤ x.length
  · rw [decide_eq_true h, Bool.true_and]
  · have h2 : ¬ x.cps.toList.take y.length = y.cps.toList := fun e => by
      have := congrArg List.length e
      rw [List.length_take, len_list, len_list] at this
      omega
    rw [decide_eq_false h, Bool.false_and, beq_eq_false_iff_ne.mpr h2]
theorem ends_list (x y : PySem.Str) : Txt.endswith x y = (decide (y.cps.toList.length ≤ x.cps.toList.length) && x.cps.toList.drop (x.cps.toList.length - y.cps.toList.length) == y.cps.toList) := by
  unfold Txt.endswith
  rw [subAt_eq, len_list, len_list]
  by_cases h : y.length ≤ x.length
  · rw [List.take_of_length_le (by rw [List.length_drop, len_list]; omega)]
    simp [h]
  · simp [h]
theorem clip_nat (n i : Nat) : clipAt n (i : Int) = min i n := by
  have := clipAt_cast n (i : Int)
  rw [if_neg (by omega)] at this
  omega
theorem clip_neg (n i : Nat) (h : 0 < i) : clipAt n (-(i : Int)) = n - i := by
  have := clipAt_cast n (-(i : Int))
  rw [if_pos (by omega)] at this
  omega
theorem slice_from (x : PySem.Str) (s : Nat) : (Txt.slice x (some (s : Int)) none).cps.toList = x.cps.toList.drop s := by
  rw [slice_list]
  simp only [lowAt, highAt, Option.elim, clip_nat]
  rw [← len_list, List.take_of_length_le (by rw [List.length_drop]; omega)]
  by_cases h : s ≤ x.cps.toList.length
  · rw [Nat.min_eq_left h]
  · rw [Nat.min_eq_right (by omega), List.drop_of_length_le (Nat.le_refl _), List.drop_of_length_le (by omega)]
theorem slice_to (x : PySem.Str) (s : Nat) : (Txt.slice x none (some (s : Int))).cps.toList = x.cps.toList.take s := by
  rw [slice_list]
  simp only [lowAt, highAt, Option.elim, clip_nat]
  rw [← len_list, List.drop_zero, Nat.sub_zero]
  by_cases h : s ≤ x.cps.toList.length
  · rw [Nat.min_eq_left h]
  · rw [Nat.min_eq_right (by omega), List.take_of_length_le (Nat.le_refl _), List.take_of_length_le (by omega)]
theorem slice_last (x : PySem.Str) (s : Nat) (h : 0 < s) : (Txt.slice x (some (-(s : Int))) none).cps.toList = x.cps.toList.drop (x.cps.toList.length - s) := by
  rw [slice_list]
  simp only [lowAt, highAt, Option.elim, clip_neg _ _ h]
  rw [← len_list, List.take_of_length_le (by rw [List.length_drop]; omega)]
theorem seg_len {α : Type} (L : List α) (a b : Nat) : (seg L a b).length = min (b - a) (L.length - a) := by simp [seg]
theorem seg_map {α β : Type} (f : α → β) (L : List α) (a b : Nat) : seg (L.map f) a b = (seg L a b).map f := by simp [seg, List.map_drop, List.map_take]
theorem map_beq {α β : Type} [BEq α] [LawfulBEq α] [BEq β] [LawfulBEq β] (f : α → β) (l m : List α) (h : ∀ x ∈ l, ∀ y ∈ m, f x = f y → x = y) : (l.map f == m.map f) = (l == m) := by
  by_cases e : l = m
  · subst e; simp
  · have e2 : ¬ l.map f = m.map f := by
      intro e3
      apply e
      clear e
      induction l generalizing m with
      | nil => cases m with
        | nil => rfl
        | cons y m => simp at e3
      | cons x l ih => cases m with
        | nil => simp at e3
        | cons y m =>
          simp only [List.map_cons, List.cons.injEq] at e3
          rw [h x (List.mem_cons_self ..) y (List.mem_cons_self ..) e3.1, ih m (fun a ha b hb => h a (List.mem_cons_of_mem _ ha) b (List.mem_cons_of_mem _ hb)) e3.2]
    rw [beq_eq_false_iff_ne.mpr e, beq_eq_false_iff_ne.mpr e2]
theorem seg_mem {α : Type} {L : List α} {a b : Nat} {x : α} (h : x ∈ seg L a b) : x ∈ L := List.mem_of_mem_drop (List.mem_of_mem_take h)
end sl
end
section
def lexN : List Nat → List Nat → Bool
  | [], [] => false
  | [], _ :: _ => true
  | _ :: _, [] => false
  | x :: l, y :: m => Nat.blt x y || (Nat.beq x y && lexN l m)
/-- no tail of t is greater than a -/
def topN (a : List Nat) : List Nat → Bool
  | [] => true
  | x :: l => !lexN a (x :: l) && topN a l
def agreeN : Nat → List Nat → List Nat → Bool
  | 0, _, _ => true
  | _ + 1, [], _ => true
  | _ + 1, _ :: _, [] => true
  | n + 1, x :: l, y :: m => Nat.beq x y && agreeN n l m
/-- the stretches ahead of and behind i by s agree -/
def alikeN (w : List Nat) (i s : Nat) : Bool := agreeN (min i s) (w.drop (i - s)) (w.drop (i - s + s))
def perN (w : List Nat) (s : Nat) : Bool := agreeN w.length w (w.drop s)
/-- from s on up: the first period; no smaller one is a local period at i -/
def goN (w : List Nat) (i : Nat) : Nat → Nat → Bool
  | 0, _ => false
  | f + 1, s => if perN w s then Nat.blt i s else (!alikeN w i s && goN w i f (s + 1))
def placesN (t : List Nat) (k : Nat → Bool) : List Nat → Nat → Bool
  | [], _ => true
  | x :: l, i => (!topN (x :: l) t || k i) && placesN t k l (i + 1)
def critN (w : List Nat) : Bool :=
  placesN w (fun p => let r := w.map (2 - ·); placesN r (fun q => goN w (max p q) w.length 1) r 0) w 0
def allN : Nat → List Nat → Bool
  | 0, a => critN a
  | n + 1, a => allN n (0 :: a) && allN n (1 :: a) && allN n (2 :: a)
theorem allN_of : ∀ (n : Nat) (a : List Nat), allN n a = true → ∀ l : List Nat, l.length = n → (∀ k ∈ l, k ≤ 2) → critN (l ++ a) = true
  | 0, a, h, l, hl, _ => by rw [List.eq_nil_of_length_eq_zero hl]; exact h
  | n + 1, a, h, l, hl, hk => by
    have hne : l ≠ [] := by intro e; rw [e] at hl; cases hl
    have e := (List.dropLast_concat_getLast hne).symm
    generalize l.dropLast = r at e
    generalize l.getLast hne = f at e
    subst e
    have hf := hk f (by simp)
    have hr : ∀ g ∈ r, g ≤ 2 := fun g hg => hk g (List.mem_append.mpr (.inl hg))
    have hrl : r.length = n := by simpa using hl
    unfold allN at h
    rw [Bool.and_eq_true, Bool.and_eq_true] at h
    rw [List.append_assoc]
    have : f = 0 ∨ f = 1 ∨ f = 2 := by omega
    rcases this with rfl | rfl | rfl
    · exact allN_of n _ h.1.1 r hrl hr
    · exact allN_of n _ h.1.2 r hrl hr
    · exact allN_of n _ h.2 r hrl hr
theorem dc4 : allN 4 [] = true := by decide +kernel
theorem dc5 : allN 5 [] = true := by decide +kernel
theorem dc6a : allN 5 [0] = true := by decide +kernel
theorem dc6b : allN 5 [1] = true := by decide +kernel
theorem dc6c : allN 5 [2] = true := by decide +kernel
theorem dc6 : allN 6 [] = true := by unfold allN; rw [dc6a, dc6b, dc6c]; rfl
theorem dc70 : allN 5 [0, 0] = true := by decide +kernel
theorem dc71 : allN 5 [1, 0] = true := by decide +kernel
theorem dc72 : allN 5 [2, 0] = true := by decide +kernel
theorem dc73 : allN 5 [0, 1] = true := by decide +kernel
theorem dc74 : allN 5 [1, 1] = true := by decide +kernel
theorem dc75 : allN 5 [2, 1] = true := by decide +kernel
theorem dc76 : allN 5 [0, 2] = true := by decide +kernel
theorem dc77 : allN 5 [1, 2] = true := by decide +kernel
theorem dc78 : allN 5 [2, 2] = true := by decide +kernel
theorem dc7a : allN 6 [0] = true := by unfold allN; rw [dc70, dc71, dc72]; rfl
theorem dc7b : allN 6 [1] = true := by unfold allN; rw [dc73, dc74, dc75]; rfl
theorem dc7c : allN 6 [2] = true := by unfold allN; rw [dc76, dc77, dc78]; rfl
theorem dc7 : allN 7 [] = true := by unfold allN; rw [dc7a, dc7b, dc7c]; rfl
theorem crit_all {ks : List Nat} (h4 : 4 ≤ ks.length) (h7 : ks.length ≤ 7) (hk : ∀ k ∈ ks, k ≤ 2) : critN ks = true := by
  have : ks.length = 4 ∨ ks.length = 5 ∨ ks.length = 6 ∨ ks.length = 7 := by omega
  rw [← List.append_nil ks]
  rcases this with h | h | h | h
  · exact allN_of _ _ dc4 ks h hk
  · exact allN_of _ _ dc5 ks h hk
  · exact allN_of _ _ dc6 ks h hk
  · exact allN_of _ _ dc7 ks h hk
theorem places_of {t : List Nat} {k : Nat → Bool} : ∀ {l : List Nat} {i : Nat}, placesN t k l i = true → ∀ p, p < l.length → topN (l.drop p) t = true → k (i + p) = true
  | [], _, _, p, hp, _ => nomatch hp
  | x :: l, i, h, p, hp, ht => by
    unfold placesN at h
    rw [Bool.and_eq_true] at h
    cases p with
    | zero =>
      rw [List.drop_zero] at ht
      rw [ht] at h
      simpa using h.1
    | succ p =>
      have := places_of h.2 p (by simpa using hp) (by simpa using ht)
      rwa [show i + 1 + p = i + (p + 1) by omega] at this
theorem top_of {a : List Nat} : ∀ {t : List Nat}, (∀ j, j < t.length → lexN a (t.drop j) = false) → topN a t = true
  | [], _ => rfl
  | x :: l, h => by
    unfold topN
    rw [Bool.and_eq_true]
    refine ⟨?_, top_of fun j hj => ?_⟩
    · have := h 0 (by simp)
      rw [List.drop_zero] at this
      rw [this]; rfl
    · have := h (j + 1) (by simpa using hj)
      simpa using this
theorem go_of {w : List Nat} {i : Nat} : ∀ {f s : Nat}, goN w i f s = true → ∃ P, s ≤ P ∧ P < s + f ∧ perN w P = true ∧ i < P ∧ ∀ s', s ≤ s' → s' < P → perN w s' = false ∧ alikeN w i s' = false
  | 0, _, h => nomatch h
  | f + 1, s, h => by
    unfold goN at h
    by_cases hp : perN w s = true
    · rw [if_pos hp] at h
      exact ⟨s, Nat.le_refl _, by omega, hp, by simpa [Nat.blt_eq] using h, fun s' h1 h2 => by omega⟩
    · rw [if_neg hp, Bool.and_eq_true] at h
      obtain ⟨P, h1, h2, h3, h4, h5⟩ := go_of h.2
      refine ⟨P, by omega, by omega, h3, h4, fun s' g1 g2 => ?_⟩
      by_cases e : s' = s
      · subst e
        exact ⟨by simpa using hp, by simpa using h.1⟩
      · exact h5 s' (by omega) g2
theorem agree_eq : ∀ (n : Nat) (l m : List Nat), agreeN n l m = (l.take (min n (min l.length m.length)) == m.take (min n (min l.length m.length)))
  | 0, _, _ => by simp [agreeN]
  | _ + 1, [], _ => by simp [agreeN]
  | _ + 1, _ :: _, [] => by simp [agreeN]
  | n + 1, x :: l, y :: m => by
    unfold agreeN
    rw [agree_eq n l m, List.length_cons, List.length_cons, show min (n + 1) (min (l.length + 1) (m.length + 1)) = min n (min l.length m.length) + 1 by omega, List.take_succ_cons, List.take_succ_cons]
    by_cases e : x = y
    · subst e
      have : Nat.beq x x = true := Nat.beq_refl x
      rw [this, Bool.true_and]
      by_cases e2 : l.take (min n (min l.length m.length)) = m.take (min n (min l.length m.length))
      · rw [e2]; simp
      · simp [e2]
    · have : Nat.beq x y = false := by
        cases hb : Nat.beq x y with
        | false => rfl
        | true => exact absurd (Nat.eq_of_beq_eq_true hb) e
      rw [this, Bool.false_and]
      simp [e]
end
section
def apL : Nat → List UInt8 → List UInt8
  | n, acc => if h : n = 0 then acc else apL (n / 16) (UInt8.ofNat (65 + n % 16) :: acc)
termination_by n => n
decreasing_by omega
theorem ap_lit : ∀ j : Fin 16, KBy.whole #[65, 66, 67, 68, 69, 70, 71, 72, 73, 74, 75, 76, 77, 78, 79, 80] (some ((j.val : Nat) : Int)) (some (((j.val : Nat) : Int) + 1)) = false ∧
    KBy.picked #[65, 66, 67, 68, 69, 70, 71, 72, 73, 74, 75, 76, 77, 78, 79, 80] (some ((j.val : Nat) : Int)) (some (((j.val : Nat) : Int) + 1)) = #[UInt8.ofNat (65 + j.val)] := by decide +kernel
theorem fmod16 (n : Nat) : (n : Int).fmod 16 = ((n % 16 : Nat) : Int) := by
  rw [Int.fmod_eq_emod_of_nonneg _ (by decide)]; omega
theorem fdiv16 (n : Nat) : (n : Int).fdiv 16 = ((n / 16 : Nat) : Int) := by
  rw [Int.fdiv_eq_ediv_of_nonneg _ (by decide)]; omega
theorem apL_step {n : Nat} (h : n ≠ 0) (acc : List UInt8) : apL n acc = apL (n / 16) (UInt8.ofNat (65 + n % 16) :: acc) := by
  rw [apL]; simp [h]
theorem apL_zero (acc : List UInt8) : apL 0 acc = acc := by rw [apL]; simp
theorem ap_size {c len n : Nat} (h : c ≠ 0) (h1 : c * 16 ^ len ≤ n) (h2 : n < 2 ^ 40) : len ≤ 10 := by
  have h3 : 16 ^ len < 16 ^ 10 := by
    have : 1 * 16 ^ len ≤ c * 16 ^ len := Nat.mul_le_mul_right _ (by omega)
    omega
  exact Nat.le_of_lt ((Nat.pow_lt_pow_iff_right (by decide)).mp h3)
theorem ap_mul (c len : Nat) : c / 16 * 16 ^ (len + 1) ≤ c * 16 ^ len := by
  rw [Nat.pow_succ, Nat.mul_comm (16 ^ len) 16, ← Nat.mul_assoc]
  exact Nat.mul_le_mul_right _ (Nat.div_mul_le_self c 16)
local macro_rules | `(tactic| kas_types) => `(tactic| ((rename _ ∧ _ => hx9); (have ha9 := hx9.1); (have hb9 := hx9.2); (clear hx9); first | exact ha9 | exact Ne.symm ha9 | exact hb9 | exact Ne.symm hb9 | exact Nat.ne_of_lt ha9 | exact Nat.ne_of_gt ha9 | exact Nat.ne_of_lt hb9 | exact Nat.ne_of_gt hb9 | ((clear ha9); kas_types)))
local macro_rules | `(tactic| k_ne) => `(tactic| ((refine neN ?_); (try dsimp only); first | assumption | exact Ne.symm (by assumption) | kas_types | omega))
theorem c_ap (w : World) (mean : ExcName → Option Value) (mg mb : Str → Option Value) (n : Int) (t : Tok) (news : List (Addr × Obj)) :
    Cl 1 w mean mg mb 35 news (n.natAbs < 2 ^ 40) [.int n t] (fun t => .bytes (apL n.natAbs []).toArray t) := by
  unfold Cl
  intros
  rename_i hret
  refine wpAny_call ?_
  k_dflt cell_enter
  w_strict (repeat' ((fail_if_success first | (with_reducible show wpAny _ _ (exec (Stmt.While _ _ _ _) _) _ _ _) | (with_reducible show wpAny _ _ (subscriptTail _ _ _ _) _ _ _) | (with_reducible show wpAny _ _ (binaryOp _ (Value.bytes _ _) _) _ _ _) | (with_reducible show WEnd _ _ _ _ _ _ _ _ _ _ _)); first | (k_unfold; (try dsimp only)) | (k_end; kc_close) | walk1 | (dsimp only; walk1) | (leave1; walk_say "STEP leave1"; (try dsimp only)) | fail "no step"))
  rename Fr _ _ _ _ => F1
  rename News _ _ _ _ => N1
  refine' m_while (σ := Nat × List UInt8) (fun _ => news)
    (fun c => [("num", fun t => .int c.1 t), ("val", fun t => .bytes c.2.toArray t)]) ["mod"]
    (fun c => c.1 * 16 ^ c.2.length ≤ n.natAbs ∧ apL c.1 c.2 = apL n.natAbs []) (fun c => c.1) (n.natAbs, []) F1 N1 ?kk ?kp ?kt ?ko
  case kk =>
    have e : (if n < 0 then -n else n) = (n.natAbs : Int) := by split <;> omega
    refine ⟨⟨_, by rw [← e]; with_unfolding_all rfl⟩, ⟨_, by with_unfolding_all rfl⟩, trivial⟩
  case kp => exact ⟨by simp, rfl⟩
  case kt =>
    clear F1 N1
    intro c u tkf h tk hp Fc Nc
    w_strict (repeat' ((fail_if_success first | (with_reducible show wpAny _ _ (exec (Stmt.While _ _ _ _) _) _ _ _) | (with_reducible show wpAny _ _ (subscriptTail _ _ _ _) _ _ _) | (with_reducible show wpAny _ _ (binaryOp _ (Value.bytes _ _) _) _ _ _) | (with_reducible show WEnd _ _ _ _ _ _ _ _ _ _ _)); first | (k_unfold; (try dsimp only)) | (k_end; kc_close) | walk1 | (dsimp only; walk1) | (leave1; walk_say "STEP leave1"; (try dsimp only)) | fail "no step"))
    · rename Fr _ _ _ _ => F2
      rename News _ _ _ _ => N2
      rename (c.1 : Int) ≠ 0 => hc0
      have hl := ap_lit ⟨c.1 % 16, Nat.mod_lt _ (by decide)⟩
      dsimp only at hl
      rw [fmod16] at F2 ⊢
      rw [fdiv16] at F2
      refine KBy.slice_N (s := ⟨_, _, _, _, _⟩) F2 N2 (by constructor) (by constructor) ?w1 ?w2 ?w3
      case w1 => exact hl.1
      case w2 => rw [hl.2]; exact Nat.le_of_ble_eq_true rfl
      case w3 =>
        clear F2 N2
        rw [hl.2]
        intro h5 t5 k5 F5 N5
        w_strict (repeat' ((fail_if_success first | (with_reducible show wpAny _ _ (exec (Stmt.While _ _ _ _) _) _ _ _) | (with_reducible show wpAny _ _ (subscriptTail _ _ _ _) _ _ _) | (with_reducible show wpAny _ _ (binaryOp _ (Value.bytes _ _) _) _ _ _) | (with_reducible show WEnd _ _ _ _ _ _ _ _ _ _ _)); first | (k_unfold; (try dsimp only)) | (k_end; kc_close) | walk1 | (dsimp only; walk1) | (leave1; walk_say "STEP leave1"; (try dsimp only)) | fail "no step"))
        dsimp only
        refine KBy.add_bytes ?z1 ?z2
        case z1 =>
          rename n.natAbs < 2 ^ 40 => hn
          have := ap_size (by omega : c.1 ≠ 0) hp.1 hn
          simp only [List.size_toArray, List.length_singleton]
          omega
        case z2 =>
          intro t6 k6
          rw [show #[UInt8.ofNat (65 + c.1 % 16)] ++ c.2.toArray = (UInt8.ofNat (65 + c.1 % 16) :: c.2).toArray from by simp]
          w_strict (repeat' ((fail_if_success first | (with_reducible show wpAny _ _ (exec (Stmt.While _ _ _ _) _) _ _ _) | (with_reducible show wpAny _ _ (subscriptTail _ _ _ _) _ _ _) | (with_reducible show wpAny _ _ (binaryOp _ (Value.bytes _ _) _) _ _ _) | (with_reducible show WEnd _ _ _ _ _ _ _ _ _ _ _)); first | (k_unfold; (try dsimp only)) | (k_end; kc_close) | walk1 | (dsimp only; walk1) | (leave1; walk_say "STEP leave1"; (try dsimp only)) | fail "no step"))
          rename Fr _ _ _ _ => F6
          rename News _ _ _ _ => N6
          refine WEnd.intro (c.1 / 16, UInt8.ofNat (65 + c.1 % 16) :: c.2) F6 N6 (by intro p hp; kst_mem) ⟨⟨_, by with_unfolding_all rfl⟩, ⟨_, by with_unfolding_all rfl⟩, trivial⟩ ?kr ⟨?p1, ?p2⟩ ?km
          case kr =>
            intro z h2 h3
            have a1 := h2 _ (.head _)
            have a2 := h2 _ (.tail _ (.head _))
            simp only [List.contains_cons, List.contains_nil, Bool.or_false, beq_eq_false_iff_ne, ne_eq] at h3
            dsimp only at a1 a2
            simp [env9, tokd, kstB, a1, a2, h3]
          case p1 => exact Nat.le_trans (ap_mul _ _) hp.1
          case p2 => rw [← hp.2]; exact (apL_step (by omega) _).symm
          case km =>
            show c.1 / 16 < c.1
            omega
    · rename (c.1 : Int) = 0 => hc0
      have e : apL n.natAbs [] = c.2 := by
        rw [← hp.2, show c.1 = 0 by omega]; exact apL_zero _
      rw [← e]
      exact hret _ _ _ (by assumption) (by assumption)
  case ko => passes_own
end
section
theorem c_el0 (w : World) (mean : ExcName → Option Value) (mg mb : Str → Option Value) (want got : Str) (t1 t2 : Tok) (news : List (Addr × Obj)) :
    Cl 1 w mean mg mb 21 news (want.length ≤ 20 ∧ got.length ≤ 20 ∧ (Builtin.Str.occurrences want (Str.ofString "...") 0 want.length 1).isEmpty = true) [.str want t1, .str got t2] (fun _ => .bool (want == got)) := by
  unfold Cl
  intros
  rename_i hret
  refine wpAny_call ?_
  k_dflt cell_enter
  rename _ ∧ _ => hp
  obtain ⟨a1, a2, a3⟩ := hp
  w_strict k_steps
  exact hret 0 _ _ (by assumption) (by assumption)
local macro_rules | `(tactic| kas_types) => `(tactic| ((rename _ ∧ _ => hx9); (have ha9 := hx9.1); (have hb9 := hx9.2); (clear hx9); first | exact ha9 | exact Ne.symm ha9 | exact hb9 | exact Ne.symm hb9 | exact Nat.ne_of_lt ha9 | exact Nat.ne_of_gt ha9 | exact Nat.ne_of_lt hb9 | exact Nat.ne_of_gt hb9 | ((clear ha9); kas_types)))
local macro_rules | `(tactic| k_ne) => `(tactic| ((refine neN ?_); (try dsimp only); first | assumption | exact Ne.symm (by assumption) | kas_types | omega))
local macro_rules | `(tactic| ksw_same) => `(tactic| (intro z h2 h3; (try simp only [List.forall_mem_cons, List.not_mem_nil, false_implies, implies_true, and_true, ne_eq] at h2); (simp only [List.contains_cons, List.contains_nil, Bool.or_false, Bool.or_eq_false_iff, beq_eq_false_iff_ne, ne_eq] at h3); simp [env9, tokd, kstB, h2, h3]))
def ellAB (a b got : PySem.Str) : Bool := (decide (a.length = 0) || Txt.startswith got a) && (decide (b.length = 0) || Txt.endswith got b) && decide (a.length + b.length ≤ got.length)
theorem c_el (w : World) (mean : ExcName → Option Value) (mg mb : Str → Option Value) (want got a b : Str) (t1 t2 : Tok) (news : List (Addr × Obj)) :
    Cl 1 w mean mg mb 21 news (want.length ≤ 20 ∧ got.length ≤ 20 ∧ a.length ≤ 20 ∧ b.length ≤ 20 ∧ (Builtin.Str.occurrences want (Str.ofString "...") 0 want.length 1).isEmpty = false ∧ Txt.split want (Str.ofString "...") = [a, b]) [.str want t1, .str got t2] (fun _ => .bool (ellAB a b got)) := by
  unfold Cl
  intros
  rename_i hret
  refine wpAny_call ?_
  k_dflt cell_enter
  rename _ ∧ _ => hp
  obtain ⟨a1, a2, a5, a6, a3, a4⟩ := hp
  w_strict (repeat' ((fail_if_success first | (with_reducible show wpAny _ _ (call (Value.builtin "str.split") _) _ _ _) | (with_reducible show wpAny _ _ (call (Value.builtin "str.find") _) _ _ _) | (with_reducible show wpAny _ _ (pyIter _) _ _ _) | (with_reducible show wpAny _ _ (exec (Stmt.For _ _ _ _ _) _) _ _ _)); first | (k_unfold; (try dsimp only)) | (k_end; kc_close) | walk1 | (dsimp only; walk1) | (leave1; walk_say "STEP leave1"; (try dsimp only)) | fail "no step"))
  rename Fr _ _ _ _ => F1
  rename News _ _ _ _ => N1
  refine KSpl.split1 F1 N1 (by decide) ?_ (by rw [sizeLine_eq]; omega)
  clear F1 N1
  intro D l h5 k5 hl _ F5 N5 lt5
  rw [a4] at hl
  obtain ⟨w1, _, e1, e2⟩ := KSpl.cons_of hl
  obtain ⟨w2, _, e3, e4⟩ := KSpl.cons_of e2
  have e5 := KSpl.nil_of e4
  subst e5 e3 e1
  have N6 : News _ _ h5 ((D, listOf [Value.str a w1, Value.str b w2].toArray 0) :: news) := N5
  clear N5
  w_strict (repeat' ((fail_if_success first | (with_reducible show wpAny _ _ (call (Value.builtin "str.split") _) _ _ _) | (with_reducible show wpAny _ _ (call (Value.builtin "str.find") _) _ _ _) | (with_reducible show wpAny _ _ (pyIter _) _ _ _) | (with_reducible show wpAny _ _ (exec (Stmt.For _ _ _ _ _) _) _ _ _)); first | (k_unfold; (try dsimp only)) | (k_end; kc_close) | walk1 | (dsimp only; walk1) | (leave1; walk_say "STEP leave1"; (try dsimp only)) | fail "no step"))
  all_goals first
    | ((refine cb_retB hret ?ee (by assumption) ?nn); (case nn => first | assumption | (refine' cb_drop ?cbN ?cbS; (case cbN => assumption); (case cbS => kcj_all))); (case ee => (
      simp only [ellAB]
      first | rw [show Txt.startswith got a = true from by assumption] | rw [show Txt.startswith got a = false from by assumption] | skip
      first | rw [show Txt.endswith got b = true from by assumption] | rw [show Txt.endswith got b = false from by assumption] | skip
      first | rw [show decide (a.length = 0) = true from decide_eq_true (by omega)] | rw [show decide (a.length = 0) = false from decide_eq_false (by omega)] | skip
      first | rw [show decide (b.length = 0) = true from decide_eq_true (by omega)] | rw [show decide (b.length = 0) = false from decide_eq_false (by omega)] | skip
      first | rw [show decide (a.length + b.length ≤ got.length) = true from decide_eq_true (by omega)] | rw [show decide (a.length + b.length ≤ got.length) = false from decide_eq_false (by omega)] | skip
      simp)))
    | skip
  all_goals (
    rename Fr _ _ _ _ => F1
    refine For_invVF F1 (by exact rfl) (by exact rfl) ?_
    w_strict (repeat' ((fail_if_success first | (with_reducible show wpAny _ _ (call (Value.builtin "str.split") _) _ _ _) | (with_reducible show wpAny _ _ (call (Value.builtin "str.find") _) _ _ _) | (with_reducible show wpAny _ _ (pyIter _) _ _ _) | (with_reducible show wpAny _ _ (exec (Stmt.For _ _ _ _ _) _) _ _ _)); first | (k_unfold; (try dsimp only)) | (k_end; kc_close) | walk1 | (dsimp only; walk1) | (leave1; walk_say "STEP leave1"; (try dsimp only)) | fail "no step"))
    rename News _ _ _ _ => N1
    first
    | refine m_list (σ := Unit) (fun _ => _) (fun _ => [("startpos", fun t => .int (a.length : Int) t)]) [] (fun _ _ => True) () rfl (fun _ => by k_mem) F1 N1 ⟨⟨_, by with_unfolding_all rfl⟩, trivial⟩ trivial ?turn ?done
    | refine m_list (σ := Unit) (fun _ => _) (fun _ => [("startpos", fun t => .int 0 t)]) [] (fun _ _ => True) () rfl (fun _ => by k_mem) F1 N1 ⟨⟨_, by with_unfolding_all rfl⟩, trivial⟩ trivial ?turn ?done
    case turn =>
      clear F1 N1
      intro c i v u tkf h tk I oI hi hv off hp F3 N3
      have hm := List.mem_of_getElem? hv
      try simp only [List.mem_cons, List.not_mem_nil, or_false] at hm
      all_goals (
        first
        | (subst hm)
        | (rcases hm with hm | hm <;> subst hm)
        all_goals (
          w_strict (repeat' ((fail_if_success first | (with_reducible show wpAny _ _ (call (Value.builtin "str.split") _) _ _ _) | (with_reducible show wpAny _ _ (call (Value.builtin "str.find") _) _ _ _) | (with_reducible show wpAny _ _ (pyIter _) _ _ _) | (with_reducible show wpAny _ _ (exec (Stmt.For _ _ _ _ _) _) _ _ _)); first | (k_unfold; (try dsimp only)) | (k_end; kc_close) | walk1 | (dsimp only; walk1) | (leave1; walk_say "STEP leave1"; (try dsimp only)) | fail "no step"))
          refine call_find4 ?_
          rw [find4_emptyI (by omega) (by omega) (by omega) (by omega)]
          w_strict (repeat' ((fail_if_success first | (with_reducible show wpAny _ _ (call (Value.builtin "str.split") _) _ _ _) | (with_reducible show wpAny _ _ (call (Value.builtin "str.find") _) _ _ _) | (with_reducible show wpAny _ _ (pyIter _) _ _ _) | (with_reducible show wpAny _ _ (exec (Stmt.For _ _ _ _ _) _) _ _ _)); first | (k_unfold; (try dsimp only)) | (k_end; kc_close) | walk1 | (dsimp only; walk1) | (leave1; walk_say "STEP leave1"; (try dsimp only)) | fail "no step"))
          dsimp only [FPost]
          refine FEnd.intro () (by assumption) (by assumption) (by kcj_all) off ⟨held_int (by with_unfolding_all rfl) (by omega), trivial⟩ (by ksw_same) trivial))
    case done =>
      clear F1 N1
      intro c u tkf h tk _ F9 N9
      w_strict (repeat' ((fail_if_success first | (with_reducible show wpAny _ _ (call (Value.builtin "str.split") _) _ _ _) | (with_reducible show wpAny _ _ (call (Value.builtin "str.find") _) _ _ _) | (with_reducible show wpAny _ _ (pyIter _) _ _ _) | (with_reducible show wpAny _ _ (exec (Stmt.For _ _ _ _ _) _) _ _ _)); first | (k_unfold; (try dsimp only)) | (k_end; kc_close) | walk1 | (dsimp only; walk1) | (leave1; walk_say "STEP leave1"; (try dsimp only)) | fail "no step"))
      refine cb_retB hret ?ee (by assumption) ?nn
      case nn => first | assumption | (refine' cb_drop ?cbN ?cbS; (case cbN => assumption); (case cbS => kcj_all))
      (case ee => (
      simp only [ellAB]
      first | rw [show Txt.startswith got a = true from by assumption] | rw [show Txt.startswith got a = false from by assumption] | skip
      first | rw [show Txt.endswith got b = true from by assumption] | rw [show Txt.endswith got b = false from by assumption] | skip
      first | rw [show decide (a.length = 0) = true from decide_eq_true (by omega)] | rw [show decide (a.length = 0) = false from decide_eq_false (by omega)] | skip
      first | rw [show decide (b.length = 0) = true from decide_eq_true (by omega)] | rw [show decide (b.length = 0) = false from decide_eq_false (by omega)] | skip
      first | rw [show decide (a.length + b.length ≤ got.length) = true from decide_eq_true (by omega)] | rw [show decide (a.length + b.length ≤ got.length) = false from decide_eq_false (by omega)] | skip
      simp)))
end
section
theorem p16_pos (k : Nat) : (0 : Int) < 16 ^ k := Int.pow_pos (by decide)
theorem p16_ne (k : Nat) : (16 : Int) ^ k ≠ 0 := Int.ne_of_gt (p16_pos k)
theorem p16_py {x n : Int} (h : n < 2000) : Builtin.divisionGoesByPylong x (16 ^ n.toNat) = false := by
  refine PyProof.noPylong_of_log2 ?_
  have e : ((16 : Int) ^ n.toNat).natAbs = 2 ^ (4 * n.toNat) := by
    rw [Int.natAbs_pow, Nat.pow_mul]; rfl
  rw [e]
  refine (Nat.log2_lt (Nat.ne_of_gt (Nat.two_pow_pos _))).mpr ?_
  exact Nat.pow_lt_pow_right (by decide) (by omega)
local macro_rules | `(tactic| kas_types) => `(tactic| ((rename _ ∧ _ => hx9); (have ha9 := hx9.1); (have hb9 := hx9.2); (clear hx9); first | exact ha9 | exact Ne.symm ha9 | exact hb9 | exact Ne.symm hb9 | exact Nat.ne_of_lt ha9 | exact Nat.ne_of_gt ha9 | exact Nat.ne_of_lt hb9 | exact Nat.ne_of_gt hb9 | ((clear ha9); kas_types)))
local macro_rules | `(tactic| k_ne) => `(tactic| ((refine neN ?_); (try dsimp only); first | assumption | exact Ne.symm (by assumption) | kas_types | omega))
local macro_rules | `(tactic| walk_at "binaryOp FloorDiv int int") => `(tactic| ((with_reducible show wpAny _ _ (binaryOp _ (Value.int _ _) (Value.int (16 ^ (Int.toNat _)) _)) _ _ _); (refine floordiv_int (p16_ne _) ?_ (Or.inl (p16_py ?kbp))); (case kbp => omega)))
local macro_rules | `(tactic| walk_at "binaryOp Mod int int") => `(tactic| ((with_reducible show wpAny _ _ (binaryOp _ (Value.int _ _) (Value.int (16 ^ (Int.toNat _)) _)) _ _ _); (refine mod_int' (p16_ne _) ?_)))
def alikeD (n c cut size : Int) : Bool :=
  (n.fdiv (16 ^ (c - if c - size < cut then c - size else cut).toNat)).fmod
      (16 ^ ((if c - size < cut then c - size else cut) - if cut - size > 0 then cut - size else 0).toNat) ==
    (n.fdiv (16 ^ ((c - if c - size < cut then c - size else cut) - size).toNat)).fmod
      (16 ^ ((if c - size < cut then c - size else cut) - if cut - size > 0 then cut - size else 0).toNat)
theorem c_div (w : World) (mean : ExcName → Option Value) (mg mb : Str → Option Value) (n c cut size : Int) (t1 t2 t3 t4 : Tok) (news : List (Addr × Obj)) :
    Cl 1 w mean mg mb 64 news (0 ≤ n ∧ n < 2 ^ 40 ∧ 4 ≤ c ∧ c ≤ 7 ∧ 0 ≤ cut ∧ cut < c ∧ 1 ≤ size ∧ size ≤ c) [.int n t1, .int c t2, .int cut t3, .int size t4] (fun _ => .bool (alikeD n c cut size)) := by
  unfold Cl
  intros
  rename_i hret
  refine wpAny_call ?_
  k_dflt cell_enter
  rename 0 ≤ n ∧ _ => hp
  obtain ⟨a1, a2, a3, a4, a5, a6, a7, a8⟩ := hp
  w_strict k_steps
  exact hret 0 _ _ (by assumption) (by first | assumption | (refine' cb_drop ?cbN ?cbS; (case cbN => assumption); (case cbS => kcj_all)))
end
section
abbrev leftP (text : PySem.Str) (cut size : Int) : PySem.Str := Txt.slice (Txt.slice text none (some cut)) (some (-size)) none
abbrev rightP (text : PySem.Str) (cut size : Int) : PySem.Str := Txt.slice (Txt.slice text (some cut) none) none (some size)
def alikeP (text : PySem.Str) (cut size : Int) : Bool :=
  if ((leftP text cut size).length : Int) < size ∧ ((rightP text cut size).length : Int) < size then ellAB (Txt.slice text (some size) none) PySem.Str.empty text
  else if ((leftP text cut size).length : Int) < size then ellAB PySem.Str.empty (leftP text cut size) (rightP text cut size)
  else if ((rightP text cut size).length : Int) < size then ellAB (rightP text cut size) PySem.Str.empty (leftP text cut size)
  else leftP text cut size == rightP text cut size
theorem len_empty : PySem.Str.empty.length = 0 := rfl
theorem el_pre {want got a b : PySem.Str} (e : want = a ++ dots ++ b) (ha : DF a) (hb : DF b) (h1 : a.length ≤ 8) (h2 : b.length ≤ 8) (hg : got.length ≤ 8) :
    want.length ≤ 20 ∧ got.length ≤ 20 ∧ a.length ≤ 20 ∧ b.length ≤ 20 ∧ (Builtin.Str.occurrences want (Str.ofString "...") 0 want.length 1).isEmpty = false ∧ Txt.split want (Str.ofString "...") = [a, b] := by
  subst e
  refine ⟨by rw [PySem.Str.length_append, PySem.Str.length_append, dots_len]; omega, by omega, by omega, by omega, ?_, split_two ha hb⟩
  show (Builtin.Str.occurrences (a ++ dots ++ b) dots 0 (a ++ dots ++ b).length 1).isEmpty = false
  rw [occ_two ha hb 1 (by decide)]; rfl
theorem el0_pre {want got : PySem.Str} (ha : DF want) (h1 : want.length ≤ 8) (hg : got.length ≤ 8) :
    want.length ≤ 20 ∧ got.length ≤ 20 ∧ (Builtin.Str.occurrences want (Str.ofString "...") 0 want.length 1).isEmpty = true := by
  refine ⟨by omega, by omega, ?_⟩
  show (Builtin.Str.occurrences want dots 0 want.length 1).isEmpty = true
  rw [occ_df ha]; rfl
theorem app_dots (a : PySem.Str) : a ++ PySem.Str.ofString "..." = a ++ dots ++ PySem.Str.empty := (PySem.Str.append_empty _).symm
theorem dots_app (a : PySem.Str) : PySem.Str.ofString "..." ++ a = PySem.Str.empty ++ dots ++ a := by rw [PySem.Str.empty_append]; rfl
theorem c_pat (w : World) (mean : ExcName → Option Value) (mg mb : Str → Option Value) (text : Str) (cut size : Int) (t1 t2 t3 : Tok) (news : List (Addr × Obj)) :
    Cl 2 w mean mg mb 57 news (4 ≤ text.length ∧ text.length ≤ 7 ∧ DF text ∧ 0 ≤ cut ∧ cut < text.length ∧ 1 ≤ size ∧ size ≤ text.length) [.str text t1, .int cut t2, .int size t3] (fun _ => .bool (alikeP text cut size)) := by
  unfold Cl
  intros
  rename_i hret
  refine wpAny_call ?_
  k_dflt cell_enter
  rename _ ∧ _ => hp
  obtain ⟨a1, a2, a3, a4, a5, a6, a7⟩ := hp
  have l1 : (leftP text cut size).length ≤ text.length := Nat.le_trans (Txt.slice_le _ _ _) (Txt.slice_le _ _ _)
  have l2 : (rightP text cut size).length ≤ text.length := Nat.le_trans (Txt.slice_le _ _ _) (Txt.slice_le _ _ _)
  have l3 : (Txt.slice text (some size) none).length ≤ text.length := Txt.slice_le _ _ _
  have d1 : DF (leftP text cut size) := (a3.slice _ _).slice _ _
  have d2 : DF (rightP text cut size) := (a3.slice _ _).slice _ _
  have d3 : DF (Txt.slice text (some size) none) := a3.slice _ _
  have e0 := len_empty
  have d0 := DF.empty
  w_strict (repeat' ((fail_if_success first | (with_reducible show wpAny _ _ (call (Value.ref _) _) _ _ _)); first | (k_unfold; (try dsimp only)) | (k_end; kc_close) | walk1 | (dsimp only; walk1) | (leave1; walk_say "STEP leave1"; (try dsimp only)) | fail "no step"))
  · refine' cl_use (c_el w mean mg mb _ _ (Txt.slice text (some size) none) PySem.Str.empty _ _ _) ?k1x1 ?k2x1 ?k3x1 ?k4x1 ?k5x1 ?kKx1 ?kpx1 ?kdx1 ?kux1 ?kRx1
    case k1x1 => k_asm
    case k2x1 => k_asm
    case k3x1 => k_asm
    case k4x1 => k_asm
    case k5x1 => k_asm
    case kKx1 => exact rfl
    case kpx1 => exact el_pre (app_dots _) d3 d0 (by omega) (by omega) (by omega)
    case kdx1 => ktr_room
    case kux1 => ktr_units
    intro t9 h9 tk9 F9 N9
    w_strict (repeat' ((fail_if_success first | (with_reducible show wpAny _ _ (call (Value.ref _) _) _ _ _)); first | (k_unfold; (try dsimp only)) | (k_end; kc_close) | walk1 | (dsimp only; walk1) | (leave1; walk_say "STEP leave1"; (try dsimp only)) | fail "no step"))
    refine cb_retB hret (by simp only [alikeP, leftP, rightP]; (repeat' split) <;> first | rfl | (exfalso; omega)) (by assumption) (by first | assumption | (refine' cb_drop ?cbN ?cbS; (case cbN => assumption); (case cbS => kcj_all)))
  · refine' cl_use (c_el w mean mg mb _ _ PySem.Str.empty (leftP text cut size) _ _ _) ?k1x2 ?k2x2 ?k3x2 ?k4x2 ?k5x2 ?kKx2 ?kpx2 ?kdx2 ?kux2 ?kRx2
    case k1x2 => k_asm
    case k2x2 => k_asm
    case k3x2 => k_asm
    case k4x2 => k_asm
    case k5x2 => k_asm
    case kKx2 => exact rfl
    case kpx2 => exact el_pre (dots_app _) d0 d1 (by omega) (by omega) (by show (rightP text cut size).length ≤ 8; omega)
    case kdx2 => ktr_room
    case kux2 => ktr_units
    intro t9 h9 tk9 F9 N9
    w_strict (repeat' ((fail_if_success first | (with_reducible show wpAny _ _ (call (Value.ref _) _) _ _ _)); first | (k_unfold; (try dsimp only)) | (k_end; kc_close) | walk1 | (dsimp only; walk1) | (leave1; walk_say "STEP leave1"; (try dsimp only)) | fail "no step"))
    refine cb_retB hret (by simp only [alikeP, leftP, rightP]; (repeat' split) <;> first | rfl | (exfalso; omega)) (by assumption) (by first | assumption | (refine' cb_drop ?cbN ?cbS; (case cbN => assumption); (case cbS => kcj_all)))
  · refine' cl_use (c_el w mean mg mb _ _ (rightP text cut size) PySem.Str.empty _ _ _) ?k1x3 ?k2x3 ?k3x3 ?k4x3 ?k5x3 ?kKx3 ?kpx3 ?kdx3 ?kux3 ?kRx3
    case k1x3 => k_asm
    case k2x3 => k_asm
    case k3x3 => k_asm
    case k4x3 => k_asm
    case k5x3 => k_asm
    case kKx3 => exact rfl
    case kpx3 => exact el_pre (app_dots _) d2 d0 (by omega) (by omega) (by show (leftP text cut size).length ≤ 8; omega)
    case kdx3 => ktr_room
    case kux3 => ktr_units
    intro t9 h9 tk9 F9 N9
    w_strict (repeat' ((fail_if_success first | (with_reducible show wpAny _ _ (call (Value.ref _) _) _ _ _)); first | (k_unfold; (try dsimp only)) | (k_end; kc_close) | walk1 | (dsimp only; walk1) | (leave1; walk_say "STEP leave1"; (try dsimp only)) | fail "no step"))
    refine cb_retB hret (by simp only [alikeP, leftP, rightP]; (repeat' split) <;> first | rfl | (exfalso; omega)) (by assumption) (by first | assumption | (refine' cb_drop ?cbN ?cbS; (case cbN => assumption); (case cbS => kcj_all)))
  · refine' cl_use (c_el0 w mean mg mb (leftP text cut size) (rightP text cut size) _ _ _) ?k1x4 ?k2x4 ?k3x4 ?k4x4 ?k5x4 ?kKx4 ?kpx4 ?kdx4 ?kux4 ?kRx4
    case k1x4 => k_asm
    case k2x4 => k_asm
    case k3x4 => k_asm
    case k4x4 => k_asm
    case k5x4 => k_asm
    case kKx4 => exact rfl
    case kpx4 => exact el0_pre d1 (by omega) (by omega)
    case kdx4 => ktr_room
    case kux4 => ktr_units
    intro t9 h9 tk9 F9 N9
    w_strict (repeat' ((fail_if_success first | (with_reducible show wpAny _ _ (call (Value.ref _) _) _ _ _)); first | (k_unfold; (try dsimp only)) | (k_end; kc_close) | walk1 | (dsimp only; walk1) | (leave1; walk_say "STEP leave1"; (try dsimp only)) | fail "no step"))
    refine cb_retB hret (by simp only [alikeP, leftP, rightP]; (repeat' split) <;> first | rfl | (exfalso; omega)) (by assumption) (by first | assumption | (refine' cb_drop ?cbN ?cbS; (case cbN => assumption); (case cbS => kcj_all)))
end
section
def vfold (xs : List Int) : Int := xs.foldl (fun v c => v * 64 + c % 64) 0
/-- the octets that a number takes: letters that go on, one that ends -/
structure Oct (vs : List Value) (i : Nat) (cs : List Int) (d : Int) : Prop where
  here : ∀ j, j < cs.length + 1 → ∃ t, vs[i + j]? = some (.int ((cs ++ [d]).getD j 0) t)
  goes : ∀ c ∈ cs, 64 ≤ c ∧ c < 128
  ends : 0 ≤ d ∧ d < 64
  short : cs.length ≤ 8
theorem Oct.nth {vs : List Value} {i : Nat} {cs : List Int} {d : Int} (h : Oct vs i cs d) {j : Nat} (hj : j < cs.length) : 64 ≤ (cs ++ [d]).getD j 0 ∧ (cs ++ [d]).getD j 0 < 128 := by
  rw [List.getD_eq_getElem?_getD, List.getElem?_append_left hj, List.getElem?_eq_getElem hj, Option.getD_some]
  exact h.goes _ (List.getElem_mem hj)
theorem Oct.last {vs : List Value} {i : Nat} {cs : List Int} {d : Int} (h : Oct vs i cs d) : (cs ++ [d]).getD cs.length 0 = d := by
  rw [List.getD_eq_getElem?_getD, List.getElem?_append_right (Nat.le_refl _), Nat.sub_self]; rfl
theorem Oct.byte {vs : List Value} {i : Nat} {cs : List Int} {d : Int} (h : Oct vs i cs d) {j : Nat} (hj : j < cs.length + 1) : 0 ≤ (cs ++ [d]).getD j 0 ∧ (cs ++ [d]).getD j 0 < 128 := by
  rcases Nat.lt_or_ge j cs.length with h1 | h1
  · have := h.nth h1; omega
  · have e : j = cs.length := by omega
    subst e
    rw [h.last]
    have := h.ends; omega
theorem vfold_one {vs : List Value} {i : Nat} {cs : List Int} {d : Int} (h : Oct vs i cs d) : Builtin.bitAnd ((cs ++ [d]).getD 0 0) 63 = vfold ((cs ++ [d]).take 1) := by
  rw [bitAnd_m6]
  cases cs with
  | nil => simp [vfold]
  | cons c r => simp [vfold]
theorem vfold_nonneg (xs : List Int) : 0 ≤ vfold xs := by
  unfold vfold
  have : ∀ (xs : List Int) (a : Int), 0 ≤ a → 0 ≤ xs.foldl (fun v c => v * 64 + c % 64) a := by
    intro xs
    induction xs with
    | nil => intro a h; exact h
    | cons c r ih => intro a h; exact ih _ (by have := Int.emod_nonneg c (show (64 : Int) ≠ 0 by decide); show 0 ≤ a * 64 + c % 64; omega)
  exact this xs 0 (by decide)
theorem vfold_snoc (xs : List Int) (c : Int) : vfold (xs ++ [c]) = vfold xs * 64 + c % 64 := by unfold vfold; rw [List.foldl_append]; rfl
theorem vfold_small {vs : List Value} {i : Nat} {cs : List Int} {d : Int} (h : Oct vs i cs d) {j : Nat} (hj : j ≤ 9) : vfold ((cs ++ [d]).take j) < 2 ^ 54 := by
  have go : ∀ (xs : List Int) (a : Int), 0 ≤ a → xs.foldl (fun v c => v * 64 + c % 64) a < (a + 1) * 64 ^ xs.length := by
    intro xs
    induction xs with
    | nil => intro a h; simp; omega
    | cons c r ih =>
      intro a h
      have h1 := Int.emod_nonneg c (show (64 : Int) ≠ 0 by decide)
      have h2 := Int.emod_lt_of_pos c (show (0 : Int) < 64 by decide)
      refine Int.lt_of_lt_of_le (ih (a * 64 + c % 64) (by omega)) ?_
      have h3 : (a * 64 + c % 64 + 1) * 64 ^ r.length ≤ ((a + 1) * 64) * 64 ^ r.length := Int.mul_le_mul_of_nonneg_right (by omega) (Int.pow_nonneg (by decide))
      rw [List.length_cons, Int.pow_succ, Int.mul_comm (64 ^ r.length) 64, ← Int.mul_assoc]
      exact h3
  have this : ∀ (xs : List Int), vfold xs < 64 ^ xs.length := fun xs => by
    have := go xs 0 (by decide)
    rw [Int.zero_add, Int.one_mul] at this
    exact this
  refine Int.lt_of_lt_of_le (this _) ?_
  have hl : ((cs ++ [d]).take j).length ≤ 9 := by rw [List.length_take]; omega
  have := Nat.pow_le_pow_right (show 0 < 64 by decide) hl
  have h2 : ((64 ^ ((cs ++ [d]).take j).length : Nat) : Int) ≤ ((64 ^ 9 : Nat) : Int) := Int.ofNat_le.mpr this
  simpa using h2
theorem vfold_next {vs : List Value} {i : Nat} {cs : List Int} {d : Int} (h : Oct vs i cs d) {j : Nat} (hj : j < cs.length + 1) : Builtin.bitOr (vfold ((cs ++ [d]).take j) * 64) (Builtin.bitAnd ((cs ++ [d]).getD j 0) 63) = vfold ((cs ++ [d]).take (j + 1)) := by
  rw [bitAnd_m6, bitOr_64 (vfold_nonneg _) (Int.emod_nonneg _ (by decide)) (Int.emod_lt_of_pos _ (by decide))]
  have hl : j < (cs ++ [d]).length := by simp; omega
  rw [List.take_add_one, List.getD_eq_getElem?_getD, List.getElem?_eq_getElem hl]
  exact (vfold_snoc _ _).symm
local macro_rules | `(tactic| kas_types) => `(tactic| ((rename _ ∧ _ => hx9); (have ha9 := hx9.1); (have hb9 := hx9.2); (clear hx9); first | exact ha9 | exact Ne.symm ha9 | exact hb9 | exact Ne.symm hb9 | exact Nat.ne_of_lt ha9 | exact Nat.ne_of_gt ha9 | exact Nat.ne_of_lt hb9 | exact Nat.ne_of_gt hb9 | ((clear ha9); kas_types)))
local macro_rules | `(tactic| k_ne) => `(tactic| ((refine neN ?_); (try dsimp only); first | assumption | exact Ne.symm (by assumption) | kas_types | omega))
local macro_rules | `(tactic| ksw_same) => `(tactic| (intro z h2 h3; (try simp only [List.forall_mem_cons, List.not_mem_nil, false_implies, implies_true, and_true, ne_eq] at h2); (try simp only [List.contains_cons, List.contains_nil, Bool.or_false, Bool.or_eq_false_iff, beq_eq_false_iff_ne, ne_eq] at h3); simp [env9, tokd, kstB, h2, h3]))
theorem c_vi (w : World) (mean : ExcName → Option Value) (mg mb : Str → Option Value) (it l : Addr) (i k : Nat) (vs : List Value) (cs : List Int) (d : Int) (news : List (Addr × Obj)) :
    ClO 1 w mean mg mb 28 ((it, itO l i) :: news) (Off it news ∧ (l, listOf vs.toArray k) ∈ news ∧ Oct vs i cs d) [.ref it]
      (fun r n' => ∃ t, r = .int (vfold (cs ++ [d])) t ∧ n' = (it, itO l (i + cs.length + 1)) :: news) := by
  unfold ClO
  intros
  rename_i hret
  refine wpAny_call ?_
  k_dflt cell_enter
  rename _ ∧ _ => hp
  obtain ⟨off, hl, ho⟩ := hp
  w_strict (repeat' ((fail_if_success first | (with_reducible show wpAny _ _ (call (Value.ref _) _) _ _ _) | (with_reducible show wpAny _ _ (call (Value.builtin "next") _) _ _ _) | (with_reducible show wpAny _ _ (exec (Stmt.While _ _ _ _) _) _ _ _)); first | (k_unfold; (try dsimp only)) | (k_end; kc_close) | walk1 | (dsimp only; walk1) | (leave1; walk_say "STEP leave1"; (try dsimp only)) | fail "no step"))
  rename Fr _ _ _ _ => F1
  rename News _ _ _ _ => N1
  obtain ⟨t0, h0⟩ := ho.here 0 (by omega)
  refine m_next_list F1 N1 off hl h0 ?_
  clear F1 N1
  intro h1 F1 N1
  w_strict (repeat' ((fail_if_success first | (with_reducible show wpAny _ _ (call (Value.ref _) _) _ _ _) | (with_reducible show wpAny _ _ (call (Value.builtin "next") _) _ _ _) | (with_reducible show wpAny _ _ (exec (Stmt.While _ _ _ _) _) _ _ _)); first | (k_unfold; (try dsimp only)) | (k_end; kc_close) | walk1 | (dsimp only; walk1) | (leave1; walk_say "STEP leave1"; (try dsimp only)) | fail "no step"))
  rename Fr _ _ _ _ => F2
  rename News _ _ _ _ => N2
  refine m_while (σ := Nat) (fun j => (it, itO l (i + j)) :: news) (fun j => [("b", fun t => .int ((cs ++ [d]).getD (j - 1) 0) t), ("val", fun t => .int (vfold ((cs ++ [d]).take j)) t)]) [] (fun j => 1 ≤ j ∧ j ≤ cs.length + 1) (fun j => cs.length + 1 - j) 1 F2 N2 ?kk ⟨by omega, by omega⟩ ?kt ?ko
  case kk =>
    exact ⟨⟨_, by with_unfolding_all rfl⟩, ⟨_, by with_unfolding_all exact congrArg (fun z => some (Value.int z _)) (vfold_one ho)⟩, trivial⟩
  case ko => passes_own
  case kt =>
    clear F2 N2
    intro j u tkf h tk hp Fc Nc
    have hs := ho.short
    have hb0 := vfold_nonneg ((cs ++ [d]).take j)
    have hb1 := vfold_small (j := j) ho (by omega)
    have hby := ho.byte (j := j - 1) (by omega)
    have hbit := bitAnd_64 hby.1 hby.2
    w_strict (repeat' ((fail_if_success first | (with_reducible show wpAny _ _ (call (Value.ref _) _) _ _ _) | (with_reducible show wpAny _ _ (call (Value.builtin "next") _) _ _ _) | (with_reducible show wpAny _ _ (exec (Stmt.While _ _ _ _) _) _ _ _)); first | (k_unfold; (try dsimp only)) | (k_end; kc_close) | walk1 | (dsimp only; walk1) | (leave1; walk_say "STEP leave1"; (try dsimp only)) | fail "no step"))
    · have hj : j ≤ cs.length := by
        rcases Nat.lt_or_ge cs.length j with h1 | h1
        · exfalso
          have e : j - 1 = cs.length := by omega
          rw [e, ho.last] at hbit
          have := ho.ends
          rw [if_neg (by omega)] at hbit
          rename Builtin.bitAnd ((cs ++ [d]).getD (j - 1) 0) 64 ≠ 0 => hne
          rw [e, ho.last] at hne
          exact hne hbit
        · exact h1
      rename Fr _ _ _ _ => F3
      rename News _ _ _ _ => N3
      obtain ⟨t3, h3⟩ := ho.here j (by omega)
      refine m_next_list F3 N3 off hl h3 ?_
      clear F3 N3
      intro h3 F3 N3
      w_strict (repeat' ((fail_if_success first | (with_reducible show wpAny _ _ (call (Value.ref _) _) _ _ _) | (with_reducible show wpAny _ _ (call (Value.builtin "next") _) _ _ _) | (with_reducible show wpAny _ _ (exec (Stmt.While _ _ _ _) _) _ _ _)); first | (k_unfold; (try dsimp only)) | (k_end; kc_close) | walk1 | (dsimp only; walk1) | (leave1; walk_say "STEP leave1"; (try dsimp only)) | fail "no step"))
      rename Fr _ _ _ _ => F5
      rename News _ _ _ _ => N5
      refine WEnd.intro (j + 1) F5 N5 (fun _ hp => hp) ⟨⟨_, by with_unfolding_all rfl⟩, ⟨_, by with_unfolding_all exact congrArg (fun z => some (Value.int z _)) (vfold_next (j := j) ho (by omega))⟩, trivial⟩ (by ksw_same) ⟨by omega, by omega⟩ (by omega)
    · have hj : j = cs.length + 1 := by
        rcases Nat.lt_or_ge cs.length j with h1 | h1
        · omega
        · exfalso
          have := ho.nth (j := j - 1) (by omega)
          rw [if_pos (by omega)] at hbit
          rename Builtin.bitAnd ((cs ++ [d]).getD (j - 1) 0) 64 = 0 => hne
          omega
      subst hj
      rw [show (cs ++ [d]).take (cs.length + 1) = cs ++ [d] from List.take_of_length_le (by simp)]
      exact hret _ _ _ _ (by assumption) (by assumption) ⟨_, rfl, rfl⟩
end
section
/-- the octets of a tail: its letters, as many 64 as letters lie ahead of it, 63 -/
def block (ws : List Int) (i : Nat) : List Int := ws.drop i ++ List.replicate i 64 ++ [63]
def blocks (ws : List Int) : Nat → List Int
  | 0 => []
  | i + 1 => blocks ws i ++ block ws i
/-- the letters of a tail, as its octets that go on -/
def csOf (ws : List Int) (i : Nat) : List Int := ws.drop i ++ List.replicate (if i < ws.length then i else 0) 64
def readAt (ws : List Int) (i : Nat) : Int := vfold (csOf ws i ++ [63])
def posOf (ws : List Int) : Nat → Nat
  | 0 => 0
  | i + 1 => posOf ws i + (csOf ws i).length + 1
def tailsRead (ws : List Int) : List Int := (List.range (ws.length + 1)).map (readAt ws)
theorem news_up3 {h₀ h : Heap} {L : Addr} {a b c d : Addr × Obj} {r : List (Addr × Obj)} (N : News h₀ L h (a :: b :: c :: d :: r)) : News h₀ L h (d :: a :: b :: c :: r) := fun p hp => N p (by
  simp only [List.mem_cons] at hp ⊢
  rcases hp with h | h | h | h | h
  · exact .inr (.inr (.inr (.inl h)))
  · exact .inl h
  · exact .inr (.inl h)
  · exact .inr (.inr (.inl h))
  · exact .inr (.inr (.inr (.inr h))))
theorem tail_ints {b : Array UInt8} {ws : List Int} {i : Nat} (h : KBw.bInts b = ws) : KBw.bInts (KBy.picked b (some (0 + (i : Int))) none) = ws.drop i := by
  rw [KBc.ints_picked h, Int.zero_add]
  simp only [Option.elim, clipAt_nat]
  rcases Nat.le_total i ws.length with h1 | h1
  · rw [Nat.min_eq_left h1, List.take_of_length_le (by rw [List.length_drop]; omega)]
  · rw [Nat.min_eq_right h1, List.drop_eq_nil_of_le h1, List.drop_eq_nil_of_le (Nat.le_refl _)]; simp
theorem flat_rep (i : Nat) (x : Int) : (List.replicate i [x]).flatten = List.replicate i x := by
  induction i with
  | zero => rfl
  | succ i ih => rw [List.replicate_succ, List.flatten_cons, ih]; rfl
theorem block_len (ws : List Int) (i : Nat) (h : i ≤ ws.length) : (block ws i).length = ws.length + 1 := by
  simp only [block, List.length_append, List.length_drop, List.length_replicate, List.length_cons, List.length_nil]; omega
theorem blocks_len (ws : List Int) (i : Nat) (h : i ≤ ws.length) : (blocks ws i).length = i * (ws.length + 1) := by
  induction i with
  | zero => simp [blocks]
  | succ i ih => rw [blocks, List.length_append, ih (by omega), block_len ws i (by omega), Nat.succ_mul]
theorem cs_len (ws : List Int) {i : Nat} (h : i < ws.length) : (csOf ws i).length = ws.length := by
  unfold csOf
  rw [if_pos h, List.length_append, List.length_drop, List.length_replicate]; omega
theorem pos_eq (ws : List Int) {i : Nat} (h : i ≤ ws.length) : posOf ws i = (ws.length + 1) * i := by
  induction i with
  | zero => rfl
  | succ i ih => rw [posOf, ih (by omega), cs_len ws (by omega), Nat.mul_succ]; omega
theorem block_cs (ws : List Int) {i : Nat} (h : i < ws.length) : block ws i = csOf ws i ++ [63] := by
  unfold block csOf; rw [if_pos h]
theorem blocks_get (ws : List Int) {i j : Nat} (hj : j < ws.length + 1) : ∀ m, i < m → m ≤ ws.length → (blocks ws m)[(ws.length + 1) * i + j]? = (block ws i)[j]?
  | 0, h, _ => absurd h (Nat.not_lt_zero _)
  | m + 1, h, hm => by
    have hl := blocks_len ws m (by omega)
    rw [Nat.mul_comm] at hl
    rw [blocks]
    rcases Nat.lt_or_ge i m with h1 | h1
    · have : (ws.length + 1) * (i + 1) ≤ (ws.length + 1) * m := Nat.mul_le_mul_left _ h1
      rw [Nat.mul_succ] at this
      rw [List.getElem?_append_left (by omega)]
      exact blocks_get ws hj m h1 (by omega)
    · obtain rfl : i = m := by omega
      rw [List.getElem?_append_right (by omega), hl, Nat.add_sub_cancel_left]
theorem oct_at {us : List Value} {ws : List Int} {i : Nat} {tk : Tok} (p2 : 4 ≤ ws.length) (p3 : ws.length ≤ 7) (p4 : ∀ c ∈ ws, 64 ≤ c ∧ c < 128) (hi : i ≤ ws.length) (hp : IntsAre us (blocks ws ws.length)) : Oct (us ++ [Value.int 63 tk]) (posOf ws i) (csOf ws i) 63 := by
  have ha : IntsAre (us ++ [Value.int 63 tk]) (blocks ws ws.length ++ [63]) := IntsAre.append hp (.cons _ _ .nil)
  have hl := blocks_len ws ws.length (Nat.le_refl _)
  rw [Nat.mul_comm] at hl
  refine ⟨fun j hj => ?_, fun c hc => ?_, by decide, ?_⟩
  · refine ha.get _ _ ?_
    rw [pos_eq ws hi]
    rcases Nat.lt_or_ge i ws.length with h1 | h1
    · rw [cs_len ws h1] at hj
      have h2 : (ws.length + 1) * (i + 1) ≤ (ws.length + 1) * ws.length := Nat.mul_le_mul_left _ h1
      rw [Nat.mul_succ] at h2
      rw [List.getElem?_append_left (by omega), blocks_get ws hj _ h1 (Nat.le_refl _), block_cs ws h1, List.getD_eq_getElem?_getD]
      have h3 : j < (csOf ws i ++ [63]).length := by rw [List.length_append, cs_len ws h1]; exact hj
      rw [List.getElem?_eq_getElem h3]; rfl
    · obtain rfl : i = ws.length := by omega
      have e : csOf ws ws.length = [] := by unfold csOf; rw [if_neg (by omega)]; simp
      rw [e] at hj ⊢
      obtain rfl : j = 0 := by simpa using hj
      rw [List.getElem?_append_right (by omega), hl]; simp
  · unfold csOf at hc
    rcases List.mem_append.mp hc with h | h
    · exact p4 c (List.mem_of_mem_drop h)
    · have := List.eq_of_mem_replicate h; omega
  · rcases Nat.lt_or_ge i ws.length with h1 | h1
    · rw [cs_len ws h1]; omega
    · obtain rfl : i = ws.length := by omega
      have e : csOf ws ws.length = [] := by unfold csOf; rw [if_neg (by omega)]; simp
      rw [e]; simp
theorem off_it {I C D it : Addr} {o oI oC oD : Obj} {r : List (Addr × Obj)} (h : LCg.Off3 I C D ((it, o) :: r)) (hr : Off it r) : Off it ((I, oI) :: (C, oC) :: (D, oD) :: r) :=
  ⟨Ne.symm h.1.1, Ne.symm h.1.2.1, Ne.symm h.1.2.2, hr⟩
local macro_rules | `(tactic| kas_types) => `(tactic| ((rename _ ∧ _ => hx9); (have ha9 := hx9.1); (have hb9 := hx9.2); (clear hx9); first | exact ha9 | exact Ne.symm ha9 | exact hb9 | exact Ne.symm hb9 | exact Nat.ne_of_lt ha9 | exact Nat.ne_of_gt ha9 | exact Nat.ne_of_lt hb9 | exact Nat.ne_of_gt hb9 | ((clear ha9); kas_types)))
local macro_rules | `(tactic| k_ne) => `(tactic| ((refine neN ?_); (try dsimp only); first | assumption | exact Ne.symm (by assumption) | kas_types | omega))
local macro_rules | `(tactic| ksw_same) => `(tactic| (intro z h2 h3; (try simp only [List.forall_mem_cons, List.not_mem_nil, false_implies, implies_true, and_true, ne_eq] at h2); (try simp only [List.contains_cons, List.contains_nil, Bool.or_false, Bool.or_eq_false_iff, beq_eq_false_iff_ne, ne_eq] at h3); simp [env9, tokd, kstB, h2, h3]))
local macro_rules | `(tactic| walk_at "call type:range") => `(tactic| ((rename Fr _ _ _ _ => F'); (rename News _ _ _ _ => N'); first | (with_unfolding_all refine range1_rows F' N' ?_; intro _ _ _ _ _ _ _ _ _) | (with_unfolding_all refine range2_rows F' N' ?_; intro _ _ _ _ _ _ _ _ _)))
local macro_rules | `(tactic| k_all) => `(tactic| first | exact ne_of_all (by assumption) | exact ne_of_allLt (by assumption) | exact ne_of_off (by assumption))
local macro_rules | `(tactic| walk_at "call type:list") => `(tactic| ((with_reducible show wpAny _ _ (call (Value.type "list") [Value.bytes _ _]) _ _ _); (rename Fr _ _ _ _ => F'); (rename News _ _ _ _ => N'); (refine m_list_bytes (by with_unfolding_all rfl) F' N' (Nat.le_trans (KBc.size_picked_le _ _ _) (by omega)) ?_); intro D' vs' k' h' tk' F' N' l1 hi'; (try k_lt l1)))
theorem c_tr (w : World) (mean : ExcName → Option Value) (mg mb : Str → Option Value) (b : Array UInt8) (ws : List Int) (t : Tok) (news : List (Addr × Obj)) :
    ClO 2 w mean mg mb 45 news (KBw.bInts b = ws ∧ 4 ≤ ws.length ∧ ws.length ≤ 7 ∧ (∀ c ∈ ws, 64 ≤ c ∧ c < 128)) [.bytes b t]
      (fun r n' => ∃ D vs k, r = .ref D ∧ n' = (D, listOf vs.toArray k) :: news ∧ IntsAre vs (tailsRead ws) ∧ Off D news) := by
  unfold ClO
  intros
  rename_i hret
  refine wpAny_call ?_
  k_dflt (refine' code_defC ?k1 ?k2 ?k3 ?k4 ?k5 ?kA ?kF ?kK ?k6 ?k7 ?k8 ?k9 ?kB ?kD ?_ ?c2 ?c3 ?c4; (case kA => exact rfl); (case kF => exact rfl); (case kK => assumption); (case k1 => k_asm); (case k2 => k_asm); (case k3 => k_asm); (case k4 => k_asm); (case k5 => k_asm); (case k6 => k_is); (case k7 => k_is); (case k8 => ktr_room); (case k9 => exact BindsTo.of_eq rfl); (case kB => exact rfl); (case kD => decide +kernel); (case c2 => exact rfl); (case c3 => exact rfl); (case c4 => exact rfl); k_whole; intro g' L' h' tk' cells' FG' F' N' Y' B' X' T' l1; (try k_lt l1); k_cells Y'; (try simp only [List.cons_append, List.nil_append] at N'); (try dsimp only); (try k_lift B'); (try k_fold))
  have l1' : ∀ p ∈ news, p.1 < L' + 1 := fun p hp => Nat.lt_succ_of_lt (l1 p hp)
  rename _ ∧ _ => hp
  obtain ⟨p1, p2, p3, p4⟩ := hp
  have hsz : b.size = ws.length := by rw [← p1]; exact (KBw.ints_length b).symm
  w_strict (repeat' ((fail_if_success first | (with_reducible show wpAny _ _ (call (Value.ref _) _) _ _ _) | (with_reducible show wpAny _ _ (call (Value.builtin "next") _) _ _ _) | (with_reducible show wpAny _ _ (call (Value.builtin "iter") _) _ _ _) | (with_reducible show wpAny _ _ (pyIter _) _ _ _) | (with_reducible show wpAny _ _ (exec (Stmt.While _ _ _ _) _) _ _ _) | (with_reducible show wpAny _ _ (binaryOp Operator.Add (Value.ref _) (Value.ref _)) _ _ _) | (with_reducible show wpAny _ _ (call (Value.builtin "list.extend") _) _ _ _) | (with_reducible show wpAny _ _ (eval (Expr.ListComp _ _ _ _) _) _ _ _) | (with_reducible show LCg.CompSrc _ _ _ _ _ _ _ _ _ _ _ _ _ _)); first | (k_unfold; (try dsimp only)) | (k_end; kc_close) | walk1 | (dsimp only; walk1) | (leave1; walk_say "STEP leave1"; (try dsimp only)) | fail "no step"))
  rename Fr _ _ _ _ => F1
  rename News _ _ _ _ => N1
  rename IsRange _ _ _ _ _ _ _ _ => R1
  refine m_rangeL (us₀ := []) (fun _ => []) [] (fun i us => IntsAre us (blocks ws i)) rfl R1 (small_one (by omega) (by omega) (by omega) (by omega)) (n := ws.length) (by rw [rangeSize_nat]; omega) F1 N1 trivial .nil ?turn ?done
  case turn =>
    clear F1 N1 R1
    intro us kk i t u tkf h tk I oI hi hDI off hp F2 N2
    w_strict (repeat' ((fail_if_success first | (with_reducible show wpAny _ _ (call (Value.ref _) _) _ _ _) | (with_reducible show wpAny _ _ (call (Value.builtin "next") _) _ _ _) | (with_reducible show wpAny _ _ (call (Value.builtin "iter") _) _ _ _) | (with_reducible show wpAny _ _ (pyIter _) _ _ _) | (with_reducible show wpAny _ _ (exec (Stmt.While _ _ _ _) _) _ _ _) | (with_reducible show wpAny _ _ (binaryOp Operator.Add (Value.ref _) (Value.ref _)) _ _ _) | (with_reducible show wpAny _ _ (call (Value.builtin "list.extend") _) _ _ _) | (with_reducible show wpAny _ _ (eval (Expr.ListComp _ _ _ _) _) _ _ _) | (with_reducible show LCg.CompSrc _ _ _ _ _ _ _ _ _ _ _ _ _ _)); first | (k_unfold; (try dsimp only)) | (k_end; kc_close) | walk1 | (dsimp only; walk1) | (leave1; walk_say "STEP leave1"; (try dsimp only)) | fail "no step"))
    rename Fr _ _ _ _ => F3
    rename News _ _ _ _ => N3
    rename IntsAre _ (KBw.bInts _) => i1
    rename IntsAre (List.flatten _) _ => i2
    rw [tail_ints p1] at i1
    rw [show (List.replicate (0 + (i : Int)).toNat [(64 : Int)]).flatten = List.replicate i 64 from by rw [show (0 + (i : Int)).toNat = i by omega]; exact flat_rep i 64] at i2
    have z1 := i1.length
    have z2 := i2.length
    have z3 := IntsAre.length hp
    have z4 := blocks_len ws i (by omega)
    have z5 : i * (ws.length + 1) ≤ 7 * 8 := Nat.mul_le_mul (by omega) (by omega)
    simp only [List.length_drop, List.length_replicate] at z1 z2
    refine m_addL F3 N3 (by k_mem) (by k_mem) (Nat.le_trans (Nat.add_le_add (Nat.le_of_eq z1) (Nat.le_of_eq z2)) (by omega)) ?_
    clear F3 N3
    intro D3 h3 F3 N3 l3
    k_lt l3
    w_strict (repeat' ((fail_if_success first | (with_reducible show wpAny _ _ (call (Value.ref _) _) _ _ _) | (with_reducible show wpAny _ _ (call (Value.builtin "next") _) _ _ _) | (with_reducible show wpAny _ _ (call (Value.builtin "iter") _) _ _ _) | (with_reducible show wpAny _ _ (pyIter _) _ _ _) | (with_reducible show wpAny _ _ (exec (Stmt.While _ _ _ _) _) _ _ _) | (with_reducible show wpAny _ _ (binaryOp Operator.Add (Value.ref _) (Value.ref _)) _ _ _) | (with_reducible show wpAny _ _ (call (Value.builtin "list.extend") _) _ _ _) | (with_reducible show wpAny _ _ (eval (Expr.ListComp _ _ _ _) _) _ _ _) | (with_reducible show LCg.CompSrc _ _ _ _ _ _ _ _ _ _ _ _ _ _)); first | (k_unfold; (try dsimp only)) | (k_end; kc_close) | walk1 | (dsimp only; walk1) | (leave1; walk_say "STEP leave1"; (try dsimp only)) | fail "no step"))
    rename Fr _ _ _ _ => F4
    rename News _ _ _ _ => N4
    refine m_addL F4 N4 (by k_mem) (by k_mem) (by simp only [List.length_append, List.length_cons, List.length_nil]; omega) ?_
    clear F4 N4
    intro D4 h4 F4 N4 l4
    k_lt l4
    w_strict (repeat' ((fail_if_success first | (with_reducible show wpAny _ _ (call (Value.ref _) _) _ _ _) | (with_reducible show wpAny _ _ (call (Value.builtin "next") _) _ _ _) | (with_reducible show wpAny _ _ (call (Value.builtin "iter") _) _ _ _) | (with_reducible show wpAny _ _ (pyIter _) _ _ _) | (with_reducible show wpAny _ _ (exec (Stmt.While _ _ _ _) _) _ _ _) | (with_reducible show wpAny _ _ (binaryOp Operator.Add (Value.ref _) (Value.ref _)) _ _ _) | (with_reducible show wpAny _ _ (call (Value.builtin "list.extend") _) _ _ _) | (with_reducible show wpAny _ _ (eval (Expr.ListComp _ _ _ _) _) _ _ _) | (with_reducible show LCg.CompSrc _ _ _ _ _ _ _ _ _ _ _ _ _ _)); first | (k_unfold; (try dsimp only)) | (k_end; kc_close) | walk1 | (dsimp only; walk1) | (leave1; walk_say "STEP leave1"; (try dsimp only)) | fail "no step"))
    rename Fr _ _ _ _ => F5
    rename News _ _ _ _ => N5
    simp only [LCg.Off1] at off
    refine' m_extendL F5 N5 ?xb ?xn ?xu ?xz ?_
    case xb => k_mem
    case xn => simp
    case xu => k_upd
    case xz =>
      simp only [List.length_append, List.length_cons, List.length_nil]
      omega
    intro h5 F6 N6
    w_strict (repeat' ((fail_if_success first | (with_reducible show wpAny _ _ (call (Value.ref _) _) _ _ _) | (with_reducible show wpAny _ _ (call (Value.builtin "next") _) _ _ _) | (with_reducible show wpAny _ _ (call (Value.builtin "iter") _) _ _ _) | (with_reducible show wpAny _ _ (pyIter _) _ _ _) | (with_reducible show wpAny _ _ (exec (Stmt.While _ _ _ _) _) _ _ _) | (with_reducible show wpAny _ _ (binaryOp Operator.Add (Value.ref _) (Value.ref _)) _ _ _) | (with_reducible show wpAny _ _ (call (Value.builtin "list.extend") _) _ _ _) | (with_reducible show wpAny _ _ (eval (Expr.ListComp _ _ _ _) _) _ _ _) | (with_reducible show LCg.CompSrc _ _ _ _ _ _ _ _ _ _ _ _ _ _)); first | (k_unfold; (try dsimp only)) | (k_end; kc_close) | walk1 | (dsimp only; walk1) | (leave1; walk_say "STEP leave1"; (try dsimp only)) | fail "no step"))
    dsimp only [FPost]
    refine FEnd.intro (_, _) (by assumption) (by assumption) (by kcj_all) ⟨hDI, off⟩ trivial (by ksw_same) ?_
    exact IntsAre.append hp (IntsAre.append (IntsAre.append i1 i2) (.cons _ _ .nil))
  case done =>
    clear F1 N1 R1
    intro us kk u tkf h tk hp F2 N2
    w_strict (repeat' ((fail_if_success first | (with_reducible show wpAny _ _ (call (Value.ref _) _) _ _ _) | (with_reducible show wpAny _ _ (call (Value.builtin "next") _) _ _ _) | (with_reducible show wpAny _ _ (call (Value.builtin "iter") _) _ _ _) | (with_reducible show wpAny _ _ (pyIter _) _ _ _) | (with_reducible show wpAny _ _ (exec (Stmt.While _ _ _ _) _) _ _ _) | (with_reducible show wpAny _ _ (binaryOp Operator.Add (Value.ref _) (Value.ref _)) _ _ _) | (with_reducible show wpAny _ _ (call (Value.builtin "list.extend") _) _ _ _) | (with_reducible show wpAny _ _ (eval (Expr.ListComp _ _ _ _) _) _ _ _) | (with_reducible show LCg.CompSrc _ _ _ _ _ _ _ _ _ _ _ _ _ _)); first | (k_unfold; (try dsimp only)) | (k_end; kc_close) | walk1 | (dsimp only; walk1) | (leave1; walk_say "STEP leave1"; (try dsimp only)) | fail "no step"))
    rename Fr _ _ _ _ => F3
    rename News _ _ _ _ => N3
    have z3 := IntsAre.length hp
    have z4 := blocks_len ws ws.length (by omega)
    have z5 : ws.length * (ws.length + 1) ≤ 7 * 8 := Nat.mul_le_mul (by omega) (by omega)
    refine m_addL F3 N3 (by k_mem) (by k_mem) (by simp only [List.length_cons, List.length_nil]; omega) ?_
    clear F3 N3
    intro D3 h3 F3 N3 l3
    k_lt l3
    w_strict (repeat' ((fail_if_success first | (with_reducible show wpAny _ _ (call (Value.ref _) _) _ _ _) | (with_reducible show wpAny _ _ (call (Value.builtin "next") _) _ _ _) | (with_reducible show wpAny _ _ (call (Value.builtin "iter") _) _ _ _) | (with_reducible show wpAny _ _ (pyIter _) _ _ _) | (with_reducible show wpAny _ _ (exec (Stmt.While _ _ _ _) _) _ _ _) | (with_reducible show wpAny _ _ (binaryOp Operator.Add (Value.ref _) (Value.ref _)) _ _ _) | (with_reducible show wpAny _ _ (call (Value.builtin "list.extend") _) _ _ _) | (with_reducible show wpAny _ _ (eval (Expr.ListComp _ _ _ _) _) _ _ _) | (with_reducible show LCg.CompSrc _ _ _ _ _ _ _ _ _ _ _ _ _ _)); first | (k_unfold; (try dsimp only)) | (k_end; kc_close) | walk1 | (dsimp only; walk1) | (leave1; walk_say "STEP leave1"; (try dsimp only)) | fail "no step"))
    rename Fr _ _ _ _ => F4
    rename News _ _ _ _ => N4
    refine m_iter_list F4 N4 (List.Mem.head _) ?_
    clear F4 N4
    intro I4 h4 F4 N4 l4
    k_lt l4
    w_strict (repeat' ((fail_if_success first | (with_reducible show wpAny _ _ (call (Value.ref _) _) _ _ _) | (with_reducible show wpAny _ _ (call (Value.builtin "next") _) _ _ _) | (with_reducible show wpAny _ _ (call (Value.builtin "iter") _) _ _ _) | (with_reducible show wpAny _ _ (pyIter _) _ _ _) | (with_reducible show wpAny _ _ (exec (Stmt.While _ _ _ _) _) _ _ _) | (with_reducible show wpAny _ _ (binaryOp Operator.Add (Value.ref _) (Value.ref _)) _ _ _) | (with_reducible show wpAny _ _ (call (Value.builtin "list.extend") _) _ _ _) | (with_reducible show wpAny _ _ (eval (Expr.ListComp _ _ _ _) _) _ _ _) | (with_reducible show LCg.CompSrc _ _ _ _ _ _ _ _ _ _ _ _ _ _)); first | (k_unfold; (try dsimp only)) | (k_end; kc_close) | walk1 | (dsimp only; walk1) | (leave1; walk_say "STEP leave1"; (try dsimp only)) | fail "no step"))
    rename Fr _ _ _ _ => F5
    rename News _ _ _ _ => N5
    refine LCg.ListComp_U (F₀ := F5) (by with_unfolding_all rfl) (by decide) (by rfl) (by decide) (by rfl) ?_
    w_strict (repeat' ((fail_if_success first | (with_reducible show wpAny _ _ (call (Value.ref _) _) _ _ _) | (with_reducible show wpAny _ _ (call (Value.builtin "next") _) _ _ _) | (with_reducible show wpAny _ _ (call (Value.builtin "iter") _) _ _ _) | (with_reducible show wpAny _ _ (pyIter _) _ _ _) | (with_reducible show wpAny _ _ (exec (Stmt.While _ _ _ _) _) _ _ _) | (with_reducible show wpAny _ _ (binaryOp Operator.Add (Value.ref _) (Value.ref _)) _ _ _) | (with_reducible show wpAny _ _ (call (Value.builtin "list.extend") _) _ _ _) | (with_reducible show wpAny _ _ (eval (Expr.ListComp _ _ _ _) _) _ _ _) | (with_reducible show LCg.CompSrc _ _ _ _ _ _ _ _ _ _ _ _ _ _)); first | (k_unfold; (try dsimp only)) | (k_end; kc_close) | walk1 | (dsimp only; walk1) | (leave1; walk_say "STEP leave1"; (try dsimp only)) | fail "no step"))
    rename Fr _ _ _ _ => F6
    rename News _ _ _ _ => N6
    rename IsRange _ _ _ _ _ _ _ _ => R6
    refine LCg.CompSrc.range (by rfl) F6 N6 R6 (small_one (by omega) (by omega) (by omega) (by omega)) (n := ws.length + 1) (by rw [rangeSize_nat]; omega) (by rw [sizeLine_eq]; omega) ?_
    clear F6 N6 R6
    intro g9
    refine m_restO (fun i => itO D3 (posOf ws i)) (fun i ys => IntsAre ys ((List.range i).map (readAt ws))) .nil ?turn2 ?fin2
    case turn2 =>
      intro i v I oI C oC D m₂ ys h7 tk7 E' hi hv hR hC hx F7 N7 off7 ne7
      obtain ⟨t8, hv8⟩ := hv
      subst hv8
      have N8 := news_up3 N7
      have offI := off_it (oI := oI) (oC := oC) (oD := LCg.lst ys) off7
      have hoct : ∀ tk, Oct (us ++ [Value.int 63 tk]) (posOf ws i) (csOf ws i) 63 := fun tk => oct_at p2 p3 p4 (Nat.lt_succ_iff.mp hi) hp
      w_strict (repeat' ((fail_if_success first | (with_reducible show wpAny _ _ (call (Value.ref _) _) _ _ _) | (with_reducible show wpAny _ _ (call (Value.builtin "next") _) _ _ _) | (with_reducible show wpAny _ _ (call (Value.builtin "iter") _) _ _ _) | (with_reducible show wpAny _ _ (pyIter _) _ _ _) | (with_reducible show wpAny _ _ (exec (Stmt.While _ _ _ _) _) _ _ _) | (with_reducible show wpAny _ _ (binaryOp Operator.Add (Value.ref _) (Value.ref _)) _ _ _) | (with_reducible show wpAny _ _ (call (Value.builtin "list.extend") _) _ _ _) | (with_reducible show wpAny _ _ (eval (Expr.ListComp _ _ _ _) _) _ _ _) | (with_reducible show LCg.CompSrc _ _ _ _ _ _ _ _ _ _ _ _ _ _)); first | (k_unfold; (try dsimp only)) | (k_end; kc_close) | walk1 | (dsimp only; walk1) | (leave1; walk_say "STEP leave1"; (try dsimp only)) | fail "no step"))
      refine' clO_use (c_vi w mean mg mb I4 D3 (posOf ws i) 0 _ (csOf ws i) 63 _) ?k1x1 ?k2x1 ?k3x1 ?k4x1 ?k5x1 ?kKx1 ?kpx1 ?kdx1 ?kux1 ?kRx1
      case k1x1 => k_asm
      case k2x1 => k_asm
      case k3x1 => k_asm
      case k4x1 => k_asm
      case k5x1 => k_asm
      case kKx1 => exact rfl
      case kpx1 => exact ⟨offI (by simp only [LCg.Off1]; exact ⟨by k_ne, by k_ne, by k_ne, by k_ne, off_of (ne_of_allLt l4.2.2.2.2)⟩), by k_mem, hoct _⟩
      case kdx1 => ktr_room
      case kux1 => ktr_units
      intro r9 n9 h9 tk9 F9 N9 O9
      obtain ⟨t9, rfl, rfl⟩ := O9
      refine LCg.CompEnd.intro F9 N9 ((I4, itO D3 (posOf ws (i + 1))) :: _) ?sub (And.intro off7.1 off7.2) trivial ⟨rfl, ?ri⟩
      case sub => kcj_all
      rw [List.range_succ, List.map_append]
      exact IntsAre.append hR (.cons _ _ .nil)
    case fin2 =>
      intro ys hR
      w_strict (repeat' ((fail_if_success first | (with_reducible show wpAny _ _ (call (Value.ref _) _) _ _ _) | (with_reducible show wpAny _ _ (call (Value.builtin "next") _) _ _ _) | (with_reducible show wpAny _ _ (call (Value.builtin "iter") _) _ _ _) | (with_reducible show wpAny _ _ (pyIter _) _ _ _) | (with_reducible show wpAny _ _ (exec (Stmt.While _ _ _ _) _) _ _ _) | (with_reducible show wpAny _ _ (binaryOp Operator.Add (Value.ref _) (Value.ref _)) _ _ _) | (with_reducible show wpAny _ _ (call (Value.builtin "list.extend") _) _ _ _) | (with_reducible show wpAny _ _ (eval (Expr.ListComp _ _ _ _) _) _ _ _) | (with_reducible show LCg.CompSrc _ _ _ _ _ _ _ _ _ _ _ _ _ _)); first | (k_unfold; (try dsimp only)) | (k_end; kc_close) | walk1 | (dsimp only; walk1) | (leave1; walk_say "STEP leave1"; (try dsimp only)) | fail "no step"))
      rename _ ∧ _ ∧ _ ∧ _ ∧ _ ∧ _ => hoff
      exact hret _ ((_, LCg.lst ys) :: news) _ _ (by assumption) (by refine' cb_drop ?cbN ?cbS; (case cbN => assumption); (case cbS => kcj_all)) ⟨_, ys, _, rfl, rfl, hR, hoff.2.2.2.2.2⟩
end
section
def dueAt (ws : List Int) (i : Nat) : Int := 63 + ((List.range (ws.length - i)).map fun k => (ws.getD (i + k) 0 - 64) * 64 ^ (ws.length - k)).sum
def tailsDue (ws : List Int) : List Int := (List.range ws.length).map (dueAt ws) ++ [63]
local macro_rules | `(tactic| kas_types) => `(tactic| ((rename _ ∧ _ => hx9); (have ha9 := hx9.1); (have hb9 := hx9.2); (clear hx9); first | exact ha9 | exact Ne.symm ha9 | exact hb9 | exact Ne.symm hb9 | exact Nat.ne_of_lt ha9 | exact Nat.ne_of_gt ha9 | exact Nat.ne_of_lt hb9 | exact Nat.ne_of_gt hb9 | ((clear ha9); kas_types)))
local macro_rules | `(tactic| k_ne) => `(tactic| ((refine neN ?_); (try dsimp only); first | assumption | exact Ne.symm (by assumption) | kas_types | omega))
local macro_rules | `(tactic| ksw_same) => `(tactic| (intro z h2 h3; (try simp only [List.forall_mem_cons, List.not_mem_nil, false_implies, implies_true, and_true, ne_eq] at h2); (try simp only [List.contains_cons, List.contains_nil, Bool.or_false, Bool.or_eq_false_iff, beq_eq_false_iff_ne, ne_eq] at h3); simp [env9, tokd, kstB, h2, h3]))
local macro_rules | `(tactic| walk_at "call type:range") => `(tactic| ((rename Fr _ _ _ _ => F'); (rename News _ _ _ _ => N'); first | (with_unfolding_all refine range1_rows F' N' ?_; intro _ _ _ _ _ _ _ _ _) | (with_unfolding_all refine range2_rows F' N' ?_; intro _ _ _ _ _ _ _ _ _)))
local macro_rules | `(tactic| k_all) => `(tactic| first | exact ne_of_all (by assumption) | exact ne_of_allLt (by assumption) | exact ne_of_off (by assumption))
theorem c_td (w : World) (mean : ExcName → Option Value) (mg mb : Str → Option Value) (b : Array UInt8) (ws : List Int) (t : Tok) (news : List (Addr × Obj)) :
    ClO 1 w mean mg mb 50 news (KBw.bInts b = ws ∧ 4 ≤ ws.length ∧ ws.length ≤ 7 ∧ (∀ c ∈ ws, 64 ≤ c ∧ c < 128)) [.bytes b t]
      (fun r n' => ∃ D vs k, r = .ref D ∧ n' = (D, listOf vs.toArray k) :: news ∧ IntsAre vs (tailsDue ws) ∧ Off D news) := by
  unfold ClO
  intros
  rename_i hret
  refine wpAny_call ?_
  k_dflt (refine' code_defC ?k1 ?k2 ?k3 ?k4 ?k5 ?kA ?kF ?kK ?k6 ?k7 ?k8 ?k9 ?kB ?kD ?_ ?c2 ?c3 ?c4; (case kA => exact rfl); (case kF => exact rfl); (case kK => assumption); (case k1 => k_asm); (case k2 => k_asm); (case k3 => k_asm); (case k4 => k_asm); (case k5 => k_asm); (case k6 => k_is); (case k7 => k_is); (case k8 => ktr_room); (case k9 => exact BindsTo.of_eq rfl); (case kB => exact rfl); (case kD => decide +kernel); (case c2 => exact rfl); (case c3 => exact rfl); (case c4 => exact rfl); k_whole; intro g' L' h' tk' cells' FG' F' N' Y' B' X' T' l1; (try k_lt l1); k_cells Y'; (try simp only [List.cons_append, List.nil_append] at N'); (try dsimp only); (try k_lift B'); (try k_fold))
  have l1' : ∀ p ∈ news, p.1 < L' + 1 := fun p hp => Nat.lt_succ_of_lt (l1 p hp)
  have l2' : ∀ p ∈ news, p.1 < L' + 2 := fun p hp => Nat.lt_succ_of_lt (l1' p hp)
  have l3' : ∀ p ∈ news, p.1 < L' + 3 := fun p hp => Nat.lt_succ_of_lt (l2' p hp)
  rename _ ∧ _ => hp
  obtain ⟨p1, p2, p3, p4⟩ := hp
  have hsz : b.size = ws.length := by rw [← p1]; exact (KBw.ints_length b).symm
  w_strict (repeat' ((fail_if_success first | (with_reducible show wpAny _ _ (call (Value.ref _) _) _ _ _) | (with_reducible show wpAny _ _ (call (Value.builtin "next") _) _ _ _) | (with_reducible show wpAny _ _ (call (Value.builtin "iter") _) _ _ _) | (with_reducible show wpAny _ _ (pyIter _) _ _ _) | (with_reducible show wpAny _ _ (exec (Stmt.While _ _ _ _) _) _ _ _) | (with_reducible show wpAny _ _ (binaryOp Operator.Add (Value.ref _) (Value.ref _)) _ _ _) | (with_reducible show wpAny _ _ (exec (Stmt.For _ _ _ _ _) _) _ _ _) | (with_reducible show wpAny _ _ (eval (Expr.ListComp _ _ _ _) _) _ _ _) | (with_reducible show wpAny _ _ (call (Value.builtin "list.append") _) _ _ _) | (with_reducible show LCg.CompSrc _ _ _ _ _ _ _ _ _ _ _ _ _ _)); first | (k_unfold; (try dsimp only)) | (k_end; kc_close) | walk1 | (dsimp only; walk1) | (leave1; walk_say "STEP leave1"; (try dsimp only)) | fail "no step"))
  refine For_C ?_
  w_strict (repeat' ((fail_if_success first | (with_reducible show wpAny _ _ (call (Value.ref _) _) _ _ _) | (with_reducible show wpAny _ _ (call (Value.builtin "next") _) _ _ _) | (with_reducible show wpAny _ _ (call (Value.builtin "iter") _) _ _ _) | (with_reducible show wpAny _ _ (pyIter _) _ _ _) | (with_reducible show wpAny _ _ (exec (Stmt.While _ _ _ _) _) _ _ _) | (with_reducible show wpAny _ _ (binaryOp Operator.Add (Value.ref _) (Value.ref _)) _ _ _) | (with_reducible show wpAny _ _ (exec (Stmt.For _ _ _ _ _) _) _ _ _) | (with_reducible show wpAny _ _ (eval (Expr.ListComp _ _ _ _) _) _ _ _) | (with_reducible show wpAny _ _ (call (Value.builtin "list.append") _) _ _ _) | (with_reducible show LCg.CompSrc _ _ _ _ _ _ _ _ _ _ _ _ _ _)); first | (k_unfold; (try dsimp only)) | (k_end; kc_close) | walk1 | (dsimp only; walk1) | (leave1; walk_say "STEP leave1"; (try dsimp only)) | fail "no step"))
  rename Fr _ _ _ _ => F1
  rename News _ _ _ _ => N1
  rename IsRange _ _ _ _ _ _ _ _ => R1
  refine m_rangeCL (us₀ := []) [] (fun i us => IntsAre us ((List.range i).map (dueAt ws))) (by rfl) (by rfl) (by rfl) rfl R1 (small_one (by omega) (by omega) (by omega) (by omega)) (n := ws.length) (by rw [rangeSize_nat]; omega) F1 N1 (by assumption) (by k_ne) ?oc .nil ?turn ?done ?pe
  case oc => simp only [LCg.Off1]; exact ⟨by k_ne, by k_ne, off_of (ne_of_all l3')⟩
  case pe => passes_own
  case turn =>
    clear F1 N1 R1
    intro us kk i t u tkf h tk I oI oc hi hdc hIc hDI off hp F2 N2
    simp only [LCg.Off1] at off
    w_strict (repeat' ((fail_if_success first | (with_reducible show wpAny _ _ (call (Value.ref _) _) _ _ _) | (with_reducible show wpAny _ _ (call (Value.builtin "next") _) _ _ _) | (with_reducible show wpAny _ _ (call (Value.builtin "iter") _) _ _ _) | (with_reducible show wpAny _ _ (pyIter _) _ _ _) | (with_reducible show wpAny _ _ (exec (Stmt.While _ _ _ _) _) _ _ _) | (with_reducible show wpAny _ _ (binaryOp Operator.Add (Value.ref _) (Value.ref _)) _ _ _) | (with_reducible show wpAny _ _ (exec (Stmt.For _ _ _ _ _) _) _ _ _) | (with_reducible show wpAny _ _ (eval (Expr.ListComp _ _ _ _) _) _ _ _) | (with_reducible show wpAny _ _ (call (Value.builtin "list.append") _) _ _ _) | (with_reducible show LCg.CompSrc _ _ _ _ _ _ _ _ _ _ _ _ _ _)); first | (k_unfold; (try dsimp only)) | (k_end; kc_close) | walk1 | (dsimp only; walk1) | (leave1; walk_say "STEP leave1"; (try dsimp only)) | fail "no step"))
    rename Fr _ _ _ _ => F3
    refine LCg.ListComp_U (F₀ := F3) (by with_unfolding_all rfl) (by decide) (by rfl) (by decide) (by rfl) ?_
    w_strict (repeat' ((fail_if_success first | (with_reducible show wpAny _ _ (call (Value.ref _) _) _ _ _) | (with_reducible show wpAny _ _ (call (Value.builtin "next") _) _ _ _) | (with_reducible show wpAny _ _ (call (Value.builtin "iter") _) _ _ _) | (with_reducible show wpAny _ _ (pyIter _) _ _ _) | (with_reducible show wpAny _ _ (exec (Stmt.While _ _ _ _) _) _ _ _) | (with_reducible show wpAny _ _ (binaryOp Operator.Add (Value.ref _) (Value.ref _)) _ _ _) | (with_reducible show wpAny _ _ (exec (Stmt.For _ _ _ _ _) _) _ _ _) | (with_reducible show wpAny _ _ (eval (Expr.ListComp _ _ _ _) _) _ _ _) | (with_reducible show wpAny _ _ (call (Value.builtin "list.append") _) _ _ _) | (with_reducible show LCg.CompSrc _ _ _ _ _ _ _ _ _ _ _ _ _ _)); first | (k_unfold; (try dsimp only)) | (k_end; kc_close) | walk1 | (dsimp only; walk1) | (leave1; walk_say "STEP leave1"; (try dsimp only)) | fail "no step"))
    rename Fr _ _ _ _ => F6
    rename News _ _ _ _ => N6
    rename IsRange _ _ _ _ _ _ _ _ => R6
    refine LCg.CompSrc.range (by rfl) F6 N6 R6 (small_one (by omega) (by omega) (by omega) (by omega)) (n := ws.length - i) (by rw [rangeSize_nat]; omega) (by rw [sizeLine_eq]; omega) ?_
    clear F6 N6 R6
    intro g9
    refine m_restP (fun j ys => IntsAre ys ((List.range j).map fun k => (ws.getD (i + k) 0 - 64) * 64 ^ (ws.length - k))) .nil ?turn2 ?fin2
    case turn2 =>
      intro j v I7 oI7 C oC D m₂ ys h7 tk7 E' hj hv hR hC hx F7 N7 off7 ne7
      obtain ⟨t8, hv8⟩ := hv
      subst hv8
      w_strict (repeat' ((fail_if_success first | (with_reducible show wpAny _ _ (call (Value.ref _) _) _ _ _) | (with_reducible show wpAny _ _ (call (Value.builtin "next") _) _ _ _) | (with_reducible show wpAny _ _ (call (Value.builtin "iter") _) _ _ _) | (with_reducible show wpAny _ _ (pyIter _) _ _ _) | (with_reducible show wpAny _ _ (exec (Stmt.While _ _ _ _) _) _ _ _) | (with_reducible show wpAny _ _ (binaryOp Operator.Add (Value.ref _) (Value.ref _)) _ _ _) | (with_reducible show wpAny _ _ (exec (Stmt.For _ _ _ _ _) _) _ _ _) | (with_reducible show wpAny _ _ (eval (Expr.ListComp _ _ _ _) _) _ _ _) | (with_reducible show wpAny _ _ (call (Value.builtin "list.append") _) _ _ _) | (with_reducible show LCg.CompSrc _ _ _ _ _ _ _ _ _ _ _ _ _ _)); first | (k_unfold; (try dsimp only)) | (k_end; kc_close) | walk1 | (dsimp only; walk1) | (leave1; walk_say "STEP leave1"; (try dsimp only)) | fail "no step"))
      refine LCg.CompEnd.intro (by assumption) (by assumption) _ ?sub off7 trivial ⟨rfl, ?ri⟩
      case sub => kcj_all
      rw [List.range_succ, List.map_append]
      refine ints_snoc hR ?_
      dsimp only
      rw [show (0 + (i : Int) + (j : Int)).toNat = i + j by omega, show ((ws.length : Int) - (0 + (i : Int) + (j : Int)) + (0 + (i : Int))).toNat = ws.length - j by omega]
    case fin2 =>
      intro ys hR
      w_strict (repeat' ((fail_if_success first | (with_reducible show wpAny _ _ (call (Value.ref _) _) _ _ _) | (with_reducible show wpAny _ _ (call (Value.builtin "next") _) _ _ _) | (with_reducible show wpAny _ _ (call (Value.builtin "iter") _) _ _ _) | (with_reducible show wpAny _ _ (pyIter _) _ _ _) | (with_reducible show wpAny _ _ (exec (Stmt.While _ _ _ _) _) _ _ _) | (with_reducible show wpAny _ _ (binaryOp Operator.Add (Value.ref _) (Value.ref _)) _ _ _) | (with_reducible show wpAny _ _ (exec (Stmt.For _ _ _ _ _) _) _ _ _) | (with_reducible show wpAny _ _ (eval (Expr.ListComp _ _ _ _) _) _ _ _) | (with_reducible show wpAny _ _ (call (Value.builtin "list.append") _) _ _ _) | (with_reducible show LCg.CompSrc _ _ _ _ _ _ _ _ _ _ _ _ _ _)); first | (k_unfold; (try dsimp only)) | (k_end; kc_close) | walk1 | (dsimp only; walk1) | (leave1; walk_say "STEP leave1"; (try dsimp only)) | fail "no step"))
      rename Fr _ _ _ _ => F8
      rename News _ _ _ _ => N8
      have z1 := IntsAre.length hp
      simp only [List.length_map, List.length_range] at z1
      refine' m_appendL F8 N8 ?xu ?xz ?_
      case xu => k_upd
      case xz => omega
      intro h5 F6 N6
      w_strict (repeat' ((fail_if_success first | (with_reducible show wpAny _ _ (call (Value.ref _) _) _ _ _) | (with_reducible show wpAny _ _ (call (Value.builtin "next") _) _ _ _) | (with_reducible show wpAny _ _ (call (Value.builtin "iter") _) _ _ _) | (with_reducible show wpAny _ _ (pyIter _) _ _ _) | (with_reducible show wpAny _ _ (exec (Stmt.While _ _ _ _) _) _ _ _) | (with_reducible show wpAny _ _ (binaryOp Operator.Add (Value.ref _) (Value.ref _)) _ _ _) | (with_reducible show wpAny _ _ (exec (Stmt.For _ _ _ _ _) _) _ _ _) | (with_reducible show wpAny _ _ (eval (Expr.ListComp _ _ _ _) _) _ _ _) | (with_reducible show wpAny _ _ (call (Value.builtin "list.append") _) _ _ _) | (with_reducible show LCg.CompSrc _ _ _ _ _ _ _ _ _ _ _ _ _ _)); first | (k_unfold; (try dsimp only)) | (k_end; kc_close) | walk1 | (dsimp only; walk1) | (leave1; walk_say "STEP leave1"; (try dsimp only)) | fail "no step"))
      dsimp only [CPost]
      refine CEnd.intro (_, _) (by assumption) (by assumption) (by kcj_all) hdc ⟨hDI, off⟩ ⟨by k_ne, by k_ne, by k_ne, off_of (ne_of_all l3')⟩ trivial (by ksw_same) ?_
      rw [List.range_succ, List.map_append]
      exact ints_snoc hp rfl
  case done =>
    clear F1 N1 R1
    intro us kk u tkf h tk oc vc hdc hp F2 N2
    have z1 := IntsAre.length hp
    simp only [List.length_map, List.length_range] at z1
    w_strict (repeat' ((fail_if_success first | (with_reducible show wpAny _ _ (call (Value.ref _) _) _ _ _) | (with_reducible show wpAny _ _ (call (Value.builtin "next") _) _ _ _) | (with_reducible show wpAny _ _ (call (Value.builtin "iter") _) _ _ _) | (with_reducible show wpAny _ _ (pyIter _) _ _ _) | (with_reducible show wpAny _ _ (exec (Stmt.While _ _ _ _) _) _ _ _) | (with_reducible show wpAny _ _ (binaryOp Operator.Add (Value.ref _) (Value.ref _)) _ _ _) | (with_reducible show wpAny _ _ (exec (Stmt.For _ _ _ _ _) _) _ _ _) | (with_reducible show wpAny _ _ (eval (Expr.ListComp _ _ _ _) _) _ _ _) | (with_reducible show wpAny _ _ (call (Value.builtin "list.append") _) _ _ _) | (with_reducible show LCg.CompSrc _ _ _ _ _ _ _ _ _ _ _ _ _ _)); first | (k_unfold; (try dsimp only)) | (k_end; kc_close) | walk1 | (dsimp only; walk1) | (leave1; walk_say "STEP leave1"; (try dsimp only)) | fail "no step"))
    rename Fr _ _ _ _ => F3
    rename News _ _ _ _ => N3
    refine m_addL F3 N3 (by k_mem) (by k_mem) (by simp only [List.length_cons, List.length_nil]; omega) ?_
    clear F3 N3
    intro D3 h3 F3 N3 l3
    k_lt l3
    w_strict (repeat' ((fail_if_success first | (with_reducible show wpAny _ _ (call (Value.ref _) _) _ _ _) | (with_reducible show wpAny _ _ (call (Value.builtin "next") _) _ _ _) | (with_reducible show wpAny _ _ (call (Value.builtin "iter") _) _ _ _) | (with_reducible show wpAny _ _ (pyIter _) _ _ _) | (with_reducible show wpAny _ _ (exec (Stmt.While _ _ _ _) _) _ _ _) | (with_reducible show wpAny _ _ (binaryOp Operator.Add (Value.ref _) (Value.ref _)) _ _ _) | (with_reducible show wpAny _ _ (exec (Stmt.For _ _ _ _ _) _) _ _ _) | (with_reducible show wpAny _ _ (eval (Expr.ListComp _ _ _ _) _) _ _ _) | (with_reducible show wpAny _ _ (call (Value.builtin "list.append") _) _ _ _) | (with_reducible show LCg.CompSrc _ _ _ _ _ _ _ _ _ _ _ _ _ _)); first | (k_unfold; (try dsimp only)) | (k_end; kc_close) | walk1 | (dsimp only; walk1) | (leave1; walk_say "STEP leave1"; (try dsimp only)) | fail "no step"))
    exact hret _ ((_, listOf (us ++ [Value.int 63 _]).toArray 0) :: news) _ _ (by assumption) (by refine' cb_drop ?cbN ?cbS; (case cbN => assumption); (case cbS => kcj_all)) ⟨_, _, 0, rfl, rfl, ints_snoc hp rfl, off_of (ne_of_allLt l3.2.2.2.2.2)⟩
end
section
/-- the figures -/
def kindsOf (ns : List Int) : List Int := (ns.take 7).map (fun (x : Int) => (x.fmod 36).fmod 3) ++ [1, 0, 0, 1].drop (ns.take 7).length
def leastOf (ns : List Int) : Int := 1 + ((ns.take 7).map fun (x : Int) => (x.fmod 36).fdiv 3).sum.fmod 12
def figsOf (ns : List Int) : List Int := (kindsOf ns).map fun k => leastOf ns + k
local macro_rules | `(tactic| kas_types) => `(tactic| ((rename _ ∧ _ => hx9); (have ha9 := hx9.1); (have hb9 := hx9.2); (clear hx9); first | exact ha9 | exact Ne.symm ha9 | exact hb9 | exact Ne.symm hb9 | exact Nat.ne_of_lt ha9 | exact Nat.ne_of_gt ha9 | exact Nat.ne_of_lt hb9 | exact Nat.ne_of_gt hb9 | ((clear ha9); kas_types)))
local macro_rules | `(tactic| k_ne) => `(tactic| ((refine neN ?_); (try dsimp only); first | assumption | exact Ne.symm (by assumption) | kas_types | omega))
local macro_rules | `(tactic| ksw_same) => `(tactic| (intro z h2 h3; (try simp only [List.forall_mem_cons, List.not_mem_nil, false_implies, implies_true, and_true, ne_eq] at h2); (try simp only [List.contains_cons, List.contains_nil, Bool.or_false, Bool.or_eq_false_iff, beq_eq_false_iff_ne, ne_eq] at h3); simp [env9, tokd, kstB, h2, h3]))
local macro_rules | `(tactic| walk_at "call type:range") => `(tactic| ((rename Fr _ _ _ _ => F'); (rename News _ _ _ _ => N'); first | (with_unfolding_all refine range1_rows F' N' ?_; intro _ _ _ _ _ _ _ _ _) | (with_unfolding_all refine range2_rows F' N' ?_; intro _ _ _ _ _ _ _ _ _)))
local macro_rules | `(tactic| k_all) => `(tactic| first | exact ne_of_all (by assumption) | exact ne_of_allLt (by assumption) | exact ne_of_off (by assumption))
theorem off1_of {D : Addr} : ∀ {l : List (Addr × Obj)}, LCg.Off1 D l → Off D l
  | [], _ => off_of fun _ h => nomatch h
  | p :: r, h => off_of fun q hq => by
    rcases List.mem_cons.mp hq with rfl | hq
    · exact h.1
    · exact Off.mem (off1_of h.2) q hq
theorem c_fig (w : World) (mean : ExcName → Option Value) (mg mb : Str → Option Value) (l : Addr) (vs : List Value) (ns : List Int) (news : List (Addr × Obj)) :
    ∀ (dp un : Nat) (gd : Option (List Code)) (cn : Str) (cs : Scope) (a : Addr) (ccd : Value) (cl : List (Str × Addr)) (outer : List Env) (A₀ : Around) (base h₀ : Heap) (L : Addr) (m : Str → Option Value) (s : Shared) (Q E : Value → Shared → Prop),
    Below A₀ base outer h₀ → Fr h₀ L s.heap m → (hd.heap_39 w.params).In h₀ → News h₀ L s.heap news → Top hd.view_39 (looseW hd.view_39 []) mean mg mb h₀ → cs.kind = .function →
    (h₀.IsList l vs.toArray ∧ IntsAre vs ns ∧ ns.length ≤ 63) → dp + 1 < recursionLimit → un + 8 * 1 < cLine → (∀ (r : Value) (news' : List (Addr × Obj)) (h' : Heap) (tk' : Nat), Fr h₀ L h' m → News h₀ L h' news' → (∃ D ws k, r = .ref D ∧ news' = (D, listOf ws.toArray k) :: news ∧ IntsAre ws (figsOf ns) ∧ Off D news) → Q r { s with heap := h', toks := tk' }) →
      wpAny (model PySem.Challenge.rw_ty0005_01.row.prog w) (ktrTop dp un gd cn cs L a ccd cl outer) (call (.ref 40) [.ref l]) Q E s := by
  intros
  rename_i hret
  refine wpAny_call ?_
  k_dflt (refine' code_defC ?k1 ?k2 ?k3 ?k4 ?k5 ?kA ?kF ?kK ?k6 ?k7 ?k8 ?k9 ?kB ?kD ?_ ?c2 ?c3 ?c4; (case kA => exact rfl); (case kF => exact rfl); (case kK => assumption); (case k1 => k_asm); (case k2 => k_asm); (case k3 => k_asm); (case k4 => k_asm); (case k5 => k_asm); (case k6 => k_is); (case k7 => k_is); (case k8 => ktr_room); (case k9 => exact BindsTo.of_eq rfl); (case kB => exact rfl); (case kD => decide +kernel); (case c2 => exact rfl); (case c3 => exact rfl); (case c4 => exact rfl); k_whole; intro g' L' h' tk' cells' FG' F' N' Y' B' X' T' l1; (try k_lt l1); k_cells Y'; (try simp only [List.cons_append, List.nil_append] at N'); (try dsimp only); (try k_lift B'); (try k_fold))
  rename _ ∧ _ => hp
  obtain ⟨hl, hi, hlen⟩ := hp
  have l1' : ∀ p ∈ news, p.1 < L' + 1 := fun p hp => Nat.lt_succ_of_lt (l1 p hp)
  have hl' : Heap.IsList g' l vs.toArray := hl.at fun o e => FG'.keep l o e
  w_strict (repeat' ((fail_if_success first | (with_reducible show wpAny _ _ (call (Value.ref _) _) _ _ _) | (with_reducible show wpAny _ _ (call (Value.builtin "next") _) _ _ _) | (with_reducible show wpAny _ _ (call (Value.builtin "iter") _) _ _ _) | (with_reducible show wpAny _ _ (pyIter _) _ _ _) | (with_reducible show wpAny _ _ (exec (Stmt.While _ _ _ _) _) _ _ _) | (with_reducible show wpAny _ _ (binaryOp Operator.Add (Value.ref _) (Value.ref _)) _ _ _) | (with_reducible show wpAny _ _ (subscriptTail _ (Expr.Slice _ _ _ _) _ _) _ _ _) | (with_reducible show wpAny _ _ (call (Value.builtin "len") [Value.ref _]) _ _ _) | (with_reducible show wpAny _ _ (call (Value.builtin "sum") [Value.ref _]) _ _ _)); first | (k_unfold; (try dsimp only)) | (k_end; kc_close) | walk1 | (dsimp only; walk1) | (leave1; walk_say "STEP leave1"; (try dsimp only)) | fail "no step"))
  rename IntsAre _ (List.map _ (List.take _ _)) => e1
  rename IntsAre _ (List.map _ (List.map _ _)) => e2
  (rename News _ _ _ _ => N6)
  have hn7 : (ns.take 7).length ≤ 7 := List.length_take_le 7 ns
  refine KM.len_K N6 (by k_mem) (by exact e1.length) (by rw [List.length_map]; omega) ?_
  w_strict (repeat' ((fail_if_success first | (with_reducible show wpAny _ _ (call (Value.ref _) _) _ _ _) | (with_reducible show wpAny _ _ (call (Value.builtin "next") _) _ _ _) | (with_reducible show wpAny _ _ (call (Value.builtin "iter") _) _ _ _) | (with_reducible show wpAny _ _ (pyIter _) _ _ _) | (with_reducible show wpAny _ _ (exec (Stmt.While _ _ _ _) _) _ _ _) | (with_reducible show wpAny _ _ (binaryOp Operator.Add (Value.ref _) (Value.ref _)) _ _ _) | (with_reducible show wpAny _ _ (subscriptTail _ (Expr.Slice _ _ _ _) _ _) _ _ _) | (with_reducible show wpAny _ _ (call (Value.builtin "len") [Value.ref _]) _ _ _) | (with_reducible show wpAny _ _ (call (Value.builtin "sum") [Value.ref _]) _ _ _)); first | (k_unfold; (try dsimp only)) | (k_end; kc_close) | walk1 | (dsimp only; walk1) | (leave1; walk_say "STEP leave1"; (try dsimp only)) | fail "no step"))
  refine kba_turn (value' := PySem.Expr.Name (PySem.Str.ofString "_") ⟨0, 0, 0, 0⟩) (fun _ => rfl) ?_
  refine' kmk_slice_ints (ns := [1, 0, 0, 1]) (by k_asm) (by k_asm) (News.isList (by k_asm) (by k_mem)) (IsPart.int _ _) IsPart.none (.cons _ _ (.cons _ _ (.cons _ _ (.cons _ _ .nil)))) (kmk_from (.cons _ _ (.cons _ _ (.cons _ _ (.cons _ _ .nil)))) (by omega)) rfl ?_ (by with_unfolding_all rfl) (by intro _; rfl) (by rw [sizeLine_eq]; exact Nat.le_of_ble_eq_true rfl)
  intro D6 ws6 h6 F7 N7 l7 e3 _ _
  k_lt l7
  have e3' := e3.length
  have e2' := e2.length
  refine m_addL F7 N7 (by k_mem) (by k_mem) (by rw [e2', e3', List.length_map, List.length_map, List.length_drop]; exact Nat.le_trans (Nat.add_le_add hn7 (Nat.sub_le _ _)) (by decide)) ?_
  intro D8 h8 F8 N8 l8
  k_lt l8
  have e4 := e2.append e3
  w_strict (repeat' ((fail_if_success first | (with_reducible show wpAny _ _ (call (Value.ref _) _) _ _ _) | (with_reducible show wpAny _ _ (call (Value.builtin "next") _) _ _ _) | (with_reducible show wpAny _ _ (call (Value.builtin "iter") _) _ _ _) | (with_reducible show wpAny _ _ (pyIter _) _ _ _) | (with_reducible show wpAny _ _ (exec (Stmt.While _ _ _ _) _) _ _ _) | (with_reducible show wpAny _ _ (binaryOp Operator.Add (Value.ref _) (Value.ref _)) _ _ _) | (with_reducible show wpAny _ _ (subscriptTail _ (Expr.Slice _ _ _ _) _ _) _ _ _) | (with_reducible show wpAny _ _ (call (Value.builtin "len") [Value.ref _]) _ _ _) | (with_reducible show wpAny _ _ (call (Value.builtin "sum") [Value.ref _]) _ _ _)); first | (k_unfold; (try dsimp only)) | (k_end; kc_close) | walk1 | (dsimp only; walk1) | (leave1; walk_say "STEP leave1"; (try dsimp only)) | fail "no step"))
  rename IntsAre _ (List.map _ (List.map _ _)) => e5
  refine LSm.sum_ints (by k_asm) (by k_asm) rfl (News.isList (by k_asm) (by k_mem)) e5 ?_
  intro h9 tk9 t9 F9 N9
  dsimp only
  w_strict (repeat' ((fail_if_success first | (with_reducible show wpAny _ _ (call (Value.ref _) _) _ _ _) | (with_reducible show wpAny _ _ (call (Value.builtin "next") _) _ _ _) | (with_reducible show wpAny _ _ (call (Value.builtin "iter") _) _ _ _) | (with_reducible show wpAny _ _ (pyIter _) _ _ _) | (with_reducible show wpAny _ _ (exec (Stmt.While _ _ _ _) _) _ _ _) | (with_reducible show wpAny _ _ (binaryOp Operator.Add (Value.ref _) (Value.ref _)) _ _ _) | (with_reducible show wpAny _ _ (subscriptTail _ (Expr.Slice _ _ _ _) _ _) _ _ _) | (with_reducible show wpAny _ _ (call (Value.builtin "len") [Value.ref _]) _ _ _) | (with_reducible show wpAny _ _ (call (Value.builtin "sum") [Value.ref _]) _ _ _)); first | (k_unfold; (try dsimp only)) | (k_end; kc_close) | walk1 | (dsimp only; walk1) | (leave1; walk_say "STEP leave1"; (try dsimp only)) | fail "no step"))
  rename IntsAre _ (List.map _ (_ ++ _)) => e9
  rename _ ∧ _ ∧ _ ∧ _ ∧ _ ∧ _ ∧ _ ∧ _ ∧ LCg.Off1 _ news => o9
  refine hret _ ((_, LCg.lst _) :: news) _ _ (by assumption) (by refine' cb_drop ?cbN ?cbS; (case cbN => assumption); (case cbS => kcj_all)) ⟨_, _, _, rfl, rfl, ?_, off1_of o9.2.2.2.2.2.2.2.2⟩
  simp only [List.map_map, List.length_map, Int.toNat_natCast] at e9
  simp only [figsOf, leastOf, kindsOf, List.map_map, List.map_append, Function.comp_def] at e9 ⊢
  exact e9
end
section
/-- a row of figures: one more than .. -/
def Fig (fs : List Int) : Prop := ∃ (c : Int) (ks : List Int), fs = ks.map (fun k => c + k) ∧ 1 ≤ c ∧ c ≤ 12 ∧ (∀ k ∈ ks, 0 ≤ k ∧ k ≤ 2) ∧ 4 ≤ ks.length ∧ ks.length ≤ 7
theorem fig_of (ns : List Int) : Fig (figsOf ns) := by
  refine ⟨leastOf ns, kindsOf ns, rfl, ?_, ?_, ?_, ?_, ?_⟩
  · unfold leastOf
    have := Int.fmod_nonneg_of_pos (((ns.take 7).map fun x => (x.fmod 36).fdiv 3).sum) (show (0 : Int) < 12 by decide)
    omega
  · unfold leastOf
    have := Int.fmod_lt_of_pos (((ns.take 7).map fun x => (x.fmod 36).fdiv 3).sum) (show (0 : Int) < 12 by decide)
    omega
  · intro k hk
    unfold kindsOf at hk
    rcases List.mem_append.mp hk with h | h
    · obtain ⟨x, -, rfl⟩ := List.mem_map.mp h
      have h1 := Int.fmod_nonneg_of_pos (x.fmod 36) (show (0 : Int) < 3 by decide)
      have h2 := Int.fmod_lt_of_pos (x.fmod 36) (show (0 : Int) < 3 by decide)
      omega
    · have := List.mem_of_mem_drop h
      simp only [List.mem_cons, List.not_mem_nil, or_false] at this
      omega
  · unfold kindsOf
    rw [List.length_append, List.length_map, List.length_drop]
    simp only [List.length_cons, List.length_nil]
    omega
  · unfold kindsOf
    have := List.length_take_le 7 ns
    rw [List.length_append, List.length_map, List.length_drop]
    simp only [List.length_cons, List.length_nil]
    omega
theorem Fig.len {fs : List Int} (h : Fig fs) : 4 ≤ fs.length ∧ fs.length ≤ 7 := by
  obtain ⟨c, ks, rfl, -, -, -, h1, h2⟩ := h
  rw [List.length_map]
  exact ⟨h1, h2⟩
theorem Fig.bd {fs : List Int} (h : Fig fs) : ∀ f ∈ fs, 1 ≤ f ∧ f ≤ 14 := by
  obtain ⟨c, ks, rfl, h1, h2, h3, -, -⟩ := h
  intro f hf
  obtain ⟨k, hk, rfl⟩ := List.mem_map.mp hf
  have := h3 k hk
  omega
def numOf (fs : List Int) : Int := ((List.range fs.length).map fun k => fs.getD k 0 * 16 ^ (fs.length - 1 - k)).sum
theorem numOf_cons (f : Int) (r : List Int) : numOf (f :: r) = f * 16 ^ r.length + numOf r := by
  unfold numOf
  rw [List.length_cons, List.range_succ_eq_map, List.map_cons, List.sum_cons, List.map_map]
  congr 1
  congr 1
  refine List.map_congr_left fun k hk => ?_
  have := List.mem_range.mp hk
  simp only [Function.comp, List.getD_cons_succ]
  rw [show r.length + 1 - 1 - k.succ = r.length - 1 - k by omega]
theorem numOf_bd : ∀ {fs : List Int}, (∀ f ∈ fs, 0 ≤ f ∧ f ≤ 15) → 0 ≤ numOf fs ∧ numOf fs < 16 ^ fs.length
  | [], _ => by decide
  | f :: r, h => by
    have ih := numOf_bd (fs := r) fun g hg => h g (List.mem_cons_of_mem _ hg)
    have hf := h f (List.mem_cons_self ..)
    rw [numOf_cons, List.length_cons, Int.pow_succ]
    have hp : (0 : Int) ≤ 16 ^ r.length := Int.le_of_lt (Int.pow_pos (by decide))
    have h1 : 0 ≤ f * 16 ^ r.length := Int.mul_nonneg hf.1 hp
    have h2 : f * 16 ^ r.length ≤ 15 * 16 ^ r.length := Int.mul_le_mul_of_nonneg_right hf.2 hp
    omega
theorem pow7 {n : Nat} (h : n ≤ 7) : (16 : Int) ^ n ≤ 268435456 := by
  have : n = 0 ∨ n = 1 ∨ n = 2 ∨ n = 3 ∨ n = 4 ∨ n = 5 ∨ n = 6 ∨ n = 7 := by omega
  rcases this with rfl | rfl | rfl | rfl | rfl | rfl | rfl | rfl <;> decide
theorem Fig.num {fs : List Int} (h : Fig fs) : 0 ≤ numOf fs ∧ numOf fs < 16 ^ fs.length ∧ numOf fs < 268435456 := by
  have a := numOf_bd (fs := fs) fun f hf => by have := h.bd f hf; omega
  have b := pow7 h.len.2
  omega
theorem numOf_nil : numOf [] = 0 := rfl
theorem numOf_snoc (r : List Int) (f : Int) : numOf (r ++ [f]) = 16 * numOf r + f := by
  induction r with
  | nil => rw [List.nil_append, numOf_cons, numOf_nil]; simp
  | cons a r ih =>
    rw [List.cons_append, numOf_cons, numOf_cons, ih, List.length_append, List.length_cons, List.length_nil, Int.pow_succ]
    generalize (16 : Int) ^ r.length = p
    rw [Int.mul_add, ← Int.mul_assoc a p 16, Int.mul_comm (a * p) 16]
    omega
def wordB (fs : List Int) : List UInt8 := fs.map fun f => UInt8.ofNat (65 + f.toNat)
theorem apL_num (acc : List UInt8) : ∀ (k : Nat) (fs : List Int), fs.length = k → (∀ f ∈ fs, 1 ≤ f ∧ f ≤ 15) → apL (numOf fs).natAbs acc = wordB fs ++ acc
  | 0, fs, hk, _ => by rw [List.eq_nil_of_length_eq_zero hk, numOf_nil]; exact apL_zero acc
  | k + 1, fs, hk, h => by
    have hne : fs ≠ [] := by intro e; rw [e] at hk; cases hk
    have e := (List.dropLast_concat_getLast hne).symm
    generalize fs.dropLast = r at e
    generalize fs.getLast hne = f at e
    subst e
    have hf := h f (by simp)
    have hr : ∀ g ∈ r, 1 ≤ g ∧ g ≤ 15 := fun g hg => h g (List.mem_append.mpr (.inl hg))
    have hb := numOf_bd (fs := r) fun g hg => by have := hr g hg; omega
    have hl : r.length = k := by simpa using hk
    rw [numOf_snoc, apL_step (by omega)]
    have e1 : (16 * numOf r + f).natAbs / 16 = (numOf r).natAbs := by omega
    have e2 : (16 * numOf r + f).natAbs % 16 = f.toNat := by omega
    rw [e1, e2, apL_num' r hl hr]
    simp [wordB]
where
  apL_num' {k : Nat} {f : Int} (r : List Int) (hl : r.length = k) (hr : ∀ g ∈ r, 1 ≤ g ∧ g ≤ 15) : apL (numOf r).natAbs (UInt8.ofNat (65 + f.toNat) :: acc) = wordB r ++ (UInt8.ofNat (65 + f.toNat) :: acc) := by
    exact apL_num _ k r hl hr
theorem numOf_lack : ∀ fs : List Int, numOf (fs.map fun f => 15 - f) = 16 ^ fs.length - 1 - numOf fs
  | [] => by decide
  | f :: r => by
    rw [List.map_cons, numOf_cons, numOf_cons, numOf_lack r, List.length_map, List.length_cons, Int.pow_succ]
    generalize (16 : Int) ^ r.length = p
    rw [Int.sub_mul]
    omega
theorem word_ints {fs : List Int} (h : ∀ f ∈ fs, 0 ≤ f ∧ f ≤ 15) : KBw.bInts (wordB fs).toArray = fs.map (fun f => 65 + f) := by
  unfold KBw.bInts wordB
  rw [List.map_map]
  refine List.map_congr_left fun f hf => ?_
  have := h f hf
  have e : (UInt8.ofNat (65 + f.toNat)).toNat = 65 + f.toNat := by
    rw [UInt8.toNat_ofNat']
    omega
  simp only [Function.comp]
  rw [e]
  omega
theorem getD_bd {fs : List Int} {a b : Int} (h : ∀ f ∈ fs, a ≤ f ∧ f ≤ b) {k : Nat} (hk : k < fs.length) : a ≤ fs.getD k 0 ∧ fs.getD k 0 ≤ b := by
  rw [List.getD_eq_getElem?_getD, List.getElem?_eq_getElem hk]
  exact h _ (List.getElem_mem hk)
theorem Fig.word {fs : List Int} (h : Fig fs) : apL (-numOf fs).natAbs [] = wordB fs := by
  rw [Int.natAbs_neg, apL_num [] _ fs rfl fun f hf => by have := h.bd f hf; omega, List.append_nil]
def lackB (fs : List Int) : List UInt8 := wordB (fs.map fun f => 15 - f)
theorem Fig.lack {fs : List Int} (h : Fig fs) : apL (16 ^ fs.length - 1 - numOf fs).natAbs [] = lackB fs := by
  rw [← numOf_lack, apL_num [] _ _ rfl fun f hf => ?_, List.append_nil]
  · rfl
  · obtain ⟨g, hg, rfl⟩ := List.mem_map.mp hf
    have := h.bd g hg
    omega
theorem Fig.lackI {fs : List Int} (h : Fig fs) : KBw.bInts (lackB fs).toArray = fs.map (fun f => 80 - f) := by
  unfold lackB
  rw [word_ints fun f hf => ?_, List.map_map]
  · refine List.map_congr_left fun f _ => ?_
    simp only [Function.comp]
    omega
  · obtain ⟨g, hg, rfl⟩ := List.mem_map.mp hf
    have := h.bd g hg
    omega
theorem Fig.wordI {fs : List Int} (h : Fig fs) : KBw.bInts (wordB fs).toArray = fs.map (fun f => 65 + f) := word_ints fun f hf => by have := h.bd f hf; omega
theorem arr_word {fs : List Int} (h : ∀ f ∈ fs, 1 ≤ f ∧ f ≤ 14) : byteArr (fs.map fun f => 65 + f) = (wordB fs).toArray := by
  unfold byteArr wordB
  rw [List.map_map]
  congr 1
  refine List.map_congr_left fun f hf => ?_
  have := h f hf
  simp only [Function.comp]
  rw [show (65 + f).toNat = 65 + f.toNat by omega]
theorem arr_lack {fs : List Int} (h : ∀ f ∈ fs, 1 ≤ f ∧ f ≤ 14) : byteArr (fs.map fun f => 80 - f) = (lackB fs).toArray := by
  unfold byteArr lackB wordB
  rw [List.map_map, List.map_map]
  congr 1
  refine List.map_congr_left fun f hf => ?_
  have := h f hf
  simp only [Function.comp]
  rw [show (80 - f).toNat = 65 + (15 - f).toNat by omega]
theorem in_word {fs : List Int} (h : ∀ f ∈ fs, 1 ≤ f ∧ f ≤ 14) : KBa.In (fs.map fun f => 65 + f) := fun x hx => by
  obtain ⟨f, hf, rfl⟩ := List.mem_map.mp hx
  have := h f hf
  omega
theorem in_lack {fs : List Int} (h : ∀ f ∈ fs, 1 ≤ f ∧ f ≤ 14) : KBa.In (fs.map fun f => 80 - f) := fun x hx => by
  obtain ⟨f, hf, rfl⟩ := List.mem_map.mp hx
  have := h f hf
  omega
def chrOf (f : Int) : PySem.Str := ⟨#[(65 + f).toNat]⟩
theorem strs_turn {fs : List Int} {j : Nat} {c : UInt8} {t : Tok} {ys : List Value} (h : ∀ f ∈ fs, 1 ≤ f ∧ f ≤ 14) (hj : j < (wordB fs).toArray.size) (hc : (wordB fs).toArray[j]? = some c) (hR : StrsAre ys ((fs.take j).map chrOf)) :
    StrsAre (ys ++ [Value.str ⟨#[((c.toNat : Nat) : Int).toNat]⟩ t]) ((fs.take (j + 1)).map chrOf) := by
  have hj' : j < fs.length := by simpa [wordB] using hj
  have e : fs.take (j + 1) = fs.take j ++ [fs[j]] := List.take_succ_eq_append_getElem hj'
  rw [e, List.map_append]
  refine StrsAre.append' hR ?_
  have hb := h _ (List.getElem_mem hj')
  simp only [wordB, List.getElem?_toArray, List.getElem?_map, List.getElem?_eq_getElem hj', Option.map_some, Option.some.injEq] at hc
  have : ((c.toNat : Nat) : Int).toNat = (65 + fs[j]).toNat := by
    rw [← hc, UInt8.toNat_ofNat']
    omega
  rw [this]
  exact .cons _ _ .nil
def textOf (fs : List Int) : PySem.Str := ⟨(fs.map fun f => (65 + f).toNat).toArray⟩
theorem join_hok (fs : List Int) (h : fs.length ≤ 7) : ((fs.map chrOf).map (·.length)).sum + (fs.map chrOf).length * (PySem.Str.ofString "").length ≤ 16777216 := by
  have e : ∀ l : List Int, ((l.map chrOf).map (·.length)).sum = l.length := by
    intro l
    induction l with
    | nil => rfl
    | cons a r ih => rw [List.map_cons, List.map_cons, List.sum_cons, ih, List.length_cons]; simp only [chrOf, PySem.Str.length]; simp; omega
  rw [e, show (PySem.Str.ofString "").length = 0 from rfl]
  omega
theorem fold_chr : ∀ (r : List Int) (a : Array Nat), (r.map chrOf).foldl (fun acc p => acc ++ (PySem.Str.ofString "").cps ++ p.cps) a = a ++ (r.map fun f => (65 + f).toNat).toArray
  | [], a => by simp
  | f :: r, a => by
    rw [List.map_cons, List.foldl_cons, fold_chr r, List.map_cons, show (PySem.Str.ofString "").cps = #[] from rfl, Array.append_empty]
    apply Array.toList_inj.mp
    simp [chrOf]
theorem join_chr (fs : List Int) : Txt.join (PySem.Str.ofString "") (fs.map chrOf) = textOf fs := by
  cases fs with
  | nil => rfl
  | cons f r =>
    show PySem.Str.mk ((r.map chrOf).foldl (fun acc p => acc ++ (PySem.Str.ofString "").cps ++ p.cps) (chrOf f).cps) = _
    rw [fold_chr]
    unfold textOf
    congr 1
    apply Array.toList_inj.mp
    simp [chrOf]
theorem text_len (fs : List Int) : (textOf fs).length = fs.length := by simp [textOf, PySem.Str.length]
theorem Fig.df {fs : List Int} (h : Fig fs) : DF (textOf fs) := fun c hc => by
  simp only [textOf, List.mem_map] at hc
  obtain ⟨f, hf, rfl⟩ := hc
  have := h.bd f hf
  omega
def toldRow (fs : List Int) (i : Nat) : List Bool := (List.range fs.length).map fun (j : Nat) => alikeP (textOf fs) (i : Int) ((j : Int) + 1)
theorem bools_snoc {ys : List Value} {bs : List Bool} {b b' : Bool} (h : LSm.BoolsAre ys bs) (e : b = b') : LSm.BoolsAre (ys ++ [.bool b]) (bs ++ [b']) := e ▸ kbo_app h (.cons _ .nil)
def isPer (fs : List Int) (k : Nat) : Bool := (numOf fs).fdiv (16 ^ (k + 1)) == (numOf fs).fmod (16 ^ (fs.length - (k + 1)))
def perUpto (fs : List Int) (j : Nat) : List Int := ((List.range j).filter (isPer fs)).map fun (k : Nat) => (k : Int) + 1
end
section
theorem perUpto_yes {fs : List Int} {j : Nat} (h : isPer fs j = true) : perUpto fs (j + 1) = perUpto fs j ++ [(j : Int) + 1] := by
  unfold perUpto
  rw [List.range_succ, List.filter_append, List.map_append, List.filter_cons_of_pos h]
  rfl
theorem perUpto_no {fs : List Int} {j : Nat} (h : isPer fs j = false) : perUpto fs (j + 1) = perUpto fs j := by
  unfold perUpto
  rw [List.range_succ, List.filter_append, List.map_append, List.filter_cons_of_neg (by simp [h])]
  simp
end
section
def tailsW (fs : List Int) : List Int := tailsRead (fs.map fun f => 65 + f)
def tailsL (fs : List Int) : List Int := tailsRead (fs.map fun f => 80 - f)
def topOf (r : List Int) : Int := r.max?.getD 0
def bestAt (r : List Int) (n : Nat) : Nat := r.idxOf (topOf (r.take n))
theorem top_eq {r : List Int} {M : Int} (h1 : M ∈ r) (h2 : ∀ a ∈ r, a ≤ M) : M = topOf r := by
  have : r.max? = some M := List.max?_eq_some_iff.mpr ⟨h1, h2⟩
  unfold topOf
  rw [this]
  rfl
theorem tailsW_len (fs : List Int) : (tailsW fs).length = fs.length + 1 := by simp [tailsW, tailsRead]
theorem tailsL_len (fs : List Int) : (tailsL fs).length = fs.length + 1 := by simp [tailsL, tailsRead]
theorem lst_listOf {vs : List Value} {n : Nat} : (listOf vs.toArray n) = (listOf vs.toArray n) := rfl
def rdAt (fs : List Int) (j : Nat) : List Int := if j = 0 then tailsW fs else tailsL fs
theorem rdAt_len (fs : List Int) (j : Nat) : (rdAt fs j).length = fs.length + 1 := by
  unfold rdAt
  split
  · exact tailsW_len fs
  · exact tailsL_len fs
theorem reads_at {fs : List Int} {D1 D2 : Addr} {v1 v2 : List Value} {k1 k2 j : Nat} {v : Value} {h₀ h : Heap} {L : Addr} {led : List (Addr × Obj)} (N : News h₀ L h led) (hj : j < 2) (hv : [Value.ref D1, Value.ref D2][j]? = some v) (h1 : IntsAre v1 (tailsW fs)) (h2 : IntsAre v2 (tailsL fs)) (m1 : (D1, listOf v1.toArray k1) ∈ led) (m2 : (D2, listOf v2.toArray k2) ∈ led) :
    ∃ D vs k, v = .ref D ∧ (D, listOf vs.toArray k) ∈ led ∧ IntsAre vs (rdAt fs j) := by
  have : j = 0 ∨ j = 1 := by omega
  rcases this with rfl | rfl
  · exact ⟨D1, v1, k1, by simpa using hv.symm, m1, h1⟩
  · exact ⟨D2, v2, k2, by simpa using hv.symm, m2, h2⟩
theorem mem_range2 {fs : List Int} {P : Int} (h : P ∈ (List.range 2).map fun k => ((bestAt (rdAt fs k) fs.length : Nat) : Int)) (hu : ∀ a ∈ (List.range 2).map fun k => ((bestAt (rdAt fs k) fs.length : Nat) : Int), a ≤ P) :
    P = ((max (bestAt (tailsW fs) fs.length) (bestAt (tailsL fs) fs.length) : Nat) : Int) := by
  have e : (List.range 2).map (fun k => ((bestAt (rdAt fs k) fs.length : Nat) : Int)) = [((bestAt (tailsW fs) fs.length : Nat) : Int), ((bestAt (tailsL fs) fs.length : Nat) : Int)] := rfl
  rw [e] at h hu
  have u1 := hu _ (List.mem_cons_self ..)
  have u2 := hu _ (List.mem_cons_of_mem _ (List.mem_cons_self ..))
  simp only [List.mem_cons, List.not_mem_nil, or_false] at h
  omega
def placeOf (fs : List Int) : Nat := max (bestAt (tailsW fs) fs.length) (bestAt (tailsL fs) fs.length)
end
section
section al
open PySem.Builtin PySem.Builtin.Str PySem.StrLaws
theorem nil_list : PySem.Str.empty.cps.toList = [] := rfl
theorem ell_left (a got : PySem.Str) : ellAB a PySem.Str.empty got = (got.cps.toList.take a.cps.toList.length == a.cps.toList) := by
  unfold ellAB
  rw [starts_list, len_list, show decide (PySem.Str.empty.length = 0) = true from rfl, show PySem.Str.empty.length = 0 from rfl, Nat.add_zero]
  have hl := len_list got
  by_cases h0 : a.length = 0
  · have : a.cps.toList = [] := List.eq_nil_of_length_eq_zero (by rw [len_list]; exact h0)
    simp [h0, this]
  · by_cases h1 : a.length ≤ got.length
    · simp [h0, h1]
    · have h2 : ¬ got.cps.toList.take a.length = a.cps.toList := fun e => by
        have := congrArg List.length e
        rw [List.length_take, len_list, len_list] at this
        omega
      rw [beq_eq_false_iff_ne.mpr h2]
      simp [h0]
theorem ell_right (b got : PySem.Str) (hb : b.length ≤ got.length) : ellAB PySem.Str.empty b got = (got.cps.toList.drop (got.cps.toList.length - b.cps.toList.length) == b.cps.toList) := by
  unfold ellAB
  rw [ends_list, len_list, len_list, show decide (PySem.Str.empty.length = 0) = true from rfl, show PySem.Str.empty.length = 0 from rfl, Nat.zero_add]
  by_cases h0 : b.length = 0
  · have : b.cps.toList = [] := List.eq_nil_of_length_eq_zero (by rw [len_list]; exact h0)
    simp [h0, this]
    exact Nat.le_refl _
  · simp [h0, hb]
/-- the stretches ahead of and behind i by s are the same -/
def alikeL {α : Type} [BEq α] (L : List α) (i s : Nat) : Bool := seg L (i - s) (min i (L.length - s)) == seg L (i - s + s) (min i (L.length - s) + s)
theorem left_list (x : PySem.Str) (i s : Nat) (hs : 0 < s) (hi : i ≤ x.cps.toList.length) : (leftP x (i : Int) (s : Int)).cps.toList = (x.cps.toList.take i).drop (i - s) := by
  show (Txt.slice (Txt.slice x none (some (i : Int))) (some (-(s : Int))) none).cps.toList = _
  rw [slice_last _ _ hs, slice_to, List.length_take, Nat.min_eq_left hi]
theorem right_list (x : PySem.Str) (i s : Nat) : (rightP x (i : Int) (s : Int)).cps.toList = (x.cps.toList.drop i).take s := by
  show (Txt.slice (Txt.slice x (some (i : Int)) none) none (some (s : Int))).cps.toList = _
  rw [slice_to, slice_from]
theorem alikeP_list (x : PySem.Str) (i s : Nat) (hs : 0 < s) (hs2 : s ≤ x.cps.toList.length) (hi : i < x.cps.toList.length) : alikeP x (i : Int) (s : Int) = alikeL x.cps.toList i s := by
  have l1 := left_list x i s hs (by omega)
  have l2 := right_list x i s
  have n1 : (leftP x (i : Int) (s : Int)).length = i - (i - s) := by rw [← len_list, l1, List.length_drop, List.length_take]; omega
  have n2 : (rightP x (i : Int) (s : Int)).length = min s (x.cps.toList.length - i) := by rw [← len_list, l2, List.length_take, List.length_drop]
  unfold alikeP alikeL
  rw [n1, n2]
  generalize hL : x.cps.toList = L at *
  have hm1 : ∀ n : Nat, n - s + s - s = n - s := fun n => by rw [Nat.add_sub_cancel]
  by_cases c1 : i < s
  · have z : i - s = 0 := Nat.sub_eq_zero_of_le (Nat.le_of_lt c1)
    rw [z]
    by_cases c2 : L.length - i < s
    · rw [if_pos ⟨by omega, by omega⟩, ell_left, slice_from, hL, List.length_drop, Nat.min_eq_right (show L.length - s ≤ i by omega)]
      unfold seg
      rw [List.drop_zero, Nat.sub_zero, Nat.zero_add, hm1, List.take_of_length_le (l := L.drop s) (by rw [List.length_drop]; exact Nat.le_refl _)]
    · rw [if_neg (fun h => by omega), if_pos (by omega), ell_right _ _ (by rw [n1, n2]; omega), l1, l2, Nat.min_eq_left (show i ≤ L.length - s by omega), z]
      unfold seg
      rw [List.drop_zero, List.drop_zero, Nat.sub_zero, Nat.zero_add, Nat.add_sub_cancel, List.length_take, List.length_take, List.length_drop, Nat.min_eq_left (show s ≤ L.length - i by omega), Nat.min_eq_left (Nat.le_of_lt hi), List.drop_take, List.drop_drop, Nat.add_sub_cancel' (Nat.le_of_lt c1), Nat.sub_sub_self (Nat.le_of_lt c1)]
      exact Bool.eq_iff_iff.mpr (by rw [beq_iff_eq, beq_iff_eq]; exact eq_comm)
  · have c1' : s ≤ i := Nat.le_of_not_lt c1
    by_cases c2 : L.length - i < s
    · rw [if_neg (fun h => by omega), if_neg (by omega), if_pos (by omega), ell_left, l1, l2, Nat.min_eq_right (show L.length - s ≤ i by omega), Nat.sub_add_cancel c1', Nat.sub_add_cancel hs2]
      unfold seg
      rw [List.length_take, List.length_drop, Nat.min_eq_right (Nat.le_of_lt c2), List.take_of_length_le (l := L.drop i) (by rw [List.length_drop]; exact Nat.le_of_lt c2), List.take_of_length_le (l := L.drop i) (by rw [List.length_drop]; exact Nat.le_refl _), List.drop_take, List.take_take, show min (L.length - i) (i - (i - s)) = L.length - s - (i - s) by rw [Nat.sub_sub_self c1', Nat.min_eq_left (Nat.le_of_lt c2)]; omega]
    · rw [if_neg (fun h => by omega), if_neg (by omega), if_neg (by omega), str_beq, l1, l2, Nat.min_eq_left (show i ≤ L.length - s by omega), Nat.sub_add_cancel c1']
      unfold seg
      rw [Nat.add_sub_cancel_left, List.drop_take]
end al
end
section
theorem numOf_append (a b : List Int) : numOf (a ++ b) = numOf a * 16 ^ b.length + numOf b := by
  induction a with
  | nil => rw [List.nil_append, numOf_nil]; omega
  | cons x r ih =>
    rw [List.cons_append, numOf_cons, numOf_cons, ih, List.length_append, Int.pow_add, Int.add_mul, Int.mul_assoc]
    omega
theorem numOf_inj : ∀ {a b : List Int}, a.length = b.length → (∀ f ∈ a, 0 ≤ f ∧ f ≤ 15) → (∀ f ∈ b, 0 ≤ f ∧ f ≤ 15) → numOf a = numOf b → a = b
  | [], [], _, _, _, _ => rfl
  | [], _ :: _, h, _, _, _ => nomatch h
  | _ :: _, [], h, _, _, _ => nomatch h
  | x :: a, y :: b, h, ha, hb, e => by
    rw [numOf_cons, numOf_cons] at e
    have hl : a.length = b.length := by simpa using h
    have ba := numOf_bd (fs := a) fun f hf => ha f (List.mem_cons_of_mem _ hf)
    have bb := numOf_bd (fs := b) fun f hf => hb f (List.mem_cons_of_mem _ hf)
    rw [hl] at e ba
    have hp : (0 : Int) < 16 ^ b.length := Int.pow_pos (by decide)
    generalize (16 : Int) ^ b.length = p at *
    have hxy : x = y := by
      rcases Int.lt_trichotomy x y with h1 | h1 | h1
      · have : (x + 1) * p ≤ y * p := Int.mul_le_mul_of_nonneg_right (by omega) (by omega)
        rw [Int.add_mul] at this
        omega
      · exact h1
      · have : (y + 1) * p ≤ x * p := Int.mul_le_mul_of_nonneg_right (by omega) (by omega)
        rw [Int.add_mul] at this
        omega
    subst hxy
    rw [numOf_inj hl (fun f hf => ha f (List.mem_cons_of_mem _ hf)) (fun f hf => hb f (List.mem_cons_of_mem _ hf)) (by omega)]
theorem divmod_pow {q r p : Int} (h0 : 0 ≤ r) (h1 : r < p) : (q * p + r).fdiv p = q ∧ (q * p + r).fmod p = r := by
  have hp : 0 < p := by omega
  rw [Int.fdiv_eq_ediv_of_nonneg _ (by omega), Int.fmod_eq_emod_of_nonneg _ (by omega)]
  constructor
  · rw [Int.add_comm, Int.add_mul_ediv_right _ _ (by omega), Int.ediv_eq_zero_of_lt h0 h1]; omega
  · rw [Int.add_comm, Int.add_mul_emod_self_right]; exact Int.emod_eq_of_lt h0 h1
theorem num_hi {fs : List Int} (h : ∀ f ∈ fs, 0 ≤ f ∧ f ≤ 15) (m : Nat) : (numOf fs).fdiv (16 ^ (fs.length - m)) = numOf (fs.take m) := by
  have e := (List.take_append_drop m fs).symm
  have hd : ∀ f ∈ fs.drop m, 0 ≤ f ∧ f ≤ 15 := fun f hf => h f (List.mem_of_mem_drop hf)
  have b := numOf_bd hd
  have : numOf fs = numOf (fs.take m) * 16 ^ (fs.length - m) + numOf (fs.drop m) := by
    rw [← List.length_drop, ← numOf_append, List.take_append_drop]
  rw [this]
  rw [List.length_drop] at b
  exact (divmod_pow b.1 b.2).1
theorem num_lo {fs : List Int} (h : ∀ f ∈ fs, 0 ≤ f ∧ f ≤ 15) (m : Nat) : (numOf fs).fmod (16 ^ (fs.length - m)) = numOf (fs.drop m) := by
  have hd : ∀ f ∈ fs.drop m, 0 ≤ f ∧ f ≤ 15 := fun f hf => h f (List.mem_of_mem_drop hf)
  have b := numOf_bd hd
  have : numOf fs = numOf (fs.take m) * 16 ^ (fs.length - m) + numOf (fs.drop m) := by
    rw [← List.length_drop, ← numOf_append, List.take_append_drop]
  rw [this]
  rw [List.length_drop] at b
  exact (divmod_pow b.1 b.2).2
theorem num_seg {fs : List Int} (h : ∀ f ∈ fs, 0 ≤ f ∧ f ≤ 15) {b e : Nat} (hb : b ≤ e) (he : e ≤ fs.length) : ((numOf fs).fdiv (16 ^ (fs.length - e))).fmod (16 ^ (e - b)) = numOf (seg fs b e) := by
  rw [num_hi h e]
  have hl : (fs.take e).length = e := by rw [List.length_take]; omega
  have := num_lo (fs := fs.take e) (fun f hf => h f (List.mem_of_mem_take hf)) b
  rw [hl] at this
  rw [this]
  unfold seg
  rw [List.drop_take]
theorem num_beq {a b : List Int} (hl : a.length = b.length) (ha : ∀ f ∈ a, 0 ≤ f ∧ f ≤ 15) (hb : ∀ f ∈ b, 0 ≤ f ∧ f ≤ 15) : (numOf a == numOf b) = (a == b) := by
  by_cases e : a = b
  · subst e; simp
  · rw [beq_eq_false_iff_ne.mpr e, beq_eq_false_iff_ne.mpr fun x => e (numOf_inj hl ha hb x)]
theorem alikeD_list {fs : List Int} (h : ∀ f ∈ fs, 0 ≤ f ∧ f ≤ 15) (i s : Nat) (hs : 0 < s) (hs2 : s ≤ fs.length) (hi : i < fs.length) : alikeD (numOf fs) (fs.length : Int) (i : Int) (s : Int) = alikeL fs i s := by
  have he : (if (fs.length : Int) - (s : Int) < (i : Int) then (fs.length : Int) - (s : Int) else (i : Int)) = ((min i (fs.length - s) : Nat) : Int) := by
    split
    · rw [Nat.min_eq_right (by omega)]; omega
    · rw [Nat.min_eq_left (by omega)]
  have hb : (if (i : Int) - (s : Int) > 0 then (i : Int) - (s : Int) else 0) = ((i - s : Nat) : Int) := by split <;> omega
  have m1 : min i (fs.length - s) ≤ i := Nat.min_le_left _ _
  have m2 : min i (fs.length - s) + s ≤ fs.length := by
    have := Nat.min_le_right i (fs.length - s)
    omega
  have m3 : i - s ≤ min i (fs.length - s) := Nat.le_min.mpr ⟨Nat.sub_le _ _, by omega⟩
  unfold alikeD alikeL
  rw [he, hb]
  generalize min i (fs.length - s) = m at *
  clear he hb
  generalize hd : i - s = d at *
  clear hd
  have q1 := num_seg h (b := d) (e := m) m3 (by omega)
  have q2 := num_seg h (b := d + s) (e := m + s) (by omega) m2
  rw [show ((fs.length : Int) - (m : Int)).toNat = fs.length - m by clear q1 q2 h; omega, show ((m : Int) - (d : Int)).toNat = m - d by clear q1 q2 h; omega, show ((fs.length : Int) - (m : Int) - (s : Int)).toNat = fs.length - (m + s) by clear q1 q2 h; omega, q1]
  rw [Nat.add_sub_add_right] at q2
  rw [q2]
  refine num_beq ?_ (fun f hf => h f (seg_mem hf)) (fun f hf => h f (seg_mem hf))
  rw [seg_len, seg_len, Nat.add_sub_add_right, Nat.min_eq_left (by omega), Nat.min_eq_left (by omega)]
/-- a period: the stretch without its last s is the one without its first s -/
def perL {α : Type} [BEq α] (L : List α) (s : Nat) : Bool := L.take (L.length - s) == L.drop s
theorem isPer_list {fs : List Int} (h : ∀ f ∈ fs, 0 ≤ f ∧ f ≤ 15) {k : Nat} (hk : k < fs.length) : isPer fs k = perL fs (k + 1) := by
  unfold isPer perL
  have q1 := num_hi h (fs.length - (k + 1))
  rw [show fs.length - (fs.length - (k + 1)) = k + 1 by omega] at q1
  rw [q1, num_lo h]
  exact num_beq (by rw [List.length_take, List.length_drop]; omega) (fun f hf => h f (List.mem_of_mem_take hf)) (fun f hf => h f (List.mem_of_mem_drop hf))
theorem text_list (fs : List Int) : (textOf fs).cps.toList = fs.map fun f => (65 + f).toNat := by simp [textOf]
theorem alikeL_map {α β : Type} [BEq α] [LawfulBEq α] [BEq β] [LawfulBEq β] (g : α → β) (L : List α) (i s : Nat) (h : ∀ x ∈ L, ∀ y ∈ L, g x = g y → x = y) : alikeL (L.map g) i s = alikeL L i s := by
  unfold alikeL
  rw [List.length_map, seg_map, seg_map]
  exact map_beq _ _ _ fun x hx y hy => h x (seg_mem hx) y (seg_mem hy)
theorem perL_map {α β : Type} [BEq α] [LawfulBEq α] [BEq β] [LawfulBEq β] (g : α → β) (L : List α) (s : Nat) (h : ∀ x ∈ L, ∀ y ∈ L, g x = g y → x = y) : perL (L.map g) s = perL L s := by
  unfold perL
  rw [List.length_map, ← List.map_take, ← List.map_drop]
  exact map_beq _ _ _ fun x hx y hy => h x (List.mem_of_mem_take hx) y (List.mem_of_mem_drop hy)
theorem chr_inj {fs : List Int} (h : ∀ f ∈ fs, 0 ≤ f ∧ f ≤ 15) : ∀ x ∈ fs, ∀ y ∈ fs, (65 + x).toNat = (65 + y).toNat → x = y := fun x hx y hy e => by
  have := h x hx
  have := h y hy
  omega
theorem alikeP_fs {fs : List Int} (h : ∀ f ∈ fs, 0 ≤ f ∧ f ≤ 15) (i s : Nat) (hs : 0 < s) (hs2 : s ≤ fs.length) (hi : i < fs.length) : alikeP (textOf fs) (i : Int) (s : Int) = alikeL fs i s := by
  rw [alikeP_list _ _ _ hs (by rw [text_list, List.length_map]; exact hs2) (by rw [text_list, List.length_map]; exact hi), text_list]
  exact alikeL_map _ _ _ _ (chr_inj h)
end
section
/-- a row of digits to the base 64 -/
def V64 : List Int → Int
  | [] => 0
  | x :: l => x * 64 ^ l.length + V64 l
theorem V64_bd : ∀ {l : List Int}, (∀ x ∈ l, 0 ≤ x ∧ x ≤ 63) → 0 ≤ V64 l ∧ V64 l < 64 ^ l.length
  | [], _ => by decide
  | x :: l, h => by
    have ih := V64_bd (l := l) fun y hy => h y (List.mem_cons_of_mem _ hy)
    have hx := h x (List.mem_cons_self ..)
    unfold V64
    rw [List.length_cons, Int.pow_succ]
    have hp : (0 : Int) < 64 ^ l.length := Int.pow_pos (by decide)
    generalize (64 : Int) ^ l.length = p at *
    have h1 : 0 ≤ x * p := Int.mul_nonneg hx.1 (by omega)
    have h2 : x * p ≤ 63 * p := Int.mul_le_mul_of_nonneg_right hx.2 (by omega)
    omega
theorem fold_V64 : ∀ (l : List Int) (v : Int), l.foldl (fun v c => v * 64 + c % 64) v = v * 64 ^ l.length + V64 (l.map (· % 64))
  | [], v => by simp [V64]
  | x :: l, v => by
    rw [List.foldl_cons, fold_V64 l, List.map_cons, V64, List.length_cons, List.length_map, Int.pow_succ]
    generalize (64 : Int) ^ l.length = p
    rw [Int.add_mul, Int.mul_assoc, Int.mul_comm 64 p]
    omega
theorem V64_append (a b : List Int) : V64 (a ++ b) = V64 a * 64 ^ b.length + V64 b := by
  induction a with
  | nil => simp [V64]
  | cons x r ih =>
    rw [List.cons_append, V64, V64, ih, List.length_append, Int.pow_add, Int.add_mul, Int.mul_assoc]
    omega
theorem V64_rep : ∀ k : Nat, V64 (List.replicate k 0) = 0
  | 0 => rfl
  | k + 1 => by rw [List.replicate_succ, V64, V64_rep k]; omega
theorem V64_sum (e : Nat) : ∀ l : List Int, ((List.range l.length).map fun k => l.getD k 0 * 64 ^ (l.length + e - k)).sum = V64 l * 64 ^ (e + 1)
  | [] => by simp [V64]
  | x :: l => by
    rw [List.length_cons, List.range_succ_eq_map, List.map_cons, List.sum_cons, List.map_map, V64, Int.add_mul, ← V64_sum e l, Int.mul_assoc, ← Int.pow_add]
    have e1 : (List.map ((fun k => (x :: l).getD k 0 * (64 : Int) ^ (l.length + 1 + e - k)) ∘ Nat.succ) (List.range l.length)) = (List.range l.length).map fun k => l.getD k 0 * 64 ^ (l.length + e - k) := by
      refine List.map_congr_left fun k hk => ?_
      simp only [Function.comp, List.getD_cons_succ]
      rw [show l.length + 1 + e - k.succ = l.length + e - k by omega]
    rw [e1, List.getD_cons_zero, show l.length + 1 + e - 0 = l.length + (e + 1) by omega]
/-- the digits of the letters -/
def digs (ws : List Int) : List Int := ws.map (· - 64)
theorem digs_mod {ws : List Int} (h : ∀ c ∈ ws, 64 ≤ c ∧ c < 128) : ws.map (· % 64) = digs ws := List.map_congr_left fun c hc => by
  have := h c hc
  show c % 64 = c - 64
  omega
theorem readAt_eq {ws : List Int} (h : ∀ c ∈ ws, 64 ≤ c ∧ c < 128) {i : Nat} (hi : i < ws.length) : readAt ws i = 63 + V64 ((digs ws).drop i) * 64 ^ (i + 1) := by
  unfold readAt vfold csOf
  rw [fold_V64, if_pos hi, List.map_append, List.map_append, List.map_replicate, V64_append, V64_append, show ((64 : Int) % 64) = 0 by decide, V64_rep, List.length_replicate, digs_mod fun c hc => h c (List.mem_of_mem_drop hc), show digs (ws.drop i) = (digs ws).drop i by simp [digs, List.map_drop], List.map_cons, List.map_nil, List.length_singleton, Int.pow_succ (64 : Int) i, ← Int.mul_assoc, Int.zero_mul]
  simp only [V64, List.length_nil, Int.pow_zero]
  generalize V64 ((digs ws).drop i) * (64 : Int) ^ i = z
  omega
theorem readAt_end (ws : List Int) : readAt ws ws.length = 63 := by
  unfold readAt vfold csOf
  rw [if_neg (Nat.lt_irrefl _), List.drop_length]
  rfl
theorem dueAt_eq {ws : List Int} {i : Nat} (hi : i < ws.length) : dueAt ws i = 63 + V64 ((digs ws).drop i) * 64 ^ (i + 1) := by
  unfold dueAt
  rw [← V64_sum, show ((digs ws).drop i).length = ws.length - i by simp [digs]]
  congr 2
  refine List.map_congr_left fun k hk => ?_
  have hk' := List.mem_range.mp hk
  rw [show ws.length - i + i - k = ws.length - k by omega]
  congr 1
  simp only [digs, List.getD_eq_getElem?_getD, List.getElem?_drop, List.getElem?_map]
  rw [List.getElem?_eq_getElem (show i + k < ws.length by omega)]
  rfl
theorem plain_tails {ws : List Int} (h : ∀ c ∈ ws, 64 ≤ c ∧ c < 128) : tailsRead ws = tailsDue ws := by
  unfold tailsRead tailsDue
  rw [List.range_succ, List.map_append, List.map_singleton, readAt_end]
  congr 1
  exact List.map_congr_left fun i hi => by rw [readAt_eq h (List.mem_range.mp hi), dueAt_eq (List.mem_range.mp hi)]
end
section
/-- kinds as digits -/
def shift (c : Int) (ks : List Nat) : List Int := ks.map fun (k : Nat) => c + (k : Int)
theorem shift_bd {c : Int} {ks : List Nat} (hc : 1 ≤ c) (hc2 : c ≤ 61) (h : ∀ k ∈ ks, k ≤ 2) : ∀ x ∈ shift c ks, 0 ≤ x ∧ x ≤ 63 := fun x hx => by
  obtain ⟨k, hk, rfl⟩ := List.mem_map.mp hx
  have := h k hk
  omega
theorem shift_len (c : Int) (ks : List Nat) : (shift c ks).length = ks.length := by simp [shift]
theorem lexV {c : Int} (hc : 1 ≤ c) (hc2 : c ≤ 61) : ∀ (a b : List Nat) (N : Nat), a.length ≤ N → b.length ≤ N → (∀ k ∈ a, k ≤ 2) → (∀ k ∈ b, k ≤ 2) → lexN a b = true → V64 (shift c a) * 64 ^ (N - a.length) < V64 (shift c b) * 64 ^ (N - b.length)
  | [], [], _, _, _, _, _, h => nomatch h
  | _ :: _, [], _, _, _, _, _, h => nomatch h
  | [], y :: m, N, _, h2, _, hb, _ => by
    have b := V64_bd (shift_bd hc hc2 fun k hk => hb k (List.mem_cons_of_mem _ hk))
    show 0 * _ < (_ : Int)
    rw [Int.zero_mul]
    refine Int.mul_pos ?_ (Int.pow_pos (by decide))
    show 0 < (c + (y : Int)) * 64 ^ (shift c m).length + V64 (shift c m)
    have : 0 < (c + (y : Int)) * 64 ^ (shift c m).length := Int.mul_pos (by omega) (Int.pow_pos (by decide))
    omega
  | x :: l, y :: m, 0, h1, _, _, _, _ => nomatch h1
  | x :: l, y :: m, N + 1, h1, h2, ha, hb, h => by
    have hl : l.length ≤ N := by simpa using h1
    have hm : m.length ≤ N := by simpa using h2
    have ha' : ∀ k ∈ l, k ≤ 2 := fun k hk => ha k (List.mem_cons_of_mem _ hk)
    have hb' : ∀ k ∈ m, k ≤ 2 := fun k hk => hb k (List.mem_cons_of_mem _ hk)
    have e : ∀ (z : Nat) (r : List Nat), r.length ≤ N → V64 (shift c (z :: r)) * 64 ^ (N + 1 - (z :: r).length) = (c + (z : Int)) * 64 ^ N + V64 (shift c r) * 64 ^ (N - r.length) := fun z r hr => by
      show ((c + (z : Int)) * 64 ^ (shift c r).length + V64 (shift c r)) * _ = _
      rw [shift_len, List.length_cons, show N + 1 - (r.length + 1) = N - r.length by omega, Int.add_mul, Int.mul_assoc, ← Int.pow_add, show r.length + (N - r.length) = N by omega]
    have bd : ∀ r : List Nat, r.length ≤ N → (∀ k ∈ r, k ≤ 2) → 0 ≤ V64 (shift c r) * 64 ^ (N - r.length) ∧ V64 (shift c r) * 64 ^ (N - r.length) < 64 ^ N := fun r hr hk => by
      have b := V64_bd (shift_bd hc hc2 hk)
      have hp : (0 : Int) < 64 ^ (N - r.length) := Int.pow_pos (by decide)
      refine ⟨Int.mul_nonneg b.1 (by omega), ?_⟩
      have := Int.mul_lt_mul_of_pos_right b.2 hp
      rwa [shift_len, ← Int.pow_add, show r.length + (N - r.length) = N by omega] at this
    rw [e x l hl, e y m hm]
    unfold lexN at h
    have hp : (0 : Int) < 64 ^ N := Int.pow_pos (by decide)
    have b1 := bd l hl ha'
    have b2 := bd m hm hb'
    cases hlt : Nat.blt x y with
    | true =>
      have hxy : x < y := by simpa [Nat.blt_eq] using hlt
      have : (c + (x : Int) + 1) * 64 ^ N ≤ (c + (y : Int)) * 64 ^ N := Int.mul_le_mul_of_nonneg_right (by omega) (by omega)
      rw [Int.add_mul (c + (x : Int)) 1, Int.one_mul] at this
      omega
    | false =>
      rw [hlt, Bool.false_or, Bool.and_eq_true] at h
      have hxy : x = y := Nat.eq_of_beq_eq_true h.1
      subst hxy
      have := lexV hc hc2 l m N hl hm ha' hb' h.2
      omega
theorem best_top {ws : List Int} {ks : List Nat} {c : Int} (hw : ∀ x ∈ ws, 64 ≤ x ∧ x < 128) (hd : digs ws = shift c ks) (hc : 1 ≤ c) (hc2 : c ≤ 61) (hk : ∀ k ∈ ks, k ≤ 2) (h0 : 0 < ks.length) :
    bestAt (tailsRead ws) ks.length < ks.length ∧ topN (ks.drop (bestAt (tailsRead ws) ks.length)) ks = true := by
  have hn : ws.length = ks.length := by
    have := congrArg List.length hd
    simpa [digs, shift] using this
  have hT : (tailsRead ws).take ks.length = (List.range ks.length).map (readAt ws) := by
    unfold tailsRead
    rw [hn, List.range_succ, List.map_append, List.take_left' (by simp)]
  have hR : tailsRead ws = (List.range ks.length).map (readAt ws) ++ [readAt ws ks.length] := by
    unfold tailsRead
    rw [hn, List.range_succ, List.map_append, List.map_singleton]
  unfold bestAt
  rw [hT, hR]
  have hne : (List.range ks.length).map (readAt ws) ≠ [] := by
    intro e
    have := congrArg List.length e
    simp at this
    simp [this] at h0
  obtain ⟨M, hM⟩ : ∃ M, ((List.range ks.length).map (readAt ws)).max? = some M := by
    cases hm : ((List.range ks.length).map (readAt ws)).max? with
    | some M => exact ⟨M, rfl⟩
    | none => exact absurd (List.max?_eq_none_iff.mp hm) hne
  have hM2 := List.max?_eq_some_iff.mp hM
  have ht : topOf ((List.range ks.length).map (readAt ws)) = M := by unfold topOf; rw [hM]; rfl
  rw [ht, List.idxOf_append, if_pos hM2.1]
  have hlt : ((List.range ks.length).map (readAt ws)).idxOf M < ks.length := by
    have := List.idxOf_lt_length_iff.mpr hM2.1
    simpa using this
  refine ⟨hlt, ?_⟩
  have hp : readAt ws (((List.range ks.length).map (readAt ws)).idxOf M) = M := by
    have := List.getElem_idxOf (show ((List.range ks.length).map (readAt ws)).idxOf M < ((List.range ks.length).map (readAt ws)).length by simpa using hlt)
    rw [List.getElem_map, List.getElem_range] at this
    exact this
  generalize ((List.range ks.length).map (readAt ws)).idxOf M = p at *
  refine top_of fun j hj => ?_
  have hle : readAt ws j ≤ readAt ws p := by
    rw [hp]
    exact hM2.2 _ (List.mem_map.mpr ⟨j, List.mem_range.mpr hj, rfl⟩)
  cases hx : lexN (ks.drop p) (ks.drop j) with
  | false => rfl
  | true =>
    exfalso
    have := lexV hc hc2 (ks.drop p) (ks.drop j) (ks.length + 1) (by rw [List.length_drop]; omega) (by rw [List.length_drop]; omega) (fun k h => hk k (List.mem_of_mem_drop h)) (fun k h => hk k (List.mem_of_mem_drop h)) hx
    rw [readAt_eq hw (by omega), readAt_eq hw (by omega), hd] at hle
    rw [List.length_drop, List.length_drop, show ks.length + 1 - (ks.length - p) = p + 1 by omega, show ks.length + 1 - (ks.length - j) = j + 1 by omega] at this
    rw [show (shift c ks).drop j = shift c (ks.drop j) by simp [shift, List.map_drop], show (shift c ks).drop p = shift c (ks.drop p) by simp [shift, List.map_drop]] at hle
    omega
end
section
def sizesOf (fs : List Int) : List Int := (List.range fs.length).map fun k => 1 + (((toldRow fs k ++ [true]).idxOf true : Nat) : Int)
theorem Fig.bd15 {fs : List Int} (h : Fig fs) : ∀ f ∈ fs, 0 ≤ f ∧ f ≤ 15 := fun f hf => by
  have := h.bd f hf
  omega
/-- the kinds behind the figures -/
theorem Fig.kinds {fs : List Int} (h : Fig fs) : ∃ (c : Int) (ks : List Nat), fs = shift c ks ∧ 1 ≤ c ∧ c ≤ 12 ∧ (∀ k ∈ ks, k ≤ 2) ∧ 4 ≤ ks.length ∧ ks.length ≤ 7 := by
  obtain ⟨c, ks, rfl, h1, h2, h3, h4, h5⟩ := h
  refine ⟨c, ks.map Int.toNat, ?_, h1, h2, ?_, by simpa using h4, by simpa using h5⟩
  · unfold shift
    rw [List.map_map]
    refine List.map_congr_left fun k hk => ?_
    have := h3 k hk
    simp only [Function.comp]
    omega
  · intro k hk
    obtain ⟨z, hz, rfl⟩ := List.mem_map.mp hk
    have := h3 z hz
    omega
theorem shift_inj (c : Int) (ks : List Nat) : ∀ x ∈ ks, ∀ y ∈ ks, c + (x : Int) = c + (y : Int) → x = y := fun x _ y _ e => by omega
theorem min_case {i s n : Nat} (hs : s ≤ n) (hi : i < n) : min (min i s) (min (n - (i - s)) (n - (i - s + s))) = min i (n - s) - (i - s) := by
  rcases Nat.lt_or_ge i s with h | h
  · rw [Nat.sub_eq_zero_of_le (Nat.le_of_lt h), Nat.zero_add, Nat.sub_zero, Nat.sub_zero, Nat.min_eq_left (Nat.le_of_lt h), Nat.min_eq_right (Nat.sub_le n s)]
  · rw [Nat.sub_add_cancel h, Nat.min_eq_right h, Nat.min_eq_right (Nat.sub_le_sub_left (Nat.sub_le i s) n)]
    obtain ⟨t, rfl⟩ := Nat.exists_eq_add_of_le h
    obtain ⟨u, rfl⟩ := Nat.exists_eq_add_of_lt hi
    clear h hs hi
    rw [show s + t - s = t by omega, show s + t + u + 1 - (s + t) = u + 1 by omega, show s + t + u + 1 - s = t + (u + 1) by omega]
    omega
theorem alikeN_list (w : List Nat) (i s : Nat) (hs : s ≤ w.length) (hi : i < w.length) : alikeN w i s = alikeL w i s := by
  unfold alikeN alikeL seg
  rw [agree_eq, List.length_drop, List.length_drop, min_case hs hi, Nat.add_sub_add_right]
theorem perN_list (w : List Nat) (s : Nat) : perN w s = perL w s := by
  unfold perN perL
  rw [agree_eq, List.length_drop, Nat.min_eq_right (Nat.sub_le w.length s), Nat.min_eq_right (Nat.sub_le w.length s), List.take_of_length_le (l := w.drop s) (by rw [List.length_drop]; omega)]
/-- a period is a size at each cut -/
theorem per_alike {α : Type} [BEq α] [LawfulBEq α] {L : List α} {P i : Nat} (hp : perL L P = true) : alikeL L i P = true := by
  unfold perL at hp
  have hp := eq_of_beq hp
  have hm : min i (L.length - P) ≤ L.length - P := Nat.min_le_right _ _
  unfold alikeL seg
  generalize min i (L.length - P) = m at hm
  rw [beq_iff_eq]
  have e1 : (L.drop (i - P)).take (m - (i - P)) = ((L.take (L.length - P)).drop (i - P)).take (m - (i - P)) := by
    rw [List.drop_take, List.take_take, Nat.min_eq_left (Nat.sub_le_sub_right hm _)]
  rw [e1, hp, List.drop_drop, Nat.add_comm P (i - P), Nat.add_sub_add_right]
theorem digs_word {c : Int} {ks : List Nat} : digs ((shift c ks).map fun f => 65 + f) = shift (1 + c) ks := by
  unfold digs shift
  rw [List.map_map, List.map_map]
  refine List.map_congr_left fun k _ => ?_
  simp only [Function.comp]
  omega
theorem digs_lack {c : Int} {ks : List Nat} (hk : ∀ k ∈ ks, k ≤ 2) : digs ((shift c ks).map fun f => 80 - f) = shift (14 - c) (ks.map (2 - ·)) := by
  unfold digs shift
  rw [List.map_map, List.map_map, List.map_map]
  refine List.map_congr_left fun k h => ?_
  have := hk k h
  simp only [Function.comp]
  omega
/-- the least period; a place where it shows -/
theorem Fig.main {fs : List Int} (h : Fig fs) : ∃ P, 1 ≤ P ∧ P ≤ fs.length ∧ perL fs P = true ∧ placeOf fs < P ∧ placeOf fs < fs.length ∧ ∀ s, 1 ≤ s → s < P → perL fs s = false ∧ alikeL fs (placeOf fs) s = false := by
  have hb := h.bd
  obtain ⟨c, ks, rfl, h1, h2, h3, h4, h5⟩ := h.kinds
  have hr : ∀ k ∈ ks.map (2 - ·), k ≤ 2 := fun k hk => by
    obtain ⟨z, _, rfl⟩ := List.mem_map.mp hk
    omega
  have hrl : (ks.map (2 - ·)).length = ks.length := List.length_map ..
  have A := best_top (ws := (shift c ks).map fun f => 65 + f) (ks := ks) (c := 1 + c) (fun x hx => by obtain ⟨f, hf, rfl⟩ := List.mem_map.mp hx; have := hb f hf; omega) digs_word (by omega) (by omega) h3 (by omega)
  have B := best_top (ws := (shift c ks).map fun f => 80 - f) (ks := ks.map (2 - ·)) (c := 14 - c) (fun x hx => by obtain ⟨f, hf, rfl⟩ := List.mem_map.mp hx; have := hb f hf; omega) (digs_lack h3) (by omega) (by omega) hr (by omega)
  rw [hrl] at B
  have C := crit_all h4 h5 h3
  unfold critN at C
  have C1 := places_of C _ A.1 A.2
  have C2 := places_of C1 _ (by rw [hrl]; exact B.1) B.2
  rw [Nat.zero_add, Nat.zero_add] at C2
  have hpl : placeOf (shift c ks) = max (bestAt (tailsRead ((shift c ks).map fun f => 65 + f)) ks.length) (bestAt (tailsRead ((shift c ks).map fun f => 80 - f)) ks.length) := by
    unfold placeOf tailsW tailsL
    rw [shift_len]
  rw [← hpl] at C2
  have hlt : placeOf (shift c ks) < ks.length := by rw [hpl]; omega
  obtain ⟨P, g1, g2, g3, g4, g5⟩ := go_of C2
  have pe : ∀ s, perL (shift c ks) s = perL ks s := fun s => perL_map _ _ _ (shift_inj c ks)
  have ae : ∀ s, alikeL (shift c ks) (placeOf (shift c ks)) s = alikeL ks (placeOf (shift c ks)) s := fun s => alikeL_map _ _ _ _ (shift_inj c ks)
  refine ⟨P, g1, by rw [shift_len]; omega, by rw [pe, ← perN_list]; exact g3, g4, by rw [shift_len]; exact hlt, fun s s1 s2 => ?_⟩
  have q := g5 s s1 s2
  rw [pe, ae, ← perN_list, ← alikeN_list _ _ _ (by omega) hlt]
  exact q
theorem told_at {fs : List Int} (h : Fig fs) {i j : Nat} (hi : i < fs.length) (hj : j < fs.length) : (toldRow fs i)[j]? = some (alikeL fs i (j + 1)) := by
  unfold toldRow
  rw [List.getElem?_map, List.getElem?_range hj, Option.map_some, show ((j : Int) + 1) = ((j + 1 : Nat) : Int) by omega, alikeP_fs h.bd15 i (j + 1) (by omega) (by omega) hi]
theorem told_len (fs : List Int) (i : Nat) : (toldRow fs i).length = fs.length := by simp [toldRow]
theorem idx_le {l : List Bool} {k : Nat} (h : l[k]? = some true) : l.idxOf true ≤ k := by
  induction l generalizing k with
  | nil => simp at h
  | cons b l ih =>
    rw [List.idxOf_cons]
    cases b with
    | true => simp
    | false =>
      cases k with
      | zero => simp at h
      | succ k =>
        have := ih (k := k) (by simpa using h)
        simpa using this
theorem idx_ge {l : List Bool} {k : Nat} (h : ∀ j, j < k → l[j]? = some false) : k ≤ l.idxOf true := by
  induction l generalizing k with
  | nil =>
    cases k with
    | zero => exact Nat.zero_le _
    | succ k => have := h 0 (by omega); simp at this
  | cons b l ih =>
    cases k with
    | zero => exact Nat.zero_le _
    | succ k =>
      have h0 := h 0 (by omega)
      simp only [List.getElem?_cons_zero, Option.some.injEq] at h0
      subst h0
      rw [List.idxOf_cons]
      have := ih (k := k) fun j hj => by have := h (j + 1) (by omega); simpa using this
      simpa using this
theorem size_le {fs : List Int} (h : Fig fs) {i P : Nat} (hi : i < fs.length) (h1 : 1 ≤ P) (h2 : P ≤ fs.length) (hp : perL fs P = true) : (toldRow fs i ++ [true]).idxOf true ≤ P - 1 := by
  refine idx_le ?_
  rw [List.getElem?_append_left (by rw [told_len]; omega), told_at h hi (by omega), show P - 1 + 1 = P by omega, per_alike hp]
theorem size_ge {fs : List Int} (h : Fig fs) {i P : Nat} (hi : i < fs.length) (h2 : P ≤ fs.length) (hp : ∀ s, 1 ≤ s → s < P → alikeL fs i s = false) : P - 1 ≤ (toldRow fs i ++ [true]).idxOf true := by
  refine idx_ge fun j hj => ?_
  rw [List.getElem?_append_left (by rw [told_len]; omega), told_at h hi (by omega), hp (j + 1) (by omega) (by omega)]
theorem per_head {fs : List Int} (h : Fig fs) {P : Nat} (h1 : 1 ≤ P) (h2 : P ≤ fs.length) (hp : perL fs P = true) (hn : ∀ s, 1 ≤ s → s < P → perL fs s = false) : (perUpto fs fs.length).head? = some (P : Int) := by
  unfold perUpto
  rw [List.head?_map, List.head?_filter]
  have : (List.range fs.length).find? (isPer fs) = some (P - 1) := by
    refine List.find?_range_eq_some.mpr ⟨?_, List.mem_range.mpr (by omega), fun j hj => ?_⟩
    · rw [isPer_list h.bd15 (by omega), show P - 1 + 1 = P by omega]
      exact hp
    · rw [isPer_list h.bd15 (by omega), hn (j + 1) (by omega) (by omega)]
      rfl
  rw [this]
  simp only [Option.map_some, Option.some.injEq]
  omega
theorem per_pos {fs : List Int} (h : Fig fs) : 0 < (perUpto fs fs.length).length := by
  obtain ⟨P, h1, h2, h3, h4, h5, h6⟩ := h.main
  have := per_head h h1 h2 h3 fun s a b => (h6 s a b).1
  cases e : perUpto fs fs.length with
  | nil => rw [e] at this; simp at this
  | cons a l => simp
theorem per_first {fs : List Int} {P : Nat} (h : (perUpto fs fs.length).head? = some (P : Int)) : (perUpto fs fs.length).getD 0 0 = (P : Int) := by
  cases e : perUpto fs fs.length with
  | nil => rw [e] at h; simp at h
  | cons a l => rw [e] at h; simpa using h
theorem place_lt {fs : List Int} (h : Fig fs) : placeOf fs < fs.length := by
  obtain ⟨P, h1, h2, h3, h4, h5, h6⟩ := h.main
  exact h5
theorem sizes_at {fs : List Int} (h : Fig fs) {P : Nat} (h1 : 1 ≤ P) (h2 : P ≤ fs.length) (h3 : perL fs P = true) (h5 : placeOf fs < fs.length) (h6 : ∀ s, 1 ≤ s → s < P → alikeL fs (placeOf fs) s = false) : (toldRow fs (placeOf fs) ++ [true]).idxOf true = P - 1 := by
  have a := size_le h h5 h1 h2 h3
  have b := size_ge h h5 h2 h6
  omega
theorem plain_at {fs : List Int} (h : Fig fs) : (sizesOf fs).getD (placeOf fs) 0 = (perUpto fs fs.length).getD 0 0 := by
  obtain ⟨P, h1, h2, h3, h4, h5, h6⟩ := h.main
  rw [per_first (per_head h h1 h2 h3 fun s a b => (h6 s a b).1)]
  unfold sizesOf
  rw [List.getD_eq_getElem?_getD, List.getElem?_map, List.getElem?_range h5, Option.map_some, Option.getD_some, sizes_at h h1 h2 h3 h5 fun s a b => (h6 s a b).2]
  omega
theorem plain_top {fs : List Int} (h : Fig fs) : topOf (sizesOf fs) = (perUpto fs fs.length).getD 0 0 := by
  obtain ⟨P, h1, h2, h3, h4, h5, h6⟩ := h.main
  rw [per_first (per_head h h1 h2 h3 fun s a b => (h6 s a b).1)]
  refine (top_eq ?_ ?_).symm
  · refine List.mem_map.mpr ⟨placeOf fs, List.mem_range.mpr h5, ?_⟩
    rw [sizes_at h h1 h2 h3 h5 fun s a b => (h6 s a b).2]
    omega
  · intro a ha
    obtain ⟨i, hi, rfl⟩ := List.mem_map.mp ha
    have := size_le h (List.mem_range.mp hi) h1 h2 h3
    omega
theorem plain_lt {fs : List Int} (h : Fig fs) : (placeOf fs : Int) < (perUpto fs fs.length).getD 0 0 := by
  obtain ⟨P, h1, h2, h3, h4, h5, h6⟩ := h.main
  rw [per_first (per_head h h1 h2 h3 fun s a b => (h6 s a b).1)]
  omega
theorem plain_div {fs : List Int} (h : Fig fs) {i j : Nat} (hi : i < fs.length) (hj : j < fs.length) : alikeP (textOf fs) (i : Int) ((j : Int) + 1) = alikeD (numOf fs) (fs.length : Int) (i : Int) ((j : Int) + 1) := by
  rw [show ((j : Int) + 1) = ((j + 1 : Nat) : Int) by omega, alikeP_fs h.bd15 i (j + 1) (by omega) (by omega) hi, alikeD_list h.bd15 i (j + 1) (by omega) (by omega) hi]
theorem per_any {fs : List Int} (h : Fig fs) {j : Nat} (hj : j < fs.length) : (perUpto fs fs.length).any (· == (j : Int) + 1) = perL fs (j + 1) := by
  rw [← isPer_list h.bd15 hj]
  unfold perUpto
  cases hp : isPer fs j with
  | true =>
    rw [List.any_eq_true]
    exact ⟨(j : Int) + 1, List.mem_map.mpr ⟨j, List.mem_filter.mpr ⟨List.mem_range.mpr hj, hp⟩, rfl⟩, by simp⟩
  | false =>
    rw [List.any_eq_false]
    intro x hx e
    obtain ⟨k, hk, rfl⟩ := List.mem_map.mp hx
    have hk2 := (List.mem_filter.mp hk).2
    have : k = j := by have := eq_of_beq e; omega
    rw [this, hp] at hk2
    cases hk2
theorem plain_ends {fs : List Int} (h : Fig fs) {j : Nat} (hj : j < fs.length) : ellAB (Txt.slice (textOf fs) (some ((j : Int) + 1)) none) (Txt.slice (textOf fs) none (some ((fs.length : Int) - ((j : Int) + 1)))) (textOf fs) = ((perUpto fs fs.length).any (· == (j : Int) + 1) && decide ((fs.length : Int) ≤ 2 * ((j : Int) + 1))) := by
  rw [per_any h hj]
  have hm : perL (textOf fs).cps.toList (j + 1) = perL fs (j + 1) := by
    rw [text_list]
    exact perL_map _ _ _ (chr_inj h.bd15)
  rw [← hm, show ((j : Int) + 1) = ((j + 1 : Nat) : Int) by omega, show ((fs.length : Int) - ((j + 1 : Nat) : Int)) = ((fs.length - (j + 1) : Nat) : Int) by omega]
  have hl : (textOf fs).cps.toList.length = fs.length := by rw [text_list, List.length_map]
  have a1 := slice_from (textOf fs) (j + 1)
  have b1 := slice_to (textOf fs) (fs.length - (j + 1))
  have a2 : (Txt.slice (textOf fs) (some ((j + 1 : Nat) : Int)) none).length = fs.length - (j + 1) := by rw [← len_list, a1, List.length_drop, hl]
  have b2 : (Txt.slice (textOf fs) none (some ((fs.length - (j + 1) : Nat) : Int))).length = fs.length - (j + 1) := by rw [← len_list, b1, List.length_take, hl]; omega
  have g2 : (textOf fs).length = fs.length := by rw [← len_list, hl]
  unfold ellAB
  rw [starts_list, ends_list, a1, b1, a2, b2, g2, List.length_drop, List.length_take, hl, Nat.min_eq_left (show fs.length - (j + 1) ≤ fs.length by omega), show fs.length - (fs.length - (j + 1)) = j + 1 by omega]
  unfold perL
  rw [hl]
  have e3 : decide (fs.length - (j + 1) + (fs.length - (j + 1)) ≤ fs.length) = decide ((fs.length : Int) ≤ 2 * ((j + 1 : Nat) : Int)) := by
    by_cases c : fs.length - (j + 1) + (fs.length - (j + 1)) ≤ fs.length
    · rw [decide_eq_true c, decide_eq_true (by omega)]
    · rw [decide_eq_false c, decide_eq_false (by omega)]
  rw [e3, decide_eq_true (show fs.length - (j + 1) ≤ fs.length by omega), Bool.true_and]
  congr 1
  by_cases h0 : fs.length - (j + 1) = 0
  · have n1 : (textOf fs).cps.toList.drop (j + 1) = [] := List.drop_of_length_le (by rw [hl]; omega)
    rw [h0, n1, List.take_zero]
    rfl
  · rw [decide_eq_false h0, Bool.false_or, Bool.false_or]
    generalize (textOf fs).cps.toList.take (fs.length - (j + 1)) = x
    generalize (textOf fs).cps.toList.drop (j + 1) = y
    by_cases e : x = y
    · subst e; simp
    · rw [beq_eq_false_iff_ne.mpr e, Bool.false_and]
end
structure Hole (p : Prop) : Prop where
  out : p
noncomputable def mkSt {P G : Prop} (h : Hole G → P) : {G : Prop // Hole G → P} := ⟨G, h⟩
section
local macro_rules | `(tactic| kas_types) => `(tactic| ((rename _ ∧ _ => hx9); (have ha9 := hx9.1); (have hb9 := hx9.2); (clear hx9); first | exact ha9 | exact Ne.symm ha9 | exact hb9 | exact Ne.symm hb9 | exact Nat.ne_of_lt ha9 | exact Nat.ne_of_gt ha9 | exact Nat.ne_of_lt hb9 | exact Nat.ne_of_gt hb9 | ((clear ha9); kas_types)))
local macro_rules | `(tactic| k_ne) => `(tactic| ((refine neN ?_); (try dsimp only); first | assumption | exact Ne.symm (by assumption) | kas_types | omega))
local macro_rules | `(tactic| ksw_same) => `(tactic| (intro z h2 h3; (try simp only [List.forall_mem_cons, List.not_mem_nil, false_implies, implies_true, and_true, ne_eq] at h2); (try simp only [List.contains_cons, List.contains_nil, Bool.or_false, Bool.or_eq_false_iff, beq_eq_false_iff_ne, ne_eq] at h3); simp [env9, tokd, kstB, h2, h3]))
local macro_rules | `(tactic| walk_at "call type:range") => `(tactic| ((rename Fr _ _ _ _ => F'); (rename News _ _ _ _ => N'); first | (with_unfolding_all refine range1_rows F' N' ?_; intro _ _ _ _ _ _ _ _ _) | (with_unfolding_all refine range2_rows F' N' ?_; intro _ _ _ _ _ _ _ _ _)))
local macro_rules | `(tactic| k_all) => `(tactic| first | exact ne_of_all (by assumption) | exact ne_of_allLt (by assumption) | exact ne_of_off (by assumption))
noncomputable def stLw : {G : Prop // Hole G → PySem.Challenge.rw_ty0005_01.Holds} := mkSt (by
  intro hG
  refine hd ?_
  w_strict (k_go0; (all_goals try k_fold))
  w_strict (repeat' ((fail_if_success first | (with_reducible show wpAny _ _ (call (Value.builtin "next") _) _ _ _) | (with_reducible show wpAny _ _ (call (Value.builtin "iter") _) _ _ _) | (with_reducible show wpAny _ _ (pyIter _) _ _ _) | (with_reducible show wpAny _ _ (exec (Stmt.While _ _ _ _) _) _ _ _) | (with_reducible show wpAny _ _ (call (Value.ref 21) _) _ _ _) | (with_reducible show wpAny _ _ (call (Value.ref 35) _) _ _ _) | (with_reducible show wpAny _ _ (call (Value.ref 40) _) _ _ _) | (with_reducible show wpAny _ _ (call (Value.ref 45) _) _ _ _) | (with_reducible show wpAny _ _ (call (Value.ref 50) _) _ _ _) | (with_reducible show wpAny _ _ (call (Value.ref 57) _) _ _ _) | (with_reducible show wpAny _ _ (call (Value.ref 64) _) _ _ _) | (with_reducible show wpAny _ _ (call (Value.builtin "len") [Value.ref _]) _ _ _) | (with_reducible show wpAny _ _ (call (Value.builtin "sum") [Value.ref _]) _ _ _) | (with_reducible show wpAny _ _ (call (Value.builtin "max") _) _ _ _) | (with_reducible show wpAny _ _ (eval (Expr.ListComp _ _ _ _) _) _ _ _) | (with_reducible show LCg.CompSrc _ _ _ _ _ _ _ _ _ _ _ _ _ _)); first | (k_unfold; (try dsimp only)) | (k_end; kc_close) | walk1 | (dsimp only; walk1) | (leave1; walk_say "STEP leave1"; (try dsimp only)) | fail "no step"))
  repeat (rename _ => zz; revert zz)
  exact fun h => h.out)
end
section
local macro_rules | `(tactic| kas_types) => `(tactic| ((rename _ ∧ _ => hx9); (have ha9 := hx9.1); (have hb9 := hx9.2); (clear hx9); first | exact ha9 | exact Ne.symm ha9 | exact hb9 | exact Ne.symm hb9 | exact Nat.ne_of_lt ha9 | exact Nat.ne_of_gt ha9 | exact Nat.ne_of_lt hb9 | exact Nat.ne_of_gt hb9 | ((clear ha9); kas_types)))
local macro_rules | `(tactic| k_ne) => `(tactic| ((refine neN ?_); (try dsimp only); first | assumption | exact Ne.symm (by assumption) | kas_types | omega))
local macro_rules | `(tactic| ksw_same) => `(tactic| (intro z h2 h3; (try simp only [List.forall_mem_cons, List.not_mem_nil, false_implies, implies_true, and_true, ne_eq] at h2); (try simp only [List.contains_cons, List.contains_nil, Bool.or_false, Bool.or_eq_false_iff, beq_eq_false_iff_ne, ne_eq] at h3); simp [env9, tokd, kstB, h2, h3]))
local macro_rules | `(tactic| walk_at "call type:range") => `(tactic| ((rename Fr _ _ _ _ => F'); (rename News _ _ _ _ => N'); first | (with_unfolding_all refine range1_rows F' N' ?_; intro _ _ _ _ _ _ _ _ _) | (with_unfolding_all refine range2_rows F' N' ?_; intro _ _ _ _ _ _ _ _ _)))
local macro_rules | `(tactic| k_all) => `(tactic| first | exact ne_of_all (by assumption) | exact ne_of_allLt (by assumption) | exact ne_of_off (by assumption))
noncomputable def stLwB : {G : Prop // Hole G → stLw.1} := mkSt (by
  intro hG
  intro _
  intros
  rename Heap.IsList _ _ (List.toArray _) => hLs
  rename ¬ ((63 : Nat) : Int) < _ => h63
  rename IntsAre _ _ => hIs
  refine' c_fig _ _ _ _ _ _ _ _ _ _ _ _ _ _ _ _ _ _ _ _ _ _ _ _ _ ?k1 ?k2 ?k3 ?k4 ?k5 ?kK ?kp ?kd ?ku ?kR
  case k1 => k_asm
  case k2 => k_asm
  case k3 => k_asm
  case k4 => k_asm
  case k5 => k_asm
  case kK => exact rfl
  case kp => (refine' ⟨hLs, hIs, ?_⟩; omega)
  case kd => ktr_room
  case ku => ktr_units
  intro r9 n9 h9 tk9 F9 N9 O9
  obtain ⟨Df, vf, kf, rfl, rfl, hf, of⟩ := O9
  simp only [LCg.Off1] at of
  have of' := of
  obtain ⟨of1, of2, of3, of4, -⟩ := of'
  rename IntsAre vf (figsOf _) => hf
  have hfg := (fun ns (h : IntsAre vf (figsOf ns)) => fig_of ns) _ hf
  generalize figsOf _ = fs at hf hfg
  have hfl := hfg.len
  have hfb := hfg.bd
  have hvl := hf.length
  w_strict (repeat' ((fail_if_success first | (with_reducible show wpAny _ _ (call (Value.builtin "next") _) _ _ _) | (with_reducible show wpAny _ _ (call (Value.builtin "iter") _) _ _ _) | (with_reducible show wpAny _ _ (pyIter _) _ _ _) | (with_reducible show wpAny _ _ (exec (Stmt.While _ _ _ _) _) _ _ _) | (with_reducible show wpAny _ _ (call (Value.ref 21) _) _ _ _) | (with_reducible show wpAny _ _ (call (Value.ref 35) _) _ _ _) | (with_reducible show wpAny _ _ (call (Value.ref 40) _) _ _ _) | (with_reducible show wpAny _ _ (call (Value.ref 45) _) _ _ _) | (with_reducible show wpAny _ _ (call (Value.ref 50) _) _ _ _) | (with_reducible show wpAny _ _ (call (Value.ref 57) _) _ _ _) | (with_reducible show wpAny _ _ (call (Value.ref 64) _) _ _ _) | (with_reducible show wpAny _ _ (call (Value.builtin "len") [Value.ref _]) _ _ _) | (with_reducible show wpAny _ _ (call (Value.builtin "sum") [Value.ref _]) _ _ _) | (with_reducible show wpAny _ _ (call (Value.builtin "max") _) _ _ _) | (with_reducible show wpAny _ _ (eval (Expr.ListComp _ _ _ _) _) _ _ _) | (with_reducible show LCg.CompSrc _ _ _ _ _ _ _ _ _ _ _ _ _ _)); first | (k_unfold; (try dsimp only)) | (k_end; kc_close) | walk1 | (dsimp only; walk1) | (leave1; walk_say "STEP leave1"; (try dsimp only)) | fail "no step"))
  refine KM.len_K (by k_asm) (by k_mem) (by exact hvl) (by omega) ?_
  w_strict (repeat' ((fail_if_success first | (with_reducible show wpAny _ _ (call (Value.builtin "next") _) _ _ _) | (with_reducible show wpAny _ _ (call (Value.builtin "iter") _) _ _ _) | (with_reducible show wpAny _ _ (pyIter _) _ _ _) | (with_reducible show wpAny _ _ (exec (Stmt.While _ _ _ _) _) _ _ _) | (with_reducible show wpAny _ _ (call (Value.ref 21) _) _ _ _) | (with_reducible show wpAny _ _ (call (Value.ref 35) _) _ _ _) | (with_reducible show wpAny _ _ (call (Value.ref 40) _) _ _ _) | (with_reducible show wpAny _ _ (call (Value.ref 45) _) _ _ _) | (with_reducible show wpAny _ _ (call (Value.ref 50) _) _ _ _) | (with_reducible show wpAny _ _ (call (Value.ref 57) _) _ _ _) | (with_reducible show wpAny _ _ (call (Value.ref 64) _) _ _ _) | (with_reducible show wpAny _ _ (call (Value.builtin "len") [Value.ref _]) _ _ _) | (with_reducible show wpAny _ _ (call (Value.builtin "sum") [Value.ref _]) _ _ _) | (with_reducible show wpAny _ _ (call (Value.builtin "max") _) _ _ _) | (with_reducible show wpAny _ _ (eval (Expr.ListComp _ _ _ _) _) _ _ _) | (with_reducible show LCg.CompSrc _ _ _ _ _ _ _ _ _ _ _ _ _ _)); first | (k_unfold; (try dsimp only)) | (k_end; kc_close) | walk1 | (dsimp only; walk1) | (leave1; walk_say "STEP leave1"; (try dsimp only)) | fail "no step"))
  rename Fr _ _ _ _ => F3
  refine LCg.ListComp_U (F₀ := F3) (by with_unfolding_all rfl) (by decide) (by rfl) (by decide) (by rfl) ?_
  w_strict (repeat' ((fail_if_success first | (with_reducible show wpAny _ _ (call (Value.builtin "next") _) _ _ _) | (with_reducible show wpAny _ _ (call (Value.builtin "iter") _) _ _ _) | (with_reducible show wpAny _ _ (pyIter _) _ _ _) | (with_reducible show wpAny _ _ (exec (Stmt.While _ _ _ _) _) _ _ _) | (with_reducible show wpAny _ _ (call (Value.ref 21) _) _ _ _) | (with_reducible show wpAny _ _ (call (Value.ref 35) _) _ _ _) | (with_reducible show wpAny _ _ (call (Value.ref 40) _) _ _ _) | (with_reducible show wpAny _ _ (call (Value.ref 45) _) _ _ _) | (with_reducible show wpAny _ _ (call (Value.ref 50) _) _ _ _) | (with_reducible show wpAny _ _ (call (Value.ref 57) _) _ _ _) | (with_reducible show wpAny _ _ (call (Value.ref 64) _) _ _ _) | (with_reducible show wpAny _ _ (call (Value.builtin "len") [Value.ref _]) _ _ _) | (with_reducible show wpAny _ _ (call (Value.builtin "sum") [Value.ref _]) _ _ _) | (with_reducible show wpAny _ _ (call (Value.builtin "max") _) _ _ _) | (with_reducible show wpAny _ _ (eval (Expr.ListComp _ _ _ _) _) _ _ _) | (with_reducible show LCg.CompSrc _ _ _ _ _ _ _ _ _ _ _ _ _ _)); first | (k_unfold; (try dsimp only)) | (k_end; kc_close) | walk1 | (dsimp only; walk1) | (leave1; walk_say "STEP leave1"; (try dsimp only)) | fail "no step"))
  repeat (rename _ => zz; revert zz)
  exact fun h => h.out)
end
section
local macro_rules | `(tactic| kas_types) => `(tactic| ((rename _ ∧ _ => hx9); (have ha9 := hx9.1); (have hb9 := hx9.2); (clear hx9); first | exact ha9 | exact Ne.symm ha9 | exact hb9 | exact Ne.symm hb9 | exact Nat.ne_of_lt ha9 | exact Nat.ne_of_gt ha9 | exact Nat.ne_of_lt hb9 | exact Nat.ne_of_gt hb9 | ((clear ha9); kas_types)))
local macro_rules | `(tactic| k_ne) => `(tactic| ((refine neN ?_); (try dsimp only); first | assumption | exact Ne.symm (by assumption) | kas_types | omega))
local macro_rules | `(tactic| ksw_same) => `(tactic| (intro z h2 h3; (try simp only [List.forall_mem_cons, List.not_mem_nil, false_implies, implies_true, and_true, ne_eq] at h2); (try simp only [List.contains_cons, List.contains_nil, Bool.or_false, Bool.or_eq_false_iff, beq_eq_false_iff_ne, ne_eq] at h3); simp [env9, tokd, kstB, h2, h3]))
local macro_rules | `(tactic| walk_at "call type:range") => `(tactic| ((rename Fr _ _ _ _ => F'); (rename News _ _ _ _ => N'); first | (with_unfolding_all refine range1_rows F' N' ?_; intro _ _ _ _ _ _ _ _ _) | (with_unfolding_all refine range2_rows F' N' ?_; intro _ _ _ _ _ _ _ _ _)))
local macro_rules | `(tactic| k_all) => `(tactic| first | exact ne_of_all (by assumption) | exact ne_of_allLt (by assumption) | exact ne_of_off (by assumption))
noncomputable def stLwC : {G : Prop // Hole G → stLwB.1} := mkSt (by
  intro hG
  intro _
  intros
  rename Fig _ => hfg
  rename 4 ≤ _ ∧ _ ≤ 7 => hfl
  rename List.length _ = List.length _ => hvl
  rename (∀ f ∈ _, 1 ≤ f ∧ f ≤ 14) => hfb
  rename IntsAre _ _ => hf
  rename List Int => fs
  rename Fr _ _ _ _ => F6
  rename News _ _ _ _ => N6
  rename IsRange _ _ _ _ _ _ _ _ => R6
  refine LCg.CompSrc.range (by rfl) F6 N6 R6 (small_one (by omega) (by omega) (by omega) (by omega)) (n := fs.length) (by rw [rangeSize_nat]; omega) (by rw [sizeLine_eq]; omega) ?_
  clear F6 N6 R6
  intro g9
  refine m_restP (fun j ys => IntsAre ys ((List.range j).map fun k => fs.getD k 0 * 16 ^ (fs.length - 1 - k))) .nil ?turn2 ?fin2
  case turn2 =>
    intro j v I7 oI7 C oC D m₂ ys h7 tk7 E' hj hv hR hC hx F7 N7 off7 ne7
    obtain ⟨t8, hv8⟩ := hv
    subst hv8
    have hg : 1 ≤ fs.getD (0 + (j : Int)).toNat 0 ∧ fs.getD (0 + (j : Int)).toNat 0 ≤ 14 := getD_bd hfb (by omega)
    obtain ⟨hg1, hg2⟩ := hg
    w_strict (repeat' ((fail_if_success first | (with_reducible show wpAny _ _ (call (Value.builtin "next") _) _ _ _) | (with_reducible show wpAny _ _ (call (Value.builtin "iter") _) _ _ _) | (with_reducible show wpAny _ _ (pyIter _) _ _ _) | (with_reducible show wpAny _ _ (exec (Stmt.While _ _ _ _) _) _ _ _) | (with_reducible show wpAny _ _ (call (Value.ref 21) _) _ _ _) | (with_reducible show wpAny _ _ (call (Value.ref 35) _) _ _ _) | (with_reducible show wpAny _ _ (call (Value.ref 40) _) _ _ _) | (with_reducible show wpAny _ _ (call (Value.ref 45) _) _ _ _) | (with_reducible show wpAny _ _ (call (Value.ref 50) _) _ _ _) | (with_reducible show wpAny _ _ (call (Value.ref 57) _) _ _ _) | (with_reducible show wpAny _ _ (call (Value.ref 64) _) _ _ _) | (with_reducible show wpAny _ _ (call (Value.builtin "len") [Value.ref _]) _ _ _) | (with_reducible show wpAny _ _ (call (Value.builtin "sum") [Value.ref _]) _ _ _) | (with_reducible show wpAny _ _ (call (Value.builtin "max") _) _ _ _) | (with_reducible show wpAny _ _ (eval (Expr.ListComp _ _ _ _) _) _ _ _) | (with_reducible show LCg.CompSrc _ _ _ _ _ _ _ _ _ _ _ _ _ _)); first | (k_unfold; (try dsimp only)) | (k_end; kc_close) | walk1 | (dsimp only; walk1) | (leave1; walk_say "STEP leave1"; (try dsimp only)) | fail "no step"))
    refine LCg.CompEnd.intro (by assumption) (by assumption) _ ?sub off7 trivial ⟨rfl, ?ri⟩
    case sub => kcj_all
    rw [List.range_succ, List.map_append]
    refine ints_snoc hR ?_
    dsimp only
    rw [show (0 + (j : Int)).toNat = j by omega, show ((fs.length : Int) - 1 - (0 + (j : Int))).toNat = fs.length - 1 - j by omega]
  intro ysN hRN
  w_strict (repeat' ((fail_if_success first | (with_reducible show wpAny _ _ (call (Value.builtin "next") _) _ _ _) | (with_reducible show wpAny _ _ (call (Value.builtin "iter") _) _ _ _) | (with_reducible show wpAny _ _ (pyIter _) _ _ _) | (with_reducible show wpAny _ _ (exec (Stmt.While _ _ _ _) _) _ _ _) | (with_reducible show wpAny _ _ (call (Value.ref 21) _) _ _ _) | (with_reducible show wpAny _ _ (call (Value.ref 35) _) _ _ _) | (with_reducible show wpAny _ _ (call (Value.ref 40) _) _ _ _) | (with_reducible show wpAny _ _ (call (Value.ref 45) _) _ _ _) | (with_reducible show wpAny _ _ (call (Value.ref 50) _) _ _ _) | (with_reducible show wpAny _ _ (call (Value.ref 57) _) _ _ _) | (with_reducible show wpAny _ _ (call (Value.ref 64) _) _ _ _) | (with_reducible show wpAny _ _ (call (Value.builtin "len") [Value.ref _]) _ _ _) | (with_reducible show wpAny _ _ (call (Value.builtin "sum") [Value.ref _]) _ _ _) | (with_reducible show wpAny _ _ (call (Value.builtin "max") _) _ _ _) | (with_reducible show wpAny _ _ (eval (Expr.ListComp _ _ _ _) _) _ _ _) | (with_reducible show LCg.CompSrc _ _ _ _ _ _ _ _ _ _ _ _ _ _)); first | (k_unfold; (try dsimp only)) | (k_end; kc_close) | walk1 | (dsimp only; walk1) | (leave1; walk_say "STEP leave1"; (try dsimp only)) | fail "no step"))
  repeat (rename _ => zz; revert zz)
  exact fun h => h.out)
end
section
local macro_rules | `(tactic| kas_types) => `(tactic| ((rename _ ∧ _ => hx9); (have ha9 := hx9.1); (have hb9 := hx9.2); (clear hx9); first | exact ha9 | exact Ne.symm ha9 | exact hb9 | exact Ne.symm hb9 | exact Nat.ne_of_lt ha9 | exact Nat.ne_of_gt ha9 | exact Nat.ne_of_lt hb9 | exact Nat.ne_of_gt hb9 | ((clear ha9); kas_types)))
local macro_rules | `(tactic| k_ne) => `(tactic| ((refine neN ?_); (try dsimp only); first | assumption | exact Ne.symm (by assumption) | kas_types | omega))
local macro_rules | `(tactic| ksw_same) => `(tactic| (intro z h2 h3; (try simp only [List.forall_mem_cons, List.not_mem_nil, false_implies, implies_true, and_true, ne_eq] at h2); (try simp only [List.contains_cons, List.contains_nil, Bool.or_false, Bool.or_eq_false_iff, beq_eq_false_iff_ne, ne_eq] at h3); simp [env9, tokd, kstB, h2, h3]))
local macro_rules | `(tactic| walk_at "call type:range") => `(tactic| ((rename Fr _ _ _ _ => F'); (rename News _ _ _ _ => N'); first | (with_unfolding_all refine range1_rows F' N' ?_; intro _ _ _ _ _ _ _ _ _) | (with_unfolding_all refine range2_rows F' N' ?_; intro _ _ _ _ _ _ _ _ _)))
local macro_rules | `(tactic| k_all) => `(tactic| first | exact ne_of_all (by assumption) | exact ne_of_allLt (by assumption) | exact ne_of_off (by assumption))
noncomputable def stLwD : {G : Prop // Hole G → stLwC.1} := mkSt (by
  intro hG
  intro _
  intros
  rename List Int => fs
  rename Fig _ => hfg
  rename 4 ≤ _ ∧ _ ≤ 7 => hfl
  rename List.length _ = List.length _ => hvl
  rename (∀ f ∈ _, 1 ≤ f ∧ f ≤ 14) => hfb
  rename IntsAre _ (List.map _ (List.range _)) => hRN
  refine LSm.sum_ints (by k_asm) (by k_asm) rfl (News.isList (by k_asm) (by k_mem)) hRN ?_
  intro h9 tk9 t9 F9 N9
  dsimp only
  obtain ⟨number, hnum⟩ : ∃ z, z = numOf fs := ⟨_, rfl⟩
  have hnb := hfg.num
  rw [← hnum] at hnb
  rw [show ((List.range fs.length).map fun k => fs.getD k 0 * 16 ^ (fs.length - 1 - k)).sum = number from hnum.symm]
  w_strict (repeat' ((fail_if_success first | (with_reducible show wpAny _ _ (call (Value.builtin "next") _) _ _ _) | (with_reducible show wpAny _ _ (call (Value.builtin "iter") _) _ _ _) | (with_reducible show wpAny _ _ (pyIter _) _ _ _) | (with_reducible show wpAny _ _ (exec (Stmt.While _ _ _ _) _) _ _ _) | (with_reducible show wpAny _ _ (call (Value.ref 21) _) _ _ _) | (with_reducible show wpAny _ _ (call (Value.ref 35) _) _ _ _) | (with_reducible show wpAny _ _ (call (Value.ref 40) _) _ _ _) | (with_reducible show wpAny _ _ (call (Value.ref 45) _) _ _ _) | (with_reducible show wpAny _ _ (call (Value.ref 50) _) _ _ _) | (with_reducible show wpAny _ _ (call (Value.ref 57) _) _ _ _) | (with_reducible show wpAny _ _ (call (Value.ref 64) _) _ _ _) | (with_reducible show wpAny _ _ (call (Value.builtin "len") [Value.ref _]) _ _ _) | (with_reducible show wpAny _ _ (call (Value.builtin "sum") [Value.ref _]) _ _ _) | (with_reducible show wpAny _ _ (call (Value.builtin "max") _) _ _ _) | (with_reducible show wpAny _ _ (eval (Expr.ListComp _ _ _ _) _) _ _ _) | (with_reducible show LCg.CompSrc _ _ _ _ _ _ _ _ _ _ _ _ _ _)); first | (k_unfold; (try dsimp only)) | (k_end; kc_close) | walk1 | (dsimp only; walk1) | (leave1; walk_say "STEP leave1"; (try dsimp only)) | fail "no step"))
  refine' cl_use (c_ap _ _ _ _ (-number) _ _) ?k1x1 ?k2x1 ?k3x1 ?k4x1 ?k5x1 ?kKx1 ?kpx1 ?kdx1 ?kux1 ?kRx1
  case k1x1 => k_asm
  case k2x1 => k_asm
  case k3x1 => k_asm
  case k4x1 => k_asm
  case k5x1 => k_asm
  case kKx1 => exact rfl
  case kpx1 => omega
  case kdx1 => ktr_room
  case kux1 => ktr_units
  intro t9 h9 tk9 F9 N9
  rw [show apL (-number).natAbs [] = wordB fs from by rw [hnum]; exact hfg.word]
  w_strict (repeat' ((fail_if_success first | (with_reducible show wpAny _ _ (call (Value.builtin "next") _) _ _ _) | (with_reducible show wpAny _ _ (call (Value.builtin "iter") _) _ _ _) | (with_reducible show wpAny _ _ (pyIter _) _ _ _) | (with_reducible show wpAny _ _ (exec (Stmt.While _ _ _ _) _) _ _ _) | (with_reducible show wpAny _ _ (call (Value.ref 21) _) _ _ _) | (with_reducible show wpAny _ _ (call (Value.ref 35) _) _ _ _) | (with_reducible show wpAny _ _ (call (Value.ref 40) _) _ _ _) | (with_reducible show wpAny _ _ (call (Value.ref 45) _) _ _ _) | (with_reducible show wpAny _ _ (call (Value.ref 50) _) _ _ _) | (with_reducible show wpAny _ _ (call (Value.ref 57) _) _ _ _) | (with_reducible show wpAny _ _ (call (Value.ref 64) _) _ _ _) | (with_reducible show wpAny _ _ (call (Value.builtin "len") [Value.ref _]) _ _ _) | (with_reducible show wpAny _ _ (call (Value.builtin "sum") [Value.ref _]) _ _ _) | (with_reducible show wpAny _ _ (call (Value.builtin "max") _) _ _ _) | (with_reducible show wpAny _ _ (eval (Expr.ListComp _ _ _ _) _) _ _ _) | (with_reducible show LCg.CompSrc _ _ _ _ _ _ _ _ _ _ _ _ _ _)); first | (k_unfold; (try dsimp only)) | (k_end; kc_close) | walk1 | (dsimp only; walk1) | (leave1; walk_say "STEP leave1"; (try dsimp only)) | fail "no step"))
  rw [show (16 : Int) ^ ((fs.length : Int)).toNat - 1 - number = 16 ^ fs.length - 1 - number from by rw [Int.toNat_natCast]]
  have hp7 := pow7 hfl.2
  refine' cl_use (c_ap _ _ _ _ (16 ^ fs.length - 1 - number) _ _) ?k1x2 ?k2x2 ?k3x2 ?k4x2 ?k5x2 ?kKx2 ?kpx2 ?kdx2 ?kux2 ?kRx2
  case k1x2 => k_asm
  case k2x2 => k_asm
  case k3x2 => k_asm
  case k4x2 => k_asm
  case k5x2 => k_asm
  case kKx2 => exact rfl
  case kpx2 => omega
  case kdx2 => ktr_room
  case kux2 => ktr_units
  intro t9 h9 tk9 F9 N9
  rw [show apL (16 ^ fs.length - 1 - number).natAbs [] = lackB fs from by rw [hnum]; exact hfg.lack]
  w_strict (repeat' ((fail_if_success first | (with_reducible show wpAny _ _ (call (Value.builtin "next") _) _ _ _) | (with_reducible show wpAny _ _ (call (Value.builtin "iter") _) _ _ _) | (with_reducible show wpAny _ _ (pyIter _) _ _ _) | (with_reducible show wpAny _ _ (exec (Stmt.While _ _ _ _) _) _ _ _) | (with_reducible show wpAny _ _ (call (Value.builtin "len") [Value.ref _]) _ _ _) | (with_reducible show wpAny _ _ (call (Value.type "bytes") _) _ _ _) | (with_reducible show wpAny _ _ (compareOp _ (Value.bytes _ _) _) _ _ _) | (with_reducible show wpAny _ _ (binaryOp Operator.Mult _ _) _ _ _)); first | (k_unfold; (try dsimp only)) | (k_end; kc_close) | walk1 | (dsimp only; walk1) | (leave1; walk_say "STEP leave1"; (try dsimp only)) | fail "no step"))
  rename IntsAre _ (List.map (fun k' => 65 + k') fs) => e6
  refine KBa.make_K (by k_asm) (by k_asm) rfl (News.isList (by k_asm) (by k_mem)) e6 (in_word hfb) (by rw [List.length_map]; omega) ?_
  intro h8 t8 k8 F8 N8 in8
  rw [arr_word hfb]
  refine ne_bytes ?_
  rw [show ((wordB fs).toArray.toList != (wordB fs).toArray.toList) = false from by simp]
  w_strict (repeat' ((fail_if_success first | (with_reducible show wpAny _ _ (call (Value.builtin "next") _) _ _ _) | (with_reducible show wpAny _ _ (call (Value.builtin "iter") _) _ _ _) | (with_reducible show wpAny _ _ (pyIter _) _ _ _) | (with_reducible show wpAny _ _ (exec (Stmt.While _ _ _ _) _) _ _ _) | (with_reducible show wpAny _ _ (call (Value.builtin "len") [Value.ref _]) _ _ _) | (with_reducible show wpAny _ _ (call (Value.type "bytes") _) _ _ _) | (with_reducible show wpAny _ _ (compareOp _ (Value.bytes _ _) _) _ _ _) | (with_reducible show wpAny _ _ (binaryOp Operator.Mult _ _) _ _ _)); first | (k_unfold; (try dsimp only)) | (k_end; kc_close) | walk1 | (dsimp only; walk1) | (leave1; walk_say "STEP leave1"; (try dsimp only)) | fail "no step"))
  rename IntsAre _ (List.map (fun k' => 80 - k') fs) => e7
  refine KBa.make_K (by k_asm) (by k_asm) rfl (News.isList (by k_asm) (by k_mem)) e7 (in_lack hfb) (by rw [List.length_map]; omega) ?_
  intro h8 t8 k8 F8 N8 in8
  rw [arr_lack hfb]
  refine ne_bytes ?_
  rw [show ((lackB fs).toArray.toList != (lackB fs).toArray.toList) = false from by simp]
  w_strict (repeat' ((fail_if_success first | (with_reducible show wpAny _ _ (call (Value.builtin "next") _) _ _ _) | (with_reducible show wpAny _ _ (call (Value.builtin "iter") _) _ _ _) | (with_reducible show wpAny _ _ (pyIter _) _ _ _) | (with_reducible show wpAny _ _ (exec (Stmt.While _ _ _ _) _) _ _ _) | (with_reducible show wpAny _ _ (call (Value.ref 21) _) _ _ _) | (with_reducible show wpAny _ _ (call (Value.ref 35) _) _ _ _) | (with_reducible show wpAny _ _ (call (Value.ref 40) _) _ _ _) | (with_reducible show wpAny _ _ (call (Value.ref 45) _) _ _ _) | (with_reducible show wpAny _ _ (call (Value.ref 50) _) _ _ _) | (with_reducible show wpAny _ _ (call (Value.ref 57) _) _ _ _) | (with_reducible show wpAny _ _ (call (Value.ref 64) _) _ _ _) | (with_reducible show wpAny _ _ (call (Value.builtin "len") [Value.ref _]) _ _ _) | (with_reducible show wpAny _ _ (call (Value.builtin "sum") [Value.ref _]) _ _ _) | (with_reducible show wpAny _ _ (call (Value.builtin "max") _) _ _ _) | (with_reducible show wpAny _ _ (eval (Expr.ListComp _ _ _ _) _) _ _ _) | (with_reducible show LCg.CompSrc _ _ _ _ _ _ _ _ _ _ _ _ _ _)); first | (k_unfold; (try dsimp only)) | (k_end; kc_close) | walk1 | (dsimp only; walk1) | (leave1; walk_say "STEP leave1"; (try dsimp only)) | fail "no step"))
  repeat (rename _ => zz; revert zz)
  exact fun h => h.out)
end
section
local macro_rules | `(tactic| kas_types) => `(tactic| ((rename _ ∧ _ => hx9); (have ha9 := hx9.1); (have hb9 := hx9.2); (clear hx9); first | exact ha9 | exact Ne.symm ha9 | exact hb9 | exact Ne.symm hb9 | exact Nat.ne_of_lt ha9 | exact Nat.ne_of_gt ha9 | exact Nat.ne_of_lt hb9 | exact Nat.ne_of_gt hb9 | ((clear ha9); kas_types)))
local macro_rules | `(tactic| k_ne) => `(tactic| ((refine neN ?_); (try dsimp only); first | assumption | exact Ne.symm (by assumption) | kas_types | omega))
local macro_rules | `(tactic| ksw_same) => `(tactic| (intro z h2 h3; (try simp only [List.forall_mem_cons, List.not_mem_nil, false_implies, implies_true, and_true, ne_eq] at h2); (try simp only [List.contains_cons, List.contains_nil, Bool.or_false, Bool.or_eq_false_iff, beq_eq_false_iff_ne, ne_eq] at h3); simp [env9, tokd, kstB, h2, h3]))
local macro_rules | `(tactic| walk_at "call type:range") => `(tactic| ((rename Fr _ _ _ _ => F'); (rename News _ _ _ _ => N'); first | (with_unfolding_all refine range1_rows F' N' ?_; intro _ _ _ _ _ _ _ _ _) | (with_unfolding_all refine range2_rows F' N' ?_; intro _ _ _ _ _ _ _ _ _)))
local macro_rules | `(tactic| k_all) => `(tactic| first | exact ne_of_all (by assumption) | exact ne_of_allLt (by assumption) | exact ne_of_off (by assumption))
noncomputable def stLwE : {G : Prop // Hole G → stLwD.1} := mkSt (by
  intro hG
  intro _
  intros
  rename List Int => fs
  rename Fig _ => hfg
  rename 4 ≤ _ ∧ _ ≤ 7 => hfl
  rename (∀ f ∈ _, 1 ≤ f ∧ f ≤ 14) => hfb
  have hwl : (wordB fs).toArray.size = fs.length := by simp [wordB]
  have hll : (lackB fs).toArray.size = fs.length := by simp [lackB, wordB]
  rename Fr _ _ _ _ => F3
  refine ListComp_B (F₀ := F3) (by with_unfolding_all rfl) (by decide) (by rfl) (by decide) (by rfl) ?_
  w_strict (repeat' ((fail_if_success first | (with_reducible show wpAny _ _ (call (Value.builtin "next") _) _ _ _) | (with_reducible show wpAny _ _ (call (Value.builtin "iter") _) _ _ _) | (with_reducible show wpAny _ _ (pyIter _) _ _ _) | (with_reducible show wpAny _ _ (exec (Stmt.While _ _ _ _) _) _ _ _) | (with_reducible show wpAny _ _ (call (Value.ref 21) _) _ _ _) | (with_reducible show wpAny _ _ (call (Value.ref 35) _) _ _ _) | (with_reducible show wpAny _ _ (call (Value.ref 40) _) _ _ _) | (with_reducible show wpAny _ _ (call (Value.ref 45) _) _ _ _) | (with_reducible show wpAny _ _ (call (Value.ref 50) _) _ _ _) | (with_reducible show wpAny _ _ (call (Value.ref 57) _) _ _ _) | (with_reducible show wpAny _ _ (call (Value.ref 64) _) _ _ _) | (with_reducible show wpAny _ _ (call (Value.builtin "len") [Value.ref _]) _ _ _) | (with_reducible show wpAny _ _ (call (Value.builtin "sum") [Value.ref _]) _ _ _) | (with_reducible show wpAny _ _ (call (Value.builtin "max") _) _ _ _) | (with_reducible show wpAny _ _ (exec (Stmt.Assign _ (Expr.ListComp _ _ _ _) _) _) _ _ _) | (with_reducible show wpAny _ _ (eval (Expr.ListComp _ _ _ _) _) _ _ _) | (with_reducible show wpAny _ _ (call (Value.builtin "str.join") _) _ _ _) | (with_reducible show LCg.CompSrc _ _ _ _ _ _ _ _ _ _ _ _ _ _) | (with_reducible show SrcB _ _ _ _ _ _ _ _ _ _ _ _ _ _) | (with_reducible show SrcC _ _ _ _ _ _ _ _ _ _ _ _ _ _)); first | (k_unfold; (try dsimp only)) | (k_end; kc_close) | walk1 | (dsimp only; walk1) | (leave1; walk_say "STEP leave1"; (try dsimp only)) | fail "no step"))
  rename Fr _ _ _ _ => F6
  rename News _ _ _ _ => N6
  refine SrcB.intro (by rfl) F6 N6 (by rw [sizeLine_eq]; omega) ?_
  clear F6 N6
  intro g9
  refine m_restP (fun j ys => StrsAre ys ((fs.take j).map chrOf)) .nil ?turn2 ?fin2
  case turn2 =>
    intro j v I7 oI7 C oC D m₂ ys h7 tk7 E' hj hv hR hC hx F7 N7 off7 ne7
    obtain ⟨c, t8, hc8, hv8⟩ := hv
    subst hv8
    have hc9 : (c.toNat : Int) < 256 := by have := c.toNat_lt; omega
    w_strict (repeat' ((fail_if_success first | (with_reducible show wpAny _ _ (call (Value.builtin "next") _) _ _ _) | (with_reducible show wpAny _ _ (call (Value.builtin "iter") _) _ _ _) | (with_reducible show wpAny _ _ (pyIter _) _ _ _) | (with_reducible show wpAny _ _ (exec (Stmt.While _ _ _ _) _) _ _ _) | (with_reducible show wpAny _ _ (call (Value.ref 21) _) _ _ _) | (with_reducible show wpAny _ _ (call (Value.ref 35) _) _ _ _) | (with_reducible show wpAny _ _ (call (Value.ref 40) _) _ _ _) | (with_reducible show wpAny _ _ (call (Value.ref 45) _) _ _ _) | (with_reducible show wpAny _ _ (call (Value.ref 50) _) _ _ _) | (with_reducible show wpAny _ _ (call (Value.ref 57) _) _ _ _) | (with_reducible show wpAny _ _ (call (Value.ref 64) _) _ _ _) | (with_reducible show wpAny _ _ (call (Value.builtin "len") [Value.ref _]) _ _ _) | (with_reducible show wpAny _ _ (call (Value.builtin "sum") [Value.ref _]) _ _ _) | (with_reducible show wpAny _ _ (call (Value.builtin "max") _) _ _ _) | (with_reducible show wpAny _ _ (exec (Stmt.Assign _ (Expr.ListComp _ _ _ _) _) _) _ _ _) | (with_reducible show wpAny _ _ (eval (Expr.ListComp _ _ _ _) _) _ _ _) | (with_reducible show wpAny _ _ (call (Value.builtin "str.join") _) _ _ _) | (with_reducible show LCg.CompSrc _ _ _ _ _ _ _ _ _ _ _ _ _ _) | (with_reducible show SrcB _ _ _ _ _ _ _ _ _ _ _ _ _ _) | (with_reducible show SrcC _ _ _ _ _ _ _ _ _ _ _ _ _ _)); first | (k_unfold; (try dsimp only)) | (k_end; kc_close) | walk1 | (dsimp only; walk1) | (leave1; walk_say "STEP leave1"; (try dsimp only)) | fail "no step"))
    refine LCg.CompEnd.intro (by assumption) (by assumption) _ ?sub off7 trivial ⟨rfl, ?ri⟩
    case sub => kcj_all
    exact strs_turn hfb hj hc8 hR
  intro ysT hRT
  rw [hwl, List.take_length] at hRT
  w_strict (repeat' ((fail_if_success first | (with_reducible show wpAny _ _ (call (Value.builtin "next") _) _ _ _) | (with_reducible show wpAny _ _ (call (Value.builtin "iter") _) _ _ _) | (with_reducible show wpAny _ _ (pyIter _) _ _ _) | (with_reducible show wpAny _ _ (exec (Stmt.While _ _ _ _) _) _ _ _) | (with_reducible show wpAny _ _ (call (Value.ref 21) _) _ _ _) | (with_reducible show wpAny _ _ (call (Value.ref 35) _) _ _ _) | (with_reducible show wpAny _ _ (call (Value.ref 40) _) _ _ _) | (with_reducible show wpAny _ _ (call (Value.ref 45) _) _ _ _) | (with_reducible show wpAny _ _ (call (Value.ref 50) _) _ _ _) | (with_reducible show wpAny _ _ (call (Value.ref 57) _) _ _ _) | (with_reducible show wpAny _ _ (call (Value.ref 64) _) _ _ _) | (with_reducible show wpAny _ _ (call (Value.builtin "len") [Value.ref _]) _ _ _) | (with_reducible show wpAny _ _ (call (Value.builtin "sum") [Value.ref _]) _ _ _) | (with_reducible show wpAny _ _ (call (Value.builtin "max") _) _ _ _) | (with_reducible show wpAny _ _ (exec (Stmt.Assign _ (Expr.ListComp _ _ _ _) _) _) _ _ _) | (with_reducible show wpAny _ _ (eval (Expr.ListComp _ _ _ _) _) _ _ _) | (with_reducible show wpAny _ _ (call (Value.builtin "str.join") _) _ _ _) | (with_reducible show LCg.CompSrc _ _ _ _ _ _ _ _ _ _ _ _ _ _) | (with_reducible show SrcB _ _ _ _ _ _ _ _ _ _ _ _ _ _) | (with_reducible show SrcC _ _ _ _ _ _ _ _ _ _ _ _ _ _)); first | (k_unfold; (try dsimp only)) | (k_end; kc_close) | walk1 | (dsimp only; walk1) | (leave1; walk_say "STEP leave1"; (try dsimp only)) | fail "no step"))
  refine join_list (News.isList (by k_asm) (by k_mem)) hRT (join_hok fs (by omega)) ?_
  intro tT kT
  rw [join_chr]
  w_strict (repeat' ((fail_if_success first | (with_reducible show wpAny _ _ (call (Value.builtin "next") _) _ _ _) | (with_reducible show wpAny _ _ (call (Value.builtin "iter") _) _ _ _) | (with_reducible show wpAny _ _ (pyIter _) _ _ _) | (with_reducible show wpAny _ _ (exec (Stmt.While _ _ _ _) _) _ _ _) | (with_reducible show wpAny _ _ (call (Value.ref 21) _) _ _ _) | (with_reducible show wpAny _ _ (call (Value.ref 35) _) _ _ _) | (with_reducible show wpAny _ _ (call (Value.ref 40) _) _ _ _) | (with_reducible show wpAny _ _ (call (Value.ref 45) _) _ _ _) | (with_reducible show wpAny _ _ (call (Value.ref 50) _) _ _ _) | (with_reducible show wpAny _ _ (call (Value.ref 57) _) _ _ _) | (with_reducible show wpAny _ _ (call (Value.ref 64) _) _ _ _) | (with_reducible show wpAny _ _ (call (Value.builtin "len") [Value.ref _]) _ _ _) | (with_reducible show wpAny _ _ (call (Value.builtin "sum") [Value.ref _]) _ _ _) | (with_reducible show wpAny _ _ (call (Value.builtin "max") _) _ _ _) | (with_reducible show wpAny _ _ (exec (Stmt.Assign _ (Expr.ListComp _ _ _ _) _) _) _ _ _) | (with_reducible show wpAny _ _ (eval (Expr.ListComp _ _ _ _) _) _ _ _) | (with_reducible show wpAny _ _ (call (Value.builtin "str.join") _) _ _ _) | (with_reducible show LCg.CompSrc _ _ _ _ _ _ _ _ _ _ _ _ _ _) | (with_reducible show SrcB _ _ _ _ _ _ _ _ _ _ _ _ _ _) | (with_reducible show SrcC _ _ _ _ _ _ _ _ _ _ _ _ _ _)); first | (k_unfold; (try dsimp only)) | (k_end; kc_close) | walk1 | (dsimp only; walk1) | (leave1; walk_say "STEP leave1"; (try dsimp only)) | fail "no step"))
  repeat (rename _ => zz; revert zz)
  exact fun h => h.out)
end
section
local macro_rules | `(tactic| kas_types) => `(tactic| ((rename _ ∧ _ => hx9); (have ha9 := hx9.1); (have hb9 := hx9.2); (clear hx9); first | exact ha9 | exact Ne.symm ha9 | exact hb9 | exact Ne.symm hb9 | exact Nat.ne_of_lt ha9 | exact Nat.ne_of_gt ha9 | exact Nat.ne_of_lt hb9 | exact Nat.ne_of_gt hb9 | ((clear ha9); kas_types)))
local macro_rules | `(tactic| k_ne) => `(tactic| ((refine neN ?_); (try dsimp only); first | assumption | exact Ne.symm (by assumption) | kas_types | omega))
local macro_rules | `(tactic| ksw_same) => `(tactic| (intro z h2 h3; (try simp only [List.forall_mem_cons, List.not_mem_nil, false_implies, implies_true, and_true, ne_eq] at h2); (try simp only [List.contains_cons, List.contains_nil, Bool.or_false, Bool.or_eq_false_iff, beq_eq_false_iff_ne, ne_eq] at h3); simp [env9, tokd, kstB, h2, h3]))
local macro_rules | `(tactic| walk_at "call type:range") => `(tactic| ((rename Fr _ _ _ _ => F'); (rename News _ _ _ _ => N'); first | (with_unfolding_all refine range1_rows F' N' ?_; intro _ _ _ _ _ _ _ _ _) | (with_unfolding_all refine range2_rows F' N' ?_; intro _ _ _ _ _ _ _ _ _)))
local macro_rules | `(tactic| k_all) => `(tactic| first | exact ne_of_all (by assumption) | exact ne_of_allLt (by assumption) | exact ne_of_off (by assumption))
noncomputable def stLwF : {G : Prop // Hole G → stLwE.1} := mkSt (by
  intro hG
  intro _
  intros
  rename List Int => fs
  rename Fig _ => hfg
  rename 4 ≤ _ ∧ _ ≤ 7 => hfl
  rename (∀ f ∈ _, 1 ≤ f ∧ f ≤ 14) => hfb
  have htl := text_len fs
  have hdf := hfg.df
  rename Fr _ _ _ _ => F3
  refine Assign_C (F₀ := F3) (by rfl) (by with_unfolding_all rfl) (by with_unfolding_all rfl) (by intro _; rfl) (by intro _; rfl) (by rfl) (by decide) (by rfl) (by rfl) (by rfl) ?_
  w_strict (repeat' ((fail_if_success first | (with_reducible show wpAny _ _ (call (Value.builtin "next") _) _ _ _) | (with_reducible show wpAny _ _ (call (Value.builtin "iter") _) _ _ _) | (with_reducible show wpAny _ _ (pyIter _) _ _ _) | (with_reducible show wpAny _ _ (exec (Stmt.While _ _ _ _) _) _ _ _) | (with_reducible show wpAny _ _ (call (Value.ref 21) _) _ _ _) | (with_reducible show wpAny _ _ (call (Value.ref 35) _) _ _ _) | (with_reducible show wpAny _ _ (call (Value.ref 40) _) _ _ _) | (with_reducible show wpAny _ _ (call (Value.ref 45) _) _ _ _) | (with_reducible show wpAny _ _ (call (Value.ref 50) _) _ _ _) | (with_reducible show wpAny _ _ (call (Value.ref 57) _) _ _ _) | (with_reducible show wpAny _ _ (call (Value.ref 64) _) _ _ _) | (with_reducible show wpAny _ _ (call (Value.builtin "len") [Value.ref _]) _ _ _) | (with_reducible show wpAny _ _ (call (Value.builtin "sum") [Value.ref _]) _ _ _) | (with_reducible show wpAny _ _ (call (Value.builtin "max") _) _ _ _) | (with_reducible show wpAny _ _ (exec (Stmt.Assign _ (Expr.ListComp _ _ _ _) _) _) _ _ _) | (with_reducible show wpAny _ _ (eval (Expr.ListComp _ _ _ _) _) _ _ _) | (with_reducible show wpAny _ _ (call (Value.builtin "str.join") _) _ _ _) | (with_reducible show LCg.CompSrc _ _ _ _ _ _ _ _ _ _ _ _ _ _) | (with_reducible show SrcB _ _ _ _ _ _ _ _ _ _ _ _ _ _) | (with_reducible show SrcC _ _ _ _ _ _ _ _ _ _ _ _ _ _)); first | (k_unfold; (try dsimp only)) | (k_end; kc_close) | walk1 | (dsimp only; walk1) | (leave1; walk_say "STEP leave1"; (try dsimp only)) | fail "no step"))
  rename Fr _ _ _ _ => F6
  rename News _ _ _ _ => N6
  rename IsRange _ _ _ _ _ _ _ _ => R6
  refine SrcC_rows (fun i row => LSm.BoolsAre row (toldRow fs i)) (by rfl) F6 N6 R6 (small_one (by omega) (by omega) (by omega) (by omega)) (n := fs.length) (by rw [rangeSize_nat]; omega) (by rw [sizeLine_eq]; omega) ?turn ?fin
  case turn =>
    clear F6 N6 R6
    intro i z I oI C oC D X oX ys rl h tk E' hi hR hX F7 N7 off7 offX ne7
    simp only [List.cons_append, List.nil_append] at N7 off7 offX
    w_strict (repeat' ((fail_if_success first | (with_reducible show wpAny _ _ (call (Value.builtin "next") _) _ _ _) | (with_reducible show wpAny _ _ (call (Value.builtin "iter") _) _ _ _) | (with_reducible show wpAny _ _ (pyIter _) _ _ _) | (with_reducible show wpAny _ _ (exec (Stmt.While _ _ _ _) _) _ _ _) | (with_reducible show wpAny _ _ (call (Value.ref 21) _) _ _ _) | (with_reducible show wpAny _ _ (call (Value.ref 35) _) _ _ _) | (with_reducible show wpAny _ _ (call (Value.ref 40) _) _ _ _) | (with_reducible show wpAny _ _ (call (Value.ref 45) _) _ _ _) | (with_reducible show wpAny _ _ (call (Value.ref 50) _) _ _ _) | (with_reducible show wpAny _ _ (call (Value.ref 57) _) _ _ _) | (with_reducible show wpAny _ _ (call (Value.ref 64) _) _ _ _) | (with_reducible show wpAny _ _ (call (Value.builtin "len") [Value.ref _]) _ _ _) | (with_reducible show wpAny _ _ (call (Value.builtin "sum") [Value.ref _]) _ _ _) | (with_reducible show wpAny _ _ (call (Value.builtin "max") _) _ _ _) | (with_reducible show wpAny _ _ (exec (Stmt.Assign _ (Expr.ListComp _ _ _ _) _) _) _ _ _) | (with_reducible show wpAny _ _ (eval (Expr.ListComp _ _ _ _) _) _ _ _) | (with_reducible show wpAny _ _ (call (Value.builtin "str.join") _) _ _ _) | (with_reducible show LCg.CompSrc _ _ _ _ _ _ _ _ _ _ _ _ _ _) | (with_reducible show SrcB _ _ _ _ _ _ _ _ _ _ _ _ _ _) | (with_reducible show SrcC _ _ _ _ _ _ _ _ _ _ _ _ _ _)); first | (k_unfold; (try dsimp only)) | (k_end; kc_close) | walk1 | (dsimp only; walk1) | (leave1; walk_say "STEP leave1"; (try dsimp only)) | fail "no step"))
    rename Fr _ _ _ _ => F8
    refine LCg.ListComp_U (F₀ := F8) (by with_unfolding_all rfl) (by decide) (by rfl) (by decide) (by rfl) ?_
    w_strict (repeat' ((fail_if_success first | (with_reducible show wpAny _ _ (call (Value.builtin "next") _) _ _ _) | (with_reducible show wpAny _ _ (call (Value.builtin "iter") _) _ _ _) | (with_reducible show wpAny _ _ (pyIter _) _ _ _) | (with_reducible show wpAny _ _ (exec (Stmt.While _ _ _ _) _) _ _ _) | (with_reducible show wpAny _ _ (call (Value.ref 21) _) _ _ _) | (with_reducible show wpAny _ _ (call (Value.ref 35) _) _ _ _) | (with_reducible show wpAny _ _ (call (Value.ref 40) _) _ _ _) | (with_reducible show wpAny _ _ (call (Value.ref 45) _) _ _ _) | (with_reducible show wpAny _ _ (call (Value.ref 50) _) _ _ _) | (with_reducible show wpAny _ _ (call (Value.ref 57) _) _ _ _) | (with_reducible show wpAny _ _ (call (Value.ref 64) _) _ _ _) | (with_reducible show wpAny _ _ (call (Value.builtin "len") [Value.ref _]) _ _ _) | (with_reducible show wpAny _ _ (call (Value.builtin "sum") [Value.ref _]) _ _ _) | (with_reducible show wpAny _ _ (call (Value.builtin "max") _) _ _ _) | (with_reducible show wpAny _ _ (exec (Stmt.Assign _ (Expr.ListComp _ _ _ _) _) _) _ _ _) | (with_reducible show wpAny _ _ (eval (Expr.ListComp _ _ _ _) _) _ _ _) | (with_reducible show wpAny _ _ (call (Value.builtin "str.join") _) _ _ _) | (with_reducible show LCg.CompSrc _ _ _ _ _ _ _ _ _ _ _ _ _ _) | (with_reducible show SrcB _ _ _ _ _ _ _ _ _ _ _ _ _ _) | (with_reducible show SrcC _ _ _ _ _ _ _ _ _ _ _ _ _ _)); first | (k_unfold; (try dsimp only)) | (k_end; kc_close) | walk1 | (dsimp only; walk1) | (leave1; walk_say "STEP leave1"; (try dsimp only)) | fail "no step"))
    rename Fr _ _ _ _ => F9
    rename News _ _ _ _ => N9
    rename IsRange _ _ _ _ _ _ _ _ => R9
    refine LCg.CompSrc.range (by rfl) F9 N9 R9 (small_one (by omega) (by omega) (by omega) (by omega)) (n := fs.length) (by rw [rangeSize_nat]; omega) (by rw [sizeLine_eq]; omega) ?_
    clear F9 N9 R9
    intro g9
    refine m_restP (fun j ys => LSm.BoolsAre ys ((List.range j).map fun (k : Nat) => alikeP (textOf fs) (i : Int) ((k : Int) + 1))) .nil ?turn2 ?fin2
    case turn2 =>
      intro j v I9 oI9 C9 oC9 D9 m₂ ys9 h9 tk9 E9 hj hv hR9 hC9 hx9 F9 N9 off9 ne9
      obtain ⟨t9, hv9⟩ := hv
      subst hv9
      w_strict (repeat' ((fail_if_success first | (with_reducible show wpAny _ _ (call (Value.builtin "next") _) _ _ _) | (with_reducible show wpAny _ _ (call (Value.builtin "iter") _) _ _ _) | (with_reducible show wpAny _ _ (pyIter _) _ _ _) | (with_reducible show wpAny _ _ (exec (Stmt.While _ _ _ _) _) _ _ _) | (with_reducible show wpAny _ _ (call (Value.ref 21) _) _ _ _) | (with_reducible show wpAny _ _ (call (Value.ref 35) _) _ _ _) | (with_reducible show wpAny _ _ (call (Value.ref 40) _) _ _ _) | (with_reducible show wpAny _ _ (call (Value.ref 45) _) _ _ _) | (with_reducible show wpAny _ _ (call (Value.ref 50) _) _ _ _) | (with_reducible show wpAny _ _ (call (Value.ref 57) _) _ _ _) | (with_reducible show wpAny _ _ (call (Value.ref 64) _) _ _ _) | (with_reducible show wpAny _ _ (call (Value.builtin "len") [Value.ref _]) _ _ _) | (with_reducible show wpAny _ _ (call (Value.builtin "sum") [Value.ref _]) _ _ _) | (with_reducible show wpAny _ _ (call (Value.builtin "max") _) _ _ _) | (with_reducible show wpAny _ _ (exec (Stmt.Assign _ (Expr.ListComp _ _ _ _) _) _) _ _ _) | (with_reducible show wpAny _ _ (eval (Expr.ListComp _ _ _ _) _) _ _ _) | (with_reducible show wpAny _ _ (call (Value.builtin "str.join") _) _ _ _) | (with_reducible show LCg.CompSrc _ _ _ _ _ _ _ _ _ _ _ _ _ _) | (with_reducible show SrcB _ _ _ _ _ _ _ _ _ _ _ _ _ _) | (with_reducible show SrcC _ _ _ _ _ _ _ _ _ _ _ _ _ _)); first | (k_unfold; (try dsimp only)) | (k_end; kc_close) | walk1 | (dsimp only; walk1) | (leave1; walk_say "STEP leave1"; (try dsimp only)) | fail "no step"))
      refine' cl_use (c_pat _ _ _ _ (textOf fs) (0 + (i : Int)) (1 + (j : Int)) _ _ _ _) ?k1x3 ?k2x3 ?k3x3 ?k4x3 ?k5x3 ?kKx3 ?kpx3 ?kdx3 ?kux3 ?kRx3
      case k1x3 => k_asm
      case k2x3 => k_asm
      case k3x3 => k_asm
      case k4x3 => k_asm
      case k5x3 => k_asm
      case kKx3 => exact rfl
      case kpx3 => exact ⟨by omega, by omega, hdf, by omega, by omega, by omega, by omega⟩
      case kdx3 => ktr_room
      case kux3 => ktr_units
      intro t9 h9 tk9 F9 N9
      refine LCg.CompEnd.intro (by assumption) (by assumption) _ ?sub off9 trivial ⟨rfl, ?ri⟩
      case sub => kcj_all
      rw [List.range_succ, List.map_append]
      exact bools_snoc hR9 (by rw [show (0 : Int) + (i : Int) = (i : Int) by omega, show (1 : Int) + (j : Int) = (j : Int) + 1 by omega])
    case fin2 =>
      intro ys9 hR9
      w_strict (repeat' ((fail_if_success first | (with_reducible show wpAny _ _ (call (Value.builtin "next") _) _ _ _) | (with_reducible show wpAny _ _ (call (Value.builtin "iter") _) _ _ _) | (with_reducible show wpAny _ _ (pyIter _) _ _ _) | (with_reducible show wpAny _ _ (exec (Stmt.While _ _ _ _) _) _ _ _) | (with_reducible show wpAny _ _ (call (Value.ref 21) _) _ _ _) | (with_reducible show wpAny _ _ (call (Value.ref 35) _) _ _ _) | (with_reducible show wpAny _ _ (call (Value.ref 40) _) _ _ _) | (with_reducible show wpAny _ _ (call (Value.ref 45) _) _ _ _) | (with_reducible show wpAny _ _ (call (Value.ref 50) _) _ _ _) | (with_reducible show wpAny _ _ (call (Value.ref 57) _) _ _ _) | (with_reducible show wpAny _ _ (call (Value.ref 64) _) _ _ _) | (with_reducible show wpAny _ _ (call (Value.builtin "len") [Value.ref _]) _ _ _) | (with_reducible show wpAny _ _ (call (Value.builtin "sum") [Value.ref _]) _ _ _) | (with_reducible show wpAny _ _ (call (Value.builtin "max") _) _ _ _) | (with_reducible show wpAny _ _ (exec (Stmt.Assign _ (Expr.ListComp _ _ _ _) _) _) _ _ _) | (with_reducible show wpAny _ _ (eval (Expr.ListComp _ _ _ _) _) _ _ _) | (with_reducible show wpAny _ _ (call (Value.builtin "str.join") _) _ _ _) | (with_reducible show LCg.CompSrc _ _ _ _ _ _ _ _ _ _ _ _ _ _) | (with_reducible show SrcB _ _ _ _ _ _ _ _ _ _ _ _ _ _) | (with_reducible show SrcC _ _ _ _ _ _ _ _ _ _ _ _ _ _)); first | (k_unfold; (try dsimp only)) | (k_end; kc_close) | walk1 | (dsimp only; walk1) | (leave1; walk_say "STEP leave1"; (try dsimp only)) | fail "no step"))
      rename Fr _ _ _ _ => F9
      rename News _ _ _ _ => N9
      refine LCg.CompEnd.intro F9 N9 ((X, oX) :: ([_, _, _, _, _, _, _, _, _, _] ++ (rl ++ [(_, LCg.lst ys9)]))) (sub_rows (base := [_, _, _, _, _, _, _, _, _, _])) (off3_rows (base := [_, _, _, _, _, _, _, _, _, _]) off7 (by k_ne) (by k_ne) (by k_ne)) trivial ⟨_, _, rfl, rfl, by k_ne, hR9⟩
  clear F6 N6 R6
  intro ysO rlO DO h tk hRO F7 N7 off7
  simp only [List.cons_append, List.nil_append] at N7 off7
  w_strict (repeat' ((fail_if_success first | (with_reducible show wpAny _ _ (call (Value.builtin "next") _) _ _ _) | (with_reducible show wpAny _ _ (call (Value.builtin "iter") _) _ _ _) | (with_reducible show wpAny _ _ (pyIter _) _ _ _) | (with_reducible show wpAny _ _ (exec (Stmt.While _ _ _ _) _) _ _ _) | (with_reducible show wpAny _ _ (call (Value.ref 21) _) _ _ _) | (with_reducible show wpAny _ _ (call (Value.ref 35) _) _ _ _) | (with_reducible show wpAny _ _ (call (Value.ref 40) _) _ _ _) | (with_reducible show wpAny _ _ (call (Value.ref 45) _) _ _ _) | (with_reducible show wpAny _ _ (call (Value.ref 50) _) _ _ _) | (with_reducible show wpAny _ _ (call (Value.ref 57) _) _ _ _) | (with_reducible show wpAny _ _ (call (Value.ref 64) _) _ _ _) | (with_reducible show wpAny _ _ (call (Value.builtin "len") [Value.ref _]) _ _ _) | (with_reducible show wpAny _ _ (call (Value.builtin "sum") [Value.ref _]) _ _ _) | (with_reducible show wpAny _ _ (call (Value.builtin "max") _) _ _ _) | (with_reducible show wpAny _ _ (exec (Stmt.Assign _ (Expr.ListComp _ _ _ _) _) _) _ _ _) | (with_reducible show wpAny _ _ (eval (Expr.ListComp _ _ _ _) _) _ _ _) | (with_reducible show wpAny _ _ (call (Value.builtin "str.join") _) _ _ _) | (with_reducible show LCg.CompSrc _ _ _ _ _ _ _ _ _ _ _ _ _ _) | (with_reducible show SrcB _ _ _ _ _ _ _ _ _ _ _ _ _ _) | (with_reducible show SrcC _ _ _ _ _ _ _ _ _ _ _ _ _ _)); first | (k_unfold; (try dsimp only)) | (k_end; kc_close) | walk1 | (dsimp only; walk1) | (leave1; walk_say "STEP leave1"; (try dsimp only)) | fail "no step"))
  repeat (rename _ => zz; revert zz)
  exact fun h => h.out)
end
section
local macro_rules | `(tactic| kas_types) => `(tactic| ((rename _ ∧ _ => hx9); (have ha9 := hx9.1); (have hb9 := hx9.2); (clear hx9); first | exact ha9 | exact Ne.symm ha9 | exact hb9 | exact Ne.symm hb9 | exact Nat.ne_of_lt ha9 | exact Nat.ne_of_gt ha9 | exact Nat.ne_of_lt hb9 | exact Nat.ne_of_gt hb9 | ((clear ha9); kas_types)))
local macro_rules | `(tactic| k_ne) => `(tactic| ((refine neN ?_); (try dsimp only); first | assumption | exact Ne.symm (by assumption) | kas_types | omega))
local macro_rules | `(tactic| ksw_same) => `(tactic| (intro z h2 h3; (try simp only [List.forall_mem_cons, List.not_mem_nil, false_implies, implies_true, and_true, ne_eq] at h2); (try simp only [List.contains_cons, List.contains_nil, Bool.or_false, Bool.or_eq_false_iff, beq_eq_false_iff_ne, ne_eq] at h3); simp [env9, tokd, kstB, h2, h3]))
local macro_rules | `(tactic| walk_at "call type:range") => `(tactic| ((rename Fr _ _ _ _ => F'); (rename News _ _ _ _ => N'); first | (with_unfolding_all refine range1_rows F' N' ?_; intro _ _ _ _ _ _ _ _ _) | (with_unfolding_all refine range2_rows F' N' ?_; intro _ _ _ _ _ _ _ _ _)))
local macro_rules | `(tactic| k_all) => `(tactic| first | exact ne_of_all (by assumption) | exact ne_of_allLt (by assumption) | exact ne_of_off (by assumption))
noncomputable def stLwG : {G : Prop // Hole G → stLwF.1} := mkSt (by
  intro hG
  intro _
  intros
  rename List Int => fs
  rename Fig _ => hfg
  rename 4 ≤ _ ∧ _ ≤ 7 => hfl
  rename RowsL _ _ _ _ => hRO
  rename (List Value) => ysO
  have hlen := hRO.len
  rename Fr _ _ _ _ => F3
  refine LCg.Assign_ListComp_U (F₀ := F3) (by rfl) (by with_unfolding_all rfl) (by with_unfolding_all rfl) (by decide) (by rfl) (by decide) (by rfl) (by rfl) (by rfl) ?_
  w_strict (repeat' ((fail_if_success first | (with_reducible show wpAny _ _ (call (Value.builtin "next") _) _ _ _) | (with_reducible show wpAny _ _ (call (Value.builtin "iter") _) _ _ _) | (with_reducible show wpAny _ _ (pyIter _) _ _ _) | (with_reducible show wpAny _ _ (exec (Stmt.While _ _ _ _) _) _ _ _) | (with_reducible show wpAny _ _ (call (Value.ref 21) _) _ _ _) | (with_reducible show wpAny _ _ (call (Value.ref 35) _) _ _ _) | (with_reducible show wpAny _ _ (call (Value.ref 40) _) _ _ _) | (with_reducible show wpAny _ _ (call (Value.ref 45) _) _ _ _) | (with_reducible show wpAny _ _ (call (Value.ref 50) _) _ _ _) | (with_reducible show wpAny _ _ (call (Value.ref 57) _) _ _ _) | (with_reducible show wpAny _ _ (call (Value.ref 64) _) _ _ _) | (with_reducible show wpAny _ _ (call (Value.builtin "len") [Value.ref _]) _ _ _) | (with_reducible show wpAny _ _ (call (Value.builtin "sum") [Value.ref _]) _ _ _) | (with_reducible show wpAny _ _ (call (Value.builtin "max") _) _ _ _) | (with_reducible show wpAny _ _ (exec (Stmt.Assign _ (Expr.ListComp _ _ _ _) _) _) _ _ _) | (with_reducible show wpAny _ _ (eval (Expr.ListComp _ _ _ _) _) _ _ _) | (with_reducible show wpAny _ _ (call (Value.builtin "str.join") _) _ _ _) | (with_reducible show LCg.CompSrc _ _ _ _ _ _ _ _ _ _ _ _ _ _) | (with_reducible show SrcB _ _ _ _ _ _ _ _ _ _ _ _ _ _) | (with_reducible show SrcC _ _ _ _ _ _ _ _ _ _ _ _ _ _) | (with_reducible show wpAny _ _ (binaryOp Operator.Add (Value.ref _) (Value.ref _)) _ _ _) | (with_reducible show wpAny _ _ (call (Value.builtin "list.index") _) _ _ _)); first | (k_unfold; (try dsimp only)) | (k_end; kc_close) | walk1 | (dsimp only; walk1) | (leave1; walk_say "STEP leave1"; (try dsimp only)) | fail "no step"))
  rename Fr _ _ _ _ => F6
  rename News _ _ _ _ => N6
  refine LCg.CompSrc.ledger (its := ysO.toArray) (by rfl) F6 N6 (by k_mem) (by rw [List.size_toArray, hlen, sizeLine_eq]; omega) ?_
  clear F6 N6
  intro g9
  refine m_restP (fun j ys => IntsAre ys ((List.range j).map fun k => 1 + (((toldRow fs k ++ [true]).idxOf true : Nat) : Int))) .nil ?turn2 ?fin2
  case turn2 =>
    intro j v I7 oI7 C oC D m₂ ys h7 tk7 E' hj hv hR hC hx F7 N7 off7 ne7
    rw [List.size_toArray, hlen] at hj
    obtain ⟨D1, row, e1, hm1, hb1⟩ := hRO.get hj
    have hv' : ysO[j]? = some v := by simpa using hv
    rw [e1] at hv'
    cases hv'
    w_strict (repeat' ((fail_if_success first | (with_reducible show wpAny _ _ (call (Value.builtin "next") _) _ _ _) | (with_reducible show wpAny _ _ (call (Value.builtin "iter") _) _ _ _) | (with_reducible show wpAny _ _ (pyIter _) _ _ _) | (with_reducible show wpAny _ _ (exec (Stmt.While _ _ _ _) _) _ _ _) | (with_reducible show wpAny _ _ (call (Value.ref 21) _) _ _ _) | (with_reducible show wpAny _ _ (call (Value.ref 35) _) _ _ _) | (with_reducible show wpAny _ _ (call (Value.ref 40) _) _ _ _) | (with_reducible show wpAny _ _ (call (Value.ref 45) _) _ _ _) | (with_reducible show wpAny _ _ (call (Value.ref 50) _) _ _ _) | (with_reducible show wpAny _ _ (call (Value.ref 57) _) _ _ _) | (with_reducible show wpAny _ _ (call (Value.ref 64) _) _ _ _) | (with_reducible show wpAny _ _ (call (Value.builtin "len") [Value.ref _]) _ _ _) | (with_reducible show wpAny _ _ (call (Value.builtin "sum") [Value.ref _]) _ _ _) | (with_reducible show wpAny _ _ (call (Value.builtin "max") _) _ _ _) | (with_reducible show wpAny _ _ (exec (Stmt.Assign _ (Expr.ListComp _ _ _ _) _) _) _ _ _) | (with_reducible show wpAny _ _ (eval (Expr.ListComp _ _ _ _) _) _ _ _) | (with_reducible show wpAny _ _ (call (Value.builtin "str.join") _) _ _ _) | (with_reducible show LCg.CompSrc _ _ _ _ _ _ _ _ _ _ _ _ _ _) | (with_reducible show SrcB _ _ _ _ _ _ _ _ _ _ _ _ _ _) | (with_reducible show SrcC _ _ _ _ _ _ _ _ _ _ _ _ _ _) | (with_reducible show wpAny _ _ (binaryOp Operator.Add (Value.ref _) (Value.ref _)) _ _ _) | (with_reducible show wpAny _ _ (call (Value.builtin "list.index") _) _ _ _)); first | (k_unfold; (try dsimp only)) | (k_end; kc_close) | walk1 | (dsimp only; walk1) | (leave1; walk_say "STEP leave1"; (try dsimp only)) | fail "no step"))
    rename Fr _ _ _ _ => F8
    rename News _ _ _ _ => N8
    have hrl : row.length = fs.length := by rw [hb1.length]; simp [toldRow]
    refine m_addL (xs := row) (ys := [.bool true]) (kb := 0) F8 N8 (by repeat' first | exact hm1 | apply List.mem_cons_of_mem) (by k_mem) (by rw [hrl, List.length_singleton]; omega) ?_
    intro D3 h3 F9 N9 l3
    k_lt l3
    w_strict (repeat' ((fail_if_success first | (with_reducible show wpAny _ _ (call (Value.builtin "next") _) _ _ _) | (with_reducible show wpAny _ _ (call (Value.builtin "iter") _) _ _ _) | (with_reducible show wpAny _ _ (pyIter _) _ _ _) | (with_reducible show wpAny _ _ (exec (Stmt.While _ _ _ _) _) _ _ _) | (with_reducible show wpAny _ _ (call (Value.ref 21) _) _ _ _) | (with_reducible show wpAny _ _ (call (Value.ref 35) _) _ _ _) | (with_reducible show wpAny _ _ (call (Value.ref 40) _) _ _ _) | (with_reducible show wpAny _ _ (call (Value.ref 45) _) _ _ _) | (with_reducible show wpAny _ _ (call (Value.ref 50) _) _ _ _) | (with_reducible show wpAny _ _ (call (Value.ref 57) _) _ _ _) | (with_reducible show wpAny _ _ (call (Value.ref 64) _) _ _ _) | (with_reducible show wpAny _ _ (call (Value.builtin "len") [Value.ref _]) _ _ _) | (with_reducible show wpAny _ _ (call (Value.builtin "sum") [Value.ref _]) _ _ _) | (with_reducible show wpAny _ _ (call (Value.builtin "max") _) _ _ _) | (with_reducible show wpAny _ _ (exec (Stmt.Assign _ (Expr.ListComp _ _ _ _) _) _) _ _ _) | (with_reducible show wpAny _ _ (eval (Expr.ListComp _ _ _ _) _) _ _ _) | (with_reducible show wpAny _ _ (call (Value.builtin "str.join") _) _ _ _) | (with_reducible show LCg.CompSrc _ _ _ _ _ _ _ _ _ _ _ _ _ _) | (with_reducible show SrcB _ _ _ _ _ _ _ _ _ _ _ _ _ _) | (with_reducible show SrcC _ _ _ _ _ _ _ _ _ _ _ _ _ _) | (with_reducible show wpAny _ _ (binaryOp Operator.Add (Value.ref _) (Value.ref _)) _ _ _) | (with_reducible show wpAny _ _ (call (Value.builtin "list.index") _) _ _ _)); first | (k_unfold; (try dsimp only)) | (k_end; kc_close) | walk1 | (dsimp only; walk1) | (leave1; walk_say "STEP leave1"; (try dsimp only)) | fail "no step"))
    refine m_indexB (k := true) N9 (List.Mem.head _) (kbo_app hb1 (.cons true .nil)) (by simp) (by simp [toldRow]; omega) ?_
    w_strict (repeat' ((fail_if_success first | (with_reducible show wpAny _ _ (call (Value.builtin "next") _) _ _ _) | (with_reducible show wpAny _ _ (call (Value.builtin "iter") _) _ _ _) | (with_reducible show wpAny _ _ (pyIter _) _ _ _) | (with_reducible show wpAny _ _ (exec (Stmt.While _ _ _ _) _) _ _ _) | (with_reducible show wpAny _ _ (call (Value.ref 21) _) _ _ _) | (with_reducible show wpAny _ _ (call (Value.ref 35) _) _ _ _) | (with_reducible show wpAny _ _ (call (Value.ref 40) _) _ _ _) | (with_reducible show wpAny _ _ (call (Value.ref 45) _) _ _ _) | (with_reducible show wpAny _ _ (call (Value.ref 50) _) _ _ _) | (with_reducible show wpAny _ _ (call (Value.ref 57) _) _ _ _) | (with_reducible show wpAny _ _ (call (Value.ref 64) _) _ _ _) | (with_reducible show wpAny _ _ (call (Value.builtin "len") [Value.ref _]) _ _ _) | (with_reducible show wpAny _ _ (call (Value.builtin "sum") [Value.ref _]) _ _ _) | (with_reducible show wpAny _ _ (call (Value.builtin "max") _) _ _ _) | (with_reducible show wpAny _ _ (exec (Stmt.Assign _ (Expr.ListComp _ _ _ _) _) _) _ _ _) | (with_reducible show wpAny _ _ (eval (Expr.ListComp _ _ _ _) _) _ _ _) | (with_reducible show wpAny _ _ (call (Value.builtin "str.join") _) _ _ _) | (with_reducible show LCg.CompSrc _ _ _ _ _ _ _ _ _ _ _ _ _ _) | (with_reducible show SrcB _ _ _ _ _ _ _ _ _ _ _ _ _ _) | (with_reducible show SrcC _ _ _ _ _ _ _ _ _ _ _ _ _ _) | (with_reducible show wpAny _ _ (binaryOp Operator.Add (Value.ref _) (Value.ref _)) _ _ _) | (with_reducible show wpAny _ _ (call (Value.builtin "list.index") _) _ _ _)); first | (k_unfold; (try dsimp only)) | (k_end; kc_close) | walk1 | (dsimp only; walk1) | (leave1; walk_say "STEP leave1"; (try dsimp only)) | fail "no step"))
    refine LCg.CompEnd.intro (by assumption) (by assumption) _ ?sub off7 (.inr ⟨_, by k_mem, rfl, _, rfl⟩) ⟨rfl, ?ri⟩
    case sub => kcj_all
    rw [List.range_succ, List.map_append]
    exact ints_snoc hR rfl
  intro ysZ hRZ
  rw [List.size_toArray, hlen] at hRZ
  w_strict (repeat' ((fail_if_success first | (with_reducible show wpAny _ _ (call (Value.builtin "next") _) _ _ _) | (with_reducible show wpAny _ _ (call (Value.builtin "iter") _) _ _ _) | (with_reducible show wpAny _ _ (pyIter _) _ _ _) | (with_reducible show wpAny _ _ (exec (Stmt.While _ _ _ _) _) _ _ _) | (with_reducible show wpAny _ _ (call (Value.ref 21) _) _ _ _) | (with_reducible show wpAny _ _ (call (Value.ref 35) _) _ _ _) | (with_reducible show wpAny _ _ (call (Value.ref 40) _) _ _ _) | (with_reducible show wpAny _ _ (call (Value.ref 45) _) _ _ _) | (with_reducible show wpAny _ _ (call (Value.ref 50) _) _ _ _) | (with_reducible show wpAny _ _ (call (Value.ref 57) _) _ _ _) | (with_reducible show wpAny _ _ (call (Value.ref 64) _) _ _ _) | (with_reducible show wpAny _ _ (call (Value.builtin "len") [Value.ref _]) _ _ _) | (with_reducible show wpAny _ _ (call (Value.builtin "sum") [Value.ref _]) _ _ _) | (with_reducible show wpAny _ _ (call (Value.builtin "max") _) _ _ _) | (with_reducible show wpAny _ _ (exec (Stmt.Assign _ (Expr.ListComp _ _ _ _) _) _) _ _ _) | (with_reducible show wpAny _ _ (eval (Expr.ListComp _ _ _ _) _) _ _ _) | (with_reducible show wpAny _ _ (call (Value.builtin "str.join") _) _ _ _) | (with_reducible show LCg.CompSrc _ _ _ _ _ _ _ _ _ _ _ _ _ _) | (with_reducible show SrcB _ _ _ _ _ _ _ _ _ _ _ _ _ _) | (with_reducible show SrcC _ _ _ _ _ _ _ _ _ _ _ _ _ _) | (with_reducible show wpAny _ _ (binaryOp Operator.Add (Value.ref _) (Value.ref _)) _ _ _) | (with_reducible show wpAny _ _ (call (Value.builtin "list.index") _) _ _ _)); first | (k_unfold; (try dsimp only)) | (k_end; kc_close) | walk1 | (dsimp only; walk1) | (leave1; walk_say "STEP leave1"; (try dsimp only)) | fail "no step"))
  repeat (rename _ => zz; revert zz)
  exact fun h => h.out)
end
section
local macro_rules | `(tactic| kas_types) => `(tactic| ((rename _ ∧ _ => hx9); (have ha9 := hx9.1); (have hb9 := hx9.2); (clear hx9); first | exact ha9 | exact Ne.symm ha9 | exact hb9 | exact Ne.symm hb9 | exact Nat.ne_of_lt ha9 | exact Nat.ne_of_gt ha9 | exact Nat.ne_of_lt hb9 | exact Nat.ne_of_gt hb9 | ((clear ha9); kas_types)))
local macro_rules | `(tactic| k_ne) => `(tactic| ((refine neN ?_); (try dsimp only); first | assumption | exact Ne.symm (by assumption) | kas_types | omega))
local macro_rules | `(tactic| ksw_same) => `(tactic| (intro z h2 h3; (try simp only [List.forall_mem_cons, List.not_mem_nil, false_implies, implies_true, and_true, ne_eq] at h2); (try simp only [List.contains_cons, List.contains_nil, Bool.or_false, Bool.or_eq_false_iff, beq_eq_false_iff_ne, ne_eq] at h3); simp [env9, tokd, kstB, h2, h3]))
local macro_rules | `(tactic| walk_at "call type:range") => `(tactic| ((rename Fr _ _ _ _ => F'); (rename News _ _ _ _ => N'); first | (with_unfolding_all refine range1_rows F' N' ?_; intro _ _ _ _ _ _ _ _ _) | (with_unfolding_all refine range2_rows F' N' ?_; intro _ _ _ _ _ _ _ _ _)))
local macro_rules | `(tactic| k_all) => `(tactic| first | exact ne_of_all (by assumption) | exact ne_of_allLt (by assumption) | exact ne_of_off (by assumption))
local macro_rules | `(tactic| walk_at "binaryOp FloorDiv int int") => `(tactic| ((with_reducible show wpAny _ _ (binaryOp _ (Value.int _ _) (Value.int (16 ^ (Int.toNat _)) _)) _ _ _); (refine floordiv_int (p16_ne _) ?_ (Or.inl (p16_py ?kbp))); (case kbp => omega)))
local macro_rules | `(tactic| walk_at "binaryOp Mod int int") => `(tactic| ((with_reducible show wpAny _ _ (binaryOp _ (Value.int _ _) (Value.int (16 ^ (Int.toNat _)) _)) _ _ _); (refine mod_int' (p16_ne _) ?_)))
noncomputable def stLwH : {G : Prop // Hole G → stLwG.1} := mkSt (by
  intro hG
  intro _
  intros
  rename List Int => fs
  rename Fig _ => hfg
  rename 4 ≤ _ ∧ _ ≤ 7 => hfl
  rename Fr _ _ _ _ => F3
  refine LCt.Assign_ListComp_T (F₀ := F3) (by rfl) (by with_unfolding_all rfl) (by with_unfolding_all rfl) (by decide) (by rfl) (by decide) (by rfl) (by rfl) (by rfl) ?_
  w_strict (repeat' ((fail_if_success first | (with_reducible show wpAny _ _ (call (Value.builtin "next") _) _ _ _) | (with_reducible show wpAny _ _ (call (Value.builtin "iter") _) _ _ _) | (with_reducible show wpAny _ _ (pyIter _) _ _ _) | (with_reducible show wpAny _ _ (exec (Stmt.While _ _ _ _) _) _ _ _) | (with_reducible show wpAny _ _ (call (Value.ref 21) _) _ _ _) | (with_reducible show wpAny _ _ (call (Value.ref 35) _) _ _ _) | (with_reducible show wpAny _ _ (call (Value.ref 40) _) _ _ _) | (with_reducible show wpAny _ _ (call (Value.ref 45) _) _ _ _) | (with_reducible show wpAny _ _ (call (Value.ref 50) _) _ _ _) | (with_reducible show wpAny _ _ (call (Value.ref 57) _) _ _ _) | (with_reducible show wpAny _ _ (call (Value.ref 64) _) _ _ _) | (with_reducible show wpAny _ _ (call (Value.builtin "len") [Value.ref _]) _ _ _) | (with_reducible show wpAny _ _ (call (Value.builtin "sum") [Value.ref _]) _ _ _) | (with_reducible show wpAny _ _ (call (Value.builtin "max") _) _ _ _) | (with_reducible show wpAny _ _ (exec (Stmt.Assign _ (Expr.ListComp _ _ _ _) _) _) _ _ _) | (with_reducible show wpAny _ _ (eval (Expr.ListComp _ _ _ _) _) _ _ _) | (with_reducible show wpAny _ _ (call (Value.builtin "str.join") _) _ _ _) | (with_reducible show LCg.CompSrc _ _ _ _ _ _ _ _ _ _ _ _ _ _) | (with_reducible show SrcB _ _ _ _ _ _ _ _ _ _ _ _ _ _) | (with_reducible show SrcC _ _ _ _ _ _ _ _ _ _ _ _ _ _) | (with_reducible show LCt.CompSrcT _ _ _ _ _ _ _ _ _ _ _ _ _ _ _)); first | (k_unfold; (try dsimp only)) | (k_end; kc_close) | walk1 | (dsimp only; walk1) | (leave1; walk_say "STEP leave1"; (try dsimp only)) | fail "no step"))
  rename Fr _ _ _ _ => F6
  rename News _ _ _ _ => N6
  rename IsRange _ _ _ _ _ _ _ _ => R6
  refine LCt.CompSrcT.range (by rfl) F6 N6 R6 (small_one (by omega) (by omega) (by omega) (by omega)) (n := fs.length) (by rw [rangeSize_nat]; omega) (by rw [sizeLine_eq]; omega) ?_
  clear F6 N6 R6
  intro g9
  refine m_restT (fun j ys => IntsAre ys (perUpto fs j)) .nil ?turn2 ?fin2
  case turn2 =>
    intro j v I7 oI7 C oC D m₂ ys h7 tk7 E' hj hv hR hC hx F7 N7 off7 ne7
    obtain ⟨t8, hv8⟩ := hv
    subst hv8
    w_strict (repeat' ((fail_if_success first | (with_reducible show wpAny _ _ (call (Value.builtin "next") _) _ _ _) | (with_reducible show wpAny _ _ (call (Value.builtin "iter") _) _ _ _) | (with_reducible show wpAny _ _ (pyIter _) _ _ _) | (with_reducible show wpAny _ _ (exec (Stmt.While _ _ _ _) _) _ _ _) | (with_reducible show wpAny _ _ (call (Value.ref 21) _) _ _ _) | (with_reducible show wpAny _ _ (call (Value.ref 35) _) _ _ _) | (with_reducible show wpAny _ _ (call (Value.ref 40) _) _ _ _) | (with_reducible show wpAny _ _ (call (Value.ref 45) _) _ _ _) | (with_reducible show wpAny _ _ (call (Value.ref 50) _) _ _ _) | (with_reducible show wpAny _ _ (call (Value.ref 57) _) _ _ _) | (with_reducible show wpAny _ _ (call (Value.ref 64) _) _ _ _) | (with_reducible show wpAny _ _ (call (Value.builtin "len") [Value.ref _]) _ _ _) | (with_reducible show wpAny _ _ (call (Value.builtin "sum") [Value.ref _]) _ _ _) | (with_reducible show wpAny _ _ (call (Value.builtin "max") _) _ _ _) | (with_reducible show wpAny _ _ (exec (Stmt.Assign _ (Expr.ListComp _ _ _ _) _) _) _ _ _) | (with_reducible show wpAny _ _ (eval (Expr.ListComp _ _ _ _) _) _ _ _) | (with_reducible show wpAny _ _ (call (Value.builtin "str.join") _) _ _ _) | (with_reducible show LCg.CompSrc _ _ _ _ _ _ _ _ _ _ _ _ _ _) | (with_reducible show SrcB _ _ _ _ _ _ _ _ _ _ _ _ _ _) | (with_reducible show SrcC _ _ _ _ _ _ _ _ _ _ _ _ _ _) | (with_reducible show LCt.CompSrcT _ _ _ _ _ _ _ _ _ _ _ _ _ _ _)); first | (k_unfold; (try dsimp only)) | (k_end; kc_close) | walk1 | (dsimp only; walk1) | (leave1; walk_say "STEP leave1"; (try dsimp only)) | fail "no step"))
    · have hp : isPer fs j = true := by
        rename Int.fdiv _ _ = Int.fmod _ _ => ha
        rename _ = numOf fs => hnum
        rw [hnum, show (1 + (j : Int)).toNat = j + 1 by omega, show ((fs.length : Int) - (1 + (j : Int))).toNat = fs.length - (j + 1) by omega] at ha
        exact beq_iff_eq.mpr ha
      refine LCg.CompEnd.intro (by assumption) (by assumption) _ ?sub off7 trivial ⟨rfl, ?ri⟩
      case sub => kcj_all
      rw [perUpto_yes hp]
      exact ints_snoc hR (by omega)
    · have hp : isPer fs j = false := by
        rename Int.fdiv _ _ ≠ Int.fmod _ _ => ha
        rename _ = numOf fs => hnum
        rw [hnum, show (1 + (j : Int)).toNat = j + 1 by omega, show ((fs.length : Int) - (1 + (j : Int))).toNat = fs.length - (j + 1) by omega] at ha
        exact beq_eq_false_iff_ne.mpr ha
      refine LCg.CompEnd.intro (by assumption) (by assumption) _ ?subB off7 trivial ⟨rfl, ?riB⟩
      case subB => kcj_all
      rw [perUpto_no hp]
      exact hR
  intro ysP hRP
  w_strict (repeat' ((fail_if_success first | (with_reducible show wpAny _ _ (call (Value.builtin "next") _) _ _ _) | (with_reducible show wpAny _ _ (call (Value.builtin "iter") _) _ _ _) | (with_reducible show wpAny _ _ (pyIter _) _ _ _) | (with_reducible show wpAny _ _ (exec (Stmt.While _ _ _ _) _) _ _ _) | (with_reducible show wpAny _ _ (call (Value.ref 21) _) _ _ _) | (with_reducible show wpAny _ _ (call (Value.ref 35) _) _ _ _) | (with_reducible show wpAny _ _ (call (Value.ref 40) _) _ _ _) | (with_reducible show wpAny _ _ (call (Value.ref 45) _) _ _ _) | (with_reducible show wpAny _ _ (call (Value.ref 50) _) _ _ _) | (with_reducible show wpAny _ _ (call (Value.ref 57) _) _ _ _) | (with_reducible show wpAny _ _ (call (Value.ref 64) _) _ _ _) | (with_reducible show wpAny _ _ (call (Value.builtin "len") [Value.ref _]) _ _ _) | (with_reducible show wpAny _ _ (call (Value.builtin "sum") [Value.ref _]) _ _ _) | (with_reducible show wpAny _ _ (call (Value.builtin "max") _) _ _ _) | (with_reducible show wpAny _ _ (exec (Stmt.Assign _ (Expr.ListComp _ _ _ _) _) _) _ _ _) | (with_reducible show wpAny _ _ (eval (Expr.ListComp _ _ _ _) _) _ _ _) | (with_reducible show wpAny _ _ (call (Value.builtin "str.join") _) _ _ _) | (with_reducible show LCg.CompSrc _ _ _ _ _ _ _ _ _ _ _ _ _ _) | (with_reducible show SrcB _ _ _ _ _ _ _ _ _ _ _ _ _ _) | (with_reducible show SrcC _ _ _ _ _ _ _ _ _ _ _ _ _ _) | (with_reducible show LCt.CompSrcT _ _ _ _ _ _ _ _ _ _ _ _ _ _ _)); first | (k_unfold; (try dsimp only)) | (k_end; kc_close) | walk1 | (dsimp only; walk1) | (leave1; walk_say "STEP leave1"; (try dsimp only)) | fail "no step"))
  repeat (rename _ => zz; revert zz)
  exact fun h => h.out)
end
section
local macro_rules | `(tactic| kas_types) => `(tactic| ((rename _ ∧ _ => hx9); (have ha9 := hx9.1); (have hb9 := hx9.2); (clear hx9); first | exact ha9 | exact Ne.symm ha9 | exact hb9 | exact Ne.symm hb9 | exact Nat.ne_of_lt ha9 | exact Nat.ne_of_gt ha9 | exact Nat.ne_of_lt hb9 | exact Nat.ne_of_gt hb9 | ((clear ha9); kas_types)))
local macro_rules | `(tactic| k_ne) => `(tactic| ((refine neN ?_); (try dsimp only); first | assumption | exact Ne.symm (by assumption) | kas_types | omega))
local macro_rules | `(tactic| ksw_same) => `(tactic| (intro z h2 h3; (try simp only [List.forall_mem_cons, List.not_mem_nil, false_implies, implies_true, and_true, ne_eq] at h2); (try simp only [List.contains_cons, List.contains_nil, Bool.or_false, Bool.or_eq_false_iff, beq_eq_false_iff_ne, ne_eq] at h3); simp [env9, tokd, kstB, h2, h3]))
local macro_rules | `(tactic| walk_at "call type:range") => `(tactic| ((rename Fr _ _ _ _ => F'); (rename News _ _ _ _ => N'); first | (with_unfolding_all refine range1_rows F' N' ?_; intro _ _ _ _ _ _ _ _ _) | (with_unfolding_all refine range2_rows F' N' ?_; intro _ _ _ _ _ _ _ _ _)))
local macro_rules | `(tactic| k_all) => `(tactic| first | exact ne_of_all (by assumption) | exact ne_of_allLt (by assumption) | exact ne_of_off (by assumption))
noncomputable def stLwI : {G : Prop // Hole G → stLwH.1} := mkSt (by
  intro hG
  intro _
  intros
  rename List Int => fs
  rename Fig _ => hfg
  rename 4 ≤ _ ∧ _ ≤ 7 => hfl
  refine' clO_use (c_tr _ _ _ _ (wordB fs).toArray (fs.map fun f => 65 + f) _ _) ?k1x4 ?k2x4 ?k3x4 ?k4x4 ?k5x4 ?kKx4 ?kpx4 ?kdx4 ?kux4 ?kRx4
  case k1x4 => k_asm
  case k2x4 => k_asm
  case k3x4 => k_asm
  case k4x4 => k_asm
  case k5x4 => k_asm
  case kKx4 => exact rfl
  case kpx4 => exact ⟨hfg.wordI, by rw [List.length_map]; omega, by rw [List.length_map]; omega, by intro x hx; obtain ⟨f, hf, rfl⟩ := List.mem_map.mp hx; have := hfg.bd f hf; omega⟩
  case kdx4 => ktr_room
  case kux4 => ktr_units
  intro r9 n9 h9 tk9 F9 N9 O9
  obtain ⟨DA, vA, kA, eA1, eA2, hRA, offA⟩ := O9
  subst eA1 eA2
  w_strict (repeat' ((fail_if_success first | (with_reducible show wpAny _ _ (call (Value.builtin "next") _) _ _ _) | (with_reducible show wpAny _ _ (call (Value.builtin "iter") _) _ _ _) | (with_reducible show wpAny _ _ (pyIter _) _ _ _) | (with_reducible show wpAny _ _ (exec (Stmt.While _ _ _ _) _) _ _ _) | (with_reducible show wpAny _ _ (call (Value.ref 21) _) _ _ _) | (with_reducible show wpAny _ _ (call (Value.ref 35) _) _ _ _) | (with_reducible show wpAny _ _ (call (Value.ref 40) _) _ _ _) | (with_reducible show wpAny _ _ (call (Value.ref 45) _) _ _ _) | (with_reducible show wpAny _ _ (call (Value.ref 50) _) _ _ _) | (with_reducible show wpAny _ _ (call (Value.ref 57) _) _ _ _) | (with_reducible show wpAny _ _ (call (Value.ref 64) _) _ _ _) | (with_reducible show wpAny _ _ (call (Value.builtin "len") [Value.ref _]) _ _ _) | (with_reducible show wpAny _ _ (call (Value.builtin "sum") [Value.ref _]) _ _ _) | (with_reducible show wpAny _ _ (call (Value.builtin "max") _) _ _ _) | (with_reducible show wpAny _ _ (exec (Stmt.Assign _ (Expr.ListComp _ _ _ _) _) _) _ _ _) | (with_reducible show wpAny _ _ (eval (Expr.ListComp _ _ _ _) _) _ _ _) | (with_reducible show wpAny _ _ (call (Value.builtin "str.join") _) _ _ _) | (with_reducible show LCg.CompSrc _ _ _ _ _ _ _ _ _ _ _ _ _ _) | (with_reducible show SrcB _ _ _ _ _ _ _ _ _ _ _ _ _ _) | (with_reducible show SrcC _ _ _ _ _ _ _ _ _ _ _ _ _ _) | (with_reducible show wpAny _ _ (subscriptTail _ (Expr.Slice _ _ _ _) _ _) _ _ _) | (with_reducible show wpAny _ _ (call (Value.builtin "list.index") _) _ _ _)); first | (k_unfold; (try dsimp only)) | (k_end; kc_close) | walk1 | (dsimp only; walk1) | (leave1; walk_say "STEP leave1"; (try dsimp only)) | fail "no step"))
  refine' clO_use (c_tr _ _ _ _ (lackB fs).toArray (fs.map fun f => 80 - f) _ _) ?k1x5 ?k2x5 ?k3x5 ?k4x5 ?k5x5 ?kKx5 ?kpx5 ?kdx5 ?kux5 ?kRx5
  case k1x5 => k_asm
  case k2x5 => k_asm
  case k3x5 => k_asm
  case k4x5 => k_asm
  case k5x5 => k_asm
  case kKx5 => exact rfl
  case kpx5 => exact ⟨hfg.lackI, by rw [List.length_map]; omega, by rw [List.length_map]; omega, by intro x hx; obtain ⟨f, hf, rfl⟩ := List.mem_map.mp hx; have := hfg.bd f hf; omega⟩
  case kdx5 => ktr_room
  case kux5 => ktr_units
  intro r9 n9 h9 tk9 F9 N9 O9
  obtain ⟨DB, vB, kB, eB1, eB2, hRB, offB⟩ := O9
  subst eB1 eB2
  w_strict (repeat' ((fail_if_success first | (with_reducible show wpAny _ _ (call (Value.builtin "next") _) _ _ _) | (with_reducible show wpAny _ _ (call (Value.builtin "iter") _) _ _ _) | (with_reducible show wpAny _ _ (pyIter _) _ _ _) | (with_reducible show wpAny _ _ (exec (Stmt.While _ _ _ _) _) _ _ _) | (with_reducible show wpAny _ _ (call (Value.ref 21) _) _ _ _) | (with_reducible show wpAny _ _ (call (Value.ref 35) _) _ _ _) | (with_reducible show wpAny _ _ (call (Value.ref 40) _) _ _ _) | (with_reducible show wpAny _ _ (call (Value.ref 45) _) _ _ _) | (with_reducible show wpAny _ _ (call (Value.ref 50) _) _ _ _) | (with_reducible show wpAny _ _ (call (Value.ref 57) _) _ _ _) | (with_reducible show wpAny _ _ (call (Value.ref 64) _) _ _ _) | (with_reducible show wpAny _ _ (call (Value.builtin "len") [Value.ref _]) _ _ _) | (with_reducible show wpAny _ _ (call (Value.builtin "sum") [Value.ref _]) _ _ _) | (with_reducible show wpAny _ _ (call (Value.builtin "max") _) _ _ _) | (with_reducible show wpAny _ _ (exec (Stmt.Assign _ (Expr.ListComp _ _ _ _) _) _) _ _ _) | (with_reducible show wpAny _ _ (eval (Expr.ListComp _ _ _ _) _) _ _ _) | (with_reducible show wpAny _ _ (call (Value.builtin "str.join") _) _ _ _) | (with_reducible show LCg.CompSrc _ _ _ _ _ _ _ _ _ _ _ _ _ _) | (with_reducible show SrcB _ _ _ _ _ _ _ _ _ _ _ _ _ _) | (with_reducible show SrcC _ _ _ _ _ _ _ _ _ _ _ _ _ _) | (with_reducible show wpAny _ _ (subscriptTail _ (Expr.Slice _ _ _ _) _ _) _ _ _) | (with_reducible show wpAny _ _ (call (Value.builtin "list.index") _) _ _ _)); first | (k_unfold; (try dsimp only)) | (k_end; kc_close) | walk1 | (dsimp only; walk1) | (leave1; walk_say "STEP leave1"; (try dsimp only)) | fail "no step"))
  rename Fr _ _ _ _ => F3
  refine LCg.ListComp_U (F₀ := F3) (by with_unfolding_all rfl) (by decide) (by rfl) (by decide) (by rfl) ?_
  w_strict (repeat' ((fail_if_success first | (with_reducible show wpAny _ _ (call (Value.builtin "next") _) _ _ _) | (with_reducible show wpAny _ _ (call (Value.builtin "iter") _) _ _ _) | (with_reducible show wpAny _ _ (pyIter _) _ _ _) | (with_reducible show wpAny _ _ (exec (Stmt.While _ _ _ _) _) _ _ _) | (with_reducible show wpAny _ _ (call (Value.ref 21) _) _ _ _) | (with_reducible show wpAny _ _ (call (Value.ref 35) _) _ _ _) | (with_reducible show wpAny _ _ (call (Value.ref 40) _) _ _ _) | (with_reducible show wpAny _ _ (call (Value.ref 45) _) _ _ _) | (with_reducible show wpAny _ _ (call (Value.ref 50) _) _ _ _) | (with_reducible show wpAny _ _ (call (Value.ref 57) _) _ _ _) | (with_reducible show wpAny _ _ (call (Value.ref 64) _) _ _ _) | (with_reducible show wpAny _ _ (call (Value.builtin "len") [Value.ref _]) _ _ _) | (with_reducible show wpAny _ _ (call (Value.builtin "sum") [Value.ref _]) _ _ _) | (with_reducible show wpAny _ _ (call (Value.builtin "max") _) _ _ _) | (with_reducible show wpAny _ _ (exec (Stmt.Assign _ (Expr.ListComp _ _ _ _) _) _) _ _ _) | (with_reducible show wpAny _ _ (eval (Expr.ListComp _ _ _ _) _) _ _ _) | (with_reducible show wpAny _ _ (call (Value.builtin "str.join") _) _ _ _) | (with_reducible show LCg.CompSrc _ _ _ _ _ _ _ _ _ _ _ _ _ _) | (with_reducible show SrcB _ _ _ _ _ _ _ _ _ _ _ _ _ _) | (with_reducible show SrcC _ _ _ _ _ _ _ _ _ _ _ _ _ _) | (with_reducible show wpAny _ _ (subscriptTail _ (Expr.Slice _ _ _ _) _ _) _ _ _) | (with_reducible show wpAny _ _ (call (Value.builtin "list.index") _) _ _ _)); first | (k_unfold; (try dsimp only)) | (k_end; kc_close) | walk1 | (dsimp only; walk1) | (leave1; walk_say "STEP leave1"; (try dsimp only)) | fail "no step"))
  rename Fr _ _ _ _ => F6
  rename News _ _ _ _ => N6
  refine LCg.CompSrc.ledger (its := #[Value.ref DA, Value.ref DB]) (by rfl) F6 N6 (by k_mem) (by rw [sizeLine_eq]; exact Nat.le_of_ble_eq_true rfl) ?_
  clear F6 N6
  intro g9
  refine m_restP (fun j ys => IntsAre ys ((List.range j).map fun k => ((bestAt (rdAt fs k) fs.length : Nat) : Int))) .nil ?turn2 ?fin2
  case turn2 =>
    intro j v I7 oI7 C oC D m₂ ys h7 tk7 E' hj hv hR hC hx F7 N7 off7 ne7
    obtain ⟨Dr, vr, kr, e1, hm1, hr1⟩ := reads_at N7 hj (by simpa using hv) hRA hRB (by k_mem) (by k_mem)
    have hrl := rdAt_len fs j
    subst e1
    w_strict (repeat' ((fail_if_success first | (with_reducible show wpAny _ _ (call (Value.builtin "next") _) _ _ _) | (with_reducible show wpAny _ _ (call (Value.builtin "iter") _) _ _ _) | (with_reducible show wpAny _ _ (pyIter _) _ _ _) | (with_reducible show wpAny _ _ (exec (Stmt.While _ _ _ _) _) _ _ _) | (with_reducible show wpAny _ _ (call (Value.ref 21) _) _ _ _) | (with_reducible show wpAny _ _ (call (Value.ref 35) _) _ _ _) | (with_reducible show wpAny _ _ (call (Value.ref 40) _) _ _ _) | (with_reducible show wpAny _ _ (call (Value.ref 45) _) _ _ _) | (with_reducible show wpAny _ _ (call (Value.ref 50) _) _ _ _) | (with_reducible show wpAny _ _ (call (Value.ref 57) _) _ _ _) | (with_reducible show wpAny _ _ (call (Value.ref 64) _) _ _ _) | (with_reducible show wpAny _ _ (call (Value.builtin "len") [Value.ref _]) _ _ _) | (with_reducible show wpAny _ _ (call (Value.builtin "sum") [Value.ref _]) _ _ _) | (with_reducible show wpAny _ _ (call (Value.builtin "max") _) _ _ _) | (with_reducible show wpAny _ _ (exec (Stmt.Assign _ (Expr.ListComp _ _ _ _) _) _) _ _ _) | (with_reducible show wpAny _ _ (eval (Expr.ListComp _ _ _ _) _) _ _ _) | (with_reducible show wpAny _ _ (call (Value.builtin "str.join") _) _ _ _) | (with_reducible show LCg.CompSrc _ _ _ _ _ _ _ _ _ _ _ _ _ _) | (with_reducible show SrcB _ _ _ _ _ _ _ _ _ _ _ _ _ _) | (with_reducible show SrcC _ _ _ _ _ _ _ _ _ _ _ _ _ _) | (with_reducible show wpAny _ _ (subscriptTail _ (Expr.Slice _ _ _ _) _ _) _ _ _) | (with_reducible show wpAny _ _ (call (Value.builtin "list.index") _) _ _ _)); first | (k_unfold; (try dsimp only)) | (k_end; kc_close) | walk1 | (dsimp only; walk1) | (leave1; walk_say "STEP leave1"; (try dsimp only)) | fail "no step"))
    refine' kmk_slice_ints (c := fs.length) (by k_asm) (by k_asm) (News.isList (by k_asm) (by repeat' first | exact hm1 | apply List.mem_cons_of_mem)) IsPart.none (IsPart.int _ _) hr1 (kmk_upto hr1 (by omega)) (by rw [List.length_take, hrl]; omega) ?_ (by with_unfolding_all rfl) (by intro _; rfl) (by rw [sizeLine_eq, List.size_toArray, hr1.length, hrl]; omega)
    intro D6 ws6 h6 F9 N9 l9 e3 e4 _
    k_lt l9
    w_strict (repeat' ((fail_if_success first | (with_reducible show wpAny _ _ (call (Value.builtin "next") _) _ _ _) | (with_reducible show wpAny _ _ (call (Value.builtin "iter") _) _ _ _) | (with_reducible show wpAny _ _ (pyIter _) _ _ _) | (with_reducible show wpAny _ _ (exec (Stmt.While _ _ _ _) _) _ _ _) | (with_reducible show wpAny _ _ (call (Value.ref 21) _) _ _ _) | (with_reducible show wpAny _ _ (call (Value.ref 35) _) _ _ _) | (with_reducible show wpAny _ _ (call (Value.ref 40) _) _ _ _) | (with_reducible show wpAny _ _ (call (Value.ref 45) _) _ _ _) | (with_reducible show wpAny _ _ (call (Value.ref 50) _) _ _ _) | (with_reducible show wpAny _ _ (call (Value.ref 57) _) _ _ _) | (with_reducible show wpAny _ _ (call (Value.ref 64) _) _ _ _) | (with_reducible show wpAny _ _ (call (Value.builtin "len") [Value.ref _]) _ _ _) | (with_reducible show wpAny _ _ (call (Value.builtin "sum") [Value.ref _]) _ _ _) | (with_reducible show wpAny _ _ (call (Value.builtin "max") _) _ _ _) | (with_reducible show wpAny _ _ (exec (Stmt.Assign _ (Expr.ListComp _ _ _ _) _) _) _ _ _) | (with_reducible show wpAny _ _ (eval (Expr.ListComp _ _ _ _) _) _ _ _) | (with_reducible show wpAny _ _ (call (Value.builtin "str.join") _) _ _ _) | (with_reducible show LCg.CompSrc _ _ _ _ _ _ _ _ _ _ _ _ _ _) | (with_reducible show SrcB _ _ _ _ _ _ _ _ _ _ _ _ _ _) | (with_reducible show SrcC _ _ _ _ _ _ _ _ _ _ _ _ _ _) | (with_reducible show wpAny _ _ (subscriptTail _ (Expr.Slice _ _ _ _) _ _) _ _ _) | (with_reducible show wpAny _ _ (call (Value.builtin "list.index") _) _ _ _)); first | (k_unfold; (try dsimp only)) | (k_end; kc_close) | walk1 | (dsimp only; walk1) | (leave1; walk_say "STEP leave1"; (try dsimp only)) | fail "no step"))
    rename Fr _ _ _ _ => F8
    rename News _ _ _ _ => N8
    refine kso_max F8 N8 (News.isList (by k_asm) (by k_mem)) e3 (by rw [e4]; omega) (by rfl) ?_
    intro h10 M t10 tk10 F10 N10 hM1 hM2
    have hM := top_eq hM1 hM2
    have hM3 := List.mem_of_mem_take hM1
    w_strict (repeat' ((fail_if_success first | (with_reducible show wpAny _ _ (call (Value.builtin "next") _) _ _ _) | (with_reducible show wpAny _ _ (call (Value.builtin "iter") _) _ _ _) | (with_reducible show wpAny _ _ (pyIter _) _ _ _) | (with_reducible show wpAny _ _ (exec (Stmt.While _ _ _ _) _) _ _ _) | (with_reducible show wpAny _ _ (call (Value.ref 21) _) _ _ _) | (with_reducible show wpAny _ _ (call (Value.ref 35) _) _ _ _) | (with_reducible show wpAny _ _ (call (Value.ref 40) _) _ _ _) | (with_reducible show wpAny _ _ (call (Value.ref 45) _) _ _ _) | (with_reducible show wpAny _ _ (call (Value.ref 50) _) _ _ _) | (with_reducible show wpAny _ _ (call (Value.ref 57) _) _ _ _) | (with_reducible show wpAny _ _ (call (Value.ref 64) _) _ _ _) | (with_reducible show wpAny _ _ (call (Value.builtin "len") [Value.ref _]) _ _ _) | (with_reducible show wpAny _ _ (call (Value.builtin "sum") [Value.ref _]) _ _ _) | (with_reducible show wpAny _ _ (call (Value.builtin "max") _) _ _ _) | (with_reducible show wpAny _ _ (exec (Stmt.Assign _ (Expr.ListComp _ _ _ _) _) _) _ _ _) | (with_reducible show wpAny _ _ (eval (Expr.ListComp _ _ _ _) _) _ _ _) | (with_reducible show wpAny _ _ (call (Value.builtin "str.join") _) _ _ _) | (with_reducible show LCg.CompSrc _ _ _ _ _ _ _ _ _ _ _ _ _ _) | (with_reducible show SrcB _ _ _ _ _ _ _ _ _ _ _ _ _ _) | (with_reducible show SrcC _ _ _ _ _ _ _ _ _ _ _ _ _ _) | (with_reducible show wpAny _ _ (subscriptTail _ (Expr.Slice _ _ _ _) _ _) _ _ _) | (with_reducible show wpAny _ _ (call (Value.builtin "list.index") _) _ _ _)); first | (k_unfold; (try dsimp only)) | (k_end; kc_close) | walk1 | (dsimp only; walk1) | (leave1; walk_say "STEP leave1"; (try dsimp only)) | fail "no step"))
    rename News _ _ _ _ => N8
    refine m_index N8 (by repeat' first | exact hm1 | apply List.mem_cons_of_mem) hr1 hM3 (by rw [hrl]; omega) ?_
    w_strict (repeat' ((fail_if_success first | (with_reducible show wpAny _ _ (call (Value.builtin "next") _) _ _ _) | (with_reducible show wpAny _ _ (call (Value.builtin "iter") _) _ _ _) | (with_reducible show wpAny _ _ (pyIter _) _ _ _) | (with_reducible show wpAny _ _ (exec (Stmt.While _ _ _ _) _) _ _ _) | (with_reducible show wpAny _ _ (call (Value.ref 21) _) _ _ _) | (with_reducible show wpAny _ _ (call (Value.ref 35) _) _ _ _) | (with_reducible show wpAny _ _ (call (Value.ref 40) _) _ _ _) | (with_reducible show wpAny _ _ (call (Value.ref 45) _) _ _ _) | (with_reducible show wpAny _ _ (call (Value.ref 50) _) _ _ _) | (with_reducible show wpAny _ _ (call (Value.ref 57) _) _ _ _) | (with_reducible show wpAny _ _ (call (Value.ref 64) _) _ _ _) | (with_reducible show wpAny _ _ (call (Value.builtin "len") [Value.ref _]) _ _ _) | (with_reducible show wpAny _ _ (call (Value.builtin "sum") [Value.ref _]) _ _ _) | (with_reducible show wpAny _ _ (call (Value.builtin "max") _) _ _ _) | (with_reducible show wpAny _ _ (exec (Stmt.Assign _ (Expr.ListComp _ _ _ _) _) _) _ _ _) | (with_reducible show wpAny _ _ (eval (Expr.ListComp _ _ _ _) _) _ _ _) | (with_reducible show wpAny _ _ (call (Value.builtin "str.join") _) _ _ _) | (with_reducible show LCg.CompSrc _ _ _ _ _ _ _ _ _ _ _ _ _ _) | (with_reducible show SrcB _ _ _ _ _ _ _ _ _ _ _ _ _ _) | (with_reducible show SrcC _ _ _ _ _ _ _ _ _ _ _ _ _ _) | (with_reducible show wpAny _ _ (subscriptTail _ (Expr.Slice _ _ _ _) _ _) _ _ _) | (with_reducible show wpAny _ _ (call (Value.builtin "list.index") _) _ _ _)); first | (k_unfold; (try dsimp only)) | (k_end; kc_close) | walk1 | (dsimp only; walk1) | (leave1; walk_say "STEP leave1"; (try dsimp only)) | fail "no step"))
    refine LCg.CompEnd.intro (by assumption) (by assumption) _ ?sub off7 (.inr ⟨_, by k_mem, rfl, _, rfl⟩) ⟨rfl, ?ri⟩
    case sub => kcj_all
    rw [List.range_succ, List.map_append]
    exact ints_snoc hR (by rw [hM]; rfl)
  intro ysQ hRQ
  have hq2 : (#[Value.ref DA, Value.ref DB] : Array Value).size = 2 := rfl
  rw [hq2] at hRQ
  w_strict (repeat' ((fail_if_success first | (with_reducible show wpAny _ _ (call (Value.builtin "next") _) _ _ _) | (with_reducible show wpAny _ _ (call (Value.builtin "iter") _) _ _ _) | (with_reducible show wpAny _ _ (pyIter _) _ _ _) | (with_reducible show wpAny _ _ (exec (Stmt.While _ _ _ _) _) _ _ _) | (with_reducible show wpAny _ _ (call (Value.ref 21) _) _ _ _) | (with_reducible show wpAny _ _ (call (Value.ref 35) _) _ _ _) | (with_reducible show wpAny _ _ (call (Value.ref 40) _) _ _ _) | (with_reducible show wpAny _ _ (call (Value.ref 45) _) _ _ _) | (with_reducible show wpAny _ _ (call (Value.ref 50) _) _ _ _) | (with_reducible show wpAny _ _ (call (Value.ref 57) _) _ _ _) | (with_reducible show wpAny _ _ (call (Value.ref 64) _) _ _ _) | (with_reducible show wpAny _ _ (call (Value.builtin "len") [Value.ref _]) _ _ _) | (with_reducible show wpAny _ _ (call (Value.builtin "sum") [Value.ref _]) _ _ _) | (with_reducible show wpAny _ _ (call (Value.builtin "max") _) _ _ _) | (with_reducible show wpAny _ _ (exec (Stmt.Assign _ (Expr.ListComp _ _ _ _) _) _) _ _ _) | (with_reducible show wpAny _ _ (eval (Expr.ListComp _ _ _ _) _) _ _ _) | (with_reducible show wpAny _ _ (call (Value.builtin "str.join") _) _ _ _) | (with_reducible show LCg.CompSrc _ _ _ _ _ _ _ _ _ _ _ _ _ _) | (with_reducible show SrcB _ _ _ _ _ _ _ _ _ _ _ _ _ _) | (with_reducible show SrcC _ _ _ _ _ _ _ _ _ _ _ _ _ _) | (with_reducible show wpAny _ _ (subscriptTail _ (Expr.Slice _ _ _ _) _ _) _ _ _) | (with_reducible show wpAny _ _ (call (Value.builtin "list.index") _) _ _ _)); first | (k_unfold; (try dsimp only)) | (k_end; kc_close) | walk1 | (dsimp only; walk1) | (leave1; walk_say "STEP leave1"; (try dsimp only)) | fail "no step"))
  rename Fr _ _ _ _ => F8
  rename News _ _ _ _ => N8
  refine kso_max F8 N8 (News.isList (by k_asm) (by k_mem)) hRQ (by simp) (by rfl) ?_
  intro hP P tP tkP FP NP hP1 hP2
  have hpl : P = ((placeOf fs : Nat) : Int) := mem_range2 hP1 hP2
  w_strict (repeat' ((fail_if_success first | (with_reducible show wpAny _ _ (call (Value.builtin "next") _) _ _ _) | (with_reducible show wpAny _ _ (call (Value.builtin "iter") _) _ _ _) | (with_reducible show wpAny _ _ (pyIter _) _ _ _) | (with_reducible show wpAny _ _ (exec (Stmt.While _ _ _ _) _) _ _ _) | (with_reducible show wpAny _ _ (call (Value.ref 21) _) _ _ _) | (with_reducible show wpAny _ _ (call (Value.ref 35) _) _ _ _) | (with_reducible show wpAny _ _ (call (Value.ref 40) _) _ _ _) | (with_reducible show wpAny _ _ (call (Value.ref 45) _) _ _ _) | (with_reducible show wpAny _ _ (call (Value.ref 50) _) _ _ _) | (with_reducible show wpAny _ _ (call (Value.ref 57) _) _ _ _) | (with_reducible show wpAny _ _ (call (Value.ref 64) _) _ _ _) | (with_reducible show wpAny _ _ (call (Value.builtin "len") [Value.ref _]) _ _ _) | (with_reducible show wpAny _ _ (call (Value.builtin "sum") [Value.ref _]) _ _ _) | (with_reducible show wpAny _ _ (call (Value.builtin "max") _) _ _ _) | (with_reducible show wpAny _ _ (exec (Stmt.Assign _ (Expr.ListComp _ _ _ _) _) _) _ _ _) | (with_reducible show wpAny _ _ (eval (Expr.ListComp _ _ _ _) _) _ _ _) | (with_reducible show wpAny _ _ (call (Value.builtin "str.join") _) _ _ _) | (with_reducible show LCg.CompSrc _ _ _ _ _ _ _ _ _ _ _ _ _ _) | (with_reducible show SrcB _ _ _ _ _ _ _ _ _ _ _ _ _ _) | (with_reducible show SrcC _ _ _ _ _ _ _ _ _ _ _ _ _ _) | (with_reducible show wpAny _ _ (subscriptTail _ (Expr.Slice _ _ _ _) _ _) _ _ _) | (with_reducible show wpAny _ _ (call (Value.builtin "list.index") _) _ _ _)); first | (k_unfold; (try dsimp only)) | (k_end; kc_close) | walk1 | (dsimp only; walk1) | (leave1; walk_say "STEP leave1"; (try dsimp only)) | fail "no step"))
  repeat (rename _ => zz; revert zz)
  exact fun h => h.out)
end
section
local macro_rules | `(tactic| kas_types) => `(tactic| ((rename _ ∧ _ => hx9); (have ha9 := hx9.1); (have hb9 := hx9.2); (clear hx9); first | exact ha9 | exact Ne.symm ha9 | exact hb9 | exact Ne.symm hb9 | exact Nat.ne_of_lt ha9 | exact Nat.ne_of_gt ha9 | exact Nat.ne_of_lt hb9 | exact Nat.ne_of_gt hb9 | ((clear ha9); kas_types)))
local macro_rules | `(tactic| k_ne) => `(tactic| ((refine neN ?_); (try dsimp only); first | assumption | exact Ne.symm (by assumption) | kas_types | omega))
local macro_rules | `(tactic| ksw_same) => `(tactic| (intro z h2 h3; (try simp only [List.forall_mem_cons, List.not_mem_nil, false_implies, implies_true, and_true, ne_eq] at h2); (try simp only [List.contains_cons, List.contains_nil, Bool.or_false, Bool.or_eq_false_iff, beq_eq_false_iff_ne, ne_eq] at h3); simp [env9, tokd, kstB, h2, h3]))
local macro_rules | `(tactic| walk_at "call type:range") => `(tactic| ((rename Fr _ _ _ _ => F'); (rename News _ _ _ _ => N'); first | (with_unfolding_all refine range1_rows F' N' ?_; intro _ _ _ _ _ _ _ _ _) | (with_unfolding_all refine range2_rows F' N' ?_; intro _ _ _ _ _ _ _ _ _)))
local macro_rules | `(tactic| k_all) => `(tactic| first | exact ne_of_all (by assumption) | exact ne_of_allLt (by assumption) | exact ne_of_off (by assumption))
noncomputable def stLwJ : {G : Prop // Hole G → stLwI.1} := mkSt (by
  intro hG
  intro _
  intros
  rename List Int => fs
  rename Fig _ => hfg
  rename 4 ≤ _ ∧ _ ≤ 7 => hfl
  rename Fr _ _ _ _ => F8
  rename News _ _ _ _ => N8
  have q1 := per_pos hfg
  have q2 := place_lt hfg
  have q3 := plain_top hfg
  have q4 := plain_at hfg
  have q5 := plain_lt hfg
  rename IntsAre _ ((List.range fs.length).map fun k => 1 + (((toldRow fs k ++ [true]).idxOf true : Nat) : Int)) => hRZ
  rename IntsAre _ (perUpto fs fs.length) => hRP
  have hRZ' : IntsAre _ (sizesOf fs) := hRZ
  have hzl : (sizesOf fs).length = fs.length := by simp [sizesOf]
  generalize hpp : perUpto fs fs.length = pp at *
  rename _ = ((placeOf fs : Nat) : Int) => hpl
  refine kso_max F8 N8 (News.isList (by k_asm) (by k_mem)) hRZ' (by omega) (by rfl) ?_
  intro hZ Z tZ tkZ FZ NZ hZ1 hZ2
  have hzz := (top_eq hZ1 hZ2).trans q3
  w_strict (repeat' ((fail_if_success first | (with_reducible show wpAny _ _ (call (Value.builtin "next") _) _ _ _) | (with_reducible show wpAny _ _ (call (Value.builtin "iter") _) _ _ _) | (with_reducible show wpAny _ _ (pyIter _) _ _ _) | (with_reducible show wpAny _ _ (exec (Stmt.While _ _ _ _) _) _ _ _) | (with_reducible show wpAny _ _ (call (Value.ref 21) _) _ _ _) | (with_reducible show wpAny _ _ (call (Value.ref 35) _) _ _ _) | (with_reducible show wpAny _ _ (call (Value.ref 40) _) _ _ _) | (with_reducible show wpAny _ _ (call (Value.ref 45) _) _ _ _) | (with_reducible show wpAny _ _ (call (Value.ref 50) _) _ _ _) | (with_reducible show wpAny _ _ (call (Value.ref 57) _) _ _ _) | (with_reducible show wpAny _ _ (call (Value.ref 64) _) _ _ _) | (with_reducible show wpAny _ _ (call (Value.builtin "len") [Value.ref _]) _ _ _) | (with_reducible show wpAny _ _ (call (Value.builtin "sum") [Value.ref _]) _ _ _) | (with_reducible show wpAny _ _ (call (Value.builtin "max") _) _ _ _) | (with_reducible show wpAny _ _ (exec (Stmt.Assign _ (Expr.ListComp _ _ _ _) _) _) _ _ _) | (with_reducible show wpAny _ _ (eval (Expr.ListComp _ _ _ _) _) _ _ _) | (with_reducible show wpAny _ _ (call (Value.builtin "str.join") _) _ _ _) | (with_reducible show LCg.CompSrc _ _ _ _ _ _ _ _ _ _ _ _ _ _) | (with_reducible show SrcB _ _ _ _ _ _ _ _ _ _ _ _ _ _) | (with_reducible show SrcC _ _ _ _ _ _ _ _ _ _ _ _ _ _)); first | (k_unfold; (try dsimp only)) | (k_end; kc_close) | walk1 | (dsimp only; walk1) | (leave1; walk_say "STEP leave1"; (try dsimp only)) | fail "no step"))
  clear F8 N8
  rename Fr _ _ _ _ => F1
  rename News _ _ _ _ => N1
  rename IsRange _ _ _ _ _ _ _ _ => R1
  refine m_range (σ := Unit) (fun _ => _) (fun _ => []) ["cut", "both_ends"] (fun _ _ => True) () rfl R1 (small_one (by omega) (by omega) (by omega) (by omega)) (n := fs.length) (by rw [rangeSize_nat]; omega) F1 N1 trivial trivial ?turn ?done
  case turn =>
    clear F1 N1 R1
    intro c i t u tkf h tk I oI hi off hp F2 N2
    w_strict (repeat' ((fail_if_success first | (with_reducible show wpAny _ _ (call (Value.builtin "next") _) _ _ _) | (with_reducible show wpAny _ _ (call (Value.builtin "iter") _) _ _ _) | (with_reducible show wpAny _ _ (pyIter _) _ _ _) | (with_reducible show wpAny _ _ (exec (Stmt.While _ _ _ _) _) _ _ _) | (with_reducible show wpAny _ _ (call (Value.ref 21) _) _ _ _) | (with_reducible show wpAny _ _ (call (Value.ref 35) _) _ _ _) | (with_reducible show wpAny _ _ (call (Value.ref 40) _) _ _ _) | (with_reducible show wpAny _ _ (call (Value.ref 45) _) _ _ _) | (with_reducible show wpAny _ _ (call (Value.ref 50) _) _ _ _) | (with_reducible show wpAny _ _ (call (Value.ref 57) _) _ _ _) | (with_reducible show wpAny _ _ (call (Value.ref 64) _) _ _ _) | (with_reducible show wpAny _ _ (call (Value.builtin "len") [Value.ref _]) _ _ _) | (with_reducible show wpAny _ _ (call (Value.builtin "sum") [Value.ref _]) _ _ _) | (with_reducible show wpAny _ _ (call (Value.builtin "max") _) _ _ _) | (with_reducible show wpAny _ _ (exec (Stmt.Assign _ (Expr.ListComp _ _ _ _) _) _) _ _ _) | (with_reducible show wpAny _ _ (eval (Expr.ListComp _ _ _ _) _) _ _ _) | (with_reducible show wpAny _ _ (call (Value.builtin "str.join") _) _ _ _) | (with_reducible show LCg.CompSrc _ _ _ _ _ _ _ _ _ _ _ _ _ _) | (with_reducible show SrcB _ _ _ _ _ _ _ _ _ _ _ _ _ _) | (with_reducible show SrcC _ _ _ _ _ _ _ _ _ _ _ _ _ _)); first | (k_unfold; (try dsimp only)) | (k_end; kc_close) | walk1 | (dsimp only; walk1) | (leave1; walk_say "STEP leave1"; (try dsimp only)) | fail "no step"))
    rename Fr _ _ _ _ => F3
    rename News _ _ _ _ => N3
    rename IsRange _ _ _ _ _ _ _ _ => R3
    refine m_range (σ := Unit) (fun _ => _) (fun _ => []) [] (fun _ _ => True) () rfl R3 (small_one (by omega) (by omega) (by omega) (by omega)) (n := fs.length) (by rw [rangeSize_nat]; omega) F3 N3 trivial trivial ?turn2 ?done2
    case turn2 =>
      clear F3 N3 R3
      intro c' i' t' u' tkf' h' tk' I' oI' hi' off' hp' F4 N4
      w_strict (repeat' ((fail_if_success first | (with_reducible show wpAny _ _ (call (Value.ref _) _) _ _ _) | (with_reducible show wpAny _ _ (call (Value.builtin "next") _) _ _ _) | (with_reducible show wpAny _ _ (call (Value.builtin "iter") _) _ _ _) | (with_reducible show wpAny _ _ (pyIter _) _ _ _) | (with_reducible show wpAny _ _ (exec (Stmt.While _ _ _ _) _) _ _ _) | (with_reducible show wpAny _ _ (subscriptTail _ _ (Value.ref _) (Value.int _ _)) _ _ _)); first | (k_unfold; (try dsimp only)) | (k_end; kc_close) | walk1 | (dsimp only; walk1) | (leave1; walk_say "STEP leave1"; (try dsimp only)) | fail "no step"))
      rename News _ _ _ _ => N5
      rename RowsL _ _ _ _ => hRO
      rename _ = numOf fs => hnum
      subst hnum
      obtain ⟨D1, row, e1, hm1, hb1⟩ := hRO.get hi'
      have hr1 := hb1.length
      have hr2 : (toldRow fs i').length = fs.length := by simp [toldRow]
      refine m_sub N5 (by k_mem) (by rw [show (0 + (i' : Int)).toNat = i' by omega]; exact e1) (by omega) (by omega) ?_
      w_strict (repeat' ((fail_if_success first | (with_reducible show wpAny _ _ (call (Value.ref _) _) _ _ _) | (with_reducible show wpAny _ _ (call (Value.builtin "next") _) _ _ _) | (with_reducible show wpAny _ _ (call (Value.builtin "iter") _) _ _ _) | (with_reducible show wpAny _ _ (pyIter _) _ _ _) | (with_reducible show wpAny _ _ (exec (Stmt.While _ _ _ _) _) _ _ _) | (with_reducible show wpAny _ _ (subscriptTail _ _ (Value.ref _) (Value.int _ _)) _ _ _)); first | (k_unfold; (try dsimp only)) | (k_end; kc_close) | walk1 | (dsimp only; walk1) | (leave1; walk_say "STEP leave1"; (try dsimp only)) | fail "no step"))
      rename News _ _ _ _ => N6
      refine kbo_sub N6 (by repeat' first | exact hm1 | apply List.mem_cons_of_mem) hb1 (by omega) (by omega) (by omega) ?_
      have e2 : (toldRow fs i').getD (1 + (i : Int) - 1).toNat false = alikeD (numOf fs) (fs.length : Int) (0 + (i' : Int)) (1 + (i : Int)) := by
        rw [show (1 + (i : Int) - 1).toNat = i by omega, show (0 + (i' : Int)) = (i' : Int) by omega, show (1 + (i : Int)) = (i : Int) + 1 by omega, ← plain_div hfg hi' hi]
        simp [toldRow, hi]
      rw [e2]
      w_strict (repeat' ((fail_if_success first | (with_reducible show wpAny _ _ (call (Value.builtin "next") _) _ _ _) | (with_reducible show wpAny _ _ (call (Value.builtin "iter") _) _ _ _) | (with_reducible show wpAny _ _ (pyIter _) _ _ _) | (with_reducible show wpAny _ _ (exec (Stmt.While _ _ _ _) _) _ _ _) | (with_reducible show wpAny _ _ (call (Value.ref 21) _) _ _ _) | (with_reducible show wpAny _ _ (call (Value.ref 35) _) _ _ _) | (with_reducible show wpAny _ _ (call (Value.ref 40) _) _ _ _) | (with_reducible show wpAny _ _ (call (Value.ref 45) _) _ _ _) | (with_reducible show wpAny _ _ (call (Value.ref 50) _) _ _ _) | (with_reducible show wpAny _ _ (call (Value.ref 57) _) _ _ _) | (with_reducible show wpAny _ _ (call (Value.ref 64) _) _ _ _) | (with_reducible show wpAny _ _ (call (Value.builtin "len") [Value.ref _]) _ _ _) | (with_reducible show wpAny _ _ (call (Value.builtin "sum") [Value.ref _]) _ _ _) | (with_reducible show wpAny _ _ (call (Value.builtin "max") _) _ _ _) | (with_reducible show wpAny _ _ (exec (Stmt.Assign _ (Expr.ListComp _ _ _ _) _) _) _ _ _) | (with_reducible show wpAny _ _ (eval (Expr.ListComp _ _ _ _) _) _ _ _) | (with_reducible show wpAny _ _ (call (Value.builtin "str.join") _) _ _ _) | (with_reducible show LCg.CompSrc _ _ _ _ _ _ _ _ _ _ _ _ _ _) | (with_reducible show SrcB _ _ _ _ _ _ _ _ _ _ _ _ _ _) | (with_reducible show SrcC _ _ _ _ _ _ _ _ _ _ _ _ _ _)); first | (k_unfold; (try dsimp only)) | (k_end; kc_close) | walk1 | (dsimp only; walk1) | (leave1; walk_say "STEP leave1"; (try dsimp only)) | fail "no step"))
      refine' cl_use (c_div _ _ _ _ (numOf fs) (fs.length : Int) (0 + (i' : Int)) (1 + (i : Int)) _ _ _ _ _) ?k1x6 ?k2x6 ?k3x6 ?k4x6 ?k5x6 ?kKx6 ?kpx6 ?kdx6 ?kux6 ?kRx6
      case k1x6 => k_asm
      case k2x6 => k_asm
      case k3x6 => k_asm
      case k4x6 => k_asm
      case k5x6 => k_asm
      case kKx6 => exact rfl
      case kpx6 => exact ⟨by omega, by omega, by omega, by omega, by omega, by omega, by omega, by omega⟩
      case kdx6 => ktr_room
      case kux6 => ktr_units
      intro t9 h9 tk9 F9 N9
      w_strict (repeat' ((fail_if_success first | (with_reducible show wpAny _ _ (call (Value.builtin "next") _) _ _ _) | (with_reducible show wpAny _ _ (call (Value.builtin "iter") _) _ _ _) | (with_reducible show wpAny _ _ (pyIter _) _ _ _) | (with_reducible show wpAny _ _ (exec (Stmt.While _ _ _ _) _) _ _ _) | (with_reducible show wpAny _ _ (call (Value.ref 21) _) _ _ _) | (with_reducible show wpAny _ _ (call (Value.ref 35) _) _ _ _) | (with_reducible show wpAny _ _ (call (Value.ref 40) _) _ _ _) | (with_reducible show wpAny _ _ (call (Value.ref 45) _) _ _ _) | (with_reducible show wpAny _ _ (call (Value.ref 50) _) _ _ _) | (with_reducible show wpAny _ _ (call (Value.ref 57) _) _ _ _) | (with_reducible show wpAny _ _ (call (Value.ref 64) _) _ _ _) | (with_reducible show wpAny _ _ (call (Value.builtin "len") [Value.ref _]) _ _ _) | (with_reducible show wpAny _ _ (call (Value.builtin "sum") [Value.ref _]) _ _ _) | (with_reducible show wpAny _ _ (call (Value.builtin "max") _) _ _ _) | (with_reducible show wpAny _ _ (exec (Stmt.Assign _ (Expr.ListComp _ _ _ _) _) _) _ _ _) | (with_reducible show wpAny _ _ (eval (Expr.ListComp _ _ _ _) _) _ _ _) | (with_reducible show wpAny _ _ (call (Value.builtin "str.join") _) _ _ _) | (with_reducible show LCg.CompSrc _ _ _ _ _ _ _ _ _ _ _ _ _ _) | (with_reducible show SrcB _ _ _ _ _ _ _ _ _ _ _ _ _ _) | (with_reducible show SrcC _ _ _ _ _ _ _ _ _ _ _ _ _ _)); first | (k_unfold; (try dsimp only)) | (k_end; kc_close) | walk1 | (dsimp only; walk1) | (leave1; walk_say "STEP leave1"; (try dsimp only)) | fail "no step"))
      · rename (_ != _) = true => hx
        exact absurd hx (by simp)
      dsimp only [FPost]
      refine FEnd.intro () (by assumption) (by assumption) (by kcj_all) off' trivial (by ksw_same) trivial
    case done2 =>
      clear F3 N3 R3
      intro c' u' tkf' h' tk' hp' F4 N4
      have q6 : ellAB (Txt.slice (textOf fs) (some (1 + (i : Int))) none) (Txt.slice (textOf fs) none (some ((fs.length : Int) - (1 + (i : Int))))) (textOf fs) = (pp.any (fun x => x == 1 + (i : Int)) && decide ((fs.length : Int) ≤ 2 * (1 + (i : Int)))) := by
        have q7 := plain_ends hfg hi
        rw [hpp] at q7
        rw [show (1 + (i : Int)) = (i : Int) + 1 by omega]
        exact q7
      w_strict (repeat' ((fail_if_success first | (with_reducible show wpAny _ _ (call (Value.builtin "next") _) _ _ _) | (with_reducible show wpAny _ _ (call (Value.builtin "iter") _) _ _ _) | (with_reducible show wpAny _ _ (pyIter _) _ _ _) | (with_reducible show wpAny _ _ (exec (Stmt.While _ _ _ _) _) _ _ _) | (with_reducible show wpAny _ _ (call (Value.ref 21) _) _ _ _) | (with_reducible show wpAny _ _ (call (Value.ref 35) _) _ _ _) | (with_reducible show wpAny _ _ (call (Value.ref 40) _) _ _ _) | (with_reducible show wpAny _ _ (call (Value.ref 45) _) _ _ _) | (with_reducible show wpAny _ _ (call (Value.ref 50) _) _ _ _) | (with_reducible show wpAny _ _ (call (Value.ref 57) _) _ _ _) | (with_reducible show wpAny _ _ (call (Value.ref 64) _) _ _ _) | (with_reducible show wpAny _ _ (call (Value.builtin "len") [Value.ref _]) _ _ _) | (with_reducible show wpAny _ _ (call (Value.builtin "sum") [Value.ref _]) _ _ _) | (with_reducible show wpAny _ _ (call (Value.builtin "max") _) _ _ _) | (with_reducible show wpAny _ _ (exec (Stmt.Assign _ (Expr.ListComp _ _ _ _) _) _) _ _ _) | (with_reducible show wpAny _ _ (eval (Expr.ListComp _ _ _ _) _) _ _ _) | (with_reducible show wpAny _ _ (call (Value.builtin "str.join") _) _ _ _) | (with_reducible show LCg.CompSrc _ _ _ _ _ _ _ _ _ _ _ _ _ _) | (with_reducible show SrcB _ _ _ _ _ _ _ _ _ _ _ _ _ _) | (with_reducible show SrcC _ _ _ _ _ _ _ _ _ _ _ _ _ _)); first | (k_unfold; (try dsimp only)) | (k_end; kc_close) | walk1 | (dsimp only; walk1) | (leave1; walk_say "STEP leave1"; (try dsimp only)) | fail "no step"))
      refine' cl_use (c_el _ _ _ _ (Txt.slice (textOf fs) (some (1 + (i : Int))) none ++ Str.ofString "..." ++ Txt.slice (textOf fs) none (some ((fs.length : Int) - (1 + (i : Int))))) (textOf fs) (Txt.slice (textOf fs) (some (1 + (i : Int))) none) (Txt.slice (textOf fs) none (some ((fs.length : Int) - (1 + (i : Int))))) _ _ _) ?k1x7 ?k2x7 ?k3x7 ?k4x7 ?k5x7 ?kKx7 ?kpx7 ?kdx7 ?kux7 ?kRx7
      case k1x7 => k_asm
      case k2x7 => k_asm
      case k3x7 => k_asm
      case k4x7 => k_asm
      case k5x7 => k_asm
      case kKx7 => exact rfl
      case kpx7 => exact el_pre rfl (hfg.df.slice _ _) (hfg.df.slice _ _) (Nat.le_trans (Txt.slice_le _ _ _) (by rw [text_len]; omega)) (Nat.le_trans (Txt.slice_le _ _ _) (by rw [text_len]; omega)) (by rw [text_len]; omega)
      case kdx7 => ktr_room
      case kux7 => ktr_units
      intro t9 h9 tk9 F9 N9
      w_strict (repeat' ((fail_if_success first | (with_reducible show wpAny _ _ (call (Value.builtin "next") _) _ _ _) | (with_reducible show wpAny _ _ (call (Value.builtin "iter") _) _ _ _) | (with_reducible show wpAny _ _ (pyIter _) _ _ _) | (with_reducible show wpAny _ _ (exec (Stmt.While _ _ _ _) _) _ _ _) | (with_reducible show wpAny _ _ (call (Value.ref 21) _) _ _ _) | (with_reducible show wpAny _ _ (call (Value.ref 35) _) _ _ _) | (with_reducible show wpAny _ _ (call (Value.ref 40) _) _ _ _) | (with_reducible show wpAny _ _ (call (Value.ref 45) _) _ _ _) | (with_reducible show wpAny _ _ (call (Value.ref 50) _) _ _ _) | (with_reducible show wpAny _ _ (call (Value.ref 57) _) _ _ _) | (with_reducible show wpAny _ _ (call (Value.ref 64) _) _ _ _) | (with_reducible show wpAny _ _ (call (Value.builtin "len") [Value.ref _]) _ _ _) | (with_reducible show wpAny _ _ (call (Value.builtin "sum") [Value.ref _]) _ _ _) | (with_reducible show wpAny _ _ (call (Value.builtin "max") _) _ _ _) | (with_reducible show wpAny _ _ (exec (Stmt.Assign _ (Expr.ListComp _ _ _ _) _) _) _ _ _) | (with_reducible show wpAny _ _ (eval (Expr.ListComp _ _ _ _) _) _ _ _) | (with_reducible show wpAny _ _ (call (Value.builtin "str.join") _) _ _ _) | (with_reducible show LCg.CompSrc _ _ _ _ _ _ _ _ _ _ _ _ _ _) | (with_reducible show SrcB _ _ _ _ _ _ _ _ _ _ _ _ _ _) | (with_reducible show SrcC _ _ _ _ _ _ _ _ _ _ _ _ _ _)); first | (k_unfold; (try dsimp only)) | (k_end; kc_close) | walk1 | (dsimp only; walk1) | (leave1; walk_say "STEP leave1"; (try dsimp only)) | fail "no step"))
      · rename (_ != _) = true => hx
        rename List.any _ _ = _ => ha
        rw [q6, ha] at hx
        exact absurd hx (by simp)
      · dsimp only [FPost]
        refine FEnd.intro () (by assumption) (by assumption) (by kcj_all) off trivial (by ksw_same) trivial
      · rename (_ != _) = true => hx
        rename List.any _ _ = _ => ha
        rw [q6, ha] at hx
        exact absurd hx (by simp)
      · dsimp only [FPost]
        refine FEnd.intro () (by assumption) (by assumption) (by kcj_all) off trivial (by ksw_same) trivial
  clear F1 N1 R1
  intro c u tkf h tk hp F2 N2
  subst hpp
  w_strict (repeat' ((fail_if_success first | (with_reducible show wpAny _ _ (call (Value.builtin "next") _) _ _ _) | (with_reducible show wpAny _ _ (call (Value.builtin "iter") _) _ _ _) | (with_reducible show wpAny _ _ (pyIter _) _ _ _) | (with_reducible show wpAny _ _ (exec (Stmt.While _ _ _ _) _) _ _ _) | (with_reducible show wpAny _ _ (call (Value.ref 21) _) _ _ _) | (with_reducible show wpAny _ _ (call (Value.ref 35) _) _ _ _) | (with_reducible show wpAny _ _ (call (Value.ref 40) _) _ _ _) | (with_reducible show wpAny _ _ (call (Value.ref 45) _) _ _ _) | (with_reducible show wpAny _ _ (call (Value.ref 50) _) _ _ _) | (with_reducible show wpAny _ _ (call (Value.ref 57) _) _ _ _) | (with_reducible show wpAny _ _ (call (Value.ref 64) _) _ _ _) | (with_reducible show wpAny _ _ (call (Value.builtin "len") [Value.ref _]) _ _ _) | (with_reducible show wpAny _ _ (call (Value.builtin "sum") [Value.ref _]) _ _ _) | (with_reducible show wpAny _ _ (call (Value.builtin "max") _) _ _ _) | (with_reducible show wpAny _ _ (exec (Stmt.Assign _ (Expr.ListComp _ _ _ _) _) _) _ _ _) | (with_reducible show wpAny _ _ (eval (Expr.ListComp _ _ _ _) _) _ _ _) | (with_reducible show wpAny _ _ (call (Value.builtin "str.join") _) _ _ _) | (with_reducible show LCg.CompSrc _ _ _ _ _ _ _ _ _ _ _ _ _ _) | (with_reducible show SrcB _ _ _ _ _ _ _ _ _ _ _ _ _ _) | (with_reducible show SrcC _ _ _ _ _ _ _ _ _ _ _ _ _ _)); first | (k_unfold; (try dsimp only)) | (k_end; kc_close) | walk1 | (dsimp only; walk1) | (leave1; walk_say "STEP leave1"; (try dsimp only)) | fail "no step"))
  repeat (rename _ => zz; revert zz)
  exact fun h => h.out)
end
section
local macro_rules | `(tactic| kas_types) => `(tactic| ((rename _ ∧ _ => hx9); (have ha9 := hx9.1); (have hb9 := hx9.2); (clear hx9); first | exact ha9 | exact Ne.symm ha9 | exact hb9 | exact Ne.symm hb9 | exact Nat.ne_of_lt ha9 | exact Nat.ne_of_gt ha9 | exact Nat.ne_of_lt hb9 | exact Nat.ne_of_gt hb9 | ((clear ha9); kas_types)))
local macro_rules | `(tactic| k_ne) => `(tactic| ((refine neN ?_); (try dsimp only); first | assumption | exact Ne.symm (by assumption) | kas_types | omega))
local macro_rules | `(tactic| ksw_same) => `(tactic| (intro z h2 h3; (try simp only [List.forall_mem_cons, List.not_mem_nil, false_implies, implies_true, and_true, ne_eq] at h2); (try simp only [List.contains_cons, List.contains_nil, Bool.or_false, Bool.or_eq_false_iff, beq_eq_false_iff_ne, ne_eq] at h3); simp [env9, tokd, kstB, h2, h3]))
local macro_rules | `(tactic| walk_at "call type:range") => `(tactic| ((rename Fr _ _ _ _ => F'); (rename News _ _ _ _ => N'); first | (with_unfolding_all refine range1_rows F' N' ?_; intro _ _ _ _ _ _ _ _ _) | (with_unfolding_all refine range2_rows F' N' ?_; intro _ _ _ _ _ _ _ _ _)))
local macro_rules | `(tactic| k_all) => `(tactic| first | exact ne_of_all (by assumption) | exact ne_of_allLt (by assumption) | exact ne_of_off (by assumption))
theorem stLwK : stLwJ.1 := by
  intro _
  intros
  rename List Int => fs
  rename Fig _ => hfg
  rename 4 ≤ _ ∧ _ ≤ 7 => hfl
  refine' clO_use (c_td _ _ _ _ (wordB fs).toArray (fs.map fun f => 65 + f) _ _) ?k1x8 ?k2x8 ?k3x8 ?k4x8 ?k5x8 ?kKx8 ?kpx8 ?kdx8 ?kux8 ?kRx8
  case k1x8 => k_asm
  case k2x8 => k_asm
  case k3x8 => k_asm
  case k4x8 => k_asm
  case k5x8 => k_asm
  case kKx8 => exact rfl
  case kpx8 => exact ⟨hfg.wordI, by rw [List.length_map]; omega, by rw [List.length_map]; omega, by intro x hx; obtain ⟨f, hf, rfl⟩ := List.mem_map.mp hx; have := hfg.bd f hf; omega⟩
  case kdx8 => ktr_room
  case kux8 => ktr_units
  intro r9 n9 h9 tk9 F9 N9 O9
  obtain ⟨DC, vC, kC, eC1, eC2, hRC, offC⟩ := O9
  subst eC1 eC2
  w_strict (repeat' ((fail_if_success first | (with_reducible show wpAny _ _ (call (Value.builtin "next") _) _ _ _) | (with_reducible show wpAny _ _ (call (Value.builtin "iter") _) _ _ _) | (with_reducible show wpAny _ _ (pyIter _) _ _ _) | (with_reducible show wpAny _ _ (exec (Stmt.While _ _ _ _) _) _ _ _) | (with_reducible show wpAny _ _ (call (Value.ref 21) _) _ _ _) | (with_reducible show wpAny _ _ (call (Value.ref 35) _) _ _ _) | (with_reducible show wpAny _ _ (call (Value.ref 40) _) _ _ _) | (with_reducible show wpAny _ _ (call (Value.ref 45) _) _ _ _) | (with_reducible show wpAny _ _ (call (Value.ref 50) _) _ _ _) | (with_reducible show wpAny _ _ (call (Value.ref 57) _) _ _ _) | (with_reducible show wpAny _ _ (call (Value.ref 64) _) _ _ _) | (with_reducible show wpAny _ _ (call (Value.builtin "len") [Value.ref _]) _ _ _) | (with_reducible show wpAny _ _ (call (Value.builtin "sum") [Value.ref _]) _ _ _) | (with_reducible show wpAny _ _ (call (Value.builtin "max") _) _ _ _) | (with_reducible show wpAny _ _ (exec (Stmt.Assign _ (Expr.ListComp _ _ _ _) _) _) _ _ _) | (with_reducible show wpAny _ _ (eval (Expr.ListComp _ _ _ _) _) _ _ _) | (with_reducible show wpAny _ _ (call (Value.builtin "str.join") _) _ _ _) | (with_reducible show LCg.CompSrc _ _ _ _ _ _ _ _ _ _ _ _ _ _) | (with_reducible show SrcB _ _ _ _ _ _ _ _ _ _ _ _ _ _) | (with_reducible show SrcC _ _ _ _ _ _ _ _ _ _ _ _ _ _) | (with_reducible show wpAny _ _ (compareOp CmpOp.Eq (Value.ref _) (Value.ref _)) _ _ _)); first | (k_unfold; (try dsimp only)) | (k_end; kc_close) | walk1 | (dsimp only; walk1) | (leave1; walk_say "STEP leave1"; (try dsimp only)) | fail "no step"))
  refine' clO_use (c_td _ _ _ _ (lackB fs).toArray (fs.map fun f => 80 - f) _ _) ?k1x9 ?k2x9 ?k3x9 ?k4x9 ?k5x9 ?kKx9 ?kpx9 ?kdx9 ?kux9 ?kRx9
  case k1x9 => k_asm
  case k2x9 => k_asm
  case k3x9 => k_asm
  case k4x9 => k_asm
  case k5x9 => k_asm
  case kKx9 => exact rfl
  case kpx9 => exact ⟨hfg.lackI, by rw [List.length_map]; omega, by rw [List.length_map]; omega, by intro x hx; obtain ⟨f, hf, rfl⟩ := List.mem_map.mp hx; have := hfg.bd f hf; omega⟩
  case kdx9 => ktr_room
  case kux9 => ktr_units
  intro r9 n9 h9 tk9 F9 N9 O9
  obtain ⟨DD, vD, kD, eD1, eD2, hRD, offD⟩ := O9
  subst eD1 eD2
  w_strict (repeat' ((fail_if_success first | (with_reducible show wpAny _ _ (call (Value.builtin "next") _) _ _ _) | (with_reducible show wpAny _ _ (call (Value.builtin "iter") _) _ _ _) | (with_reducible show wpAny _ _ (pyIter _) _ _ _) | (with_reducible show wpAny _ _ (exec (Stmt.While _ _ _ _) _) _ _ _) | (with_reducible show wpAny _ _ (call (Value.ref 21) _) _ _ _) | (with_reducible show wpAny _ _ (call (Value.ref 35) _) _ _ _) | (with_reducible show wpAny _ _ (call (Value.ref 40) _) _ _ _) | (with_reducible show wpAny _ _ (call (Value.ref 45) _) _ _ _) | (with_reducible show wpAny _ _ (call (Value.ref 50) _) _ _ _) | (with_reducible show wpAny _ _ (call (Value.ref 57) _) _ _ _) | (with_reducible show wpAny _ _ (call (Value.ref 64) _) _ _ _) | (with_reducible show wpAny _ _ (call (Value.builtin "len") [Value.ref _]) _ _ _) | (with_reducible show wpAny _ _ (call (Value.builtin "sum") [Value.ref _]) _ _ _) | (with_reducible show wpAny _ _ (call (Value.builtin "max") _) _ _ _) | (with_reducible show wpAny _ _ (exec (Stmt.Assign _ (Expr.ListComp _ _ _ _) _) _) _ _ _) | (with_reducible show wpAny _ _ (eval (Expr.ListComp _ _ _ _) _) _ _ _) | (with_reducible show wpAny _ _ (call (Value.builtin "str.join") _) _ _ _) | (with_reducible show LCg.CompSrc _ _ _ _ _ _ _ _ _ _ _ _ _ _) | (with_reducible show SrcB _ _ _ _ _ _ _ _ _ _ _ _ _ _) | (with_reducible show SrcC _ _ _ _ _ _ _ _ _ _ _ _ _ _) | (with_reducible show wpAny _ _ (compareOp CmpOp.Eq (Value.ref _) (Value.ref _)) _ _ _)); first | (k_unfold; (try dsimp only)) | (k_end; kc_close) | walk1 | (dsimp only; walk1) | (leave1; walk_say "STEP leave1"; (try dsimp only)) | fail "no step"))
  rename IntsAre _ (tailsRead (fs.map fun f => 65 + f)) => hRA
  rename IntsAre _ (tailsRead (fs.map fun f => 80 - f)) => hRB
  have d1 := plain_tails (ws := fs.map fun f => 65 + f) (by intro x hx; obtain ⟨f, hf, rfl⟩ := List.mem_map.mp hx; have := hfg.bd f hf; omega)
  have d2 := plain_tails (ws := fs.map fun f => 80 - f) (by intro x hx; obtain ⟨f, hf, rfl⟩ := List.mem_map.mp hx; have := hfg.bd f hf; omega)
  rw [← d1] at hRC
  rw [← d2] at hRD
  rename News _ _ _ _ => N8
  refine m_eq2 N8 (News.isList (by k_asm) (by k_mem)) (News.isList (by k_asm) (by k_mem)) (by k_mem) (by k_mem) (by k_mem) (by k_mem) hRA hRB hRC hRD ?n1 ?n2 (by units_room) (by units_room) ?_
  case n1 => exact Off.mem offC (_, _) (by k_mem)
  case n2 => exact Off.mem offD (_, _) (by k_mem)
  w_strict (repeat' ((fail_if_success first | (with_reducible show wpAny _ _ (call (Value.builtin "next") _) _ _ _) | (with_reducible show wpAny _ _ (call (Value.builtin "iter") _) _ _ _) | (with_reducible show wpAny _ _ (pyIter _) _ _ _) | (with_reducible show wpAny _ _ (exec (Stmt.While _ _ _ _) _) _ _ _) | (with_reducible show wpAny _ _ (call (Value.ref 21) _) _ _ _) | (with_reducible show wpAny _ _ (call (Value.ref 35) _) _ _ _) | (with_reducible show wpAny _ _ (call (Value.ref 40) _) _ _ _) | (with_reducible show wpAny _ _ (call (Value.ref 45) _) _ _ _) | (with_reducible show wpAny _ _ (call (Value.ref 50) _) _ _ _) | (with_reducible show wpAny _ _ (call (Value.ref 57) _) _ _ _) | (with_reducible show wpAny _ _ (call (Value.ref 64) _) _ _ _) | (with_reducible show wpAny _ _ (call (Value.builtin "len") [Value.ref _]) _ _ _) | (with_reducible show wpAny _ _ (call (Value.builtin "sum") [Value.ref _]) _ _ _) | (with_reducible show wpAny _ _ (call (Value.builtin "max") _) _ _ _) | (with_reducible show wpAny _ _ (exec (Stmt.Assign _ (Expr.ListComp _ _ _ _) _) _) _ _ _) | (with_reducible show wpAny _ _ (eval (Expr.ListComp _ _ _ _) _) _ _ _) | (with_reducible show wpAny _ _ (call (Value.builtin "str.join") _) _ _ _) | (with_reducible show LCg.CompSrc _ _ _ _ _ _ _ _ _ _ _ _ _ _) | (with_reducible show SrcB _ _ _ _ _ _ _ _ _ _ _ _ _ _) | (with_reducible show SrcC _ _ _ _ _ _ _ _ _ _ _ _ _ _) | (with_reducible show wpAny _ _ (compareOp CmpOp.Eq (Value.ref _) (Value.ref _)) _ _ _)); first | (k_unfold; (try dsimp only)) | (k_end; kc_close) | walk1 | (dsimp only; walk1) | (leave1; walk_say "STEP leave1"; (try dsimp only)) | fail "no step"))
end
theorem lawHolds : PySem.Challenge.rw_ty0005_01.Holds := stLw.2 ⟨stLwB.2 ⟨stLwC.2 ⟨stLwD.2 ⟨stLwE.2 ⟨stLwF.2 ⟨stLwG.2 ⟨stLwH.2 ⟨stLwI.2 ⟨stLwJ.2 ⟨stLwK⟩⟩⟩⟩⟩⟩⟩⟩⟩⟩
end Mine
theorem PySem.Challenge.cw_ty0005_01_holds : PySem.Challenge.rw_ty0005_01.Holds := by
  exact Mine.lawHolds

