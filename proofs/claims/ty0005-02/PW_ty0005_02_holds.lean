import PyProof.Rows.All
import Wide.All
import OpenK.AllK
import Wide.FinOn
import Lean
import PySem.Challenge.RW_ty0005_02
open PySem PySem.W PyProof.Rows
set_option Elab.async false
set_option maxRecDepth 100000
set_option maxHeartbeats 8000000
namespace Mine
open_top hd for PySem.Challenge.rw_ty0005_02
section
section lib
/-- names with values up to their tokens -/
def tokd (tk : Nat → Tok) : Nat → List (Str × (Tok → Value)) → List (Str × Value)
  | _, [] => []
  | i, p :: r => (p.1, p.2 (tk i)) :: tokd tk (i + 1) r
def Held (m : Str → Option Value) : List (Str × (Tok → Value)) → Prop
  | [] => True
  | p :: r => (∃ t, m p.1 = some (p.2 t)) ∧ Held m r
theorem tokd_congr {tk tk' : Nat → Tok} : ∀ (ps : List (Str × (Tok → Value))) (i : Nat), (∀ j, i ≤ j → tk j = tk' j) → tokd tk i ps = tokd tk' i ps
  | [], _, _ => rfl
  | p :: r, i, h => by
    show (p.1, p.2 (tk i)) :: tokd tk (i + 1) r = (p.1, p.2 (tk' i)) :: tokd tk' (i + 1) r
    rw [h i (Nat.le_refl _), tokd_congr r (i + 1) fun j hj => h j (by omega)]
theorem held_tokd {m : Str → Option Value} : ∀ {ps : List (Str × (Tok → Value))} (i : Nat), Held m ps → ∃ tk, ∀ q ∈ tokd tk i ps, m q.1 = some q.2
  | [], _, _ => ⟨fun _ => 0, fun _ hq => nomatch hq⟩
  | p :: r, i, h => by
    obtain ⟨⟨t, ht⟩, hr⟩ := h
    obtain ⟨tk, hk⟩ := held_tokd (ps := r) (i + 1) hr
    refine ⟨fun j => if j = i then t else tk j, fun q hq => ?_⟩
    have e : tokd (fun j => if j = i then t else tk j) (i + 1) r = tokd tk (i + 1) r := tokd_congr r (i + 1) fun j hj => by
      show (if j = i then t else tk j) = tk j
      rw [if_neg (by omega)]
    change q ∈ (p.1, p.2 (if i = i then t else tk i)) :: tokd (fun j => if j = i then t else tk j) (i + 1) r at hq
    rw [e, if_pos rfl] at hq
    rcases List.mem_cons.mp hq with rfl | hq
    · exact ht
    · exact hk q hq
theorem tokd_names (tk : Nat → Tok) {z : Str} : ∀ (ps : List (Str × (Tok → Value))) (i : Nat), (∀ q ∈ tokd tk i ps, z ≠ q.1) → ∀ p ∈ ps, z ≠ p.1
  | [], _, _, _, hp => nomatch hp
  | p :: r, i, h, q, hq => by
    rcases List.mem_cons.mp hq with rfl | hq
    · exact h (q.1, q.2 (tk i)) (.head _)
    · exact tokd_names tk r (i + 1) (fun q' hq' => h q' (.tail _ hq')) q hq
/-- what a name not stored holds still -/
def Rest (ps : List (Str × (Tok → Value))) (stored : List Str) (m₀ m : Str → Option Value) : Prop :=
  ∀ z, (∀ p ∈ ps, z ≠ p.1) → stored.contains z = false → m z = m₀ z
def env9 (ps : List (Str × (Tok → Value))) (stored : List Str) (m₀ u : Str → Option Value) (tk : Nat → Tok) : Str → Option Value :=
  kstB (fun z => if stored.contains z then u z else m₀ z) (tokd tk 0 ps)
theorem env9_eq {ps : List (Str × (Tok → Value))} {stored : List Str} {m₀ m : Str → Option Value} (h : Held m ps) (hr : Rest ps stored m₀ m) : ∃ tk, env9 ps stored m₀ m tk = m := by
  obtain ⟨tk, hk⟩ := held_tokd 0 h
  refine ⟨tk, funext fun y => ?_⟩
  refine kstB_eq hk fun hn => ?_
  show (if stored.contains y = true then m y else m₀ y) = m y
  cases h3 : stored.contains y with
  | true => simp
  | false => simp only [Bool.false_eq_true, if_false]; exact (hr y (tokd_names tk ps 0 hn) h3).symm
section
variable {prog : Program} {w : World} {A : Around} {E : Value → Shared → Prop} {Q : Flow → Shared → Prop} {s : Shared} {env : Env} {h₀ : Heap} {L : Addr}
def WEnd {σ : Type} (h₀ : Heap) (L : Addr) (s : Shared) (Led : σ → List (Addr × Obj)) (ps : σ → List (Str × (Tok → Value))) (stored : List Str) (m₀ : Str → Option Value) (P : σ → Prop) (μ : σ → Nat) (c : σ) (s₂ : Shared) : Prop :=
  ∃ (c' : σ) (h' : Heap) (tk : Nat) (m' : Str → Option Value) (news' : List (Addr × Obj)), s₂ = { s with heap := h', toks := tk } ∧ Fr h₀ L h' m' ∧ News h₀ L h' news' ∧ (∀ p ∈ Led c', p ∈ news') ∧ Held m' (ps c') ∧ Rest (ps c') stored m₀ m' ∧ P c' ∧ μ c' < μ c
def WPost {σ : Type} (h₀ : Heap) (L : Addr) (s : Shared) (Led : σ → List (Addr × Obj)) (ps : σ → List (Str × (Tok → Value))) (stored : List Str) (m₀ : Str → Option Value) (P : σ → Prop) (μ : σ → Nat) (Q : Flow → Shared → Prop) (c : σ) (f : Flow) (s₂ : Shared) : Prop :=
  match f with
  | .ret v => Q (.ret v) s₂
  | .brk => Q .next s₂
  | _ => WEnd h₀ L s Led ps stored m₀ P μ c s₂
theorem WEnd.intro {σ : Type} {s : Shared} {Led : σ → List (Addr × Obj)} {ps : σ → List (Str × (Tok → Value))} {stored : List Str} {m₀ m' : Str → Option Value} {P : σ → Prop} {μ : σ → Nat} {c : σ} {h' : Heap} {tk : Nat} {news' : List (Addr × Obj)} (c' : σ)
    (F : Fr h₀ L h' m') (N : News h₀ L h' news') (hn : ∀ p ∈ Led c', p ∈ news') (hk : Held m' (ps c')) (hr : Rest (ps c') stored m₀ m') (hp : P c') (hm : μ c' < μ c) :
    WEnd h₀ L s Led ps stored m₀ P μ c { s with heap := h', toks := tk } := ⟨c', h', tk, m', news', rfl, F, N, hn, hk, hr, hp, hm⟩
/-- a while by a state of one's own -/
theorem m_while {σ : Type} {test : Expr} {body : List Stmt} {pos : Pos} {m₀ : Str → Option Value} (Led : σ → List (Addr × Obj)) (ps : σ → List (Str × (Tok → Value))) (stored : List Str) (P : σ → Prop) (μ : σ → Nat) (c₀ : σ)
    (F : Fr h₀ L s.heap m₀) (N : News h₀ L s.heap (Led c₀)) (hk : Held m₀ (ps c₀)) (hp : P c₀)
    (turn : ∀ (c : σ) (u : Str → Option Value) tkf h tk, P c → Fr h₀ L h (env9 (ps c) stored m₀ u tkf) → News h₀ L h (Led c) →
      wpAny (model prog w) A (isTrue test env (eval test env)) (fun b s₂ =>
        if b = true then wpAny (model prog w) A (execs body env) (WPost h₀ L s Led ps stored m₀ P μ Q c) E s₂ else Q .next s₂) E { s with heap := h, toks := tk })
    (hE : PassesOwn (model prog w) A env E := by passes_own) :
    wpAny (model prog w) A (exec (.While test body [] pos) env) Q E s := by
  refine While_inv2 (fun n m nx => ∃ c : σ, nx = Led c ∧ μ c = n ∧ Held m (ps c) ∧ Rest (ps c) stored m₀ m ∧ P c) F N ⟨c₀, rfl, rfl, hk, fun _ _ _ => rfl, hp⟩ ?_ hE
  rintro n m₁ nx h tk F₁ N₁ ⟨c, rfl, rfl, h1, h2, hp'⟩
  obtain ⟨tkf, he⟩ := env9_eq h1 h2
  refine wpAny_mono (turn c m₁ tkf h tk hp' (he.symm ▸ F₁) N₁) (fun b s₂ p => ?_) fun _ _ x => x
  cases b with
  | false => simpa using p
  | true =>
    simp only [if_true] at p ⊢
    refine wpAny_mono p (fun f s₃ q => ?_) fun _ _ x => x
    cases f with
    | ret v => exact q
    | brk => exact q
    | next =>
      obtain ⟨c', h', tk', m', news', rfl, F', N', hn, hk9, hr9, hp9, hm9⟩ := q
      exact ⟨h', tk', m', Led c', μ c', rfl, F', fun p hp => N' p (hn p hp), hm9, c', rfl, rfl, hk9, hr9, hp9⟩
    | cont =>
      obtain ⟨c', h', tk', m', news', rfl, F', N', hn, hk9, hr9, hp9, hm9⟩ := q
      exact ⟨h', tk', m', Led c', μ c', rfl, F', fun p hp => N' p (hn p hp), hm9, c', rfl, rfl, hk9, hr9, hp9⟩
/-- a ledger off an address -/
abbrev Off (I : Addr) (l : List (Addr × Obj)) : Prop := LCg.Off1 I l
theorem off_of {I : Addr} : ∀ {l : List (Addr × Obj)}, (∀ q ∈ l, q.1 ≠ I) → Off I l
  | [], _ => trivial
  | _ :: _, h => ⟨h _ (.head _), off_of fun q hq => h q (.tail _ hq)⟩
theorem Off.mem {I : Addr} : ∀ {l : List (Addr × Obj)}, Off I l → ∀ q ∈ l, q.1 ≠ I
  | [], _, _, h => nomatch h
  | _ :: _, x, q, h => by
    rcases List.mem_cons.mp h with rfl | h
    · exact x.1
    · exact Off.mem x.2 q h
theorem Off.app {I : Addr} {l r : List (Addr × Obj)} (h1 : Off I l) (h2 : Off I r) : Off I (l ++ r) :=
  off_of fun q hq => (List.mem_append.mp hq).elim (Off.mem h1 q) (Off.mem h2 q)
theorem Off.right {I : Addr} {l r : List (Addr × Obj)} (h : Off I (l ++ r)) : Off I r := off_of fun q hq => Off.mem h q (List.mem_append.mpr (.inr hq))
def FEnd {σ : Type} (h₀ : Heap) (L : Addr) (x : Str) (s : Shared) (Led : σ → List (Addr × Obj)) (ps : σ → List (Str × (Tok → Value))) (stored : List Str) (m₀ : Str → Option Value) (P : Nat → σ → Prop) (i : Nat) (I : Addr) (oI : Obj) (s₂ : Shared) : Prop :=
  ∃ (c' : σ) (h' : Heap) (tk : Nat) (m' : Str → Option Value) (news' : List (Addr × Obj)), s₂ = { s with heap := h', toks := tk } ∧ Fr h₀ L h' m' ∧ News h₀ L h' news' ∧ (∀ p ∈ (I, oI) :: Led c', p ∈ news') ∧ Off I (Led c') ∧ Held m' (ps c') ∧ Rest (ps c') (x :: stored) m₀ m' ∧ P (i + 1) c'
def FPost {σ : Type} (h₀ : Heap) (L : Addr) (x : Str) (s : Shared) (Led : σ → List (Addr × Obj)) (ps : σ → List (Str × (Tok → Value))) (stored : List Str) (m₀ : Str → Option Value) (P : Nat → σ → Prop) (i : Nat) (I : Addr) (oI : Obj) (Q : Flow → Shared → Prop) (f : Flow) (s₂ : Shared) : Prop :=
  match f with
  | .ret v => Q (.ret v) s₂
  | .brk => Q .next s₂
  | _ => FEnd h₀ L x s Led ps stored m₀ P i I oI s₂
theorem FEnd.intro {σ : Type} {x : Str} {s : Shared} {Led : σ → List (Addr × Obj)} {ps : σ → List (Str × (Tok → Value))} {stored : List Str} {m₀ m' : Str → Option Value} {P : Nat → σ → Prop} {i : Nat} {I : Addr} {oI : Obj} {h' : Heap} {tk : Nat} {news' : List (Addr × Obj)} (c' : σ)
    (F : Fr h₀ L h' m') (N : News h₀ L h' news') (hn : ∀ p ∈ (I, oI) :: Led c', p ∈ news') (off : Off I (Led c')) (hk : Held m' (ps c')) (hr : Rest (ps c') (x :: stored) m₀ m') (hp : P (i + 1) c') :
    FEnd h₀ L x s Led ps stored m₀ P i I oI { s with heap := h', toks := tk } := ⟨c', h', tk, m', news', rfl, F, N, hn, off, hk, hr, hp⟩
theorem fr_x {x : Str} {v : Value} {ps : List (Str × (Tok → Value))} {stored : List Str} {m₀ m : Str → Option Value} {h : Heap} (h1 : Held m ps) (h2 : Rest ps (x :: stored) m₀ m) (F : Fr h₀ L h (fun y => if y = x then some v else m y)) :
    ∃ tk, Fr h₀ L h (fun y => if y = x then some v else env9 ps stored m₀ m tk y) := by
  obtain ⟨tk, hk⟩ := held_tokd 0 h1
  refine ⟨tk, ?_⟩
  have e : (fun y => if y = x then some v else env9 ps stored m₀ m tk y) = fun y => if y = x then some v else m y := by
    funext y
    by_cases hy : y = x
    · rw [if_pos hy, if_pos hy]
    · rw [if_neg hy, if_neg hy]
      refine kstB_eq hk fun hn => ?_
      show (if stored.contains y = true then m y else m₀ y) = m y
      cases h3 : stored.contains y with
      | true => simp
      | false =>
        simp only [Bool.false_eq_true, if_false]
        exact (h2 y (tokd_names tk ps 0 hn) (by rw [List.contains_cons, h3, Bool.or_false, beq_eq_false_iff_ne]; exact hy)).symm
  rw [e]; exact F
theorem fr_out {x : Str} {ps : List (Str × (Tok → Value))} {stored : List Str} {m₀ m : Str → Option Value} {h : Heap} (h1 : Held m ps) (h2 : Rest ps (x :: stored) m₀ m) (F : Fr h₀ L h m) :
    ∃ tk, Fr h₀ L h (env9 ps (x :: stored) m₀ m tk) := by
  obtain ⟨tk, e⟩ := env9_eq h1 h2
  exact ⟨tk, e.symm ▸ F⟩
/-- a for by a state of one's own, over anything that walks; the ledger may grow -/
theorem m_loop {σ : Type} {x : Str} {body : List Stmt} {I : Addr} {fp : List Addr} {n : Nat} {V : Nat → Value → Prop} {St : Nat → Heap → Prop} {m₀ : Str → Option Value}
    (Led : σ → List (Addr × Obj)) (ps : σ → List (Str × (Tok → Value))) (stored : List Str) (P : Nat → σ → Prop) (c₀ : σ)
    (W : Walks prog w A I fp [I] n V St) (hLf : env.locals ∉ fp) (hI₀ : h₀.get? I = none) (hnw : Off I (Led c₀)) (hst : St 0 s.heap) (hlive : ∀ i h, St i h → ∃ o, h.get? I = some o)
    (hfp : ∀ b ∈ fp, b = I ∨ (∃ o, h₀.get? b = some o) ∨ (∃ o, ∀ c, (b, o) ∈ Led c))
    (F : Fr h₀ env.locals s.heap m₀) (N : News h₀ env.locals s.heap (Led c₀)) (hk : Held m₀ (ps c₀)) (hp : P 0 c₀)
    (turn : ∀ (c : σ) i v u tkf h tk oI, i < n → V i v → Off I (Led c) → P i c → Fr h₀ env.locals h (fun y => if y = x then some v else env9 (ps c) stored m₀ u tkf y) → News h₀ env.locals h ((I, oI) :: Led c) →
      wpAny (model prog w) A (execs body env) (FPost h₀ env.locals x { s with heap := h, toks := tk } Led ps stored m₀ P i I oI Q) E { s with heap := h, toks := tk })
    (done : ∀ (c : σ) u tkf h tk, P n c → Fr h₀ env.locals h (env9 (ps c) (x :: stored) m₀ u tkf) → News h₀ env.locals h (Led c) → Q .next { s with heap := h, toks := tk }) :
    LoopAtV prog w A h₀ env x body Q E (.ref I) s := by
  have hL : env.locals ≠ I := fun e => hLf (W.sub _ (e ▸ List.mem_singleton.mpr rfl))
  refine ⟨I, fp, [I], n, V, St, m₀, Led c₀, (fun i m nx => ∃ c : σ, nx = Led c ∧ Held m (ps c) ∧ Rest (ps c) (x :: stored) m₀ m ∧ P i c), rfl, W, hLf, (fun b hb => by rw [List.mem_singleton.mp hb]; exact hI₀), (fun p hp hb => Off.mem hnw p hp (List.mem_singleton.mp hb)), hst, F, N, ⟨c₀, rfl, hk, fun _ _ _ => rfl, hp⟩, ?_, ?_⟩
  · rintro i v m₁ nx s₁ own ⟨hh, tk, rfl⟩ hin hV ⟨c, rfl, h1, h2, hp'⟩ hoff hsub hget hall hst₁ F₁ N₁
    obtain ⟨tkf, F₂⟩ := fr_x h1 h2 F₁
    obtain ⟨oI, ho⟩ := hlive _ _ hst₁
    have offI : Off I (Led c) := off_of fun q hq e => hoff q hq (by rw [e]; exact List.mem_singleton.mpr rfl)
    have N₂ : News h₀ env.locals hh ((I, oI) :: Led c) := fun p hp => by
      rcases List.mem_cons.mp hp with rfl | hp
      · exact ⟨ho, Ne.symm hL, hI₀⟩
      · exact N₁ p (List.mem_append.mpr (.inr hp))
    have fin : ∀ s₂, FEnd h₀ env.locals x { s with heap := hh, toks := tk } Led ps stored m₀ P i I oI s₂ → LoopStepU h₀ env.locals [I] own (fun m nx => ∃ c : σ, nx = Led c ∧ Held m (ps c) ∧ Rest (ps c) (x :: stored) m₀ m ∧ P (i + 1) c) { s with heap := hh, toks := tk } .next s₂ := by
      rintro s₂ ⟨c', h', tk', m', news', e, F', N', hn, off, hk', hr', hp''⟩
      refine ⟨rfl, h', tk', m', Led c', e, F', fun p hp => ?_, fun p hp hq => Off.mem off p hp (List.mem_singleton.mp hq), c', rfl, hk', hr', hp''⟩
      rcases List.mem_append.mp hp with hp | hp
      · rcases hfp _ (hsub p hp) with e1 | ⟨o, e1⟩ | ⟨o, e1⟩
        · have e2 := hget p hp
          rw [show ({ s with heap := hh, toks := tk } : Shared).heap = hh from rfl, e1, ho] at e2
          obtain ⟨p1, p2⟩ := p
          cases e1
          cases e2
          exact N' _ (hn _ (.head _))
        · have := (N₁ p (List.mem_append.mpr (.inl hp))).2.2
          rw [e1] at this; cases this
        · have e2 := hget p hp
          have e3 : hh.get? p.1 = some o := (N₁ _ (List.mem_append.mpr (.inr (e1 c)))).1
          rw [show ({ s with heap := hh, toks := tk } : Shared).heap = hh from rfl, e3] at e2
          obtain ⟨p1, p2⟩ := p
          cases e2
          exact N' _ (hn _ (.tail _ (e1 c')))
      · exact N' p (hn p (.tail _ hp))
    refine wpAny_mono (turn c i v m₁ tkf hh tk oI hin hV offI hp' F₂ N₂) (fun f s₂ p => ?_) fun _ _ e => e
    cases f with
    | ret v => exact .ret p
    | brk => exact .brk p
    | next => exact .next (fin _ p)
    | cont => exact .cont (fin _ p)
  · rintro h' tk m' nx F' N' hoff ⟨c, rfl, h1, h2, hp'⟩
    obtain ⟨tkf, F₂⟩ := fr_out h1 h2 F'
    exact done c m' tkf h' tk hp' F₂ N'
/-- .. over a range by ones -/
theorem m_range {σ : Type} {x : Str} {body : List Stmt} {r : Addr} {a₀ b₀ : Int} {t₀ u₀ v₀ : Tok} {n : Nat} {m₀ : Str → Option Value} (Led : σ → List (Addr × Obj)) (ps : σ → List (Str × (Tok → Value))) (stored : List Str) (P : Nat → σ → Prop) (c₀ : σ)
    (hh : A.handled = none) (hr : IsRange s.heap r a₀ b₀ 1 t₀ u₀ v₀) (hsmall : Builtin.Range.small a₀ b₀ 1 = true) (hn : Builtin.Range.rangeSize a₀ b₀ 1 = (n : Int)) (F : Fr h₀ env.locals s.heap m₀) (N : News h₀ env.locals s.heap (Led c₀)) (hk : Held m₀ (ps c₀)) (hp : P 0 c₀)
    (turn : ∀ (c : σ) i t u tkf h tk I oI, i < n → Off I (Led c) → P i c → Fr h₀ env.locals h (fun y => if y = x then some (.int (a₀ + (i : Int)) t) else env9 (ps c) stored m₀ u tkf y) → News h₀ env.locals h ((I, oI) :: Led c) →
      wpAny (model prog w) A (execs body env) (FPost h₀ env.locals x { s with heap := h, toks := tk } Led ps stored m₀ P i I oI Q) E { s with heap := h, toks := tk })
    (done : ∀ (c : σ) u tkf h tk, P n c → Fr h₀ env.locals h (env9 (ps c) (x :: stored) m₀ u tkf) → News h₀ env.locals h (Led c) → Q .next { s with heap := h, toks := tk }) :
    wpAny (model prog w) A (pyIter (.ref r)) (fun it s₂ => LoopAtV prog w A h₀ env x body Q E it s₂) E s := by
  refine wpAny_pyIter_range hr hsmall ?_
  refine m_loop Led ps stored P c₀ (LCg.range_walks hh a₀ n) ?_ (next_is_new F) ?_ (by show IsRangeIter _ _ _ _ _; rw [hn]; simpa using Heap.get?_push_size _ rfl) (fun i h st => ⟨_, st⟩) (fun b hb => .inl (List.mem_singleton.mp hb)) (F.push _) (fun p hp => ⟨Heap.get?_push_of_some _ (N p hp).1, (N p hp).2⟩) hk hp ?_ done
  · intro hm
    exact absurd F.ns.lt ((List.mem_singleton.mp hm) ▸ Nat.lt_irrefl _)
  · exact off_of fun p hp e => absurd (Heap.lt_size (N p hp).1) (e ▸ Nat.lt_irrefl _)
  · rintro c i v u tkf h tk oI hi ⟨t, rfl⟩ off hp' F₁ N₁
    exact turn c i t u tkf h tk _ oI hi off hp' F₁ N₁
/-- .. over a range by ones, one list of the ledger grown -/
theorem m_rangeL {x : Str} {body : List Stmt} {r : Addr} {a₀ b₀ : Int} {t₀ u₀ v₀ : Tok} {n : Nat} {m₀ : Str → Option Value} {D : Addr} {us₀ : List Value} {k₀ : Nat} {rest : List (Addr × Obj)} (ps : List Value → List (Str × (Tok → Value))) (stored : List Str) (P : Nat → List Value → Prop)
    (hh : A.handled = none) (hr : IsRange s.heap r a₀ b₀ 1 t₀ u₀ v₀) (hsmall : Builtin.Range.small a₀ b₀ 1 = true) (hn : Builtin.Range.rangeSize a₀ b₀ 1 = (n : Int)) (F : Fr h₀ env.locals s.heap m₀) (N : News h₀ env.locals s.heap ((D, listOf us₀.toArray k₀) :: rest)) (hk : Held m₀ (ps us₀)) (hp : P 0 us₀)
    (turn : ∀ (us : List Value) (kk : Nat) i t u tkf h tk I oI, i < n → (@Ne Nat D I) → Off I rest → P i us → Fr h₀ env.locals h (fun y => if y = x then some (.int (a₀ + (i : Int)) t) else env9 (ps us) stored m₀ u tkf y) → News h₀ env.locals h ((I, oI) :: (D, listOf us.toArray kk) :: rest) →
      wpAny (model prog w) A (execs body env) (FPost h₀ env.locals x { s with heap := h, toks := tk } (fun c : List Value × Nat => (D, listOf c.1.toArray c.2) :: rest) (fun c => ps c.1) stored m₀ (fun i c => P i c.1) i I oI Q) E { s with heap := h, toks := tk })
    (done : ∀ (us : List Value) (kk : Nat) u tkf h tk, P n us → Fr h₀ env.locals h (env9 (ps us) (x :: stored) m₀ u tkf) → News h₀ env.locals h ((D, listOf us.toArray kk) :: rest) → Q .next { s with heap := h, toks := tk }) :
    wpAny (model prog w) A (pyIter (.ref r)) (fun it s₂ => LoopAtV prog w A h₀ env x body Q E it s₂) E s :=
  m_range (σ := List Value × Nat) (fun c => (D, listOf c.1.toArray c.2) :: rest) (fun c => ps c.1) stored (fun i c => P i c.1) (us₀, k₀) hh hr hsmall hn F N hk hp
    (fun c i t u tkf h tk I oI hi off hp' F' N' => turn c.1 c.2 i t u tkf h tk I oI hi off.1 off.2 hp' F' N')
    (fun c u tkf h tk hp' F' N' => done c.1 c.2 u tkf h tk hp' F' N')
/-- .. over a made list of the ledger -/
theorem m_list {σ : Type} {x : Str} {body : List Stmt} {l : Addr} {vs : List Value} {k : Nat} {m₀ : Str → Option Value} (Led : σ → List (Addr × Obj)) (ps : σ → List (Str × (Tok → Value))) (stored : List Str) (P : Nat → σ → Prop) (c₀ : σ)
    (hh : A.handled = none) (hl : ∀ c, (l, listOf vs.toArray k) ∈ Led c) (F : Fr h₀ env.locals s.heap m₀) (N : News h₀ env.locals s.heap (Led c₀)) (hk : Held m₀ (ps c₀)) (hp : P 0 c₀)
    (turn : ∀ (c : σ) i v u tkf h tk I oI, i < vs.length → vs[i]? = some v → Off I (Led c) → P i c → Fr h₀ env.locals h (fun y => if y = x then some v else env9 (ps c) stored m₀ u tkf y) → News h₀ env.locals h ((I, oI) :: Led c) →
      wpAny (model prog w) A (execs body env) (FPost h₀ env.locals x { s with heap := h, toks := tk } Led ps stored m₀ P i I oI Q) E { s with heap := h, toks := tk })
    (done : ∀ (c : σ) u tkf h tk, P vs.length c → Fr h₀ env.locals h (env9 (ps c) (x :: stored) m₀ u tkf) → News h₀ env.locals h (Led c) → Q .next { s with heap := h, toks := tk }) :
    wpAny (model prog w) A (pyIter (.ref l)) (fun it s₂ => LoopAtV prog w A h₀ env x body Q E it s₂) E s := by
  have hls : s.heap.IsList l vs.toArray := ⟨_, (N _ (hl c₀)).1, rfl, k, rfl⟩
  have hlt : l < s.heap.objs.size := Heap.lt_size (N _ (hl c₀)).1
  have hne : l ≠ s.heap.objs.size := Nat.ne_of_lt hlt
  refine wpAny_pyIter_list hls ?_
  have W := Walks.list (prog := prog) (w := w) hh s.heap.objs.size l hne vs.toArray
  rw [show vs.toArray.size = vs.length from by simp] at W
  refine m_loop Led ps stored P c₀ W ?_ (next_is_new F) ?_ ⟨⟨_, Heap.get?_push_size _ rfl, rfl, rfl⟩, hls.at fun o e => Heap.get?_push_of_some _ e⟩ (fun i h st => by obtain ⟨o, e, _⟩ := st.1; exact ⟨o, e⟩) ?_ (F.push _) (fun p hp => ⟨Heap.get?_push_of_some _ (N p hp).1, (N p hp).2⟩) hk hp ?_ done
  · intro hm
    rcases List.mem_cons.mp hm with e | hm
    · exact absurd F.ns.lt (e ▸ Nat.lt_irrefl _)
    · have e := List.mem_singleton.mp hm
      exact (N _ (hl c₀)).2.1 e.symm
  · exact off_of fun p hp e => absurd (Heap.lt_size (N p hp).1) (e ▸ Nat.lt_irrefl _)
  · intro b hb
    rcases List.mem_cons.mp hb with e | hb
    · exact .inl e
    · rw [List.mem_singleton.mp hb]
      exact .inr (.inr ⟨_, hl⟩)
  · rintro c i v u tkf h tk oI hi hv off hp' F₁ N₁
    exact turn c i v u tkf h tk _ oI hi (by simpa using hv) off hp' F₁ N₁
end
theorem held_int {m : Str → Option Value} {x : Str} {n n' : Int} {t : Tok} (h : m x = some (.int n' t)) (e : n' = n) : ∃ t, m x = some (.int n t) := ⟨t, e ▸ h⟩
end lib
end
section
section tx
open PySem.Builtin PySem.Builtin.Str PySem.StrLaws
def find4 (x y : PySem.Str) (i j : Int) : Int := match occurrences x y (fromIndex x.length i) (min (fromIndex x.length j) x.length) 1 with | k :: _ => (k : Int) | [] => -1
theorem gives_find4 (x y : PySem.Str) (i j : Int) (t u v v' : Tok) : Gives («str.find» ⟨[.str x t, .str y u, .int i v, .int j v'], []⟩) (.int (find4 x y i j)) := by
  show Gives (match occurrences x y (fromIndex x.length i) (min (fromIndex x.length j) x.length) 1 with | k :: _ => retInt k | [] => (do rule "str.find.not-found"; retInt (-1))) _
  unfold find4
  cases occurrences x y (fromIndex x.length i) (min (fromIndex x.length j) x.length) 1 with
  | nil => exact .rule (.of_eq rfl)
  | cons k _ => exact .of_eq rfl
theorem call_find4 {prog : Program} {w : World} {A : Around} {E : Value → Shared → Prop} {s : Shared} {x y : PySem.Str} {t u v v' : Tok} {i j : Int} {Q : Value → Shared → Prop}
    (hq : Q (.int (find4 x y i j) s.toks) { s with toks := s.toks + 1 }) : wpAny (model prog w) A (call (.builtin "str.find") [.str x t, .str y u, .int i v, .int j v']) Q E s :=
  call_gives F.slot_str_find (typeIs_str _ _ _) F.entry_str_find (F.args_str_find_4 _ _ _ _) (gives_find4 x y i j t u v v') hq
theorem subAt_empty {x y : PySem.Str} (h : y.length = 0) (i : Nat) : subAt x y i = true := by
  rw [subAt_eq, h]
  have : y.cps.toList = [] := by
    have h' : y.cps.size = 0 := h
    simpa using h'
  rw [this]; simp
theorem find4_empty {x y : PySem.Str} {i j : Nat} (h : y.length = 0) (h1 : i ≤ j) (h2 : j ≤ x.length) : find4 x y (i : Int) (j : Int) = (i : Int) := by
  have e1 : fromIndex x.length (i : Int) = i := by unfold fromIndex; rw [if_neg (by omega)]; omega
  have e2 : fromIndex x.length (j : Int) = j := by unfold fromIndex; rw [if_neg (by omega)]; omega
  unfold find4
  rw [e1, e2, Nat.min_eq_left h2]
  have key : occurrences x y i j 1 = [i] ∨ ∃ r, occurrences x y i j 1 = i :: r := by
    rw [occ_eq]
    rcases occ_first x y j 1 (by decide) (List.range' i (j + 1 - i)) i (fun k hk => by have := List.mem_range'_1.mp hk; omega) with ⟨_, hn⟩ | ⟨pre, a, post, e, h0, ha, hn⟩
    · exact absurd ⟨by omega, subAt_empty h i⟩ (hn i (by rw [List.mem_range'_1]; omega))
    · have hs := range'_split_from e
      have : a = i := by
        rcases Nat.lt_or_ge i a with hlt | hge
        · exact absurd ⟨by omega, subAt_empty h i⟩ (hn i (hs.2 i (Nat.le_refl _) hlt))
        · omega
      subst this
      right
      refine ⟨((forIn (List.range' a (j + 1 - a)) ((#[] : Array Nat), a) (occBody x y j 1)).run.fst.toList).tail, ?_⟩
      generalize (forIn (List.range' a (j + 1 - a)) ((#[] : Array Nat), a) (occBody x y j 1)).run.fst = arr at h0
      have h1 : arr.toList[0]? = some a := by simpa using h0
      cases hL : arr.toList with
      | nil => rw [hL] at h1; cases h1
      | cons b t => rw [hL] at h1; simp at h1; rw [h1]; rfl
  rcases key with e | ⟨r, e⟩ <;> rw [e]
theorem find4_emptyI {x y : PySem.Str} {i j : Int} (h : y.length = 0) (h0 : 0 ≤ i) (h1 : i ≤ j) (h2 : j ≤ (x.length : Int)) : find4 x y i j = i := by
  have := find4_empty (x := x) (y := y) (i := i.toNat) (j := j.toNat) h (by omega) (by omega)
  rwa [show ((i.toNat : Nat) : Int) = i from by omega, show ((j.toNat : Nat) : Int) = j from by omega] at this
def lowAt (n : Nat) (lo : Option Int) : Nat := lo.elim 0 (clipAt n)
def highAt (n : Nat) (hi : Option Int) : Nat := hi.elim n (clipAt n)
theorem clip_le (n : Nat) (i : Int) : clipAt n i ≤ n := by
  have := clipAt_cast n i
  omega
theorem high_le (n : Nat) (hi : Option Int) : highAt n hi ≤ n := by
  cases hi with
  | none => exact Nat.le_refl _
  | some i => exact clip_le n i
theorem indices_eq (lo hi : Option Int) (n : Nat) : strSliceIndices lo hi 1 n = (List.range (highAt n hi - lowAt n lo)).map (lowAt n lo + ·) := by
  rw [← sliceRange_one]
  unfold strSliceIndices lowAt highAt
  cases lo <;> cases hi <;> simp only [Option.elim, clipAt_cast, show (1 : Int) > 0 from by decide, if_true] <;> rfl
theorem slice_list (x : PySem.Str) (lo hi : Option Int) : (Txt.slice x lo hi).cps.toList = (x.cps.toList.drop (lowAt x.length lo)).take (highAt x.length hi - lowAt x.length lo) := by
  have hh := high_le x.length hi
  have hx : x.cps.toList.length = x.length := by simp [PySem.Str.length]
  unfold Txt.slice
  rw [indices_eq]
  split
  · rename_i h
    simp only [List.length_map, List.length_range, beq_self_eq_true, Bool.true_and, beq_iff_eq] at h
    by_cases h0 : x.length = 0
    · have : x.cps.toList = [] := List.eq_nil_of_length_eq_zero (by omega)
      rw [this]; simp
    · have e : lowAt x.length lo = 0 := by omega
      rw [e, List.drop_zero, List.take_of_length_le (by omega)]
  · rw [pick_run]
def dots : PySem.Str := PySem.Str.ofString "..."
theorem dots_list : dots.cps.toList = [46, 46, 46] := by decide +kernel
theorem dots_len : dots.length = 3 := by decide +kernel
/-- no dot in it -/
def DF (x : PySem.Str) : Prop := ∀ c ∈ x.cps.toList, c ≠ 46
theorem DF.slice {x : PySem.Str} (h : DF x) (lo hi : Option Int) : DF (Txt.slice x lo hi) := fun c hc => by
  rw [slice_list] at hc
  exact h c (List.mem_of_mem_drop (List.mem_of_mem_take hc))
theorem DF.empty : DF PySem.Str.empty := fun c hc => by
  have : PySem.Str.empty.cps.toList = [] := rfl
  rw [this] at hc; cases hc
theorem occ_skip (s sub : PySem.Str) (hi limit : Nat) : ∀ (l : List Nat) (st : Array Nat × Nat), (∀ i ∈ l, st.2 ≤ i → ¬ At s sub hi i) → (forIn l st (occBody s sub hi limit)).run = st
  | [], st, _ => rfl
  | a :: l, st, h => by
    rw [List.forIn_cons]
    unfold occBody
    have c2 : ¬ (((st.fst.size < limit ∧ st.snd ≤ a) ∧ a + sub.length ≤ hi) ∧ subAt s sub a = true) := fun hc => h a (.head _) hc.1.1.2 ⟨hc.1.2, hc.2⟩
    rw [if_neg c2]
    exact occ_skip s sub hi limit l st fun i hi' => h i (.tail _ hi')
theorem occ_hit (s sub : PySem.Str) (hi limit : Nat) (a : Nat) (l : List Nat) (st : Array Nat × Nat) (h1 : st.1.size < limit) (h2 : st.2 ≤ a) (h3 : At s sub hi a) :
    forIn (a :: l) st (occBody s sub hi limit) = forIn l (st.1.push a, a + sub.length) (occBody s sub hi limit) := by
  rw [List.forIn_cons]
  unfold occBody
  rw [if_pos ⟨⟨⟨h1, h2⟩, h3.1⟩, h3.2⟩]
  rfl
theorem forIn_app {α : Type} (f : Nat → α → Id (ForInStep α)) (hf : ∀ a st, ∃ st', f a st = pure (ForInStep.yield st')) : ∀ (l r : List Nat) (st : α), (forIn (l ++ r) st f : Id α) = forIn r ((forIn l st f : Id α).run) f
  | [], r, st => rfl
  | a :: l, r, st => by
    rw [List.cons_append, List.forIn_cons, List.forIn_cons]
    obtain ⟨st', e⟩ := hf a st
    rw [e]
    exact forIn_app f hf l r st'
theorem occBody_yields (s sub : PySem.Str) (hi limit : Nat) (a : Nat) (st : Array Nat × Nat) : ∃ st', occBody s sub hi limit a st = pure (ForInStep.yield st') := by
  unfold occBody
  split
  · exact ⟨_, rfl⟩
  · exact ⟨_, rfl⟩
theorem at_dots {x : PySem.Str} {hi i : Nat} (h : At x dots hi i) : x.cps.toList[i]? = some 46 ∧ x.cps.toList[i + 1]? = some 46 ∧ x.cps.toList[i + 2]? = some 46 := by
  have h2 := h.2
  rw [subAt_eq, dots_len, dots_list] at h2
  have h3 : (x.cps.toList.drop i).take 3 = [46, 46, 46] := by simpa using h2
  have g : ∀ k, k < 3 → x.cps.toList[i + k]? = [46, 46, 46][k]? := fun k hk => by
    rw [← h3, List.getElem?_take_of_lt hk, List.getElem?_drop]
  exact ⟨g 0 (by decide), g 1 (by decide), g 2 (by decide)⟩
/-- where the dots of a piece, the dots and a piece lie -/
theorem occ_two {a b : PySem.Str} (ha : DF a) (hb : DF b) (limit : Nat) (hl : 1 ≤ limit) : occurrences (a ++ dots ++ b) dots 0 (a ++ dots ++ b).length limit = [a.length] := by
  have hlen : (a ++ dots ++ b).length = a.length + 3 + b.length := by rw [PySem.Str.length_append, PySem.Str.length_append, dots_len]
  have hls : (a ++ dots ++ b).cps.toList = a.cps.toList ++ [46, 46, 46] ++ b.cps.toList := by
    rw [PySem.Str.cps_append, PySem.Str.cps_append, Array.toList_append, Array.toList_append, dots_list]
  have hal : a.cps.toList.length = a.length := by simp [PySem.Str.length]
  have hat : At (a ++ dots ++ b) dots (a ++ dots ++ b).length a.length := by
    refine ⟨by rw [hlen, dots_len]; omega, ?_⟩
    rw [subAt_eq, hls, dots_len, dots_list, List.append_assoc, ← hal, List.drop_left]
    simp
  have hno : ∀ i, i ≠ a.length → i ≠ a.length + 1 → i ≠ a.length + 2 → ¬ At (a ++ dots ++ b) dots (a ++ dots ++ b).length i := by
    intro i h0 h1 h2 hc
    have hg := (at_dots hc).1
    rw [hls] at hg
    rcases Nat.lt_or_ge i a.length with hlt | hge
    · rw [List.append_assoc, List.getElem?_append_left (by omega)] at hg
      exact ha 46 (List.mem_of_getElem? hg) rfl
    · rw [List.getElem?_append_right (by simp only [List.length_append, List.length_cons, List.length_nil]; omega)] at hg
      exact hb 46 (List.mem_of_getElem? hg) rfl
  rw [occ_eq]
  have er : List.range' 0 ((a ++ dots ++ b).length + 1 - 0) = List.range' 0 a.length ++ a.length :: List.range' (a.length + 1) ((a ++ dots ++ b).length - a.length) := by
    rw [show (a ++ dots ++ b).length + 1 - 0 = a.length + ((a ++ dots ++ b).length - a.length + 1) by omega, ← List.range'_append_1, List.range'_succ]
    simp
  have s1 : (forIn (List.range' 0 a.length) ((#[] : Array Nat), 0) (occBody (a ++ dots ++ b) dots (a ++ dots ++ b).length limit)).run = (#[], 0) := by
    refine occ_skip _ _ _ _ _ _ fun i hi _ => ?_
    have h3 := List.mem_range'_1.mp hi
    exact hno i (by omega) (by omega) (by omega)
  have s2 : (forIn (List.range' (a.length + 1) ((a ++ dots ++ b).length - a.length)) ((#[] : Array Nat).push a.length, a.length + dots.length) (occBody (a ++ dots ++ b) dots (a ++ dots ++ b).length limit)).run = ((#[] : Array Nat).push a.length, a.length + dots.length) := by
    refine occ_skip _ _ _ _ _ _ fun i hi h2 => ?_
    simp only [dots_len] at h2
    exact hno i (by omega) (by omega) (by omega)
  rw [er, forIn_app _ (occBody_yields _ _ _ _), s1, occ_hit _ _ _ _ _ _ _ (show 0 < limit from hl) (Nat.zero_le _) hat, s2]
  simp
theorem kind_dots (x : PySem.Str) : decide (PySem.Builtin.Str.strKind x < PySem.Builtin.Str.strKind dots) = false := by
  have e : PySem.Builtin.Str.strKind dots = 1 := by decide +kernel
  rw [e]
  refine decide_eq_false ?_
  unfold PySem.Builtin.Str.strKind
  split
  · omega
  · split <;> omega
theorem split_two {a b : PySem.Str} (ha : DF a) (hb : DF b) : Txt.split (a ++ dots ++ b) dots = [a, b] := by
  have hlen : (a ++ dots ++ b).length = a.length + 3 + b.length := by rw [PySem.Str.length_append, PySem.Str.length_append, dots_len]
  have hls : (a ++ dots ++ b).cps.toList = a.cps.toList ++ [46, 46, 46] ++ b.cps.toList := by
    rw [PySem.Str.cps_append, PySem.Str.cps_append, Array.toList_append, Array.toList_append, dots_list]
  have hal : a.cps.toList.length = a.length := by simp [PySem.Str.length]
  have hbl : b.cps.toList.length = b.length := by simp [PySem.Str.length]
  unfold Txt.split
  rw [if_neg (by rw [kind_dots, Bool.or_false, decide_eq_true_eq, hlen, dots_len]; omega), occ_two ha hb _ (by omega), if_neg (by simp), dots_len]
  have e1 : strSub (a ++ dots ++ b) 0 a.length = a := PySem.Str.ext' (by
    apply Array.toList_inj.mp
    rw [strSub_toList, hls, List.drop_zero, List.append_assoc, ← hal]
    simp)
  have e2 : strSub (a ++ dots ++ b) (a.length + 3) (a ++ dots ++ b).length = b := PySem.Str.ext' (by
    apply Array.toList_inj.mp
    rw [strSub_toList, hls, hlen, show a.length + 3 = (a.cps.toList ++ [46, 46, 46]).length by simp only [List.length_append, List.length_cons, List.length_nil]; omega, List.drop_left, List.take_of_length_le (by simp only [List.length_append, List.length_cons, List.length_nil]; omega)])
  show [strSub (a ++ dots ++ b) 0 a.length, strSub (a ++ dots ++ b) (a.length + 3) (a ++ dots ++ b).length] = _
  rw [e1, e2]
end tx
end
section
/-- a claim of a def that hands back a value: d frames deep -/
abbrev Cl (d : Nat) (w : World) (mean : ExcName → Option Value) (mg mb : Str → Option Value) (f : Addr) (news : List (Addr × Obj)) (pre : Prop) (vs : List Value) (R : Tok → Value) : Prop :=
  ∀ (dp un : Nat) (gd : Option (List Code)) (cn : Str) (cs : Scope) (a : Addr) (ccd : Value) (cl : List (Str × Addr)) (outer : List Env) (A₀ : Around) (base h₀ : Heap) (L : Addr) (m : Str → Option Value) (s : Shared) (Q E : Value → Shared → Prop),
    Below A₀ base outer h₀ → Fr h₀ L s.heap m → (hd.heap_39 w.params).In h₀ → News h₀ L s.heap news → Top hd.view_39 (looseW hd.view_39 []) mean mg mb h₀ → cs.kind = .function →
    pre → dp + d < recursionLimit → un + 8 * d < cLine → (∀ (t : Tok) (h' : Heap) (tk' : Nat), Fr h₀ L h' m → News h₀ L h' news → Q (R t) { s with heap := h', toks := tk' }) →
      wpAny (model PySem.Challenge.rw_ty0005_02.row.prog w) (ktrTop dp un gd cn cs L a ccd cl outer) (call (.ref f) vs) Q E s
/-- .. of a def that hands back a new object, the ledger turned as Out says -/
abbrev ClO (d : Nat) (w : World) (mean : ExcName → Option Value) (mg mb : Str → Option Value) (f : Addr) (news : List (Addr × Obj)) (pre : Prop) (vs : List Value) (Out : Value → List (Addr × Obj) → Prop) : Prop :=
  ∀ (dp un : Nat) (gd : Option (List Code)) (cn : Str) (cs : Scope) (a : Addr) (ccd : Value) (cl : List (Str × Addr)) (outer : List Env) (A₀ : Around) (base h₀ : Heap) (L : Addr) (m : Str → Option Value) (s : Shared) (Q E : Value → Shared → Prop),
    Below A₀ base outer h₀ → Fr h₀ L s.heap m → (hd.heap_39 w.params).In h₀ → News h₀ L s.heap news → Top hd.view_39 (looseW hd.view_39 []) mean mg mb h₀ → cs.kind = .function →
    pre → dp + d < recursionLimit → un + 8 * d < cLine → (∀ (r : Value) (news' : List (Addr × Obj)) (h' : Heap) (tk' : Nat), Fr h₀ L h' m → News h₀ L h' news' → Out r news' → Q r { s with heap := h', toks := tk' }) →
      wpAny (model PySem.Challenge.rw_ty0005_02.row.prog w) (ktrTop dp un gd cn cs L a ccd cl outer) (call (.ref f) vs) Q E s
section
variable {d : Nat} {w : World} {mean : ExcName → Option Value} {mg mb : Str → Option Value} {f : Addr} {news : List (Addr × Obj)} {pre : Prop} {vs : List Value} {R : Tok → Value} {Out : Value → List (Addr × Obj) → Prop}
    {dp un : Nat} {gd : Option (List Code)} {cn : Str} {cs : Scope} {a : Addr} {ccd : Value} {cl : List (Str × Addr)} {outer : List Env} {A₀ : Around} {base h₀ : Heap} {L : Addr} {m : Str → Option Value} {s : Shared} {Q E : Value → Shared → Prop}
theorem cl_use (C : Cl d w mean mg mb f news pre vs R) (B : Below A₀ base outer h₀) (F : Fr h₀ L s.heap m) (X : (hd.heap_39 w.params).In h₀) (N : News h₀ L s.heap news) (T : Top hd.view_39 (looseW hd.view_39 []) mean mg mb h₀) (hk : cs.kind = .function)
    (hp : pre) (hdp : dp + d < recursionLimit) (hun : un + 8 * d < cLine)
    (ret : ∀ (t : Tok) (h' : Heap) (tk' : Nat), Fr h₀ L h' m → News h₀ L h' news → Q (R t) { s with heap := h', toks := tk' }) :
    wpAny (model PySem.Challenge.rw_ty0005_02.row.prog w) (ktrTop dp un gd cn cs L a ccd cl outer) (call (.ref f) vs) Q E s := C _ _ _ _ _ _ _ _ _ _ _ _ _ _ _ _ _ B F X N T hk hp hdp hun ret
theorem clO_use (C : ClO d w mean mg mb f news pre vs Out) (B : Below A₀ base outer h₀) (F : Fr h₀ L s.heap m) (X : (hd.heap_39 w.params).In h₀) (N : News h₀ L s.heap news) (T : Top hd.view_39 (looseW hd.view_39 []) mean mg mb h₀) (hk : cs.kind = .function)
    (hp : pre) (hdp : dp + d < recursionLimit) (hun : un + 8 * d < cLine)
    (ret : ∀ (r : Value) (news' : List (Addr × Obj)) (h' : Heap) (tk' : Nat), Fr h₀ L h' m → News h₀ L h' news' → Out r news' → Q r { s with heap := h', toks := tk' }) :
    wpAny (model PySem.Challenge.rw_ty0005_02.row.prog w) (ktrTop dp un gd cn cs L a ccd cl outer) (call (.ref f) vs) Q E s := C _ _ _ _ _ _ _ _ _ _ _ _ _ _ _ _ _ B F X N T hk hp hdp hun ret
end
end
section
/-- a list's iterator, a bytes' iterator, as objects -/
abbrev itO (l : Addr) (i : Nat) : Obj := { cls := .type "list_iterator", data := .fields #[.ref l, .int (i : Int) 0] }
abbrev bitO (b : Array UInt8) (t : Tok) (i : Nat) : Obj := { cls := .type "bytes_iterator", data := .fields #[.bytes b t, .int (i : Int) 0] }
section nx
open PySem.Calls PySem.Spec
variable {prog : Program} {w : World} {A : Around} {E : Value → Shared → Prop} {s : Shared} {h₀ : Heap} {L : Addr} {m : Str → Option Value} {news : List (Addr × Obj)} {Q : Value → Shared → Prop}
theorem bit_step (b : Array UInt8) (t : Tok) (i : Nat) : Obj.mapFields (·.setIfInBounds 1 (rawInt ((i : Int) + 1))) (bitO b t i) = bitO b t (i + 1) := by
  show Obj.mk _ _ (.fields _) _ = Obj.mk _ _ (.fields _) _
  simp [rawInt]
theorem m_next_bytes {it : Addr} {i : Nat} {b : Array UInt8} {t : Tok} {c : UInt8} (F : Fr h₀ L s.heap m) (N : News h₀ L s.heap ((it, bitO b t i) :: news)) (off : Off it news) (hx : b[i]? = some c)
    (h : ∀ h' tk tk', Fr h₀ L h' m → News h₀ L h' ((it, bitO b t (i + 1)) :: news) → Q (.int (c.toNat : Int) tk) { s with heap := h', toks := tk' }) :
    wpAny (model prog w) A (call (.builtin "next") [.ref it]) Q E s := by
  have hm := N (it, bitO b t i) (.head _)
  have ho : s.heap.get? it = some (bitO b t i) := hm.1
  have hd : (bitO b t i).data = .fields #[.bytes b t, .int (i : Int) 0] := rfl
  have hT : s.TypeIs (.ref it) "bytes_iterator" := ⟨_, ho, rfl⟩
  refine call_function_entry (by decide +kernel) (by decide +kernel) kdk_entry_next (kdk_args_next _) ?_
  unfold Builtin.«next»
  refine wpAny_bind (m := someArgs "next" 1 2 _) (wpAny_of_eq (a := [Value.ref it]) (by first | rfl | kernel_rfl!) ?_)
  dsimp only
  refine wpAny_bind (wpAny_specialOf (name := Str.ofString "__next__") hT KBw.slot_next.lookup ?_)
  refine wpAny_ite_split (fun hab => absurd hab (by decide)) (fun _ => ?_)
  refine wpAny_bind (wpAny_callSpecial?_slot (name := Str.ofString "__next__") hT KBw.slot_next
    (wpAny_call_entry KBw.slot_next hT KBw.entry_next ?_ (KBw.args_next _)))
  show wpAny _ _ (field (.ref it) 0 >>= _) _ _ s
  refine wpAny_bind (wpAny_field ho hd (x := .bytes b t) rfl ?_)
  show wpAny _ _ (if (Value.bytes b t == Value.none) = true then _ else _) _ _ s
  rw [if_neg (show ¬ ((Value.bytes b t == Value.none) = true) from Bool.false_ne_true)]
  show wpAny _ _ (field (.ref it) 1 >>= _) _ _ s
  refine wpAny_bind (wpAny_field ho hd (x := .int i 0) rfl ?_)
  refine wpAny_bind (wpAny_of_eq (a := b) rfl ?_)
  simp only [Int.toNat_natCast, hx]
  have sb := Heap.SameBut.update s.heap it (Obj.mapFields (·.setIfInBounds 1 (rawInt ((i : Int) + 1))))
  have ho' : (s.heap.update it (Obj.mapFields (·.setIfInBounds 1 (rawInt ((i : Int) + 1))))).get? it = some (bitO b t (i + 1)) := by
    rw [← bit_step]; exact Heap.get?_update_self _ ho rfl
  refine wpAny_bind (wpAny_setField ho hd (by simp) (wpAny_bind (wpAny_mkInt (wpAny_pure ⟨_, rfl, wpAny_pure ⟨_, rfl, h _ _ _ (F.change sb hm.2.1 hm.2.2) ?_⟩⟩))))
  exact News.setIn (own := []) N (fun _ hp => nomatch hp) off.mem sb ho'
theorem m_iter_bytes {b : Array UInt8} {t : Tok} (F : Fr h₀ L s.heap m) (N : News h₀ L s.heap news)
    (h : ∀ (I : Addr) h', Fr h₀ L h' m → News h₀ L h' ((I, bitO b t 0) :: news) → (∀ p ∈ news, p.1 < I) → Q (.ref I) { s with heap := h' }) :
    wpAny (model prog w) A (call (.builtin "iter") [.bytes b t]) Q E s := by
  refine call_function_entry (by decide +kernel) (by decide +kernel) kdk_entry_iter (kdk_args_iter _) ?_
  unfold Builtin.«iter»
  refine wpAny_bind (m := someArgs "iter" 1 2 _) (wpAny_of_eq (a := [Value.bytes b t]) (by first | rfl | kernel_rfl!) ?_)
  show wpAny _ _ (pyIter (.bytes b t) >>= _) _ _ _
  refine wpAny_bind (KBw.pyIter_bytes ?_)
  exact wpAny_pure ⟨_, rfl, h _ _ (F.push _) (News.push F N _ rfl) (fun q hq => Heap.lt_size (N q hq).1)⟩
end nx
end
section
section ar
theorem and64_dec : ∀ n : Fin 128, n.val &&& 64 = if 64 ≤ n.val then 64 else 0 := by decide +kernel
theorem bitAnd_64 {x : Int} (h0 : 0 ≤ x) (h1 : x < 128) : Builtin.bitAnd x 64 = if 64 ≤ x then 64 else 0 := by
  rw [bitAnd_pp h0 (by decide)]
  have := and64_dec ⟨x.toNat, by omega⟩
  dsimp only at this
  rw [show (64 : Int).toNat = 64 from rfl, this]
  split <;> split <;> omega
theorem and_shift {v y : Nat} (h : y < 64) : (64 * v) &&& y = 0 := by
  apply Nat.eq_of_testBit_eq
  intro i
  rw [Nat.testBit_and, Nat.zero_testBit]
  rcases Nat.lt_or_ge i 6 with hi | hi
  · have : (64 * v).testBit i = false := by
      rw [show 64 * v = 2 ^ 6 * v from rfl, Nat.testBit_two_pow_mul]
      simp; omega
    rw [this, Bool.false_and]
  · have : y.testBit i = false := Nat.testBit_lt_two_pow (Nat.lt_of_lt_of_le h (by
      calc 64 = 2 ^ 6 := rfl
        _ ≤ 2 ^ i := Nat.pow_le_pow_right (by decide) hi))
    rw [this, Bool.and_false]
theorem bitOr_64 {v y : Int} (hv : 0 ≤ v) (h0 : 0 ≤ y) (h1 : y < 64) : Builtin.bitOr (v * 64) y = v * 64 + y := by
  rw [bitOr_and, bitAnd_pp (by omega) h0]
  have e : (v * 64).toNat = 64 * v.toNat := by omega
  rw [e, and_shift (by omega)]
  simp
end ar
end
section
section lb
open PySem.Calls PySem.Spec
variable {prog : Program} {w : World} {A : Around} {E : Value → Shared → Prop} {s : Shared}
def ByteAt (b : Array UInt8) (i : Nat) (v : Value) : Prop := ∃ c u, b[i]? = some c ∧ v = .int (c.toNat : Int) u
variable {h₀ : Heap} {L : Addr} {m : Str → Option Value} {news news' : List (Addr × Obj)} {Q : Value → Shared → Prop}
theorem m_addL {a b : Addr} {xs ys : List Value} {ka kb : Nat} (F : Fr h₀ L s.heap m) (N : News h₀ L s.heap news) (ha : (a, listOf xs.toArray ka) ∈ news) (hb : (b, listOf ys.toArray kb) ∈ news) (hz : xs.length + ys.length ≤ 16777216)
    (h : ∀ (D : Addr) h', Fr h₀ L h' m → News h₀ L h' ((D, listOf (xs ++ ys).toArray 0) :: news) → (∀ p ∈ news, p.1 < D) → Q (.ref D) { s with heap := h' }) :
    wpAny (model prog w) A (binaryOp .Add (.ref a) (.ref b)) Q E s :=
  add_lists (hsz := by rw [sizeLine_eq]; exact hz) F N ⟨_, (N _ ha).1, rfl, ka, rfl⟩ ⟨_, (N _ hb).1, rfl, kb, rfl⟩ fun h' F' N' => h _ h' F' N' fun p hp => Heap.lt_size (N p hp).1
theorem m_extendL {D b : Addr} {xs ys : List Value} {n kb : Nat} (F : Fr h₀ L s.heap m) (N : News h₀ L s.heap news) (hb : (b, listOf ys.toArray kb) ∈ news) (hne : ys ≠ []) (U : Upd D (listOf xs.toArray n) (listOf (xs ++ ys).toArray (n + 1)) news news') (hz : xs.length + ys.length ≤ 16777216)
    (h : ∀ h', Fr h₀ L h' m → News h₀ L h' news' → Q .none { s with heap := h' }) : wpAny (model prog w) A (call (.builtin "list.extend") [.ref D, .ref b]) Q E s :=
  kl_extend F N hb (by simp) (by simpa using hne) U (extend_door (by rw [sizeLine_eq]; simpa using hz)) (by rw [sizeLine_eq]; simp; omega) (by rw [sizeLine_eq]; simp; omega) h
theorem m_appendL {D : Addr} {xs : List Value} {v : Value} {n : Nat} (F : Fr h₀ L s.heap m) (N : News h₀ L s.heap news) (U : Upd D (listOf xs.toArray n) (listOf (xs ++ [v]).toArray (n + 1)) news news') (hz : xs.length ≤ 16777216)
    (h : ∀ h', Fr h₀ L h' m → News h₀ L h' news' → Q .none { s with heap := h' }) : wpAny (model prog w) A (call (.builtin "list.append") [.ref D, v]) Q E s :=
  append_K F N (by rw [List.push_toArray]; exact U) h (by rw [sizeLine_eq]; simpa using hz)
theorem ints_snoc {ys : List Value} {ns : List Int} {a b : Int} {t : Tok} (h : IntsAre ys ns) (e : a = b) : IntsAre (ys ++ [Value.int a t]) (ns ++ [b]) := e ▸ IntsAre.append h (.cons _ _ .nil)
theorem ne_of_all {d : Addr} (h : ∀ p ∈ news, p.1 < d) : ∀ p ∈ news, p.1 ≠ d := fun p hp => Nat.ne_of_lt (h p hp)
theorem ne_of_allLt {d : Addr} (h : AllLt d news) : ∀ p ∈ news, p.1 ≠ d := fun p hp => Nat.ne_of_lt (ktn_ltOf h p hp)
theorem ne_of_off {d : Addr} (h : Off d news) : ∀ p ∈ news, p.1 ≠ d := Off.mem h
end lb
end
section
section cp
variable {prog : Program} {w : World} {A : Around} {h₀ : Heap} {L : Addr} {m : Str → Option Value} {env : Env} {elt : Expr} {x : Str} {scope : Scope} {cl : List (Str × Addr)} {s : Shared} {S : List (Addr × Obj) → Prop} {V : Nat → Value → Prop} {Fin : List Value → List (Addr × Obj) → Prop} {news : List (Addr × Obj)}
/-- a comprehension's turns by a word over what is made -/
theorem m_rest {n : Nat} (J : Nat → List Value → List (Addr × Obj) → Prop) (h0 : J 0 [] news)
    (turn : ∀ i v I oI C oC D m₂ ys nw h tk (E' : Value → Shared → Prop), i < n → V i v → J i ys nw → LCg.NsObj oC m₂ → m₂ x = some v → Fr h₀ L h m → News h₀ L h ((I, oI) :: (C, oC) :: (D, LCg.lst ys) :: nw) → LCg.Off3 I C D nw → ((@Ne Nat I C) ∧ (@Ne Nat I D) ∧ (@Ne Nat C D)) →
      wpAny (model prog w) A (eval elt (compEnvC scope cl C env)) (LCg.CompEnd h₀ L m { s with heap := h, toks := tk } I oI C oC D (LCg.lst ys) S (fun y nw' => J (i + 1) (ys ++ [y]) nw')) E' { s with heap := h, toks := tk })
    (fin : ∀ ys nw, J n ys nw → Fin ys nw) : LCg.CompRest prog w A h₀ L m env elt x scope cl s S V Fin n 0 [] news := by
  have key : ∀ (j i : Nat) (ys : List Value) (nw : List (Addr × Obj)), i + j = n → J i ys nw → LCg.CompRest prog w A h₀ L m env elt x scope cl s S V Fin j i ys nw := by
    intro j
    induction j with
    | zero =>
      intro i ys nw hi hj
      obtain rfl : i = n := by omega
      exact LCg.CompRest.zero (fin ys nw hj)
    | succ j ih =>
      intro i ys nw hi hj
      refine LCg.CompRest.succ ?_
      intro v I oI C oC D m₂ h tk E' hv hC hx F N off ne
      refine wpAny_mono (turn i v I oI C oC D m₂ ys nw h tk E' (by omega) hv hj hC hx F N off ne) (fun y s₂ hq => ?_) fun _ _ e => e
      obtain ⟨h', tk', nw', e, F', N', off', hS, hj'⟩ := hq
      exact ⟨h', tk', nw', e, F', N', off', hS, ih (i + 1) _ _ (by omega) hj'⟩
  exact key n 0 [] news (by omega) h0
/-- .. where nothing made stays but the list -/
theorem m_restP {n : Nat} (R : Nat → List Value → Prop) (h0 : R 0 [])
    (turn : ∀ i v I oI C oC D m₂ ys h tk (E' : Value → Shared → Prop), i < n → V i v → R i ys → LCg.NsObj oC m₂ → m₂ x = some v → Fr h₀ L h m → News h₀ L h ((I, oI) :: (C, oC) :: (D, LCg.lst ys) :: news) → LCg.Off3 I C D news → ((@Ne Nat I C) ∧ (@Ne Nat I D) ∧ (@Ne Nat C D)) →
      wpAny (model prog w) A (eval elt (compEnvC scope cl C env)) (LCg.CompEnd h₀ L m { s with heap := h, toks := tk } I oI C oC D (LCg.lst ys) S (fun y nw' => nw' = news ∧ R (i + 1) (ys ++ [y]))) E' { s with heap := h, toks := tk })
    (fin : ∀ ys, R n ys → Fin ys news) : LCg.CompRest prog w A h₀ L m env elt x scope cl s S V Fin n 0 [] news :=
  m_rest (fun i ys nw => nw = news ∧ R i ys) ⟨rfl, h0⟩ (fun i v I oI C oC D m₂ ys nw h tk E' hi hv hj hC hx F N off ne => by
    obtain ⟨rfl, hj⟩ := hj
    exact turn i v I oI C oC D m₂ ys h tk E' hi hv hj hC hx F N off ne) fun ys nw hj => by
    obtain ⟨rfl, hj⟩ := hj
    exact fin ys hj
theorem off_lt {d : Addr} {l : List (Addr × Obj)} (h : ∀ p ∈ l, p.1 < d) : Off d l := off_of fun p hp => Nat.ne_of_lt (h p hp)
end cp
end
section
section fc
variable {prog : Program} {w : World} {A : Around} {E : Value → Shared → Prop} {Q : Flow → Shared → Prop} {s : Shared} {env : Env} {h₀ : Heap}
/-- a for whose name is a cell -/
def LoopC (prog : Program) (w : World) (A : Around) (env : Env) (x : Str) (px : Pos) (body : List Stmt) (Q : Flow → Shared → Prop) (E : Value → Shared → Prop) (it : Value) (s₂ : Shared) : Prop :=
  codeAny (model prog w) A (.forLoop (.Name x px) it body [] env) (fun r s' => match r with | .ok f => Q f s' | .error e => cameBackBy (model prog w) A env E e s') s₂
theorem For_C {x : Str} {px pos : Pos} {iter : Expr} {body : List Stmt}
    (h : wpAny (model prog w) A (eval iter env) (fun xv s₁ => wpAny (model prog w) A (pyIter xv) (fun it s₂ => LoopC prog w A env x px body Q E it s₂) E s₁) E s)
    (hs : ∀ x, foldedSetIterable iter env x = pure x := by intro _; rfl) :
    wpAny (model prog w) A (exec (.For (.Name x px) iter body [] pos) env) Q E s := wpAny_For h hs
def CEnd {σ : Type} (h₀ : Heap) (L cx : Addr) (s : Shared) (Led : σ → List (Addr × Obj)) (ps : σ → List (Str × (Tok → Value))) (stored : List Str) (m₀ : Str → Option Value) (P : Nat → σ → Prop) (i : Nat) (I : Addr) (oI : Obj) (s₂ : Shared) : Prop :=
  ∃ (c' : σ) (oc : Obj) (vc : Option Value) (h' : Heap) (tk : Nat) (m' : Str → Option Value) (news' : List (Addr × Obj)), s₂ = { s with heap := h', toks := tk } ∧ Fr h₀ L h' m' ∧ News h₀ L h' news' ∧ (∀ p ∈ (I, oI) :: (cx, oc) :: Led c', p ∈ news') ∧ oc.data = .cell vc ∧ Off I (Led c') ∧ Off cx (Led c') ∧ Held m' (ps c') ∧ Rest (ps c') stored m₀ m' ∧ P (i + 1) c'
def CPost {σ : Type} (h₀ : Heap) (L cx : Addr) (s : Shared) (Led : σ → List (Addr × Obj)) (ps : σ → List (Str × (Tok → Value))) (stored : List Str) (m₀ : Str → Option Value) (P : Nat → σ → Prop) (i : Nat) (I : Addr) (oI : Obj) (Q : Flow → Shared → Prop) (f : Flow) (s₂ : Shared) : Prop :=
  match f with
  | .ret v => Q (.ret v) s₂
  | .brk => Q .next s₂
  | _ => CEnd h₀ L cx s Led ps stored m₀ P i I oI s₂
theorem CEnd.intro {σ : Type} {L cx : Addr} {s : Shared} {Led : σ → List (Addr × Obj)} {ps : σ → List (Str × (Tok → Value))} {stored : List Str} {m₀ m' : Str → Option Value} {P : Nat → σ → Prop} {i : Nat} {I : Addr} {oI oc : Obj} {vc : Option Value} {h' : Heap} {tk : Nat} {news' : List (Addr × Obj)} (c' : σ)
    (F : Fr h₀ L h' m') (N : News h₀ L h' news') (hn : ∀ p ∈ (I, oI) :: (cx, oc) :: Led c', p ∈ news') (hd : oc.data = .cell vc) (off : Off I (Led c')) (offc : Off cx (Led c')) (hk : Held m' (ps c')) (hr : Rest (ps c') stored m₀ m') (hp : P (i + 1) c') :
    CEnd h₀ L cx s Led ps stored m₀ P i I oI { s with heap := h', toks := tk } := ⟨c', oc, vc, h', tk, m', news', rfl, F, N, hn, hd, off, offc, hk, hr, hp⟩
theorem m_rangeC {σ : Type} {x : Str} {px : Pos} {body : List Stmt} {r cx : Addr} {a₀ b₀ : Int} {t₀ u₀ v₀ : Tok} {n : Nat} {m₀ : Str → Option Value} {oc₀ : Obj} {vc₀ : Option Value} (Led : σ → List (Addr × Obj)) (ps : σ → List (Str × (Tok → Value))) (stored : List Str) (P : Nat → σ → Prop) (c₀ : σ)
    (hx : env.kindOf x = some .cell) (hkind : env.scope.kind = .function) (hcx : env.cells.lookup x = some cx)
    (hh : A.handled = none) (hr : IsRange s.heap r a₀ b₀ 1 t₀ u₀ v₀) (hsmall : Builtin.Range.small a₀ b₀ 1 = true) (hn : Builtin.Range.rangeSize a₀ b₀ 1 = (n : Int)) (F : Fr h₀ env.locals s.heap m₀) (N : News h₀ env.locals s.heap ((cx, oc₀) :: Led c₀)) (hd₀ : oc₀.data = .cell vc₀) (offc₀ : Off cx (Led c₀)) (hk : Held m₀ (ps c₀)) (hp : P 0 c₀)
    (turn : ∀ (c : σ) i t u tkf h tk I oI oc, i < n → oc.data = .cell (some (.int (a₀ + (i : Int)) t)) → (@Ne Nat I cx) → Off I (Led c) → Off cx (Led c) → P i c → Fr h₀ env.locals h (env9 (ps c) stored m₀ u tkf) → News h₀ env.locals h ((I, oI) :: (cx, oc) :: Led c) →
      wpAny (model prog w) A (execs body env) (CPost h₀ env.locals cx { s with heap := h, toks := tk } Led ps stored m₀ P i I oI Q) E { s with heap := h, toks := tk })
    (done : ∀ (c : σ) u tkf h tk oc vc, oc.data = .cell vc → P n c → Off cx (Led c) → Fr h₀ env.locals h (env9 (ps c) stored m₀ u tkf) → News h₀ env.locals h ((cx, oc) :: Led c) → Q .next { s with heap := h, toks := tk })
    (hE : PassesOwn (model prog w) A env E := by passes_own) :
    wpAny (model prog w) A (pyIter (.ref r)) (fun it s₂ => LoopC prog w A env x px body Q E it s₂) E s := by
  refine wpAny_pyIter_range hr hsmall ?_
  unfold LoopC
  let I : Addr := s.heap.objs.size
  have W : Walks prog w A I [I] [I] n (fun i v => ∃ t, v = .int (a₀ + (i : Int)) t) (fun i h => IsRangeIter h I (a₀ + (i : Nat) * 1) ((n : Int) - (i : Nat)) 1) := LCg.range_walks hh a₀ n
  have hI₀ : h₀.get? I = none := next_is_new F
  have hLI : env.locals ≠ I := Nat.ne_of_lt F.ns.lt
  have hst : IsRangeIter (s.heap.push { cls := .type "range_iterator", data := .fields #[.int (a₀ + ((0 : Nat) : Int) * 1) 0, .int ((n : Int) - (0 : Nat)) 0, .int 1 0] }) I (a₀ + ((0 : Nat) : Int) * 1) ((n : Int) - (0 : Nat)) 1 := by
    first | exact Heap.get?_push_size _ rfl | simpa using Heap.get?_push_size _ rfl
  refine codeAny_forLoop
    (fun k s' => ∃ h' tk m' i c oc vc, s' = { s with heap := h', toks := tk } ∧ IsRangeIter h' I (a₀ + ((i : Nat) : Int) * 1) ((n : Int) - (i : Nat)) 1 ∧ Fr h₀ env.locals h' m' ∧ News h₀ env.locals h' ((cx, oc) :: Led c) ∧ oc.data = .cell vc ∧ (@Ne Nat I cx) ∧ Off I (Led c) ∧ Off cx (Led c) ∧ Held m' (ps c) ∧ Rest (ps c) stored m₀ m' ∧ P i c ∧ i ≤ n ∧ k = n + 1 - i) ?_ (n + 1)
    ⟨_, s.toks, m₀, 0, c₀, oc₀, vc₀, rfl, (by show IsRangeIter _ _ _ _ _; rw [hn]; simpa using Heap.get?_push_size _ rfl), F.push _, fun p hp => ⟨Heap.get?_push_of_some _ (N p hp).1, (N p hp).2⟩, hd₀, Nat.ne_of_gt (Heap.lt_size (N _ (.head _)).1), off_of fun q hq e => absurd (Heap.lt_size (N q (.tail _ hq)).1) (e ▸ Nat.lt_irrefl _), offc₀, hk, fun _ _ _ => rfl, hp, Nat.zero_le _, rfl⟩
  rintro k s' ⟨h', tk, m', i, c, oc, vc, rfl, hst', F', N', hdc, hIc, offI, offc, hk', hr', hp', hi, rfl⟩
  have next : ∀ h₁ : Heap, (∀ b o, b ∉ [I] → h'.get? b = some o → h₁.get? b = some o) → Fr h₀ env.locals h₁ m' ∧ News h₀ env.locals h₁ ((cx, oc) :: Led c) := fun h₁ hk₁ =>
    ⟨LCg.fr_but F' hk₁ hLI hI₀, LCg.news_but N' hk₁ fun p hp => by
      rcases List.mem_cons.mp hp with rfl | hp
      · exact Ne.symm hIc
      · exact Off.mem offI p hp⟩
  by_cases hlt : i < n
  · refine W.item i _ _ _ hlt hst' fun v h₁ tk₁ hP hst₁ hk₁ => ?_
    obtain ⟨t, rfl⟩ := hP
    obtain ⟨F₁, N₁⟩ := next h₁ hk₁
    have hcm := N₁ (cx, oc) (.head _)
    refine wpAny_assign_Name (wpAny_storeName_cell hkind hx hcx ⟨oc, hcm.1, hdc⟩ fun h₂ hv hs => ?_)
    obtain ⟨oc', hoc', hdc'⟩ := hv
    have F₂ : Fr h₀ env.locals h₂ m' := F₁.change hs hcm.2.1 hcm.2.2
    have N₂ : News h₀ env.locals h₂ ((cx, oc') :: Led c) := News.setIn (own := []) N₁ (fun _ hp => nomatch hp) offc.mem hs hoc'
    have hst₂ : IsRangeIter h₂ I (a₀ + ((i + 1 : Nat) : Int) * 1) ((n : Int) - ((i + 1 : Nat) : Int)) 1 := by
      have e : h₁.get? I = some _ := hst₁
      exact (hs.2 I hIc).trans e
    obtain ⟨tkf, he⟩ := env9_eq hk' hr'
    have N₃ : News h₀ env.locals h₂ ((I, _) :: (cx, oc') :: Led c) := fun p hp => by
      rcases List.mem_cons.mp hp with rfl | hp
      · exact ⟨hst₂, Ne.symm hLI, hI₀⟩
      · exact N₂ p hp
    refine wpAny_passesOwn hE (wpAny_mono (turn c i t m' tkf h₂ _ I _ oc' hlt hdc' hIc offI offc hp' (he.symm ▸ F₂) N₃) (fun f s₃ h₃ => ?_) fun _ _ e => e)
    cases f with
    | ret v => exact h₃
    | brk => exact h₃
    | cont =>
      obtain ⟨c', oc2, vc2, h3, tk3, m3, news3, rfl, F3, N3, sub, hd3, oI3, oc3, hk3, hr3, hp3⟩ := h₃
      exact ⟨n + 1 - (i + 1), by omega, h3, tk3, m3, i + 1, c', oc2, vc2, rfl, (N3 _ (sub _ (.head _))).1, F3, fun p hp => N3 p (sub p (.tail _ hp)), hd3, hIc, oI3, oc3, hk3, hr3, hp3, hlt, rfl⟩
    | next =>
      obtain ⟨c', oc2, vc2, h3, tk3, m3, news3, rfl, F3, N3, sub, hd3, oI3, oc3, hk3, hr3, hp3⟩ := h₃
      exact ⟨n + 1 - (i + 1), by omega, h3, tk3, m3, i + 1, c', oc2, vc2, rfl, (N3 _ (sub _ (.head _))).1, F3, fun p hp => N3 p (sub p (.tail _ hp)), hd3, hIc, oI3, oc3, hk3, hr3, hp3, hlt, rfl⟩
  · have hin : i = n := by omega
    subst hin
    refine W.done _ _ _ hst' fun h₁ tk₁ hk₁ => wpAny_execs_nil ?_
    obtain ⟨F₁, N₁⟩ := next h₁ hk₁
    obtain ⟨tkf, he⟩ := env9_eq hk' hr'
    exact done c m' tkf h₁ tk₁ oc vc hdc hp' offc (he.symm ▸ F₁) N₁
theorem news_swap {L : Addr} {h : Heap} {a b : Addr × Obj} {r : List (Addr × Obj)} (N : News h₀ L h (a :: b :: r)) : News h₀ L h (b :: a :: r) := fun p hp => N p (by
  simp only [List.mem_cons] at hp ⊢
  rcases hp with h | h | h
  · exact .inr (.inl h)
  · exact .inl h
  · exact .inr (.inr h))
theorem m_rangeCL {x : Str} {px : Pos} {body : List Stmt} {r cx : Addr} {a₀ b₀ : Int} {t₀ u₀ v₀ : Tok} {n : Nat} {m₀ : Str → Option Value} {oc₀ : Obj} {vc₀ : Option Value} {D : Addr} {us₀ : List Value} {k₀ : Nat} {rest : List (Addr × Obj)} (stored : List Str) (P : Nat → List Value → Prop)
    (hx : env.kindOf x = some .cell) (hkind : env.scope.kind = .function) (hcx : env.cells.lookup x = some cx)
    (hh : A.handled = none) (hr : IsRange s.heap r a₀ b₀ 1 t₀ u₀ v₀) (hsmall : Builtin.Range.small a₀ b₀ 1 = true) (hn : Builtin.Range.rangeSize a₀ b₀ 1 = (n : Int)) (F : Fr h₀ env.locals s.heap m₀) (N : News h₀ env.locals s.heap ((D, listOf us₀.toArray k₀) :: (cx, oc₀) :: rest)) (hd₀ : oc₀.data = .cell vc₀) (hDc : (@Ne Nat D cx)) (offc₀ : Off cx rest) (hp : P 0 us₀)
    (turn : ∀ (us : List Value) (kk : Nat) i t u tkf h tk I oI oc, i < n → oc.data = .cell (some (.int (a₀ + (i : Int)) t)) → (@Ne Nat I cx) → (@Ne Nat D I) → Off I rest → P i us → Fr h₀ env.locals h (env9 [] stored m₀ u tkf) → News h₀ env.locals h ((I, oI) :: (cx, oc) :: (D, listOf us.toArray kk) :: rest) →
      wpAny (model prog w) A (execs body env) (CPost h₀ env.locals cx { s with heap := h, toks := tk } (fun c : List Value × Nat => (D, listOf c.1.toArray c.2) :: rest) (fun _ => []) stored m₀ (fun i c => P i c.1) i I oI Q) E { s with heap := h, toks := tk })
    (done : ∀ (us : List Value) (kk : Nat) u tkf h tk oc vc, oc.data = .cell vc → P n us → Fr h₀ env.locals h (env9 [] stored m₀ u tkf) → News h₀ env.locals h ((cx, oc) :: (D, listOf us.toArray kk) :: rest) → Q .next { s with heap := h, toks := tk })
    (hE : PassesOwn (model prog w) A env E := by passes_own) :
    wpAny (model prog w) A (pyIter (.ref r)) (fun it s₂ => LoopC prog w A env x px body Q E it s₂) E s :=
  m_rangeC (σ := List Value × Nat) (fun c => (D, listOf c.1.toArray c.2) :: rest) (fun _ => []) stored (fun i c => P i c.1) (us₀, k₀) hx hkind hcx hh hr hsmall hn F (news_swap N) hd₀ ⟨hDc, offc₀⟩ trivial hp
    (fun c i t u tkf h tk I oI oc hi hd hI off offc hp' F' N' => turn c.1 c.2 i t u tkf h tk I oI oc hi hd hI off.1 off.2 hp' F' N')
    (fun c u tkf h tk oc vc hd hp' _ F' N' => done c.1 c.2 u tkf h tk oc vc hd hp' F' N') hE
end fc
end
section
section cb
variable {prog : Program} {w : World} {A : Around} {E : Value → Shared → Prop} {s : Shared} {h₀ : Heap} {L : Addr} {m : Str → Option Value} {env : Env}
/-- a comprehension over bytes -/
def SrcB (prog : Program) (w : World) (A : Around) (h₀ : Heap) (L : Addr) (m : Str → Option Value) (env : Env) (elt : Expr) (x : Str) (scope : Scope) (cl : List (Str × Addr)) (Fin : Shared → List Value → List (Addr × Obj) → Prop) (xv : Value) (s₁ : Shared) : Prop :=
  ∃ (b : Array UInt8) (t : Tok) (news : List (Addr × Obj)), xv = .bytes b t ∧ A.handled = none ∧ Fr h₀ L s₁.heap m ∧ News h₀ L s₁.heap news ∧ b.size ≤ sizeLine ∧
    ∀ g, LCg.CompRest prog w A h₀ L m env elt x scope cl { s₁ with heap := g } (fun _ => True) (ByteAt b) (Fin { s₁ with heap := g }) b.size 0 [] news
theorem SrcB.intro {elt : Expr} {x : Str} {scope : Scope} {cl : List (Str × Addr)} {Fin : Shared → List Value → List (Addr × Obj) → Prop} {b : Array UInt8} {t : Tok} {news : List (Addr × Obj)} {s₁ : Shared}
    (hh : A.handled = none) (F : Fr h₀ L s₁.heap m) (N : News h₀ L s₁.heap news) (hn : b.size ≤ sizeLine)
    (h : ∀ g, LCg.CompRest prog w A h₀ L m env elt x scope cl { s₁ with heap := g } (fun _ => True) (ByteAt b) (Fin { s₁ with heap := g }) b.size 0 [] news) :
    SrcB prog w A h₀ L m env elt x scope cl Fin (.bytes b t) s₁ := ⟨b, t, news, rfl, hh, F, N, hn, h⟩
theorem ListComp_B {elt iter : Expr} {x : Str} {px : Pos} {scope : Scope} {cl : List (Str × Addr)} {pos : Pos} {Q : Value → Shared → Prop} (F₀ : Fr h₀ L s.heap m)
    (hclos : closureFor scope env = pure cl) (hcell : ∀ y ∈ scope.names, y.2 ≠ .cell) (hkind : scope.kind = .function)
    (hnames : ∀ y ∈ scope.names, y.2 = .local → scope.names.lookup y.1 = some .local) (hx : scope.names.lookup x = some .local)
    (h : wpAny (model prog w) A (eval iter env) (SrcB prog w A h₀ L m env elt x scope cl (fun s₂ => LCg.FinE h₀ L m s₂ Q)) E s)
    (hs : ∀ x, foldedSetIterable iter env x = pure x := by intro _; rfl) :
    wpAny (model prog w) A (eval (.ListComp elt [⟨.Name x px, iter, [], 0⟩] scope pos) env) Q E s := by
  rw [eval_ListComp]
  refine wpAny_comprehension_free (use := none) rfl hs hclos hkind hnames (wpAny_mono h (fun xv s₁ h₁ => ?_) fun _ _ e => e)
  obtain ⟨b, t, news, rfl, hh, F, N, hsz, R⟩ := h₁
  refine KBw.pyIter_bytes ?_
  refine LCg.block_U (KBw.walks hh s₁.heap.objs.size b t) hsz (fun i h st => by obtain ⟨o, e, _⟩ := st; exact ⟨o, e⟩) (fun i h h' o nw st e e' _ _ _ => by
      obtain ⟨o', eo, r⟩ := st
      rw [e] at eo
      cases eo
      exact ⟨o, e', r⟩) hcell hkind hx ⟨_, Heap.get?_push_size _ rfl, rfl, rfl⟩ (fun b' hb => ?_)
    (F.keeps fun _ _ e => Heap.get?_push_of_some _ e) (N.grown fun _ _ e => Heap.get?_push_of_some _ e) (Nat.ne_of_lt F.ns.lt) (next_is_new F) (fun p hp => Nat.ne_of_lt (Heap.lt_size (N p hp).1)) trivial (R _) ?_
  · rw [List.mem_singleton.mp hb]
    show s₁.heap.objs.size < (s₁.heap.push _).objs.size
    rw [Heap.size_push]; exact Nat.lt_succ_self _
  · intro D C h tk m' ys news' F' N' o1 hn hC₀ hD₀ hCL hDL hCD offC fin
    refine ⟨m', hn, fun h'' hs'' => fin D h'' tk (F'.change hs'' hCL hC₀) (fun p hp => ?_) o1⟩
    refine ⟨hs''.extBut _ _ ?_ (N' p hp).1, (N' p hp).2⟩
    rcases List.mem_cons.mp hp with rfl | hp
    · exact Ne.symm hCD
    · exact offC p hp
end cb
end
section
section cc
variable {prog : Program} {w : World} {A : Around} {E : Value → Shared → Prop} {s : Shared} {h₀ : Heap} {L : Addr} {m : Str → Option Value} {env : Env}
abbrev noCell : Obj := { cls := .type "cell", data := .cell none }
end cc
end
section
section cr
variable {prog : Program} {w : World} {A : Around} {E : Value → Shared → Prop} {s : Shared} {h₀ : Heap} {L : Addr} {m : Str → Option Value} {env : Env}
/-- a list of made lists -/
def RowsL (P : Nat → List Value → Prop) (i : Nat) (ys : List Value) (rl : List (Addr × Obj)) : Prop :=
  ∃ rows : List (Addr × List Value), rl = rows.map (fun p => (p.1, LCg.lst p.2)) ∧ ys = rows.map (fun p => Value.ref p.1) ∧ rows.length = i ∧ ∀ k p, rows[k]? = some p → P k p.2
theorem RowsL.nil {P : Nat → List Value → Prop} : RowsL P 0 [] [] := ⟨[], rfl, rfl, rfl, fun k p h => by simp at h⟩
theorem RowsL.snoc {P : Nat → List Value → Prop} {i : Nat} {ys row : List Value} {rl : List (Addr × Obj)} {D : Addr} (h : RowsL P i ys rl) (hp : P i row) : RowsL P (i + 1) (ys ++ [.ref D]) (rl ++ [(D, LCg.lst row)]) := by
  obtain ⟨rows, rfl, rfl, hl, hr⟩ := h
  refine ⟨rows ++ [(D, row)], by simp, by simp, by simp [hl], fun k p hk => ?_⟩
  by_cases e : k < rows.length
  · rw [List.getElem?_append_left e] at hk
    exact hr k p hk
  · rw [List.getElem?_append_right (by omega)] at hk
    have e2 : k - rows.length = 0 := by
      cases hh : k - rows.length with
      | zero => rfl
      | succ j => rw [hh] at hk; simp at hk
    rw [e2] at hk
    simp only [List.getElem?_cons_zero, Option.some.injEq] at hk
    subst hk
    rw [show k = i by omega]
    exact hp
theorem RowsL.len {P : Nat → List Value → Prop} {i : Nat} {ys : List Value} {rl : List (Addr × Obj)} (h : RowsL P i ys rl) : ys.length = i := by
  obtain ⟨rows, rfl, rfl, hl, hr⟩ := h
  simpa using hl
theorem RowsL.get {P : Nat → List Value → Prop} {i k : Nat} {ys : List Value} {rl : List (Addr × Obj)} (h : RowsL P i ys rl) (hk : k < i) : ∃ D row, ys[k]? = some (.ref D) ∧ (D, LCg.lst row) ∈ rl ∧ P k row := by
  obtain ⟨rows, rfl, rfl, hl, hr⟩ := h
  have hk' : k < rows.length := by omega
  refine ⟨rows[k].1, rows[k].2, by simp [hk'], List.mem_map.mpr ⟨rows[k], List.getElem_mem hk', rfl⟩, hr k _ (by simp [hk'])⟩
end cr
end
section
section ix
variable {prog : Program} {w : World} {A : Around} {E : Value → Shared → Prop} {s : Shared} {h₀ h : Heap} {L D : Addr} {m : Str → Option Value} {news : List (Addr × Obj)} {vs : List Value} {ns : List Int} {n : Nat}
end ix
section ix2
variable {prog : Program} {w : World} {A : Around} {E : Value → Shared → Prop} {s : Shared} {h₀ : Heap} {L D : Addr} {news : List (Addr × Obj)} {vs : List Value} {bs : List Bool} {n : Nat}
end ix2
end
section
section ct
variable {prog : Program} {w : World} {A : Around} {h₀ : Heap} {L : Addr} {m : Str → Option Value} {env : Env} {ct elt : Expr} {x : Str} {scope : Scope} {cl : List (Str × Addr)} {s : Shared} {S : List (Addr × Obj) → Prop} {V : Nat → Value → Prop} {Fin : List Value → List (Addr × Obj) → Prop} {news : List (Addr × Obj)}
/-- a comprehension with a test, where nothing made stays but the list -/
theorem m_restT {n : Nat} (R : Nat → List Value → Prop) (h0 : R 0 [])
    (turn : ∀ i v I oI C oC D m₂ ys h tk (E' : Value → Shared → Prop), i < n → V i v → R i ys → LCg.NsObj oC m₂ → m₂ x = some v → Fr h₀ L h m → News h₀ L h ((I, oI) :: (C, oC) :: (D, LCg.lst ys) :: news) → LCg.Off3 I C D news → ((@Ne Nat I C) ∧ (@Ne Nat I D) ∧ (@Ne Nat C D)) →
      wpAny (model prog w) A (isTrue ct (compEnvC scope cl C env) (eval ct (compEnvC scope cl C env))) (fun ok s' => if ok = true then
        wpAny (model prog w) A (eval elt (compEnvC scope cl C env)) (LCg.CompEnd h₀ L m { s with heap := h, toks := tk } I oI C oC D (LCg.lst ys) S (fun y nw' => nw' = news ∧ R (i + 1) (ys ++ [y]))) E' s'
        else LCg.CompEnd h₀ L m { s with heap := h, toks := tk } I oI C oC D (LCg.lst ys) S (fun _ nw' => nw' = news ∧ R (i + 1) ys) Value.none s') E' { s with heap := h, toks := tk })
    (fin : ∀ ys, R n ys → Fin ys news) : LCt.CompRestT prog w A h₀ L m env ct elt x scope cl s S V Fin n 0 [] news := by
  have key : ∀ (j i : Nat) (ys : List Value), i + j = n → R i ys → LCt.CompRestT prog w A h₀ L m env ct elt x scope cl s S V Fin j i ys news := by
    intro j
    induction j with
    | zero =>
      intro i ys hi hj
      obtain rfl : i = n := by omega
      exact LCt.CompRestT.zero (fin ys hj)
    | succ j ih =>
      intro i ys hi hj
      refine LCt.CompRestT.succ ?_
      intro v I oI C oC D m₂ h tk E' hv hC hx F N off ne
      refine wpAny_mono (turn i v I oI C oC D m₂ ys h tk E' (by omega) hv hj hC hx F N off ne) (fun ok s₂ hq => ?_) fun _ _ e => e
      cases ok with
      | true =>
        rw [if_pos rfl] at hq ⊢
        refine wpAny_mono hq (fun y s₃ h3 => ?_) fun _ _ e => e
        obtain ⟨h', tk', nw', e, F', N', off', hS, rfl, hj'⟩ := h3
        exact ⟨h', tk', _, e, F', N', off', hS, ih (i + 1) _ (by omega) hj'⟩
      | false =>
        rw [if_neg (by decide)] at hq ⊢
        obtain ⟨h', tk', nw', e, F', N', off', hS, rfl, hj'⟩ := hq
        exact ⟨h', tk', _, e, F', N', off', hS, ih (i + 1) _ (by omega) hj'⟩
  exact key n 0 [] (by omega) h0
end ct
end
section
section sb
variable {prog : Program} {w : World} {A : Around} {E : Value → Shared → Prop} {s : Shared} {h₀ : Heap} {L D : Addr} {news : List (Addr × Obj)} {vs : List Value} {n : Nat} {k : Int} {u : Tok} {v : Value}
/-- an item of a made list -/
theorem m_sub {value slice : PySem.Expr} {Q : Value → Shared → Prop} (N : News h₀ L s.heap news) (hm : (D, listOf vs.toArray n) ∈ news) (hv : vs[k.toNat]? = some v) (h0 : 0 ≤ k) (hfit : k < 2 ^ 63) (h : Q v s)
    (hs : subscripted slice false (.ref D) (.int k u) = operate [.ref D, .int k u] (getItem (.ref D) (.int k u)) := by with_unfolding_all rfl) :
    wpAny (model prog w) A (subscriptTail value slice (.ref D) (.int k u)) Q E s :=
  tail_any (PySem.IsL.isList (n := n) (N _ hm).1).typeIs slot_list_getitem.lookup (wpAny_getItem_list (PySem.IsL.isList (n := n) (N _ hm).1) h0 hfit (by simpa using hv) h) hs
end sb
section eq2
variable {prog : Program} {w : World} {A : Around} {E : Value → Shared → Prop} {s : Shared} {a b x y x' y' : Addr} {v1 v2 u1 u2 : List Value} {k1 k2 l1 l2 : Nat} {ns ms : List Int} {Q : Value → Shared → Prop} {h₀ : Heap} {L : Addr} {news : List (Addr × Obj)}
end eq2
end
section
section sl
open PySem.Builtin.Str PySem.StrLaws
def seg {α : Type} (L : List α) (a b : Nat) : List α := (L.drop a).take (b - a)
theorem str_ext {x y : PySem.Str} (h : x.cps.toList = y.cps.toList) : x = y := by
  cases x; cases y
  congr 1
  exact Array.toList_inj.mp h
theorem len_list (x : PySem.Str) : x.cps.toList.length = x.length := by simp [PySem.Str.length]
theorem str_beq (x y : PySem.Str) : (x == y) = (x.cps.toList == y.cps.toList) := by
  by_cases h : x = y
  · subst h; simp
  · have h2 : ¬ x.cps.toList = y.cps.toList := fun e => h (str_ext e)
    rw [beq_eq_false_iff_ne.mpr h, beq_eq_false_iff_ne.mpr h2]
theorem ends_list (x y : PySem.Str) : Txt.endswith x y = (decide (y.cps.toList.length ≤ x.cps.toList.length) && x.cps.toList.drop (x.cps.toList.length - y.cps.toList.length) == y.cps.toList) := by
  unfold Txt.endswith
  rw [subAt_eq, len_list, len_list]
  by_cases h : y.length ≤ x.length
  · rw [List.take_of_length_le (by rw [List.length_drop, len_list]; omega)]
    simp [h]
  · simp [h]
theorem clip_nat (n i : Nat) : clipAt n (i : Int) = min i n := by
  have := clipAt_cast n (i : Int)
  rw [if_neg (by omega)] at this
  omega
theorem slice_to (x : PySem.Str) (s : Nat) : (Txt.slice x none (some (s : Int))).cps.toList = x.cps.toList.take s := by
  rw [slice_list]
  simp only [lowAt, highAt, Option.elim, clip_nat]
  rw [← len_list, List.drop_zero, Nat.sub_zero]
  by_cases h : s ≤ x.cps.toList.length
  · rw [Nat.min_eq_left h]
  · rw [Nat.min_eq_right (by omega), List.take_of_length_le (Nat.le_refl _), List.take_of_length_le (by omega)]
theorem seg_len {α : Type} (L : List α) (a b : Nat) : (seg L a b).length = min (b - a) (L.length - a) := by simp [seg]
theorem seg_map {α β : Type} (f : α → β) (L : List α) (a b : Nat) : seg (L.map f) a b = (seg L a b).map f := by simp [seg, List.map_drop, List.map_take]
theorem map_beq {α β : Type} [BEq α] [LawfulBEq α] [BEq β] [LawfulBEq β] (f : α → β) (l m : List α) (h : ∀ x ∈ l, ∀ y ∈ m, f x = f y → x = y) : (l.map f == m.map f) = (l == m) := by
  by_cases e : l = m
  · subst e; simp
  · have e2 : ¬ l.map f = m.map f := by
      intro e3
      apply e
      clear e
      induction l generalizing m with
      | nil => cases m with
        | nil => rfl
        | cons y m => simp at e3
      | cons x l ih => cases m with
        | nil => simp at e3
        | cons y m =>
          simp only [List.map_cons, List.cons.injEq] at e3
          rw [h x (List.mem_cons_self ..) y (List.mem_cons_self ..) e3.1, ih m (fun a ha b hb => h a (List.mem_cons_of_mem _ ha) b (List.mem_cons_of_mem _ hb)) e3.2]
    rw [beq_eq_false_iff_ne.mpr e, beq_eq_false_iff_ne.mpr e2]
theorem seg_mem {α : Type} {L : List α} {a b : Nat} {x : α} (h : x ∈ seg L a b) : x ∈ L := List.mem_of_mem_drop (List.mem_of_mem_take h)
end sl
end
section
section sg
variable {prog : Program} {w : World} {A : Around} {E : Value → Shared → Prop} {s : Shared} {a b : Addr} {Q : Value → Shared → Prop}
theorem m_ne0 (ha : s.heap.IsList a #[]) (hb : s.heap.IsList b #[]) (hu : A.units + 64 < cLine) (h : Q (.bool false) s) : wpAny (model prog w) A (compareOp .NotEq (.ref a) (.ref b)) Q E s :=
  ne_intsK (vs := []) (us := []) (ns := []) (ms := []) ha .nil hb .nil hu (by simpa using h)
theorem reads_of_strs {h : Heap} {a : Addr} {vs : List Value} {xs : List PySem.Str} (hl : h.IsList a vs.toArray) (hi : StrsAre vs xs) : Reads h (.ref a) (.list (xs.map PyData.str)) [a] := by
  obtain ⟨o, ho, hc, n, hd⟩ := hl
  exact Reads.list ho hc hd (by simpa using strs_readAll h hi)
theorem m_ne1 {x : PySem.Str} {t u : Tok} (hx : PyData.strOk x = true) (ha : s.heap.IsList a #[.str x t]) (hb : s.heap.IsList b #[.str x u]) (hu : A.units + 64 < cLine) (h : Q (.bool false) s) : wpAny (model prog w) A (compareOp .NotEq (.ref a) (.ref b)) Q E s := by
  have sh : PySem.SeqAt.shaped (.list [PyData.str x]) = true := by simp [PySem.SeqAt.shaped, PyData.canLay0, PyData.canLayAll0, PyData.depth, PyData.depthAll, hx]
  refine ne_dataH (reads_of_strs (vs := [.str x t]) (xs := [x]) ha (.cons _ _ .nil)) (reads_of_strs (vs := [.str x u]) (xs := [x]) hb (.cons _ _ .nil)) sh sh hu ?_
  have e : PyData.eqv (.list ([x].map PyData.str)) (.list ([x].map PyData.str)) = true := by simp [PyData.eqv, PyData.eqvAll]
  rw [e]
  exact h
theorem m_extend0 {h₀ : Heap} {L D : Addr} {m : Str → Option Value} {news news' : List (Addr × Obj)} {xs : List Value} {n kb : Nat} (F : Fr h₀ L s.heap m) (N : News h₀ L s.heap news) (hb : (b, listOf #[] kb) ∈ news) (U : Upd D (listOf xs.toArray n) (listOf xs.toArray n) news news') (hz : xs.length ≤ 16777216)
    (h : ∀ h', Fr h₀ L h' m → News h₀ L h' news' → Q .none { s with heap := h' }) : wpAny (model prog w) A (call (.builtin "list.extend") [.ref D, .ref b]) Q E s := by
  obtain ⟨pre, post, rfl, rfl, a, c⟩ := U.split
  have z := N (D, listOf xs.toArray n) (List.mem_append.mpr (.inr (.head _)))
  refine call_meets PySem.F.slot_list_extend ⟨_, z.1, rfl⟩ PySem.F.entry_list_extend (PySem.F.args_list_extend_2 _ _) (PySem.AutoSeq1.list_extend_list_list_0 D xs.toArray n b #[] kb (extend_door (by rw [sizeLine_eq]; simpa using hz)) (by rw [sizeLine_eq]; simpa using hz) (by rw [sizeLine_eq]; simp; omega)) ⟨z.1, (N _ hb).1, h _ (F.change (Heap.SameBut.update ..) z.2.1 z.2.2) (kl_turn0 _ N a c ?_ ?_)⟩
  · simp
  · rfl
end sg
end
local macro_rules | `(tactic| omega) => `(tactic| first | ((repeat (rename _ ≠ _ => zx9; clear zx9)); (repeat (rename _ ≠ _ ∧ _ => zx9; clear zx9)); (repeat (rename _ < _ ∧ _ => zx9; clear zx9)); omega (splitDisjunctions := true)) | omega (splitDisjunctions := true))
local macro_rules | `(tactic| kas_types) => `(tactic| ((rename _ ∧ _ => hx9); (have ha9 := hx9.1); (have hb9 := hx9.2); (clear hx9); first | exact ha9 | exact Ne.symm ha9 | exact hb9 | exact Ne.symm hb9 | exact Nat.ne_of_lt ha9 | exact Nat.ne_of_gt ha9 | exact Nat.ne_of_lt hb9 | exact Nat.ne_of_gt hb9 | ((clear ha9); kas_types)))
local macro_rules | `(tactic| k_ne) => `(tactic| ((refine neN ?_); (try dsimp only); first | assumption | exact Ne.symm (by assumption) | kas_types | omega))
section
def apL : Nat → List UInt8 → List UInt8
  | n, acc => if h : n = 0 then acc else apL (n / 16) (UInt8.ofNat (65 + n % 16) :: acc)
termination_by n => n
decreasing_by omega
theorem ap_lit : ∀ j : Fin 16, KBy.whole #[65, 66, 67, 68, 69, 70, 71, 72, 73, 74, 75, 76, 77, 78, 79, 80] (some ((j.val : Nat) : Int)) (some (((j.val : Nat) : Int) + 1)) = false ∧
    KBy.picked #[65, 66, 67, 68, 69, 70, 71, 72, 73, 74, 75, 76, 77, 78, 79, 80] (some ((j.val : Nat) : Int)) (some (((j.val : Nat) : Int) + 1)) = #[UInt8.ofNat (65 + j.val)] := by decide +kernel
theorem fmod16 (n : Nat) : (n : Int).fmod 16 = ((n % 16 : Nat) : Int) := by
  rw [Int.fmod_eq_emod_of_nonneg _ (by decide)]; omega
theorem fdiv16 (n : Nat) : (n : Int).fdiv 16 = ((n / 16 : Nat) : Int) := by
  rw [Int.fdiv_eq_ediv_of_nonneg _ (by decide)]; omega
theorem apL_step {n : Nat} (h : n ≠ 0) (acc : List UInt8) : apL n acc = apL (n / 16) (UInt8.ofNat (65 + n % 16) :: acc) := by
  rw [apL]; simp [h]
theorem apL_zero (acc : List UInt8) : apL 0 acc = acc := by rw [apL]; simp
theorem ap_size {c len n : Nat} (h : c ≠ 0) (h1 : c * 16 ^ len ≤ n) (h2 : n < 2 ^ 40) : len ≤ 10 := by
  have h3 : 16 ^ len < 16 ^ 10 := by
    have : 1 * 16 ^ len ≤ c * 16 ^ len := Nat.mul_le_mul_right _ (by omega)
    omega
  exact Nat.le_of_lt ((Nat.pow_lt_pow_iff_right (by decide)).mp h3)
theorem ap_mul (c len : Nat) : c / 16 * 16 ^ (len + 1) ≤ c * 16 ^ len := by
  rw [Nat.pow_succ, Nat.mul_comm (16 ^ len) 16, ← Nat.mul_assoc]
  exact Nat.mul_le_mul_right _ (Nat.div_mul_le_self c 16)
theorem c_ap (w : World) (mean : ExcName → Option Value) (mg mb : Str → Option Value) (n : Int) (t : Tok) (news : List (Addr × Obj)) :
    Cl 1 w mean mg mb 35 news (n.natAbs < 2 ^ 40) [.int n t] (fun t => .bytes (apL n.natAbs []).toArray t) := by
  unfold Cl
  intros
  rename_i hret
  refine wpAny_call ?_
  k_dflt cell_enter
  w_strict (repeat' ((fail_if_success first | (with_reducible show wpAny _ _ (exec (Stmt.While _ _ _ _) _) _ _ _) | (with_reducible show wpAny _ _ (subscriptTail _ _ _ _) _ _ _) | (with_reducible show wpAny _ _ (binaryOp _ (Value.bytes _ _) _) _ _ _) | (with_reducible show WEnd _ _ _ _ _ _ _ _ _ _ _)); first | (k_unfold; (try dsimp only)) | (k_end; kc_close) | walk1 | (dsimp only; walk1) | (leave1; walk_say "STEP leave1"; (try dsimp only)) | fail "no step"))
  rename Fr _ _ _ _ => F1
  rename News _ _ _ _ => N1
  refine' m_while (σ := Nat × List UInt8) (fun _ => news)
    (fun c => [("num", fun t => .int c.1 t), ("val", fun t => .bytes c.2.toArray t)]) ["mod"]
    (fun c => c.1 * 16 ^ c.2.length ≤ n.natAbs ∧ apL c.1 c.2 = apL n.natAbs []) (fun c => c.1) (n.natAbs, []) F1 N1 ?kk ?kp ?kt ?ko
  case kk =>
    have e : (if n < 0 then -n else n) = (n.natAbs : Int) := by split <;> omega
    refine ⟨⟨_, by rw [← e]; with_unfolding_all rfl⟩, ⟨_, by with_unfolding_all rfl⟩, trivial⟩
  case kp => exact ⟨by simp, rfl⟩
  case kt =>
    clear F1 N1
    intro c u tkf h tk hp Fc Nc
    w_strict (repeat' ((fail_if_success first | (with_reducible show wpAny _ _ (exec (Stmt.While _ _ _ _) _) _ _ _) | (with_reducible show wpAny _ _ (subscriptTail _ _ _ _) _ _ _) | (with_reducible show wpAny _ _ (binaryOp _ (Value.bytes _ _) _) _ _ _) | (with_reducible show WEnd _ _ _ _ _ _ _ _ _ _ _)); first | (k_unfold; (try dsimp only)) | (k_end; kc_close) | walk1 | (dsimp only; walk1) | (leave1; walk_say "STEP leave1"; (try dsimp only)) | fail "no step"))
    · rename Fr _ _ _ _ => F2
      rename News _ _ _ _ => N2
      rename (c.1 : Int) ≠ 0 => hc0
      have hl := ap_lit ⟨c.1 % 16, Nat.mod_lt _ (by decide)⟩
      dsimp only at hl
      rw [fmod16] at F2 ⊢
      rw [fdiv16] at F2
      refine KBy.slice_N (s := ⟨_, _, _, _, _⟩) F2 N2 (by constructor) (by constructor) ?w1 ?w2 ?w3
      case w1 => exact hl.1
      case w2 => rw [hl.2]; exact Nat.le_of_ble_eq_true rfl
      case w3 =>
        clear F2 N2
        rw [hl.2]
        intro h5 t5 k5 F5 N5
        w_strict (repeat' ((fail_if_success first | (with_reducible show wpAny _ _ (exec (Stmt.While _ _ _ _) _) _ _ _) | (with_reducible show wpAny _ _ (subscriptTail _ _ _ _) _ _ _) | (with_reducible show wpAny _ _ (binaryOp _ (Value.bytes _ _) _) _ _ _) | (with_reducible show WEnd _ _ _ _ _ _ _ _ _ _ _)); first | (k_unfold; (try dsimp only)) | (k_end; kc_close) | walk1 | (dsimp only; walk1) | (leave1; walk_say "STEP leave1"; (try dsimp only)) | fail "no step"))
        dsimp only
        refine KBy.add_bytes ?z1 ?z2
        case z1 =>
          rename n.natAbs < 2 ^ 40 => hn
          have := ap_size (by omega : c.1 ≠ 0) hp.1 hn
          simp only [List.size_toArray, List.length_singleton]
          omega
        case z2 =>
          intro t6 k6
          rw [show #[UInt8.ofNat (65 + c.1 % 16)] ++ c.2.toArray = (UInt8.ofNat (65 + c.1 % 16) :: c.2).toArray from by simp]
          w_strict (repeat' ((fail_if_success first | (with_reducible show wpAny _ _ (exec (Stmt.While _ _ _ _) _) _ _ _) | (with_reducible show wpAny _ _ (subscriptTail _ _ _ _) _ _ _) | (with_reducible show wpAny _ _ (binaryOp _ (Value.bytes _ _) _) _ _ _) | (with_reducible show WEnd _ _ _ _ _ _ _ _ _ _ _)); first | (k_unfold; (try dsimp only)) | (k_end; kc_close) | walk1 | (dsimp only; walk1) | (leave1; walk_say "STEP leave1"; (try dsimp only)) | fail "no step"))
          rename Fr _ _ _ _ => F6
          rename News _ _ _ _ => N6
          refine WEnd.intro (c.1 / 16, UInt8.ofNat (65 + c.1 % 16) :: c.2) F6 N6 (by intro p hp; kst_mem) ⟨⟨_, by with_unfolding_all rfl⟩, ⟨_, by with_unfolding_all rfl⟩, trivial⟩ ?kr ⟨?p1, ?p2⟩ ?km
          case kr =>
            intro z h2 h3
            have a1 := h2 _ (.head _)
            have a2 := h2 _ (.tail _ (.head _))
            simp only [List.contains_cons, List.contains_nil, Bool.or_false, beq_eq_false_iff_ne, ne_eq] at h3
            dsimp only at a1 a2
            simp [env9, tokd, kstB, a1, a2, h3]
          case p1 => exact Nat.le_trans (ap_mul _ _) hp.1
          case p2 => rw [← hp.2]; exact (apL_step (by omega) _).symm
          case km =>
            show c.1 / 16 < c.1
            omega
    · rename (c.1 : Int) = 0 => hc0
      have e : apL n.natAbs [] = c.2 := by
        rw [← hp.2, show c.1 = 0 by omega]; exact apL_zero _
      rw [← e]
      exact hret _ _ _ (by assumption) (by assumption)
  case ko => passes_own
end
local macro_rules | `(tactic| ksw_same) => `(tactic| (intro z h2 h3; (try simp only [List.forall_mem_cons, List.not_mem_nil, false_implies, implies_true, and_true, ne_eq] at h2); (try simp only [List.contains_cons, List.contains_nil, Bool.or_false, Bool.or_eq_false_iff, beq_eq_false_iff_ne, ne_eq] at h3); simp [env9, tokd, kstB, h2, h3]))
section
def ellAB (a b got : PySem.Str) : Bool := (decide (a.length = 0) || Txt.startswith got a) && (decide (b.length = 0) || Txt.endswith got b) && decide (a.length + b.length ≤ got.length)
theorem c_el (w : World) (mean : ExcName → Option Value) (mg mb : Str → Option Value) (want got a b : Str) (t1 t2 : Tok) (news : List (Addr × Obj)) :
    Cl 1 w mean mg mb 28 news (want.length ≤ 20 ∧ got.length ≤ 20 ∧ a.length ≤ 20 ∧ b.length ≤ 20 ∧ (Builtin.Str.occurrences want (Str.ofString "...") 0 want.length 1).isEmpty = false ∧ Txt.split want (Str.ofString "...") = [a, b]) [.str want t1, .str got t2] (fun _ => .bool (ellAB a b got)) := by
  unfold Cl
  intros
  rename_i hret
  refine wpAny_call ?_
  k_dflt cell_enter
  rename _ ∧ _ => hp
  obtain ⟨a1, a2, a5, a6, a3, a4⟩ := hp
  w_strict (repeat' ((fail_if_success first | (with_reducible show wpAny _ _ (call (Value.builtin "str.split") _) _ _ _) | (with_reducible show wpAny _ _ (call (Value.builtin "str.find") _) _ _ _) | (with_reducible show wpAny _ _ (pyIter _) _ _ _) | (with_reducible show wpAny _ _ (exec (Stmt.For _ _ _ _ _) _) _ _ _)); first | (k_unfold; (try dsimp only)) | (k_end; kc_close) | walk1 | (dsimp only; walk1) | (leave1; walk_say "STEP leave1"; (try dsimp only)) | fail "no step"))
  rename Fr _ _ _ _ => F1
  rename News _ _ _ _ => N1
  refine KSpl.split1 F1 N1 (by decide) ?_ (by rw [sizeLine_eq]; omega)
  clear F1 N1
  intro D l h5 k5 hl _ F5 N5 lt5
  rw [a4] at hl
  obtain ⟨w1, _, e1, e2⟩ := KSpl.cons_of hl
  obtain ⟨w2, _, e3, e4⟩ := KSpl.cons_of e2
  have e5 := KSpl.nil_of e4
  subst e5 e3 e1
  have N6 : News _ _ h5 ((D, listOf [Value.str a w1, Value.str b w2].toArray 0) :: news) := N5
  clear N5
  w_strict (repeat' ((fail_if_success first | (with_reducible show wpAny _ _ (call (Value.builtin "str.split") _) _ _ _) | (with_reducible show wpAny _ _ (call (Value.builtin "str.find") _) _ _ _) | (with_reducible show wpAny _ _ (pyIter _) _ _ _) | (with_reducible show wpAny _ _ (exec (Stmt.For _ _ _ _ _) _) _ _ _)); first | (k_unfold; (try dsimp only)) | (k_end; kc_close) | walk1 | (dsimp only; walk1) | (leave1; walk_say "STEP leave1"; (try dsimp only)) | fail "no step"))
  all_goals first
    | ((refine cb_retB hret ?ee (by assumption) ?nn); (case nn => first | assumption | (refine' cb_drop ?cbN ?cbS; (case cbN => assumption); (case cbS => kcj_all))); (case ee => (
      simp only [ellAB]
      first | rw [show Txt.startswith got a = true from by assumption] | rw [show Txt.startswith got a = false from by assumption] | skip
      first | rw [show Txt.endswith got b = true from by assumption] | rw [show Txt.endswith got b = false from by assumption] | skip
      first | rw [show decide (a.length = 0) = true from decide_eq_true (by omega)] | rw [show decide (a.length = 0) = false from decide_eq_false (by omega)] | skip
      first | rw [show decide (b.length = 0) = true from decide_eq_true (by omega)] | rw [show decide (b.length = 0) = false from decide_eq_false (by omega)] | skip
      first | rw [show decide (a.length + b.length ≤ got.length) = true from decide_eq_true (by omega)] | rw [show decide (a.length + b.length ≤ got.length) = false from decide_eq_false (by omega)] | skip
      simp)))
    | skip
  all_goals (
    rename Fr _ _ _ _ => F1
    refine For_invVF F1 (by exact rfl) (by exact rfl) ?_
    w_strict (repeat' ((fail_if_success first | (with_reducible show wpAny _ _ (call (Value.builtin "str.split") _) _ _ _) | (with_reducible show wpAny _ _ (call (Value.builtin "str.find") _) _ _ _) | (with_reducible show wpAny _ _ (pyIter _) _ _ _) | (with_reducible show wpAny _ _ (exec (Stmt.For _ _ _ _ _) _) _ _ _)); first | (k_unfold; (try dsimp only)) | (k_end; kc_close) | walk1 | (dsimp only; walk1) | (leave1; walk_say "STEP leave1"; (try dsimp only)) | fail "no step"))
    rename News _ _ _ _ => N1
    first
    | refine m_list (σ := Unit) (fun _ => _) (fun _ => [("startpos", fun t => .int (a.length : Int) t)]) [] (fun _ _ => True) () rfl (fun _ => by k_mem) F1 N1 ⟨⟨_, by with_unfolding_all rfl⟩, trivial⟩ trivial ?turn ?done
    | refine m_list (σ := Unit) (fun _ => _) (fun _ => [("startpos", fun t => .int 0 t)]) [] (fun _ _ => True) () rfl (fun _ => by k_mem) F1 N1 ⟨⟨_, by with_unfolding_all rfl⟩, trivial⟩ trivial ?turn ?done
    case turn =>
      clear F1 N1
      intro c i v u tkf h tk I oI hi hv off hp F3 N3
      have hm := List.mem_of_getElem? hv
      try simp only [List.mem_cons, List.not_mem_nil, or_false] at hm
      all_goals (
        first
        | (subst hm)
        | (rcases hm with hm | hm <;> subst hm)
        all_goals (
          w_strict (repeat' ((fail_if_success first | (with_reducible show wpAny _ _ (call (Value.builtin "str.split") _) _ _ _) | (with_reducible show wpAny _ _ (call (Value.builtin "str.find") _) _ _ _) | (with_reducible show wpAny _ _ (pyIter _) _ _ _) | (with_reducible show wpAny _ _ (exec (Stmt.For _ _ _ _ _) _) _ _ _)); first | (k_unfold; (try dsimp only)) | (k_end; kc_close) | walk1 | (dsimp only; walk1) | (leave1; walk_say "STEP leave1"; (try dsimp only)) | fail "no step"))
          refine call_find4 ?_
          rw [find4_emptyI (by omega) (by omega) (by omega) (by omega)]
          w_strict (repeat' ((fail_if_success first | (with_reducible show wpAny _ _ (call (Value.builtin "str.split") _) _ _ _) | (with_reducible show wpAny _ _ (call (Value.builtin "str.find") _) _ _ _) | (with_reducible show wpAny _ _ (pyIter _) _ _ _) | (with_reducible show wpAny _ _ (exec (Stmt.For _ _ _ _ _) _) _ _ _)); first | (k_unfold; (try dsimp only)) | (k_end; kc_close) | walk1 | (dsimp only; walk1) | (leave1; walk_say "STEP leave1"; (try dsimp only)) | fail "no step"))
          dsimp only [FPost]
          refine FEnd.intro () (by assumption) (by assumption) (by kcj_all) off ⟨held_int (by with_unfolding_all rfl) (by omega), trivial⟩ (by ksw_same) trivial))
    case done =>
      clear F1 N1
      intro c u tkf h tk _ F9 N9
      w_strict (repeat' ((fail_if_success first | (with_reducible show wpAny _ _ (call (Value.builtin "str.split") _) _ _ _) | (with_reducible show wpAny _ _ (call (Value.builtin "str.find") _) _ _ _) | (with_reducible show wpAny _ _ (pyIter _) _ _ _) | (with_reducible show wpAny _ _ (exec (Stmt.For _ _ _ _ _) _) _ _ _)); first | (k_unfold; (try dsimp only)) | (k_end; kc_close) | walk1 | (dsimp only; walk1) | (leave1; walk_say "STEP leave1"; (try dsimp only)) | fail "no step"))
      refine cb_retB hret ?ee (by assumption) ?nn
      case nn => first | assumption | (refine' cb_drop ?cbN ?cbS; (case cbN => assumption); (case cbS => kcj_all))
      (case ee => (
      simp only [ellAB]
      first | rw [show Txt.startswith got a = true from by assumption] | rw [show Txt.startswith got a = false from by assumption] | skip
      first | rw [show Txt.endswith got b = true from by assumption] | rw [show Txt.endswith got b = false from by assumption] | skip
      first | rw [show decide (a.length = 0) = true from decide_eq_true (by omega)] | rw [show decide (a.length = 0) = false from decide_eq_false (by omega)] | skip
      first | rw [show decide (b.length = 0) = true from decide_eq_true (by omega)] | rw [show decide (b.length = 0) = false from decide_eq_false (by omega)] | skip
      first | rw [show decide (a.length + b.length ≤ got.length) = true from decide_eq_true (by omega)] | rw [show decide (a.length + b.length ≤ got.length) = false from decide_eq_false (by omega)] | skip
      simp)))
end
section
section ef
open PySem.Builtin PySem.Builtin.Str PySem.StrLaws
theorem three_len (x : PySem.Str) : (dots ++ x ++ dots).length = x.length + 6 := by rw [PySem.Str.length_append, PySem.Str.length_append, dots_len]; omega
theorem three_list (x : PySem.Str) : (dots ++ x ++ dots).cps.toList = [46, 46, 46] ++ x.cps.toList ++ [46, 46, 46] := by
  rw [PySem.Str.cps_append, PySem.Str.cps_append, Array.toList_append, Array.toList_append, dots_list]
theorem three_at0 (x : PySem.Str) : At (dots ++ x ++ dots) dots (dots ++ x ++ dots).length 0 := by
  refine ⟨by rw [three_len, dots_len]; omega, ?_⟩
  rw [subAt_eq, three_list, dots_len, dots_list]
  simp
theorem occ_three {x : PySem.Str} (hx : DF x) (limit : Nat) (hl : 2 ≤ limit) : occurrences (dots ++ x ++ dots) dots 0 (dots ++ x ++ dots).length limit = [0, x.length + 3] := by
  have hlen := three_len x
  have hls := three_list x
  have hal := len_list x
  have hat0 := three_at0 x
  have hat1 : At (dots ++ x ++ dots) dots (dots ++ x ++ dots).length (x.length + 3) := by
    refine ⟨by rw [hlen, dots_len]; omega, ?_⟩
    rw [subAt_eq, hls, dots_len, dots_list, show x.length + 3 = ([46, 46, 46] ++ x.cps.toList).length by simp [← hal], List.drop_left]
    simp
  have hno : ∀ i, 3 ≤ i → i ≠ x.length + 3 → ¬ At (dots ++ x ++ dots) dots (dots ++ x ++ dots).length i := by
    intro i h0 h1 hc
    have h5 := hc.1
    rw [hlen, dots_len] at h5
    have hg := (at_dots hc).1
    rw [hls, List.append_assoc, List.getElem?_append_right (by simpa using h0), List.getElem?_append_left (by simp only [List.length_cons, List.length_nil]; omega)] at hg
    exact hx 46 (List.mem_of_getElem? hg) rfl
  rw [occ_eq]
  have er : List.range' 0 ((dots ++ x ++ dots).length + 1 - 0) = 0 :: (List.range' 1 (x.length + 2) ++ (x.length + 3) :: List.range' (x.length + 4) 3) := by
    rw [hlen, show x.length + 6 + 1 - 0 = (x.length + 2 + (3 + 1)) + 1 by omega, List.range'_succ, ← List.range'_append_1 (s := 0 + 1) (m := x.length + 2) (n := 3 + 1), List.range'_succ (s := 0 + 1 + (x.length + 2)) (n := 3)]
    rw [show 0 + 1 + (x.length + 2) = x.length + 3 by omega]
  have s1 : (forIn (List.range' 1 (x.length + 2)) ((#[] : Array Nat).push 0, 0 + dots.length) (occBody (dots ++ x ++ dots) dots (dots ++ x ++ dots).length limit)).run = ((#[] : Array Nat).push 0, 0 + dots.length) := by
    refine occ_skip _ _ _ _ _ _ fun i hi h2 => ?_
    have h3 := List.mem_range'_1.mp hi
    simp only [dots_len] at h2
    exact hno i (by omega) (by omega)
  have s2 : (forIn (List.range' (x.length + 4) 3) (((#[] : Array Nat).push 0).push (x.length + 3), x.length + 3 + dots.length) (occBody (dots ++ x ++ dots) dots (dots ++ x ++ dots).length limit)).run = (((#[] : Array Nat).push 0).push (x.length + 3), x.length + 3 + dots.length) := by
    refine occ_skip _ _ _ _ _ _ fun i hi h2 => ?_
    have h3 := List.mem_range'_1.mp hi
    exact hno i (by omega) (by omega)
  rw [er, occ_hit _ _ _ _ 0 _ (#[], 0) (show 0 < limit by omega) (Nat.le_refl _) hat0, forIn_app _ (occBody_yields _ _ _ _), s1, occ_hit _ _ _ _ _ _ _ (show 1 < limit by omega) (by simp only [dots_len]; omega) hat1, s2]
  simp
theorem split_three {x : PySem.Str} (hx : DF x) : Txt.split (dots ++ x ++ dots) dots = [PySem.Str.empty, x, PySem.Str.empty] := by
  have hlen := three_len x
  have hls := three_list x
  have hal := len_list x
  unfold Txt.split
  rw [if_neg (by rw [kind_dots, Bool.or_false, decide_eq_true_eq, hlen, dots_len]; omega), occ_three hx _ (by omega), if_neg (by simp), dots_len]
  have e1 : strSub (dots ++ x ++ dots) 0 0 = PySem.Str.empty := str_ext (by rw [strSub_toList]; simp [PySem.Str.empty])
  have e2 : strSub (dots ++ x ++ dots) 3 (x.length + 3) = x := str_ext (by
    rw [strSub_toList, hls, List.append_assoc, List.drop_left' (by rfl), show x.length + 3 - 3 = x.cps.toList.length by omega, List.take_left])
  have e3 : strSub (dots ++ x ++ dots) (x.length + 3 + 3) (dots ++ x ++ dots).length = PySem.Str.empty := str_ext (by
    rw [strSub_toList, hlen, show x.length + 6 - (x.length + 3 + 3) = 0 by omega, List.take_zero]; rfl)
  show [strSub (dots ++ x ++ dots) 0 0, strSub (dots ++ x ++ dots) (0 + 3) (x.length + 3), strSub (dots ++ x ++ dots) (x.length + 3 + 3) (dots ++ x ++ dots).length] = _
  rw [e1, e2, e3]
/-- a piece stands in a text -/
def occB (x got : PySem.Str) : Bool := !(occurrences got x 0 got.length 1).isEmpty
theorem from0 (n : Nat) : fromIndex n 0 = 0 := by simp [fromIndex]
theorem from_len (n : Nat) : fromIndex n (n : Int) = n := by
  unfold fromIndex
  split <;> omega
theorem find4_yes {x got : PySem.Str} (h : occB x got = true) : 0 ≤ find4 got x 0 (got.length : Int) ∧ find4 got x 0 (got.length : Int) + x.length ≤ got.length := by
  unfold find4
  rw [from0, from_len, Nat.min_self]
  unfold occB at h
  cases e : occurrences got x 0 got.length 1 with
  | nil => rw [e] at h; cases h
  | cons k r =>
    have := (occ_spec got x 0 got.length 1 k (by rw [e]; exact List.mem_cons_self ..)).1
    dsimp only
    omega
theorem find4_no {x got : PySem.Str} (h : occB x got = false) : find4 got x 0 (got.length : Int) = -1 := by
  unfold find4
  rw [from0, from_len, Nat.min_self]
  unfold occB at h
  cases e : occurrences got x 0 got.length 1 with
  | nil => rfl
  | cons k r => rw [e] at h; cases h
theorem el3_pre {x got : PySem.Str} (hx : DF x) (h1 : x.length ≤ 8) (hg : got.length ≤ 8) :
    (dots ++ x ++ dots).length ≤ 20 ∧ got.length ≤ 20 ∧ x.length ≤ 20 ∧ (Builtin.Str.occurrences (dots ++ x ++ dots) (Str.ofString "...") 0 (dots ++ x ++ dots).length 1).isEmpty = false ∧ Txt.split (dots ++ x ++ dots) (Str.ofString "...") = [PySem.Str.empty, x, PySem.Str.empty] := by
  refine ⟨by rw [three_len]; omega, by omega, by omega, ?_, split_three hx⟩
  show (Builtin.Str.occurrences (dots ++ x ++ dots) dots 0 (dots ++ x ++ dots).length 1).isEmpty = false
  have := (found_iff (dots ++ x ++ dots) dots).mpr ⟨0, (three_at0 x).1, (three_at0 x).2⟩
  simpa using this
end ef
end
section
theorem c_el3 (w : World) (mean : ExcName → Option Value) (mg mb : Str → Option Value) (want got x : Str) (t1 t2 : Tok) (news : List (Addr × Obj)) :
    Cl 1 w mean mg mb 28 news (want.length ≤ 20 ∧ got.length ≤ 20 ∧ x.length ≤ 20 ∧ (Builtin.Str.occurrences want (Str.ofString "...") 0 want.length 1).isEmpty = false ∧ Txt.split want (Str.ofString "...") = [PySem.Str.empty, x, PySem.Str.empty]) [.str want t1, .str got t2] (fun _ => .bool (occB x got)) := by
  unfold Cl
  intros
  rename_i hret
  refine wpAny_call ?_
  k_dflt cell_enter
  rename _ ∧ _ => hp
  obtain ⟨a1, a2, a5, a3, a4⟩ := hp
  have hempty : PySem.Str.empty.length = 0 := rfl
  w_strict (repeat' ((fail_if_success first | (with_reducible show wpAny _ _ (call (Value.builtin "str.split") _) _ _ _) | (with_reducible show wpAny _ _ (call (Value.builtin "str.find") _) _ _ _) | (with_reducible show wpAny _ _ (pyIter _) _ _ _) | (with_reducible show wpAny _ _ (exec (Stmt.For _ _ _ _ _) _) _ _ _)); first | (k_unfold; (try dsimp only)) | (k_end; kc_close) | walk1 | (dsimp only; walk1) | (leave1; walk_say "STEP leave1"; (try dsimp only)) | fail "no step"))
  rename Fr _ _ _ _ => F1
  rename News _ _ _ _ => N1
  refine KSpl.split1 F1 N1 (by decide) ?_ (by rw [sizeLine_eq]; omega)
  clear F1 N1
  intro D l h5 k5 hl _ F5 N5 lt5
  rw [a4] at hl
  obtain ⟨w1, _, e1, e2⟩ := KSpl.cons_of hl
  obtain ⟨w2, _, e3, e4⟩ := KSpl.cons_of e2
  obtain ⟨w3, _, e6, e7⟩ := KSpl.cons_of e4
  have e5 := KSpl.nil_of e7
  subst e5 e6 e3 e1
  have N6 : News _ _ h5 ((D, listOf [Value.str PySem.Str.empty w1, Value.str x w2, Value.str PySem.Str.empty w3].toArray 0) :: news) := N5
  clear N5
  w_strict (repeat' ((fail_if_success first | (with_reducible show wpAny _ _ (call (Value.builtin "str.split") _) _ _ _) | (with_reducible show wpAny _ _ (call (Value.builtin "str.find") _) _ _ _) | (with_reducible show wpAny _ _ (pyIter _) _ _ _) | (with_reducible show wpAny _ _ (exec (Stmt.For _ _ _ _ _) _) _ _ _)); first | (k_unfold; (try dsimp only)) | (k_end; kc_close) | walk1 | (dsimp only; walk1) | (leave1; walk_say "STEP leave1"; (try dsimp only)) | fail "no step"))
  rename Fr _ _ _ _ => F1
  refine For_invVF F1 (by exact rfl) (by exact rfl) ?_
  w_strict (repeat' ((fail_if_success first | (with_reducible show wpAny _ _ (call (Value.builtin "str.split") _) _ _ _) | (with_reducible show wpAny _ _ (call (Value.builtin "str.find") _) _ _ _) | (with_reducible show wpAny _ _ (pyIter _) _ _ _) | (with_reducible show wpAny _ _ (exec (Stmt.For _ _ _ _ _) _) _ _ _)); first | (k_unfold; (try dsimp only)) | (k_end; kc_close) | walk1 | (dsimp only; walk1) | (leave1; walk_say "STEP leave1"; (try dsimp only)) | fail "no step"))
  rename News _ _ _ _ => N1
  refine m_list (σ := Int) (fun _ => _) (fun c => [("startpos", fun t => .int c t)]) [] (fun i c => (i ≤ 1 → c = 0) ∧ (2 ≤ i → occB x got = true ∧ c = find4 got x 0 (got.length : Int) + x.length)) 0 rfl (fun _ => by k_mem) F1 N1 ⟨⟨_, by with_unfolding_all rfl⟩, trivial⟩ ⟨fun _ => rfl, fun h => by omega⟩ ?turn ?done
  case turn =>
    clear F1 N1
    intro c i v u tkf h tk I oI hi hv off hp F3 N3
    have h3 : i = 0 ∨ i = 1 ∨ i = 2 := by have : i < 3 := hi; omega
    rcases h3 with rfl | rfl | rfl
    · have hv' : v = Value.str PySem.Str.empty w1 := by simpa using hv.symm
      subst hv'
      obtain rfl : c = 0 := hp.1 (by omega)
      w_strict (repeat' ((fail_if_success first | (with_reducible show wpAny _ _ (call (Value.builtin "str.split") _) _ _ _) | (with_reducible show wpAny _ _ (call (Value.builtin "str.find") _) _ _ _) | (with_reducible show wpAny _ _ (pyIter _) _ _ _) | (with_reducible show wpAny _ _ (exec (Stmt.For _ _ _ _ _) _) _ _ _)); first | (k_unfold; (try dsimp only)) | (k_end; kc_close) | walk1 | (dsimp only; walk1) | (leave1; walk_say "STEP leave1"; (try dsimp only)) | fail "no step"))
      refine call_find4 ?_
      rw [find4_emptyI (by omega) (by omega) (by omega) (by omega)]
      w_strict (repeat' ((fail_if_success first | (with_reducible show wpAny _ _ (call (Value.builtin "str.split") _) _ _ _) | (with_reducible show wpAny _ _ (call (Value.builtin "str.find") _) _ _ _) | (with_reducible show wpAny _ _ (pyIter _) _ _ _) | (with_reducible show wpAny _ _ (exec (Stmt.For _ _ _ _ _) _) _ _ _)); first | (k_unfold; (try dsimp only)) | (k_end; kc_close) | walk1 | (dsimp only; walk1) | (leave1; walk_say "STEP leave1"; (try dsimp only)) | fail "no step"))
      dsimp only [FPost]
      refine FEnd.intro 0 (by assumption) (by assumption) (by kcj_all) off ⟨held_int (by with_unfolding_all rfl) (by omega), trivial⟩ (by ksw_same) ⟨fun _ => rfl, fun h => by omega⟩
    · have hv' : v = Value.str x w2 := by simpa using hv.symm
      subst hv'
      obtain rfl : c = 0 := hp.1 (by omega)
      w_strict (repeat' ((fail_if_success first | (with_reducible show wpAny _ _ (call (Value.builtin "str.split") _) _ _ _) | (with_reducible show wpAny _ _ (call (Value.builtin "str.find") _) _ _ _) | (with_reducible show wpAny _ _ (pyIter _) _ _ _) | (with_reducible show wpAny _ _ (exec (Stmt.For _ _ _ _ _) _) _ _ _)); first | (k_unfold; (try dsimp only)) | (k_end; kc_close) | walk1 | (dsimp only; walk1) | (leave1; walk_say "STEP leave1"; (try dsimp only)) | fail "no step"))
      refine call_find4 ?_
      cases ho : occB x got with
      | true =>
        obtain ⟨f1, f2⟩ := find4_yes ho
        w_strict (repeat' ((fail_if_success first | (with_reducible show wpAny _ _ (call (Value.builtin "str.split") _) _ _ _) | (with_reducible show wpAny _ _ (call (Value.builtin "str.find") _) _ _ _) | (with_reducible show wpAny _ _ (pyIter _) _ _ _) | (with_reducible show wpAny _ _ (exec (Stmt.For _ _ _ _ _) _) _ _ _)); first | (k_unfold; (try dsimp only)) | (k_end; kc_close) | walk1 | (dsimp only; walk1) | (leave1; walk_say "STEP leave1"; (try dsimp only)) | fail "no step"))
        dsimp only [FPost]
        refine FEnd.intro (find4 got x 0 (got.length : Int) + x.length) (by assumption) (by assumption) (by kcj_all) off ⟨held_int (by with_unfolding_all rfl) (by omega), trivial⟩ (by ksw_same) ⟨fun h => by omega, fun _ => ⟨by first | rfl | trivial | exact ho, rfl⟩⟩
      | false =>
        have f1 := find4_no ho
        w_strict (repeat' ((fail_if_success first | (with_reducible show wpAny _ _ (call (Value.builtin "str.split") _) _ _ _) | (with_reducible show wpAny _ _ (call (Value.builtin "str.find") _) _ _ _) | (with_reducible show wpAny _ _ (pyIter _) _ _ _) | (with_reducible show wpAny _ _ (exec (Stmt.For _ _ _ _ _) _) _ _ _)); first | (k_unfold; (try dsimp only)) | (k_end; kc_close) | walk1 | (dsimp only; walk1) | (leave1; walk_say "STEP leave1"; (try dsimp only)) | fail "no step"))
        dsimp only [FPost]
        w_strict (repeat' ((fail_if_success first | (with_reducible show wpAny _ _ (call (Value.builtin "str.split") _) _ _ _) | (with_reducible show wpAny _ _ (call (Value.builtin "str.find") _) _ _ _) | (with_reducible show wpAny _ _ (pyIter _) _ _ _) | (with_reducible show wpAny _ _ (exec (Stmt.For _ _ _ _ _) _) _ _ _)); first | (k_unfold; (try dsimp only)) | (k_end; kc_close) | walk1 | (dsimp only; walk1) | (leave1; walk_say "STEP leave1"; (try dsimp only)) | fail "no step"))
        refine cb_retB hret ho.symm (by assumption) (by first | assumption | (refine' cb_drop ?cbN ?cbS; (case cbN => assumption); (case cbS => kcj_all)))
    · have hv' : v = Value.str PySem.Str.empty w3 := by simpa using hv.symm
      subst hv'
      obtain ⟨ho, hc⟩ := hp.2 (by omega)
      obtain ⟨f1, f2⟩ := find4_yes ho
      w_strict (repeat' ((fail_if_success first | (with_reducible show wpAny _ _ (call (Value.builtin "str.split") _) _ _ _) | (with_reducible show wpAny _ _ (call (Value.builtin "str.find") _) _ _ _) | (with_reducible show wpAny _ _ (pyIter _) _ _ _) | (with_reducible show wpAny _ _ (exec (Stmt.For _ _ _ _ _) _) _ _ _)); first | (k_unfold; (try dsimp only)) | (k_end; kc_close) | walk1 | (dsimp only; walk1) | (leave1; walk_say "STEP leave1"; (try dsimp only)) | fail "no step"))
      refine call_find4 ?_
      rw [find4_emptyI (by omega) (by omega) (by omega) (by omega)]
      w_strict (repeat' ((fail_if_success first | (with_reducible show wpAny _ _ (call (Value.builtin "str.split") _) _ _ _) | (with_reducible show wpAny _ _ (call (Value.builtin "str.find") _) _ _ _) | (with_reducible show wpAny _ _ (pyIter _) _ _ _) | (with_reducible show wpAny _ _ (exec (Stmt.For _ _ _ _ _) _) _ _ _)); first | (k_unfold; (try dsimp only)) | (k_end; kc_close) | walk1 | (dsimp only; walk1) | (leave1; walk_say "STEP leave1"; (try dsimp only)) | fail "no step"))
      dsimp only [FPost]
      refine FEnd.intro c (by assumption) (by assumption) (by kcj_all) off ⟨held_int (by with_unfolding_all rfl) (by omega), trivial⟩ (by ksw_same) ⟨fun h => by omega, fun _ => ⟨ho, hc⟩⟩
  case done =>
    clear F1 N1
    intro c u tkf h tk hp F9 N9
    obtain ⟨ho, hc⟩ := hp.2 (by show 2 ≤ 3; omega)
    w_strict (repeat' ((fail_if_success first | (with_reducible show wpAny _ _ (call (Value.builtin "str.split") _) _ _ _) | (with_reducible show wpAny _ _ (call (Value.builtin "str.find") _) _ _ _) | (with_reducible show wpAny _ _ (pyIter _) _ _ _) | (with_reducible show wpAny _ _ (exec (Stmt.For _ _ _ _ _) _) _ _ _)); first | (k_unfold; (try dsimp only)) | (k_end; kc_close) | walk1 | (dsimp only; walk1) | (leave1; walk_say "STEP leave1"; (try dsimp only)) | fail "no step"))
    refine cb_retB hret ho.symm (by assumption) (by first | assumption | (refine' cb_drop ?cbN ?cbS; (case cbN => assumption); (case cbS => kcj_all)))
end
local macro_rules | `(tactic| walk_at "call type:range") => `(tactic| ((rename Fr _ _ _ _ => F'); (rename News _ _ _ _ => N'); first | (with_unfolding_all refine range1_rows F' N' ?_; intro _ _ _ _ _ _ _ _ _) | (with_unfolding_all refine range2_rows F' N' ?_; intro _ _ _ _ _ _ _ _ _)))
local macro_rules | `(tactic| k_all) => `(tactic| first | exact ne_of_all (by assumption) | exact ne_of_allLt (by assumption) | exact ne_of_off (by assumption) | ((fail_if_success (refine List.forall_mem_cons.mpr ?_)); (fail_if_success (exact List.forall_mem_nil _)); first | exact ne_of_allLt (by kas_types) | exact ne_of_off (by kas_types)))
section
/-- the figures -/
def drawnOf (ns : List Int) : List Int := (ns.take 6).map fun (x : Int) => x.fmod 45
def kindsOf (ns : List Int) : List Int := (drawnOf ns).map (fun (x : Int) => x.fmod 3) ++ [1, 2, 0, 1, 0].drop (ns.take 6).length
def movedOf (ns : List Int) : Int := ((drawnOf ns).map fun (x : Int) => x.fdiv 3).sum
def rowOf (ns : List Int) : List Int := (kindsOf ns).map fun k => 1 + (movedOf ns + 5 * k).fmod 15
theorem off1_of {D : Addr} : ∀ {l : List (Addr × Obj)}, LCg.Off1 D l → Off D l
  | [], _ => off_of fun _ h => nomatch h
  | p :: r, h => off_of fun q hq => by
    rcases List.mem_cons.mp hq with rfl | hq
    · exact h.1
    · exact Off.mem (off1_of h.2) q hq
theorem c_row (w : World) (mean : ExcName → Option Value) (mg mb : Str → Option Value) (l : Addr) (vs : List Value) (ns : List Int) (news : List (Addr × Obj)) :
    ∀ (dp un : Nat) (gd : Option (List Code)) (cn : Str) (cs : Scope) (a : Addr) (ccd : Value) (cl : List (Str × Addr)) (outer : List Env) (A₀ : Around) (base h₀ : Heap) (L : Addr) (m : Str → Option Value) (s : Shared) (Q E : Value → Shared → Prop),
    Below A₀ base outer h₀ → Fr h₀ L s.heap m → (hd.heap_39 w.params).In h₀ → News h₀ L s.heap news → Top hd.view_39 (looseW hd.view_39 []) mean mg mb h₀ → cs.kind = .function →
    (h₀.IsList l vs.toArray ∧ IntsAre vs ns ∧ ns.length ≤ 63) → dp + 1 < recursionLimit → un + 8 * 1 < cLine → (∀ (r : Value) (news' : List (Addr × Obj)) (h' : Heap) (tk' : Nat), Fr h₀ L h' m → News h₀ L h' news' → (∃ D ws k, r = .ref D ∧ news' = (D, listOf ws.toArray k) :: news ∧ IntsAre ws (rowOf ns) ∧ Off D news) → Q r { s with heap := h', toks := tk' }) →
      wpAny (model PySem.Challenge.rw_ty0005_02.row.prog w) (ktrTop dp un gd cn cs L a ccd cl outer) (call (.ref 40) [.ref l]) Q E s := by
  intros
  rename_i hret
  refine wpAny_call ?_
  k_dflt (refine' code_defC ?k1 ?k2 ?k3 ?k4 ?k5 ?kA ?kF ?kK ?k6 ?k7 ?k8 ?k9 ?kB ?kD ?_ ?c2 ?c3 ?c4; (case kA => exact rfl); (case kF => exact rfl); (case kK => assumption); (case k1 => k_asm); (case k2 => k_asm); (case k3 => k_asm); (case k4 => k_asm); (case k5 => k_asm); (case k6 => k_is); (case k7 => k_is); (case k8 => ktr_room); (case k9 => exact BindsTo.of_eq rfl); (case kB => exact rfl); (case kD => decide +kernel); (case c2 => exact rfl); (case c3 => exact rfl); (case c4 => exact rfl); k_whole; intro g' L' h' tk' cells' FG' F' N' Y' B' X' T' l1; (try k_lt l1); k_cells Y'; (try simp only [List.cons_append, List.nil_append] at N'); (try dsimp only); (try k_lift B'); (try k_fold))
  rename _ ∧ _ => hp
  obtain ⟨hl, hi, hlen⟩ := hp
  have l1' : ∀ p ∈ news, p.1 < L' + 1 := fun p hp => Nat.lt_succ_of_lt (l1 p hp)
  have hl' : Heap.IsList g' l vs.toArray := hl.at fun o e => FG'.keep l o e
  w_strict (repeat' ((fail_if_success first | (with_reducible show wpAny _ _ (call (Value.ref _) _) _ _ _) | (with_reducible show wpAny _ _ (call (Value.builtin "next") _) _ _ _) | (with_reducible show wpAny _ _ (call (Value.builtin "iter") _) _ _ _) | (with_reducible show wpAny _ _ (pyIter _) _ _ _) | (with_reducible show wpAny _ _ (exec (Stmt.While _ _ _ _) _) _ _ _) | (with_reducible show wpAny _ _ (binaryOp Operator.Add (Value.ref _) (Value.ref _)) _ _ _) | (with_reducible show wpAny _ _ (subscriptTail _ (Expr.Slice _ _ _ _) _ _) _ _ _) | (with_reducible show wpAny _ _ (call (Value.builtin "len") [Value.ref _]) _ _ _) | (with_reducible show wpAny _ _ (call (Value.builtin "sum") [Value.ref _]) _ _ _)); first | (k_unfold; (try dsimp only)) | (k_end; kc_close) | walk1 | (dsimp only; walk1) | (leave1; walk_say "STEP leave1"; (try dsimp only)) | fail "no step"))
  rename IntsAre _ (List.map _ (List.take _ _)) => e1
  rename IntsAre _ (List.map _ (List.map _ _)) => e2
  (rename News _ _ _ _ => N6)
  have hn7 : (ns.take 6).length ≤ 6 := List.length_take_le 6 ns
  refine KM.len_K N6 (by k_mem) (by exact e1.length) (by rw [List.length_map]; omega) ?_
  w_strict (repeat' ((fail_if_success first | (with_reducible show wpAny _ _ (call (Value.ref _) _) _ _ _) | (with_reducible show wpAny _ _ (call (Value.builtin "next") _) _ _ _) | (with_reducible show wpAny _ _ (call (Value.builtin "iter") _) _ _ _) | (with_reducible show wpAny _ _ (pyIter _) _ _ _) | (with_reducible show wpAny _ _ (exec (Stmt.While _ _ _ _) _) _ _ _) | (with_reducible show wpAny _ _ (binaryOp Operator.Add (Value.ref _) (Value.ref _)) _ _ _) | (with_reducible show wpAny _ _ (subscriptTail _ (Expr.Slice _ _ _ _) _ _) _ _ _) | (with_reducible show wpAny _ _ (call (Value.builtin "len") [Value.ref _]) _ _ _) | (with_reducible show wpAny _ _ (call (Value.builtin "sum") [Value.ref _]) _ _ _)); first | (k_unfold; (try dsimp only)) | (k_end; kc_close) | walk1 | (dsimp only; walk1) | (leave1; walk_say "STEP leave1"; (try dsimp only)) | fail "no step"))
  refine kba_turn (value' := PySem.Expr.Name (PySem.Str.ofString "_") ⟨0, 0, 0, 0⟩) (fun _ => rfl) ?_
  refine' kmk_slice_ints (ns := [1, 2, 0, 1, 0]) (by k_asm) (by k_asm) (News.isList (by k_asm) (by k_mem)) (IsPart.int _ _) IsPart.none (.cons _ _ (.cons _ _ (.cons _ _ (.cons _ _ (.cons _ _ .nil))))) (kmk_from (.cons _ _ (.cons _ _ (.cons _ _ (.cons _ _ (.cons _ _ .nil))))) (by omega)) rfl ?_ (by with_unfolding_all rfl) (by intro _; rfl) (by rw [sizeLine_eq]; exact Nat.le_of_ble_eq_true rfl)
  intro D6 ws6 h6 F7 N7 l7 e3 _ _
  k_lt l7
  have e3' := e3.length
  have e2' := e2.length
  refine m_addL F7 N7 (by k_mem) (by k_mem) (by rw [e2', e3', List.length_map, List.length_map, List.length_drop]; exact Nat.le_trans (Nat.add_le_add hn7 (Nat.sub_le _ _)) (by decide)) ?_
  intro D8 h8 F8 N8 l8
  k_lt l8
  have e4 := e2.append e3
  w_strict (repeat' ((fail_if_success first | (with_reducible show wpAny _ _ (call (Value.ref _) _) _ _ _) | (with_reducible show wpAny _ _ (call (Value.builtin "next") _) _ _ _) | (with_reducible show wpAny _ _ (call (Value.builtin "iter") _) _ _ _) | (with_reducible show wpAny _ _ (pyIter _) _ _ _) | (with_reducible show wpAny _ _ (exec (Stmt.While _ _ _ _) _) _ _ _) | (with_reducible show wpAny _ _ (binaryOp Operator.Add (Value.ref _) (Value.ref _)) _ _ _) | (with_reducible show wpAny _ _ (subscriptTail _ (Expr.Slice _ _ _ _) _ _) _ _ _) | (with_reducible show wpAny _ _ (call (Value.builtin "len") [Value.ref _]) _ _ _) | (with_reducible show wpAny _ _ (call (Value.builtin "sum") [Value.ref _]) _ _ _)); first | (k_unfold; (try dsimp only)) | (k_end; kc_close) | walk1 | (dsimp only; walk1) | (leave1; walk_say "STEP leave1"; (try dsimp only)) | fail "no step"))
  rename IntsAre _ (List.map _ (List.map _ _)) => e5
  refine LSm.sum_ints (by k_asm) (by k_asm) rfl (News.isList (by k_asm) (by k_mem)) e5 ?_
  intro h9 tk9 t9 F9 N9
  dsimp only
  w_strict (repeat' ((fail_if_success first | (with_reducible show wpAny _ _ (call (Value.ref _) _) _ _ _) | (with_reducible show wpAny _ _ (call (Value.builtin "next") _) _ _ _) | (with_reducible show wpAny _ _ (call (Value.builtin "iter") _) _ _ _) | (with_reducible show wpAny _ _ (pyIter _) _ _ _) | (with_reducible show wpAny _ _ (exec (Stmt.While _ _ _ _) _) _ _ _) | (with_reducible show wpAny _ _ (binaryOp Operator.Add (Value.ref _) (Value.ref _)) _ _ _) | (with_reducible show wpAny _ _ (subscriptTail _ (Expr.Slice _ _ _ _) _ _) _ _ _) | (with_reducible show wpAny _ _ (call (Value.builtin "len") [Value.ref _]) _ _ _) | (with_reducible show wpAny _ _ (call (Value.builtin "sum") [Value.ref _]) _ _ _)); first | (k_unfold; (try dsimp only)) | (k_end; kc_close) | walk1 | (dsimp only; walk1) | (leave1; walk_say "STEP leave1"; (try dsimp only)) | fail "no step"))
  rename IntsAre _ (List.map _ (_ ++ _)) => e9
  rename _ ∧ _ ∧ _ ∧ _ ∧ _ ∧ _ ∧ _ ∧ _ ∧ LCg.Off1 _ news => o9
  refine hret _ ((_, LCg.lst _) :: news) _ _ (by assumption) (by refine' cb_drop ?cbN ?cbS; (case cbN => assumption); (case cbS => kcj_all)) ⟨_, _, _, rfl, rfl, ?_, off1_of o9.2.2.2.2.2.2.2.2⟩
  simp only [List.map_map, List.length_map, Int.toNat_natCast] at e9
  simp only [rowOf, movedOf, kindsOf, drawnOf, List.map_map, List.map_append, Function.comp_def] at e9 ⊢
  exact e9
end
section
def numOf (fs : List Int) : Int := ((List.range fs.length).map fun k => fs.getD k 0 * 16 ^ (fs.length - 1 - k)).sum
theorem numOf_cons (f : Int) (r : List Int) : numOf (f :: r) = f * 16 ^ r.length + numOf r := by
  unfold numOf
  rw [List.length_cons, List.range_succ_eq_map, List.map_cons, List.sum_cons, List.map_map]
  congr 1
  congr 1
  refine List.map_congr_left fun k hk => ?_
  have := List.mem_range.mp hk
  simp only [Function.comp, List.getD_cons_succ]
  rw [show r.length + 1 - 1 - k.succ = r.length - 1 - k by omega]
theorem numOf_bd : ∀ {fs : List Int}, (∀ f ∈ fs, 0 ≤ f ∧ f ≤ 15) → 0 ≤ numOf fs ∧ numOf fs < 16 ^ fs.length
  | [], _ => by decide
  | f :: r, h => by
    have ih := numOf_bd (fs := r) fun g hg => h g (List.mem_cons_of_mem _ hg)
    have hf := h f (List.mem_cons_self ..)
    rw [numOf_cons, List.length_cons, Int.pow_succ]
    have hp : (0 : Int) ≤ 16 ^ r.length := Int.le_of_lt (Int.pow_pos (by decide))
    have h1 : 0 ≤ f * 16 ^ r.length := Int.mul_nonneg hf.1 hp
    have h2 : f * 16 ^ r.length ≤ 15 * 16 ^ r.length := Int.mul_le_mul_of_nonneg_right hf.2 hp
    omega
theorem pow7 {n : Nat} (h : n ≤ 7) : (16 : Int) ^ n ≤ 268435456 := by
  have : n = 0 ∨ n = 1 ∨ n = 2 ∨ n = 3 ∨ n = 4 ∨ n = 5 ∨ n = 6 ∨ n = 7 := by omega
  rcases this with rfl | rfl | rfl | rfl | rfl | rfl | rfl | rfl <;> decide
theorem numOf_nil : numOf [] = 0 := rfl
theorem numOf_snoc (r : List Int) (f : Int) : numOf (r ++ [f]) = 16 * numOf r + f := by
  induction r with
  | nil => rw [List.nil_append, numOf_cons, numOf_nil]; simp
  | cons a r ih =>
    rw [List.cons_append, numOf_cons, numOf_cons, ih, List.length_append, List.length_cons, List.length_nil, Int.pow_succ]
    generalize (16 : Int) ^ r.length = p
    rw [Int.mul_add, ← Int.mul_assoc a p 16, Int.mul_comm (a * p) 16]
    omega
def wordB (fs : List Int) : List UInt8 := fs.map fun f => UInt8.ofNat (65 + f.toNat)
theorem apL_num (acc : List UInt8) : ∀ (k : Nat) (fs : List Int), fs.length = k → (∀ f ∈ fs, 1 ≤ f ∧ f ≤ 15) → apL (numOf fs).natAbs acc = wordB fs ++ acc
  | 0, fs, hk, _ => by rw [List.eq_nil_of_length_eq_zero hk, numOf_nil]; exact apL_zero acc
  | k + 1, fs, hk, h => by
    have hne : fs ≠ [] := by intro e; rw [e] at hk; cases hk
    have e := (List.dropLast_concat_getLast hne).symm
    generalize fs.dropLast = r at e
    generalize fs.getLast hne = f at e
    subst e
    have hf := h f (by simp)
    have hr : ∀ g ∈ r, 1 ≤ g ∧ g ≤ 15 := fun g hg => h g (List.mem_append.mpr (.inl hg))
    have hb := numOf_bd (fs := r) fun g hg => by have := hr g hg; omega
    have hl : r.length = k := by simpa using hk
    rw [numOf_snoc, apL_step (by omega)]
    have e1 : (16 * numOf r + f).natAbs / 16 = (numOf r).natAbs := by omega
    have e2 : (16 * numOf r + f).natAbs % 16 = f.toNat := by omega
    rw [e1, e2, apL_num' r hl hr]
    simp [wordB]
where
  apL_num' {k : Nat} {f : Int} (r : List Int) (hl : r.length = k) (hr : ∀ g ∈ r, 1 ≤ g ∧ g ≤ 15) : apL (numOf r).natAbs (UInt8.ofNat (65 + f.toNat) :: acc) = wordB r ++ (UInt8.ofNat (65 + f.toNat) :: acc) := by
    exact apL_num _ k r hl hr
theorem word_ints {fs : List Int} (h : ∀ f ∈ fs, 0 ≤ f ∧ f ≤ 15) : KBw.bInts (wordB fs).toArray = fs.map (fun f => 65 + f) := by
  unfold KBw.bInts wordB
  rw [List.map_map]
  refine List.map_congr_left fun f hf => ?_
  have := h f hf
  have e : (UInt8.ofNat (65 + f.toNat)).toNat = 65 + f.toNat := by
    rw [UInt8.toNat_ofNat']
    omega
  simp only [Function.comp]
  rw [e]
  omega
theorem getD_bd {fs : List Int} {a b : Int} (h : ∀ f ∈ fs, a ≤ f ∧ f ≤ b) {k : Nat} (hk : k < fs.length) : a ≤ fs.getD k 0 ∧ fs.getD k 0 ≤ b := by
  rw [List.getD_eq_getElem?_getD, List.getElem?_eq_getElem hk]
  exact h _ (List.getElem_mem hk)
theorem in_word {fs : List Int} (h : ∀ f ∈ fs, 1 ≤ f ∧ f ≤ 15) : KBa.In (fs.map fun f => 65 + f) := fun x hx => by
  obtain ⟨f, hf, rfl⟩ := List.mem_map.mp hx
  have := h f hf
  omega
def chrOf (f : Int) : PySem.Str := ⟨#[(65 + f).toNat]⟩
theorem strs_turn {fs : List Int} {j : Nat} {c : UInt8} {t : Tok} {ys : List Value} (h : ∀ f ∈ fs, 1 ≤ f ∧ f ≤ 15) (hj : j < (wordB fs).toArray.size) (hc : (wordB fs).toArray[j]? = some c) (hR : StrsAre ys ((fs.take j).map chrOf)) :
    StrsAre (ys ++ [Value.str ⟨#[((c.toNat : Nat) : Int).toNat]⟩ t]) ((fs.take (j + 1)).map chrOf) := by
  have hj' : j < fs.length := by simpa [wordB] using hj
  have e : fs.take (j + 1) = fs.take j ++ [fs[j]] := List.take_succ_eq_append_getElem hj'
  rw [e, List.map_append]
  refine StrsAre.append' hR ?_
  have hb := h _ (List.getElem_mem hj')
  simp only [wordB, List.getElem?_toArray, List.getElem?_map, List.getElem?_eq_getElem hj', Option.map_some, Option.some.injEq] at hc
  have : ((c.toNat : Nat) : Int).toNat = (65 + fs[j]).toNat := by
    rw [← hc, UInt8.toNat_ofNat']
    omega
  rw [this]
  exact .cons _ _ .nil
def textOf (fs : List Int) : PySem.Str := ⟨(fs.map fun f => (65 + f).toNat).toArray⟩
theorem join_hok (fs : List Int) (h : fs.length ≤ 7) : ((fs.map chrOf).map (·.length)).sum + (fs.map chrOf).length * (PySem.Str.ofString "").length ≤ 16777216 := by
  have e : ∀ l : List Int, ((l.map chrOf).map (·.length)).sum = l.length := by
    intro l
    induction l with
    | nil => rfl
    | cons a r ih => rw [List.map_cons, List.map_cons, List.sum_cons, ih, List.length_cons]; simp only [chrOf, PySem.Str.length]; simp; omega
  rw [e, show (PySem.Str.ofString "").length = 0 from rfl]
  omega
theorem fold_chr : ∀ (r : List Int) (a : Array Nat), (r.map chrOf).foldl (fun acc p => acc ++ (PySem.Str.ofString "").cps ++ p.cps) a = a ++ (r.map fun f => (65 + f).toNat).toArray
  | [], a => by simp
  | f :: r, a => by
    rw [List.map_cons, List.foldl_cons, fold_chr r, List.map_cons, show (PySem.Str.ofString "").cps = #[] from rfl, Array.append_empty]
    apply Array.toList_inj.mp
    simp [chrOf]
theorem join_chr (fs : List Int) : Txt.join (PySem.Str.ofString "") (fs.map chrOf) = textOf fs := by
  cases fs with
  | nil => rfl
  | cons f r =>
    show PySem.Str.mk ((r.map chrOf).foldl (fun acc p => acc ++ (PySem.Str.ofString "").cps ++ p.cps) (chrOf f).cps) = _
    rw [fold_chr]
    unfold textOf
    congr 1
    apply Array.toList_inj.mp
    simp [chrOf]
theorem text_len (fs : List Int) : (textOf fs).length = fs.length := by simp [textOf, PySem.Str.length]
theorem bools_snoc {ys : List Value} {bs : List Bool} {b b' : Bool} (h : LSm.BoolsAre ys bs) (e : b = b') : LSm.BoolsAre (ys ++ [.bool b]) (bs ++ [b']) := e ▸ kbo_app h (.cons _ .nil)
theorem numOf_append (a b : List Int) : numOf (a ++ b) = numOf a * 16 ^ b.length + numOf b := by
  induction a with
  | nil => rw [List.nil_append, numOf_nil]; omega
  | cons x r ih =>
    rw [List.cons_append, numOf_cons, numOf_cons, ih, List.length_append, Int.pow_add, Int.add_mul, Int.mul_assoc]
    omega
theorem numOf_inj : ∀ {a b : List Int}, a.length = b.length → (∀ f ∈ a, 0 ≤ f ∧ f ≤ 15) → (∀ f ∈ b, 0 ≤ f ∧ f ≤ 15) → numOf a = numOf b → a = b
  | [], [], _, _, _, _ => rfl
  | [], _ :: _, h, _, _, _ => nomatch h
  | _ :: _, [], h, _, _, _ => nomatch h
  | x :: a, y :: b, h, ha, hb, e => by
    rw [numOf_cons, numOf_cons] at e
    have hl : a.length = b.length := by simpa using h
    have ba := numOf_bd (fs := a) fun f hf => ha f (List.mem_cons_of_mem _ hf)
    have bb := numOf_bd (fs := b) fun f hf => hb f (List.mem_cons_of_mem _ hf)
    rw [hl] at e ba
    have hp : (0 : Int) < 16 ^ b.length := Int.pow_pos (by decide)
    generalize (16 : Int) ^ b.length = p at *
    have hxy : x = y := by
      rcases Int.lt_trichotomy x y with h1 | h1 | h1
      · have : (x + 1) * p ≤ y * p := Int.mul_le_mul_of_nonneg_right (by omega) (by omega)
        rw [Int.add_mul] at this
        omega
      · exact h1
      · have : (y + 1) * p ≤ x * p := Int.mul_le_mul_of_nonneg_right (by omega) (by omega)
        rw [Int.add_mul] at this
        omega
    subst hxy
    rw [numOf_inj hl (fun f hf => ha f (List.mem_cons_of_mem _ hf)) (fun f hf => hb f (List.mem_cons_of_mem _ hf)) (by omega)]
theorem divmod_pow {q r p : Int} (h0 : 0 ≤ r) (h1 : r < p) : (q * p + r).fdiv p = q ∧ (q * p + r).fmod p = r := by
  have hp : 0 < p := by omega
  rw [Int.fdiv_eq_ediv_of_nonneg _ (by omega), Int.fmod_eq_emod_of_nonneg _ (by omega)]
  constructor
  · rw [Int.add_comm, Int.add_mul_ediv_right _ _ (by omega), Int.ediv_eq_zero_of_lt h0 h1]; omega
  · rw [Int.add_comm, Int.add_mul_emod_self_right]; exact Int.emod_eq_of_lt h0 h1
theorem num_hi {fs : List Int} (h : ∀ f ∈ fs, 0 ≤ f ∧ f ≤ 15) (m : Nat) : (numOf fs).fdiv (16 ^ (fs.length - m)) = numOf (fs.take m) := by
  have e := (List.take_append_drop m fs).symm
  have hd : ∀ f ∈ fs.drop m, 0 ≤ f ∧ f ≤ 15 := fun f hf => h f (List.mem_of_mem_drop hf)
  have b := numOf_bd hd
  have : numOf fs = numOf (fs.take m) * 16 ^ (fs.length - m) + numOf (fs.drop m) := by
    rw [← List.length_drop, ← numOf_append, List.take_append_drop]
  rw [this]
  rw [List.length_drop] at b
  exact (divmod_pow b.1 b.2).1
theorem num_lo {fs : List Int} (h : ∀ f ∈ fs, 0 ≤ f ∧ f ≤ 15) (m : Nat) : (numOf fs).fmod (16 ^ (fs.length - m)) = numOf (fs.drop m) := by
  have hd : ∀ f ∈ fs.drop m, 0 ≤ f ∧ f ≤ 15 := fun f hf => h f (List.mem_of_mem_drop hf)
  have b := numOf_bd hd
  have : numOf fs = numOf (fs.take m) * 16 ^ (fs.length - m) + numOf (fs.drop m) := by
    rw [← List.length_drop, ← numOf_append, List.take_append_drop]
  rw [this]
  rw [List.length_drop] at b
  exact (divmod_pow b.1 b.2).2
theorem num_seg {fs : List Int} (h : ∀ f ∈ fs, 0 ≤ f ∧ f ≤ 15) {b e : Nat} (hb : b ≤ e) (he : e ≤ fs.length) : ((numOf fs).fdiv (16 ^ (fs.length - e))).fmod (16 ^ (e - b)) = numOf (seg fs b e) := by
  rw [num_hi h e]
  have hl : (fs.take e).length = e := by rw [List.length_take]; omega
  have := num_lo (fs := fs.take e) (fun f hf => h f (List.mem_of_mem_take hf)) b
  rw [hl] at this
  rw [this]
  unfold seg
  rw [List.drop_take]
theorem num_beq {a b : List Int} (hl : a.length = b.length) (ha : ∀ f ∈ a, 0 ≤ f ∧ f ≤ 15) (hb : ∀ f ∈ b, 0 ≤ f ∧ f ≤ 15) : (numOf a == numOf b) = (a == b) := by
  by_cases e : a = b
  · subst e; simp
  · rw [beq_eq_false_iff_ne.mpr e, beq_eq_false_iff_ne.mpr fun x => e (numOf_inj hl ha hb x)]
theorem text_list (fs : List Int) : (textOf fs).cps.toList = fs.map fun f => (65 + f).toNat := by simp [textOf]
/-- a row of digits to the base 64 -/
def V64 : List Int → Int
  | [] => 0
  | x :: l => x * 64 ^ l.length + V64 l
theorem V64_bd : ∀ {l : List Int}, (∀ x ∈ l, 0 ≤ x ∧ x ≤ 63) → 0 ≤ V64 l ∧ V64 l < 64 ^ l.length
  | [], _ => by decide
  | x :: l, h => by
    have ih := V64_bd (l := l) fun y hy => h y (List.mem_cons_of_mem _ hy)
    have hx := h x (List.mem_cons_self ..)
    unfold V64
    rw [List.length_cons, Int.pow_succ]
    have hp : (0 : Int) < 64 ^ l.length := Int.pow_pos (by decide)
    generalize (64 : Int) ^ l.length = p at *
    have h1 : 0 ≤ x * p := Int.mul_nonneg hx.1 (by omega)
    have h2 : x * p ≤ 63 * p := Int.mul_le_mul_of_nonneg_right hx.2 (by omega)
    omega
theorem fold_V64 : ∀ (l : List Int) (v : Int), l.foldl (fun v c => v * 64 + c % 64) v = v * 64 ^ l.length + V64 (l.map (· % 64))
  | [], v => by simp [V64]
  | x :: l, v => by
    rw [List.foldl_cons, fold_V64 l, List.map_cons, V64, List.length_cons, List.length_map, Int.pow_succ]
    generalize (64 : Int) ^ l.length = p
    rw [Int.add_mul, Int.mul_assoc, Int.mul_comm 64 p]
    omega
end
section
theorem ints_at? {vs : List Value} {ns : List Int} (h : IntsAre vs ns) : ∀ {i : Nat} {v : Value}, vs[i]? = some v → ∃ t, v = .int (ns.getD i 0) t ∧ i < ns.length := by
  induction h with
  | nil => intro i v h; simp at h
  | cons a t _ ih =>
    intro i v h
    cases i with
    | zero => simp only [List.getElem?_cons_zero, Option.some.injEq] at h; exact ⟨t, h.symm, by simp⟩
    | succ i =>
      obtain ⟨u, e, hl⟩ := ih (i := i) (v := v) (by simpa using h)
      exact ⟨u, by simpa using e, by simpa using hl⟩
theorem take_getD {ns : List Int} {i : Nat} (h : i < ns.length) : ns.take (i + 1) = ns.take i ++ [ns.getD i 0] := by
  rw [List.take_succ_eq_append_getElem h, List.getD_eq_getElem?_getD, List.getElem?_eq_getElem h, Option.getD_some]
theorem num_take_bd {ns : List Int} (h : ∀ f ∈ ns, 1 ≤ f ∧ f ≤ 15) (hl : ns.length ≤ 6) (i : Nat) : 0 ≤ numOf (ns.take i) ∧ numOf (ns.take i) < 16777216 := by
  have a := numOf_bd (fs := ns.take i) fun f hf => by have := h f (List.mem_of_mem_take hf); omega
  have : (ns.take i).length ≤ 6 := by rw [List.length_take]; omega
  have b : (16 : Int) ^ (ns.take i).length ≤ 16 ^ 6 := by
    have := Nat.pow_le_pow_right (show 0 < 16 by decide) this
    exact_mod_cast this
  omega
theorem c_s16 (w : World) (mean : ExcName → Option Value) (mg mb : Str → Option Value) (l : Addr) (k : Nat) (vs : List Value) (ns : List Int) (news : List (Addr × Obj)) :
    Cl 1 w mean mg mb 47 news ((l, listOf vs.toArray k) ∈ news ∧ IntsAre vs ns ∧ ns.length ≤ 6 ∧ ∀ f ∈ ns, 1 ≤ f ∧ f ≤ 15) [.ref l] (fun t => .int (numOf ns) t) := by
  unfold Cl
  intros
  rename_i hret
  refine wpAny_call ?_
  k_dflt cell_enter
  rename _ ∧ _ => hp
  obtain ⟨hm, hi, hl6, hb⟩ := hp
  w_strict (repeat' ((fail_if_success first | (with_reducible show wpAny _ _ (call (Value.ref _) _) _ _ _) | (with_reducible show wpAny _ _ (call (Value.builtin "next") _) _ _ _) | (with_reducible show wpAny _ _ (call (Value.builtin "iter") _) _ _ _) | (with_reducible show wpAny _ _ (pyIter _) _ _ _) | (with_reducible show wpAny _ _ (exec (Stmt.While _ _ _ _) _) _ _ _)); first | (k_unfold; (try dsimp only)) | (k_end; kc_close) | walk1 | (dsimp only; walk1) | (leave1; walk_say "STEP leave1"; (try dsimp only)) | fail "no step"))
  rename Fr _ _ _ _ => F1
  refine For_invVF F1 (by exact rfl) (by exact rfl) ?_
  w_strict (repeat' ((fail_if_success first | (with_reducible show wpAny _ _ (call (Value.ref _) _) _ _ _) | (with_reducible show wpAny _ _ (call (Value.builtin "next") _) _ _ _) | (with_reducible show wpAny _ _ (call (Value.builtin "iter") _) _ _ _) | (with_reducible show wpAny _ _ (pyIter _) _ _ _) | (with_reducible show wpAny _ _ (exec (Stmt.While _ _ _ _) _) _ _ _)); first | (k_unfold; (try dsimp only)) | (k_end; kc_close) | walk1 | (dsimp only; walk1) | (leave1; walk_say "STEP leave1"; (try dsimp only)) | fail "no step"))
  rename News _ _ _ _ => N1
  refine m_list (σ := Int) (fun _ => _) (fun c => [("number", fun t => .int c t)]) [] (fun i c => c = numOf (ns.take i)) 0 rfl (fun _ => hm) F1 N1 ⟨⟨_, by with_unfolding_all rfl⟩, trivial⟩ (by simp [numOf_nil]) ?turn ?done
  case turn =>
    clear F1 N1
    intro c i v u tkf h tk I oI hi' hv off hp F3 N3
    obtain ⟨tv, e, hlt⟩ := ints_at? hi hv
    subst e
    have hbd := num_take_bd hb hl6 i
    rw [← hp] at hbd
    have hg := getD_bd hb hlt
    w_strict (repeat' ((fail_if_success first | (with_reducible show wpAny _ _ (call (Value.ref _) _) _ _ _) | (with_reducible show wpAny _ _ (call (Value.builtin "next") _) _ _ _) | (with_reducible show wpAny _ _ (call (Value.builtin "iter") _) _ _ _) | (with_reducible show wpAny _ _ (pyIter _) _ _ _) | (with_reducible show wpAny _ _ (exec (Stmt.While _ _ _ _) _) _ _ _)); first | (k_unfold; (try dsimp only)) | (k_end; kc_close) | walk1 | (dsimp only; walk1) | (leave1; walk_say "STEP leave1"; (try dsimp only)) | fail "no step"))
    dsimp only [FPost]
    refine FEnd.intro (16 * c + ns.getD i 0) (by assumption) (by assumption) (by kcj_all) off ⟨⟨_, by with_unfolding_all rfl⟩, trivial⟩ (by ksw_same) ?_
    rw [hp, take_getD hlt, numOf_snoc]
  case done =>
    clear F1 N1
    intro c u tkf h tk hp F9 N9
    have hp : c = numOf ns := by rw [hp, hi.length, List.take_length]
    subst hp
    w_strict (repeat' ((fail_if_success first | (with_reducible show wpAny _ _ (call (Value.ref _) _) _ _ _) | (with_reducible show wpAny _ _ (call (Value.builtin "next") _) _ _ _) | (with_reducible show wpAny _ _ (call (Value.builtin "iter") _) _ _ _) | (with_reducible show wpAny _ _ (pyIter _) _ _ _) | (with_reducible show wpAny _ _ (exec (Stmt.While _ _ _ _) _) _ _ _)); first | (k_unfold; (try dsimp only)) | (k_end; kc_close) | walk1 | (dsimp only; walk1) | (leave1; walk_say "STEP leave1"; (try dsimp only)) | fail "no step"))
    exact hret _ _ _ (by assumption) (by assumption)
end
section
/-- the total when j digits are eaten -/
def totAt (ns : List Int) (j : Nat) : Int := 46 + V64 ((ns.drop (ns.length - j)).map (· + 1)) * 64
def due64 (ns : List Int) : Int := 46 + V64 (ns.map (· + 1)) * 64
theorem num_step {ns : List Int} (h : ∀ f ∈ ns, 1 ≤ f ∧ f ≤ 15) {j : Nat} (hj : j < ns.length) : numOf (ns.take (ns.length - j)) = 16 * numOf (ns.take (ns.length - (j + 1))) + ns.getD (ns.length - (j + 1)) 0 := by
  rw [show ns.length - j = ns.length - (j + 1) + 1 by omega, take_getD (by omega), numOf_snoc]
theorem num_mod {ns : List Int} (h : ∀ f ∈ ns, 1 ≤ f ∧ f ≤ 15) {j : Nat} (hj : j < ns.length) : (numOf (ns.take (ns.length - j))).fmod 16 = ns.getD (ns.length - (j + 1)) 0 := by
  rw [num_step h hj, Int.fmod_eq_emod_of_nonneg _ (by decide)]
  have := getD_bd h (k := ns.length - (j + 1)) (by omega)
  omega
theorem num_div {ns : List Int} (h : ∀ f ∈ ns, 1 ≤ f ∧ f ≤ 15) {j : Nat} (hj : j < ns.length) : (numOf (ns.take (ns.length - j))).fdiv 16 = numOf (ns.take (ns.length - (j + 1))) := by
  rw [num_step h hj, Int.fdiv_eq_ediv_of_nonneg _ (by decide)]
  have := getD_bd h (k := ns.length - (j + 1)) (by omega)
  omega
theorem num_pos {ns : List Int} (h : ∀ f ∈ ns, 1 ≤ f ∧ f ≤ 15) {j : Nat} (hj : j < ns.length) : 0 < numOf (ns.take (ns.length - j)) := by
  rw [num_step h hj]
  have := getD_bd h (k := ns.length - (j + 1)) (by omega)
  have b := numOf_bd (fs := ns.take (ns.length - (j + 1))) fun f hf => by have := h f (List.mem_of_mem_take hf); omega
  omega
theorem tot_step {ns : List Int} (h : ∀ f ∈ ns, 1 ≤ f ∧ f ≤ 15) {j : Nat} (hj : j < ns.length) : totAt ns j + 64 ^ (j + 1) * ((numOf (ns.take (ns.length - j))).fmod 16 + 1) = totAt ns (j + 1) := by
  rw [num_mod h hj]
  unfold totAt
  have e : ns.drop (ns.length - (j + 1)) = ns.getD (ns.length - (j + 1)) 0 :: ns.drop (ns.length - j) := by
    rw [List.drop_eq_getElem_cons (show ns.length - (j + 1) < ns.length by omega), show ns.length - (j + 1) + 1 = ns.length - j by omega, List.getD_eq_getElem?_getD, List.getElem?_eq_getElem (show ns.length - (j + 1) < ns.length by omega), Option.getD_some]
  rw [e, List.map_cons, V64, List.length_map, List.length_drop, show ns.length - (ns.length - j) = j by omega, Int.add_mul, Int.pow_succ, Int.mul_assoc (ns.getD _ 0 + 1), Int.mul_comm (64 ^ j * 64) (ns.getD _ 0 + 1)]
  omega
theorem tot_bd {ns : List Int} (h : ∀ f ∈ ns, 1 ≤ f ∧ f ≤ 15) (hl : ns.length ≤ 6) (j : Nat) : 0 ≤ totAt ns j ∧ totAt ns j < 2 ^ 46 := by
  unfold totAt
  have b := V64_bd (l := (ns.drop (ns.length - j)).map (· + 1)) fun x hx => by
    obtain ⟨f, hf, rfl⟩ := List.mem_map.mp hx
    have := h f (List.mem_of_mem_drop hf)
    omega
  have : ((ns.drop (ns.length - j)).map (· + 1)).length ≤ 6 := by rw [List.length_map, List.length_drop]; omega
  have c : (64 : Int) ^ ((ns.drop (ns.length - j)).map (· + 1)).length ≤ 64 ^ 6 := by
    have := Nat.pow_le_pow_right (show 0 < 64 by decide) this
    exact_mod_cast this
  omega
theorem w64 {j : Nat} (h : j ≤ 6) : (0 : Int) < 64 ^ (j + 1) ∧ (64 : Int) ^ (j + 1) ≤ 4398046511104 := by
  have : j = 0 ∨ j = 1 ∨ j = 2 ∨ j = 3 ∨ j = 4 ∨ j = 5 ∨ j = 6 := by omega
  rcases this with rfl | rfl | rfl | rfl | rfl | rfl | rfl <;> decide
theorem c_s64 (w : World) (mean : ExcName → Option Value) (mg mb : Str → Option Value) (ns : List Int) (t : Tok) (news : List (Addr × Obj)) :
    Cl 1 w mean mg mb 54 news (ns.length ≤ 6 ∧ ∀ f ∈ ns, 1 ≤ f ∧ f ≤ 15) [.int (numOf ns) t] (fun t => .int (due64 ns) t) := by
  unfold Cl
  intros
  rename_i hret
  refine wpAny_call ?_
  k_dflt cell_enter
  rename _ ∧ _ => hp
  obtain ⟨hl6, hb⟩ := hp
  w_strict (repeat' ((fail_if_success first | (with_reducible show wpAny _ _ (call (Value.ref _) _) _ _ _) | (with_reducible show wpAny _ _ (call (Value.builtin "next") _) _ _ _) | (with_reducible show wpAny _ _ (call (Value.builtin "iter") _) _ _ _) | (with_reducible show wpAny _ _ (pyIter _) _ _ _) | (with_reducible show wpAny _ _ (exec (Stmt.While _ _ _ _) _) _ _ _)); first | (k_unfold; (try dsimp only)) | (k_end; kc_close) | walk1 | (dsimp only; walk1) | (leave1; walk_say "STEP leave1"; (try dsimp only)) | fail "no step"))
  rename Fr _ _ _ _ => F1
  rename News _ _ _ _ => N1
  refine' m_while (σ := Nat) (fun _ => _)
    (fun j => [("value", fun t => .int (numOf (ns.take (ns.length - j))) t), ("total", fun t => .int (totAt ns j) t), ("weight", fun t => .int (64 ^ (j + 1)) t)]) []
    (fun j => j ≤ ns.length) (fun j => ns.length - j) 0 F1 N1 ?kk ?kp ?kt ?ko
  case kk =>
    refine ⟨⟨_, by rw [Nat.sub_zero, List.take_length]; with_unfolding_all rfl⟩, ⟨_, by rw [show totAt ns 0 = 46 by simp [totAt, V64]]; with_unfolding_all rfl⟩, ⟨_, by with_unfolding_all rfl⟩, trivial⟩
  case kp => exact Nat.zero_le _
  case ko => passes_own
  case kt =>
    clear F1 N1
    intro j u tkf h tk hp Fc Nc
    have hw := w64 (j := j) (by omega)
    have ht := tot_bd hb hl6 j
    have hv := num_take_bd hb hl6 (ns.length - j)
    rcases Nat.lt_or_ge j ns.length with hj | hj
    · have hpos := num_pos hb hj
      have hm := num_mod hb hj
      have hd := num_div hb hj
      have hts := tot_step hb hj
      have hg := getD_bd hb (k := ns.length - (j + 1)) (by omega)
      rw [← hm] at hg
      w_strict (repeat' ((fail_if_success first | (with_reducible show wpAny _ _ (call (Value.ref _) _) _ _ _) | (with_reducible show wpAny _ _ (call (Value.builtin "next") _) _ _ _) | (with_reducible show wpAny _ _ (call (Value.builtin "iter") _) _ _ _) | (with_reducible show wpAny _ _ (pyIter _) _ _ _) | (with_reducible show wpAny _ _ (exec (Stmt.While _ _ _ _) _) _ _ _)); first | (k_unfold; (try dsimp only)) | (k_end; kc_close) | walk1 | (dsimp only; walk1) | (leave1; walk_say "STEP leave1"; (try dsimp only)) | fail "no step"))
      rename Fr _ _ _ _ => F5
      rename News _ _ _ _ => N5
      dsimp only [WPost]
      refine WEnd.intro (j + 1) F5 N5 (by kcj_all) ⟨⟨_, by with_unfolding_all exact congrArg (fun z => some (Value.int z _)) hd⟩, ⟨_, by with_unfolding_all exact congrArg (fun z => some (Value.int z _)) hts⟩, ⟨_, by with_unfolding_all exact congrArg (fun z => some (Value.int z _)) (show (64 : Int) * 64 ^ (j + 1) = 64 ^ (j + 1 + 1) by rw [Int.pow_succ (64 : Int) (j + 1), Int.mul_comm])⟩, trivial⟩ (by ksw_same) ?_ ?_
      all_goals omega
    · obtain rfl : j = ns.length := by omega
      have h0 : numOf (ns.take (ns.length - ns.length)) = 0 := by rw [Nat.sub_self, List.take_zero]; exact numOf_nil
      w_strict (repeat' ((fail_if_success first | (with_reducible show wpAny _ _ (call (Value.ref _) _) _ _ _) | (with_reducible show wpAny _ _ (call (Value.builtin "next") _) _ _ _) | (with_reducible show wpAny _ _ (call (Value.builtin "iter") _) _ _ _) | (with_reducible show wpAny _ _ (pyIter _) _ _ _) | (with_reducible show wpAny _ _ (exec (Stmt.While _ _ _ _) _) _ _ _)); first | (k_unfold; (try dsimp only)) | (k_end; kc_close) | walk1 | (dsimp only; walk1) | (leave1; walk_say "STEP leave1"; (try dsimp only)) | fail "no step"))
      rw [show totAt ns ns.length = due64 ns by simp [totAt, due64]]
      exact hret _ _ _ (by assumption) (by first | assumption | (refine' cb_drop ?cbN ?cbS; (case cbN => assumption); (case cbS => kcj_all)))
end
section
def vfold (xs : List Int) : Int := xs.foldl (fun v c => v * 64 + c % 64) 0
/-- the octets that a number takes: letters that go on, one that ends -/
structure Oct (vs : List Value) (i : Nat) (cs : List Int) (d : Int) : Prop where
  here : ∀ j, j < cs.length + 1 → ∃ t, vs[i + j]? = some (.int ((cs ++ [d]).getD j 0) t)
  goes : ∀ c ∈ cs, 64 ≤ c ∧ c < 128
  ends : 0 ≤ d ∧ d < 64
  short : cs.length ≤ 8
theorem Oct.nth {vs : List Value} {i : Nat} {cs : List Int} {d : Int} (h : Oct vs i cs d) {j : Nat} (hj : j < cs.length) : 64 ≤ (cs ++ [d]).getD j 0 ∧ (cs ++ [d]).getD j 0 < 128 := by
  rw [List.getD_eq_getElem?_getD, List.getElem?_append_left hj, List.getElem?_eq_getElem hj, Option.getD_some]
  exact h.goes _ (List.getElem_mem hj)
theorem Oct.last {vs : List Value} {i : Nat} {cs : List Int} {d : Int} (h : Oct vs i cs d) : (cs ++ [d]).getD cs.length 0 = d := by
  rw [List.getD_eq_getElem?_getD, List.getElem?_append_right (Nat.le_refl _), Nat.sub_self]; rfl
theorem Oct.byte {vs : List Value} {i : Nat} {cs : List Int} {d : Int} (h : Oct vs i cs d) {j : Nat} (hj : j < cs.length + 1) : 0 ≤ (cs ++ [d]).getD j 0 ∧ (cs ++ [d]).getD j 0 < 128 := by
  rcases Nat.lt_or_ge j cs.length with h1 | h1
  · have := h.nth h1; omega
  · have e : j = cs.length := by omega
    subst e
    rw [h.last]
    have := h.ends; omega
theorem vfold_one {vs : List Value} {i : Nat} {cs : List Int} {d : Int} (h : Oct vs i cs d) : Builtin.bitAnd ((cs ++ [d]).getD 0 0) 63 = vfold ((cs ++ [d]).take 1) := by
  rw [bitAnd_m6]
  cases cs with
  | nil => simp [vfold]
  | cons c r => simp [vfold]
theorem vfold_nonneg (xs : List Int) : 0 ≤ vfold xs := by
  unfold vfold
  have : ∀ (xs : List Int) (a : Int), 0 ≤ a → 0 ≤ xs.foldl (fun v c => v * 64 + c % 64) a := by
    intro xs
    induction xs with
    | nil => intro a h; exact h
    | cons c r ih => intro a h; exact ih _ (by have := Int.emod_nonneg c (show (64 : Int) ≠ 0 by decide); show 0 ≤ a * 64 + c % 64; omega)
  exact this xs 0 (by decide)
theorem vfold_snoc (xs : List Int) (c : Int) : vfold (xs ++ [c]) = vfold xs * 64 + c % 64 := by unfold vfold; rw [List.foldl_append]; rfl
theorem vfold_small {vs : List Value} {i : Nat} {cs : List Int} {d : Int} (h : Oct vs i cs d) {j : Nat} (hj : j ≤ 9) : vfold ((cs ++ [d]).take j) < 2 ^ 54 := by
  have go : ∀ (xs : List Int) (a : Int), 0 ≤ a → xs.foldl (fun v c => v * 64 + c % 64) a < (a + 1) * 64 ^ xs.length := by
    intro xs
    induction xs with
    | nil => intro a h; simp; omega
    | cons c r ih =>
      intro a h
      have h1 := Int.emod_nonneg c (show (64 : Int) ≠ 0 by decide)
      have h2 := Int.emod_lt_of_pos c (show (0 : Int) < 64 by decide)
      refine Int.lt_of_lt_of_le (ih (a * 64 + c % 64) (by omega)) ?_
      have h3 : (a * 64 + c % 64 + 1) * 64 ^ r.length ≤ ((a + 1) * 64) * 64 ^ r.length := Int.mul_le_mul_of_nonneg_right (by omega) (Int.pow_nonneg (by decide))
      rw [List.length_cons, Int.pow_succ, Int.mul_comm (64 ^ r.length) 64, ← Int.mul_assoc]
      exact h3
  have this : ∀ (xs : List Int), vfold xs < 64 ^ xs.length := fun xs => by
    have := go xs 0 (by decide)
    rw [Int.zero_add, Int.one_mul] at this
    exact this
  refine Int.lt_of_lt_of_le (this _) ?_
  have hl : ((cs ++ [d]).take j).length ≤ 9 := by rw [List.length_take]; omega
  have := Nat.pow_le_pow_right (show 0 < 64 by decide) hl
  have h2 : ((64 ^ ((cs ++ [d]).take j).length : Nat) : Int) ≤ ((64 ^ 9 : Nat) : Int) := Int.ofNat_le.mpr this
  simpa using h2
theorem vfold_next {vs : List Value} {i : Nat} {cs : List Int} {d : Int} (h : Oct vs i cs d) {j : Nat} (hj : j < cs.length + 1) : Builtin.bitOr (vfold ((cs ++ [d]).take j) * 64) (Builtin.bitAnd ((cs ++ [d]).getD j 0) 63) = vfold ((cs ++ [d]).take (j + 1)) := by
  rw [bitAnd_m6, bitOr_64 (vfold_nonneg _) (Int.emod_nonneg _ (by decide)) (Int.emod_lt_of_pos _ (by decide))]
  have hl : j < (cs ++ [d]).length := by simp; omega
  rw [List.take_add_one, List.getD_eq_getElem?_getD, List.getElem?_eq_getElem hl]
  exact (vfold_snoc _ _).symm
theorem oct_word {ns : List Int} {vs : List Value} {cs : List Int} {d : Int} (h : ∀ f ∈ ns, 1 ≤ f ∧ f ≤ 15) (hl : ns.length ≤ 6) (hv : vs = ((ns.map fun f => 65 + f) ++ [46]).map (fun x => Value.int x 0)) (hc : cs = ns.map fun f => 65 + f) (hd : d = 46) : Oct vs 0 cs d := by
  subst hv hc hd
  refine ⟨fun j hj => ⟨0, ?_⟩, fun c hc => ?_, by decide, by simp; omega⟩
  · rw [Nat.zero_add, List.getElem?_map, List.getD_eq_getElem?_getD, List.getElem?_eq_getElem (by simpa using hj)]
    rfl
  · obtain ⟨f, hf, rfl⟩ := List.mem_map.mp hc
    have := h f hf
    omega
theorem byte_word {ns : List Int} {b : Array UInt8} {cs : List Int} {d : Int} (h : ∀ f ∈ ns, 1 ≤ f ∧ f ≤ 15) (hb : b = (wordB ns ++ [46]).toArray) (hc : cs = ns.map fun f => 65 + f) (hd : d = 46) : ∀ j, j < cs.length + 1 → ∃ c : UInt8, b[j]? = some c ∧ (c.toNat : Int) = (cs ++ [d]).getD j 0 := by
  subst hb hc hd
  intro j hj
  have hw := word_ints (fs := ns) fun f hf => by have := h f hf; omega
  rw [List.length_map] at hj
  rw [List.getElem?_toArray]
  rcases Nat.lt_or_ge j ns.length with h1 | h1
  · have h2 : j < (wordB ns).length := by simpa [wordB] using h1
    refine ⟨(wordB ns)[j], by rw [List.getElem?_append_left h2, List.getElem?_eq_getElem h2], ?_⟩
    rw [← hw, List.getD_eq_getElem?_getD, List.getElem?_append_left (by simpa [KBw.bInts] using h2)]
    simp [KBw.bInts, h2]
  · obtain rfl : j = ns.length := by omega
    have h2 : (wordB ns).length = ns.length := by simp [wordB]
    refine ⟨46, by rw [List.getElem?_append_right (by omega), h2, Nat.sub_self]; rfl, ?_⟩
    rw [List.getD_eq_getElem?_getD, List.getElem?_append_right (by simp), List.length_map, Nat.sub_self]
    rfl
theorem vfold_due {ns : List Int} {cs : List Int} {d : Int} (h : ∀ f ∈ ns, 1 ≤ f ∧ f ≤ 15) (hc : cs = ns.map fun f => 65 + f) (hd : d = 46) : vfold (cs ++ [d]) = due64 ns := by
  subst hc hd
  rw [vfold_snoc]
  unfold vfold due64
  rw [fold_V64, List.map_map, Int.zero_mul, Int.zero_add, show (46 : Int) % 64 = 46 by decide]
  have : ns.map ((fun x => x % 64) ∘ fun f => 65 + f) = ns.map (· + 1) := List.map_congr_left fun f hf => by
    have := h f hf
    simp only [Function.comp]
    omega
  rw [this]
  omega
theorem c_vb (w : World) (mean : ExcName → Option Value) (mg mb : Str → Option Value) (it : Addr) (b : Array UInt8) (tb : Tok) (ns : List Int) (news : List (Addr × Obj)) :
    ClO 1 w mean mg mb 21 ((it, bitO b tb 0) :: news) (Off it news ∧ b = (wordB ns ++ [46]).toArray ∧ ns.length ≤ 6 ∧ ∀ f ∈ ns, 1 ≤ f ∧ f ≤ 15) [.ref it]
      (fun r n' => ∃ t, r = .int (due64 ns) t ∧ n' = news) := by
  unfold ClO
  intros
  rename_i hret
  refine wpAny_call ?_
  k_dflt cell_enter
  rename _ ∧ _ => hp
  obtain ⟨off, hbb, hl6, hns⟩ := hp
  obtain ⟨vs, hvs⟩ : ∃ vs : List Value, vs = ((ns.map fun f => 65 + f) ++ [46]).map (fun x => Value.int x 0) := ⟨_, rfl⟩
  obtain ⟨cs, hcs⟩ : ∃ cs : List Int, cs = ns.map fun f => 65 + f := ⟨_, rfl⟩
  obtain ⟨d, hd⟩ : ∃ d : Int, d = 46 := ⟨_, rfl⟩
  have ho : Oct vs 0 cs d := oct_word hns hl6 hvs hcs hd
  have hbt : ∀ j, j < cs.length + 1 → ∃ c : UInt8, b[j]? = some c ∧ (c.toNat : Int) = (cs ++ [d]).getD j 0 := byte_word hns hbb hcs hd
  w_strict (repeat' ((fail_if_success first | (with_reducible show wpAny _ _ (call (Value.ref _) _) _ _ _) | (with_reducible show wpAny _ _ (call (Value.builtin "next") _) _ _ _) | (with_reducible show wpAny _ _ (exec (Stmt.While _ _ _ _) _) _ _ _)); first | (k_unfold; (try dsimp only)) | (k_end; kc_close) | walk1 | (dsimp only; walk1) | (leave1; walk_say "STEP leave1"; (try dsimp only)) | fail "no step"))
  rename Fr _ _ _ _ => F1
  rename News _ _ _ _ => N1
  obtain ⟨c0, h0, g0⟩ := hbt 0 (by omega)
  refine m_next_bytes F1 N1 off h0 ?_
  clear F1 N1
  intro h1 tk1 tk2 F1 N1
  rw [g0]
  w_strict (repeat' ((fail_if_success first | (with_reducible show wpAny _ _ (call (Value.ref _) _) _ _ _) | (with_reducible show wpAny _ _ (call (Value.builtin "next") _) _ _ _) | (with_reducible show wpAny _ _ (exec (Stmt.While _ _ _ _) _) _ _ _)); first | (k_unfold; (try dsimp only)) | (k_end; kc_close) | walk1 | (dsimp only; walk1) | (leave1; walk_say "STEP leave1"; (try dsimp only)) | fail "no step"))
  rename Fr _ _ _ _ => F2
  rename News _ _ _ _ => N2
  refine m_while (σ := Nat) (fun j => (it, bitO b tb j) :: news) (fun j => [("b", fun t => .int ((cs ++ [d]).getD (j - 1) 0) t), ("val", fun t => .int (vfold ((cs ++ [d]).take j)) t)]) [] (fun j => 1 ≤ j ∧ j ≤ cs.length + 1) (fun j => cs.length + 1 - j) 1 F2 N2 ?kk ⟨by omega, by omega⟩ ?kt ?ko
  case kk =>
    exact ⟨⟨_, by with_unfolding_all rfl⟩, ⟨_, by with_unfolding_all exact congrArg (fun z => some (Value.int z _)) (vfold_one ho)⟩, trivial⟩
  case ko => passes_own
  case kt =>
    clear F2 N2
    intro j u tkf h tk hp Fc Nc
    have hs := ho.short
    have hb0 := vfold_nonneg ((cs ++ [d]).take j)
    have hb1 := vfold_small (j := j) ho (by omega)
    have hby := ho.byte (j := j - 1) (by omega)
    have hbit := bitAnd_64 hby.1 hby.2
    w_strict (repeat' ((fail_if_success first | (with_reducible show wpAny _ _ (call (Value.ref _) _) _ _ _) | (with_reducible show wpAny _ _ (call (Value.builtin "next") _) _ _ _) | (with_reducible show wpAny _ _ (exec (Stmt.While _ _ _ _) _) _ _ _)); first | (k_unfold; (try dsimp only)) | (k_end; kc_close) | walk1 | (dsimp only; walk1) | (leave1; walk_say "STEP leave1"; (try dsimp only)) | fail "no step"))
    · have hj : j ≤ cs.length := by
        rcases Nat.lt_or_ge cs.length j with h1 | h1
        · exfalso
          have e : j - 1 = cs.length := by omega
          rw [e, ho.last] at hbit
          have := ho.ends
          rw [if_neg (by omega)] at hbit
          rename Builtin.bitAnd ((cs ++ [d]).getD (j - 1) 0) 64 ≠ 0 => hne
          rw [e, ho.last] at hne
          exact hne hbit
        · exact h1
      rename Fr _ _ _ _ => F3
      rename News _ _ _ _ => N3
      obtain ⟨c3, h3, g3⟩ := hbt j (by omega)
      refine m_next_bytes F3 N3 off h3 ?_
      clear F3 N3
      intro h4 tk3 tk4 F3 N3
      rw [g3]
      w_strict (repeat' ((fail_if_success first | (with_reducible show wpAny _ _ (call (Value.ref _) _) _ _ _) | (with_reducible show wpAny _ _ (call (Value.builtin "next") _) _ _ _) | (with_reducible show wpAny _ _ (exec (Stmt.While _ _ _ _) _) _ _ _)); first | (k_unfold; (try dsimp only)) | (k_end; kc_close) | walk1 | (dsimp only; walk1) | (leave1; walk_say "STEP leave1"; (try dsimp only)) | fail "no step"))
      rename Fr _ _ _ _ => F5
      rename News _ _ _ _ => N5
      refine WEnd.intro (j + 1) F5 N5 (fun _ hp => hp) ⟨⟨_, by with_unfolding_all rfl⟩, ⟨_, by with_unfolding_all exact congrArg (fun z => some (Value.int z _)) (vfold_next (j := j) ho (by omega))⟩, trivial⟩ (by ksw_same) ⟨by omega, by omega⟩ (by omega)
    · have hj : j = cs.length + 1 := by
        rcases Nat.lt_or_ge cs.length j with h1 | h1
        · omega
        · exfalso
          have := ho.nth (j := j - 1) (by omega)
          rw [if_pos (by omega)] at hbit
          rename Builtin.bitAnd ((cs ++ [d]).getD (j - 1) 0) 64 = 0 => hne
          omega
      subst hj
      rw [show (cs ++ [d]).take (cs.length + 1) = cs ++ [d] from List.take_of_length_le (by simp)]
      rw [vfold_due hns hcs hd]
      exact hret _ _ _ _ (by assumption) (by refine' cb_drop ?cbN ?cbS; (case cbN => assumption); (case cbS => kcj_all)) ⟨_, rfl, rfl⟩
end
section
/-- what is read of a stretch and of the same turned round are one -/
def mirB (row : List Int) (b e : Nat) : Bool := due64 (seg row b e) == due64 (seg row b e).reverse
def mirRow (row : List Int) (b : Nat) : List Bool := List.replicate b false ++ (List.range (row.length + 1 - b)).map fun j => mirB row b (b + j)
/-- made lists, their rooms open -/
def RowsK (P : Nat → List Value → Prop) (i : Nat) (rows : List (Addr × List Value × Nat)) : Prop := rows.length = i ∧ ∀ k p, rows[k]? = some p → P k p.2.1
def ledK (rows : List (Addr × List Value × Nat)) : List (Addr × Obj) := rows.map fun p => (p.1, listOf p.2.1.toArray p.2.2)
def refsK (rows : List (Addr × List Value × Nat)) : List Value := rows.map fun p => Value.ref p.1
theorem RowsK.nil {P : Nat → List Value → Prop} : RowsK P 0 [] := ⟨rfl, fun k p h => by simp at h⟩
theorem RowsK.snoc {P : Nat → List Value → Prop} {i : Nat} {rows : List (Addr × List Value × Nat)} {D : Addr} {us : List Value} {k : Nat} (h : RowsK P i rows) (hp : P i us) : RowsK P (i + 1) (rows ++ [(D, us, k)]) := by
  obtain ⟨hl, hr⟩ := h
  refine ⟨by simp [hl], fun k p hk => ?_⟩
  by_cases e : k < rows.length
  · rw [List.getElem?_append_left e] at hk
    exact hr k p hk
  · rw [List.getElem?_append_right (by omega)] at hk
    have e2 : k - rows.length = 0 := by
      cases hh : k - rows.length with
      | zero => rfl
      | succ j => rw [hh] at hk; simp at hk
    rw [e2] at hk
    simp only [List.getElem?_cons_zero, Option.some.injEq] at hk
    subst hk
    rw [show k = i by omega]
    exact hp
theorem RowsK.get {P : Nat → List Value → Prop} {i k : Nat} {rows : List (Addr × List Value × Nat)} (h : RowsK P i rows) (hk : k < i) : ∃ D us c, (refsK rows)[k]? = some (.ref D) ∧ (D, listOf us.toArray c) ∈ ledK rows ∧ P k us := by
  obtain ⟨hl, hr⟩ := h
  have hk' : k < rows.length := by omega
  refine ⟨rows[k].1, rows[k].2.1, rows[k].2.2, by simp [refsK, hk'], List.mem_map.mpr ⟨rows[k], List.getElem_mem hk', rfl⟩, hr k _ (by simp [hk'])⟩
theorem refsK_snoc (rows : List (Addr × List Value × Nat)) (p : Addr × List Value × Nat) : refsK (rows ++ [p]) = refsK rows ++ [Value.ref p.1] := by simp [refsK]
theorem ledK_snoc (rows : List (Addr × List Value × Nat)) (p : Addr × List Value × Nat) : ledK (rows ++ [p]) = ledK rows ++ [(p.1, listOf p.2.1.toArray p.2.2)] := by simp [ledK]
theorem refsK_len (rows : List (Addr × List Value × Nat)) : (refsK rows).length = rows.length := by simp [refsK]
theorem seg_rev {α : Type} (L : List α) {b e : Nat} (hb : b ≤ e) (he : e ≤ L.length) : seg L.reverse (L.length - e) (L.length - b) = (seg L b e).reverse := by
  unfold seg
  rw [List.drop_reverse, List.take_reverse, show L.length - (L.length - e) = e by omega, List.length_take, Nat.min_eq_left he, show e - (L.length - b - (L.length - e)) = b by omega, List.drop_take]
theorem seg_bd {row : List Int} {a c : Int} (h : ∀ f ∈ row, a ≤ f ∧ f ≤ c) (b e : Nat) : ∀ f ∈ seg row b e, a ≤ f ∧ f ≤ c := fun f hf => h f (seg_mem hf)
theorem rev_bd {row : List Int} {a c : Int} (h : ∀ f ∈ row, a ≤ f ∧ f ≤ c) : ∀ f ∈ row.reverse, a ≤ f ∧ f ≤ c := fun f hf => h f (List.mem_reverse.mp hf)
theorem num_forth {row : List Int} (h : ∀ f ∈ row, 1 ≤ f ∧ f ≤ 15) {b e : Nat} (hb : b ≤ e) (he : e ≤ row.length) : ((numOf row).fdiv (16 ^ (row.length - e))).fmod (16 ^ (e - b)) = numOf (seg row b e) :=
  num_seg (fun f hf => by have := h f hf; omega) hb he
theorem num_back {row : List Int} (h : ∀ f ∈ row, 1 ≤ f ∧ f ≤ 15) {b e : Nat} (hb : b ≤ e) (he : e ≤ row.length) : ((numOf row.reverse).fdiv (16 ^ b)).fmod (16 ^ (e - b)) = numOf (seg row b e).reverse := by
  have := num_seg (fs := row.reverse) (fun f hf => by have := h f (List.mem_reverse.mp hf); omega) (b := row.length - e) (e := row.length - b) (by omega) (by rw [List.length_reverse]; omega)
  rw [List.length_reverse, seg_rev row hb he, show row.length - (row.length - b) = b by omega, show row.length - b - (row.length - e) = e - b by omega] at this
  exact this
theorem ap_word {ns : List Int} (h : ∀ f ∈ ns, 1 ≤ f ∧ f ≤ 15) : apL (numOf ns).natAbs [] = wordB ns := by rw [apL_num [] _ ns rfl h, List.append_nil]
theorem word_len (ns : List Int) : (wordB ns).length = ns.length := by simp [wordB]
theorem seg_len6 {row : List Int} (h : row.length ≤ 6) (b e : Nat) : (seg row b e).length ≤ 6 := by rw [seg_len]; omega
theorem p16_pos (k : Nat) : (0 : Int) < 16 ^ k := Int.pow_pos (by decide)
theorem p16_ne (k : Nat) : (16 : Int) ^ k ≠ 0 := Int.ne_of_gt (p16_pos k)
theorem p16_py {x n : Int} (h : n < 2000) : Builtin.divisionGoesByPylong x (16 ^ n.toNat) = false := by
  refine PyProof.noPylong_of_log2 ?_
  have e : ((16 : Int) ^ n.toNat).natAbs = 2 ^ (4 * n.toNat) := by
    rw [Int.natAbs_pow, Nat.pow_mul]; rfl
  rw [e]
  refine (Nat.log2_lt (Nat.ne_of_gt (Nat.two_pow_pos _))).mpr ?_
  exact Nat.pow_lt_pow_right (by decide) (by omega)
theorem flat_rep {α : Type} (i : Nat) (x : α) : (List.replicate i [x]).flatten = List.replicate i x := by
  induction i with
  | zero => rfl
  | succ i ih => rw [List.replicate_succ, List.flatten_cons, ih, List.replicate_succ]; rfl
theorem num_bd6 {ns : List Int} (h : ∀ f ∈ ns, 1 ≤ f ∧ f ≤ 15) (hl : ns.length ≤ 6) : 0 ≤ numOf ns ∧ numOf ns < 16777216 := by
  have := num_take_bd h hl ns.length
  rwa [List.take_length] at this
theorem bints_inj {x y : Array UInt8} (h : KBw.bInts x = KBw.bInts y) : x = y := by
  unfold KBw.bInts at h
  apply Array.toList_inj.mp
  have key : ∀ (l m : List UInt8), l.map (fun c => (c.toNat : Int)) = m.map (fun c => (c.toNat : Int)) → l = m := by
    intro l
    induction l with
    | nil =>
      intro m hm
      cases m with
      | nil => rfl
      | cons b m => simp at hm
    | cons a l ih =>
      intro m hm
      cases m with
      | nil => simp at hm
      | cons b m =>
        simp only [List.map_cons, List.cons.injEq] at hm
        rw [ih m hm.2, UInt8.toNat_inj.mp (Int.ofNat_inj.mp hm.1)]
  exact key _ _ h
theorem word_pick {row : List Int} (h : ∀ f ∈ row, 1 ≤ f ∧ f ≤ 15) {b e : Nat} (hb : b ≤ e) (he : e ≤ row.length) {p : Array UInt8} {x y : Int} (hx : x = (b : Int)) (hy : y = (e : Int))
    (hp : KBw.bInts p = ((row.map fun f => 65 + f).drop (clipAt row.length x)).take (clipAt row.length y - clipAt row.length x)) : p = (wordB (seg row b e)).toArray := by
  subst hx hy
  refine bints_inj ?_
  rw [hp, word_ints fun f hf => by have := h f (seg_mem hf); omega, clip_nat, clip_nat, Nat.min_eq_left he, Nat.min_eq_left (Nat.le_trans hb he), ← seg_map]
  rfl
theorem sub_rowsK {a t q l : Addr × Obj} {X : List (Addr × Obj)} : ∀ p ∈ a :: t :: (X ++ [q]), p ∈ q :: l :: a :: t :: X := fun p hp => by
  simp only [List.mem_cons, List.mem_append, List.not_mem_nil, or_false] at hp ⊢
  rcases hp with h | h | h | h
  · exact .inr (.inr (.inl h))
  · exact .inr (.inr (.inr (.inl h)))
  · exact .inr (.inr (.inr (.inr h)))
  · exact .inl h
theorem off_snoc {I : Addr} {X : List (Addr × Obj)} {q : Addr × Obj} (h : Off I X) (hq : q.1 ≠ I) : Off I (X ++ [q]) := Off.app h (off_of fun p hp => by rw [List.mem_singleton.mp hp]; exact hq)
end
local macro_rules | `(tactic| walk_at "binaryOp FloorDiv int int") => `(tactic| ((with_reducible show wpAny _ _ (binaryOp _ (Value.int _ _) (Value.int (16 ^ (Int.toNat _)) _)) _ _ _); (refine floordiv_int (p16_ne _) ?_ (Or.inl (p16_py ?kbp))); (case kbp => omega)))
local macro_rules | `(tactic| walk_at "binaryOp Mod int int") => `(tactic| ((with_reducible show wpAny _ _ (binaryOp _ (Value.int _ _) (Value.int (16 ^ (Int.toNat _)) _)) _ _ _); (refine mod_int' (p16_ne _) ?_)))
section
theorem c_mir (w : World) (mean : ExcName → Option Value) (mg mb : Str → Option Value) (row : List Int) (t1 t2 t3 : Tok) (news : List (Addr × Obj)) :
    ClO 10 w mean mg mb 61 news (5 ≤ row.length ∧ row.length ≤ 6 ∧ ∀ f ∈ row, 1 ≤ f ∧ f ≤ 15) [.int (numOf row) t1, .int (numOf row.reverse) t2, .bytes (wordB row).toArray t3]
      (fun r n' => ∃ T rows k, r = .ref T ∧ n' = (T, listOf (refsK rows).toArray k) :: (news ++ ledK rows) ∧ RowsK (fun b us => LSm.BoolsAre us (mirRow row b)) row.length rows ∧ Off T (news ++ ledK rows) ∧ ∀ q ∈ news, Off q.1 (ledK rows)) := by
  unfold ClO
  intros
  rename_i hret
  refine wpAny_call ?_
  k_dflt cell_enter
  rename _ ∧ _ => hp
  obtain ⟨hl5, hl6, hb⟩ := hp
  have hwl : (wordB row).toArray.size = row.length := by simp [wordB]
  have hn1 := numOf_bd (fs := row) fun f hf => by have := hb f hf; omega
  have hn2 := numOf_bd (fs := row.reverse) fun f hf => by have := hb f (List.mem_reverse.mp hf); omega
  have hp7 := pow7 (n := row.length) (by omega)
  rw [List.length_reverse] at hn2
  w_strict (repeat' ((fail_if_success first | (with_reducible show wpAny _ _ (call (Value.ref _) _) _ _ _) | (with_reducible show wpAny _ _ (call (Value.builtin "next") _) _ _ _) | (with_reducible show wpAny _ _ (call (Value.builtin "iter") _) _ _ _) | (with_reducible show wpAny _ _ (pyIter _) _ _ _) | (with_reducible show wpAny _ _ (exec (Stmt.While _ _ _ _) _) _ _ _) | (with_reducible show wpAny _ _ (call (Value.builtin "list.append") _) _ _ _) | (with_reducible show wpAny _ _ (binaryOp Operator.Mult (Value.ref _) _) _ _ _)); first | (k_unfold; (try dsimp only)) | (k_end; kc_close) | walk1 | (dsimp only; walk1) | (leave1; walk_say "STEP leave1"; (try dsimp only)) | fail "no step"))
  rename Fr _ _ _ _ => F1
  rename News _ _ _ _ => N1
  rename IsRange _ _ _ _ _ _ _ _ => R1
  rename ∀ p ∈ news, p.1 < _ => l1
  have off0 := off_lt l1
  refine m_range (σ := List (Addr × List Value × Nat) × Nat) (fun c => (_, listOf (refsK c.1).toArray c.2) :: (news ++ ledK c.1)) (fun _ => []) ["line", "end", "wide", "value", "other", "forth", "back", "read"] (fun i c => RowsK (fun b us => LSm.BoolsAre us (mirRow row b)) i c.1 ∧ Off _ (news ++ ledK c.1) ∧ ∀ q ∈ news, Off q.1 (ledK c.1)) ([], 0) rfl R1 (small_one (by omega) (by omega) (by omega) (by omega)) (n := row.length) (by rw [rangeSize_nat]; omega) F1 (by rw [show news ++ ledK [] = news from List.append_nil news]; exact N1) trivial ⟨RowsK.nil, by rw [show news ++ ledK [] = news from List.append_nil news]; exact off0, fun q _ => off_of fun p hp => nomatch hp⟩ ?turn ?done
  case turn =>
    clear F1 N1 R1
    intro c b t u tkf h tk I oI hi off hpr F2 N2
    obtain ⟨hR, hoff, hap⟩ := hpr
    obtain ⟨rows, kT⟩ := c
    dsimp only at off hoff hR hap N2
    w_strict (repeat' ((fail_if_success first | (with_reducible show wpAny _ _ (call (Value.ref _) _) _ _ _) | (with_reducible show wpAny _ _ (call (Value.builtin "next") _) _ _ _) | (with_reducible show wpAny _ _ (call (Value.builtin "iter") _) _ _ _) | (with_reducible show wpAny _ _ (pyIter _) _ _ _) | (with_reducible show wpAny _ _ (exec (Stmt.While _ _ _ _) _) _ _ _) | (with_reducible show wpAny _ _ (call (Value.builtin "list.append") _) _ _ _) | (with_reducible show wpAny _ _ (binaryOp Operator.Mult (Value.ref _) _) _ _ _)); first | (k_unfold; (try dsimp only)) | (k_end; kc_close) | walk1 | (dsimp only; walk1) | (leave1; walk_say "STEP leave1"; (try dsimp only)) | fail "no step"))
    rename Fr _ _ _ _ => F3
    rename News _ _ _ _ => N3
    refine kbo_mul F3 N3 (News.isList (by k_asm) (by k_mem)) (.cons false .nil) (by omega) (by omega) (by rw [List.length_singleton]; omega) ?_
    clear F3 N3
    intro DL hL F3 N3 lL hbL _ _ _ _ _ _
    have oL := off_lt lL
    k_lt lL
    rw [show (List.replicate (0 + (b : Int)).toNat [false]).flatten = List.replicate b false from by rw [show (0 + (b : Int)).toNat = b by omega]; exact flat_rep b false] at hbL
    w_strict (repeat' ((fail_if_success first | (with_reducible show wpAny _ _ (call (Value.ref _) _) _ _ _) | (with_reducible show wpAny _ _ (call (Value.builtin "next") _) _ _ _) | (with_reducible show wpAny _ _ (call (Value.builtin "iter") _) _ _ _) | (with_reducible show wpAny _ _ (pyIter _) _ _ _) | (with_reducible show wpAny _ _ (exec (Stmt.While _ _ _ _) _) _ _ _) | (with_reducible show wpAny _ _ (call (Value.builtin "list.append") _) _ _ _) | (with_reducible show wpAny _ _ (binaryOp Operator.Mult (Value.ref _) _) _ _ _)); first | (k_unfold; (try dsimp only)) | (k_end; kc_close) | walk1 | (dsimp only; walk1) | (leave1; walk_say "STEP leave1"; (try dsimp only)) | fail "no step"))
    rename Fr _ _ _ _ => F4
    rename News _ _ _ _ => N4
    rename IsRange _ _ _ _ _ _ _ _ => R4
    refine m_rangeL (fun _ => []) ["wide", "value", "other", "forth", "back", "read"] (fun j us => LSm.BoolsAre us (List.replicate b false ++ (List.range j).map fun j => mirB row b (b + j))) rfl R4 (small_one (by omega) (by omega) (by omega) (by omega)) (n := row.length + 1 - b) (by rw [rangeSize_nat]; omega) F4 N4 trivial (by rw [List.range_zero, List.map_nil, List.append_nil]; exact hbL) ?turn2 ?done2
    case turn2 =>
      clear F4 N4 R4
      intro us kk j t' u' tkf' h' tk' I' oI' hj hDI off' hb' F5 N5
      w_strict (repeat' ((fail_if_success first | (with_reducible show wpAny _ _ (call (Value.ref _) _) _ _ _) | (with_reducible show wpAny _ _ (call (Value.builtin "next") _) _ _ _) | (with_reducible show wpAny _ _ (call (Value.builtin "iter") _) _ _ _) | (with_reducible show wpAny _ _ (pyIter _) _ _ _) | (with_reducible show wpAny _ _ (exec (Stmt.While _ _ _ _) _) _ _ _) | (with_reducible show wpAny _ _ (call (Value.builtin "list.append") _) _ _ _) | (with_reducible show wpAny _ _ (binaryOp Operator.Mult (Value.ref _) _) _ _ _)); first | (k_unfold; (try dsimp only)) | (k_end; kc_close) | walk1 | (dsimp only; walk1) | (leave1; walk_say "STEP leave1"; (try dsimp only)) | fail "no step"))
      obtain ⟨S, hS⟩ : ∃ S, S = seg row b (b + j) := ⟨_, rfl⟩
      have hSb : ∀ f ∈ S, 1 ≤ f ∧ f ≤ 15 := by rw [hS]; exact seg_bd hb _ _
      have hSl : S.length ≤ 6 := by rw [hS]; exact seg_len6 hl6 _ _
      have hTb : ∀ f ∈ S.reverse, 1 ≤ f ∧ f ≤ 15 := rev_bd hSb
      have hTl : S.reverse.length ≤ 6 := by rw [List.length_reverse]; exact hSl
      have hS1 := num_bd6 hSb hSl
      have hT1 := num_bd6 hTb hTl
      have ev : ((numOf row).fdiv (16 ^ (((wordB row).toArray.size : Int) - (0 + (b : Int) + (j : Int))).toNat)).fmod (16 ^ (0 + (b : Int) + (j : Int) - (0 + (b : Int))).toNat) = numOf S := by
        rw [show (((wordB row).toArray.size : Int) - (0 + (b : Int) + (j : Int))).toNat = row.length - (b + j) by omega, show (0 + (b : Int) + (j : Int) - (0 + (b : Int))).toNat = b + j - b by omega, hS]
        exact num_forth hb (by omega) (by omega)
      have eo : ((numOf row.reverse).fdiv (16 ^ (0 + (b : Int)).toNat)).fmod (16 ^ (0 + (b : Int) + (j : Int) - (0 + (b : Int))).toNat) = numOf S.reverse := by
        rw [show (0 + (b : Int)).toNat = b by omega, show (0 + (b : Int) + (j : Int) - (0 + (b : Int))).toNat = b + j - b by omega, hS]
        exact num_back hb (by omega) (by omega)
      rename Fr _ _ _ _ => F6
      simp only [ev, eo] at F6 ⊢
      refine' cl_use (c_ap _ _ _ _ (numOf S) _ _) ?k1x1 ?k2x1 ?k3x1 ?k4x1 ?k5x1 ?kKx1 ?kpx1 ?kdx1 ?kux1 ?kRx1
      case k1x1 => k_asm
      case k2x1 => k_asm
      case k3x1 => k_asm
      case k4x1 => k_asm
      case k5x1 => k_asm
      case kKx1 => exact rfl
      case kpx1 => omega
      case kdx1 => ktr_room
      case kux1 => ktr_units
      intro t9 h9 tk9 F9 N9
      rw [ap_word hSb]
      w_strict (repeat' ((fail_if_success first | (with_reducible show wpAny _ _ (call (Value.ref _) _) _ _ _) | (with_reducible show wpAny _ _ (call (Value.builtin "next") _) _ _ _) | (with_reducible show wpAny _ _ (call (Value.builtin "iter") _) _ _ _) | (with_reducible show wpAny _ _ (pyIter _) _ _ _) | (with_reducible show wpAny _ _ (exec (Stmt.While _ _ _ _) _) _ _ _) | (with_reducible show wpAny _ _ (call (Value.builtin "list.append") _) _ _ _) | (with_reducible show wpAny _ _ (binaryOp Operator.Mult (Value.ref _) _) _ _ _)); first | (k_unfold; (try dsimp only)) | (k_end; kc_close) | walk1 | (dsimp only; walk1) | (leave1; walk_say "STEP leave1"; (try dsimp only)) | fail "no step"))
      refine' cl_use (c_ap _ _ _ _ (-numOf S.reverse) _ _) ?k1x2 ?k2x2 ?k3x2 ?k4x2 ?k5x2 ?kKx2 ?kpx2 ?kdx2 ?kux2 ?kRx2
      case k1x2 => k_asm
      case k2x2 => k_asm
      case k3x2 => k_asm
      case k4x2 => k_asm
      case k5x2 => k_asm
      case kKx2 => exact rfl
      case kpx2 => omega
      case kdx2 => ktr_room
      case kux2 => ktr_units
      intro t9 h9 tk9 F9 N9
      rw [Int.natAbs_neg, ap_word hTb]
      w_strict (repeat' ((fail_if_success first | (with_reducible show wpAny _ _ (call (Value.ref _) _) _ _ _) | (with_reducible show wpAny _ _ (call (Value.builtin "next") _) _ _ _) | (with_reducible show wpAny _ _ (call (Value.builtin "iter") _) _ _ _) | (with_reducible show wpAny _ _ (pyIter _) _ _ _) | (with_reducible show wpAny _ _ (exec (Stmt.While _ _ _ _) _) _ _ _) | (with_reducible show wpAny _ _ (call (Value.builtin "list.append") _) _ _ _) | (with_reducible show wpAny _ _ (binaryOp Operator.Mult (Value.ref _) _) _ _ _)); first | (k_unfold; (try dsimp only)) | (k_end; kc_close) | walk1 | (dsimp only; walk1) | (leave1; walk_say "STEP leave1"; (try dsimp only)) | fail "no step"))
      refine KBy.add_bytes (by simp only [List.size_toArray, List.length_cons, List.length_nil, word_len, List.length_reverse]; omega) ?_
      intro t71 k71
      rw [show (wordB S).toArray ++ #[46] = (wordB S ++ [46]).toArray from by simp]
      w_strict (repeat' ((fail_if_success first | (with_reducible show wpAny _ _ (call (Value.ref _) _) _ _ _) | (with_reducible show wpAny _ _ (call (Value.builtin "next") _) _ _ _) | (with_reducible show wpAny _ _ (call (Value.builtin "iter") _) _ _ _) | (with_reducible show wpAny _ _ (pyIter _) _ _ _) | (with_reducible show wpAny _ _ (exec (Stmt.While _ _ _ _) _) _ _ _) | (with_reducible show wpAny _ _ (call (Value.builtin "list.append") _) _ _ _) | (with_reducible show wpAny _ _ (binaryOp Operator.Mult (Value.ref _) _) _ _ _)); first | (k_unfold; (try dsimp only)) | (k_end; kc_close) | walk1 | (dsimp only; walk1) | (leave1; walk_say "STEP leave1"; (try dsimp only)) | fail "no step"))
      rename Fr _ _ _ _ => F7
      rename News _ _ _ _ => N7
      refine m_iter_bytes F7 N7 ?_
      clear F7 N7
      intro I7 h7 F7 N7 l7
      have o7 := off_lt l7
      k_lt l7
      w_strict (repeat' ((fail_if_success first | (with_reducible show wpAny _ _ (call (Value.ref _) _) _ _ _) | (with_reducible show wpAny _ _ (call (Value.builtin "next") _) _ _ _) | (with_reducible show wpAny _ _ (call (Value.builtin "iter") _) _ _ _) | (with_reducible show wpAny _ _ (pyIter _) _ _ _) | (with_reducible show wpAny _ _ (exec (Stmt.While _ _ _ _) _) _ _ _) | (with_reducible show wpAny _ _ (call (Value.builtin "list.append") _) _ _ _) | (with_reducible show wpAny _ _ (binaryOp Operator.Mult (Value.ref _) _) _ _ _)); first | (k_unfold; (try dsimp only)) | (k_end; kc_close) | walk1 | (dsimp only; walk1) | (leave1; walk_say "STEP leave1"; (try dsimp only)) | fail "no step"))
      refine' clO_use (c_vb _ _ _ _ I7 _ _ (S) _) ?k1x3 ?k2x3 ?k3x3 ?k4x3 ?k5x3 ?kKx3 ?kpx3 ?kdx3 ?kux3 ?kRx3
      case k1x3 => k_asm
      case k2x3 => k_asm
      case k3x3 => k_asm
      case k4x3 => k_asm
      case k5x3 => k_asm
      case kKx3 => exact rfl
      case kpx3 => exact ⟨o7, rfl, hSl, hSb⟩
      case kdx3 => ktr_room
      case kux3 => ktr_units
      intro r9 n9 h9 tk9 F9 N9 O9
      obtain ⟨tr7, er7, en7⟩ := O9
      subst er7 en7
      w_strict (repeat' ((fail_if_success first | (with_reducible show wpAny _ _ (call (Value.ref _) _) _ _ _) | (with_reducible show wpAny _ _ (call (Value.builtin "next") _) _ _ _) | (with_reducible show wpAny _ _ (call (Value.builtin "iter") _) _ _ _) | (with_reducible show wpAny _ _ (pyIter _) _ _ _) | (with_reducible show wpAny _ _ (exec (Stmt.While _ _ _ _) _) _ _ _) | (with_reducible show wpAny _ _ (call (Value.builtin "list.append") _) _ _ _) | (with_reducible show wpAny _ _ (binaryOp Operator.Mult (Value.ref _) _) _ _ _)); first | (k_unfold; (try dsimp only)) | (k_end; kc_close) | walk1 | (dsimp only; walk1) | (leave1; walk_say "STEP leave1"; (try dsimp only)) | fail "no step"))
      refine KBy.add_bytes (by simp only [List.size_toArray, List.length_cons, List.length_nil, word_len, List.length_reverse]; omega) ?_
      intro t81 k81
      rw [show (wordB S.reverse).toArray ++ #[46] = (wordB S.reverse ++ [46]).toArray from by simp]
      w_strict (repeat' ((fail_if_success first | (with_reducible show wpAny _ _ (call (Value.ref _) _) _ _ _) | (with_reducible show wpAny _ _ (call (Value.builtin "next") _) _ _ _) | (with_reducible show wpAny _ _ (call (Value.builtin "iter") _) _ _ _) | (with_reducible show wpAny _ _ (pyIter _) _ _ _) | (with_reducible show wpAny _ _ (exec (Stmt.While _ _ _ _) _) _ _ _) | (with_reducible show wpAny _ _ (call (Value.builtin "list.append") _) _ _ _) | (with_reducible show wpAny _ _ (binaryOp Operator.Mult (Value.ref _) _) _ _ _)); first | (k_unfold; (try dsimp only)) | (k_end; kc_close) | walk1 | (dsimp only; walk1) | (leave1; walk_say "STEP leave1"; (try dsimp only)) | fail "no step"))
      rename Fr _ _ _ _ => F7
      rename News _ _ _ _ => N7
      refine m_iter_bytes F7 N7 ?_
      clear F7 N7
      intro I8 h8 F7 N7 l8
      have o8 := off_lt l8
      k_lt l8
      w_strict (repeat' ((fail_if_success first | (with_reducible show wpAny _ _ (call (Value.ref _) _) _ _ _) | (with_reducible show wpAny _ _ (call (Value.builtin "next") _) _ _ _) | (with_reducible show wpAny _ _ (call (Value.builtin "iter") _) _ _ _) | (with_reducible show wpAny _ _ (pyIter _) _ _ _) | (with_reducible show wpAny _ _ (exec (Stmt.While _ _ _ _) _) _ _ _) | (with_reducible show wpAny _ _ (call (Value.builtin "list.append") _) _ _ _) | (with_reducible show wpAny _ _ (binaryOp Operator.Mult (Value.ref _) _) _ _ _)); first | (k_unfold; (try dsimp only)) | (k_end; kc_close) | walk1 | (dsimp only; walk1) | (leave1; walk_say "STEP leave1"; (try dsimp only)) | fail "no step"))
      refine' clO_use (c_vb _ _ _ _ I8 _ _ (S.reverse) _) ?k1x4 ?k2x4 ?k3x4 ?k4x4 ?k5x4 ?kKx4 ?kpx4 ?kdx4 ?kux4 ?kRx4
      case k1x4 => k_asm
      case k2x4 => k_asm
      case k3x4 => k_asm
      case k4x4 => k_asm
      case k5x4 => k_asm
      case kKx4 => exact rfl
      case kpx4 => exact ⟨o8, rfl, hTl, hTb⟩
      case kdx4 => ktr_room
      case kux4 => ktr_units
      intro r9 n9 h9 tk9 F9 N9 O9
      obtain ⟨tr8, er8, en8⟩ := O9
      subst er8 en8
      w_strict (repeat' ((fail_if_success first | (with_reducible show wpAny _ _ (call (Value.ref _) _) _ _ _) | (with_reducible show wpAny _ _ (call (Value.builtin "next") _) _ _ _) | (with_reducible show wpAny _ _ (call (Value.builtin "iter") _) _ _ _) | (with_reducible show wpAny _ _ (pyIter _) _ _ _) | (with_reducible show wpAny _ _ (exec (Stmt.While _ _ _ _) _) _ _ _) | (with_reducible show wpAny _ _ (call (Value.builtin "list.append") _) _ _ _) | (with_reducible show wpAny _ _ (binaryOp Operator.Mult (Value.ref _) _) _ _ _)); first | (k_unfold; (try dsimp only)) | (k_end; kc_close) | walk1 | (dsimp only; walk1) | (leave1; walk_say "STEP leave1"; (try dsimp only)) | fail "no step"))
      rename Fr _ _ _ _ => F9
      rename News _ _ _ _ => N9
      refine KBc.slice_K (s := ⟨_, _, _, _, _⟩) (ks := row.map fun f => 65 + f) F9 N9 (word_ints fun f hf => by have := hb f hf; omega) (IsPart.int _ _) (IsPart.int _ _) (by rw [List.length_map]; omega) ?_
      clear F9 N9
      intro h9 t9 k9 F9 N9 e9
      rw [List.length_map] at e9
      have e10 := word_pick hb (b := b) (e := b + j) (by omega) (by omega) (by omega) (by omega) e9
      rw [e10, ← hS]
      w_strict (repeat' ((fail_if_success first | (with_reducible show wpAny _ _ (call (Value.ref _) _) _ _ _) | (with_reducible show wpAny _ _ (call (Value.builtin "next") _) _ _ _) | (with_reducible show wpAny _ _ (call (Value.builtin "iter") _) _ _ _) | (with_reducible show wpAny _ _ (pyIter _) _ _ _) | (with_reducible show wpAny _ _ (exec (Stmt.While _ _ _ _) _) _ _ _) | (with_reducible show wpAny _ _ (call (Value.builtin "list.append") _) _ _ _) | (with_reducible show wpAny _ _ (binaryOp Operator.Mult (Value.ref _) _) _ _ _)); first | (k_unfold; (try dsimp only)) | (k_end; kc_close) | walk1 | (dsimp only; walk1) | (leave1; walk_say "STEP leave1"; (try dsimp only)) | fail "no step"))
      · rename (_ != _) = true => hx
        exact absurd hx (by simp)
      refine' cl_use (c_s64 _ _ _ _ S _ _) ?k1x5 ?k2x5 ?k3x5 ?k4x5 ?k5x5 ?kKx5 ?kpx5 ?kdx5 ?kux5 ?kRx5
      case k1x5 => k_asm
      case k2x5 => k_asm
      case k3x5 => k_asm
      case k4x5 => k_asm
      case k5x5 => k_asm
      case kKx5 => exact rfl
      case kpx5 => exact ⟨hSl, hSb⟩
      case kdx5 => ktr_room
      case kux5 => ktr_units
      intro t9 h9 tk9 F9 N9
      w_strict (repeat' ((fail_if_success first | (with_reducible show wpAny _ _ (call (Value.ref _) _) _ _ _) | (with_reducible show wpAny _ _ (call (Value.builtin "next") _) _ _ _) | (with_reducible show wpAny _ _ (call (Value.builtin "iter") _) _ _ _) | (with_reducible show wpAny _ _ (pyIter _) _ _ _) | (with_reducible show wpAny _ _ (exec (Stmt.While _ _ _ _) _) _ _ _) | (with_reducible show wpAny _ _ (call (Value.builtin "list.append") _) _ _ _) | (with_reducible show wpAny _ _ (binaryOp Operator.Mult (Value.ref _) _) _ _ _)); first | (k_unfold; (try dsimp only)) | (k_end; kc_close) | walk1 | (dsimp only; walk1) | (leave1; walk_say "STEP leave1"; (try dsimp only)) | fail "no step"))
      refine' cl_use (c_s64 _ _ _ _ S.reverse _ _) ?k1x6 ?k2x6 ?k3x6 ?k4x6 ?k5x6 ?kKx6 ?kpx6 ?kdx6 ?kux6 ?kRx6
      case k1x6 => k_asm
      case k2x6 => k_asm
      case k3x6 => k_asm
      case k4x6 => k_asm
      case k5x6 => k_asm
      case kKx6 => exact rfl
      case kpx6 => exact ⟨hTl, hTb⟩
      case kdx6 => ktr_room
      case kux6 => ktr_units
      intro t9 h9 tk9 F9 N9
      w_strict (repeat' ((fail_if_success first | (with_reducible show wpAny _ _ (call (Value.ref _) _) _ _ _) | (with_reducible show wpAny _ _ (call (Value.builtin "next") _) _ _ _) | (with_reducible show wpAny _ _ (call (Value.builtin "iter") _) _ _ _) | (with_reducible show wpAny _ _ (pyIter _) _ _ _) | (with_reducible show wpAny _ _ (exec (Stmt.While _ _ _ _) _) _ _ _) | (with_reducible show wpAny _ _ (call (Value.builtin "list.append") _) _ _ _) | (with_reducible show wpAny _ _ (binaryOp Operator.Mult (Value.ref _) _) _ _ _)); first | (k_unfold; (try dsimp only)) | (k_end; kc_close) | walk1 | (dsimp only; walk1) | (leave1; walk_say "STEP leave1"; (try dsimp only)) | fail "no step"))
      rename Fr _ _ _ _ => F9
      rename News _ _ _ _ => N9
      refine' m_appendL F9 N9 ?xu ?xz ?_
      case xu => k_upd
      case xz =>
        have := hb'.length
        simp only [List.length_append, List.length_replicate, List.length_map, List.length_range] at this
        omega
      clear F9 N9
      intro h10 F9 N9
      w_strict (repeat' ((fail_if_success first | (with_reducible show wpAny _ _ (call (Value.ref _) _) _ _ _) | (with_reducible show wpAny _ _ (call (Value.builtin "next") _) _ _ _) | (with_reducible show wpAny _ _ (call (Value.builtin "iter") _) _ _ _) | (with_reducible show wpAny _ _ (pyIter _) _ _ _) | (with_reducible show wpAny _ _ (exec (Stmt.While _ _ _ _) _) _ _ _) | (with_reducible show wpAny _ _ (call (Value.builtin "list.append") _) _ _ _) | (with_reducible show wpAny _ _ (binaryOp Operator.Mult (Value.ref _) _) _ _ _)); first | (k_unfold; (try dsimp only)) | (k_end; kc_close) | walk1 | (dsimp only; walk1) | (leave1; walk_say "STEP leave1"; (try dsimp only)) | fail "no step"))
      dsimp only [FPost]
      refine FEnd.intro (_, _) (by assumption) (by assumption) (by kcj_all) ⟨hDI, off'⟩ trivial (by ksw_same) ?_
      rw [List.range_succ, List.map_append, ← List.append_assoc]
      exact bools_snoc hb' (by rw [hS]; rfl)
    case done2 =>
      clear F4 N4 R4
      intro us kk u' tkf' h' tk' hb' F5 N5
      w_strict (repeat' ((fail_if_success first | (with_reducible show wpAny _ _ (call (Value.ref _) _) _ _ _) | (with_reducible show wpAny _ _ (call (Value.builtin "next") _) _ _ _) | (with_reducible show wpAny _ _ (call (Value.builtin "iter") _) _ _ _) | (with_reducible show wpAny _ _ (pyIter _) _ _ _) | (with_reducible show wpAny _ _ (exec (Stmt.While _ _ _ _) _) _ _ _) | (with_reducible show wpAny _ _ (call (Value.builtin "list.append") _) _ _ _) | (with_reducible show wpAny _ _ (binaryOp Operator.Mult (Value.ref _) _) _ _ _)); first | (k_unfold; (try dsimp only)) | (k_end; kc_close) | walk1 | (dsimp only; walk1) | (leave1; walk_say "STEP leave1"; (try dsimp only)) | fail "no step"))
      rename Fr _ _ _ _ => F9
      rename News _ _ _ _ => N9
      refine' m_appendL F9 N9 ?yu ?yz ?_
      case yu => exact .tail (Ne.symm (Off.mem oL (_, listOf (refsK rows).toArray kT) (by k_mem))) (.tail (by first | k_ne | (dsimp only; omega)) (.tail (Ne.symm off.1) (.head (Off.mem hoff))))
      case yz =>
        rw [refsK_len, hR.1]
        omega
      clear F9 N9
      intro h10 F9 N9
      w_strict (repeat' ((fail_if_success first | (with_reducible show wpAny _ _ (call (Value.ref _) _) _ _ _) | (with_reducible show wpAny _ _ (call (Value.builtin "next") _) _ _ _) | (with_reducible show wpAny _ _ (call (Value.builtin "iter") _) _ _ _) | (with_reducible show wpAny _ _ (pyIter _) _ _ _) | (with_reducible show wpAny _ _ (exec (Stmt.While _ _ _ _) _) _ _ _) | (with_reducible show wpAny _ _ (call (Value.builtin "list.append") _) _ _ _) | (with_reducible show wpAny _ _ (binaryOp Operator.Mult (Value.ref _) _) _ _ _)); first | (k_unfold; (try dsimp only)) | (k_end; kc_close) | walk1 | (dsimp only; walk1) | (leave1; walk_say "STEP leave1"; (try dsimp only)) | fail "no step"))
      dsimp only [FPost]
      refine FEnd.intro (rows ++ [(DL, us, kk)], kT + 1) (by assumption) (by assumption) ?sb ?of trivial (by ksw_same) ⟨hR.snoc hb', ?of2, ?of3⟩
      case sb =>
        dsimp only
        rw [refsK_snoc, ledK_snoc, ← List.append_assoc]
        exact sub_rowsK
      case of =>
        dsimp only
        rw [ledK_snoc, ← List.append_assoc]
        exact ⟨off.1, off_snoc off.2 (Ne.symm (Off.mem oL (I, oI) (by k_mem)))⟩
      case of2 =>
        dsimp only
        rw [ledK_snoc, ← List.append_assoc]
        exact off_snoc hoff (Ne.symm (Off.mem oL (_, listOf (refsK rows).toArray kT) (by k_mem)))
      case of3 =>
        intro q hq
        dsimp only
        rw [ledK_snoc]
        exact off_snoc (hap q hq) (Ne.symm (Off.mem oL q (List.mem_cons_of_mem _ (List.mem_cons_of_mem _ (List.mem_cons_of_mem _ (List.mem_append.mpr (.inl hq)))))))
  case done =>
    clear F1 N1 R1
    intro c u tkf h tk hpr F2 N2
    obtain ⟨hR, hoff, hap⟩ := hpr
    w_strict (repeat' ((fail_if_success first | (with_reducible show wpAny _ _ (call (Value.ref _) _) _ _ _) | (with_reducible show wpAny _ _ (call (Value.builtin "next") _) _ _ _) | (with_reducible show wpAny _ _ (call (Value.builtin "iter") _) _ _ _) | (with_reducible show wpAny _ _ (pyIter _) _ _ _) | (with_reducible show wpAny _ _ (exec (Stmt.While _ _ _ _) _) _ _ _) | (with_reducible show wpAny _ _ (call (Value.builtin "list.append") _) _ _ _) | (with_reducible show wpAny _ _ (binaryOp Operator.Mult (Value.ref _) _) _ _ _)); first | (k_unfold; (try dsimp only)) | (k_end; kc_close) | walk1 | (dsimp only; walk1) | (leave1; walk_say "STEP leave1"; (try dsimp only)) | fail "no step"))
    exact hret _ _ _ _ (by assumption) (by assumption) ⟨_, _, _, rfl, rfl, hR, hoff, hap⟩
end
section
/-- a row of figures: one more than .. -/
def Row (row : List Int) : Prop := ∃ (m : Int) (ks : List Int), row = ks.map (fun k => 1 + (m + 5 * k).fmod 15) ∧ (∀ k ∈ ks, 0 ≤ k ∧ k ≤ 2) ∧ 5 ≤ ks.length ∧ ks.length ≤ 6
theorem row_of (ns : List Int) : Row (rowOf ns) := by
  refine ⟨movedOf ns, kindsOf ns, rfl, ?_, ?_, ?_⟩
  · intro k hk
    unfold kindsOf at hk
    rcases List.mem_append.mp hk with h | h
    · obtain ⟨x, -, rfl⟩ := List.mem_map.mp h
      have h1 := Int.fmod_nonneg_of_pos x (show (0 : Int) < 3 by decide)
      have h2 := Int.fmod_lt_of_pos x (show (0 : Int) < 3 by decide)
      omega
    · have := List.mem_of_mem_drop h
      simp only [List.mem_cons, List.not_mem_nil, or_false] at this
      omega
  · unfold kindsOf drawnOf
    rw [List.length_append, List.length_map, List.length_map, List.length_drop]
    simp only [List.length_cons, List.length_nil]
    omega
  · unfold kindsOf drawnOf
    have := List.length_take_le 6 ns
    rw [List.length_append, List.length_map, List.length_map, List.length_drop]
    simp only [List.length_cons, List.length_nil]
    omega
theorem Row.len {row : List Int} (h : Row row) : 5 ≤ row.length ∧ row.length ≤ 6 := by
  obtain ⟨m, ks, rfl, -, h1, h2⟩ := h
  rw [List.length_map]
  exact ⟨h1, h2⟩
theorem Row.bd {row : List Int} (h : Row row) : ∀ f ∈ row, 1 ≤ f ∧ f ≤ 15 := by
  obtain ⟨m, ks, rfl, -, -, -⟩ := h
  intro f hf
  obtain ⟨k, hk, rfl⟩ := List.mem_map.mp hf
  have h1 := Int.fmod_nonneg_of_pos (m + 5 * k) (show (0 : Int) < 15 by decide)
  have h2 := Int.fmod_lt_of_pos (m + 5 * k) (show (0 : Int) < 15 by decide)
  omega
theorem text_df {row : List Int} (h : ∀ f ∈ row, 1 ≤ f ∧ f ≤ 15) : DF (textOf row) := fun c hc => by
  simp only [textOf, List.mem_map] at hc
  obtain ⟨f, hf, rfl⟩ := hc
  have := h f hf
  omega
theorem rev_range (row : List Int) : (List.range row.length).map (fun k => row.getD (row.length - 1 - k) 0) = row.reverse := by
  refine List.ext_getElem (by simp) fun i h1 h2 => ?_
  have hi : i < row.length := by simpa using h1
  rw [List.getElem_map, List.getElem_range, List.getElem_reverse, List.getD_eq_getElem?_getD, List.getElem?_eq_getElem (by omega), Option.getD_some]
theorem arr_row {row : List Int} (h : ∀ f ∈ row, 1 ≤ f ∧ f ≤ 15) : byteArr (row.map fun f => 65 + f) = (wordB row).toArray := by
  unfold byteArr wordB
  rw [List.map_map]
  congr 1
  refine List.map_congr_left fun f hf => ?_
  have := h f hf
  simp only [Function.comp]
  rw [show (65 + f).toNat = 65 + f.toNat by omega]
end
section
def headsOf (row : List Int) (e : Nat) : List Nat := (List.range e).filter fun b => mirB row b e
def freshOf (row : List Int) (met : List (List Int)) (e : Nat) : List (List Int) := ((headsOf row e).map fun b => seg row b e).filter fun s => !met.contains s
def metUp (row : List Int) : Nat → List (List Int)
  | 0 => []
  | e + 1 => metUp row e ++ freshOf row (metUp row e) (e + 1)
def longOf (row : List Int) (e : Nat) : List Int := seg row ((headsOf row e).getD 0 0) e
theorem slice_seg (row : List Int) {a b : Nat} {x y : Int} (hx : x = (a : Int)) (hy : y = (b : Int)) (ha : a ≤ b) (hb : b ≤ row.length) : Txt.slice (textOf row) (some x) (some y) = textOf (seg row a b) := by
  subst hx hy
  refine str_ext ?_
  rw [slice_list, text_list, text_list, ← len_list, text_list, List.length_map]
  simp only [lowAt, highAt, Option.elim, clip_nat]
  rw [Nat.min_eq_left hb, Nat.min_eq_left (Nat.le_trans ha hb), ← seg_map]
  rfl
theorem slice_take (row : List Int) {b : Nat} {y : Int} (hy : y = (b : Int)) : Txt.slice (textOf row) none (some y) = textOf (row.take b) := by
  subst hy
  refine str_ext ?_
  rw [slice_to, text_list, text_list, List.map_take]
theorem mirRow_at (row : List Int) {b e : Nat} (hb : b ≤ e) (he : e ≤ row.length) : (mirRow row b).getD e false = mirB row b e := by
  unfold mirRow
  rw [List.getD_eq_getElem?_getD, List.getElem?_append_right (by rw [List.length_replicate]; exact hb), List.length_replicate, List.getElem?_map, List.getElem?_range (by omega), Option.map_some, Option.getD_some, show b + (e - b) = e by omega]
theorem mirRow_len (row : List Int) {b : Nat} (hb : b ≤ row.length) : (mirRow row b).length = row.length + 1 := by
  unfold mirRow
  rw [List.length_append, List.length_replicate, List.length_map, List.length_range]
  omega
def headsUp (row : List Int) (e j : Nat) : List Int := ((List.range j).filter fun b => mirB row b e).map fun (b : Nat) => (b : Int)
theorem headsUp_yes {row : List Int} {e j : Nat} (h : mirB row j e = true) : headsUp row e (j + 1) = headsUp row e j ++ [(j : Int)] := by
  unfold headsUp
  have e1 : [j].filter (fun b => mirB row b e) = [j] := by simp [h]
  rw [List.range_succ, List.filter_append, List.map_append, e1]
  rfl
theorem headsUp_no {row : List Int} {e j : Nat} (h : mirB row j e = false) : headsUp row e (j + 1) = headsUp row e j := by
  unfold headsUp
  have e1 : [j].filter (fun b => mirB row b e) = [] := by simp [h]
  rw [List.range_succ, List.filter_append, List.map_append, e1]
  simp
theorem news_loop {h₀ hp : Heap} {L : Addr} {a b c d e f g h i j k l m : Addr × Obj} {r : List (Addr × Obj)} (N : News h₀ L hp (a :: b :: c :: d :: e :: f :: g :: h :: i :: j :: k :: l :: m :: r)) : News h₀ L hp (a :: h :: d :: i :: j :: k :: l :: m :: r) := fun p hp => N p (by
  simp only [List.mem_cons] at hp ⊢
  rcases hp with x | x | x | x | x | x | x | x | x <;> simp [x])
theorem mir_self {row : List Int} {i : Nat} (h : i < row.length) : mirB row i (i + 1) = true := by
  unfold mirB seg
  have hx : (row.drop i).take 1 = [row[i]] := by rw [List.drop_eq_getElem_cons h]; rfl
  rw [show i + 1 - i = 1 by omega, hx, List.reverse_singleton]
  exact beq_self_eq_true _
theorem headsUp_eq (row : List Int) (e : Nat) : headsUp row e e = (headsOf row e).map fun (b : Nat) => (b : Int) := rfl
theorem heads_pos {row : List Int} {i : Nat} (h : i < row.length) : 0 < (headsOf row (i + 1)).length := by
  unfold headsOf
  refine List.length_pos_iff.mpr fun e => ?_
  have : i ∈ (List.range (i + 1)).filter fun b => mirB row b (i + 1) := List.mem_filter.mpr ⟨List.mem_range.mpr (by omega), mir_self h⟩
  rw [e] at this
  cases this
theorem heads_lt {row : List Int} {e j : Nat} (h : j < (headsOf row e).length) : (headsOf row e).getD j 0 < e := by
  rw [List.getD_eq_getElem?_getD, List.getElem?_eq_getElem h, Option.getD_some]
  have := List.getElem_mem h
  unfold headsOf at this
  exact List.mem_range.mp (List.mem_filter.mp this).1
theorem heads_cast (row : List Int) (e j : Nat) : (headsUp row e e).getD j 0 = (((headsOf row e).getD j 0 : Nat) : Int) := by
  rw [headsUp_eq, List.getD_eq_getElem?_getD, List.getD_eq_getElem?_getD, List.getElem?_map]
  cases (headsOf row e)[j]? <;> rfl
theorem text_inj {a b : List Int} (ha : ∀ f ∈ a, 1 ≤ f ∧ f ≤ 15) (hb : ∀ f ∈ b, 1 ≤ f ∧ f ≤ 15) : (textOf a == textOf b) = (a == b) := by
  rw [str_beq, text_list, text_list]
  exact map_beq _ _ _ fun x hx y hy e => by
    have := ha x hx
    have := hb y hy
    omega
theorem seg_of_met {row : List Int} : ∀ {e : Nat} {s : List Int}, s ∈ metUp row e → ∃ a b, s = seg row a b
  | 0, _, h => nomatch h
  | e + 1, s, h => by
    rcases List.mem_append.mp h with h | h
    · exact seg_of_met h
    · have := (List.mem_filter.mp h).1
      obtain ⟨b, -, rfl⟩ := List.mem_map.mp this
      exact ⟨_, _, rfl⟩
theorem met_any {row : List Int} (hb : ∀ f ∈ row, 1 ≤ f ∧ f ≤ 15) (e a b : Nat) : ((metUp row e).map textOf).any (· == textOf (seg row a b)) = (metUp row e).contains (seg row a b) := by
  rw [List.any_map, List.contains_eq_any_beq]
  rw [Bool.eq_iff_iff, List.any_eq_true, List.any_eq_true]
  constructor
  · rintro ⟨x, hx, h⟩
    obtain ⟨c, d, rfl⟩ := seg_of_met hx
    simp only [Function.comp, text_inj (seg_bd hb c d) (seg_bd hb a b)] at h
    exact ⟨_, hx, by rw [eq_of_beq h]; simp⟩
  · rintro ⟨x, hx, h⟩
    have := eq_of_beq h
    subst this
    exact ⟨_, hx, by simp⟩
def freshUp (row : List Int) (met : List (List Int)) (e j : Nat) : List (List Int) := (((headsOf row e).take j).map fun b => seg row b e).filter fun s => !met.contains s
theorem freshUp_all (row : List Int) (met : List (List Int)) (e : Nat) : freshUp row met e (headsOf row e).length = freshOf row met e := by unfold freshUp freshOf; rw [List.take_length]
theorem freshUp_yes {row : List Int} {met : List (List Int)} {e j : Nat} (hj : j < (headsOf row e).length) (h : met.contains (seg row ((headsOf row e).getD j 0) e) = false) : freshUp row met e (j + 1) = freshUp row met e j ++ [seg row ((headsOf row e).getD j 0) e] := by
  unfold freshUp
  have e1 : (headsOf row e).getD j 0 = (headsOf row e)[j] := by rw [List.getD_eq_getElem?_getD, List.getElem?_eq_getElem hj, Option.getD_some]
  rw [e1] at h ⊢
  have e2 : [seg row (headsOf row e)[j] e].filter (fun s => !met.contains s) = [seg row (headsOf row e)[j] e] := by rw [List.filter_cons, h]; rfl
  rw [List.take_succ_eq_append_getElem hj, List.map_append, List.filter_append, List.map_singleton, e2]
theorem freshUp_no {row : List Int} {met : List (List Int)} {e j : Nat} (hj : j < (headsOf row e).length) (h : met.contains (seg row ((headsOf row e).getD j 0) e) = true) : freshUp row met e (j + 1) = freshUp row met e j := by
  unfold freshUp
  have e1 : (headsOf row e).getD j 0 = (headsOf row e)[j] := by rw [List.getD_eq_getElem?_getD, List.getElem?_eq_getElem hj, Option.getD_some]
  rw [e1] at h
  have e2 : [seg row (headsOf row e)[j] e].filter (fun s => !met.contains s) = [] := by rw [List.filter_cons, h]; rfl
  rw [List.take_succ_eq_append_getElem hj, List.map_append, List.filter_append, List.map_singleton, e2, List.append_nil]
theorem textOf_ok {a : List Int} (ha : ∀ f ∈ a, 1 ≤ f ∧ f ≤ 15) : PyData.strOk (textOf a) = true := by
  show ((a.map fun f => (65 + f).toNat).toArray).all (· < 0x110000) = true
  rw [Array.all_eq_true']
  intro c hc
  have hc : c ∈ a.map fun f => (65 + f).toNat := by simpa using hc
  obtain ⟨f, hf, rfl⟩ := List.mem_map.mp hc
  have := ha f hf
  simp only [decide_eq_true_eq]
  omega
theorem heads_len (row : List Int) (e : Nat) : (headsOf row e).length ≤ e := by
  unfold headsOf
  have := List.length_filter_le (fun b => mirB row b e) (List.range e)
  rwa [List.length_range] at this
theorem met_len (row : List Int) : ∀ e : Nat, (metUp row e).length ≤ e * e
  | 0 => Nat.le_refl _
  | e + 1 => by
    have ih := met_len row e
    have h1 : (freshOf row (metUp row e) (e + 1)).length ≤ e + 1 := by
      unfold freshOf
      refine Nat.le_trans (List.length_filter_le _ _) ?_
      rw [List.length_map]
      exact heads_len row (e + 1)
    show (metUp row e ++ freshOf row (metUp row e) (e + 1)).length ≤ (e + 1) * (e + 1)
    rw [List.length_append, Nat.add_mul, Nat.mul_add]
    omega
theorem met_len36 (row : List Int) {e : Nat} (h : e ≤ 6) : (metUp row e).length ≤ 36 := Nat.le_trans (met_len row e) (Nat.mul_le_mul h h)
/-- where what stands from b to m ends again -/
def againUp (row : List Int) (b m j : Nat) : List Nat := ((List.range j).map fun k => m + 1 + k).filter fun e => seg row (e - (m - b)) e == seg row b m
def againOf (row : List Int) (b m : Nat) : List Nat := againUp row b m (row.length - m)
def okAt (row : List Int) (b m : Nat) : Bool := !mirB row b m || (match againOf row b m with | [] => true | e :: _ => mirB row b e)
def okUp (row : List Int) (b j : Nat) : Bool := (List.range j).all fun k => okAt row b (b + 1 + k)
def strUp (row : List Int) (i : Nat) : Bool := (List.range i).all fun b => okUp row b (row.length - (b + 1))
theorem okUp_succ (row : List Int) (b j : Nat) : okUp row b (j + 1) = (okUp row b j && okAt row b (b + 1 + j)) := by unfold okUp; rw [List.range_succ, List.all_append]; simp
theorem strUp_succ (row : List Int) (i : Nat) : strUp row (i + 1) = (strUp row i && okUp row i (row.length - (i + 1))) := by unfold strUp; rw [List.range_succ, List.all_append]; simp
theorem againUp_succ (row : List Int) (b m j : Nat) : againUp row b m (j + 1) = againUp row b m j ++ (if seg row (m + 1 + j - (m - b)) (m + 1 + j) == seg row b m then [m + 1 + j] else []) := by
  unfold againUp
  rw [List.range_succ, List.map_append, List.filter_append, List.map_singleton]
  congr 1
  rw [List.filter_cons]
  rfl
theorem news_ag {h₀ hp : Heap} {L : Addr} {a b c d : Addr × Obj} {r : List (Addr × Obj)} (N : News h₀ L hp (a :: b :: c :: d :: r)) : News h₀ L hp (a :: d :: b :: c :: r) := fun p hp => N p (by
  simp only [List.mem_cons] at hp ⊢
  rcases hp with x | x | x | x | x <;> simp [x])
end
section
theorem news_tl {h₀ hp : Heap} {L : Addr} {a : Addr × Obj} {r : List (Addr × Obj)} (N : News h₀ L hp (a :: r)) : News h₀ L hp r := fun p hp => N p (List.mem_cons_of_mem _ hp)
theorem el_pre {want got a b : PySem.Str} (e : want = a ++ dots ++ b) (ha : DF a) (hb : DF b) (h1 : a.length ≤ 8) (h2 : b.length ≤ 8) (hg : got.length ≤ 8) :
    want.length ≤ 20 ∧ got.length ≤ 20 ∧ a.length ≤ 20 ∧ b.length ≤ 20 ∧ (Builtin.Str.occurrences want (Str.ofString "...") 0 want.length 1).isEmpty = false ∧ Txt.split want (Str.ofString "...") = [a, b] := by
  subst e
  refine ⟨by rw [PySem.Str.length_append, PySem.Str.length_append, dots_len]; omega, by omega, by omega, by omega, ?_, split_two ha hb⟩
  show (Builtin.Str.occurrences (a ++ dots ++ b) dots 0 (a ++ dots ++ b).length 1).isEmpty = false
  rw [occ_two ha hb 1 (by decide)]; rfl
theorem dots_app (a : PySem.Str) : PySem.Str.ofString "..." ++ a = PySem.Str.empty ++ dots ++ a := by rw [PySem.Str.empty_append]; rfl
section mf
open PySem.Builtin PySem.Builtin.Str PySem.StrLaws
theorem ell_right (b got : PySem.Str) (hb : b.length ≤ got.length) : ellAB PySem.Str.empty b got = (got.cps.toList.drop (got.cps.toList.length - b.cps.toList.length) == b.cps.toList) := by
  unfold ellAB
  rw [ends_list, len_list, len_list, show decide (PySem.Str.empty.length = 0) = true from rfl, show PySem.Str.empty.length = 0 from rfl, Nat.zero_add]
  by_cases h0 : b.length = 0
  · have : b.cps.toList = [] := List.eq_nil_of_length_eq_zero (by rw [len_list]; exact h0)
    simp [h0, this]
    exact Nat.le_refl _
  · simp [h0, hb]
end mf
theorem ends_seg {row : List Int} (hb : ∀ f ∈ row, 1 ≤ f ∧ f ≤ 15) {b m e : Nat} (h1 : b ≤ m) (h2 : m < e) (h3 : e ≤ row.length) : ellAB PySem.Str.empty (textOf (seg row b m)) (textOf (seg row (b + 1) e)) = (seg row (e - (m - b)) e == seg row b m) := by
  have l1 : (seg row b m).length = m - b := by rw [seg_len]; omega
  have l2 : (seg row (b + 1) e).length = e - (b + 1) := by rw [seg_len]; omega
  rw [ell_right _ _ (by rw [text_len, text_len, l1, l2]; omega), text_list, text_list, List.length_map, List.length_map, l1, l2, ← List.map_drop]
  have e1 : (seg row (b + 1) e).drop (e - (b + 1) - (m - b)) = seg row (e - (m - b)) e := by
    unfold seg
    rw [List.drop_take, List.drop_drop, show b + 1 + (e - (b + 1) - (m - b)) = e - (m - b) by omega, show e - (b + 1) - (e - (b + 1) - (m - b)) = e - (e - (m - b)) by omega]
  rw [e1]
  exact map_beq _ _ _ fun x hx y hy he => by
    have := hb x (seg_mem hx)
    have := hb y (seg_mem hy)
    omega
theorem num_segs {row : List Int} (hb : ∀ f ∈ row, 1 ≤ f ∧ f ≤ 15) {b m e : Nat} (h1 : b ≤ m) (h2 : m < e) (h3 : e ≤ row.length) : (numOf (seg row (e - (m - b)) e) == numOf (seg row b m)) = (seg row (e - (m - b)) e == seg row b m) :=
  num_beq (by rw [seg_len, seg_len]; omega) (fun f hf => by have := hb f (seg_mem hf); omega) (fun f hf => by have := hb f (seg_mem hf); omega)
theorem num_end {row : List Int} (hb : ∀ f ∈ row, 1 ≤ f ∧ f ≤ 15) {b m e : Nat} (h1 : b ≤ m) (h2 : m < e) (h3 : e ≤ row.length) : ((numOf row).fdiv (16 ^ (row.length - e))).fmod (16 ^ (m - b)) = numOf (seg row (e - (m - b)) e) := by
  have := num_forth hb (b := e - (m - b)) (e := e) (by omega) h3
  rwa [show e - (e - (m - b)) = m - b by omega] at this
theorem againUp_len (row : List Int) (b m q : Nat) : (againUp row b m q).length ≤ q := by
  unfold againUp
  refine Nat.le_trans (List.length_filter_le _ _) ?_
  rw [List.length_map, List.length_range]
  exact Nat.le_refl _
theorem again_bd {row : List Int} {b m e0 : Nat} {er : List Nat} (h : againOf row b m = e0 :: er) : m + 1 ≤ e0 ∧ e0 ≤ row.length := by
  have : e0 ∈ againOf row b m := by rw [h]; exact List.mem_cons_self
  unfold againOf againUp at this
  obtain ⟨k, hk, rfl⟩ := List.mem_map.mp (List.mem_filter.mp this).1
  have := List.mem_range.mp hk
  omega
end
section
/-- words of kinds: the law's plain part, shaped for the kernel -/
def eqN : List Nat → List Nat → Bool
  | [], [] => true
  | [], _ :: _ => false
  | _ :: _, [] => false
  | x :: l, y :: m => Nat.beq x y && eqN l m
theorem eqN_beq : ∀ l m : List Nat, eqN l m = (l == m)
  | [], [] => rfl
  | [], _ :: _ => rfl
  | _ :: _, [] => rfl
  | x :: l, y :: m => by
    unfold eqN
    rw [eqN_beq l m, List.cons_beq_cons]
    congr 1
    by_cases e : x = y
    · subst e; simp
    · rw [beq_eq_false_iff_ne.mpr e]
      cases h : Nat.beq x y with
      | false => rfl
      | true => exact absurd (Nat.eq_of_beq_eq_true h) e
def palN (w : List Nat) (b e : Nat) : Bool := eqN (seg w b e) (seg w b e).reverse
def hasN (s : List Nat) (met : List (List Nat)) : Bool := met.any fun x => eqN x s
def headsN (w : List Nat) (e : Nat) : List Nat := (List.range e).filter fun b => palN w b e
def freshN (w : List Nat) (met : List (List Nat)) (e : Nat) : List (List Nat) := ((headsN w e).map fun b => seg w b e).filter fun s => !hasN s met
def metN (w : List Nat) : Nat → List (List Nat)
  | 0 => []
  | e + 1 => metN w e ++ freshN w (metN w e) (e + 1)
def longN (w : List Nat) (e : Nat) : List Nat := seg w ((headsN w e).getD 0 0) e
def occN (s w : List Nat) : Bool := (List.range (w.length + 1)).any fun i => eqN ((w.drop i).take s.length) s
def againN (w : List Nat) (b m : Nat) : List Nat := ((List.range (w.length - m)).map fun k => m + 1 + k).filter fun e => eqN (seg w (e - (m - b)) e) (seg w b m)
def okN (w : List Nat) (b m : Nat) : Bool := !palN w b m || (match againN w b m with | [] => true | e :: _ => palN w b e)
def strN (w : List Nat) : Bool := (List.range w.length).all fun b => (List.range (w.length - (b + 1))).all fun k => okN w b (b + 1 + k)
def oneN (l : List Nat) : List (List Nat) → Bool
  | [x] => eqN x l
  | _ => false
def stepN (l : List Nat) (met fr : List (List Nat)) : Bool → Bool
  | true => hasN l met && fr.isEmpty
  | false => !hasN l met && oneN l fr
def goN (w : List Nat) : Nat → Nat → List (List Nat) → Bool
  | 0, _, met => strN w == Nat.beq met.length w.length
  | f + 1, i, met => stepN (longN w (i + 1)) met (freshN w met (i + 1)) (occN (longN w (i + 1)) (w.take i)) && goN w f (i + 1) (met ++ freshN w met (i + 1))
def checkN (w : List Nat) : Bool := goN w w.length 0 []
def allN : Nat → List Nat → Bool
  | 0, a => checkN a
  | n + 1, a => allN n (0 :: a) && allN n (1 :: a) && allN n (2 :: a)
theorem allN_of : ∀ (n : Nat) (a : List Nat), allN n a = true → ∀ l : List Nat, l.length = n → (∀ k ∈ l, k ≤ 2) → checkN (l ++ a) = true
  | 0, a, h, l, hl, _ => by rw [List.eq_nil_of_length_eq_zero hl]; exact h
  | n + 1, a, h, l, hl, hk => by
    have hne : l ≠ [] := by intro e; rw [e] at hl; cases hl
    have e := (List.dropLast_concat_getLast hne).symm
    generalize l.dropLast = r at e
    generalize l.getLast hne = f at e
    subst e
    have hf := hk f (by simp)
    have hr : ∀ g ∈ r, g ≤ 2 := fun g hg => hk g (List.mem_append.mpr (.inl hg))
    have hrl : r.length = n := by simpa using hl
    unfold allN at h
    rw [Bool.and_eq_true, Bool.and_eq_true] at h
    rw [List.append_assoc]
    have : f = 0 ∨ f = 1 ∨ f = 2 := by omega
    rcases this with rfl | rfl | rfl
    · exact allN_of n _ h.1.1 r hrl hr
    · exact allN_of n _ h.1.2 r hrl hr
    · exact allN_of n _ h.2 r hrl hr
theorem dn5 : allN 4 [0] = true := by decide +kernel
theorem dn60 : allN 4 [0, 0] = true := by decide +kernel
theorem dn61 : allN 4 [1, 0] = true := by decide +kernel
theorem dn62 : allN 4 [2, 0] = true := by decide +kernel
theorem dn6 : allN 5 [0] = true := by unfold allN; rw [dn60, dn61, dn62]; rfl
theorem check_all {r : List Nat} (h4 : 4 ≤ r.length) (h5 : r.length ≤ 5) (hk : ∀ k ∈ r, k ≤ 2) : checkN (r ++ [0]) = true := by
  rcases (by omega : r.length = 4 ∨ r.length = 5) with h | h
  · exact allN_of _ _ dn5 r h hk
  · exact allN_of _ _ dn6 r h hk
theorem step_of {l : List Nat} {met fr : List (List Nat)} {t : Bool} (h : stepN l met fr t = true) : t = hasN l met ∧ fr = if t = true then [] else [l] := by
  cases t with
  | true =>
    unfold stepN at h
    rw [Bool.and_eq_true] at h
    refine ⟨h.1.symm, ?_⟩
    rw [if_pos rfl]
    exact List.isEmpty_iff.mp h.2
  | false =>
    unfold stepN at h
    rw [Bool.and_eq_true] at h
    refine ⟨by have := h.1; simpa using this.symm, ?_⟩
    rw [if_neg (by decide)]
    have h2 := h.2
    match fr, h2 with
    | [x], h2 =>
      have h2 : eqN x l = true := h2
      rw [eqN_beq] at h2
      rw [eq_of_beq h2]
theorem go_of {w : List Nat} : ∀ {f i : Nat}, goN w f i (metN w i) = true → (∀ j, i ≤ j → j < i + f → occN (longN w (j + 1)) (w.take j) = hasN (longN w (j + 1)) (metN w j) ∧ freshN w (metN w j) (j + 1) = if occN (longN w (j + 1)) (w.take j) = true then [] else [longN w (j + 1)]) ∧ strN w = Nat.beq (metN w (i + f)).length w.length
  | 0, i, h => ⟨fun j h1 h2 => by omega, eq_of_beq h⟩
  | f + 1, i, h => by
    unfold goN at h
    rw [Bool.and_eq_true] at h
    obtain ⟨h1, h2⟩ := h
    have ih := go_of (w := w) (f := f) (i := i + 1) h2
    rw [show i + 1 + f = i + (f + 1) by omega] at ih
    refine ⟨fun j g1 g2 => ?_, ih.2⟩
    by_cases e : j = i
    · subst e
      exact step_of h1
    · exact ih.1 j (by omega) g2
theorem seg_of_metN {w : List Nat} : ∀ {e : Nat} {s : List Nat}, s ∈ metN w e → ∃ a b, s = seg w a b
  | 0, _, h => nomatch h
  | e + 1, s, h => by
    rcases List.mem_append.mp h with h | h
    · exact seg_of_metN h
    · have := (List.mem_filter.mp h).1
      obtain ⟨b, -, rfl⟩ := List.mem_map.mp this
      exact ⟨_, _, rfl⟩
end
section
theorem V64_inj : ∀ {a b : List Int}, a.length = b.length → (∀ x ∈ a, 0 ≤ x ∧ x ≤ 63) → (∀ x ∈ b, 0 ≤ x ∧ x ≤ 63) → V64 a = V64 b → a = b
  | [], [], _, _, _, _ => rfl
  | x :: l, y :: m, hl, ha, hb, h => by
    have hl' : l.length = m.length := by simpa using hl
    have ha' : ∀ z ∈ l, 0 ≤ z ∧ z ≤ 63 := fun z hz => ha z (List.mem_cons_of_mem _ hz)
    have hb' : ∀ z ∈ m, 0 ≤ z ∧ z ≤ 63 := fun z hz => hb z (List.mem_cons_of_mem _ hz)
    have b1 := V64_bd ha'
    have b2 := V64_bd hb'
    unfold V64 at h
    rw [← hl'] at h b2
    have d1 := divmod_pow (q := x) b1.1 b1.2
    have d2 := divmod_pow (q := y) b2.1 b2.2
    rw [h] at d1
    have e1 : x = y := by rw [← d1.1, d2.1]
    have e2 : V64 l = V64 m := by rw [← d1.2, d2.2]
    rw [e1, V64_inj hl' ha' hb' e2]
theorem due_beq {a b : List Int} (hl : a.length = b.length) (ha : ∀ f ∈ a, 1 ≤ f ∧ f ≤ 15) (hb : ∀ f ∈ b, 1 ≤ f ∧ f ≤ 15) : (due64 a == due64 b) = (a == b) := by
  by_cases e : a = b
  · subst e; simp
  · rw [beq_eq_false_iff_ne.mpr e, beq_eq_false_iff_ne]
    intro h
    unfold due64 at h
    have h2 : V64 (a.map (· + 1)) = V64 (b.map (· + 1)) := by omega
    have up : ∀ l : List Int, (∀ f ∈ l, 1 ≤ f ∧ f ≤ 15) → ∀ x ∈ l.map (· + 1), 0 ≤ x ∧ x ≤ 63 := fun l hl x hx => by
      obtain ⟨f, hf, rfl⟩ := List.mem_map.mp hx
      have := hl f hf
      omega
    have h3 := V64_inj (by simpa using hl) (up a ha) (up b hb) h2
    exact e ((List.map_inj_right (f := fun x : Int => x + 1) fun x y hxy => by omega).mp h3)
/-- figures that stand for kinds -/
structure Bri (w : List Nat) (s : Nat → Int) : Prop where
  inj : ∀ x ∈ w, ∀ y ∈ w, s x = s y → x = y
  bd : ∀ x ∈ w, 1 ≤ s x ∧ s x ≤ 15
section bri
variable {w : List Nat} {s : Nat → Int}
theorem Bri.beq (B : Bri w s) {a b : List Nat} (ha : ∀ x ∈ a, x ∈ w) (hb : ∀ x ∈ b, x ∈ w) : (a.map s == b.map s) = eqN a b := by
  rw [eqN_beq]
  exact map_beq s a b fun x hx y hy => B.inj x (ha x hx) y (hb y hy)
theorem Bri.mbd (B : Bri w s) {a : List Nat} (ha : ∀ x ∈ a, x ∈ w) : ∀ f ∈ a.map s, 1 ≤ f ∧ f ≤ 15 := fun f hf => by
  obtain ⟨x, hx, rfl⟩ := List.mem_map.mp hf
  exact B.bd x (ha x hx)
theorem seg_in {a b : Nat} : ∀ x ∈ seg w a b, x ∈ w := fun _ h => seg_mem h
theorem rev_in {a b : Nat} : ∀ x ∈ (seg w a b).reverse, x ∈ w := fun _ h => seg_mem (List.mem_reverse.mp h)
theorem Bri.mir (B : Bri w s) (b e : Nat) : mirB (w.map s) b e = palN w b e := by
  unfold mirB palN
  rw [seg_map, ← List.map_reverse, due_beq (by simp) (B.mbd seg_in) (B.mbd rev_in), B.beq seg_in rev_in]
theorem Bri.heads (B : Bri w s) (e : Nat) : headsOf (w.map s) e = headsN w e := by
  unfold headsOf headsN
  rw [funext fun b => B.mir b e]
theorem Bri.long (B : Bri w s) (e : Nat) : longOf (w.map s) e = (longN w e).map s := by
  unfold longOf longN
  rw [B.heads, seg_map]
theorem Bri.has (B : Bri w s) {met : List (List Nat)} {x : List Nat} (hm : ∀ y ∈ met, ∀ z ∈ y, z ∈ w) (hx : ∀ z ∈ x, z ∈ w) : (met.map (List.map s)).contains (x.map s) = hasN x met := by
  unfold hasN
  rw [List.contains_eq_any_beq, List.any_map]
  rw [Bool.eq_iff_iff, List.any_eq_true, List.any_eq_true]
  constructor
  · rintro ⟨y, hy, h⟩
    refine ⟨y, hy, ?_⟩
    rw [← B.beq (hm y hy) hx]
    have := eq_of_beq h
    rw [← this]
    exact beq_self_eq_true _
  · rintro ⟨y, hy, h⟩
    refine ⟨y, hy, ?_⟩
    rw [← B.beq (hm y hy) hx] at h
    have := eq_of_beq h
    show (x.map s == y.map s) = true
    rw [this]
    exact beq_self_eq_true _
theorem met_in {e : Nat} : ∀ y ∈ metN w e, ∀ z ∈ y, z ∈ w := fun y hy z hz => by
  obtain ⟨a, b, rfl⟩ := seg_of_metN hy
  exact seg_mem hz
theorem Bri.fresh (B : Bri w s) {met : List (List Nat)} (hm : ∀ y ∈ met, ∀ z ∈ y, z ∈ w) (e : Nat) : freshOf (w.map s) (met.map (List.map s)) e = (freshN w met e).map (List.map s) := by
  unfold freshOf freshN
  rw [B.heads]
  have e1 : (headsN w e).map (fun b => seg (w.map s) b e) = ((headsN w e).map fun b => seg w b e).map (List.map s) := by
    rw [List.map_map]
    refine List.map_congr_left fun b _ => ?_
    rw [seg_map]; rfl
  rw [e1, List.filter_map]
  congr 1
  refine List.filter_congr fun x hx => ?_
  obtain ⟨b, -, rfl⟩ := List.mem_map.mp hx
  show (!(met.map (List.map s)).contains ((seg w b e).map s)) = _
  rw [B.has hm seg_in]
theorem Bri.met (B : Bri w s) : ∀ e : Nat, metUp (w.map s) e = (metN w e).map (List.map s)
  | 0 => rfl
  | e + 1 => by
    unfold metUp metN
    rw [B.met e, B.fresh met_in, List.map_append]
theorem Bri.occ (B : Bri w s) {a b : List Nat} (ha : ∀ z ∈ a, z ∈ w) (hb : ∀ z ∈ b, z ∈ w) : occB (textOf (a.map s)) (textOf (b.map s)) = occN a b := by
  rw [Bool.eq_iff_iff]
  unfold occB
  rw [PySem.StrLaws.found_iff]
  unfold occN
  rw [List.any_eq_true]
  have key : ∀ i, PySem.Builtin.Str.subAt (textOf (b.map s)) (textOf (a.map s)) i = eqN ((b.drop i).take a.length) a := fun i => by
    have hd : ∀ z ∈ (b.drop i).take a.length, z ∈ w := fun z hz => hb z (List.mem_of_mem_drop (List.mem_of_mem_take hz))
    rw [PySem.StrLaws.subAt_eq, text_list, text_list, text_len, List.length_map, ← List.map_drop, ← List.map_take, ← List.map_drop, ← List.map_take, ← B.beq hd ha]
    exact map_beq _ _ _ fun x hx y hy h => by
      have := B.mbd hd x hx
      have := B.mbd ha y hy
      omega
  constructor
  · rintro ⟨i, h1, h2⟩
    rw [text_len, text_len, List.length_map, List.length_map] at h1
    exact ⟨i, List.mem_range.mpr (by omega), by rw [← key]; exact h2⟩
  · rintro ⟨i, h1, h2⟩
    have h1 := List.mem_range.mp h1
    refine ⟨i, ?_, by rw [key]; exact h2⟩
    rw [text_len, text_len, List.length_map, List.length_map]
    rw [eqN_beq] at h2
    have := congrArg List.length (eq_of_beq h2)
    rw [List.length_take, List.length_drop] at this
    omega
theorem Bri.again (B : Bri w s) (b m : Nat) : againOf (w.map s) b m = againN w b m := by
  unfold againOf againUp againN
  rw [List.length_map]
  congr 1
  funext e
  rw [seg_map, seg_map, B.beq seg_in seg_in]
theorem Bri.ok (B : Bri w s) (b m : Nat) : okAt (w.map s) b m = okN w b m := by
  unfold okAt okN
  rw [B.again, B.mir]
  congr 1
  cases againN w b m with
  | nil => rfl
  | cons e r => exact B.mir b e
theorem Bri.str (B : Bri w s) : strUp (w.map s) (w.map s).length = strN w := by
  unfold strUp strN okUp
  rw [List.length_map]
  congr 1
  funext b
  congr 1
  funext k
  exact B.ok b _
end bri
/-- the kinds, turned so that the last one is nought -/
theorem Row.bri {row : List Int} (h : Row row) : ∃ (r : List Nat) (s : Nat → Int), row = (r ++ [0]).map s ∧ Bri (r ++ [0]) s ∧ (∀ k ∈ r, k ≤ 2) ∧ 4 ≤ r.length ∧ r.length ≤ 5 := by
  have hb := h.bd
  obtain ⟨m, ks, rfl, hk, h5, h6⟩ := h
  have hne : ks ≠ [] := by intro e; rw [e] at h5; exact absurd h5 (by decide)
  have el := (List.dropLast_concat_getLast hne).symm
  generalize ks.dropLast = q at el
  generalize ks.getLast hne = l at el
  subst el
  have e : (q ++ [l]).map (fun k => 1 + (m + 5 * k).fmod 15) = (q.map (fun k => ((k - l) % 3).toNat) ++ [0]).map fun (n : Nat) => 1 + (m + 5 * l + 5 * (n : Int)).fmod 15 := by
    rw [List.map_append, List.map_append, List.map_map]
    congr 1
    · refine List.map_congr_left fun k _ => ?_
      show _ = 1 + (m + 5 * l + 5 * ((((k - l) % 3).toNat : Nat) : Int)).fmod 15
      rw [Int.fmod_eq_emod_of_nonneg _ (by decide), Int.fmod_eq_emod_of_nonneg _ (by decide)]
      omega
    · show [1 + (m + 5 * l).fmod 15] = [1 + (m + 5 * l + 5 * ((0 : Nat) : Int)).fmod 15]
      rw [show m + 5 * l + 5 * ((0 : Nat) : Int) = m + 5 * l by omega]
  have h2 : ∀ k ∈ q.map (fun k => ((k - l) % 3).toNat), k ≤ 2 := fun k hk' => by
    obtain ⟨x, hx, rfl⟩ := List.mem_map.mp hk'
    omega
  have h3 : ∀ k ∈ q.map (fun k => ((k - l) % 3).toNat) ++ [0], k ≤ 2 := fun k hk' => by
    rcases List.mem_append.mp hk' with g | g
    · exact h2 k g
    · rw [List.mem_singleton.mp g]; exact Nat.zero_le _
  rw [List.length_append, List.length_singleton] at h5 h6
  refine ⟨q.map (fun k => ((k - l) % 3).toNat), _, e, ⟨fun x hx y hy hxy => ?_, fun x hx => ?_⟩, h2, by rw [List.length_map]; omega, by rw [List.length_map]; omega⟩
  · have g1 := h3 x hx
    have g2 := h3 y hy
    have hxy : 1 + (m + 5 * l + 5 * (x : Int)).fmod 15 = 1 + (m + 5 * l + 5 * (y : Int)).fmod 15 := hxy
    rw [Int.fmod_eq_emod_of_nonneg _ (by decide), Int.fmod_eq_emod_of_nonneg _ (by decide)] at hxy
    omega
  · rw [e] at hb
    exact hb _ (List.mem_map.mpr ⟨x, hx, rfl⟩)
theorem long_in {w : List Nat} {e : Nat} : ∀ x ∈ longN w e, x ∈ w := fun _ h => seg_mem h
theorem take_in {w : List Nat} {i : Nat} : ∀ x ∈ w.take i, x ∈ w := fun _ h => List.mem_of_mem_take h
theorem plain_both {row : List Int} (h : Row row) {i : Nat} (hi : i < row.length) : occB (textOf (longOf row (i + 1))) (textOf (row.take i)) = (metUp row i).contains (longOf row (i + 1)) ∧ freshOf row (metUp row i) (i + 1) = if occB (textOf (longOf row (i + 1))) (textOf (row.take i)) = true then [] else [longOf row (i + 1)] := by
  obtain ⟨r, s, rfl, B, h2, h5, h6⟩ := h.bri
  have hc := check_all h5 h6 h2
  generalize r ++ [0] = w at *
  rw [List.length_map] at hi
  have g := (go_of (w := w) (f := w.length) (i := 0) hc).1 i (Nat.zero_le _) (by omega)
  rw [B.long, B.met, ← List.map_take, B.occ long_in take_in, B.has met_in long_in, B.fresh met_in]
  refine ⟨g.1, ?_⟩
  rw [g.2]
  cases occN (longN w (i + 1)) (w.take i) <;> rfl
theorem plain_fresh {row : List Int} (h : Row row) {i : Nat} (hi : i < row.length) : freshOf row (metUp row i) (i + 1) = if occB (textOf (longOf row (i + 1))) (textOf (row.take i)) = true then [] else [longOf row (i + 1)] := (plain_both h hi).2
theorem plain_told {row : List Int} (h : Row row) {i : Nat} (hi : i < row.length) : occB (textOf (longOf row (i + 1))) (textOf (row.take i)) = (metUp row i).contains (longOf row (i + 1)) := (plain_both h hi).1
theorem plain_final {row : List Int} (h : Row row) : strUp row row.length = decide ((metUp row row.length).length = row.length) := by
  obtain ⟨r, s, rfl, B, h2, h5, h6⟩ := h.bri
  have hc := check_all h5 h6 h2
  generalize r ++ [0] = w at *
  have g := (go_of (w := w) (f := w.length) (i := 0) hc).2
  rw [Nat.zero_add] at g
  rw [B.str, B.met, List.length_map, List.length_map, g]
  by_cases e : (metN w w.length).length = w.length
  · rw [e, decide_eq_true rfl]; exact Nat.beq_refl _
  · rw [decide_eq_false e]
    cases hb : Nat.beq (metN w w.length).length w.length with
    | false => rfl
    | true => exact absurd (Nat.eq_of_beq_eq_true hb) e
end
structure Hole (p : Prop) : Prop where
  out : p
noncomputable def mkSt {P G : Prop} (h : Hole G → P) : {G : Prop // Hole G → P} := ⟨G, h⟩
section
noncomputable def stLw : {G : Prop // Hole G → PySem.Challenge.rw_ty0005_02.Holds} := mkSt (by
  intro hG
  refine hd ?_
  w_strict (k_go0; (all_goals try k_fold))
  w_strict (repeat' ((fail_if_success first | (with_reducible show wpAny _ _ (call (Value.builtin "next") _) _ _ _) | (with_reducible show wpAny _ _ (call (Value.builtin "iter") _) _ _ _) | (with_reducible show wpAny _ _ (pyIter _) _ _ _) | (with_reducible show wpAny _ _ (exec (Stmt.While _ _ _ _) _) _ _ _) | (with_reducible show wpAny _ _ (call (Value.ref 28) _) _ _ _) | (with_reducible show wpAny _ _ (call (Value.ref 35) _) _ _ _) | (with_reducible show wpAny _ _ (call (Value.ref 40) _) _ _ _) | (with_reducible show wpAny _ _ (call (Value.ref 47) _) _ _ _) | (with_reducible show wpAny _ _ (call (Value.ref 61) _) _ _ _) | (with_reducible show wpAny _ _ (call (Value.builtin "len") [Value.ref _]) _ _ _) | (with_reducible show wpAny _ _ (call (Value.builtin "sum") [Value.ref _]) _ _ _) | (with_reducible show wpAny _ _ (call (Value.builtin "max") _) _ _ _) | (with_reducible show wpAny _ _ (exec (Stmt.Assign _ (Expr.ListComp _ _ _ _) _) _) _ _ _) | (with_reducible show wpAny _ _ (eval (Expr.ListComp _ _ _ _) _) _ _ _) | (with_reducible show wpAny _ _ (call (Value.builtin "str.join") _) _ _ _) | (with_reducible show LCg.CompSrc _ _ _ _ _ _ _ _ _ _ _ _ _ _) | (with_reducible show SrcB _ _ _ _ _ _ _ _ _ _ _ _ _ _)); first | (k_unfold; (try dsimp only)) | (k_end; kc_close) | walk1 | (dsimp only; walk1) | (leave1; walk_say "STEP leave1"; (try dsimp only)) | fail "no step"))
  repeat (rename _ => zz; revert zz)
  exact fun h => h.out)
end
section
noncomputable def stLwB : {G : Prop // Hole G → stLw.1} := mkSt (by
  intro hG
  intro _
  intros
  rename Heap.IsList _ _ (List.toArray _) => hLs
  rename ¬ ((63 : Nat) : Int) < _ => h63
  rename IntsAre _ _ => hIs
  refine' c_row _ _ _ _ _ _ _ _ _ _ _ _ _ _ _ _ _ _ _ _ _ _ _ _ _ ?k1 ?k2 ?k3 ?k4 ?k5 ?kK ?kp ?kd ?ku ?kR
  case k1 => k_asm
  case k2 => k_asm
  case k3 => k_asm
  case k4 => k_asm
  case k5 => k_asm
  case kK => exact rfl
  case kp => (refine' ⟨hLs, hIs, ?_⟩; omega)
  case kd => ktr_room
  case ku => ktr_units
  intro r9 n9 h9 tk9 F9 N9 O9
  obtain ⟨Df, vf, kf, rfl, rfl, hf, of⟩ := O9
  simp only [LCg.Off1] at of
  have of' := of
  rename IntsAre vf (rowOf _) => hf
  have hrw := (fun ns (h : IntsAre vf (rowOf ns)) => row_of ns) _ hf
  generalize rowOf _ = row at hf hrw
  have hrl := hrw.len
  have hrb := hrw.bd
  have hvl := hf.length
  w_strict (repeat' ((fail_if_success first | (with_reducible show wpAny _ _ (call (Value.builtin "next") _) _ _ _) | (with_reducible show wpAny _ _ (call (Value.builtin "iter") _) _ _ _) | (with_reducible show wpAny _ _ (pyIter _) _ _ _) | (with_reducible show wpAny _ _ (exec (Stmt.While _ _ _ _) _) _ _ _) | (with_reducible show wpAny _ _ (call (Value.ref 28) _) _ _ _) | (with_reducible show wpAny _ _ (call (Value.ref 35) _) _ _ _) | (with_reducible show wpAny _ _ (call (Value.ref 40) _) _ _ _) | (with_reducible show wpAny _ _ (call (Value.ref 47) _) _ _ _) | (with_reducible show wpAny _ _ (call (Value.ref 61) _) _ _ _) | (with_reducible show wpAny _ _ (call (Value.builtin "len") [Value.ref _]) _ _ _) | (with_reducible show wpAny _ _ (call (Value.builtin "sum") [Value.ref _]) _ _ _) | (with_reducible show wpAny _ _ (call (Value.builtin "max") _) _ _ _) | (with_reducible show wpAny _ _ (exec (Stmt.Assign _ (Expr.ListComp _ _ _ _) _) _) _ _ _) | (with_reducible show wpAny _ _ (eval (Expr.ListComp _ _ _ _) _) _ _ _) | (with_reducible show wpAny _ _ (call (Value.builtin "str.join") _) _ _ _) | (with_reducible show LCg.CompSrc _ _ _ _ _ _ _ _ _ _ _ _ _ _) | (with_reducible show SrcB _ _ _ _ _ _ _ _ _ _ _ _ _ _)); first | (k_unfold; (try dsimp only)) | (k_end; kc_close) | walk1 | (dsimp only; walk1) | (leave1; walk_say "STEP leave1"; (try dsimp only)) | fail "no step"))
  refine KM.len_K (by k_asm) (by k_mem) (by exact hvl) (by omega) ?_
  w_strict (repeat' ((fail_if_success first | (with_reducible show wpAny _ _ (call (Value.builtin "next") _) _ _ _) | (with_reducible show wpAny _ _ (call (Value.builtin "iter") _) _ _ _) | (with_reducible show wpAny _ _ (pyIter _) _ _ _) | (with_reducible show wpAny _ _ (exec (Stmt.While _ _ _ _) _) _ _ _) | (with_reducible show wpAny _ _ (call (Value.ref 28) _) _ _ _) | (with_reducible show wpAny _ _ (call (Value.ref 35) _) _ _ _) | (with_reducible show wpAny _ _ (call (Value.ref 40) _) _ _ _) | (with_reducible show wpAny _ _ (call (Value.ref 47) _) _ _ _) | (with_reducible show wpAny _ _ (call (Value.ref 61) _) _ _ _) | (with_reducible show wpAny _ _ (call (Value.builtin "len") [Value.ref _]) _ _ _) | (with_reducible show wpAny _ _ (call (Value.builtin "sum") [Value.ref _]) _ _ _) | (with_reducible show wpAny _ _ (call (Value.builtin "max") _) _ _ _) | (with_reducible show wpAny _ _ (exec (Stmt.Assign _ (Expr.ListComp _ _ _ _) _) _) _ _ _) | (with_reducible show wpAny _ _ (eval (Expr.ListComp _ _ _ _) _) _ _ _) | (with_reducible show wpAny _ _ (call (Value.builtin "str.join") _) _ _ _) | (with_reducible show LCg.CompSrc _ _ _ _ _ _ _ _ _ _ _ _ _ _) | (with_reducible show SrcB _ _ _ _ _ _ _ _ _ _ _ _ _ _)); first | (k_unfold; (try dsimp only)) | (k_end; kc_close) | walk1 | (dsimp only; walk1) | (leave1; walk_say "STEP leave1"; (try dsimp only)) | fail "no step"))
  refine' cl_use (c_s16 _ _ _ _ Df _ vf row _) ?k1x1 ?k2x1 ?k3x1 ?k4x1 ?k5x1 ?kKx1 ?kpx1 ?kdx1 ?kux1 ?kRx1
  case k1x1 => k_asm
  case k2x1 => k_asm
  case k3x1 => k_asm
  case k4x1 => k_asm
  case k5x1 => k_asm
  case kKx1 => exact rfl
  case kpx1 => exact ⟨by k_mem, hf, by omega, hrb⟩
  case kdx1 => ktr_room
  case kux1 => ktr_units
  intro t9 h9 tk9 F9 N9
  w_strict (repeat' ((fail_if_success first | (with_reducible show wpAny _ _ (call (Value.builtin "next") _) _ _ _) | (with_reducible show wpAny _ _ (call (Value.builtin "iter") _) _ _ _) | (with_reducible show wpAny _ _ (pyIter _) _ _ _) | (with_reducible show wpAny _ _ (exec (Stmt.While _ _ _ _) _) _ _ _) | (with_reducible show wpAny _ _ (call (Value.ref 28) _) _ _ _) | (with_reducible show wpAny _ _ (call (Value.ref 35) _) _ _ _) | (with_reducible show wpAny _ _ (call (Value.ref 40) _) _ _ _) | (with_reducible show wpAny _ _ (call (Value.ref 47) _) _ _ _) | (with_reducible show wpAny _ _ (call (Value.ref 61) _) _ _ _) | (with_reducible show wpAny _ _ (call (Value.builtin "len") [Value.ref _]) _ _ _) | (with_reducible show wpAny _ _ (call (Value.builtin "sum") [Value.ref _]) _ _ _) | (with_reducible show wpAny _ _ (call (Value.builtin "max") _) _ _ _) | (with_reducible show wpAny _ _ (exec (Stmt.Assign _ (Expr.ListComp _ _ _ _) _) _) _ _ _) | (with_reducible show wpAny _ _ (eval (Expr.ListComp _ _ _ _) _) _ _ _) | (with_reducible show wpAny _ _ (call (Value.builtin "str.join") _) _ _ _) | (with_reducible show LCg.CompSrc _ _ _ _ _ _ _ _ _ _ _ _ _ _) | (with_reducible show SrcB _ _ _ _ _ _ _ _ _ _ _ _ _ _)); first | (k_unfold; (try dsimp only)) | (k_end; kc_close) | walk1 | (dsimp only; walk1) | (leave1; walk_say "STEP leave1"; (try dsimp only)) | fail "no step"))
  rename Fr _ _ _ _ => F3
  refine LCg.ListComp_U (F₀ := F3) (by with_unfolding_all rfl) (by decide) (by rfl) (by decide) (by rfl) ?_
  w_strict (repeat' ((fail_if_success first | (with_reducible show wpAny _ _ (call (Value.builtin "next") _) _ _ _) | (with_reducible show wpAny _ _ (call (Value.builtin "iter") _) _ _ _) | (with_reducible show wpAny _ _ (pyIter _) _ _ _) | (with_reducible show wpAny _ _ (exec (Stmt.While _ _ _ _) _) _ _ _) | (with_reducible show wpAny _ _ (call (Value.ref 28) _) _ _ _) | (with_reducible show wpAny _ _ (call (Value.ref 35) _) _ _ _) | (with_reducible show wpAny _ _ (call (Value.ref 40) _) _ _ _) | (with_reducible show wpAny _ _ (call (Value.ref 47) _) _ _ _) | (with_reducible show wpAny _ _ (call (Value.ref 61) _) _ _ _) | (with_reducible show wpAny _ _ (call (Value.builtin "len") [Value.ref _]) _ _ _) | (with_reducible show wpAny _ _ (call (Value.builtin "sum") [Value.ref _]) _ _ _) | (with_reducible show wpAny _ _ (call (Value.builtin "max") _) _ _ _) | (with_reducible show wpAny _ _ (exec (Stmt.Assign _ (Expr.ListComp _ _ _ _) _) _) _ _ _) | (with_reducible show wpAny _ _ (eval (Expr.ListComp _ _ _ _) _) _ _ _) | (with_reducible show wpAny _ _ (call (Value.builtin "str.join") _) _ _ _) | (with_reducible show LCg.CompSrc _ _ _ _ _ _ _ _ _ _ _ _ _ _) | (with_reducible show SrcB _ _ _ _ _ _ _ _ _ _ _ _ _ _)); first | (k_unfold; (try dsimp only)) | (k_end; kc_close) | walk1 | (dsimp only; walk1) | (leave1; walk_say "STEP leave1"; (try dsimp only)) | fail "no step"))
  rename Fr _ _ _ _ => F6
  rename News _ _ _ _ => N6
  rename IsRange _ _ _ _ _ _ _ _ => R6
  refine LCg.CompSrc.range (by rfl) F6 N6 R6 (small_one (by omega) (by omega) (by omega) (by omega)) (n := row.length) (by rw [rangeSize_nat]; omega) (by rw [sizeLine_eq]; omega) ?_
  clear F6 N6 R6
  intro g9
  refine m_restP (fun j ys => IntsAre ys ((List.range j).map fun k => row.getD (row.length - 1 - k) 0)) .nil ?turn2 ?fin2
  case turn2 =>
    intro j v I7 oI7 C oC D m₂ ys h7 tk7 E' hj hv hR hC hx F7 N7 off7 ne7
    obtain ⟨t8, hv8⟩ := hv
    subst hv8
    w_strict (repeat' ((fail_if_success first | (with_reducible show wpAny _ _ (call (Value.builtin "next") _) _ _ _) | (with_reducible show wpAny _ _ (call (Value.builtin "iter") _) _ _ _) | (with_reducible show wpAny _ _ (pyIter _) _ _ _) | (with_reducible show wpAny _ _ (exec (Stmt.While _ _ _ _) _) _ _ _) | (with_reducible show wpAny _ _ (call (Value.ref 28) _) _ _ _) | (with_reducible show wpAny _ _ (call (Value.ref 35) _) _ _ _) | (with_reducible show wpAny _ _ (call (Value.ref 40) _) _ _ _) | (with_reducible show wpAny _ _ (call (Value.ref 47) _) _ _ _) | (with_reducible show wpAny _ _ (call (Value.ref 61) _) _ _ _) | (with_reducible show wpAny _ _ (call (Value.builtin "len") [Value.ref _]) _ _ _) | (with_reducible show wpAny _ _ (call (Value.builtin "sum") [Value.ref _]) _ _ _) | (with_reducible show wpAny _ _ (call (Value.builtin "max") _) _ _ _) | (with_reducible show wpAny _ _ (exec (Stmt.Assign _ (Expr.ListComp _ _ _ _) _) _) _ _ _) | (with_reducible show wpAny _ _ (eval (Expr.ListComp _ _ _ _) _) _ _ _) | (with_reducible show wpAny _ _ (call (Value.builtin "str.join") _) _ _ _) | (with_reducible show LCg.CompSrc _ _ _ _ _ _ _ _ _ _ _ _ _ _) | (with_reducible show SrcB _ _ _ _ _ _ _ _ _ _ _ _ _ _)); first | (k_unfold; (try dsimp only)) | (k_end; kc_close) | walk1 | (dsimp only; walk1) | (leave1; walk_say "STEP leave1"; (try dsimp only)) | fail "no step"))
    refine LCg.CompEnd.intro (by assumption) (by assumption) _ ?sub off7 trivial ⟨rfl, ?ri⟩
    case sub => kcj_all
    rw [List.range_succ, List.map_append]
    refine ints_snoc hR ?_
    rw [show ((row.length : Int) - 1 - (0 + (j : Int))).toNat = row.length - 1 - j by omega]
  intro ysN hRN
  rw [rev_range] at hRN
  w_strict (repeat' ((fail_if_success first | (with_reducible show wpAny _ _ (call (Value.builtin "next") _) _ _ _) | (with_reducible show wpAny _ _ (call (Value.builtin "iter") _) _ _ _) | (with_reducible show wpAny _ _ (pyIter _) _ _ _) | (with_reducible show wpAny _ _ (exec (Stmt.While _ _ _ _) _) _ _ _) | (with_reducible show wpAny _ _ (call (Value.ref 28) _) _ _ _) | (with_reducible show wpAny _ _ (call (Value.ref 35) _) _ _ _) | (with_reducible show wpAny _ _ (call (Value.ref 40) _) _ _ _) | (with_reducible show wpAny _ _ (call (Value.ref 47) _) _ _ _) | (with_reducible show wpAny _ _ (call (Value.ref 61) _) _ _ _) | (with_reducible show wpAny _ _ (call (Value.builtin "len") [Value.ref _]) _ _ _) | (with_reducible show wpAny _ _ (call (Value.builtin "sum") [Value.ref _]) _ _ _) | (with_reducible show wpAny _ _ (call (Value.builtin "max") _) _ _ _) | (with_reducible show wpAny _ _ (exec (Stmt.Assign _ (Expr.ListComp _ _ _ _) _) _) _ _ _) | (with_reducible show wpAny _ _ (eval (Expr.ListComp _ _ _ _) _) _ _ _) | (with_reducible show wpAny _ _ (call (Value.builtin "str.join") _) _ _ _) | (with_reducible show LCg.CompSrc _ _ _ _ _ _ _ _ _ _ _ _ _ _) | (with_reducible show SrcB _ _ _ _ _ _ _ _ _ _ _ _ _ _)); first | (k_unfold; (try dsimp only)) | (k_end; kc_close) | walk1 | (dsimp only; walk1) | (leave1; walk_say "STEP leave1"; (try dsimp only)) | fail "no step"))
  refine' cl_use (c_s16 _ _ _ _ _ _ ysN row.reverse _) ?k1x2 ?k2x2 ?k3x2 ?k4x2 ?k5x2 ?kKx2 ?kpx2 ?kdx2 ?kux2 ?kRx2
  case k1x2 => k_asm
  case k2x2 => k_asm
  case k3x2 => k_asm
  case k4x2 => k_asm
  case k5x2 => k_asm
  case kKx2 => exact rfl
  case kpx2 => exact ⟨by k_mem, hRN, by rw [List.length_reverse]; omega, rev_bd hrb⟩
  case kdx2 => ktr_room
  case kux2 => ktr_units
  intro t9 h9 tk9 F9 N9
  w_strict (repeat' ((fail_if_success first | (with_reducible show wpAny _ _ (call (Value.builtin "next") _) _ _ _) | (with_reducible show wpAny _ _ (call (Value.builtin "iter") _) _ _ _) | (with_reducible show wpAny _ _ (pyIter _) _ _ _) | (with_reducible show wpAny _ _ (exec (Stmt.While _ _ _ _) _) _ _ _) | (with_reducible show wpAny _ _ (call (Value.ref 28) _) _ _ _) | (with_reducible show wpAny _ _ (call (Value.ref 35) _) _ _ _) | (with_reducible show wpAny _ _ (call (Value.ref 40) _) _ _ _) | (with_reducible show wpAny _ _ (call (Value.ref 47) _) _ _ _) | (with_reducible show wpAny _ _ (call (Value.ref 61) _) _ _ _) | (with_reducible show wpAny _ _ (call (Value.builtin "len") [Value.ref _]) _ _ _) | (with_reducible show wpAny _ _ (call (Value.builtin "sum") [Value.ref _]) _ _ _) | (with_reducible show wpAny _ _ (call (Value.builtin "max") _) _ _ _) | (with_reducible show wpAny _ _ (exec (Stmt.Assign _ (Expr.ListComp _ _ _ _) _) _) _ _ _) | (with_reducible show wpAny _ _ (eval (Expr.ListComp _ _ _ _) _) _ _ _) | (with_reducible show wpAny _ _ (call (Value.builtin "str.join") _) _ _ _) | (with_reducible show LCg.CompSrc _ _ _ _ _ _ _ _ _ _ _ _ _ _) | (with_reducible show SrcB _ _ _ _ _ _ _ _ _ _ _ _ _ _)); first | (k_unfold; (try dsimp only)) | (k_end; kc_close) | walk1 | (dsimp only; walk1) | (leave1; walk_say "STEP leave1"; (try dsimp only)) | fail "no step"))
  have hn1 := num_bd6 hrb hrl.2
  refine' cl_use (c_ap _ _ _ _ (-numOf row) _ _) ?k1x3 ?k2x3 ?k3x3 ?k4x3 ?k5x3 ?kKx3 ?kpx3 ?kdx3 ?kux3 ?kRx3
  case k1x3 => k_asm
  case k2x3 => k_asm
  case k3x3 => k_asm
  case k4x3 => k_asm
  case k5x3 => k_asm
  case kKx3 => exact rfl
  case kpx3 => omega
  case kdx3 => ktr_room
  case kux3 => ktr_units
  intro t9 h9 tk9 F9 N9
  rw [Int.natAbs_neg, ap_word hrb]
  w_strict (repeat' ((fail_if_success first | (with_reducible show wpAny _ _ (call (Value.builtin "next") _) _ _ _) | (with_reducible show wpAny _ _ (call (Value.builtin "iter") _) _ _ _) | (with_reducible show wpAny _ _ (pyIter _) _ _ _) | (with_reducible show wpAny _ _ (exec (Stmt.While _ _ _ _) _) _ _ _) | (with_reducible show wpAny _ _ (call (Value.builtin "len") [Value.ref _]) _ _ _) | (with_reducible show wpAny _ _ (call (Value.type "bytes") _) _ _ _) | (with_reducible show wpAny _ _ (compareOp _ (Value.bytes _ _) _) _ _ _) | (with_reducible show wpAny _ _ (binaryOp Operator.Mult _ _) _ _ _)); first | (k_unfold; (try dsimp only)) | (k_end; kc_close) | walk1 | (dsimp only; walk1) | (leave1; walk_say "STEP leave1"; (try dsimp only)) | fail "no step"))
  rename IntsAre _ (List.map (fun k' => 65 + k') row) => e6
  refine KBa.make_K (by k_asm) (by k_asm) rfl (News.isList (by k_asm) (by k_mem)) e6 (in_word hrb) (by rw [List.length_map]; omega) ?_
  intro h8 t8 k8 F8 N8 in8
  rw [arr_row hrb]
  refine ne_bytes ?_
  rw [show ((wordB row).toArray.toList != (wordB row).toArray.toList) = false from by simp]
  w_strict (repeat' ((fail_if_success first | (with_reducible show wpAny _ _ (call (Value.builtin "next") _) _ _ _) | (with_reducible show wpAny _ _ (call (Value.builtin "iter") _) _ _ _) | (with_reducible show wpAny _ _ (pyIter _) _ _ _) | (with_reducible show wpAny _ _ (exec (Stmt.While _ _ _ _) _) _ _ _) | (with_reducible show wpAny _ _ (call (Value.ref 28) _) _ _ _) | (with_reducible show wpAny _ _ (call (Value.ref 35) _) _ _ _) | (with_reducible show wpAny _ _ (call (Value.ref 40) _) _ _ _) | (with_reducible show wpAny _ _ (call (Value.ref 47) _) _ _ _) | (with_reducible show wpAny _ _ (call (Value.ref 61) _) _ _ _) | (with_reducible show wpAny _ _ (call (Value.builtin "len") [Value.ref _]) _ _ _) | (with_reducible show wpAny _ _ (call (Value.builtin "sum") [Value.ref _]) _ _ _) | (with_reducible show wpAny _ _ (call (Value.builtin "max") _) _ _ _) | (with_reducible show wpAny _ _ (exec (Stmt.Assign _ (Expr.ListComp _ _ _ _) _) _) _ _ _) | (with_reducible show wpAny _ _ (eval (Expr.ListComp _ _ _ _) _) _ _ _) | (with_reducible show wpAny _ _ (call (Value.builtin "str.join") _) _ _ _) | (with_reducible show LCg.CompSrc _ _ _ _ _ _ _ _ _ _ _ _ _ _) | (with_reducible show SrcB _ _ _ _ _ _ _ _ _ _ _ _ _ _)); first | (k_unfold; (try dsimp only)) | (k_end; kc_close) | walk1 | (dsimp only; walk1) | (leave1; walk_say "STEP leave1"; (try dsimp only)) | fail "no step"))
  repeat (rename _ => zz; revert zz)
  exact fun h => h.out)
end
section
noncomputable def stLwC : {G : Prop // Hole G → stLwB.1} := mkSt (by
  intro hG
  intro _
  intros
  rename List Int => row
  rename Row _ => hrw
  have hrl := hrw.len
  have hrb := hrw.bd
  refine' clO_use (c_mir _ _ _ _ row _ _ _ _) ?k1x4 ?k2x4 ?k3x4 ?k4x4 ?k5x4 ?kKx4 ?kpx4 ?kdx4 ?kux4 ?kRx4
  case k1x4 => k_asm
  case k2x4 => k_asm
  case k3x4 => k_asm
  case k4x4 => k_asm
  case k5x4 => k_asm
  case kKx4 => exact rfl
  case kpx4 => exact ⟨hrl.1, hrl.2, hrb⟩
  case kdx4 => ktr_room
  case kux4 => ktr_units
  intro r9 n9 h9 tk9 F9 N9 O9
  obtain ⟨DM, rows, kM, eM1, eM2, hRM, offM, hap⟩ := O9
  subst eM1 eM2
  simp only [List.cons_append, List.nil_append] at N9 offM
  simp only [List.forall_mem_cons] at hap
  obtain ⟨ap1, ap2, ap3, ap4, ap5, ap6, ap7, ap8, ap9, -⟩ := hap
  simp only [LCg.Off1] at offM
  w_strict (repeat' ((fail_if_success first | (with_reducible show wpAny _ _ (call (Value.builtin "next") _) _ _ _) | (with_reducible show wpAny _ _ (call (Value.builtin "iter") _) _ _ _) | (with_reducible show wpAny _ _ (pyIter _) _ _ _) | (with_reducible show wpAny _ _ (exec (Stmt.While _ _ _ _) _) _ _ _) | (with_reducible show wpAny _ _ (call (Value.ref 28) _) _ _ _) | (with_reducible show wpAny _ _ (call (Value.ref 35) _) _ _ _) | (with_reducible show wpAny _ _ (call (Value.ref 40) _) _ _ _) | (with_reducible show wpAny _ _ (call (Value.ref 47) _) _ _ _) | (with_reducible show wpAny _ _ (call (Value.ref 61) _) _ _ _) | (with_reducible show wpAny _ _ (call (Value.builtin "len") [Value.ref _]) _ _ _) | (with_reducible show wpAny _ _ (call (Value.builtin "sum") [Value.ref _]) _ _ _) | (with_reducible show wpAny _ _ (call (Value.builtin "max") _) _ _ _) | (with_reducible show wpAny _ _ (exec (Stmt.Assign _ (Expr.ListComp _ _ _ _) _) _) _ _ _) | (with_reducible show wpAny _ _ (eval (Expr.ListComp _ _ _ _) _) _ _ _) | (with_reducible show wpAny _ _ (call (Value.builtin "str.join") _) _ _ _) | (with_reducible show LCg.CompSrc _ _ _ _ _ _ _ _ _ _ _ _ _ _) | (with_reducible show SrcB _ _ _ _ _ _ _ _ _ _ _ _ _ _) | (with_reducible show wpAny _ _ (compareOp CmpOp.Eq (Value.ref _) (Value.ref _)) _ _ _)); first | (k_unfold; (try dsimp only)) | (k_end; kc_close) | walk1 | (dsimp only; walk1) | (leave1; walk_say "STEP leave1"; (try dsimp only)) | fail "no step"))
  have hml : (refsK rows).length = row.length := by rw [refsK_len, hRM.1]
  rename News _ _ _ _ => N3
  refine PySem.SeqAt.eq_list_lengthsAt (items := (refsK rows).toArray) (items2 := #[]) (News.isList N3 (by k_mem)) (News.isList N3 (by k_mem)) (by show ((refsK rows).length != 0) = true; rw [hml]; exact bne_iff_ne.mpr (by omega)) (by units_room) ?_
  w_strict (repeat' ((fail_if_success first | (with_reducible show wpAny _ _ (call (Value.builtin "next") _) _ _ _) | (with_reducible show wpAny _ _ (call (Value.builtin "iter") _) _ _ _) | (with_reducible show wpAny _ _ (pyIter _) _ _ _) | (with_reducible show wpAny _ _ (exec (Stmt.While _ _ _ _) _) _ _ _) | (with_reducible show wpAny _ _ (call (Value.ref 28) _) _ _ _) | (with_reducible show wpAny _ _ (call (Value.ref 35) _) _ _ _) | (with_reducible show wpAny _ _ (call (Value.ref 40) _) _ _ _) | (with_reducible show wpAny _ _ (call (Value.ref 47) _) _ _ _) | (with_reducible show wpAny _ _ (call (Value.ref 61) _) _ _ _) | (with_reducible show wpAny _ _ (call (Value.builtin "len") [Value.ref _]) _ _ _) | (with_reducible show wpAny _ _ (call (Value.builtin "sum") [Value.ref _]) _ _ _) | (with_reducible show wpAny _ _ (call (Value.builtin "max") _) _ _ _) | (with_reducible show wpAny _ _ (exec (Stmt.Assign _ (Expr.ListComp _ _ _ _) _) _) _ _ _) | (with_reducible show wpAny _ _ (eval (Expr.ListComp _ _ _ _) _) _ _ _) | (with_reducible show wpAny _ _ (call (Value.builtin "str.join") _) _ _ _) | (with_reducible show LCg.CompSrc _ _ _ _ _ _ _ _ _ _ _ _ _ _) | (with_reducible show SrcB _ _ _ _ _ _ _ _ _ _ _ _ _ _) | (with_reducible show wpAny _ _ (compareOp CmpOp.Eq (Value.ref _) (Value.ref _)) _ _ _)); first | (k_unfold; (try dsimp only)) | (k_end; kc_close) | walk1 | (dsimp only; walk1) | (leave1; walk_say "STEP leave1"; (try dsimp only)) | fail "no step"))
  have hwl : (wordB row).toArray.size = row.length := by simp [wordB]
  rename Fr _ _ _ _ => F3
  refine ListComp_B (F₀ := F3) (by with_unfolding_all rfl) (by decide) (by rfl) (by decide) (by rfl) ?_
  w_strict (repeat' ((fail_if_success first | (with_reducible show wpAny _ _ (call (Value.builtin "next") _) _ _ _) | (with_reducible show wpAny _ _ (call (Value.builtin "iter") _) _ _ _) | (with_reducible show wpAny _ _ (pyIter _) _ _ _) | (with_reducible show wpAny _ _ (exec (Stmt.While _ _ _ _) _) _ _ _) | (with_reducible show wpAny _ _ (call (Value.ref 28) _) _ _ _) | (with_reducible show wpAny _ _ (call (Value.ref 35) _) _ _ _) | (with_reducible show wpAny _ _ (call (Value.ref 40) _) _ _ _) | (with_reducible show wpAny _ _ (call (Value.ref 47) _) _ _ _) | (with_reducible show wpAny _ _ (call (Value.ref 61) _) _ _ _) | (with_reducible show wpAny _ _ (call (Value.builtin "len") [Value.ref _]) _ _ _) | (with_reducible show wpAny _ _ (call (Value.builtin "sum") [Value.ref _]) _ _ _) | (with_reducible show wpAny _ _ (call (Value.builtin "max") _) _ _ _) | (with_reducible show wpAny _ _ (exec (Stmt.Assign _ (Expr.ListComp _ _ _ _) _) _) _ _ _) | (with_reducible show wpAny _ _ (eval (Expr.ListComp _ _ _ _) _) _ _ _) | (with_reducible show wpAny _ _ (call (Value.builtin "str.join") _) _ _ _) | (with_reducible show LCg.CompSrc _ _ _ _ _ _ _ _ _ _ _ _ _ _) | (with_reducible show SrcB _ _ _ _ _ _ _ _ _ _ _ _ _ _) | (with_reducible show wpAny _ _ (compareOp CmpOp.Eq (Value.ref _) (Value.ref _)) _ _ _)); first | (k_unfold; (try dsimp only)) | (k_end; kc_close) | walk1 | (dsimp only; walk1) | (leave1; walk_say "STEP leave1"; (try dsimp only)) | fail "no step"))
  rename Fr _ _ _ _ => F6
  rename News _ _ _ _ => N6
  refine SrcB.intro (by rfl) F6 N6 (by rw [sizeLine_eq]; omega) ?_
  clear F6 N6
  intro g9
  refine m_restP (fun j ys => StrsAre ys ((row.take j).map chrOf)) .nil ?turn2 ?fin2
  case turn2 =>
    intro j v I7 oI7 C oC D m₂ ys h7 tk7 E' hj hv hR hC hx F7 N7 off7 ne7
    obtain ⟨c, t8, hc8, hv8⟩ := hv
    subst hv8
    have hc9 : (c.toNat : Int) < 256 := by have := c.toNat_lt; omega
    w_strict (repeat' ((fail_if_success first | (with_reducible show wpAny _ _ (call (Value.builtin "next") _) _ _ _) | (with_reducible show wpAny _ _ (call (Value.builtin "iter") _) _ _ _) | (with_reducible show wpAny _ _ (pyIter _) _ _ _) | (with_reducible show wpAny _ _ (exec (Stmt.While _ _ _ _) _) _ _ _) | (with_reducible show wpAny _ _ (call (Value.ref 28) _) _ _ _) | (with_reducible show wpAny _ _ (call (Value.ref 35) _) _ _ _) | (with_reducible show wpAny _ _ (call (Value.ref 40) _) _ _ _) | (with_reducible show wpAny _ _ (call (Value.ref 47) _) _ _ _) | (with_reducible show wpAny _ _ (call (Value.ref 61) _) _ _ _) | (with_reducible show wpAny _ _ (call (Value.builtin "len") [Value.ref _]) _ _ _) | (with_reducible show wpAny _ _ (call (Value.builtin "sum") [Value.ref _]) _ _ _) | (with_reducible show wpAny _ _ (call (Value.builtin "max") _) _ _ _) | (with_reducible show wpAny _ _ (exec (Stmt.Assign _ (Expr.ListComp _ _ _ _) _) _) _ _ _) | (with_reducible show wpAny _ _ (eval (Expr.ListComp _ _ _ _) _) _ _ _) | (with_reducible show wpAny _ _ (call (Value.builtin "str.join") _) _ _ _) | (with_reducible show LCg.CompSrc _ _ _ _ _ _ _ _ _ _ _ _ _ _) | (with_reducible show SrcB _ _ _ _ _ _ _ _ _ _ _ _ _ _) | (with_reducible show wpAny _ _ (compareOp CmpOp.Eq (Value.ref _) (Value.ref _)) _ _ _)); first | (k_unfold; (try dsimp only)) | (k_end; kc_close) | walk1 | (dsimp only; walk1) | (leave1; walk_say "STEP leave1"; (try dsimp only)) | fail "no step"))
    refine LCg.CompEnd.intro (by assumption) (by assumption) _ ?sub off7 trivial ⟨rfl, ?ri⟩
    case sub => kcj_all
    exact strs_turn hrb hj hc8 hR
  intro ysT hRT
  rw [hwl, List.take_length] at hRT
  w_strict (repeat' ((fail_if_success first | (with_reducible show wpAny _ _ (call (Value.builtin "next") _) _ _ _) | (with_reducible show wpAny _ _ (call (Value.builtin "iter") _) _ _ _) | (with_reducible show wpAny _ _ (pyIter _) _ _ _) | (with_reducible show wpAny _ _ (exec (Stmt.While _ _ _ _) _) _ _ _) | (with_reducible show wpAny _ _ (call (Value.ref 28) _) _ _ _) | (with_reducible show wpAny _ _ (call (Value.ref 35) _) _ _ _) | (with_reducible show wpAny _ _ (call (Value.ref 40) _) _ _ _) | (with_reducible show wpAny _ _ (call (Value.ref 47) _) _ _ _) | (with_reducible show wpAny _ _ (call (Value.ref 61) _) _ _ _) | (with_reducible show wpAny _ _ (call (Value.builtin "len") [Value.ref _]) _ _ _) | (with_reducible show wpAny _ _ (call (Value.builtin "sum") [Value.ref _]) _ _ _) | (with_reducible show wpAny _ _ (call (Value.builtin "max") _) _ _ _) | (with_reducible show wpAny _ _ (exec (Stmt.Assign _ (Expr.ListComp _ _ _ _) _) _) _ _ _) | (with_reducible show wpAny _ _ (eval (Expr.ListComp _ _ _ _) _) _ _ _) | (with_reducible show wpAny _ _ (call (Value.builtin "str.join") _) _ _ _) | (with_reducible show LCg.CompSrc _ _ _ _ _ _ _ _ _ _ _ _ _ _) | (with_reducible show SrcB _ _ _ _ _ _ _ _ _ _ _ _ _ _) | (with_reducible show wpAny _ _ (compareOp CmpOp.Eq (Value.ref _) (Value.ref _)) _ _ _)); first | (k_unfold; (try dsimp only)) | (k_end; kc_close) | walk1 | (dsimp only; walk1) | (leave1; walk_say "STEP leave1"; (try dsimp only)) | fail "no step"))
  refine join_list (News.isList (by k_asm) (by k_mem)) hRT (join_hok row (by omega)) ?_
  intro tT kT
  rw [join_chr]
  w_strict (repeat' ((fail_if_success first | (with_reducible show wpAny _ _ (call (Value.builtin "next") _) _ _ _) | (with_reducible show wpAny _ _ (call (Value.builtin "iter") _) _ _ _) | (with_reducible show wpAny _ _ (pyIter _) _ _ _) | (with_reducible show wpAny _ _ (exec (Stmt.While _ _ _ _) _) _ _ _) | (with_reducible show wpAny _ _ (call (Value.ref 28) _) _ _ _) | (with_reducible show wpAny _ _ (call (Value.ref 35) _) _ _ _) | (with_reducible show wpAny _ _ (call (Value.ref 40) _) _ _ _) | (with_reducible show wpAny _ _ (call (Value.ref 47) _) _ _ _) | (with_reducible show wpAny _ _ (call (Value.ref 61) _) _ _ _) | (with_reducible show wpAny _ _ (call (Value.builtin "len") [Value.ref _]) _ _ _) | (with_reducible show wpAny _ _ (call (Value.builtin "sum") [Value.ref _]) _ _ _) | (with_reducible show wpAny _ _ (call (Value.builtin "max") _) _ _ _) | (with_reducible show wpAny _ _ (exec (Stmt.Assign _ (Expr.ListComp _ _ _ _) _) _) _ _ _) | (with_reducible show wpAny _ _ (eval (Expr.ListComp _ _ _ _) _) _ _ _) | (with_reducible show wpAny _ _ (call (Value.builtin "str.join") _) _ _ _) | (with_reducible show LCg.CompSrc _ _ _ _ _ _ _ _ _ _ _ _ _ _) | (with_reducible show SrcB _ _ _ _ _ _ _ _ _ _ _ _ _ _) | (with_reducible show wpAny _ _ (compareOp CmpOp.Eq (Value.ref _) (Value.ref _)) _ _ _)); first | (k_unfold; (try dsimp only)) | (k_end; kc_close) | walk1 | (dsimp only; walk1) | (leave1; walk_say "STEP leave1"; (try dsimp only)) | fail "no step"))
  repeat (rename _ => zz; revert zz)
  exact fun h => h.out)
end
section
noncomputable def stLwD : {G : Prop // Hole G → stLwC.1} := mkSt (by
  intro hG
  intro _
  intros
  rename List Int => row
  rename Row _ => hrw
  rename RowsK _ _ _ => hRM
  rename List (Addr × List Value × Nat) => rows
  have hrl := hrw.len
  have hrb := hrw.bd
  refine For_C ?_
  w_strict (repeat' ((fail_if_success first | (with_reducible show wpAny _ _ (call (Value.builtin "next") _) _ _ _) | (with_reducible show wpAny _ _ (call (Value.builtin "iter") _) _ _ _) | (with_reducible show wpAny _ _ (pyIter _) _ _ _) | (with_reducible show wpAny _ _ (exec (Stmt.While _ _ _ _) _) _ _ _) | (with_reducible show wpAny _ _ (call (Value.ref 28) _) _ _ _) | (with_reducible show wpAny _ _ (call (Value.ref 35) _) _ _ _) | (with_reducible show wpAny _ _ (call (Value.ref 40) _) _ _ _) | (with_reducible show wpAny _ _ (call (Value.ref 47) _) _ _ _) | (with_reducible show wpAny _ _ (call (Value.ref 61) _) _ _ _) | (with_reducible show wpAny _ _ (call (Value.builtin "len") [Value.ref _]) _ _ _) | (with_reducible show wpAny _ _ (call (Value.builtin "sum") [Value.ref _]) _ _ _) | (with_reducible show wpAny _ _ (call (Value.builtin "max") _) _ _ _) | (with_reducible show wpAny _ _ (exec (Stmt.Assign _ (Expr.ListComp _ _ _ _) _) _) _ _ _) | (with_reducible show wpAny _ _ (eval (Expr.ListComp _ _ _ _) _) _ _ _) | (with_reducible show wpAny _ _ (call (Value.builtin "str.join") _) _ _ _) | (with_reducible show LCg.CompSrc _ _ _ _ _ _ _ _ _ _ _ _ _ _) | (with_reducible show SrcB _ _ _ _ _ _ _ _ _ _ _ _ _ _) | (with_reducible show LCt.CompSrcT _ _ _ _ _ _ _ _ _ _ _ _ _ _ _)); first | (k_unfold; (try dsimp only)) | (k_end; kc_close) | walk1 | (dsimp only; walk1) | (leave1; walk_say "STEP leave1"; (try dsimp only)) | fail "no step"))
  rename Fr _ _ _ _ => F1
  rename News _ _ _ _ => N1
  rename IsRange _ _ _ _ _ _ _ _ => R1
  have N2 := news_loop N1
  refine m_rangeCL (us₀ := []) ["heads", "longest", "told", "fresh"] (fun i us => StrsAre us ((metUp row i).map textOf)) (by rfl) (by rfl) (by rfl) rfl R1 (small_one (by omega) (by omega) (by omega) (by omega)) (n := row.length) (by rw [rangeSize_nat]; omega) F1 N2 (by assumption) (by k_ne) ?oc .nil ?turn ?done ?pe
  case oc => simp only [LCg.Off1]; exact ⟨by k_ne, by k_ne, by k_ne, by k_ne, by k_ne, by k_ne, by assumption⟩
  case pe => passes_own
  case turn =>
    clear F1 N1 N2 R1
    intro us kk i t u tkf h tk I oI oc hi hdc hIc hDI off hp F2 N2
    simp only [LCg.Off1] at off
    have hmu := hp.length
    rw [List.length_map] at hmu
    have hm36 := met_len36 row (e := i) (by omega)
    w_strict (repeat' ((fail_if_success first | (with_reducible show wpAny _ _ (call (Value.builtin "next") _) _ _ _) | (with_reducible show wpAny _ _ (call (Value.builtin "iter") _) _ _ _) | (with_reducible show wpAny _ _ (pyIter _) _ _ _) | (with_reducible show wpAny _ _ (exec (Stmt.While _ _ _ _) _) _ _ _) | (with_reducible show wpAny _ _ (call (Value.ref 28) _) _ _ _) | (with_reducible show wpAny _ _ (call (Value.ref 35) _) _ _ _) | (with_reducible show wpAny _ _ (call (Value.ref 40) _) _ _ _) | (with_reducible show wpAny _ _ (call (Value.ref 47) _) _ _ _) | (with_reducible show wpAny _ _ (call (Value.ref 61) _) _ _ _) | (with_reducible show wpAny _ _ (call (Value.builtin "len") [Value.ref _]) _ _ _) | (with_reducible show wpAny _ _ (call (Value.builtin "sum") [Value.ref _]) _ _ _) | (with_reducible show wpAny _ _ (call (Value.builtin "max") _) _ _ _) | (with_reducible show wpAny _ _ (exec (Stmt.Assign _ (Expr.ListComp _ _ _ _) _) _) _ _ _) | (with_reducible show wpAny _ _ (eval (Expr.ListComp _ _ _ _) _) _ _ _) | (with_reducible show wpAny _ _ (call (Value.builtin "str.join") _) _ _ _) | (with_reducible show LCg.CompSrc _ _ _ _ _ _ _ _ _ _ _ _ _ _) | (with_reducible show SrcB _ _ _ _ _ _ _ _ _ _ _ _ _ _) | (with_reducible show LCt.CompSrcT _ _ _ _ _ _ _ _ _ _ _ _ _ _ _)); first | (k_unfold; (try dsimp only)) | (k_end; kc_close) | walk1 | (dsimp only; walk1) | (leave1; walk_say "STEP leave1"; (try dsimp only)) | fail "no step"))
    rename Fr _ _ _ _ => F3
    refine LCt.Assign_ListComp_T (F₀ := F3) (by rfl) (by with_unfolding_all rfl) (by with_unfolding_all rfl) (by decide) (by rfl) (by decide) (by rfl) (by rfl) (by rfl) ?_
    w_strict (repeat' ((fail_if_success first | (with_reducible show wpAny _ _ (call (Value.builtin "next") _) _ _ _) | (with_reducible show wpAny _ _ (call (Value.builtin "iter") _) _ _ _) | (with_reducible show wpAny _ _ (pyIter _) _ _ _) | (with_reducible show wpAny _ _ (exec (Stmt.While _ _ _ _) _) _ _ _) | (with_reducible show wpAny _ _ (call (Value.ref 28) _) _ _ _) | (with_reducible show wpAny _ _ (call (Value.ref 35) _) _ _ _) | (with_reducible show wpAny _ _ (call (Value.ref 40) _) _ _ _) | (with_reducible show wpAny _ _ (call (Value.ref 47) _) _ _ _) | (with_reducible show wpAny _ _ (call (Value.ref 61) _) _ _ _) | (with_reducible show wpAny _ _ (call (Value.builtin "len") [Value.ref _]) _ _ _) | (with_reducible show wpAny _ _ (call (Value.builtin "sum") [Value.ref _]) _ _ _) | (with_reducible show wpAny _ _ (call (Value.builtin "max") _) _ _ _) | (with_reducible show wpAny _ _ (exec (Stmt.Assign _ (Expr.ListComp _ _ _ _) _) _) _ _ _) | (with_reducible show wpAny _ _ (eval (Expr.ListComp _ _ _ _) _) _ _ _) | (with_reducible show wpAny _ _ (call (Value.builtin "str.join") _) _ _ _) | (with_reducible show LCg.CompSrc _ _ _ _ _ _ _ _ _ _ _ _ _ _) | (with_reducible show SrcB _ _ _ _ _ _ _ _ _ _ _ _ _ _) | (with_reducible show LCt.CompSrcT _ _ _ _ _ _ _ _ _ _ _ _ _ _ _)); first | (k_unfold; (try dsimp only)) | (k_end; kc_close) | walk1 | (dsimp only; walk1) | (leave1; walk_say "STEP leave1"; (try dsimp only)) | fail "no step"))
    rename Fr _ _ _ _ => F6
    rename News _ _ _ _ => N6
    rename IsRange _ _ _ _ _ _ _ _ => R6
    refine LCt.CompSrcT.range (by rfl) F6 N6 R6 (small_one (by omega) (by omega) (by omega) (by omega)) (n := i + 1) (by rw [rangeSize_nat]; omega) (by rw [sizeLine_eq]; omega) ?_
    clear F6 N6 R6
    intro g9
    refine m_restT (fun j ys => IntsAre ys (headsUp row (i + 1) j)) .nil ?turn2 ?fin2
    case turn2 =>
      intro j v I7 oI7 C oC D m₂ ys h7 tk7 E' hj hv hR hC hx F7 N7 off7 ne7
      obtain ⟨t8, hv8⟩ := hv
      subst hv8
      obtain ⟨D1, mr, kr, e1, hm1, hb1⟩ := hRM.get (show j < row.length by omega)
      have hr1 := hb1.length
      rw [mirRow_len row (by omega)] at hr1
      w_strict (repeat' ((fail_if_success first | (with_reducible show wpAny _ _ (call (Value.ref _) _) _ _ _) | (with_reducible show wpAny _ _ (call (Value.builtin "next") _) _ _ _) | (with_reducible show wpAny _ _ (call (Value.builtin "iter") _) _ _ _) | (with_reducible show wpAny _ _ (pyIter _) _ _ _) | (with_reducible show wpAny _ _ (exec (Stmt.While _ _ _ _) _) _ _ _) | (with_reducible show wpAny _ _ (subscriptTail _ _ (Value.ref _) (Value.int _ _)) _ _ _)); first | (k_unfold; (try dsimp only)) | (k_end; kc_close) | walk1 | (dsimp only; walk1) | (leave1; walk_say "STEP leave1"; (try dsimp only)) | fail "no step"))
      rename News _ _ _ _ => N8
      refine m_sub N8 (by k_mem) (by rw [show (0 + (j : Int)).toNat = j by omega]; exact e1) (by omega) (by omega) ?_
      w_strict (repeat' ((fail_if_success first | (with_reducible show wpAny _ _ (call (Value.ref _) _) _ _ _) | (with_reducible show wpAny _ _ (call (Value.builtin "next") _) _ _ _) | (with_reducible show wpAny _ _ (call (Value.builtin "iter") _) _ _ _) | (with_reducible show wpAny _ _ (pyIter _) _ _ _) | (with_reducible show wpAny _ _ (exec (Stmt.While _ _ _ _) _) _ _ _) | (with_reducible show wpAny _ _ (subscriptTail _ _ (Value.ref _) (Value.int _ _)) _ _ _)); first | (k_unfold; (try dsimp only)) | (k_end; kc_close) | walk1 | (dsimp only; walk1) | (leave1; walk_say "STEP leave1"; (try dsimp only)) | fail "no step"))
      rename News _ _ _ _ => N9
      refine kbo_sub N9 (by repeat' first | exact hm1 | apply List.mem_cons_of_mem) hb1 (by omega) (by rw [mirRow_len row (by omega)]; omega) (by omega) ?_
      rw [show (1 + (i : Int)).toNat = i + 1 by omega, mirRow_at row (by omega) (by omega)]
      cases hm : mirB row j (i + 1) with
      | true =>
        w_strict (repeat' ((fail_if_success first | (with_reducible show wpAny _ _ (call (Value.builtin "next") _) _ _ _) | (with_reducible show wpAny _ _ (call (Value.builtin "iter") _) _ _ _) | (with_reducible show wpAny _ _ (pyIter _) _ _ _) | (with_reducible show wpAny _ _ (exec (Stmt.While _ _ _ _) _) _ _ _) | (with_reducible show wpAny _ _ (call (Value.ref 28) _) _ _ _) | (with_reducible show wpAny _ _ (call (Value.ref 35) _) _ _ _) | (with_reducible show wpAny _ _ (call (Value.ref 40) _) _ _ _) | (with_reducible show wpAny _ _ (call (Value.ref 47) _) _ _ _) | (with_reducible show wpAny _ _ (call (Value.ref 61) _) _ _ _) | (with_reducible show wpAny _ _ (call (Value.builtin "len") [Value.ref _]) _ _ _) | (with_reducible show wpAny _ _ (call (Value.builtin "sum") [Value.ref _]) _ _ _) | (with_reducible show wpAny _ _ (call (Value.builtin "max") _) _ _ _) | (with_reducible show wpAny _ _ (exec (Stmt.Assign _ (Expr.ListComp _ _ _ _) _) _) _ _ _) | (with_reducible show wpAny _ _ (eval (Expr.ListComp _ _ _ _) _) _ _ _) | (with_reducible show wpAny _ _ (call (Value.builtin "str.join") _) _ _ _) | (with_reducible show LCg.CompSrc _ _ _ _ _ _ _ _ _ _ _ _ _ _) | (with_reducible show SrcB _ _ _ _ _ _ _ _ _ _ _ _ _ _) | (with_reducible show LCt.CompSrcT _ _ _ _ _ _ _ _ _ _ _ _ _ _ _)); first | (k_unfold; (try dsimp only)) | (k_end; kc_close) | walk1 | (dsimp only; walk1) | (leave1; walk_say "STEP leave1"; (try dsimp only)) | fail "no step"))
        refine LCg.CompEnd.intro (by assumption) (by assumption) _ ?sub off7 trivial ⟨rfl, ?ri⟩
        case sub => kcj_all
        rw [headsUp_yes hm]
        exact ints_snoc hR (by omega)
      | false =>
        w_strict (repeat' ((fail_if_success first | (with_reducible show wpAny _ _ (call (Value.builtin "next") _) _ _ _) | (with_reducible show wpAny _ _ (call (Value.builtin "iter") _) _ _ _) | (with_reducible show wpAny _ _ (pyIter _) _ _ _) | (with_reducible show wpAny _ _ (exec (Stmt.While _ _ _ _) _) _ _ _) | (with_reducible show wpAny _ _ (call (Value.ref 28) _) _ _ _) | (with_reducible show wpAny _ _ (call (Value.ref 35) _) _ _ _) | (with_reducible show wpAny _ _ (call (Value.ref 40) _) _ _ _) | (with_reducible show wpAny _ _ (call (Value.ref 47) _) _ _ _) | (with_reducible show wpAny _ _ (call (Value.ref 61) _) _ _ _) | (with_reducible show wpAny _ _ (call (Value.builtin "len") [Value.ref _]) _ _ _) | (with_reducible show wpAny _ _ (call (Value.builtin "sum") [Value.ref _]) _ _ _) | (with_reducible show wpAny _ _ (call (Value.builtin "max") _) _ _ _) | (with_reducible show wpAny _ _ (exec (Stmt.Assign _ (Expr.ListComp _ _ _ _) _) _) _ _ _) | (with_reducible show wpAny _ _ (eval (Expr.ListComp _ _ _ _) _) _ _ _) | (with_reducible show wpAny _ _ (call (Value.builtin "str.join") _) _ _ _) | (with_reducible show LCg.CompSrc _ _ _ _ _ _ _ _ _ _ _ _ _ _) | (with_reducible show SrcB _ _ _ _ _ _ _ _ _ _ _ _ _ _) | (with_reducible show LCt.CompSrcT _ _ _ _ _ _ _ _ _ _ _ _ _ _ _)); first | (k_unfold; (try dsimp only)) | (k_end; kc_close) | walk1 | (dsimp only; walk1) | (leave1; walk_say "STEP leave1"; (try dsimp only)) | fail "no step"))
        refine LCg.CompEnd.intro (by assumption) (by assumption) _ ?subB off7 trivial ⟨rfl, ?riB⟩
        case subB => kcj_all
        rw [headsUp_no hm]
        exact hR
    case fin2 =>
      intro ysH hRH
      have hH := heads_pos (row := row) (i := i) (by omega)
      have hHl := heads_lt hH
      have hHc := heads_cast row (i + 1) 0
      have hH2 : (headsUp row (i + 1) (i + 1)).length = (headsOf row (i + 1)).length := by rw [headsUp_eq, List.length_map]
      have htl := text_len row
      have hHn : (headsOf row (i + 1)).length ≤ i + 1 := heads_len row (i + 1)
      generalize hb0 : (headsOf row (i + 1)).getD 0 0 = b0 at hHl hHc
      w_strict (repeat' ((fail_if_success first | (with_reducible show wpAny _ _ (call (Value.builtin "next") _) _ _ _) | (with_reducible show wpAny _ _ (call (Value.builtin "iter") _) _ _ _) | (with_reducible show wpAny _ _ (pyIter _) _ _ _) | (with_reducible show wpAny _ _ (exec (Stmt.While _ _ _ _) _) _ _ _) | (with_reducible show wpAny _ _ (call (Value.ref 28) _) _ _ _) | (with_reducible show wpAny _ _ (call (Value.ref 35) _) _ _ _) | (with_reducible show wpAny _ _ (call (Value.ref 40) _) _ _ _) | (with_reducible show wpAny _ _ (call (Value.ref 47) _) _ _ _) | (with_reducible show wpAny _ _ (call (Value.ref 61) _) _ _ _) | (with_reducible show wpAny _ _ (call (Value.builtin "len") [Value.ref _]) _ _ _) | (with_reducible show wpAny _ _ (call (Value.builtin "sum") [Value.ref _]) _ _ _) | (with_reducible show wpAny _ _ (call (Value.builtin "max") _) _ _ _) | (with_reducible show wpAny _ _ (exec (Stmt.Assign _ (Expr.ListComp _ _ _ _) _) _) _ _ _) | (with_reducible show wpAny _ _ (eval (Expr.ListComp _ _ _ _) _) _ _ _) | (with_reducible show wpAny _ _ (call (Value.builtin "str.join") _) _ _ _) | (with_reducible show LCg.CompSrc _ _ _ _ _ _ _ _ _ _ _ _ _ _) | (with_reducible show SrcB _ _ _ _ _ _ _ _ _ _ _ _ _ _) | (with_reducible show wpAny _ _ (subscriptTail _ _ _ _) _ _ _)); first | (k_unfold; (try dsimp only)) | (k_end; kc_close) | walk1 | (dsimp only; walk1) | (leave1; walk_say "STEP leave1"; (try dsimp only)) | fail "no step"))
      rename News _ _ _ _ => N8
      refine ksa_sub N8 (by k_mem) hRH (by omega) (by rw [hH2]; exact_mod_cast hH) (by omega) ?_
      intro tb0
      rw [show Int.toNat 0 = 0 from rfl, hHc]
      w_strict (repeat' ((fail_if_success first | (with_reducible show wpAny _ _ (call (Value.builtin "next") _) _ _ _) | (with_reducible show wpAny _ _ (call (Value.builtin "iter") _) _ _ _) | (with_reducible show wpAny _ _ (pyIter _) _ _ _) | (with_reducible show wpAny _ _ (exec (Stmt.While _ _ _ _) _) _ _ _) | (with_reducible show wpAny _ _ (call (Value.ref 28) _) _ _ _) | (with_reducible show wpAny _ _ (call (Value.ref 35) _) _ _ _) | (with_reducible show wpAny _ _ (call (Value.ref 40) _) _ _ _) | (with_reducible show wpAny _ _ (call (Value.ref 47) _) _ _ _) | (with_reducible show wpAny _ _ (call (Value.ref 61) _) _ _ _) | (with_reducible show wpAny _ _ (call (Value.builtin "len") [Value.ref _]) _ _ _) | (with_reducible show wpAny _ _ (call (Value.builtin "sum") [Value.ref _]) _ _ _) | (with_reducible show wpAny _ _ (call (Value.builtin "max") _) _ _ _) | (with_reducible show wpAny _ _ (exec (Stmt.Assign _ (Expr.ListComp _ _ _ _) _) _) _ _ _) | (with_reducible show wpAny _ _ (eval (Expr.ListComp _ _ _ _) _) _ _ _) | (with_reducible show wpAny _ _ (call (Value.builtin "str.join") _) _ _ _) | (with_reducible show LCg.CompSrc _ _ _ _ _ _ _ _ _ _ _ _ _ _) | (with_reducible show SrcB _ _ _ _ _ _ _ _ _ _ _ _ _ _) | (with_reducible show wpAny _ _ (subscriptTail _ _ _ _) _ _ _)); first | (k_unfold; (try dsimp only)) | (k_end; kc_close) | walk1 | (dsimp only; walk1) | (leave1; walk_say "STEP leave1"; (try dsimp only)) | fail "no step"))
      w_strict walk1
      rw [slice_seg row (a := b0) (b := i + 1) rfl (by omega) (by omega) (by omega)]
      obtain ⟨x, hx⟩ : ∃ x, x = seg row b0 (i + 1) := ⟨_, rfl⟩
      have hxl : (textOf x).length ≤ row.length := by rw [text_len, hx, seg_len]; omega
      have hxb : ∀ f ∈ x, 1 ≤ f ∧ f ≤ 15 := by rw [hx]; exact seg_bd hrb _ _
      rw [← hx]
      w_strict (repeat' ((fail_if_success first | (with_reducible show wpAny _ _ (call (Value.builtin "next") _) _ _ _) | (with_reducible show wpAny _ _ (call (Value.builtin "iter") _) _ _ _) | (with_reducible show wpAny _ _ (pyIter _) _ _ _) | (with_reducible show wpAny _ _ (exec (Stmt.While _ _ _ _) _) _ _ _) | (with_reducible show wpAny _ _ (call (Value.ref 28) _) _ _ _) | (with_reducible show wpAny _ _ (call (Value.ref 35) _) _ _ _) | (with_reducible show wpAny _ _ (call (Value.ref 40) _) _ _ _) | (with_reducible show wpAny _ _ (call (Value.ref 47) _) _ _ _) | (with_reducible show wpAny _ _ (call (Value.ref 61) _) _ _ _) | (with_reducible show wpAny _ _ (call (Value.builtin "len") [Value.ref _]) _ _ _) | (with_reducible show wpAny _ _ (call (Value.builtin "sum") [Value.ref _]) _ _ _) | (with_reducible show wpAny _ _ (call (Value.builtin "max") _) _ _ _) | (with_reducible show wpAny _ _ (exec (Stmt.Assign _ (Expr.ListComp _ _ _ _) _) _) _ _ _) | (with_reducible show wpAny _ _ (eval (Expr.ListComp _ _ _ _) _) _ _ _) | (with_reducible show wpAny _ _ (call (Value.builtin "str.join") _) _ _ _) | (with_reducible show LCg.CompSrc _ _ _ _ _ _ _ _ _ _ _ _ _ _) | (with_reducible show SrcB _ _ _ _ _ _ _ _ _ _ _ _ _ _) | (with_reducible show wpAny _ _ (subscriptTail _ _ _ _) _ _ _)); first | (k_unfold; (try dsimp only)) | (k_end; kc_close) | walk1 | (dsimp only; walk1) | (leave1; walk_say "STEP leave1"; (try dsimp only)) | fail "no step"))
      w_strict walk1
      rw [slice_take row (b := i) (by omega)]
      have hgl : (textOf (row.take i)).length ≤ row.length := by rw [text_len, List.length_take]; omega
      w_strict (repeat' ((fail_if_success first | (with_reducible show wpAny _ _ (call (Value.builtin "next") _) _ _ _) | (with_reducible show wpAny _ _ (call (Value.builtin "iter") _) _ _ _) | (with_reducible show wpAny _ _ (pyIter _) _ _ _) | (with_reducible show wpAny _ _ (exec (Stmt.While _ _ _ _) _) _ _ _) | (with_reducible show wpAny _ _ (call (Value.ref 28) _) _ _ _) | (with_reducible show wpAny _ _ (call (Value.ref 35) _) _ _ _) | (with_reducible show wpAny _ _ (call (Value.ref 40) _) _ _ _) | (with_reducible show wpAny _ _ (call (Value.ref 47) _) _ _ _) | (with_reducible show wpAny _ _ (call (Value.ref 61) _) _ _ _) | (with_reducible show wpAny _ _ (call (Value.builtin "len") [Value.ref _]) _ _ _) | (with_reducible show wpAny _ _ (call (Value.builtin "sum") [Value.ref _]) _ _ _) | (with_reducible show wpAny _ _ (call (Value.builtin "max") _) _ _ _) | (with_reducible show wpAny _ _ (exec (Stmt.Assign _ (Expr.ListComp _ _ _ _) _) _) _ _ _) | (with_reducible show wpAny _ _ (eval (Expr.ListComp _ _ _ _) _) _ _ _) | (with_reducible show wpAny _ _ (call (Value.builtin "str.join") _) _ _ _) | (with_reducible show LCg.CompSrc _ _ _ _ _ _ _ _ _ _ _ _ _ _) | (with_reducible show SrcB _ _ _ _ _ _ _ _ _ _ _ _ _ _) | (with_reducible show wpAny _ _ (subscriptTail _ _ _ _) _ _ _)); first | (k_unfold; (try dsimp only)) | (k_end; kc_close) | walk1 | (dsimp only; walk1) | (leave1; walk_say "STEP leave1"; (try dsimp only)) | fail "no step"))
      refine' cl_use (c_el3 _ _ _ _ (PySem.Str.ofString "..." ++ textOf x ++ PySem.Str.ofString "...") (textOf (row.take i)) (textOf x) _ _ _) ?k1x5 ?k2x5 ?k3x5 ?k4x5 ?k5x5 ?kKx5 ?kpx5 ?kdx5 ?kux5 ?kRx5
      case k1x5 => k_asm
      case k2x5 => k_asm
      case k3x5 => k_asm
      case k4x5 => k_asm
      case k5x5 => k_asm
      case kKx5 => exact rfl
      case kpx5 => exact el3_pre (text_df hxb) (by omega) (by omega)
      case kdx5 => ktr_room
      case kux5 => ktr_units
      intro t9 h9 tk9 F9 N9
      w_strict (repeat' ((fail_if_success first | (with_reducible show wpAny _ _ (call (Value.builtin "next") _) _ _ _) | (with_reducible show wpAny _ _ (call (Value.builtin "iter") _) _ _ _) | (with_reducible show wpAny _ _ (pyIter _) _ _ _) | (with_reducible show wpAny _ _ (exec (Stmt.While _ _ _ _) _) _ _ _) | (with_reducible show wpAny _ _ (call (Value.ref 28) _) _ _ _) | (with_reducible show wpAny _ _ (call (Value.ref 35) _) _ _ _) | (with_reducible show wpAny _ _ (call (Value.ref 40) _) _ _ _) | (with_reducible show wpAny _ _ (call (Value.ref 47) _) _ _ _) | (with_reducible show wpAny _ _ (call (Value.ref 61) _) _ _ _) | (with_reducible show wpAny _ _ (call (Value.builtin "len") [Value.ref _]) _ _ _) | (with_reducible show wpAny _ _ (call (Value.builtin "sum") [Value.ref _]) _ _ _) | (with_reducible show wpAny _ _ (call (Value.builtin "max") _) _ _ _) | (with_reducible show wpAny _ _ (exec (Stmt.Assign _ (Expr.ListComp _ _ _ _) _) _) _ _ _) | (with_reducible show wpAny _ _ (eval (Expr.ListComp _ _ _ _) _) _ _ _) | (with_reducible show wpAny _ _ (call (Value.builtin "str.join") _) _ _ _) | (with_reducible show LCg.CompSrc _ _ _ _ _ _ _ _ _ _ _ _ _ _) | (with_reducible show SrcB _ _ _ _ _ _ _ _ _ _ _ _ _ _) | (with_reducible show wpAny _ _ (subscriptTail _ _ _ _) _ _ _)); first | (k_unfold; (try dsimp only)) | (k_end; kc_close) | walk1 | (dsimp only; walk1) | (leave1; walk_say "STEP leave1"; (try dsimp only)) | fail "no step"))
      rename Fr _ _ _ _ => F3
      refine LCt.Assign_ListComp_T (F₀ := F3) (by rfl) (by with_unfolding_all rfl) (by with_unfolding_all rfl) (by decide) (by rfl) (by decide) (by rfl) (by rfl) (by rfl) ?_
      w_strict (repeat' ((fail_if_success first | (with_reducible show wpAny _ _ (call (Value.builtin "next") _) _ _ _) | (with_reducible show wpAny _ _ (call (Value.builtin "iter") _) _ _ _) | (with_reducible show wpAny _ _ (pyIter _) _ _ _) | (with_reducible show wpAny _ _ (exec (Stmt.While _ _ _ _) _) _ _ _) | (with_reducible show wpAny _ _ (call (Value.ref 28) _) _ _ _) | (with_reducible show wpAny _ _ (call (Value.ref 35) _) _ _ _) | (with_reducible show wpAny _ _ (call (Value.ref 40) _) _ _ _) | (with_reducible show wpAny _ _ (call (Value.ref 47) _) _ _ _) | (with_reducible show wpAny _ _ (call (Value.ref 61) _) _ _ _) | (with_reducible show wpAny _ _ (call (Value.builtin "len") [Value.ref _]) _ _ _) | (with_reducible show wpAny _ _ (call (Value.builtin "sum") [Value.ref _]) _ _ _) | (with_reducible show wpAny _ _ (call (Value.builtin "max") _) _ _ _) | (with_reducible show wpAny _ _ (exec (Stmt.Assign _ (Expr.ListComp _ _ _ _) _) _) _ _ _) | (with_reducible show wpAny _ _ (eval (Expr.ListComp _ _ _ _) _) _ _ _) | (with_reducible show wpAny _ _ (call (Value.builtin "str.join") _) _ _ _) | (with_reducible show LCg.CompSrc _ _ _ _ _ _ _ _ _ _ _ _ _ _) | (with_reducible show SrcB _ _ _ _ _ _ _ _ _ _ _ _ _ _) | (with_reducible show LCt.CompSrcT _ _ _ _ _ _ _ _ _ _ _ _ _ _ _)); first | (k_unfold; (try dsimp only)) | (k_end; kc_close) | walk1 | (dsimp only; walk1) | (leave1; walk_say "STEP leave1"; (try dsimp only)) | fail "no step"))
      rename Fr _ _ _ _ => F6
      rename News _ _ _ _ => N6
      refine LCt.CompSrcT.ledger (its := ysH.toArray) (by rfl) F6 N6 (by k_mem) (by rw [sizeLine_eq, List.size_toArray, hRH.length, hH2]; omega) ?_
      clear F6 N6
      intro g9
      refine m_restT (fun j ys => StrsAre ys ((freshUp row (metUp row i) (i + 1) j).map textOf)) .nil ?turn4 ?fin4
      case turn4 =>
        intro j v I7 oI7 C oC D m₂ ys h7 tk7 E' hj hv hR hC hx7 F7 N7 off7 ne7
        rw [List.size_toArray, hRH.length, hH2] at hj
        obtain ⟨t8, hv8, -⟩ := ints_at? hRH (by simpa using hv)
        rw [heads_cast] at hv8
        subst hv8
        have hbl := heads_lt hj
        obtain ⟨bj, hbj⟩ : ∃ bj, bj = (headsOf row (i + 1)).getD j 0 := ⟨_, rfl⟩
        rw [← hbj] at hbl
        w_strict (repeat' ((fail_if_success first | (with_reducible show wpAny _ _ (call (Value.builtin "next") _) _ _ _) | (with_reducible show wpAny _ _ (call (Value.builtin "iter") _) _ _ _) | (with_reducible show wpAny _ _ (pyIter _) _ _ _) | (with_reducible show wpAny _ _ (exec (Stmt.While _ _ _ _) _) _ _ _) | (with_reducible show wpAny _ _ (call (Value.ref 28) _) _ _ _) | (with_reducible show wpAny _ _ (call (Value.ref 35) _) _ _ _) | (with_reducible show wpAny _ _ (call (Value.ref 40) _) _ _ _) | (with_reducible show wpAny _ _ (call (Value.ref 47) _) _ _ _) | (with_reducible show wpAny _ _ (call (Value.ref 61) _) _ _ _) | (with_reducible show wpAny _ _ (call (Value.builtin "len") [Value.ref _]) _ _ _) | (with_reducible show wpAny _ _ (call (Value.builtin "sum") [Value.ref _]) _ _ _) | (with_reducible show wpAny _ _ (call (Value.builtin "max") _) _ _ _) | (with_reducible show wpAny _ _ (exec (Stmt.Assign _ (Expr.ListComp _ _ _ _) _) _) _ _ _) | (with_reducible show wpAny _ _ (eval (Expr.ListComp _ _ _ _) _) _ _ _) | (with_reducible show wpAny _ _ (call (Value.builtin "str.join") _) _ _ _) | (with_reducible show LCg.CompSrc _ _ _ _ _ _ _ _ _ _ _ _ _ _) | (with_reducible show SrcB _ _ _ _ _ _ _ _ _ _ _ _ _ _) | (with_reducible show wpAny _ _ (subscriptTail _ _ _ _) _ _ _) | (with_reducible show wpAny _ _ (compareOp CmpOp.NotIn _ _) _ _ _)); first | (k_unfold; (try dsimp only)) | (k_end; kc_close) | walk1 | (dsimp only; walk1) | (leave1; walk_say "STEP leave1"; (try dsimp only)) | fail "no step"))
        w_strict walk1
        rw [← hbj, slice_seg row (a := bj) (b := i + 1) rfl (by omega) (by omega) (by omega)]
        w_strict (repeat' ((fail_if_success first | (with_reducible show wpAny _ _ (call (Value.builtin "next") _) _ _ _) | (with_reducible show wpAny _ _ (call (Value.builtin "iter") _) _ _ _) | (with_reducible show wpAny _ _ (pyIter _) _ _ _) | (with_reducible show wpAny _ _ (exec (Stmt.While _ _ _ _) _) _ _ _) | (with_reducible show wpAny _ _ (call (Value.ref 28) _) _ _ _) | (with_reducible show wpAny _ _ (call (Value.ref 35) _) _ _ _) | (with_reducible show wpAny _ _ (call (Value.ref 40) _) _ _ _) | (with_reducible show wpAny _ _ (call (Value.ref 47) _) _ _ _) | (with_reducible show wpAny _ _ (call (Value.ref 61) _) _ _ _) | (with_reducible show wpAny _ _ (call (Value.builtin "len") [Value.ref _]) _ _ _) | (with_reducible show wpAny _ _ (call (Value.builtin "sum") [Value.ref _]) _ _ _) | (with_reducible show wpAny _ _ (call (Value.builtin "max") _) _ _ _) | (with_reducible show wpAny _ _ (exec (Stmt.Assign _ (Expr.ListComp _ _ _ _) _) _) _ _ _) | (with_reducible show wpAny _ _ (eval (Expr.ListComp _ _ _ _) _) _ _ _) | (with_reducible show wpAny _ _ (call (Value.builtin "str.join") _) _ _ _) | (with_reducible show LCg.CompSrc _ _ _ _ _ _ _ _ _ _ _ _ _ _) | (with_reducible show SrcB _ _ _ _ _ _ _ _ _ _ _ _ _ _) | (with_reducible show wpAny _ _ (subscriptTail _ _ _ _) _ _ _) | (with_reducible show wpAny _ _ (compareOp CmpOp.NotIn _ _) _ _ _)); first | (k_unfold; (try dsimp only)) | (k_end; kc_close) | walk1 | (dsimp only; walk1) | (leave1; walk_say "STEP leave1"; (try dsimp only)) | fail "no step"))
        rename News _ _ _ _ => N8
        refine notin_list_strs (News.isList N8 (by k_mem)) hp ?_
        rw [met_any hrb]
        cases hm : (metUp row i).contains (seg row bj (i + 1)) with
        | true =>
          w_strict (repeat' ((fail_if_success first | (with_reducible show wpAny _ _ (call (Value.builtin "next") _) _ _ _) | (with_reducible show wpAny _ _ (call (Value.builtin "iter") _) _ _ _) | (with_reducible show wpAny _ _ (pyIter _) _ _ _) | (with_reducible show wpAny _ _ (exec (Stmt.While _ _ _ _) _) _ _ _) | (with_reducible show wpAny _ _ (call (Value.ref 28) _) _ _ _) | (with_reducible show wpAny _ _ (call (Value.ref 35) _) _ _ _) | (with_reducible show wpAny _ _ (call (Value.ref 40) _) _ _ _) | (with_reducible show wpAny _ _ (call (Value.ref 47) _) _ _ _) | (with_reducible show wpAny _ _ (call (Value.ref 61) _) _ _ _) | (with_reducible show wpAny _ _ (call (Value.builtin "len") [Value.ref _]) _ _ _) | (with_reducible show wpAny _ _ (call (Value.builtin "sum") [Value.ref _]) _ _ _) | (with_reducible show wpAny _ _ (call (Value.builtin "max") _) _ _ _) | (with_reducible show wpAny _ _ (exec (Stmt.Assign _ (Expr.ListComp _ _ _ _) _) _) _ _ _) | (with_reducible show wpAny _ _ (eval (Expr.ListComp _ _ _ _) _) _ _ _) | (with_reducible show wpAny _ _ (call (Value.builtin "str.join") _) _ _ _) | (with_reducible show LCg.CompSrc _ _ _ _ _ _ _ _ _ _ _ _ _ _) | (with_reducible show SrcB _ _ _ _ _ _ _ _ _ _ _ _ _ _) | (with_reducible show LCt.CompSrcT _ _ _ _ _ _ _ _ _ _ _ _ _ _ _)); first | (k_unfold; (try dsimp only)) | (k_end; kc_close) | walk1 | (dsimp only; walk1) | (leave1; walk_say "STEP leave1"; (try dsimp only)) | fail "no step"))
          refine LCg.CompEnd.intro (by assumption) (by assumption) _ ?subC off7 (.inr ⟨_, by k_mem, rfl, _, rfl⟩) ⟨rfl, ?riC⟩
          case subC => kcj_all
          rw [freshUp_no hj (by rw [← hbj]; exact hm)]
          exact hR
        | false =>
          w_strict (repeat' ((fail_if_success first | (with_reducible show wpAny _ _ (call (Value.builtin "next") _) _ _ _) | (with_reducible show wpAny _ _ (call (Value.builtin "iter") _) _ _ _) | (with_reducible show wpAny _ _ (pyIter _) _ _ _) | (with_reducible show wpAny _ _ (exec (Stmt.While _ _ _ _) _) _ _ _) | (with_reducible show wpAny _ _ (call (Value.ref 28) _) _ _ _) | (with_reducible show wpAny _ _ (call (Value.ref 35) _) _ _ _) | (with_reducible show wpAny _ _ (call (Value.ref 40) _) _ _ _) | (with_reducible show wpAny _ _ (call (Value.ref 47) _) _ _ _) | (with_reducible show wpAny _ _ (call (Value.ref 61) _) _ _ _) | (with_reducible show wpAny _ _ (call (Value.builtin "len") [Value.ref _]) _ _ _) | (with_reducible show wpAny _ _ (call (Value.builtin "sum") [Value.ref _]) _ _ _) | (with_reducible show wpAny _ _ (call (Value.builtin "max") _) _ _ _) | (with_reducible show wpAny _ _ (exec (Stmt.Assign _ (Expr.ListComp _ _ _ _) _) _) _ _ _) | (with_reducible show wpAny _ _ (eval (Expr.ListComp _ _ _ _) _) _ _ _) | (with_reducible show wpAny _ _ (call (Value.builtin "str.join") _) _ _ _) | (with_reducible show LCg.CompSrc _ _ _ _ _ _ _ _ _ _ _ _ _ _) | (with_reducible show SrcB _ _ _ _ _ _ _ _ _ _ _ _ _ _) | (with_reducible show wpAny _ _ (subscriptTail _ _ _ _) _ _ _)); first | (k_unfold; (try dsimp only)) | (k_end; kc_close) | walk1 | (dsimp only; walk1) | (leave1; walk_say "STEP leave1"; (try dsimp only)) | fail "no step"))
          w_strict walk1
          rw [← hbj, slice_seg row (a := bj) (b := i + 1) rfl (by omega) (by omega) (by omega)]
          refine LCg.CompEnd.intro (by assumption) (by assumption) _ ?subD off7 (.inr ⟨_, by k_mem, rfl, _, rfl⟩) ⟨rfl, ?riD⟩
          case subD => kcj_all
          rw [freshUp_yes hj (by rw [← hbj]; exact hm), ← hbj, List.map_append]
          exact StrsAre.append' hR (.cons _ _ .nil)
      case fin4 =>
        intro ysF hRF
        rw [List.size_toArray, hRH.length, hH2, freshUp_all] at hRF
        have hxx : x = longOf row (i + 1) := by unfold longOf; rw [hb0]; exact hx
        have p1 := plain_fresh hrw (i := i) (by omega)
        have p2 := plain_told hrw (i := i) (by omega)
        rw [← hxx] at p1 p2
        rw [p1] at hRF
        have hany : ((metUp row i).map textOf).any (· == textOf x) = (metUp row i).contains x := by rw [hx]; exact met_any hrb _ _ _
        cases ho : occB (textOf x) (textOf (row.take i)) with
        | true =>
          rw [ho] at hRF p2
          cases hRF
          w_strict (repeat' ((fail_if_success first | (with_reducible show wpAny _ _ (call (Value.builtin "next") _) _ _ _) | (with_reducible show wpAny _ _ (call (Value.builtin "iter") _) _ _ _) | (with_reducible show wpAny _ _ (pyIter _) _ _ _) | (with_reducible show wpAny _ _ (exec (Stmt.While _ _ _ _) _) _ _ _) | (with_reducible show wpAny _ _ (call (Value.ref 28) _) _ _ _) | (with_reducible show wpAny _ _ (call (Value.ref 35) _) _ _ _) | (with_reducible show wpAny _ _ (call (Value.ref 40) _) _ _ _) | (with_reducible show wpAny _ _ (call (Value.ref 47) _) _ _ _) | (with_reducible show wpAny _ _ (call (Value.ref 61) _) _ _ _) | (with_reducible show wpAny _ _ (call (Value.builtin "len") [Value.ref _]) _ _ _) | (with_reducible show wpAny _ _ (call (Value.builtin "sum") [Value.ref _]) _ _ _) | (with_reducible show wpAny _ _ (call (Value.builtin "max") _) _ _ _) | (with_reducible show wpAny _ _ (exec (Stmt.Assign _ (Expr.ListComp _ _ _ _) _) _) _ _ _) | (with_reducible show wpAny _ _ (eval (Expr.ListComp _ _ _ _) _) _ _ _) | (with_reducible show wpAny _ _ (call (Value.builtin "str.join") _) _ _ _) | (with_reducible show LCg.CompSrc _ _ _ _ _ _ _ _ _ _ _ _ _ _) | (with_reducible show SrcB _ _ _ _ _ _ _ _ _ _ _ _ _ _) | (with_reducible show wpAny _ _ (compareOp CmpOp.NotEq _ _) _ _ _)); first | (k_unfold; (try dsimp only)) | (k_end; kc_close) | walk1 | (dsimp only; walk1) | (leave1; walk_say "STEP leave1"; (try dsimp only)) | fail "no step"))
          rename News _ _ _ _ => N9
          refine m_ne0 (News.isList N9 (by k_mem)) (News.isList N9 (by k_mem)) (by units_room) ?_
          w_strict (repeat' ((fail_if_success first | (with_reducible show wpAny _ _ (call (Value.builtin "next") _) _ _ _) | (with_reducible show wpAny _ _ (call (Value.builtin "iter") _) _ _ _) | (with_reducible show wpAny _ _ (pyIter _) _ _ _) | (with_reducible show wpAny _ _ (exec (Stmt.While _ _ _ _) _) _ _ _) | (with_reducible show wpAny _ _ (call (Value.ref 28) _) _ _ _) | (with_reducible show wpAny _ _ (call (Value.ref 35) _) _ _ _) | (with_reducible show wpAny _ _ (call (Value.ref 40) _) _ _ _) | (with_reducible show wpAny _ _ (call (Value.ref 47) _) _ _ _) | (with_reducible show wpAny _ _ (call (Value.ref 61) _) _ _ _) | (with_reducible show wpAny _ _ (call (Value.builtin "len") [Value.ref _]) _ _ _) | (with_reducible show wpAny _ _ (call (Value.builtin "sum") [Value.ref _]) _ _ _) | (with_reducible show wpAny _ _ (call (Value.builtin "max") _) _ _ _) | (with_reducible show wpAny _ _ (exec (Stmt.Assign _ (Expr.ListComp _ _ _ _) _) _) _ _ _) | (with_reducible show wpAny _ _ (eval (Expr.ListComp _ _ _ _) _) _ _ _) | (with_reducible show wpAny _ _ (call (Value.builtin "str.join") _) _ _ _) | (with_reducible show LCg.CompSrc _ _ _ _ _ _ _ _ _ _ _ _ _ _) | (with_reducible show SrcB _ _ _ _ _ _ _ _ _ _ _ _ _ _) | (with_reducible show wpAny _ _ (compareOp CmpOp.In _ _) _ _ _) | (with_reducible show wpAny _ _ (call (Value.builtin "list.extend") _) _ _ _)); first | (k_unfold; (try dsimp only)) | (k_end; kc_close) | walk1 | (dsimp only; walk1) | (leave1; walk_say "STEP leave1"; (try dsimp only)) | fail "no step"))
          rename News _ _ _ _ => N10
          refine in_list_strs (News.isList N10 (by k_mem)) hp ?_
          rw [hany, ← p2]
          w_strict (repeat' ((fail_if_success first | (with_reducible show wpAny _ _ (call (Value.builtin "next") _) _ _ _) | (with_reducible show wpAny _ _ (call (Value.builtin "iter") _) _ _ _) | (with_reducible show wpAny _ _ (pyIter _) _ _ _) | (with_reducible show wpAny _ _ (exec (Stmt.While _ _ _ _) _) _ _ _) | (with_reducible show wpAny _ _ (call (Value.ref 28) _) _ _ _) | (with_reducible show wpAny _ _ (call (Value.ref 35) _) _ _ _) | (with_reducible show wpAny _ _ (call (Value.ref 40) _) _ _ _) | (with_reducible show wpAny _ _ (call (Value.ref 47) _) _ _ _) | (with_reducible show wpAny _ _ (call (Value.ref 61) _) _ _ _) | (with_reducible show wpAny _ _ (call (Value.builtin "len") [Value.ref _]) _ _ _) | (with_reducible show wpAny _ _ (call (Value.builtin "sum") [Value.ref _]) _ _ _) | (with_reducible show wpAny _ _ (call (Value.builtin "max") _) _ _ _) | (with_reducible show wpAny _ _ (exec (Stmt.Assign _ (Expr.ListComp _ _ _ _) _) _) _ _ _) | (with_reducible show wpAny _ _ (eval (Expr.ListComp _ _ _ _) _) _ _ _) | (with_reducible show wpAny _ _ (call (Value.builtin "str.join") _) _ _ _) | (with_reducible show LCg.CompSrc _ _ _ _ _ _ _ _ _ _ _ _ _ _) | (with_reducible show SrcB _ _ _ _ _ _ _ _ _ _ _ _ _ _) | (with_reducible show wpAny _ _ (call (Value.builtin "list.extend") _) _ _ _)); first | (k_unfold; (try dsimp only)) | (k_end; kc_close) | walk1 | (dsimp only; walk1) | (leave1; walk_say "STEP leave1"; (try dsimp only)) | fail "no step"))
          rename Fr _ _ _ _ => F11
          rename News _ _ _ _ => N11
          refine' m_extend0 F11 N11 (by k_mem) ?xu ?xz ?_
          case xu => k_upd
          case xz => rw [hmu]; omega
          clear F11 N11
          intro h12 F11 N11
          w_strict (repeat' ((fail_if_success first | (with_reducible show wpAny _ _ (call (Value.builtin "next") _) _ _ _) | (with_reducible show wpAny _ _ (call (Value.builtin "iter") _) _ _ _) | (with_reducible show wpAny _ _ (pyIter _) _ _ _) | (with_reducible show wpAny _ _ (exec (Stmt.While _ _ _ _) _) _ _ _) | (with_reducible show wpAny _ _ (call (Value.ref 28) _) _ _ _) | (with_reducible show wpAny _ _ (call (Value.ref 35) _) _ _ _) | (with_reducible show wpAny _ _ (call (Value.ref 40) _) _ _ _) | (with_reducible show wpAny _ _ (call (Value.ref 47) _) _ _ _) | (with_reducible show wpAny _ _ (call (Value.ref 61) _) _ _ _) | (with_reducible show wpAny _ _ (call (Value.builtin "len") [Value.ref _]) _ _ _) | (with_reducible show wpAny _ _ (call (Value.builtin "sum") [Value.ref _]) _ _ _) | (with_reducible show wpAny _ _ (call (Value.builtin "max") _) _ _ _) | (with_reducible show wpAny _ _ (exec (Stmt.Assign _ (Expr.ListComp _ _ _ _) _) _) _ _ _) | (with_reducible show wpAny _ _ (eval (Expr.ListComp _ _ _ _) _) _ _ _) | (with_reducible show wpAny _ _ (call (Value.builtin "str.join") _) _ _ _) | (with_reducible show LCg.CompSrc _ _ _ _ _ _ _ _ _ _ _ _ _ _) | (with_reducible show SrcB _ _ _ _ _ _ _ _ _ _ _ _ _ _) | (with_reducible show LCt.CompSrcT _ _ _ _ _ _ _ _ _ _ _ _ _ _ _)); first | (k_unfold; (try dsimp only)) | (k_end; kc_close) | walk1 | (dsimp only; walk1) | (leave1; walk_say "STEP leave1"; (try dsimp only)) | fail "no step"))
          dsimp only [CPost]
          refine CEnd.intro (_, _) (by assumption) (by assumption) (by kcj_all) hdc ⟨hDI, off⟩ ?ofc trivial (by ksw_same) ?pp
          case ofc => simp only [LCg.Off1]; exact ⟨by k_ne, by k_ne, by k_ne, by k_ne, by k_ne, by k_ne, by k_ne, by assumption⟩
          show StrsAre us ((metUp row i ++ freshOf row (metUp row i) (i + 1)).map textOf)
          rw [p1, ho, if_pos rfl, List.append_nil]
          exact hp
        | false =>
          rw [ho] at hRF p2
          cases hRF with
          | cons _ tf hn => 
          cases hn
          w_strict (repeat' ((fail_if_success first | (with_reducible show wpAny _ _ (call (Value.builtin "next") _) _ _ _) | (with_reducible show wpAny _ _ (call (Value.builtin "iter") _) _ _ _) | (with_reducible show wpAny _ _ (pyIter _) _ _ _) | (with_reducible show wpAny _ _ (exec (Stmt.While _ _ _ _) _) _ _ _) | (with_reducible show wpAny _ _ (call (Value.ref 28) _) _ _ _) | (with_reducible show wpAny _ _ (call (Value.ref 35) _) _ _ _) | (with_reducible show wpAny _ _ (call (Value.ref 40) _) _ _ _) | (with_reducible show wpAny _ _ (call (Value.ref 47) _) _ _ _) | (with_reducible show wpAny _ _ (call (Value.ref 61) _) _ _ _) | (with_reducible show wpAny _ _ (call (Value.builtin "len") [Value.ref _]) _ _ _) | (with_reducible show wpAny _ _ (call (Value.builtin "sum") [Value.ref _]) _ _ _) | (with_reducible show wpAny _ _ (call (Value.builtin "max") _) _ _ _) | (with_reducible show wpAny _ _ (exec (Stmt.Assign _ (Expr.ListComp _ _ _ _) _) _) _ _ _) | (with_reducible show wpAny _ _ (eval (Expr.ListComp _ _ _ _) _) _ _ _) | (with_reducible show wpAny _ _ (call (Value.builtin "str.join") _) _ _ _) | (with_reducible show LCg.CompSrc _ _ _ _ _ _ _ _ _ _ _ _ _ _) | (with_reducible show SrcB _ _ _ _ _ _ _ _ _ _ _ _ _ _) | (with_reducible show wpAny _ _ (compareOp CmpOp.NotEq _ _) _ _ _)); first | (k_unfold; (try dsimp only)) | (k_end; kc_close) | walk1 | (dsimp only; walk1) | (leave1; walk_say "STEP leave1"; (try dsimp only)) | fail "no step"))
          rename News _ _ _ _ => N9
          refine m_ne1 (textOf_ok hxb) (News.isList N9 (by k_mem)) (News.isList N9 (by k_mem)) (by units_room) ?_
          w_strict (repeat' ((fail_if_success first | (with_reducible show wpAny _ _ (call (Value.builtin "next") _) _ _ _) | (with_reducible show wpAny _ _ (call (Value.builtin "iter") _) _ _ _) | (with_reducible show wpAny _ _ (pyIter _) _ _ _) | (with_reducible show wpAny _ _ (exec (Stmt.While _ _ _ _) _) _ _ _) | (with_reducible show wpAny _ _ (call (Value.ref 28) _) _ _ _) | (with_reducible show wpAny _ _ (call (Value.ref 35) _) _ _ _) | (with_reducible show wpAny _ _ (call (Value.ref 40) _) _ _ _) | (with_reducible show wpAny _ _ (call (Value.ref 47) _) _ _ _) | (with_reducible show wpAny _ _ (call (Value.ref 61) _) _ _ _) | (with_reducible show wpAny _ _ (call (Value.builtin "len") [Value.ref _]) _ _ _) | (with_reducible show wpAny _ _ (call (Value.builtin "sum") [Value.ref _]) _ _ _) | (with_reducible show wpAny _ _ (call (Value.builtin "max") _) _ _ _) | (with_reducible show wpAny _ _ (exec (Stmt.Assign _ (Expr.ListComp _ _ _ _) _) _) _ _ _) | (with_reducible show wpAny _ _ (eval (Expr.ListComp _ _ _ _) _) _ _ _) | (with_reducible show wpAny _ _ (call (Value.builtin "str.join") _) _ _ _) | (with_reducible show LCg.CompSrc _ _ _ _ _ _ _ _ _ _ _ _ _ _) | (with_reducible show SrcB _ _ _ _ _ _ _ _ _ _ _ _ _ _) | (with_reducible show wpAny _ _ (compareOp CmpOp.In _ _) _ _ _) | (with_reducible show wpAny _ _ (call (Value.builtin "list.extend") _) _ _ _)); first | (k_unfold; (try dsimp only)) | (k_end; kc_close) | walk1 | (dsimp only; walk1) | (leave1; walk_say "STEP leave1"; (try dsimp only)) | fail "no step"))
          rename News _ _ _ _ => N10
          refine in_list_strs (News.isList N10 (by k_mem)) hp ?_
          rw [hany, ← p2]
          w_strict (repeat' ((fail_if_success first | (with_reducible show wpAny _ _ (call (Value.builtin "next") _) _ _ _) | (with_reducible show wpAny _ _ (call (Value.builtin "iter") _) _ _ _) | (with_reducible show wpAny _ _ (pyIter _) _ _ _) | (with_reducible show wpAny _ _ (exec (Stmt.While _ _ _ _) _) _ _ _) | (with_reducible show wpAny _ _ (call (Value.ref 28) _) _ _ _) | (with_reducible show wpAny _ _ (call (Value.ref 35) _) _ _ _) | (with_reducible show wpAny _ _ (call (Value.ref 40) _) _ _ _) | (with_reducible show wpAny _ _ (call (Value.ref 47) _) _ _ _) | (with_reducible show wpAny _ _ (call (Value.ref 61) _) _ _ _) | (with_reducible show wpAny _ _ (call (Value.builtin "len") [Value.ref _]) _ _ _) | (with_reducible show wpAny _ _ (call (Value.builtin "sum") [Value.ref _]) _ _ _) | (with_reducible show wpAny _ _ (call (Value.builtin "max") _) _ _ _) | (with_reducible show wpAny _ _ (exec (Stmt.Assign _ (Expr.ListComp _ _ _ _) _) _) _ _ _) | (with_reducible show wpAny _ _ (eval (Expr.ListComp _ _ _ _) _) _ _ _) | (with_reducible show wpAny _ _ (call (Value.builtin "str.join") _) _ _ _) | (with_reducible show LCg.CompSrc _ _ _ _ _ _ _ _ _ _ _ _ _ _) | (with_reducible show SrcB _ _ _ _ _ _ _ _ _ _ _ _ _ _) | (with_reducible show wpAny _ _ (call (Value.builtin "list.extend") _) _ _ _)); first | (k_unfold; (try dsimp only)) | (k_end; kc_close) | walk1 | (dsimp only; walk1) | (leave1; walk_say "STEP leave1"; (try dsimp only)) | fail "no step"))
          rename Fr _ _ _ _ => F11
          rename News _ _ _ _ => N11
          refine' m_extendL F11 N11 (by k_mem) (by simp) ?yu ?yz ?_
          case yu => k_upd
          case yz => rw [hmu, List.length_singleton]; omega
          clear F11 N11
          intro h12 F11 N11
          w_strict (repeat' ((fail_if_success first | (with_reducible show wpAny _ _ (call (Value.builtin "next") _) _ _ _) | (with_reducible show wpAny _ _ (call (Value.builtin "iter") _) _ _ _) | (with_reducible show wpAny _ _ (pyIter _) _ _ _) | (with_reducible show wpAny _ _ (exec (Stmt.While _ _ _ _) _) _ _ _) | (with_reducible show wpAny _ _ (call (Value.ref 28) _) _ _ _) | (with_reducible show wpAny _ _ (call (Value.ref 35) _) _ _ _) | (with_reducible show wpAny _ _ (call (Value.ref 40) _) _ _ _) | (with_reducible show wpAny _ _ (call (Value.ref 47) _) _ _ _) | (with_reducible show wpAny _ _ (call (Value.ref 61) _) _ _ _) | (with_reducible show wpAny _ _ (call (Value.builtin "len") [Value.ref _]) _ _ _) | (with_reducible show wpAny _ _ (call (Value.builtin "sum") [Value.ref _]) _ _ _) | (with_reducible show wpAny _ _ (call (Value.builtin "max") _) _ _ _) | (with_reducible show wpAny _ _ (exec (Stmt.Assign _ (Expr.ListComp _ _ _ _) _) _) _ _ _) | (with_reducible show wpAny _ _ (eval (Expr.ListComp _ _ _ _) _) _ _ _) | (with_reducible show wpAny _ _ (call (Value.builtin "str.join") _) _ _ _) | (with_reducible show LCg.CompSrc _ _ _ _ _ _ _ _ _ _ _ _ _ _) | (with_reducible show SrcB _ _ _ _ _ _ _ _ _ _ _ _ _ _) | (with_reducible show LCt.CompSrcT _ _ _ _ _ _ _ _ _ _ _ _ _ _ _)); first | (k_unfold; (try dsimp only)) | (k_end; kc_close) | walk1 | (dsimp only; walk1) | (leave1; walk_say "STEP leave1"; (try dsimp only)) | fail "no step"))
          dsimp only [CPost]
          refine CEnd.intro (_, _) (by assumption) (by assumption) (by kcj_all) hdc ⟨hDI, off⟩ ?ofcB trivial (by ksw_same) ?ppB
          case ofcB => simp only [LCg.Off1]; exact ⟨by k_ne, by k_ne, by k_ne, by k_ne, by k_ne, by k_ne, by k_ne, by assumption⟩
          show StrsAre _ ((metUp row i ++ freshOf row (metUp row i) (i + 1)).map textOf)
          rw [p1, ho, if_neg (by decide), List.map_append]
          exact StrsAre.append' hp (.cons _ _ .nil)
  clear F1 N1 N2 R1
  intro us kk u tkf h tk oc vc hdc hp F2 N2
  w_strict (repeat' ((fail_if_success first | (with_reducible show wpAny _ _ (call (Value.builtin "next") _) _ _ _) | (with_reducible show wpAny _ _ (call (Value.builtin "iter") _) _ _ _) | (with_reducible show wpAny _ _ (pyIter _) _ _ _) | (with_reducible show wpAny _ _ (exec (Stmt.While _ _ _ _) _) _ _ _) | (with_reducible show wpAny _ _ (call (Value.ref 28) _) _ _ _) | (with_reducible show wpAny _ _ (call (Value.ref 35) _) _ _ _) | (with_reducible show wpAny _ _ (call (Value.ref 40) _) _ _ _) | (with_reducible show wpAny _ _ (call (Value.ref 47) _) _ _ _) | (with_reducible show wpAny _ _ (call (Value.ref 61) _) _ _ _) | (with_reducible show wpAny _ _ (call (Value.builtin "len") [Value.ref _]) _ _ _) | (with_reducible show wpAny _ _ (call (Value.builtin "sum") [Value.ref _]) _ _ _) | (with_reducible show wpAny _ _ (call (Value.builtin "max") _) _ _ _) | (with_reducible show wpAny _ _ (exec (Stmt.Assign _ (Expr.ListComp _ _ _ _) _) _) _ _ _) | (with_reducible show wpAny _ _ (eval (Expr.ListComp _ _ _ _) _) _ _ _) | (with_reducible show wpAny _ _ (call (Value.builtin "str.join") _) _ _ _) | (with_reducible show LCg.CompSrc _ _ _ _ _ _ _ _ _ _ _ _ _ _) | (with_reducible show SrcB _ _ _ _ _ _ _ _ _ _ _ _ _ _) | (with_reducible show LCt.CompSrcT _ _ _ _ _ _ _ _ _ _ _ _ _ _ _)); first | (k_unfold; (try dsimp only)) | (k_end; kc_close) | walk1 | (dsimp only; walk1) | (leave1; walk_say "STEP leave1"; (try dsimp only)) | fail "no step"))
  repeat (rename _ => zz; revert zz)
  exact fun h => h.out)
end
section
theorem stLwE : stLwD.1 := by
  intro _
  intros
  rename List Int => row
  rename Row _ => hrw
  rename RowsK _ _ _ => hRM
  rename List (Addr × List Value × Nat) => rows
  have hrl := hrw.len
  have hrb := hrw.bd
  have htl := text_len row
  have hn1 := num_bd6 hrb hrl.2
  rename Fr _ _ _ _ => F1
  rename News _ _ _ _ => N1
  rename IsRange _ _ _ _ _ _ _ _ => R1
  rename Obj.data _ = Data.cell _ => hdc0
  have N2 := news_tl N1
  refine m_range (σ := Bool × Obj) (fun c => (_, c.2) :: _) (fun c => [("straight", fun _ => .bool c.1), ("plain", fun _ => .bool true)]) ["middle", "size", "value", "again", "told"] (fun i c => c.1 = strUp row i ∧ ∃ vc, c.2.data = .cell vc) (true, _) rfl R1 (small_one (by omega) (by omega) (by omega) (by omega)) (n := row.length) (by rw [rangeSize_nat]; omega) F1 N2 ⟨⟨0, by with_unfolding_all rfl⟩, ⟨0, by with_unfolding_all rfl⟩, trivial⟩ ⟨rfl, _, by assumption⟩ ?turn ?done
  case turn =>
    clear F1 N1 N2 R1
    intro c b t u tkf h tk I oI hi off hp F2 N2
    obtain ⟨st, oc⟩ := c
    obtain ⟨hst, vc, hvc⟩ := hp
    dsimp only at hst hvc off F2 N2
    w_strict (repeat' ((fail_if_success first | (with_reducible show wpAny _ _ (call (Value.builtin "next") _) _ _ _) | (with_reducible show wpAny _ _ (call (Value.builtin "iter") _) _ _ _) | (with_reducible show wpAny _ _ (pyIter _) _ _ _) | (with_reducible show wpAny _ _ (exec (Stmt.While _ _ _ _) _) _ _ _) | (with_reducible show wpAny _ _ (call (Value.ref 28) _) _ _ _) | (with_reducible show wpAny _ _ (call (Value.ref 35) _) _ _ _) | (with_reducible show wpAny _ _ (call (Value.ref 40) _) _ _ _) | (with_reducible show wpAny _ _ (call (Value.ref 47) _) _ _ _) | (with_reducible show wpAny _ _ (call (Value.ref 61) _) _ _ _) | (with_reducible show wpAny _ _ (call (Value.builtin "len") [Value.ref _]) _ _ _) | (with_reducible show wpAny _ _ (call (Value.builtin "sum") [Value.ref _]) _ _ _) | (with_reducible show wpAny _ _ (call (Value.builtin "max") _) _ _ _) | (with_reducible show wpAny _ _ (exec (Stmt.Assign _ (Expr.ListComp _ _ _ _) _) _) _ _ _) | (with_reducible show wpAny _ _ (eval (Expr.ListComp _ _ _ _) _) _ _ _) | (with_reducible show wpAny _ _ (call (Value.builtin "str.join") _) _ _ _) | (with_reducible show LCg.CompSrc _ _ _ _ _ _ _ _ _ _ _ _ _ _) | (with_reducible show SrcB _ _ _ _ _ _ _ _ _ _ _ _ _ _)); first | (k_unfold; (try dsimp only)) | (k_end; kc_close) | walk1 | (dsimp only; walk1) | (leave1; walk_say "STEP leave1"; (try dsimp only)) | fail "no step"))
    rename Fr _ _ _ _ => F3
    rename News _ _ _ _ => N3
    rename IsRange _ _ _ _ _ _ _ _ => R3
    refine m_range (σ := Bool × Obj) (fun c => _ :: (_, c.2) :: _) (fun c => [("straight", fun _ => .bool c.1), ("plain", fun _ => .bool true)]) ["size", "value", "again", "told"] (fun j c => c.1 = (strUp row b && okUp row b j) ∧ ∃ vc, c.2.data = .cell vc) (st, oc) rfl R3 (small_one (by omega) (by omega) (by omega) (by omega)) (n := row.length - (b + 1)) (by rw [rangeSize_nat]; omega) F3 N3 ⟨⟨0, by with_unfolding_all rfl⟩, ⟨0, by with_unfolding_all rfl⟩, trivial⟩ ⟨by rw [hst]; simp [okUp], _, hvc⟩ ?turn2 ?done2
    case turn2 =>
      clear F3 N3 R3
      intro c' j t' u' tkf' h' tk' I' oI' hj off' hp' F4 N4
      obtain ⟨st', oc'⟩ := c'
      obtain ⟨hst', vc', hvc'⟩ := hp'
      dsimp only at hst' hvc' off' F4 N4
      obtain ⟨D1, mr, kr, e1, hm1, hb1⟩ := hRM.get (show b < row.length by omega)
      have hr1 := hb1.length
      have hr2 := mirRow_len row (b := b) (by omega)
      w_strict (repeat' ((fail_if_success first | (with_reducible show wpAny _ _ (call (Value.builtin "next") _) _ _ _) | (with_reducible show wpAny _ _ (call (Value.builtin "iter") _) _ _ _) | (with_reducible show wpAny _ _ (pyIter _) _ _ _) | (with_reducible show wpAny _ _ (exec (Stmt.While _ _ _ _) _) _ _ _) | (with_reducible show wpAny _ _ (call (Value.ref 28) _) _ _ _) | (with_reducible show wpAny _ _ (call (Value.ref 35) _) _ _ _) | (with_reducible show wpAny _ _ (call (Value.ref 40) _) _ _ _) | (with_reducible show wpAny _ _ (call (Value.ref 47) _) _ _ _) | (with_reducible show wpAny _ _ (call (Value.ref 61) _) _ _ _) | (with_reducible show wpAny _ _ (call (Value.builtin "len") [Value.ref _]) _ _ _) | (with_reducible show wpAny _ _ (call (Value.builtin "sum") [Value.ref _]) _ _ _) | (with_reducible show wpAny _ _ (call (Value.builtin "max") _) _ _ _) | (with_reducible show wpAny _ _ (exec (Stmt.Assign _ (Expr.ListComp _ _ _ _) _) _) _ _ _) | (with_reducible show wpAny _ _ (eval (Expr.ListComp _ _ _ _) _) _ _ _) | (with_reducible show wpAny _ _ (call (Value.builtin "str.join") _) _ _ _) | (with_reducible show LCg.CompSrc _ _ _ _ _ _ _ _ _ _ _ _ _ _) | (with_reducible show SrcB _ _ _ _ _ _ _ _ _ _ _ _ _ _) | (with_reducible show wpAny _ _ (subscriptTail _ _ (Value.ref _) (Value.int _ _)) _ _ _)); first | (k_unfold; (try dsimp only)) | (k_end; kc_close) | walk1 | (dsimp only; walk1) | (leave1; walk_say "STEP leave1"; (try dsimp only)) | fail "no step"))
      rename News _ _ _ _ => N8
      refine m_sub N8 (by k_mem) (by rw [show (0 + (b : Int)).toNat = b by omega]; exact e1) (by omega) (by omega) ?_
      w_strict (repeat' ((fail_if_success first | (with_reducible show wpAny _ _ (call (Value.builtin "next") _) _ _ _) | (with_reducible show wpAny _ _ (call (Value.builtin "iter") _) _ _ _) | (with_reducible show wpAny _ _ (pyIter _) _ _ _) | (with_reducible show wpAny _ _ (exec (Stmt.While _ _ _ _) _) _ _ _) | (with_reducible show wpAny _ _ (call (Value.ref 28) _) _ _ _) | (with_reducible show wpAny _ _ (call (Value.ref 35) _) _ _ _) | (with_reducible show wpAny _ _ (call (Value.ref 40) _) _ _ _) | (with_reducible show wpAny _ _ (call (Value.ref 47) _) _ _ _) | (with_reducible show wpAny _ _ (call (Value.ref 61) _) _ _ _) | (with_reducible show wpAny _ _ (call (Value.builtin "len") [Value.ref _]) _ _ _) | (with_reducible show wpAny _ _ (call (Value.builtin "sum") [Value.ref _]) _ _ _) | (with_reducible show wpAny _ _ (call (Value.builtin "max") _) _ _ _) | (with_reducible show wpAny _ _ (exec (Stmt.Assign _ (Expr.ListComp _ _ _ _) _) _) _ _ _) | (with_reducible show wpAny _ _ (eval (Expr.ListComp _ _ _ _) _) _ _ _) | (with_reducible show wpAny _ _ (call (Value.builtin "str.join") _) _ _ _) | (with_reducible show LCg.CompSrc _ _ _ _ _ _ _ _ _ _ _ _ _ _) | (with_reducible show SrcB _ _ _ _ _ _ _ _ _ _ _ _ _ _) | (with_reducible show wpAny _ _ (subscriptTail _ _ (Value.ref _) (Value.int _ _)) _ _ _)); first | (k_unfold; (try dsimp only)) | (k_end; kc_close) | walk1 | (dsimp only; walk1) | (leave1; walk_say "STEP leave1"; (try dsimp only)) | fail "no step"))
      rename News _ _ _ _ => N9
      refine kbo_sub N9 (by repeat' first | exact hm1 | apply List.mem_cons_of_mem) hb1 (by omega) (by rw [hr2]; omega) (by omega) ?_
      obtain ⟨m, hm⟩ : ∃ m, m = b + 1 + j := ⟨_, rfl⟩
      rw [show (0 + (b : Int) + 1 + (j : Int)).toNat = m by omega, mirRow_at row (by omega) (by omega)]
      cases hmi : mirB row b m with
      | false =>
        w_strict (repeat' ((fail_if_success first | (with_reducible show wpAny _ _ (call (Value.builtin "next") _) _ _ _) | (with_reducible show wpAny _ _ (call (Value.builtin "iter") _) _ _ _) | (with_reducible show wpAny _ _ (pyIter _) _ _ _) | (with_reducible show wpAny _ _ (exec (Stmt.While _ _ _ _) _) _ _ _) | (with_reducible show wpAny _ _ (call (Value.ref 28) _) _ _ _) | (with_reducible show wpAny _ _ (call (Value.ref 35) _) _ _ _) | (with_reducible show wpAny _ _ (call (Value.ref 40) _) _ _ _) | (with_reducible show wpAny _ _ (call (Value.ref 47) _) _ _ _) | (with_reducible show wpAny _ _ (call (Value.ref 61) _) _ _ _) | (with_reducible show wpAny _ _ (call (Value.builtin "len") [Value.ref _]) _ _ _) | (with_reducible show wpAny _ _ (call (Value.builtin "sum") [Value.ref _]) _ _ _) | (with_reducible show wpAny _ _ (call (Value.builtin "max") _) _ _ _) | (with_reducible show wpAny _ _ (exec (Stmt.Assign _ (Expr.ListComp _ _ _ _) _) _) _ _ _) | (with_reducible show wpAny _ _ (eval (Expr.ListComp _ _ _ _) _) _ _ _) | (with_reducible show wpAny _ _ (call (Value.builtin "str.join") _) _ _ _) | (with_reducible show LCg.CompSrc _ _ _ _ _ _ _ _ _ _ _ _ _ _) | (with_reducible show SrcB _ _ _ _ _ _ _ _ _ _ _ _ _ _)); first | (k_unfold; (try dsimp only)) | (k_end; kc_close) | walk1 | (dsimp only; walk1) | (leave1; walk_say "STEP leave1"; (try dsimp only)) | fail "no step"))
        dsimp only [FPost]
        refine FEnd.intro (st', oc') (by assumption) (by assumption) (by kcj_all) off' ⟨⟨0, by with_unfolding_all rfl⟩, ⟨0, by with_unfolding_all rfl⟩, trivial⟩ (by ksw_same) ⟨?_, _, hvc'⟩
        rw [okUp_succ, okAt, ← hm, hmi, hst']
        simp
      | true =>
        w_strict (repeat' ((fail_if_success first | (with_reducible show wpAny _ _ (call (Value.builtin "next") _) _ _ _) | (with_reducible show wpAny _ _ (call (Value.builtin "iter") _) _ _ _) | (with_reducible show wpAny _ _ (pyIter _) _ _ _) | (with_reducible show wpAny _ _ (exec (Stmt.While _ _ _ _) _) _ _ _) | (with_reducible show wpAny _ _ (call (Value.ref 28) _) _ _ _) | (with_reducible show wpAny _ _ (call (Value.ref 35) _) _ _ _) | (with_reducible show wpAny _ _ (call (Value.ref 40) _) _ _ _) | (with_reducible show wpAny _ _ (call (Value.ref 47) _) _ _ _) | (with_reducible show wpAny _ _ (call (Value.ref 61) _) _ _ _) | (with_reducible show wpAny _ _ (call (Value.builtin "len") [Value.ref _]) _ _ _) | (with_reducible show wpAny _ _ (call (Value.builtin "sum") [Value.ref _]) _ _ _) | (with_reducible show wpAny _ _ (call (Value.builtin "max") _) _ _ _) | (with_reducible show wpAny _ _ (exec (Stmt.Assign _ (Expr.ListComp _ _ _ _) _) _) _ _ _) | (with_reducible show wpAny _ _ (eval (Expr.ListComp _ _ _ _) _) _ _ _) | (with_reducible show wpAny _ _ (call (Value.builtin "str.join") _) _ _ _) | (with_reducible show LCg.CompSrc _ _ _ _ _ _ _ _ _ _ _ _ _ _) | (with_reducible show SrcB _ _ _ _ _ _ _ _ _ _ _ _ _ _) | (with_reducible show wpAny _ _ (binaryOp Operator.Mod _ _) _ _ _)); first | (k_unfold; (try dsimp only)) | (k_end; kc_close) | walk1 | (dsimp only; walk1) | (leave1; walk_say "STEP leave1"; (try dsimp only)) | fail "no step"))
        refine mod_int' (p16_ne _) ?_
        obtain ⟨W, hW⟩ : ∃ W, W = seg row b m := ⟨_, rfl⟩
        have ev : ((numOf row).fdiv (16 ^ ((row.length : Int) - (0 + (b : Int) + 1 + (j : Int))).toNat)).fmod (16 ^ (0 + (b : Int) + 1 + (j : Int) - (0 + (b : Int))).toNat) = numOf W := by
          rw [show ((row.length : Int) - (0 + (b : Int) + 1 + (j : Int))).toNat = row.length - m by omega, show (0 + (b : Int) + 1 + (j : Int) - (0 + (b : Int))).toNat = m - b by omega, hW]
          exact num_forth hrb (by omega) (by omega)
        obtain ⟨z, hz⟩ : ∃ z, z = numOf W := ⟨_, rfl⟩
        rw [ev, ← hz]
        dsimp only
        w_strict (repeat' ((fail_if_success first | (with_reducible show wpAny _ _ (call (Value.builtin "next") _) _ _ _) | (with_reducible show wpAny _ _ (call (Value.builtin "iter") _) _ _ _) | (with_reducible show wpAny _ _ (pyIter _) _ _ _) | (with_reducible show wpAny _ _ (exec (Stmt.While _ _ _ _) _) _ _ _) | (with_reducible show wpAny _ _ (call (Value.ref 28) _) _ _ _) | (with_reducible show wpAny _ _ (call (Value.ref 35) _) _ _ _) | (with_reducible show wpAny _ _ (call (Value.ref 40) _) _ _ _) | (with_reducible show wpAny _ _ (call (Value.ref 47) _) _ _ _) | (with_reducible show wpAny _ _ (call (Value.ref 61) _) _ _ _) | (with_reducible show wpAny _ _ (call (Value.builtin "len") [Value.ref _]) _ _ _) | (with_reducible show wpAny _ _ (call (Value.builtin "sum") [Value.ref _]) _ _ _) | (with_reducible show wpAny _ _ (call (Value.builtin "max") _) _ _ _) | (with_reducible show wpAny _ _ (exec (Stmt.Assign _ (Expr.ListComp _ _ _ _) _) _) _ _ _) | (with_reducible show wpAny _ _ (eval (Expr.ListComp _ _ _ _) _) _ _ _) | (with_reducible show wpAny _ _ (call (Value.builtin "str.join") _) _ _ _) | (with_reducible show LCg.CompSrc _ _ _ _ _ _ _ _ _ _ _ _ _ _) | (with_reducible show SrcB _ _ _ _ _ _ _ _ _ _ _ _ _ _) | (with_reducible show wpAny _ _ (execs (Stmt.Assign _ (Expr.List _ _) _ :: _) _) _ _ _)); first | (k_unfold; (try dsimp only)) | (k_end; kc_close) | walk1 | (dsimp only; walk1) | (leave1; walk_say "STEP leave1"; (try dsimp only)) | fail "no step"))
        w_strict (repeat' ((fail_if_success first | (with_reducible show wpAny _ _ (call (Value.builtin "next") _) _ _ _) | (with_reducible show wpAny _ _ (call (Value.builtin "iter") _) _ _ _) | (with_reducible show wpAny _ _ (pyIter _) _ _ _) | (with_reducible show wpAny _ _ (exec (Stmt.While _ _ _ _) _) _ _ _) | (with_reducible show wpAny _ _ (call (Value.ref 28) _) _ _ _) | (with_reducible show wpAny _ _ (call (Value.ref 35) _) _ _ _) | (with_reducible show wpAny _ _ (call (Value.ref 40) _) _ _ _) | (with_reducible show wpAny _ _ (call (Value.ref 47) _) _ _ _) | (with_reducible show wpAny _ _ (call (Value.ref 61) _) _ _ _) | (with_reducible show wpAny _ _ (call (Value.builtin "len") [Value.ref _]) _ _ _) | (with_reducible show wpAny _ _ (call (Value.builtin "sum") [Value.ref _]) _ _ _) | (with_reducible show wpAny _ _ (call (Value.builtin "max") _) _ _ _) | (with_reducible show wpAny _ _ (exec (Stmt.Assign _ (Expr.ListComp _ _ _ _) _) _) _ _ _) | (with_reducible show wpAny _ _ (eval (Expr.ListComp _ _ _ _) _) _ _ _) | (with_reducible show wpAny _ _ (call (Value.builtin "str.join") _) _ _ _) | (with_reducible show LCg.CompSrc _ _ _ _ _ _ _ _ _ _ _ _ _ _) | (with_reducible show SrcB _ _ _ _ _ _ _ _ _ _ _ _ _ _) | (with_reducible show wpAny _ _ (exec (Stmt.For _ _ _ _ _) _) _ _ _)); first | (k_unfold; (try dsimp only)) | (k_end; kc_close) | walk1 | (dsimp only; walk1) | (leave1; walk_say "STEP leave1"; (try dsimp only)) | fail "no step"))
        refine For_C ?_
        w_strict (repeat' ((fail_if_success first | (with_reducible show wpAny _ _ (call (Value.builtin "next") _) _ _ _) | (with_reducible show wpAny _ _ (call (Value.builtin "iter") _) _ _ _) | (with_reducible show wpAny _ _ (pyIter _) _ _ _) | (with_reducible show wpAny _ _ (exec (Stmt.While _ _ _ _) _) _ _ _) | (with_reducible show wpAny _ _ (call (Value.ref 28) _) _ _ _) | (with_reducible show wpAny _ _ (call (Value.ref 35) _) _ _ _) | (with_reducible show wpAny _ _ (call (Value.ref 40) _) _ _ _) | (with_reducible show wpAny _ _ (call (Value.ref 47) _) _ _ _) | (with_reducible show wpAny _ _ (call (Value.ref 61) _) _ _ _) | (with_reducible show wpAny _ _ (call (Value.builtin "len") [Value.ref _]) _ _ _) | (with_reducible show wpAny _ _ (call (Value.builtin "sum") [Value.ref _]) _ _ _) | (with_reducible show wpAny _ _ (call (Value.builtin "max") _) _ _ _) | (with_reducible show wpAny _ _ (exec (Stmt.Assign _ (Expr.ListComp _ _ _ _) _) _) _ _ _) | (with_reducible show wpAny _ _ (eval (Expr.ListComp _ _ _ _) _) _ _ _) | (with_reducible show wpAny _ _ (call (Value.builtin "str.join") _) _ _ _) | (with_reducible show LCg.CompSrc _ _ _ _ _ _ _ _ _ _ _ _ _ _) | (with_reducible show SrcB _ _ _ _ _ _ _ _ _ _ _ _ _ _)); first | (k_unfold; (try dsimp only)) | (k_end; kc_close) | walk1 | (dsimp only; walk1) | (leave1; walk_say "STEP leave1"; (try dsimp only)) | fail "no step"))
        rename Fr _ _ _ _ => F7
        rename News _ _ _ _ => N7
        rename IsRange _ _ _ _ _ _ _ _ => R7
        have N7b := news_ag N7
        simp only [LCg.Off1] at off off'
        refine m_rangeCL (us₀ := []) ["told"] (fun q us => IntsAre us ((againUp row b m q).map fun (k : Nat) => (k : Int))) (by rfl) (by rfl) (by rfl) rfl R7 (small_one (by omega) (by omega) (by omega) (by omega)) (n := row.length - m) (by rw [rangeSize_nat]; omega) F7 N7b hvc' (by k_ne) ?oc .nil ?turn3 ?done3 ?pe
        case oc => simp only [LCg.Off1]; exact ⟨by k_ne, by k_ne, by k_ne, by k_ne, by k_ne, by k_ne, by k_ne, by k_ne, by k_ne, by assumption⟩
        case pe => passes_own
        case turn3 =>
          clear F7 N7 N7b R7
          intro us kk q t9 u9 tkf9 h9 tk9 I9 oI9 oc9 hq hdc9 hIc9 hDI9 off9 hp9 F9 N9
          simp only [LCg.Off1] at off9
          obtain ⟨en, hen⟩ : ∃ en, en = m + 1 + q := ⟨_, rfl⟩
          have hwl : (textOf W).length ≤ row.length := by rw [text_len, hW, seg_len]; omega
          have hwb : ∀ f ∈ W, 1 ≤ f ∧ f ≤ 15 := by rw [hW]; exact seg_bd hrb _ _
          have hgl : (textOf (seg row (b + 1) en)).length ≤ row.length := by rw [text_len, seg_len]; omega
          w_strict (repeat' ((fail_if_success first | (with_reducible show wpAny _ _ (call (Value.builtin "next") _) _ _ _) | (with_reducible show wpAny _ _ (call (Value.builtin "iter") _) _ _ _) | (with_reducible show wpAny _ _ (pyIter _) _ _ _) | (with_reducible show wpAny _ _ (exec (Stmt.While _ _ _ _) _) _ _ _) | (with_reducible show wpAny _ _ (call (Value.ref 28) _) _ _ _) | (with_reducible show wpAny _ _ (call (Value.ref 35) _) _ _ _) | (with_reducible show wpAny _ _ (call (Value.ref 40) _) _ _ _) | (with_reducible show wpAny _ _ (call (Value.ref 47) _) _ _ _) | (with_reducible show wpAny _ _ (call (Value.ref 61) _) _ _ _) | (with_reducible show wpAny _ _ (call (Value.builtin "len") [Value.ref _]) _ _ _) | (with_reducible show wpAny _ _ (call (Value.builtin "sum") [Value.ref _]) _ _ _) | (with_reducible show wpAny _ _ (call (Value.builtin "max") _) _ _ _) | (with_reducible show wpAny _ _ (exec (Stmt.Assign _ (Expr.ListComp _ _ _ _) _) _) _ _ _) | (with_reducible show wpAny _ _ (eval (Expr.ListComp _ _ _ _) _) _ _ _) | (with_reducible show wpAny _ _ (call (Value.builtin "str.join") _) _ _ _) | (with_reducible show LCg.CompSrc _ _ _ _ _ _ _ _ _ _ _ _ _ _) | (with_reducible show SrcB _ _ _ _ _ _ _ _ _ _ _ _ _ _) | (with_reducible show wpAny _ _ (subscriptTail _ _ _ _) _ _ _)); first | (k_unfold; (try dsimp only)) | (k_end; kc_close) | walk1 | (dsimp only; walk1) | (leave1; walk_say "STEP leave1"; (try dsimp only)) | fail "no step"))
          w_strict walk1
          rw [slice_seg row (a := b) (b := m) (by omega) (by omega) (by omega) (by omega), ← hW]
          w_strict (repeat' ((fail_if_success first | (with_reducible show wpAny _ _ (call (Value.builtin "next") _) _ _ _) | (with_reducible show wpAny _ _ (call (Value.builtin "iter") _) _ _ _) | (with_reducible show wpAny _ _ (pyIter _) _ _ _) | (with_reducible show wpAny _ _ (exec (Stmt.While _ _ _ _) _) _ _ _) | (with_reducible show wpAny _ _ (call (Value.ref 28) _) _ _ _) | (with_reducible show wpAny _ _ (call (Value.ref 35) _) _ _ _) | (with_reducible show wpAny _ _ (call (Value.ref 40) _) _ _ _) | (with_reducible show wpAny _ _ (call (Value.ref 47) _) _ _ _) | (with_reducible show wpAny _ _ (call (Value.ref 61) _) _ _ _) | (with_reducible show wpAny _ _ (call (Value.builtin "len") [Value.ref _]) _ _ _) | (with_reducible show wpAny _ _ (call (Value.builtin "sum") [Value.ref _]) _ _ _) | (with_reducible show wpAny _ _ (call (Value.builtin "max") _) _ _ _) | (with_reducible show wpAny _ _ (exec (Stmt.Assign _ (Expr.ListComp _ _ _ _) _) _) _ _ _) | (with_reducible show wpAny _ _ (eval (Expr.ListComp _ _ _ _) _) _ _ _) | (with_reducible show wpAny _ _ (call (Value.builtin "str.join") _) _ _ _) | (with_reducible show LCg.CompSrc _ _ _ _ _ _ _ _ _ _ _ _ _ _) | (with_reducible show SrcB _ _ _ _ _ _ _ _ _ _ _ _ _ _) | (with_reducible show wpAny _ _ (subscriptTail _ _ _ _) _ _ _)); first | (k_unfold; (try dsimp only)) | (k_end; kc_close) | walk1 | (dsimp only; walk1) | (leave1; walk_say "STEP leave1"; (try dsimp only)) | fail "no step"))
          w_strict walk1
          rw [slice_seg row (a := b + 1) (b := en) (by omega) (by omega) (by omega) (by omega)]
          w_strict (repeat' ((fail_if_success first | (with_reducible show wpAny _ _ (call (Value.builtin "next") _) _ _ _) | (with_reducible show wpAny _ _ (call (Value.builtin "iter") _) _ _ _) | (with_reducible show wpAny _ _ (pyIter _) _ _ _) | (with_reducible show wpAny _ _ (exec (Stmt.While _ _ _ _) _) _ _ _) | (with_reducible show wpAny _ _ (call (Value.ref 28) _) _ _ _) | (with_reducible show wpAny _ _ (call (Value.ref 35) _) _ _ _) | (with_reducible show wpAny _ _ (call (Value.ref 40) _) _ _ _) | (with_reducible show wpAny _ _ (call (Value.ref 47) _) _ _ _) | (with_reducible show wpAny _ _ (call (Value.ref 61) _) _ _ _) | (with_reducible show wpAny _ _ (call (Value.builtin "len") [Value.ref _]) _ _ _) | (with_reducible show wpAny _ _ (call (Value.builtin "sum") [Value.ref _]) _ _ _) | (with_reducible show wpAny _ _ (call (Value.builtin "max") _) _ _ _) | (with_reducible show wpAny _ _ (exec (Stmt.Assign _ (Expr.ListComp _ _ _ _) _) _) _ _ _) | (with_reducible show wpAny _ _ (eval (Expr.ListComp _ _ _ _) _) _ _ _) | (with_reducible show wpAny _ _ (call (Value.builtin "str.join") _) _ _ _) | (with_reducible show LCg.CompSrc _ _ _ _ _ _ _ _ _ _ _ _ _ _) | (with_reducible show SrcB _ _ _ _ _ _ _ _ _ _ _ _ _ _) | (with_reducible show wpAny _ _ (subscriptTail _ _ _ _) _ _ _)); first | (k_unfold; (try dsimp only)) | (k_end; kc_close) | walk1 | (dsimp only; walk1) | (leave1; walk_say "STEP leave1"; (try dsimp only)) | fail "no step"))
          refine' cl_use (c_el _ _ _ _ (PySem.Str.ofString "..." ++ textOf W) (textOf (seg row (b + 1) en)) PySem.Str.empty (textOf W) _ _ _) ?k1x6 ?k2x6 ?k3x6 ?k4x6 ?k5x6 ?kKx6 ?kpx6 ?kdx6 ?kux6 ?kRx6
          case k1x6 => k_asm
          case k2x6 => k_asm
          case k3x6 => k_asm
          case k4x6 => k_asm
          case k5x6 => k_asm
          case kKx6 => exact rfl
          case kpx6 => exact el_pre (dots_app _) DF.empty (text_df hwb) (by decide) (by omega) (by omega)
          case kdx6 => ktr_room
          case kux6 => ktr_units
          intro t9 h9 tk9 F9 N9
          rw [hW, ends_seg hrb (by omega) (by omega) (by omega), ← hW]
          w_strict (repeat' ((fail_if_success first | (with_reducible show wpAny _ _ (call (Value.builtin "next") _) _ _ _) | (with_reducible show wpAny _ _ (call (Value.builtin "iter") _) _ _ _) | (with_reducible show wpAny _ _ (pyIter _) _ _ _) | (with_reducible show wpAny _ _ (exec (Stmt.While _ _ _ _) _) _ _ _) | (with_reducible show wpAny _ _ (call (Value.ref 28) _) _ _ _) | (with_reducible show wpAny _ _ (call (Value.ref 35) _) _ _ _) | (with_reducible show wpAny _ _ (call (Value.ref 40) _) _ _ _) | (with_reducible show wpAny _ _ (call (Value.ref 47) _) _ _ _) | (with_reducible show wpAny _ _ (call (Value.ref 61) _) _ _ _) | (with_reducible show wpAny _ _ (call (Value.builtin "len") [Value.ref _]) _ _ _) | (with_reducible show wpAny _ _ (call (Value.builtin "sum") [Value.ref _]) _ _ _) | (with_reducible show wpAny _ _ (call (Value.builtin "max") _) _ _ _) | (with_reducible show wpAny _ _ (exec (Stmt.Assign _ (Expr.ListComp _ _ _ _) _) _) _ _ _) | (with_reducible show wpAny _ _ (eval (Expr.ListComp _ _ _ _) _) _ _ _) | (with_reducible show wpAny _ _ (call (Value.builtin "str.join") _) _ _ _) | (with_reducible show LCg.CompSrc _ _ _ _ _ _ _ _ _ _ _ _ _ _) | (with_reducible show SrcB _ _ _ _ _ _ _ _ _ _ _ _ _ _) | (with_reducible show wpAny _ _ (binaryOp Operator.Mod _ _) _ _ _)); first | (k_unfold; (try dsimp only)) | (k_end; kc_close) | walk1 | (dsimp only; walk1) | (leave1; walk_say "STEP leave1"; (try dsimp only)) | fail "no step"))
          refine mod_int' (p16_ne _) ?_
          have ev9 : ((numOf row).fdiv (16 ^ ((row.length : Int) - (0 + (b : Int) + 1 + (j : Int) + 1 + (q : Int))).toNat)).fmod (16 ^ (0 + (b : Int) + 1 + (j : Int) - (0 + (b : Int))).toNat) = numOf (seg row (en - (m - b)) en) := by
            rw [show ((row.length : Int) - (0 + (b : Int) + 1 + (j : Int) + 1 + (q : Int))).toNat = row.length - en by omega, show (0 + (b : Int) + 1 + (j : Int) - (0 + (b : Int))).toNat = m - b by omega]
            exact num_end hrb (by omega) (by omega) (by omega)
          rw [ev9]
          dsimp only
          w_strict (repeat' ((fail_if_success first | (with_reducible show wpAny _ _ (call (Value.builtin "next") _) _ _ _) | (with_reducible show wpAny _ _ (call (Value.builtin "iter") _) _ _ _) | (with_reducible show wpAny _ _ (pyIter _) _ _ _) | (with_reducible show wpAny _ _ (exec (Stmt.While _ _ _ _) _) _ _ _) | (with_reducible show wpAny _ _ (call (Value.ref 28) _) _ _ _) | (with_reducible show wpAny _ _ (call (Value.ref 35) _) _ _ _) | (with_reducible show wpAny _ _ (call (Value.ref 40) _) _ _ _) | (with_reducible show wpAny _ _ (call (Value.ref 47) _) _ _ _) | (with_reducible show wpAny _ _ (call (Value.ref 61) _) _ _ _) | (with_reducible show wpAny _ _ (call (Value.builtin "len") [Value.ref _]) _ _ _) | (with_reducible show wpAny _ _ (call (Value.builtin "sum") [Value.ref _]) _ _ _) | (with_reducible show wpAny _ _ (call (Value.builtin "max") _) _ _ _) | (with_reducible show wpAny _ _ (exec (Stmt.Assign _ (Expr.ListComp _ _ _ _) _) _) _ _ _) | (with_reducible show wpAny _ _ (eval (Expr.ListComp _ _ _ _) _) _ _ _) | (with_reducible show wpAny _ _ (call (Value.builtin "str.join") _) _ _ _) | (with_reducible show LCg.CompSrc _ _ _ _ _ _ _ _ _ _ _ _ _ _) | (with_reducible show SrcB _ _ _ _ _ _ _ _ _ _ _ _ _ _) | (with_reducible show wpAny _ _ (compareOp CmpOp.IsNot _ _) _ _ _)); first | (k_unfold; (try dsimp only)) | (k_end; kc_close) | walk1 | (dsimp only; walk1) | (leave1; walk_say "STEP leave1"; (try dsimp only)) | fail "no step"))
          have eb : (numOf (seg row (en - (m - b)) en) == z) = (seg row (en - (m - b)) en == W) := by
            rw [hz, hW]
            exact num_segs hrb (by omega) (by omega) (by omega)
          rw [eb]
          have hus := hp9.length
          have hag : (againUp row b m q).length ≤ q := againUp_len row b m q
          rw [List.length_map] at hus
          rename Fr _ _ _ _ => F10
          cases hs : (seg row (en - (m - b)) en == W) with
          | true =>
            rw [hs] at F10
            w_strict (repeat' ((fail_if_success first | (with_reducible show wpAny _ _ (call (Value.builtin "next") _) _ _ _) | (with_reducible show wpAny _ _ (call (Value.builtin "iter") _) _ _ _) | (with_reducible show wpAny _ _ (pyIter _) _ _ _) | (with_reducible show wpAny _ _ (exec (Stmt.While _ _ _ _) _) _ _ _) | (with_reducible show wpAny _ _ (call (Value.ref 28) _) _ _ _) | (with_reducible show wpAny _ _ (call (Value.ref 35) _) _ _ _) | (with_reducible show wpAny _ _ (call (Value.ref 40) _) _ _ _) | (with_reducible show wpAny _ _ (call (Value.ref 47) _) _ _ _) | (with_reducible show wpAny _ _ (call (Value.ref 61) _) _ _ _) | (with_reducible show wpAny _ _ (call (Value.builtin "len") [Value.ref _]) _ _ _) | (with_reducible show wpAny _ _ (call (Value.builtin "sum") [Value.ref _]) _ _ _) | (with_reducible show wpAny _ _ (call (Value.builtin "max") _) _ _ _) | (with_reducible show wpAny _ _ (exec (Stmt.Assign _ (Expr.ListComp _ _ _ _) _) _) _ _ _) | (with_reducible show wpAny _ _ (eval (Expr.ListComp _ _ _ _) _) _ _ _) | (with_reducible show wpAny _ _ (call (Value.builtin "str.join") _) _ _ _) | (with_reducible show LCg.CompSrc _ _ _ _ _ _ _ _ _ _ _ _ _ _) | (with_reducible show SrcB _ _ _ _ _ _ _ _ _ _ _ _ _ _) | (with_reducible show wpAny _ _ (call (Value.builtin "list.append") _) _ _ _)); first | (k_unfold; (try dsimp only)) | (k_end; kc_close) | walk1 | (dsimp only; walk1) | (leave1; walk_say "STEP leave1"; (try dsimp only)) | fail "no step"))
            rename Fr _ _ _ _ => F11
            rename News _ _ _ _ => N11
            refine' m_appendL F11 N11 ?xu ?xz ?_
            case xu => k_upd
            case xz => omega
            clear F11 N11
            intro h12 F11 N11
            w_strict (repeat' ((fail_if_success first | (with_reducible show wpAny _ _ (call (Value.builtin "next") _) _ _ _) | (with_reducible show wpAny _ _ (call (Value.builtin "iter") _) _ _ _) | (with_reducible show wpAny _ _ (pyIter _) _ _ _) | (with_reducible show wpAny _ _ (exec (Stmt.While _ _ _ _) _) _ _ _) | (with_reducible show wpAny _ _ (call (Value.ref 28) _) _ _ _) | (with_reducible show wpAny _ _ (call (Value.ref 35) _) _ _ _) | (with_reducible show wpAny _ _ (call (Value.ref 40) _) _ _ _) | (with_reducible show wpAny _ _ (call (Value.ref 47) _) _ _ _) | (with_reducible show wpAny _ _ (call (Value.ref 61) _) _ _ _) | (with_reducible show wpAny _ _ (call (Value.builtin "len") [Value.ref _]) _ _ _) | (with_reducible show wpAny _ _ (call (Value.builtin "sum") [Value.ref _]) _ _ _) | (with_reducible show wpAny _ _ (call (Value.builtin "max") _) _ _ _) | (with_reducible show wpAny _ _ (exec (Stmt.Assign _ (Expr.ListComp _ _ _ _) _) _) _ _ _) | (with_reducible show wpAny _ _ (eval (Expr.ListComp _ _ _ _) _) _ _ _) | (with_reducible show wpAny _ _ (call (Value.builtin "str.join") _) _ _ _) | (with_reducible show LCg.CompSrc _ _ _ _ _ _ _ _ _ _ _ _ _ _) | (with_reducible show SrcB _ _ _ _ _ _ _ _ _ _ _ _ _ _)); first | (k_unfold; (try dsimp only)) | (k_end; kc_close) | walk1 | (dsimp only; walk1) | (leave1; walk_say "STEP leave1"; (try dsimp only)) | fail "no step"))
            dsimp only [CPost]
            refine CEnd.intro (_, _) (by assumption) (by assumption) (by kcj_all) hdc9 ⟨hDI9, off9⟩ ?ofc trivial (by ksw_same) ?pp
            case ofc => simp only [LCg.Off1]; exact ⟨by k_ne, by k_ne, by k_ne, by k_ne, by k_ne, by k_ne, by k_ne, by k_ne, by k_ne, by k_ne, by assumption⟩
            show IntsAre _ ((againUp row b m (q + 1)).map fun (k : Nat) => (k : Int))
            rw [againUp_succ, ← hen, ← hW, hs, if_pos rfl, List.map_append]
            exact ints_snoc hp9 (show (0 + (b : Int) + 1 + (j : Int) + 1 + (q : Int)) = ((en : Nat) : Int) by omega)
          | false =>
            rw [hs] at F10
            w_strict (repeat' ((fail_if_success first | (with_reducible show wpAny _ _ (call (Value.builtin "next") _) _ _ _) | (with_reducible show wpAny _ _ (call (Value.builtin "iter") _) _ _ _) | (with_reducible show wpAny _ _ (pyIter _) _ _ _) | (with_reducible show wpAny _ _ (exec (Stmt.While _ _ _ _) _) _ _ _) | (with_reducible show wpAny _ _ (call (Value.ref 28) _) _ _ _) | (with_reducible show wpAny _ _ (call (Value.ref 35) _) _ _ _) | (with_reducible show wpAny _ _ (call (Value.ref 40) _) _ _ _) | (with_reducible show wpAny _ _ (call (Value.ref 47) _) _ _ _) | (with_reducible show wpAny _ _ (call (Value.ref 61) _) _ _ _) | (with_reducible show wpAny _ _ (call (Value.builtin "len") [Value.ref _]) _ _ _) | (with_reducible show wpAny _ _ (call (Value.builtin "sum") [Value.ref _]) _ _ _) | (with_reducible show wpAny _ _ (call (Value.builtin "max") _) _ _ _) | (with_reducible show wpAny _ _ (exec (Stmt.Assign _ (Expr.ListComp _ _ _ _) _) _) _ _ _) | (with_reducible show wpAny _ _ (eval (Expr.ListComp _ _ _ _) _) _ _ _) | (with_reducible show wpAny _ _ (call (Value.builtin "str.join") _) _ _ _) | (with_reducible show LCg.CompSrc _ _ _ _ _ _ _ _ _ _ _ _ _ _) | (with_reducible show SrcB _ _ _ _ _ _ _ _ _ _ _ _ _ _)); first | (k_unfold; (try dsimp only)) | (k_end; kc_close) | walk1 | (dsimp only; walk1) | (leave1; walk_say "STEP leave1"; (try dsimp only)) | fail "no step"))
            dsimp only [CPost]
            refine CEnd.intro (_, _) (by assumption) (by assumption) (by kcj_all) hdc9 ⟨hDI9, off9⟩ ?ofcB trivial (by ksw_same) ?ppB
            case ofcB => simp only [LCg.Off1]; exact ⟨by k_ne, by k_ne, by k_ne, by k_ne, by k_ne, by k_ne, by k_ne, by k_ne, by k_ne, by k_ne, by assumption⟩
            show IntsAre _ ((againUp row b m (q + 1)).map fun (k : Nat) => (k : Int))
            rw [againUp_succ, ← hen, ← hW, hs, if_neg (by decide), List.append_nil]
            exact hp9
        case done3 =>
          clear F7 N7 N7b R7
          intro us kk u9 tkf9 h9 tk9 oc9 vc9 hdc9 hp9 F9 N9
          have hp9 : IntsAre us ((againOf row b m).map fun (k : Nat) => (k : Int)) := hp9
          w_strict (repeat' ((fail_if_success first | (with_reducible show wpAny _ _ (call (Value.builtin "next") _) _ _ _) | (with_reducible show wpAny _ _ (call (Value.builtin "iter") _) _ _ _) | (with_reducible show wpAny _ _ (pyIter _) _ _ _) | (with_reducible show wpAny _ _ (exec (Stmt.While _ _ _ _) _) _ _ _) | (with_reducible show wpAny _ _ (call (Value.ref 28) _) _ _ _) | (with_reducible show wpAny _ _ (call (Value.ref 35) _) _ _ _) | (with_reducible show wpAny _ _ (call (Value.ref 40) _) _ _ _) | (with_reducible show wpAny _ _ (call (Value.ref 47) _) _ _ _) | (with_reducible show wpAny _ _ (call (Value.ref 61) _) _ _ _) | (with_reducible show wpAny _ _ (call (Value.builtin "len") [Value.ref _]) _ _ _) | (with_reducible show wpAny _ _ (call (Value.builtin "sum") [Value.ref _]) _ _ _) | (with_reducible show wpAny _ _ (call (Value.builtin "max") _) _ _ _) | (with_reducible show wpAny _ _ (exec (Stmt.Assign _ (Expr.ListComp _ _ _ _) _) _) _ _ _) | (with_reducible show wpAny _ _ (eval (Expr.ListComp _ _ _ _) _) _ _ _) | (with_reducible show wpAny _ _ (call (Value.builtin "str.join") _) _ _ _) | (with_reducible show LCg.CompSrc _ _ _ _ _ _ _ _ _ _ _ _ _ _) | (with_reducible show SrcB _ _ _ _ _ _ _ _ _ _ _ _ _ _) | (with_reducible show wpAny _ _ (compareOp CmpOp.NotEq _ _) _ _ _)); first | (k_unfold; (try dsimp only)) | (k_end; kc_close) | walk1 | (dsimp only; walk1) | (leave1; walk_say "STEP leave1"; (try dsimp only)) | fail "no step"))
          rename News _ _ _ _ => N10
          cases hag : againOf row b m with
          | nil =>
            rw [hag] at hp9
            refine ne_intsK (ms := []) (us := []) (News.isList N10 (by k_mem)) hp9 (News.isList N10 (by k_mem)) .nil (by units_room) ?_
            w_strict (repeat' ((fail_if_success first | (with_reducible show wpAny _ _ (call (Value.builtin "next") _) _ _ _) | (with_reducible show wpAny _ _ (call (Value.builtin "iter") _) _ _ _) | (with_reducible show wpAny _ _ (pyIter _) _ _ _) | (with_reducible show wpAny _ _ (exec (Stmt.While _ _ _ _) _) _ _ _) | (with_reducible show wpAny _ _ (call (Value.ref 28) _) _ _ _) | (with_reducible show wpAny _ _ (call (Value.ref 35) _) _ _ _) | (with_reducible show wpAny _ _ (call (Value.ref 40) _) _ _ _) | (with_reducible show wpAny _ _ (call (Value.ref 47) _) _ _ _) | (with_reducible show wpAny _ _ (call (Value.ref 61) _) _ _ _) | (with_reducible show wpAny _ _ (call (Value.builtin "len") [Value.ref _]) _ _ _) | (with_reducible show wpAny _ _ (call (Value.builtin "sum") [Value.ref _]) _ _ _) | (with_reducible show wpAny _ _ (call (Value.builtin "max") _) _ _ _) | (with_reducible show wpAny _ _ (exec (Stmt.Assign _ (Expr.ListComp _ _ _ _) _) _) _ _ _) | (with_reducible show wpAny _ _ (eval (Expr.ListComp _ _ _ _) _) _ _ _) | (with_reducible show wpAny _ _ (call (Value.builtin "str.join") _) _ _ _) | (with_reducible show LCg.CompSrc _ _ _ _ _ _ _ _ _ _ _ _ _ _) | (with_reducible show SrcB _ _ _ _ _ _ _ _ _ _ _ _ _ _) | (with_reducible show wpAny _ _ (subscriptTail _ _ (Value.ref _) (Value.int _ _)) _ _ _)); first | (k_unfold; (try dsimp only)) | (k_end; kc_close) | walk1 | (dsimp only; walk1) | (leave1; walk_say "STEP leave1"; (try dsimp only)) | fail "no step"))
            dsimp only [FPost]
            refine FEnd.intro (st', oc9) (by assumption) (by assumption) (by kcj_all) off' ⟨⟨0, by with_unfolding_all rfl⟩, ⟨0, by with_unfolding_all rfl⟩, trivial⟩ (by ksw_same) ⟨?_, _, hdc9⟩
            rw [okUp_succ, okAt, ← hm, hmi, hag, hst']
            simp
          | cons e0 er =>
            rw [hag] at hp9
            refine ne_intsK (ms := []) (us := []) (News.isList N10 (by k_mem)) hp9 (News.isList N10 (by k_mem)) .nil (by units_room) ?_
            w_strict (repeat' ((fail_if_success first | (with_reducible show wpAny _ _ (call (Value.builtin "next") _) _ _ _) | (with_reducible show wpAny _ _ (call (Value.builtin "iter") _) _ _ _) | (with_reducible show wpAny _ _ (pyIter _) _ _ _) | (with_reducible show wpAny _ _ (exec (Stmt.While _ _ _ _) _) _ _ _) | (with_reducible show wpAny _ _ (call (Value.ref 28) _) _ _ _) | (with_reducible show wpAny _ _ (call (Value.ref 35) _) _ _ _) | (with_reducible show wpAny _ _ (call (Value.ref 40) _) _ _ _) | (with_reducible show wpAny _ _ (call (Value.ref 47) _) _ _ _) | (with_reducible show wpAny _ _ (call (Value.ref 61) _) _ _ _) | (with_reducible show wpAny _ _ (call (Value.builtin "len") [Value.ref _]) _ _ _) | (with_reducible show wpAny _ _ (call (Value.builtin "sum") [Value.ref _]) _ _ _) | (with_reducible show wpAny _ _ (call (Value.builtin "max") _) _ _ _) | (with_reducible show wpAny _ _ (exec (Stmt.Assign _ (Expr.ListComp _ _ _ _) _) _) _ _ _) | (with_reducible show wpAny _ _ (eval (Expr.ListComp _ _ _ _) _) _ _ _) | (with_reducible show wpAny _ _ (call (Value.builtin "str.join") _) _ _ _) | (with_reducible show LCg.CompSrc _ _ _ _ _ _ _ _ _ _ _ _ _ _) | (with_reducible show SrcB _ _ _ _ _ _ _ _ _ _ _ _ _ _) | (with_reducible show wpAny _ _ (subscriptTail _ _ (Value.ref _) (Value.int _ _)) _ _ _)); first | (k_unfold; (try dsimp only)) | (k_end; kc_close) | walk1 | (dsimp only; walk1) | (leave1; walk_say "STEP leave1"; (try dsimp only)) | fail "no step"))
            · rename decide _ = true => hx
              exact absurd (of_decide_eq_true hx) (by simp)
            rename News _ _ _ _ => N11
            refine m_sub N11 (by k_mem) (by rw [show (0 + (b : Int)).toNat = b by omega]; exact e1) (by omega) (by omega) ?_
            w_strict (repeat' ((fail_if_success first | (with_reducible show wpAny _ _ (call (Value.builtin "next") _) _ _ _) | (with_reducible show wpAny _ _ (call (Value.builtin "iter") _) _ _ _) | (with_reducible show wpAny _ _ (pyIter _) _ _ _) | (with_reducible show wpAny _ _ (exec (Stmt.While _ _ _ _) _) _ _ _) | (with_reducible show wpAny _ _ (call (Value.ref 28) _) _ _ _) | (with_reducible show wpAny _ _ (call (Value.ref 35) _) _ _ _) | (with_reducible show wpAny _ _ (call (Value.ref 40) _) _ _ _) | (with_reducible show wpAny _ _ (call (Value.ref 47) _) _ _ _) | (with_reducible show wpAny _ _ (call (Value.ref 61) _) _ _ _) | (with_reducible show wpAny _ _ (call (Value.builtin "len") [Value.ref _]) _ _ _) | (with_reducible show wpAny _ _ (call (Value.builtin "sum") [Value.ref _]) _ _ _) | (with_reducible show wpAny _ _ (call (Value.builtin "max") _) _ _ _) | (with_reducible show wpAny _ _ (exec (Stmt.Assign _ (Expr.ListComp _ _ _ _) _) _) _ _ _) | (with_reducible show wpAny _ _ (eval (Expr.ListComp _ _ _ _) _) _ _ _) | (with_reducible show wpAny _ _ (call (Value.builtin "str.join") _) _ _ _) | (with_reducible show LCg.CompSrc _ _ _ _ _ _ _ _ _ _ _ _ _ _) | (with_reducible show SrcB _ _ _ _ _ _ _ _ _ _ _ _ _ _) | (with_reducible show wpAny _ _ (subscriptTail _ _ (Value.ref _) (Value.int _ _)) _ _ _)); first | (k_unfold; (try dsimp only)) | (k_end; kc_close) | walk1 | (dsimp only; walk1) | (leave1; walk_say "STEP leave1"; (try dsimp only)) | fail "no step"))
            rename News _ _ _ _ => N12
            refine ksa_sub N12 (by k_mem) hp9 (by omega) (by simp) (by omega) ?_
            intro te
            have he0 := again_bd hag
            rw [show (List.map (fun (k : Nat) => (k : Int)) (e0 :: er)).getD (Int.toNat 0) 0 = (e0 : Int) from rfl]
            rename News _ _ _ _ => N13
            refine kbo_sub N13 (by repeat' first | exact hm1 | apply List.mem_cons_of_mem) hb1 (by omega) (by rw [hr2]; omega) (by omega) ?_
            rw [show (e0 : Int).toNat = e0 by omega, mirRow_at row (by omega) (by omega)]
            cases hme : mirB row b e0 with
            | false =>
              w_strict (repeat' ((fail_if_success first | (with_reducible show wpAny _ _ (call (Value.builtin "next") _) _ _ _) | (with_reducible show wpAny _ _ (call (Value.builtin "iter") _) _ _ _) | (with_reducible show wpAny _ _ (pyIter _) _ _ _) | (with_reducible show wpAny _ _ (exec (Stmt.While _ _ _ _) _) _ _ _) | (with_reducible show wpAny _ _ (call (Value.ref 28) _) _ _ _) | (with_reducible show wpAny _ _ (call (Value.ref 35) _) _ _ _) | (with_reducible show wpAny _ _ (call (Value.ref 40) _) _ _ _) | (with_reducible show wpAny _ _ (call (Value.ref 47) _) _ _ _) | (with_reducible show wpAny _ _ (call (Value.ref 61) _) _ _ _) | (with_reducible show wpAny _ _ (call (Value.builtin "len") [Value.ref _]) _ _ _) | (with_reducible show wpAny _ _ (call (Value.builtin "sum") [Value.ref _]) _ _ _) | (with_reducible show wpAny _ _ (call (Value.builtin "max") _) _ _ _) | (with_reducible show wpAny _ _ (exec (Stmt.Assign _ (Expr.ListComp _ _ _ _) _) _) _ _ _) | (with_reducible show wpAny _ _ (eval (Expr.ListComp _ _ _ _) _) _ _ _) | (with_reducible show wpAny _ _ (call (Value.builtin "str.join") _) _ _ _) | (with_reducible show LCg.CompSrc _ _ _ _ _ _ _ _ _ _ _ _ _ _) | (with_reducible show SrcB _ _ _ _ _ _ _ _ _ _ _ _ _ _)); first | (k_unfold; (try dsimp only)) | (k_end; kc_close) | walk1 | (dsimp only; walk1) | (leave1; walk_say "STEP leave1"; (try dsimp only)) | fail "no step"))
              dsimp only [FPost]
              refine FEnd.intro (false, oc9) (by assumption) (by assumption) (by kcj_all) off' ⟨⟨0, by with_unfolding_all rfl⟩, ⟨0, by with_unfolding_all rfl⟩, trivial⟩ (by ksw_same) ⟨?_, _, hdc9⟩
              rw [okUp_succ, okAt, ← hm, hmi, hag]
              simp [hme]
            | true =>
              w_strict (repeat' ((fail_if_success first | (with_reducible show wpAny _ _ (call (Value.builtin "next") _) _ _ _) | (with_reducible show wpAny _ _ (call (Value.builtin "iter") _) _ _ _) | (with_reducible show wpAny _ _ (pyIter _) _ _ _) | (with_reducible show wpAny _ _ (exec (Stmt.While _ _ _ _) _) _ _ _) | (with_reducible show wpAny _ _ (call (Value.ref 28) _) _ _ _) | (with_reducible show wpAny _ _ (call (Value.ref 35) _) _ _ _) | (with_reducible show wpAny _ _ (call (Value.ref 40) _) _ _ _) | (with_reducible show wpAny _ _ (call (Value.ref 47) _) _ _ _) | (with_reducible show wpAny _ _ (call (Value.ref 61) _) _ _ _) | (with_reducible show wpAny _ _ (call (Value.builtin "len") [Value.ref _]) _ _ _) | (with_reducible show wpAny _ _ (call (Value.builtin "sum") [Value.ref _]) _ _ _) | (with_reducible show wpAny _ _ (call (Value.builtin "max") _) _ _ _) | (with_reducible show wpAny _ _ (exec (Stmt.Assign _ (Expr.ListComp _ _ _ _) _) _) _ _ _) | (with_reducible show wpAny _ _ (eval (Expr.ListComp _ _ _ _) _) _ _ _) | (with_reducible show wpAny _ _ (call (Value.builtin "str.join") _) _ _ _) | (with_reducible show LCg.CompSrc _ _ _ _ _ _ _ _ _ _ _ _ _ _) | (with_reducible show SrcB _ _ _ _ _ _ _ _ _ _ _ _ _ _)); first | (k_unfold; (try dsimp only)) | (k_end; kc_close) | walk1 | (dsimp only; walk1) | (leave1; walk_say "STEP leave1"; (try dsimp only)) | fail "no step"))
              dsimp only [FPost]
              refine FEnd.intro (st', oc9) (by assumption) (by assumption) (by kcj_all) off' ⟨⟨0, by with_unfolding_all rfl⟩, ⟨0, by with_unfolding_all rfl⟩, trivial⟩ (by ksw_same) ⟨?_, _, hdc9⟩
              rw [okUp_succ, okAt, ← hm, hmi, hag, hst']
              simp [hme]
    case done2 =>
      clear F3 N3 R3
      intro c' u' tkf' h' tk' hp' F4 N4
      obtain ⟨st', oc'⟩ := c'
      obtain ⟨hst', vc', hvc'⟩ := hp'
      dsimp only at hst' hvc' F4 N4
      w_strict (repeat' ((fail_if_success first | (with_reducible show wpAny _ _ (call (Value.builtin "next") _) _ _ _) | (with_reducible show wpAny _ _ (call (Value.builtin "iter") _) _ _ _) | (with_reducible show wpAny _ _ (pyIter _) _ _ _) | (with_reducible show wpAny _ _ (exec (Stmt.While _ _ _ _) _) _ _ _) | (with_reducible show wpAny _ _ (call (Value.ref 28) _) _ _ _) | (with_reducible show wpAny _ _ (call (Value.ref 35) _) _ _ _) | (with_reducible show wpAny _ _ (call (Value.ref 40) _) _ _ _) | (with_reducible show wpAny _ _ (call (Value.ref 47) _) _ _ _) | (with_reducible show wpAny _ _ (call (Value.ref 61) _) _ _ _) | (with_reducible show wpAny _ _ (call (Value.builtin "len") [Value.ref _]) _ _ _) | (with_reducible show wpAny _ _ (call (Value.builtin "sum") [Value.ref _]) _ _ _) | (with_reducible show wpAny _ _ (call (Value.builtin "max") _) _ _ _) | (with_reducible show wpAny _ _ (exec (Stmt.Assign _ (Expr.ListComp _ _ _ _) _) _) _ _ _) | (with_reducible show wpAny _ _ (eval (Expr.ListComp _ _ _ _) _) _ _ _) | (with_reducible show wpAny _ _ (call (Value.builtin "str.join") _) _ _ _) | (with_reducible show LCg.CompSrc _ _ _ _ _ _ _ _ _ _ _ _ _ _) | (with_reducible show SrcB _ _ _ _ _ _ _ _ _ _ _ _ _ _)); first | (k_unfold; (try dsimp only)) | (k_end; kc_close) | walk1 | (dsimp only; walk1) | (leave1; walk_say "STEP leave1"; (try dsimp only)) | fail "no step"))
      dsimp only [FPost]
      refine FEnd.intro (st', oc') (by assumption) (by assumption) (by kcj_all) off ⟨⟨0, by with_unfolding_all rfl⟩, ⟨0, by with_unfolding_all rfl⟩, trivial⟩ (by ksw_same) ⟨?_, _, hvc'⟩
      rw [strUp_succ, hst']
  case done =>
    clear F1 N1 N2 R1
    intro c u tkf h tk hp F2 N2
    obtain ⟨st, oc⟩ := c
    obtain ⟨hst, vc, hvc⟩ := hp
    dsimp only at hst hvc F2 N2
    w_strict (repeat' ((fail_if_success first | (with_reducible show wpAny _ _ (call (Value.builtin "next") _) _ _ _) | (with_reducible show wpAny _ _ (call (Value.builtin "iter") _) _ _ _) | (with_reducible show wpAny _ _ (pyIter _) _ _ _) | (with_reducible show wpAny _ _ (exec (Stmt.While _ _ _ _) _) _ _ _) | (with_reducible show wpAny _ _ (call (Value.ref 28) _) _ _ _) | (with_reducible show wpAny _ _ (call (Value.ref 35) _) _ _ _) | (with_reducible show wpAny _ _ (call (Value.ref 40) _) _ _ _) | (with_reducible show wpAny _ _ (call (Value.ref 47) _) _ _ _) | (with_reducible show wpAny _ _ (call (Value.ref 61) _) _ _ _) | (with_reducible show wpAny _ _ (call (Value.builtin "len") [Value.ref _]) _ _ _) | (with_reducible show wpAny _ _ (call (Value.builtin "sum") [Value.ref _]) _ _ _) | (with_reducible show wpAny _ _ (call (Value.builtin "max") _) _ _ _) | (with_reducible show wpAny _ _ (exec (Stmt.Assign _ (Expr.ListComp _ _ _ _) _) _) _ _ _) | (with_reducible show wpAny _ _ (eval (Expr.ListComp _ _ _ _) _) _ _ _) | (with_reducible show wpAny _ _ (call (Value.builtin "str.join") _) _ _ _) | (with_reducible show LCg.CompSrc _ _ _ _ _ _ _ _ _ _ _ _ _ _) | (with_reducible show SrcB _ _ _ _ _ _ _ _ _ _ _ _ _ _)); first | (k_unfold; (try dsimp only)) | (k_end; kc_close) | walk1 | (dsimp only; walk1) | (leave1; walk_say "STEP leave1"; (try dsimp only)) | fail "no step"))
    rename StrsAre _ (List.map textOf _) => hpm
    have hml := hpm.length
    rw [List.length_map] at hml
    have hm36 := met_len36 row (e := row.length) (by omega)
    rename News _ _ _ _ => N3
    refine KM.len_K (n := (metUp row row.length).length) (by k_asm) (by k_mem) (by rw [List.size_toArray]; exact hml) (by omega) ?_
    have pf := plain_final hrw
    w_strict (repeat' ((fail_if_success first | (with_reducible show wpAny _ _ (call (Value.builtin "next") _) _ _ _) | (with_reducible show wpAny _ _ (call (Value.builtin "iter") _) _ _ _) | (with_reducible show wpAny _ _ (pyIter _) _ _ _) | (with_reducible show wpAny _ _ (exec (Stmt.While _ _ _ _) _) _ _ _) | (with_reducible show wpAny _ _ (call (Value.ref 28) _) _ _ _) | (with_reducible show wpAny _ _ (call (Value.ref 35) _) _ _ _) | (with_reducible show wpAny _ _ (call (Value.ref 40) _) _ _ _) | (with_reducible show wpAny _ _ (call (Value.ref 47) _) _ _ _) | (with_reducible show wpAny _ _ (call (Value.ref 61) _) _ _ _) | (with_reducible show wpAny _ _ (call (Value.builtin "len") [Value.ref _]) _ _ _) | (with_reducible show wpAny _ _ (call (Value.builtin "sum") [Value.ref _]) _ _ _) | (with_reducible show wpAny _ _ (call (Value.builtin "max") _) _ _ _) | (with_reducible show wpAny _ _ (exec (Stmt.Assign _ (Expr.ListComp _ _ _ _) _) _) _ _ _) | (with_reducible show wpAny _ _ (eval (Expr.ListComp _ _ _ _) _) _ _ _) | (with_reducible show wpAny _ _ (call (Value.builtin "str.join") _) _ _ _) | (with_reducible show LCg.CompSrc _ _ _ _ _ _ _ _ _ _ _ _ _ _) | (with_reducible show SrcB _ _ _ _ _ _ _ _ _ _ _ _ _ _)); first | (k_unfold; (try dsimp only)) | (k_end; kc_close) | walk1 | (dsimp only; walk1) | (leave1; walk_say "STEP leave1"; (try dsimp only)) | fail "no step"))
end
theorem lawHolds : PySem.Challenge.rw_ty0005_02.Holds := stLw.2 ⟨stLwB.2 ⟨stLwC.2 ⟨stLwD.2 ⟨stLwE⟩⟩⟩⟩
end Mine
theorem PySem.Challenge.cw_ty0005_02_holds : PySem.Challenge.rw_ty0005_02.Holds := by
  exact Mine.lawHolds

