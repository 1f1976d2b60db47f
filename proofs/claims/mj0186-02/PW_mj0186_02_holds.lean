import PyProof.Rows.All
import Wide.All
import OpenK.AllK
import Wide.FinOn
import PySem.Challenge.RW_mj0186_02
section
open PySem PySem.W PyProof.Rows
set_option Elab.async false
set_option maxRecDepth 100000
set_option maxHeartbeats 8000000
namespace Mine
open_top hd for PySem.Challenge.rw_mj0186_02
end Mine
end
section
open PySem PySem.W PyProof.Rows
set_option Elab.async false
set_option maxRecDepth 100000
namespace Mine
open PySem.Spec PySem.Calls PyProof.V

/-- where the walk is to wait -/
def Hold (P : Prop) : Prop := P
theorem Hold.out {P : Prop} (h : Hold P) : P := h
theorem Hold.mk {P : Prop} (h : P) : Hold P := h

section
variable {prog : Program} {w : World} {A : Around} {E : Value → Shared → Prop} {s : Shared} {env : Env} {h₀ : Heap} {x : Str} {body : List Stmt} {Q : Flow → Shared → Prop}

def TurnEnd {σ : Type} (h₀ : Heap) (L : Addr) (x : Str) (Led : σ → List (Addr × Obj)) (ps : σ → List (Str × Value)) (st : List Str) (m₀ : Str → Option Value) (P : σ → Prop) (own : List (Addr × Obj)) (s₁ s₂ : Shared) : Prop :=
  ∃ h' tk m' nx c, s₂ = { s₁ with heap := h', toks := tk } ∧ Fr h₀ L h' m' ∧ News h₀ L h' nx ∧ (∀ p ∈ own, p ∈ nx) ∧ (∀ p ∈ Led c, p ∈ nx) ∧ (∀ p ∈ own, ∀ q ∈ Led c, p.1 ≠ q.1) ∧
    (∀ p ∈ ps c, m' p.1 = some p.2) ∧ (∀ z, z ≠ x → (∀ p ∈ ps c, z ≠ p.1) → st.contains z = false → m' z = m₀ z) ∧ P c

def Turn {σ : Type} (h₀ : Heap) (L : Addr) (x : Str) (Led : σ → List (Addr × Obj)) (ps : σ → List (Str × Value)) (st : List Str) (m₀ : Str → Option Value) (P : σ → Prop) (own : List (Addr × Obj)) (s₁ : Shared) (Q : Flow → Shared → Prop) (f : Flow) (s₂ : Shared) : Prop :=
  match f with
  | .ret v => Q (.ret v) s₂
  | .brk => Q .next s₂
  | _ => TurnEnd h₀ L x Led ps st m₀ P own s₁ s₂

theorem TurnEnd.intro {σ : Type} {L : Addr} {Led : σ → List (Addr × Obj)} {ps : σ → List (Str × Value)} {st : List Str} {m₀ m' : Str → Option Value} {P : σ → Prop} {own nx : List (Addr × Obj)} {s₁ : Shared} {h' : Heap} {tk : Nat}
    (c : σ) (F : Fr h₀ L h' m') (N : News h₀ L h' nx) (ho : ∀ p ∈ own, p ∈ nx) (hl : ∀ p ∈ Led c, p ∈ nx) (hoff : ∀ p ∈ own, ∀ q ∈ Led c, p.1 ≠ q.1) (hk : ∀ p ∈ ps c, m' p.1 = some p.2)
    (hr : ∀ z, z ≠ x → (∀ p ∈ ps c, z ≠ p.1) → st.contains z = false → m' z = m₀ z) (hP : P c) : TurnEnd h₀ L x Led ps st m₀ P own s₁ { s₁ with heap := h', toks := tk } :=
  ⟨h', tk, m', nx, c, rfl, F, N, ho, hl, hoff, hk, hr, hP⟩

theorem Turn.next {σ : Type} {L : Addr} {Led : σ → List (Addr × Obj)} {ps : σ → List (Str × Value)} {st : List Str} {m₀ m' : Str → Option Value} {P : σ → Prop} {own nx : List (Addr × Obj)} {s₁ : Shared} {h' : Heap} {tk : Nat}
    (c : σ) (F : Fr h₀ L h' m') (N : News h₀ L h' nx) (ho : ∀ p ∈ own, p ∈ nx) (hl : ∀ p ∈ Led c, p ∈ nx) (hoff : ∀ p ∈ own, ∀ q ∈ Led c, p.1 ≠ q.1) (hk : ∀ p ∈ ps c, m' p.1 = some p.2)
    (hr : ∀ z, z ≠ x → (∀ p ∈ ps c, z ≠ p.1) → st.contains z = false → m' z = m₀ z) (hP : P c) : Turn h₀ L x Led ps st m₀ P own s₁ Q .next { s₁ with heap := h', toks := tk } :=
  ⟨h', tk, m', nx, c, rfl, F, N, ho, hl, hoff, hk, hr, hP⟩
theorem Turn.cont {σ : Type} {L : Addr} {Led : σ → List (Addr × Obj)} {ps : σ → List (Str × Value)} {st : List Str} {m₀ m' : Str → Option Value} {P : σ → Prop} {own nx : List (Addr × Obj)} {s₁ : Shared} {h' : Heap} {tk : Nat}
    (c : σ) (F : Fr h₀ L h' m') (N : News h₀ L h' nx) (ho : ∀ p ∈ own, p ∈ nx) (hl : ∀ p ∈ Led c, p ∈ nx) (hoff : ∀ p ∈ own, ∀ q ∈ Led c, p.1 ≠ q.1) (hk : ∀ p ∈ ps c, m' p.1 = some p.2)
    (hr : ∀ z, z ≠ x → (∀ p ∈ ps c, z ≠ p.1) → st.contains z = false → m' z = m₀ z) (hP : P c) : Turn h₀ L x Led ps st m₀ P own s₁ Q .cont { s₁ with heap := h', toks := tk } :=
  ⟨h', tk, m', nx, c, rfl, F, N, ho, hl, hoff, hk, hr, hP⟩

theorem Turn.ret {σ : Type} {L : Addr} {Led : σ → List (Addr × Obj)} {ps : σ → List (Str × Value)} {st : List Str} {m₀ : Str → Option Value} {P : σ → Prop} {own : List (Addr × Obj)} {s₁ s₂ : Shared} {v : Value}
    (h : Q (.ret v) s₂) : Turn h₀ L x Led ps st m₀ P own s₁ Q (.ret v) s₂ := h
theorem Turn.brk {σ : Type} {L : Addr} {Led : σ → List (Addr × Obj)} {ps : σ → List (Str × Value)} {st : List Str} {m₀ : Str → Option Value} {P : σ → Prop} {own : List (Addr × Obj)} {s₁ s₂ : Shared}
    (h : Q .next s₂) : Turn h₀ L x Led ps st m₀ P own s₁ Q .brk s₂ := h

theorem loop_my {σ : Type} {I : Addr} {fp : List Addr} {n : Nat} {Pv : Nat → Value → Prop} {St : Nat → Heap → Prop} {m₀ : Str → Option Value} (Led : σ → List (Addr × Obj)) (ps : σ → List (Str × Value)) (st : List Str) (P : Nat → σ → Prop) (c₀ : σ)
    (W : Walks prog w A I fp [I] n Pv St) (hLf : env.locals ∉ fp) (hwr : h₀.get? I = none) (hnw : ∀ p ∈ Led c₀, p.1 ≠ I)
    (hfp : ∀ b ∈ fp, b = I ∨ (∃ o, h₀.get? b = some o) ∨ ∃ o, ∀ c, (b, o) ∈ Led c) (hhas : ∀ i h, St i h → ∃ o, h.get? I = some o) (hst : St 0 s.heap) (F : Fr h₀ env.locals s.heap m₀) (N : News h₀ env.locals s.heap (Led c₀))
    (hk : ∀ p ∈ ps c₀, m₀ p.1 = some p.2) (hp : P 0 c₀)
    (turn : ∀ (c : σ) i v (u : Str → Option Value) h tk own, i < n → Pv i v → P i c → (∀ p ∈ own, ∀ q ∈ Led c, p.1 ≠ q.1) →
      Fr h₀ env.locals h (fun y => if y = x then some v else kstB (fun z => if st.contains z then u z else m₀ z) (ps c) y) → News h₀ env.locals h (Led c ++ own) →
      wpAny (model prog w) A (execs body env) (Turn h₀ env.locals x Led ps st m₀ (P (i + 1)) own { s with heap := h, toks := tk } Q) E { s with heap := h, toks := tk })
    (done : ∀ (c : σ) (u : Str → Option Value) h tk, P n c → Fr h₀ env.locals h (fun y => if y = x then u y else kstB (fun z => if st.contains z then u z else m₀ z) (ps c) y) → News h₀ env.locals h (Led c) → Q .next { s with heap := h, toks := tk }) :
    LoopAtV prog w A h₀ env x body Q E (.ref I) s := by
  refine ⟨I, fp, [I], n, Pv, St, m₀, Led c₀, (fun i m nx => ∃ c, nx = Led c ∧ (∀ p ∈ ps c, m p.1 = some p.2) ∧ (∀ z, z ≠ x → (∀ p ∈ ps c, z ≠ p.1) → st.contains z = false → m z = m₀ z) ∧ P i c), rfl, W, hLf, ?_, ?_, hst, F, N, ⟨c₀, rfl, hk, fun _ _ _ _ => rfl, hp⟩, ?_, ?_⟩
  · intro b hb
    rw [List.mem_singleton.mp hb]; exact hwr
  · intro p hp' hI
    exact hnw p hp' (List.mem_singleton.mp hI)
  · rintro i v m₁ news₁ s₁ own ⟨hh', tk', rfl⟩ hin hP ⟨c, rfl, h1, h2, hp'⟩ hoff hown hget hall hSt F₁ N₁
    have hsep : ∀ p ∈ own.filter (fun p => decide (p.1 = I)), ∀ q ∈ Led c, p.1 ≠ q.1 := by
      intro p hp q hq e
      have h3 : p.1 = I := by simpa using (List.mem_filter.mp hp).2
      exact hoff q hq (by rw [← e, h3]; exact List.mem_singleton.mpr rfl)
    have N₂ : News h₀ env.locals hh' (Led c ++ own.filter (fun p => decide (p.1 = I))) := fun p hp =>
      N₁ p ((List.mem_append.mp hp).elim (fun h => List.mem_append.mpr (.inr h)) fun h => List.mem_append.mpr (.inl ((List.mem_filter.mp h).1)))
    refine wpAny_mono (turn c i v m₁ hh' tk' _ hin hP hp' hsep (kst_fr h1 h2 F₁) N₂) (fun f s₂ p => ?_) fun _ _ e => e
    have fin : TurnEnd h₀ env.locals x Led ps st m₀ (P (i + 1)) (own.filter (fun p => decide (p.1 = I))) { s with heap := hh', toks := tk' } s₂ →
        LoopStepU h₀ env.locals [I] own (fun m nx => ∃ c, nx = Led c ∧ (∀ p ∈ ps c, m p.1 = some p.2) ∧ (∀ z, z ≠ x → (∀ p ∈ ps c, z ≠ p.1) → st.contains z = false → m z = m₀ z) ∧ P (i + 1) c) { s with heap := hh', toks := tk' } .next s₂ := by
      rintro ⟨h', tk, m', nx, c', e, F', N', ho, hl, hof, k1, k2, k3⟩
      have hoI : ∃ o, (I, o) ∈ own := by
        obtain ⟨o, ho'⟩ := hhas _ _ hSt
        exact ⟨o, hall I (W.sub _ (List.mem_singleton.mpr rfl)) hwr o ho'⟩
      obtain ⟨oI, hoI⟩ := hoI
      refine ⟨rfl, h', tk, m', Led c', e, F', fun p hp => ?_, fun p hp hI => ?_, c', rfl, k1, k2, k3⟩
      · rcases List.mem_append.mp hp with h | h
        · by_cases hI : p.1 = I
          · exact N' p (ho p (List.mem_filter.mpr ⟨h, by simpa using hI⟩))
          · rcases hfp p.1 (hown p h) with h3 | ⟨o, h3⟩ | ⟨o, h3⟩
            · exact absurd h3 hI
            · have h4 : hh'.get? p.1 = some o := F₁.keep _ _ h3
              have h5 := (N₁ p (List.mem_append.mpr (.inl h))).2.2
              rw [h3] at h5; cases h5
            · have h4 : hh'.get? p.1 = some o := (N₁ _ (List.mem_append.mpr (.inr (h3 c)))).1
              have h5 : hh'.get? p.1 = some p.2 := hget p h
              rw [h4] at h5
              have h6 : p = (p.1, o) := Prod.ext rfl (Option.some.inj h5).symm
              rw [h6]
              exact N' _ (hl _ (h3 c'))
        · exact N' p (hl p h)
      · have h3 := hof (I, oI) (List.mem_filter.mpr ⟨hoI, by simp⟩) p hp
        exact h3 (List.mem_singleton.mp hI).symm
    cases f with
    | ret v => exact .ret p
    | brk => exact .brk p
    | next => exact .next (fin p)
    | cont => exact .cont (fin p)
  · rintro h' tk m' news' F' N' _ ⟨c, rfl, k1, k2, k3⟩
    exact done c m' h' tk k3 (kst_frOut k1 k2 F') N'

/-- over a list of the ledger that no turn changes -/
theorem loop_list {σ : Type} {l : Addr} {vs : List Value} {nn : Nat} {m₀ : Str → Option Value} (Led : σ → List (Addr × Obj)) (ps : σ → List (Str × Value)) (st : List Str) (P : Nat → σ → Prop) (c₀ : σ)
    (hh : A.handled = none) (hl : ∀ c, (l, listOf vs.toArray nn) ∈ Led c) (F : Fr h₀ env.locals s.heap m₀) (N : News h₀ env.locals s.heap (Led c₀)) (hk : ∀ p ∈ ps c₀, m₀ p.1 = some p.2) (hp : P 0 c₀)
    (turn : ∀ (c : σ) i v (u : Str → Option Value) h tk own, vs[i]? = some v → P i c → (∀ p ∈ own, ∀ q ∈ Led c, p.1 ≠ q.1) →
      Fr h₀ env.locals h (fun y => if y = x then some v else kstB (fun z => if st.contains z then u z else m₀ z) (ps c) y) → News h₀ env.locals h (Led c ++ own) →
      wpAny (model prog w) A (execs body env) (Turn h₀ env.locals x Led ps st m₀ (P (i + 1)) own { s with heap := h, toks := tk } Q) E { s with heap := h, toks := tk })
    (done : ∀ (c : σ) (u : Str → Option Value) h tk, P vs.length c → Fr h₀ env.locals h (fun y => if y = x then u y else kstB (fun z => if st.contains z then u z else m₀ z) (ps c) y) → News h₀ env.locals h (Led c) → Q .next { s with heap := h, toks := tk }) :
    wpAny (model prog w) A (pyIter (.ref l)) (fun it s₂ => LoopAtV prog w A h₀ env x body Q E it s₂) E s := by
  have hol : s.heap.get? l = some (listOf vs.toArray nn) := (N _ (hl c₀)).1
  have hls : s.heap.IsList l vs.toArray := ⟨_, hol, rfl, nn, rfl⟩
  have hne : l ≠ s.heap.objs.size := Nat.ne_of_lt (Heap.lt_size hol)
  refine wpAny_pyIter_list hls ?_
  have W := Walks.list (prog := prog) (w := w) hh s.heap.objs.size l hne vs.toArray
  have hlen : vs.toArray.size = vs.length := by simp
  rw [hlen] at W
  refine loop_my Led ps st P c₀ W ?_ (next_is_new F) ?_ ?_ ?_ ⟨⟨_, Heap.get?_push_size _ rfl, rfl, rfl⟩, hls.at fun o e => Heap.get?_push_of_some _ e⟩ (F.push _) (fun p hp => ⟨Heap.get?_push_of_some _ (N p hp).1, (N p hp).2⟩) hk hp ?_ ?_
  · intro hm
    rcases List.mem_cons.mp hm with e | hm
    · exact absurd F.ns.lt (e ▸ Nat.lt_irrefl _)
    · exact (N _ (hl c₀)).2.1 ((List.mem_singleton.mp hm).symm)
  · intro p hp hI
    exact absurd (Heap.lt_size (N p hp).1) (hI ▸ Nat.lt_irrefl _)
  · intro b hb
    rcases List.mem_cons.mp hb with e | hb
    · exact .inl e
    · rw [List.mem_singleton.mp hb]; exact .inr (.inr ⟨_, hl⟩)
  · rintro i h ⟨⟨o, ho, _⟩, _⟩
    exact ⟨o, ho⟩
  · intro c i v u h tk own _ hv hP hoff F₁ N₁
    exact turn c i v u h tk own (by simpa using hv) hP hoff F₁ N₁
  · exact done

theorem loop_range {σ : Type} {r : Addr} {a₀ b₀ : Int} {t₀ u₀ v₀ : Tok} {n : Nat} {m₀ : Str → Option Value} (Led : σ → List (Addr × Obj)) (ps : σ → List (Str × Value)) (st : List Str) (P : Nat → σ → Prop) (c₀ : σ)
    (hh : A.handled = none) (hr : IsRange s.heap r a₀ b₀ 1 t₀ u₀ v₀) (hsmall : Builtin.Range.small a₀ b₀ 1 = true) (hn : Builtin.Range.rangeSize a₀ b₀ 1 = (n : Int)) (F : Fr h₀ env.locals s.heap m₀) (N : News h₀ env.locals s.heap (Led c₀)) (hk : ∀ p ∈ ps c₀, m₀ p.1 = some p.2) (hp : P 0 c₀)
    (turn : ∀ (c : σ) (i : Nat) t (u : Str → Option Value) h tk own, i < n → P i c → (∀ p ∈ own, ∀ q ∈ Led c, p.1 ≠ q.1) →
      Fr h₀ env.locals h (fun y => if y = x then some (.int (a₀ + (i : Int)) t) else kstB (fun z => if st.contains z then u z else m₀ z) (ps c) y) → News h₀ env.locals h (Led c ++ own) →
      wpAny (model prog w) A (execs body env) (Turn h₀ env.locals x Led ps st m₀ (P (i + 1)) own { s with heap := h, toks := tk } Q) E { s with heap := h, toks := tk })
    (done : ∀ (c : σ) (u : Str → Option Value) h tk, P n c → Fr h₀ env.locals h (fun y => if y = x then u y else kstB (fun z => if st.contains z then u z else m₀ z) (ps c) y) → News h₀ env.locals h (Led c) → Q .next { s with heap := h, toks := tk }) :
    wpAny (model prog w) A (pyIter (.ref r)) (fun it s₂ => LoopAtV prog w A h₀ env x body Q E it s₂) E s := by
  refine wpAny_pyIter_range hr hsmall ?_
  have W : Walks prog w A s.heap.objs.size [s.heap.objs.size] [s.heap.objs.size] n (fun i v => i < n ∧ ∃ t, v = .int (a₀ + i * 1) t)
      (fun i h => IsRangeIter h s.heap.objs.size (a₀ + (i : Nat) * 1) ((n : Int) - (i : Nat)) 1) := (Walks.range hh _ a₀ 1 n).bound
  refine loop_my Led ps st P c₀ W ?_ (next_is_new F) ?_ ?_ ?_ (by show IsRangeIter _ _ _ _ _; rw [hn]; simpa using Heap.get?_push_size _ rfl) (F.push _) (fun p hp => ⟨Heap.get?_push_of_some _ (N p hp).1, (N p hp).2⟩) hk hp ?_ ?_
  · intro hm
    exact absurd F.ns.lt ((List.mem_singleton.mp hm) ▸ Nat.lt_irrefl _)
  · intro p hp hI
    exact absurd (Heap.lt_size (N p hp).1) (hI ▸ Nat.lt_irrefl _)
  · intro b hb
    exact .inl (List.mem_singleton.mp hb)
  · intro i h hs
    exact ⟨_, hs⟩
  · rintro c i v u h tk own _ ⟨hi, t, rfl⟩ hP hoff F₁ N₁
    have e1 : a₀ + (i : Int) * 1 = a₀ + (i : Int) := by omega
    rw [e1] at F₁
    exact turn c i t u h tk own hi hP hoff F₁ N₁
  · exact done

theorem loop_str {σ : Type} {xt : Str} {tx : Tok} {m₀ : Str → Option Value} (Led : σ → List (Addr × Obj)) (ps : σ → List (Str × Value)) (st : List Str) (P : Nat → σ → Prop) (c₀ : σ)
    (hh : A.handled = none) (F : Fr h₀ env.locals s.heap m₀) (N : News h₀ env.locals s.heap (Led c₀)) (hk : ∀ p ∈ ps c₀, m₀ p.1 = some p.2) (hp : P 0 c₀)
    (turn : ∀ (c : σ) (i n : Nat) t (u : Str → Option Value) h tk own, xt.cps[i]? = some n → P i c → (∀ p ∈ own, ∀ q ∈ Led c, p.1 ≠ q.1) →
      Fr h₀ env.locals h (fun y => if y = x then some (.str ⟨#[n]⟩ t) else kstB (fun z => if st.contains z then u z else m₀ z) (ps c) y) → News h₀ env.locals h (Led c ++ own) →
      wpAny (model prog w) A (execs body env) (Turn h₀ env.locals x Led ps st m₀ (P (i + 1)) own { s with heap := h, toks := tk } Q) E { s with heap := h, toks := tk })
    (done : ∀ (c : σ) (u : Str → Option Value) h tk, P xt.cps.size c → Fr h₀ env.locals h (fun y => if y = x then u y else kstB (fun z => if st.contains z then u z else m₀ z) (ps c) y) → News h₀ env.locals h (Led c) → Q .next { s with heap := h, toks := tk }) :
    wpAny (model prog w) A (pyIter (.str xt tx)) (fun it s₂ => LoopAtV prog w A h₀ env x body Q E it s₂) E s := by
  have go : ∀ (o : Obj) (St : Nat → Heap → Prop), Walks prog w A s.heap.objs.size [s.heap.objs.size] [s.heap.objs.size] xt.cps.size (SignAt xt) St → (∀ i h, St i h → ∃ o, h.get? s.heap.objs.size = some o) → St 0 (s.heap.push o) →
      LoopAtV prog w A h₀ env x body Q E (.ref s.heap.objs.size) { s with heap := s.heap.push o } := by
    intro o St W hhas hst
    refine loop_my Led ps st P c₀ W ?_ (next_is_new F) ?_ ?_ hhas hst (F.push _) (fun p hp => ⟨Heap.get?_push_of_some _ (N p hp).1, (N p hp).2⟩) hk hp ?_ ?_
    · intro hm
      exact absurd F.ns.lt ((List.mem_singleton.mp hm) ▸ Nat.lt_irrefl _)
    · intro p hp hI
      exact absurd (Heap.lt_size (N p hp).1) (hI ▸ Nat.lt_irrefl _)
    · intro b hb
      exact .inl (List.mem_singleton.mp hb)
    · rintro c i v u h tk own _ ⟨n, t, hn, rfl⟩ hP hoff F₁ N₁
      exact turn c i n t u h tk own hn hP hoff F₁ N₁
    · exact done
  cases ha : xt.cps.all (· < 128)
  · exact wpAny_pyIter_wide ha (go _ _ (Walks.strWide hh _ xt tx) (fun i h st => let ⟨o, ho, _⟩ := st; ⟨o, ho⟩) ⟨_, Heap.get?_push_size _ rfl, rfl, rfl⟩)
  · exact wpAny_pyIter_ascii ha (go _ _ (Walks.strAscii hh _ xt tx) (fun i h st => let ⟨o, ho, _⟩ := st; ⟨o, ho⟩) ⟨_, Heap.get?_push_size _ rfl, rfl, rfl⟩)
theorem loop_listC {σ : Type} {l : Addr} {vs : List Value} {nn : Nat} {m₀ : Str → Option Value} {nw : List (Addr × Obj)} (ps : σ → List (Str × Value)) (st : List Str) (P : Nat → σ → Prop) (c₀ : σ)
    (hh : A.handled = none) (hl : (l, listOf vs.toArray nn) ∈ nw) (F : Fr h₀ env.locals s.heap m₀) (N : News h₀ env.locals s.heap nw) (hk : ∀ p ∈ ps c₀, m₀ p.1 = some p.2) (hp : P 0 c₀)
    (turn : ∀ (c : σ) i v (u : Str → Option Value) h tk own, vs[i]? = some v → P i c → (∀ p ∈ own, ∀ q ∈ nw, p.1 ≠ q.1) →
      Fr h₀ env.locals h (fun y => if y = x then some v else kstB (fun z => if st.contains z then u z else m₀ z) (ps c) y) → News h₀ env.locals h (nw ++ own) →
      wpAny (model prog w) A (execs body env) (Turn h₀ env.locals x (fun _ => nw) ps st m₀ (P (i + 1)) own { s with heap := h, toks := tk } Q) E { s with heap := h, toks := tk })
    (done : ∀ (c : σ) (u : Str → Option Value) h tk, P vs.length c → Fr h₀ env.locals h (fun y => if y = x then u y else kstB (fun z => if st.contains z then u z else m₀ z) (ps c) y) → News h₀ env.locals h (nw) → Q .next { s with heap := h, toks := tk }) :
    wpAny (model prog w) A (pyIter (.ref l)) (fun it s₂ => LoopAtV prog w A h₀ env x body Q E it s₂) E s :=
  loop_list (fun _ => nw) ps st P c₀ hh (fun _ => hl) F N hk hp turn done
theorem loop_rangeC {σ : Type} {r : Addr} {a₀ b₀ : Int} {t₀ u₀ v₀ : Tok} {n : Nat} {m₀ : Str → Option Value} {nw : List (Addr × Obj)} (ps : σ → List (Str × Value)) (st : List Str) (P : Nat → σ → Prop) (c₀ : σ)
    (hh : A.handled = none) (hr : IsRange s.heap r a₀ b₀ 1 t₀ u₀ v₀) (hsmall : Builtin.Range.small a₀ b₀ 1 = true) (hn : Builtin.Range.rangeSize a₀ b₀ 1 = (n : Int)) (F : Fr h₀ env.locals s.heap m₀) (N : News h₀ env.locals s.heap nw) (hk : ∀ p ∈ ps c₀, m₀ p.1 = some p.2) (hp : P 0 c₀)
    (turn : ∀ (c : σ) (i : Nat) t (u : Str → Option Value) h tk own, i < n → P i c → (∀ p ∈ own, ∀ q ∈ nw, p.1 ≠ q.1) →
      Fr h₀ env.locals h (fun y => if y = x then some (.int (a₀ + (i : Int)) t) else kstB (fun z => if st.contains z then u z else m₀ z) (ps c) y) → News h₀ env.locals h (nw ++ own) →
      wpAny (model prog w) A (execs body env) (Turn h₀ env.locals x (fun _ => nw) ps st m₀ (P (i + 1)) own { s with heap := h, toks := tk } Q) E { s with heap := h, toks := tk })
    (done : ∀ (c : σ) (u : Str → Option Value) h tk, P n c → Fr h₀ env.locals h (fun y => if y = x then u y else kstB (fun z => if st.contains z then u z else m₀ z) (ps c) y) → News h₀ env.locals h (nw) → Q .next { s with heap := h, toks := tk }) :
    wpAny (model prog w) A (pyIter (.ref r)) (fun it s₂ => LoopAtV prog w A h₀ env x body Q E it s₂) E s :=
  loop_range (fun _ => nw) ps st P c₀ hh hr hsmall hn F N hk hp turn done
theorem loop_strC {σ : Type} {xt : Str} {tx : Tok} {m₀ : Str → Option Value} {nw : List (Addr × Obj)} (ps : σ → List (Str × Value)) (st : List Str) (P : Nat → σ → Prop) (c₀ : σ)
    (hh : A.handled = none) (F : Fr h₀ env.locals s.heap m₀) (N : News h₀ env.locals s.heap nw) (hk : ∀ p ∈ ps c₀, m₀ p.1 = some p.2) (hp : P 0 c₀)
    (turn : ∀ (c : σ) (i n : Nat) t (u : Str → Option Value) h tk own, xt.cps[i]? = some n → P i c → (∀ p ∈ own, ∀ q ∈ nw, p.1 ≠ q.1) →
      Fr h₀ env.locals h (fun y => if y = x then some (.str ⟨#[n]⟩ t) else kstB (fun z => if st.contains z then u z else m₀ z) (ps c) y) → News h₀ env.locals h (nw ++ own) →
      wpAny (model prog w) A (execs body env) (Turn h₀ env.locals x (fun _ => nw) ps st m₀ (P (i + 1)) own { s with heap := h, toks := tk } Q) E { s with heap := h, toks := tk })
    (done : ∀ (c : σ) (u : Str → Option Value) h tk, P xt.cps.size c → Fr h₀ env.locals h (fun y => if y = x then u y else kstB (fun z => if st.contains z then u z else m₀ z) (ps c) y) → News h₀ env.locals h (nw) → Q .next { s with heap := h, toks := tk }) :
    wpAny (model prog w) A (pyIter (.str xt tx)) (fun it s₂ => LoopAtV prog w A h₀ env x body Q E it s₂) E s :=
  loop_str (fun _ => nw) ps st P c₀ hh F N hk hp turn done
theorem ledger_keep {h₀ h : Heap} {L : Addr} {p q : Addr × Obj} {r : List (Addr × Obj)} (N : News h₀ L h (p :: q :: r)) : News h₀ L h (p :: r) := cb_drop N (by intro x hx; rcases List.mem_cons.mp hx with h | h <;> simp [h])
theorem ne_of_news {h₀ h : Heap} {L a b : Addr} {o o' : Obj} {r : List (Addr × Obj)} (N : News h₀ L h r) (ha : (a, o) ∈ r) (hb : (b, o') ∈ r) (hne : o ≠ o') : @Ne Nat a b := fun e => by
  have h1 := (N _ ha).1
  have h2 := (N _ hb).1
  have e' : a = b := e
  rw [e'] at h1
  exact hne (Option.some.inj (h1.symm.trans h2))
theorem own_off {own r : List (Addr × Obj)} {q₀ q₁ : Addr × Obj} (h : ∀ p ∈ own, ∀ q ∈ q₀ :: r, p.1 ≠ q.1) (h1 : ∀ p ∈ own, p.1 ≠ q₁.1) : ∀ p ∈ own, ∀ q ∈ q₁ :: r, p.1 ≠ q.1 := by
  intro p hp q hq
  rcases List.mem_cons.mp hq with rfl | hq
  · exact h1 p hp
  · exact h p hp q (.tail _ hq)
theorem r4 {α : Type} {P : α → Prop} {a b c d : α} {r : List α} (h1 : P a) (h2 : P b) (h3 : P c) (h4 : P d) (h5 : ∀ p ∈ r, P p) : ∀ p ∈ [a, b, c, d] ++ r, P p := by
  intro p hp
  simp only [List.cons_append, List.nil_append, List.mem_cons] at hp
  rcases hp with rfl | rfl | rfl | rfl | h
  · exact h1
  · exact h2
  · exact h3
  · exact h4
  · exact h5 p h
/-- a comprehension by an invariant: the values so far, the ledger -/
theorem comp_ind {L : Addr} {m : Str → Option Value} {elt : Expr} {scope : Scope} {cl : List (Str × Addr)} {S : List (Addr × Obj) → Prop} {P : Nat → Value → Prop} {Fin : List Value → List (Addr × Obj) → Prop} {news : List (Addr × Obj)} {n : Nat}
    (J : Nat → List Value → List (Addr × Obj) → Prop) (h0 : J 0 [] news)
    (turn : ∀ i ys news₁ v I oI C oC D m₂ h tk (E' : Value → Shared → Prop), i < n → J i ys news₁ → P i v → LCg.NsObj oC m₂ → m₂ x = some v → Fr h₀ L h m → News h₀ L h ((I, oI) :: (C, oC) :: (D, LCg.lst ys) :: news₁) → LCg.Off3 I C D news₁ → ((@Ne Nat I C) ∧ (@Ne Nat I D) ∧ (@Ne Nat C D)) →
      wpAny (model prog w) A (eval elt (compEnvC scope cl C env)) (LCg.CompEnd h₀ L m { s with heap := h, toks := tk } I oI C oC D (LCg.lst ys) S (fun y news' => J (i + 1) (ys ++ [y]) news')) E' { s with heap := h, toks := tk })
    (fin : ∀ ys news₁, J n ys news₁ → Fin ys news₁) : LCg.CompRest prog w A h₀ L m env elt x scope cl s S P Fin n 0 [] news := by
  have key : ∀ (j i : Nat) (ys : List Value) (nw : List (Addr × Obj)), i + j = n → J i ys nw → LCg.CompRest prog w A h₀ L m env elt x scope cl s S P Fin j i ys nw := by
    intro j
    induction j with
    | zero =>
      intro i ys nw hi hJ
      have e : i = n := by omega
      subst e
      exact LCg.CompRest.zero (fin ys nw hJ)
    | succ j ih =>
      intro i ys nw hi hJ
      refine LCg.CompRest.succ ?_
      intro v I oI C oC D m₂ h tk E' hv hC hx F N off ne
      refine wpAny_mono (turn i ys nw v I oI C oC D m₂ h tk E' (by omega) hJ hv hC hx F N off ne) (fun y s₂ hq => ?_) fun _ _ e => e
      obtain ⟨h', tk', nw', e, F', N', off', hS, hJ'⟩ := hq
      exact ⟨h', tk', nw', e, F', N', off', hS, ih (i + 1) _ nw' (by omega) hJ'⟩
  exact key n 0 [] news (by omega) h0
end
end Mine
end
section
open PySem PySem.W PyProof.Rows
set_option Elab.async false
set_option maxRecDepth 100000
namespace Mine
open Builtin Builtin.Str

/-- find between two places -/
def findF (y w : Str) (lo hi : Nat) : Option Nat := (occurrences y w lo hi 1).head?

theorem findF_spec (y w : Str) (lo hi : Nat) :
    (findF y w lo hi = none ∧ ∀ i, lo ≤ i → ¬ StrLaws.At y w hi i) ∨
    ∃ i, findF y w lo hi = some i ∧ lo ≤ i ∧ StrLaws.At y w hi i ∧ ∀ k, lo ≤ k → k < i → ¬ StrLaws.At y w hi k := by
  unfold findF
  rw [StrLaws.occ_eq]
  rcases StrLaws.occ_first y w hi 1 (Nat.le_refl _) (List.range' lo (hi + 1 - lo)) lo (fun i hi => by have := List.mem_range'_1.mp hi; omega) with ⟨h0, hn⟩ | ⟨pre, a, post, e, h0, ha, hn⟩
  · refine .inl ⟨by rw [h0]; rfl, fun i hlo hi' => ?_⟩
    exact hn i (by have := hi'.1; rw [List.mem_range'_1]; omega) hi'
  · have hs := StrLaws.range'_split_from e
    refine .inr ⟨a, ?_, hs.1, ha, fun k hk0 hk => hn k (hs.2 k hk0 hk)⟩
    generalize (forIn (List.range' lo (hi + 1 - lo)) ((#[] : Array Nat), lo) (StrLaws.occBody y w hi 1)).run.fst = arr at h0
    have h1 : arr.toList[0]? = some a := by simpa using h0
    rw [List.head?_eq_getElem?]
    exact h1

theorem gives_find4 (x y : Str) (i j : Int) (t u v k : Tok) : PySem.Gives («str.find» ⟨[.str x t, .str y u, .int i v, .int j k], []⟩)
    (.int (match occurrences x y (fromIndex x.length i) (min (fromIndex x.length j) x.length) 1 with | k :: _ => (k : Int) | [] => -1)) := by
  show PySem.Gives (match occurrences x y (fromIndex x.length i) (min (fromIndex x.length j) x.length) 1 with | k :: _ => retInt k | [] => (do rule "str.find.not-found"; retInt (-1))) _
  cases occurrences x y (fromIndex x.length i) (min (fromIndex x.length j) x.length) 1 with
  | nil => exact .rule (.of_eq rfl)
  | cons k _ => exact .of_eq rfl

theorem fromIndex_nat (len n : Nat) : fromIndex len (n : Int) = n := by
  unfold fromIndex
  rw [if_neg (by omega)]
  omega

section
variable {prog : Program} {w : World} {A : Around} {E : Value → Shared → Prop} {s : Shared} {x y : Str} {t u v k : Tok} {Q : Value → Shared → Prop}
theorem call_find4 {i j : Nat} (hj : j ≤ x.length) (h : ∀ t' k', (findF x y i j = none → Q (.int (-1) t') { s with toks := k' }) ∧ ∀ p, findF x y i j = some p → Q (.int (p : Int) t') { s with toks := k' }) :
    wpAny (model prog w) A (call (.builtin "str.find") [.str x t, .str y u, .int (i : Int) v, .int (j : Int) k]) Q E s := by
  refine call_gives F.slot_str_find (typeIs_str _ _ _) F.entry_str_find (F.args_str_find_4 _ _ _ _) (gives_find4 x y i j t u v k) ?_
  rw [fromIndex_nat, fromIndex_nat, Nat.min_eq_left hj]
  unfold findF at h
  obtain ⟨h1, h2⟩ := h s.toks (s.toks + 1)
  cases e : occurrences x y i j 1 with
  | nil => rw [e] at h1; exact h1 rfl
  | cons p r => rw [e] at h2; exact h2 p rfl
end

/-- doctest's loop: the texts one behind the other -/
def scan (y : Str) (hi : Nat) : List Str → Nat → Bool
  | [], _ => true
  | w :: ws, lo => match findF y w lo hi with
    | none => false
    | some i => scan y hi ws (i + w.length)

/-- _ellipsis_match of a pattern that opens with the dots -/
def emB (y : Str) (mid : List Str) (last : Str) : Bool :=
  if last.length = 0 then scan y y.length (Str.empty :: (mid ++ [last])) 0
  else Txt.endswith y last && scan y (y.length - last.length) (Str.empty :: mid) 0
end Mine
end
section
open PySem PySem.W PyProof.Rows
set_option Elab.async false
set_option maxRecDepth 100000
namespace Mine

/-- what a call of the def at f gives back -/
def Gives (w : World) (f : Addr) (dn : Nat) (args : List Value) (news : List (Addr × Obj)) (Post : Value → List (Addr × Obj) → Prop) : Prop :=
  ∀ (mean : ExcName → Option Value) (mg mb : Str → Option Value) (dp un : Nat) (gd : Option (List Code)) (cn : Str) (cs : Scope) (a : Addr) (ccd : Value) (cl : List (Str × Addr)) (outer : List Env) (A₀ : Around) (base h₀ : Heap) (L : Addr) (m : Str → Option Value) (s : Shared)
    (Q E : Value → Shared → Prop),
    Below A₀ base outer h₀ → Fr h₀ L s.heap m → (hd.heap_39 w.params).In h₀ → News h₀ L s.heap news → Top hd.view_39 (looseW hd.view_39 [Str.ofString "Whitespace"]) mean mg mb h₀ → cs.kind = .function → dp + dn < recursionLimit → un + 8 * dn < cLine →
    (∀ r tl h' tk', Fr h₀ L h' m → News h₀ L h' (tl ++ news) → (∀ p ∈ tl, ∀ q ∈ news, q.1 < p.1) → Post r tl → Q r { s with heap := h', toks := tk' }) →
    wpAny (model Challenge.rw_mj0186_02.row.prog w) (ktrTop dp un gd cn cs L a ccd cl outer) (call (.ref f) args) Q E s

theorem Gives.use {w : World} {f : Addr} {dn : Nat} {args : List Value} {news : List (Addr × Obj)} {Post : Value → List (Addr × Obj) → Prop} (G : Gives w f dn args news Post)
    {mean : ExcName → Option Value} {mg mb : Str → Option Value} {dp un : Nat} {gd : Option (List Code)} {cn : Str} {cs : Scope} {a : Addr} {ccd : Value} {cl : List (Str × Addr)} {outer : List Env} {A₀ : Around} {base h₀ : Heap} {L : Addr} {m : Str → Option Value} {s : Shared}
    {Q E : Value → Shared → Prop}
    (B : Below A₀ base outer h₀) (F : Fr h₀ L s.heap m) (X : (hd.heap_39 w.params).In h₀) (N : News h₀ L s.heap news) (T : Top hd.view_39 (looseW hd.view_39 [Str.ofString "Whitespace"]) mean mg mb h₀) (hk : cs.kind = .function) (hd : dp + dn < recursionLimit) (hu : un + 8 * dn < cLine)
    (ret : ∀ r tl h' tk', s.toks ≤ tk' → Fr h₀ L h' m → News h₀ L h' (tl ++ news) → (∀ p ∈ tl, ∀ q ∈ news, q.1 < p.1) → Post r tl → Q r { s with heap := h', toks := tk' }) :
    wpAny (model Challenge.rw_mj0186_02.row.prog w) (ktrTop dp un gd cn cs L a ccd cl outer) (call (.ref f) args) Q E s :=
  wpAny_with_toks (Nat.le_refl _) (G mean mg mb dp un gd cn cs a ccd cl outer A₀ base h₀ L m s _ _ B F X N T hk hd hu (fun r tl h' tk' F' N' ho hp hle => ret r tl h' tk' hle F' N' ho hp))
theorem Gives.useS {w : World} {f : Addr} {dn : Nat} {args : List Value} {news : List (Addr × Obj)} {x : Str} (G : Gives w f dn args news (fun r tl => tl = [] ∧ ∃ t', r = .str x t'))
    {mean : ExcName → Option Value} {mg mb : Str → Option Value} {dp un : Nat} {gd : Option (List Code)} {cn : Str} {cs : Scope} {a : Addr} {ccd : Value} {cl : List (Str × Addr)} {outer : List Env} {A₀ : Around} {base h₀ : Heap} {L : Addr} {m : Str → Option Value} {s : Shared}
    {Q E : Value → Shared → Prop}
    (B : Below A₀ base outer h₀) (F : Fr h₀ L s.heap m) (X : (hd.heap_39 w.params).In h₀) (N : News h₀ L s.heap news) (T : Top hd.view_39 (looseW hd.view_39 [Str.ofString "Whitespace"]) mean mg mb h₀) (hk : cs.kind = .function) (hd : dp + dn < recursionLimit) (hu : un + 8 * dn < cLine)
    (ret : ∀ t h' tk', s.toks ≤ tk' → Fr h₀ L h' m → News h₀ L h' news → Q (.str x t) { s with heap := h', toks := tk' }) :
    wpAny (model Challenge.rw_mj0186_02.row.prog w) (ktrTop dp un gd cn cs L a ccd cl outer) (call (.ref f) args) Q E s :=
  wpAny_with_toks (Nat.le_refl _) (G mean mg mb dp un gd cn cs a ccd cl outer A₀ base h₀ L m s _ _ B F X N T hk hd hu (by rintro r tl h' tk' F' N' _ ⟨rfl, t, rfl⟩ hle; exact ret t h' tk' hle F' N'))
theorem Gives.useB {w : World} {f : Addr} {dn : Nat} {args : List Value} {news : List (Addr × Obj)} {x : Bool} (G : Gives w f dn args news (fun r tl => tl = [] ∧ r = .bool x))
    {mean : ExcName → Option Value} {mg mb : Str → Option Value} {dp un : Nat} {gd : Option (List Code)} {cn : Str} {cs : Scope} {a : Addr} {ccd : Value} {cl : List (Str × Addr)} {outer : List Env} {A₀ : Around} {base h₀ : Heap} {L : Addr} {m : Str → Option Value} {s : Shared}
    {Q E : Value → Shared → Prop}
    (B : Below A₀ base outer h₀) (F : Fr h₀ L s.heap m) (X : (hd.heap_39 w.params).In h₀) (N : News h₀ L s.heap news) (T : Top hd.view_39 (looseW hd.view_39 [Str.ofString "Whitespace"]) mean mg mb h₀) (hk : cs.kind = .function) (hd : dp + dn < recursionLimit) (hu : un + 8 * dn < cLine)
    (ret : ∀ h' tk', s.toks ≤ tk' → Fr h₀ L h' m → News h₀ L h' news → Q (.bool x) { s with heap := h', toks := tk' }) :
    wpAny (model Challenge.rw_mj0186_02.row.prog w) (ktrTop dp un gd cn cs L a ccd cl outer) (call (.ref f) args) Q E s :=
  wpAny_with_toks (Nat.le_refl _) (G mean mg mb dp un gd cn cs a ccd cl outer A₀ base h₀ L m s _ _ B F X N T hk hd hu (by rintro r tl h' tk' F' N' _ ⟨rfl, rfl⟩ hle; exact ret h' tk' hle F' N'))
theorem Gives.useI {w : World} {f : Addr} {dn : Nat} {args : List Value} {news : List (Addr × Obj)} {x : Int} (G : Gives w f dn args news (fun r tl => tl = [] ∧ ∃ t', r = .int x t'))
    {mean : ExcName → Option Value} {mg mb : Str → Option Value} {dp un : Nat} {gd : Option (List Code)} {cn : Str} {cs : Scope} {a : Addr} {ccd : Value} {cl : List (Str × Addr)} {outer : List Env} {A₀ : Around} {base h₀ : Heap} {L : Addr} {m : Str → Option Value} {s : Shared}
    {Q E : Value → Shared → Prop}
    (B : Below A₀ base outer h₀) (F : Fr h₀ L s.heap m) (X : (hd.heap_39 w.params).In h₀) (N : News h₀ L s.heap news) (T : Top hd.view_39 (looseW hd.view_39 [Str.ofString "Whitespace"]) mean mg mb h₀) (hk : cs.kind = .function) (hd : dp + dn < recursionLimit) (hu : un + 8 * dn < cLine)
    (ret : ∀ t h' tk', s.toks ≤ tk' → Fr h₀ L h' m → News h₀ L h' news → Q (.int x t) { s with heap := h', toks := tk' }) :
    wpAny (model Challenge.rw_mj0186_02.row.prog w) (ktrTop dp un gd cn cs L a ccd cl outer) (call (.ref f) args) Q E s :=
  wpAny_with_toks (Nat.le_refl _) (G mean mg mb dp un gd cn cs a ccd cl outer A₀ base h₀ L m s _ _ B F X N T hk hd hu (by rintro r tl h' tk' F' N' _ ⟨rfl, t, rfl⟩ hle; exact ret t h' tk' hle F' N'))
end Mine
end
section
open PySem PySem.W PyProof.Rows
namespace Mine
theorem snoc_ind {α : Type} {P : List α → Prop} (h0 : P []) (h1 : ∀ l a, P l → P (l ++ [a])) (l : List α) : P l := by
  have h : ∀ r : List α, P r.reverse := by
    intro r
    induction r with
    | nil => exact h0
    | cons a r ih => rw [List.reverse_cons]; exact h1 _ _ ih
  have := h l.reverse
  rwa [List.reverse_reverse] at this
/-- the counts with room for a run of b -/
def pad (cs : List Nat) (b : Nat) : List Nat := if cs.length ≤ b then cs ++ List.replicate (b + 1 - cs.length) 0 else cs
def bump (cs : List Nat) (b : Nat) : List Nat := (pad cs b).set b ((pad cs b).getD b 0 + 1)
/-- Whitespace.__init__'s state: the counts, the blanks at hand, all signs, the tabs -/
structure WSt where
  cs : List Nat
  b : Nat
  n : Nat
  nt : Nat
def wsStep (s : WSt) (c : Nat) : WSt := if c = 32 then ⟨s.cs, s.b + 1, s.n + 1, s.nt⟩ else ⟨bump s.cs s.b, 0, s.n + 1, s.nt + 1⟩
def wsOf (l : List Nat) : WSt := l.foldl wsStep ⟨[], 0, 0, 0⟩
theorem wsOf_snoc (l : List Nat) (c : Nat) : wsOf (l ++ [c]) = wsStep (wsOf l) c := by simp [wsOf]
theorem pad_len (cs : List Nat) (b : Nat) : (pad cs b).length = max cs.length (b + 1) := by
  unfold pad
  split
  · simp only [List.length_append, List.length_replicate]; omega
  · omega
theorem bump_len (cs : List Nat) (b : Nat) : (bump cs b).length = max cs.length (b + 1) := by simp [bump, pad_len]
/-- the state's parts are small -/
theorem wsOf_small (l : List Nat) : (wsOf l).b ≤ l.length ∧ (wsOf l).n ≤ l.length ∧ (wsOf l).nt ≤ l.length ∧ (wsOf l).cs.length ≤ l.length + 1 := by
  refine snoc_ind (P := fun l => (wsOf l).b ≤ l.length ∧ (wsOf l).n ≤ l.length ∧ (wsOf l).nt ≤ l.length ∧ (wsOf l).cs.length ≤ l.length + 1) ?_ ?_ l
  · simp [wsOf]
  · intro l c ih
    obtain ⟨h1, h2, h3, h4⟩ := ih
    rw [wsOf_snoc, wsStep]
    split <;> simp only [List.length_append, List.length_cons, List.length_nil, bump_len] <;> omega
/-- a state of the loop as the program holds it -/
structure ISt where
  cl : Addr
  vs : List Value
  nn : Nat
  b : Int
  n : Int
  nt : Int
  tb : Tok
  tn : Tok
  tt : Tok
end Mine
end
section
open PySem PySem.W PyProof.Rows
namespace Mine
/-- a text by its signs' numbers -/
def S (l : List Nat) : Str := ⟨l.toArray⟩
theorem S_app (a b : List Nat) : S a ++ S b = S (a ++ b) := by
  refine Str.ext' ?_
  simp [S, Str.cps_append]
theorem S_len (a : List Nat) : (S a).length = a.length := by simp [S, Str.length]
theorem S_of (x : Str) : x = S x.cps.toList := by simp [S]
theorem S_nil : Str.ofString "" = S [] := by decide +kernel
def dots : List Nat := [46, 46, 46]
theorem S_dots : Str.ofString "..." = S dots := by decide +kernel
theorem S_tabdots : Str.ofString "\t..." = S (9 :: dots) := by decide +kernel
theorem S_tab : Str.ofString "\t" = S [9] := by decide +kernel
theorem S_blank : Str.ofString " " = S [32] := by decide +kernel
theorem S_bar : Str.ofString "|" = S [124] := by decide +kernel
theorem S_dotsbar : Str.ofString "...|" = S (dots ++ [124]) := by decide +kernel
theorem S_mul (n : Nat) : Txt.mul (Str.ofString " ") (n : Int) = S (List.replicate n 32) := by
  rw [S_blank]
  have h := mul_one_list 32 (n : Int)
  rw [S_of (Txt.mul (S [32]) (n : Int))]
  exact congrArg S (h.trans (by simp))
/-- what _law_tabs hands back -/
def tabsT : Nat → List Nat
  | 0 => dots
  | n + 1 => tabsT n ++ (9 :: dots)
theorem tabsT_len (n : Nat) : (tabsT n).length = 3 + 4 * n := by
  induction n with
  | zero => rfl
  | succ n ih => simp only [tabsT, List.length_append, ih, dots, List.length_cons, List.length_nil]; omega
/-- what _law_runs hands back -/
def runsT (r : Nat) : Nat → List Nat
  | 0 => dots
  | n + 1 => runsT r n ++ [124] ++ List.replicate r 32 ++ (9 :: dots)
theorem runsT_len (r n : Nat) : (runsT r n).length = 3 + (5 + r) * n := by
  induction n with
  | zero => rfl
  | succ n ih => simp only [runsT, List.length_append, ih, dots, List.length_cons, List.length_nil, List.length_replicate, Nat.mul_succ]; omega
def endT (b : Nat) : List Nat := dots ++ [124] ++ List.replicate b 32
/-- a lead's text: each run closed by a tab -/
def runsText : List Nat → List Nat
  | [] => []
  | r :: rs => List.replicate r 32 ++ [9] ++ runsText rs
theorem runsText_app (a b : List Nat) : runsText (a ++ b) = runsText a ++ runsText b := by
  induction a with
  | nil => rfl
  | cons r rs ih => simp only [List.cons_append, runsText, ih, List.append_assoc]
def textT (closed : List Nat) (behind : Nat) : List Nat := runsText closed ++ List.replicate behind 32
theorem runsText_len (B : Nat) : ∀ (l : List Nat), (∀ r ∈ l, r ≤ B) → (runsText l).length ≤ (B + 1) * l.length
  | [], _ => by simp [runsText]
  | r :: rs, h => by
    have h1 := runsText_len B rs fun x hx => h x (.tail _ hx)
    have h2 := h r (.head _)
    simp only [runsText, List.length_append, List.length_replicate, List.length_cons, List.length_nil, Nat.mul_succ]
    omega
/-- a lead as the program holds it: a tuple of a list of ints and an int -/
def LeadAt (news : List (Addr × Obj)) (v : Value) (closed : List Nat) (behind : Nat) : Prop :=
  ∃ a c vs nn k tb, v = .ref a ∧ (a, ({ cls := .type "tuple", data := .seq #[.ref c, .int (behind : Int) tb] k } : Obj)) ∈ news ∧ (c, listOf vs.toArray nn) ∈ news ∧ IntsAre vs (closed.map fun (n : Nat) => (n : Int))
theorem LeadAt.mono {news news' : List (Addr × Obj)} {v : Value} {closed : List Nat} {behind : Nat} (h : LeadAt news v closed behind) (hs : ∀ p ∈ news, p ∈ news') : LeadAt news' v closed behind := by
  obtain ⟨a, c, vs, nn, k, tb, e, h1, h2, h3⟩ := h
  exact ⟨a, c, vs, nn, k, tb, e, hs _ h1, hs _ h2, h3⟩
/-- a Whitespace as the program holds it -/
def WhiteAt (w : World) (news : List (Addr × Obj)) (v : Value) (st : WSt) : Prop :=
  ∃ (x dx nm ct : Addr) (raw : Value) (vs : List Value) (tn tt tb k1 k2 k3 k4 k5 : Tok),
    v = .ref x ∧ (x, instObj 83 dx) ∈ news ∧
    (dx, dictOf [⟨PyData.keyHash w.params (Str.ofString "raw"), .str (Str.ofString "raw") k1, raw⟩,
      ⟨PyData.keyHash w.params (Str.ofString "n"), .str (Str.ofString "n") k2, .int (st.n : Int) tn⟩,
      ⟨PyData.keyHash w.params (Str.ofString "nt"), .str (Str.ofString "nt") k3, .int (st.nt : Int) tt⟩,
      ⟨PyData.keyHash w.params (Str.ofString "norm"), .str (Str.ofString "norm") k4, .ref nm⟩,
      ⟨PyData.keyHash w.params (Str.ofString "is_simple"), .str (Str.ofString "is_simple") k5, .bool (decide (((st.cs.map fun (k : Nat) => (k : Int)).length : Int) ≤ 1))⟩] 5) ∈ news ∧
    (nm, ({ cls := .type "tuple", data := .seq #[.ref ct, .int (st.b : Int) tb] } : Obj)) ∈ news ∧
    (ct, ({ cls := .type "tuple", data := .seq vs.toArray } : Obj)) ∈ news ∧ IntsAre vs (st.cs.map fun (k : Nat) => (k : Int))
theorem WhiteAt.mono {w : World} {news news' : List (Addr × Obj)} {v : Value} {st : WSt} (h : WhiteAt w news v st) (hs : ∀ p ∈ news, p ∈ news') : WhiteAt w news' v st := by
  obtain ⟨x, dx, nm, ct, raw, vs, tn, tt, tb, k1, k2, k3, k4, k5, e, h1, h2, h3, h4, h5⟩ := h
  exact ⟨x, dx, nm, ct, raw, vs, tn, tt, tb, k1, k2, k3, k4, k5, e, hs _ h1, hs _ h2, hs _ h3, hs _ h4, h5⟩
/-- a lead of a bounded size -/
def Small (closed : List Nat) (behind : Nat) : Prop := closed.length ≤ 20 ∧ (∀ r ∈ closed, r ≤ 20) ∧ behind ≤ 20
theorem textT_len {closed : List Nat} {behind : Nat} (h : Small closed behind) : (S (textT closed behind)).length ≤ 500 := by
  obtain ⟨h1, h2, h3⟩ := h
  have := runsText_len 20 closed h2
  rw [S_len, textT, List.length_append, List.length_replicate]
  omega
/-- each tab with a bar behind -/
def repT : List Nat → List Nat
  | [] => []
  | c :: r => if c = 9 then 9 :: 124 :: repT r else c :: repT r
theorem repT_app (a b : List Nat) : repT (a ++ b) = repT a ++ repT b := by
  induction a with
  | nil => rfl
  | cons c r ih => by_cases h : c = 9 <;> simp [repT, h, ih]
theorem repT_free (l : List Nat) (h : 9 ∉ l) : repT l = l := by
  induction l with
  | nil => rfl
  | cons c r ih =>
    have h1 : c ≠ 9 := fun e => h (e ▸ List.mem_cons_self ..)
    have h2 : 9 ∉ r := fun e => h (List.mem_cons_of_mem _ e)
    simp [repT, h1, ih h2]
theorem repT_join : ∀ parts : List Str, (∀ p ∈ parts, 9 ∉ p.cps.toList) → repT (Str.join ⟨#[9]⟩ parts).cps.toList = (Str.join ⟨#[9, 124]⟩ parts).cps.toList
  | [], _ => rfl
  | [p], h => repT_free _ (h p (List.mem_singleton.mpr rfl))
  | p :: q :: r, h => by
    have ih := repT_join (q :: r) fun a ha => h a (List.mem_cons_of_mem _ ha)
    show repT (p ++ ⟨#[9]⟩ ++ Str.join ⟨#[9]⟩ (q :: r)).cps.toList = (p ++ ⟨#[9, 124]⟩ ++ Str.join ⟨#[9, 124]⟩ (q :: r)).cps.toList
    simp only [Str.cps_append, Array.toList_append]
    rw [repT_app, repT_app, ih, repT_free _ (h p (List.mem_cons_self ..))]
    rfl
theorem rep_eq (l : List Nat) : Txt.replace (S l) (Str.ofString "\t") (Str.ofString "\t|") = S (repT l) := by
  have e1 : Str.ofString "\t" = ⟨#[9]⟩ := by decide +kernel
  have e2 : Str.ofString "\t|" = ⟨#[9, 124]⟩ := by decide +kernel
  rw [e1, e2, StrLaws.replace_one]
  have h := repT_join _ (StrLaws.split_free (S l) 9)
  rw [StrLaws.join_split] at h
  rw [S_of (Str.join _ _), ← h]
  rfl
theorem repT_len_le (l : List Nat) : (repT l).length ≤ 2 * l.length := by
  induction l with
  | nil => simp [repT]
  | cons c r ih => by_cases h : c = 9 <;> simp [repT, h] <;> omega
theorem repT_len {closed : List Nat} {behind : Nat} (h : Small closed behind) : (S (repT (textT closed behind))).length ≤ 1000 := by
  have h1 := textT_len h
  have h2 := repT_len_le (textT closed behind)
  rw [S_len] at h1 ⊢
  omega
def barT (closed : List Nat) (behind : Nat) : List Nat := 124 :: repT (textT closed behind)
theorem barT_eq (closed : List Nat) (behind : Nat) : Txt.replace (S (textT closed behind)) (Str.ofString "\t") (Str.ofString "\t|") = S (repT (textT closed behind)) := rep_eq _
theorem one_eq {s : Str} {j k : Nat} (e : s = ⟨#[j]⟩) : ((⟨#[k]⟩ : Str) == s) = decide (k = j) := by
  subst e
  by_cases h : k = j
  · subst h; simp
  · rw [decide_eq_false h, beq_eq_false_iff_ne]
    intro e
    injection e with e
    simp at e
    exact h e
theorem at_text {tl rest : List Nat} {c i k : Nat} (h : (S (tl ++ c :: rest)).cps[i]? = some k) (hi : i ≤ tl.length) :
    (i < tl.length ∧ k ∈ tl ∧ tl.take (i + 1) = tl.take i ++ [k]) ∨ (i = tl.length ∧ k = c) := by
  have h' : (tl ++ c :: rest)[i]? = some k := by simpa [S] using h
  by_cases hlt : i < tl.length
  · rw [List.getElem?_append_left hlt] at h'
    exact .inl ⟨hlt, List.mem_of_getElem? h', by rw [List.take_add_one, h']; rfl⟩
  · have : i = tl.length := by omega
    subst this
    rw [List.getElem?_append_right (Nat.le_refl _)] at h'
    simp at h'
    exact .inr ⟨rfl, h'.symm⟩
theorem flat_rep (n : Nat) (a : Int) : (List.replicate n [a]).flatten = List.replicate n a := by
  induction n with
  | zero => rfl
  | succ n ih => rw [List.replicate_succ, List.flatten_cons, ih, List.replicate_succ]; rfl
theorem bump_pad {cs : List Nat} {b : Nat} (h : cs.length ≤ b) :
    (((cs.map fun (k : Nat) => (k : Int)) ++ (List.replicate ((b : Int) - ((cs.map fun (k : Nat) => (k : Int)).length : Int) + 1).toNat [(0 : Int)]).flatten).set (b : Int).toNat (0 + 1)) = (bump cs b).map fun (k : Nat) => (k : Int) := by
  rw [flat_rep, bump, List.map_set, List.length_map]
  have e1 : ((b : Int) - (cs.length : Int) + 1).toNat = b + 1 - cs.length := by omega
  rw [e1, Int.toNat_natCast]
  have e2 : pad cs b = cs ++ List.replicate (b + 1 - cs.length) 0 := by rw [pad, if_pos h]
  rw [e2, List.map_append, List.map_replicate]
  have e3 : (cs ++ List.replicate (b + 1 - cs.length) 0).getD b 0 = 0 := by
    rw [List.getD_eq_getElem?_getD, List.getElem?_append_right h, List.getElem?_replicate]
    split <;> rfl
  rw [e3]
  rfl
theorem bump_no {cs : List Nat} {b : Nat} (h : ¬ cs.length ≤ b) :
    ((cs.map fun (k : Nat) => (k : Int)).set (b : Int).toNat ((cs.map fun (k : Nat) => (k : Int)).getD (b : Int).toNat 0 + 1)) = (bump cs b).map fun (k : Nat) => (k : Int) := by
  have e2 : pad cs b = cs := by rw [pad, if_neg h]
  rw [bump, List.map_set, e2, Int.toNat_natCast]
  congr 1
  rw [List.getD_eq_getElem?_getD, List.getD_eq_getElem?_getD, List.getElem?_map]
  have : b < cs.length := by omega
  rw [List.getElem?_eq_getElem this]
  rfl
end Mine
end
section
open PySem PySem.W PyProof.Rows
set_option Elab.async false
set_option maxRecDepth 100000
set_option maxHeartbeats 8000000
set_option pp.maxSteps 20000
namespace Mine
local macro_rules | `(tactic| walk_at "pyIter ref") => `(tactic| (refine Hold.out ?_))
theorem tabs_spec (w : World) (news : List (Addr × Obj)) (n : Nat) (t : Tok) (hn : n < 1000) :
    Gives w 129 1 [.int n t] news (fun r tl => tl = [] ∧ ∃ t', r = .str (S (tabsT n)) t') := by
  w_top off
  unfold Gives
  w_top off
  k_fill
  intro mean mg mb dp un gd cn cs a ccd cl outer A₀ base h₀ L m s Q E B F X N T hk hd hu hret
  refine wpAny_call ?_
  k_dflt ktr_enter
  k_steps
  refine Hold.mk ?_
  (rename Fr _ _ _ _ => fF); (rename News _ _ _ _ => fN); (rename IsRange _ _ _ _ _ _ _ _ => rgX)
  refine' loop_range (n := n) (fun _ => news) (fun c : Str × Tok => [(Str.ofString "want", Value.str c.1 c.2)]) [] (fun i c => c.1 = S (tabsT i)) (Str.ofString "...", ?tk0) (by rfl) rgX (small_one (by omega) (by omega) (by omega) (by omega)) (by simpa using rangeSize_nat 0 (n : Int)) fF fN ?k1 ?k2 ?_ ?_
  case k1 => kst_all
  case k2 => exact S_dots
  · rintro ⟨c, tc⟩ i ti u h tk own hi hP hoff F1 N1
    dsimp only at hP
    subst hP
    have hl := (S_len (tabsT i)).trans (tabsT_len i)
    clear fF fN; dsimp only [kstB] at F1
    k_steps
    refine' Turn.next (_, _) (by assumption) (by assumption) (fun p hp => List.mem_append.mpr (.inr hp)) (fun p hp => List.mem_append.mpr (.inl hp)) hoff ?k1 ?k2 ?k3
    case k1 => kst_all
    case k2 => kst_same
    case k3 => exact (congrArg (S (tabsT i) ++ ·) S_tabdots).trans (S_app _ _)
  · rintro ⟨c, tc⟩ u h tk hP F1 N1
    dsimp only at hP
    subst hP
    clear fF fN; dsimp only [kstB] at F1
    k_steps
    exact hret _ [] _ _ (by assumption) (by assumption) (fun _ h => nomatch h) ⟨rfl, _, rfl⟩
end Mine
end
section
open PySem PySem.W PyProof.Rows
set_option Elab.async false
set_option maxRecDepth 100000
set_option maxHeartbeats 8000000
set_option pp.maxSteps 20000
namespace Mine
local macro_rules | `(tactic| walk_at "pyIter ref") => `(tactic| (refine Hold.out ?_))

theorem runs_spec (w : World) (news : List (Addr × Obj)) (r n : Nat) (t t2 : Tok) (hr : r < 1000) (hn : n < 1000) :
    Gives w 122 1 [.int r t2, .int n t] news (fun r' tl => tl = [] ∧ ∃ t', r' = .str (S (runsT r n)) t') := by
  w_top off
  unfold Gives
  w_top off
  k_fill
  intro mean mg mb dp un gd cn cs a ccd cl outer A₀ base h₀ L m s Q E B F X N T hk hd hu hret
  refine wpAny_call ?_
  k_dflt ktr_enter
  k_steps
  refine Hold.mk ?_
  (rename Fr _ _ _ _ => fF); (rename News _ _ _ _ => fN); (rename IsRange _ _ _ _ _ _ _ _ => rgX)
  refine' loop_range (n := n) (fun _ => news) (fun c : Str × Tok => [(Str.ofString "want", Value.str c.1 c.2)]) [] (fun i c => c.1 = S (runsT r i)) (Str.ofString "...", ?tk0) (by rfl) rgX (small_one (by omega) (by omega) (by omega) (by omega)) (by simpa using rangeSize_nat 0 (n : Int)) fF fN ?k1 ?k2 ?_ ?_
  case k1 => kst_all
  case k2 => exact S_dots
  · rintro ⟨c, tc⟩ i ti u h tk own hi hP hoff F1 N1
    dsimp only at hP
    subst hP
    have hl := (S_len (runsT r i)).trans (runsT_len r i)
    have hb : (5 + r) * i ≤ 1005 * 1000 := Nat.mul_le_mul (by omega) (by omega)
    clear fF fN; dsimp only [kstB] at F1
    k_steps
    refine' Turn.next (_, _) (by assumption) (by assumption) (fun p hp => List.mem_append.mpr (.inr hp)) (fun p hp => List.mem_append.mpr (.inl hp)) hoff ?k1 ?k2 ?k3
    case k1 => kst_all
    case k2 => kst_same
    case k3 =>
      show S (runsT r i) ++ Str.ofString "|" ++ Txt.mul (Str.ofString " ") (r : Int) ++ Str.ofString "\t..." = S (runsT r (i + 1))
      rw [S_bar, S_mul, S_tabdots, S_app, S_app, S_app]; rfl
  · rintro ⟨c, tc⟩ u h tk hP F1 N1
    dsimp only at hP
    subst hP
    clear fF fN; dsimp only [kstB] at F1
    k_steps
    exact hret _ [] _ _ (by assumption) (by assumption) (fun _ h => nomatch h) ⟨rfl, _, rfl⟩

end Mine
end
section
open PySem PySem.W PyProof.Rows
set_option Elab.async false
set_option maxRecDepth 100000
set_option maxHeartbeats 8000000
set_option pp.maxSteps 20000
namespace Mine
local macro_rules | `(tactic| walk_at "pyIter ref") => `(tactic| (refine Hold.out ?_))
local macro_rules | `(tactic| walk_at "pyIter str") => `(tactic| (refine Hold.out ?_))
local macro_rules | `(tactic| walk_at "exec For Name Name cons nil") => `(tactic| (k_here; (rename Fr _ _ _ _ => lF'); (with_unfolding_all refine' For_invVF lF' ?k1 ?k2 ?_; (case k1 => exact rfl); (case k2 => exact rfl); k_whole)))
local macro_rules | `(tactic| walk_at "exec For Name Attribute cons nil") => `(tactic| (k_here; (rename Fr _ _ _ _ => lF'); (with_unfolding_all refine' For_invVF lF' ?k1 ?k2 ?_; (case k1 => exact rfl); (case k2 => exact rfl); k_whole)))
local macro_rules | `(tactic| walk_at "exec For Name Call cons nil") => `(tactic| (k_here; (rename Fr _ _ _ _ => lF'); (with_unfolding_all refine' For_invVF lF' ?k1 ?k2 ?_; (case k1 => exact rfl); (case k2 => exact rfl); k_whole)))

theorem end_spec (w : World) (news : List (Addr × Obj)) (b : Nat) (t : Tok) (hb : b < 1000) :
    Gives w 136 1 [.int b t] news (fun r tl => tl = [] ∧ ∃ t', r = .str (S (endT b)) t') := by
  w_top off
  unfold Gives
  w_top off
  k_fill
  intro mean mg mb dp un gd cn cs a ccd cl outer A₀ base h₀ L m s Q E B F X N T hk hd hu hret
  refine wpAny_call ?_
  k_dflt ktr_enter
  k_steps
  exact hret _ [] _ _ (by assumption) (by assumption) (fun _ h => nomatch h) ⟨rfl, _, congrArg (Value.str · _) (by rw [S_dotsbar, S_mul, S_app]; rfl)⟩

theorem ints_at {vs : List Value} {closed : List Nat} (h : IntsAre vs (closed.map fun (n : Nat) => (n : Int))) {i : Nat} {v : Value} (hv : vs[i]? = some v) : ∃ r t, closed[i]? = some r ∧ v = .int (r : Int) t := by
  have hl : vs.length = closed.length := by simpa using h.length
  have hi : i < closed.length := by rw [← hl]; exact (List.getElem?_eq_some_iff.mp hv).1
  obtain ⟨t, ht⟩ := h.get i (closed[i] : Int) (by simp [hi])
  rw [hv] at ht
  exact ⟨closed[i], t, by simp [hi], Option.some.inj ht⟩

theorem text_spec (w : World) (news : List (Addr × Obj)) (v : Value) (closed : List Nat) (behind : Nat) (hv : LeadAt news v closed behind) (hs : Small closed behind) :
    Gives w 108 1 [v] news (fun r tl => tl = [] ∧ ∃ t', r = .str (S (textT closed behind)) t') := by
  obtain ⟨av, ac, vs, nn, kk, tb, rfl, hm1, hm2, hI⟩ := hv
  obtain ⟨hs1, hs2, hs3⟩ := hs
  have hlen : vs.length = closed.length := by simpa using hI.length
  w_top off
  unfold Gives
  w_top off
  k_fill
  intro mean mg mb dp un gd cn cs a ccd cl outer A₀ base h₀ L m s Q E B F X N T hk hd hu hret
  refine wpAny_call ?_
  k_dflt ktr_enter
  k_steps
  refine Hold.mk ?_
  (rename Fr _ _ _ _ => fF); (rename News _ _ _ _ => fN)
  refine' loop_list (fun _ => news) (fun c : Str × Tok => [(Str.ofString "text", Value.str c.1 c.2)]) [] (fun i c => c.1 = S (runsText (closed.take i))) (Str.ofString "", ?tk0) (by rfl) (fun _ => hm2) fF fN ?k1 ?k2 ?_ ?_
  case k1 => kst_all
  case k2 => exact S_nil
  · rintro ⟨c, tc⟩ i vi u h tk own hvi hP hoff F1 N1
    dsimp only at hP
    subst hP
    obtain ⟨r, tr, hr, rfl⟩ := ints_at hI hvi
    have hr2 := hs2 r (List.mem_of_getElem? hr)
    have hl := (S_len (runsText (closed.take i)))
    have hb := runsText_len 20 (closed.take i) (fun x hx => hs2 x (List.mem_of_mem_take hx))
    have hb2 : (closed.take i).length ≤ 20 := by rw [List.length_take]; omega
    clear fF fN; dsimp only [kstB] at F1
    k_steps
    refine' Turn.next (_, _) (by assumption) (by assumption) (fun p hp => List.mem_append.mpr (.inr hp)) (fun p hp => List.mem_append.mpr (.inl hp)) hoff ?k1 ?k2 ?k3
    case k1 => kst_all
    case k2 => kst_same
    case k3 =>
      show S (runsText (closed.take i)) ++ Txt.mul (Str.ofString " ") (r : Int) ++ Str.ofString "\t" = S (runsText (closed.take (i + 1)))
      rw [S_mul, S_tab, S_app, S_app, List.take_add_one, hr]
      simp [runsText_app, runsText]
  · rintro ⟨c, tc⟩ u h tk hP F1 N1
    dsimp only at hP
    rw [hlen, List.take_length] at hP
    subst hP
    have hl := (S_len (runsText closed))
    have hb := runsText_len 20 closed hs2
    clear fF fN; dsimp only [kstB] at F1
    k_steps
    exact hret _ [] _ _ (by assumption) (by assumption) (fun _ h => nomatch h) ⟨rfl, _, congrArg (Value.str · _) (by rw [S_mul, S_app]; rfl)⟩
end Mine
end
section
open PySem PySem.W PyProof.Rows
set_option Elab.async false
set_option maxRecDepth 100000
set_option maxHeartbeats 8000000
set_option pp.maxSteps 20000
namespace Mine
local macro_rules | `(tactic| walk_at "pyIter ref") => `(tactic| (refine Hold.out ?_))
local macro_rules | `(tactic| walk_at "call builtin:str.replace") => `(tactic| (k_here; (refine SC.replaceW (by ((show @Ne Nat _ _); omega)) (by ((show @Ne Nat _ _); omega)) (by ((show @Ne Nat _ _); omega)) (by decide +kernel) (by omega) (by decide +kernel) ?_); intro t9 k9))
local macro_rules | `(tactic| walk_at "pyIter str") => `(tactic| (refine Hold.out ?_))
local macro_rules | `(tactic| walk_at "exec For Name Name cons nil") => `(tactic| (k_here; (rename Fr _ _ _ _ => lF'); (with_unfolding_all refine' For_invVF lF' ?k1 ?k2 ?_; (case k1 => exact rfl); (case k2 => exact rfl); k_whole)))
local macro_rules | `(tactic| walk_at "exec For Name Attribute cons nil") => `(tactic| (k_here; (rename Fr _ _ _ _ => lF'); (with_unfolding_all refine' For_invVF lF' ?k1 ?k2 ?_; (case k1 => exact rfl); (case k2 => exact rfl); k_whole)))
local macro_rules | `(tactic| walk_at "exec For Name Call cons nil") => `(tactic| (k_here; (rename Fr _ _ _ _ => lF'); (with_unfolding_all refine' For_invVF lF' ?k1 ?k2 ?_; (case k1 => exact rfl); (case k2 => exact rfl); k_whole)))
local macro_rules | `(tactic| walk_at "call ref") => `(tactic| (k_here; (with_reducible show wpAny _ _ (call (Value.ref _) _) _ _ _); k_dflt (refine' Gives.useS (text_spec _ _ _ _ _ ?c1 ?c2) ?k1 ?k2 ?k3 ?k4 ?k5 ?kK ?kd ?ku ?_; (case k1 => k_asm); (case k2 => k_asm); (case k3 => k_asm); (case k4 => k_asm); (case k5 => k_asm); (case kK => exact rfl); (case kd => ktr_room); (case ku => ktr_units); (case c1 => assumption); (case c2 => assumption); k_whole); intro t9 h9 tk9 hle9 F9 N9; (try dsimp only at hle9); (try dsimp only); (try k_fold)))

theorem barred_spec (w : World) (news : List (Addr × Obj)) (v : Value) (closed : List Nat) (behind : Nat) (hv : LeadAt news v closed behind) (hs : Small closed behind) :
    Gives w 115 2 [v] news (fun r tl => tl = [] ∧ ∃ t', r = .str (S (barT closed behind)) t') := by
  have hl : (S (textT closed behind)).length ≤ 500 := textT_len hs
  have he := barT_eq closed behind
  have hl2 : (S (repT (textT closed behind))).length ≤ 1000 := repT_len hs
  w_top off
  unfold Gives
  w_top off
  k_fill
  intro mean mg mb dp un gd cn cs a ccd cl outer A₀ base h₀ L m s Q E B F X N T hk hd hu hret
  refine wpAny_call ?_
  k_dflt ktr_enter
  k_steps
  rw [he]
  k_steps
  exact hret _ [] _ _ (by assumption) (by assumption) (fun _ h => nomatch h) ⟨rfl, _, congrArg (Value.str · _) (by rw [S_bar, S_app]; rfl)⟩
end Mine
end
section
open PySem PySem.W PyProof.Rows
set_option Elab.async false
set_option maxRecDepth 100000
set_option maxHeartbeats 8000000
set_option pp.maxSteps 20000
namespace Mine
local macro_rules | `(tactic| walk_at "pyIter ref") => `(tactic| (refine Hold.out ?_))
local macro_rules | `(tactic| walk_at "call builtin:str.replace") => `(tactic| (k_here; (refine SC.replaceW (by ((show @Ne Nat _ _); omega)) (by ((show @Ne Nat _ _); omega)) (by ((show @Ne Nat _ _); omega)) (by decide +kernel) (by omega) (by decide +kernel) ?_); intro t9 k9))
local macro_rules | `(tactic| walk_at "Turn") => `(tactic| ((first | refine Turn.ret ?_ | refine Turn.brk ?_); (try dsimp only); (try k_fold)))
local macro_rules | `(tactic| walk_at "pyIter str") => `(tactic| (refine Hold.out ?_))
local macro_rules | `(tactic| walk_at "exec For Name Name cons nil") => `(tactic| (k_here; (rename Fr _ _ _ _ => lF'); (with_unfolding_all refine' For_invVF lF' ?k1 ?k2 ?_; (case k1 => exact rfl); (case k2 => exact rfl); k_whole)))
local macro_rules | `(tactic| walk_at "exec For Name Attribute cons nil") => `(tactic| (k_here; (rename Fr _ _ _ _ => lF'); (with_unfolding_all refine' For_invVF lF' ?k1 ?k2 ?_; (case k1 => exact rfl); (case k2 => exact rfl); k_whole)))
local macro_rules | `(tactic| walk_at "exec For Name Call cons nil") => `(tactic| (k_here; (rename Fr _ _ _ _ => lF'); (with_unfolding_all refine' For_invVF lF' ?k1 ?k2 ?_; (case k1 => exact rfl); (case k2 => exact rfl); k_whole)))

local macro_rules | `(tactic| walk_at "truthy str") => `(tactic| (refine Hold.out ?_))
local macro_rules | `(tactic| walk_at "delItem ref int") => `(tactic| (refine Hold.out ?_))
local macro_rules | `(tactic| walk_at "call builtin:str.find") => `(tactic| (refine Hold.out ?_))
section
variable {prog : Program} {w : World} {A : Around} {E : Value → Shared → Prop} {s : Shared} {x : Str} {t : Tok} {Q : Bool → Shared → Prop}
theorem truthy_no (hx : x.length = 0) (h : Q false { s with toks := s.toks + 1 + 1 }) : wpAny (model prog w) A (truthy (.str x t)) Q E s :=
  P.truthy_str (by rw [hx]; decide) (by rw [hx]; exact h)
theorem truthy_yes (hx : x.length ≠ 0) (hy : x.length < 1000000) (h : Q true { s with toks := s.toks + 1 + 1 }) : wpAny (model prog w) A (truthy (.str x t)) Q E s :=
  P.truthy_str (by omega) ((show ((x.length : Int) != 0) = true from by rw [bne_iff_ne]; omega) ▸ h)
end
theorem strs_at {vs : List Value} {ys : List Str} (h : StrsAre vs ys) : ∀ {i : Nat} {v : Value}, vs[i]? = some v → ∃ y t, ys[i]? = some y ∧ v = .str y t := by
  induction h with
  | nil => intro i v hv; simp at hv
  | cons y t _ ih =>
    intro i v hv
    cases i with
    | zero => simp at hv; exact ⟨y, t, by simp, hv.symm⟩
    | succ i => simp at hv; obtain ⟨y', t', h1, h2⟩ := ih hv; exact ⟨y', t', by simpa using h1, h2⟩
theorem strs_len {vs : List Value} {ys : List Str} (h : StrsAre vs ys) : vs.length = ys.length := by
  induction h with
  | nil => rfl
  | cons y t _ ih => simp [ih]
theorem drop_at {α : Type} {l : List α} {i : Nat} {a : α} (h : l[i]? = some a) : l.drop i = a :: l.drop (i + 1) := by
  obtain ⟨hi, e⟩ := List.getElem?_eq_some_iff.mp h
  rw [List.drop_eq_getElem_cons hi, e]
theorem strs_ne {vs : List Value} {ys : List Str} {y : Str} (h : StrsAre vs (ys ++ [y])) : vs ≠ [] := fun e => by
  have := strs_len h
  rw [e] at this
  simp at this
theorem strs_dropLast {vs : List Value} {ys : List Str} {y : Str} (h : StrsAre vs (ys ++ [y])) : StrsAre vs.dropLast ys := by
  induction ys generalizing vs with
  | nil =>
    cases h with
    | cons _ t h' => cases h'; exact .nil
  | cons z zs ih =>
    cases h with
    | cons _ t h' =>
      have h2 := ih h'
      have hne := strs_ne h'
      rw [List.dropLast_cons_of_ne_nil hne]
      exact .cons z t h2
theorem ends_le {y z : Str} (h : Txt.endswith y z = true) : z.length ≤ y.length := by
  unfold Txt.endswith at h
  simp only [Bool.and_eq_true, decide_eq_true_eq] at h
  omega
theorem delLast : ∀ {l : List Value} {k : Nat}, l ≠ [] → k + 1 = l.length → ki_delL l k = some l.dropLast
  | [], _, h, _ => absurd rfl h
  | [x], 0, _, _ => rfl
  | x :: y :: r, k + 1, _, hk => by
    have := delLast (l := y :: r) (k := k) (by simp) (by simpa using hk)
    unfold ki_delL
    rw [this]
    rfl
theorem em_spec (w : World) (news : List (Addr × Obj)) (x y : Str) (t u : Tok) (mid : List Str) (last : Str) (hx : x.length < 1000000) (hy : y.length < 1000000) (hmid : mid.length < 999999)
    (hin : (Builtin.Str.occurrences x (Str.ofString "...") 0 x.length 1).isEmpty = false) (hsp : Txt.split x (Str.ofString "...") = Str.empty :: (mid ++ [last])) :
    Gives w 94 1 [.str x t, .str y u] news (fun r tl => tl = [] ∧ r = .bool (emB y mid last)) := by
  w_top off
  unfold Gives
  w_top off
  k_fill
  intro mean mg mb dp un gd cn cs a ccd cl outer A₀ base h₀ L m s Q E B F X N T hk hd hu hret
  refine wpAny_call ?_
  k_dflt ktr_enter
  (rename News _ _ _ _ => nE); have hlt0 := fun p (hp : p ∈ news) => Heap.lt_size (nE p hp).1; revert hlt0 nE; intro nE hlt0
  k_steps
  · refine Hold.mk ?_
    (rename List (Str × Tok) => l); (rename List.map _ l = Txt.split _ _ => hlk); (rename (List.map _ l)[_]? = some _ => hw)
    rw [hsp] at hlk
    rw [hlk] at hw
    have hw' := Option.some.inj hw
    subst hw'
    clear hw
    refine truthy_no rfl ?_
    k_steps
    refine Hold.mk ?_
    have e : (List.map (fun x => x.fst) l).getD (-1 + ((List.map (fun x => x.fst) l).length : Int)).toNat Str.empty = last := by
      rw [hlk]
      have e1 : (-1 + ((Str.empty :: (mid ++ [last])).length : Int)).toNat = mid.length + 1 := by simp only [List.length_cons, List.length_append, List.length_nil]; omega
      rw [e1]
      simp
    simp only [e] at *
    have hal : ∀ a ∈ Str.empty :: (mid ++ [last]), a.length < 1000000 := by
      (rename (∀ a, a ∈ List.map _ l → Str.length a ≤ _) => hal0)
      intro a ha
      have := hal0 a (by rw [hlk]; exact ha)
      omega
    have hlast := hal last (by simp)
    have hstrs : StrsAre (strValues l) (Str.empty :: (mid ++ [last])) := by
      (rename StrsAre _ _ => hst0)
      rw [hlk] at hst0
      exact hst0
    have hlenv := strs_len hstrs
    by_cases h0 : last.length = 0
    · refine truthy_no h0 ?_
      k_steps
      have hR0 : emB y mid last = scan y y.length (Str.empty :: (mid ++ [last])) 0 := by rw [emB, if_pos h0]
      refine Hold.mk ?_
      (rename Fr _ _ _ _ => fF); (rename News _ _ _ _ => fN)
      refine' loop_listC (vs := strValues l) (fun c : Int × Tok => [(Str.ofString "startpos", Value.int c.1 c.2)]) [] (fun i c => ∃ lo : Nat, c.1 = (lo : Int) ∧ scan y y.length ((Str.empty :: (mid ++ [last])).drop i) lo = emB y mid last) ((0 : Int), ?tk0) (by rfl) ?km fF fN ?k1 ?k2 ?_ ?_
      case km => k_mem
      case k1 => kst_all
      case k2 => exact ⟨0, rfl, hR0.symm⟩
      · rintro ⟨c, tc⟩ i vi u2 h tk own hvi hP hoff F1 N1
        obtain ⟨lo, hlo, hsc⟩ := hP
        dsimp only at hlo
        subst hlo
        obtain ⟨wi, ti, hwi, rfl⟩ := strs_at hstrs hvi
        rw [drop_at hwi] at hsc
        have hwl : wi.length < 1000000 := hal wi (List.mem_of_getElem? hwi)
        clear fF fN; dsimp only [kstB] at F1
        k_steps
        refine Hold.mk ?_
        refine call_find4 (Nat.le_refl _) (fun t' k' => ⟨fun hn => ?_, fun p hp => ?_⟩)
        · rw [scan, hn] at hsc
          k_steps
          refine' hret _ [] _ _ ?e1 ?e2 (fun _ h => nomatch h) ⟨rfl, ?e3⟩
          case e1 => assumption
          case e2 => exact cb_drop (by assumption) (by intro p hp; simp only [List.nil_append] at hp; simp [hp])
          case e3 => rw [← hsc]
        · rw [scan, hp] at hsc
          dsimp only at hsc
          k_steps
          refine' Turn.next (_, _) (by assumption) (by assumption) (fun p hp => List.mem_append.mpr (.inr hp)) (fun p hp => List.mem_append.mpr (.inl hp)) hoff ?k1 ?k2 ?k3
          case k1 => kst_all
          case k2 => kst_same
          case k3 => exact ⟨p + wi.length, by simp, hsc⟩
      · rintro ⟨c, tc⟩ u2 h tk hP F1 N1
        obtain ⟨lo, hlo, hsc⟩ := hP
        have hR : emB y mid last = true := by rw [← hsc, hlenv, List.drop_length]; rfl
        clear fF fN; dsimp only [kstB] at F1
        k_steps
        refine' hret _ [] _ _ ?e1 ?e2 (fun _ h => nomatch h) ⟨rfl, ?e3⟩
        case e1 => assumption
        case e2 => exact cb_drop (by assumption) (by intro p hp; simp only [List.nil_append] at hp; simp [hp])
        case e3 => rw [hR]
    · refine truthy_yes h0 hlast ?_
      k_steps
      · refine Hold.mk ?_
        (rename Txt.endswith y last = true => hew)
        have hle : last.length ≤ y.length := ends_le hew
        have hR0 : emB y mid last = scan y (y.length - last.length) (Str.empty :: mid) 0 := by rw [emB, if_neg h0, hew, Bool.true_and]
        have hstrs2 : StrsAre (strValues l).dropLast (Str.empty :: mid) := strs_dropLast (ys := Str.empty :: mid) hstrs
        have hlenv2 := strs_len hstrs2
        have e2 : ((y.length : Int) - (last.length : Int)) = ((y.length - last.length : Nat) : Int) := by omega
        simp only [e2] at *
        have hne0 : strValues l ≠ [] := by intro h; rw [h] at hlenv; simp at hlenv
        have hbig : (strValues l).length ≤ 1000001 := by
          rw [hlenv]
          simp only [List.length_cons, List.length_append, List.length_nil]
          omega
        k_dflt (refine' ki_del ?F ?N ?f ?k ?e ?U ?z ?_)
        case F => k_asm
        case N => k_asm
        case U => exact Upd.tail (by k_ne) (Upd.head (fun p hp => Nat.ne_of_lt (hlt0 p hp)))
        case f => rfl
        case k => exact StrLaws.seqIndex_neg (by decide) (by have := List.length_pos_iff.mpr hne0; simp only [List.size_toArray]; omega)
        case e => exact delLast hne0 (by simp only [List.size_toArray]; have := List.length_pos_iff.mpr hne0; omega)
        case z => (show (strValues l).toArray.toList.length ≤ _); rw [sizeLine_eq]; simp only [List.toList_toArray]; omega
        intro h' F' N'
        k_steps
        refine Hold.mk ?_
        (rename Fr _ _ _ _ => fF); (rename News _ _ _ _ => fN)
        refine' loop_listC (vs := (strValues l).dropLast) (fun c : Int × Tok => [(Str.ofString "startpos", Value.int c.1 c.2)]) [] (fun i c => ∃ lo : Nat, c.1 = (lo : Int) ∧ scan y (y.length - last.length) ((Str.empty :: mid).drop i) lo = emB y mid last) ((0 : Int), ?tk0) (by rfl) ?km fF fN ?k1 ?k2 ?_ ?_
        case km => k_mem
        case k1 => kst_all
        case k2 => exact ⟨0, rfl, hR0.symm⟩
        · rintro ⟨c, tc⟩ i vi u2 h tk own hvi hP hoff F1 N1
          obtain ⟨lo, hlo, hsc⟩ := hP
          dsimp only at hlo
          subst hlo
          obtain ⟨wi, ti, hwi, rfl⟩ := strs_at hstrs2 hvi
          rw [drop_at hwi] at hsc
          have hwl : wi.length < 1000000 := hal wi (by have := List.mem_of_getElem? hwi; simp at this ⊢; rcases this with h | h <;> simp [h])
          clear fF fN; dsimp only [kstB] at F1
          k_steps
          refine Hold.mk ?_
          refine call_find4 (Nat.sub_le _ _) (fun t' k' => ⟨fun hn => ?_, fun p hp => ?_⟩)
          · rw [scan, hn] at hsc
            k_steps
            refine' hret _ [] _ _ ?e1 ?e2 (fun _ h => nomatch h) ⟨rfl, ?e3⟩
            case e1 => assumption
            case e2 => exact cb_drop (by assumption) (by intro p hp; simp only [List.nil_append] at hp; simp [hp])
            case e3 => rw [← hsc]
          · rw [scan, hp] at hsc
            dsimp only at hsc
            k_steps
            refine' Turn.next (_, _) (by assumption) (by assumption) (fun p hp => List.mem_append.mpr (.inr hp)) (fun p hp => List.mem_append.mpr (.inl hp)) hoff ?k1 ?k2 ?k3
            case k1 => kst_all
            case k2 => kst_same
            case k3 => exact ⟨p + wi.length, by simp, hsc⟩
        · rintro ⟨c, tc⟩ u2 h tk hP F1 N1
          obtain ⟨lo, hlo, hsc⟩ := hP
          have hR : emB y mid last = true := by rw [← hsc, hlenv2, List.drop_length]; rfl
          clear fF fN; dsimp only [kstB] at F1
          k_steps
          refine' hret _ [] _ _ ?e1 ?e2 (fun _ h => nomatch h) ⟨rfl, ?e3⟩
          case e1 => assumption
          case e2 => exact cb_drop (by assumption) (by intro p hp; simp only [List.nil_append] at hp; simp [hp])
          case e3 => rw [hR]
      · have hR0 : emB y mid last = false := by
          (rename Txt.endswith y last = false => hew)
          rw [emB, if_neg h0, hew, Bool.false_and]
        refine' hret _ [] _ _ ?e1 ?e2 (fun _ h => nomatch h) ⟨rfl, ?e3⟩
        case e1 => assumption
        case e2 => exact cb_drop (by assumption) (by intro p hp; simp only [List.nil_append] at hp; simp [hp])
        case e3 => rw [hR0]
  · exfalso
    (rename List (Str × Tok) => l); (rename List.map _ l = Txt.split _ _ => hlk); (rename ¬ (2 ≤ (List.length _ : Int)) => h2)
    have := congrArg List.length hlk
    rw [hsp] at this
    simp only [List.length_map, List.length_cons, List.length_append, List.length_nil] at this
    omega
end Mine
end
section
open PySem PySem.W PyProof.Rows
set_option Elab.async false
set_option maxRecDepth 100000
set_option maxHeartbeats 8000000
set_option pp.maxSteps 20000
namespace Mine
local macro_rules | `(tactic| walk_at "pyIter ref") => `(tactic| (refine Hold.out ?_))
local macro_rules | `(tactic| walk_at "call builtin:str.replace") => `(tactic| (k_here; (refine SC.replaceW (by ((show @Ne Nat _ _); omega)) (by ((show @Ne Nat _ _); omega)) (by ((show @Ne Nat _ _); omega)) (by decide +kernel) (by omega) (by decide +kernel) ?_); intro t9 k9))
local macro_rules | `(tactic| walk_at "call type:tuple") => `(tactic| (k_here; (with_reducible show wpAny _ _ (call (Value.type _) [Value.ref _]) _ _ _); k_dflt (refine' kde_tupleOf ?k1 ?k2 ?k3 ?k4 ?k5 ?_; (case k1 => k_asm); (case k2 => k_asm); (case k3 => exact News.isList (by k_asm) (by k_mem)); (case k4 => (simp only [List.size_toArray]; omega)); (case k5 => exact rfl); k_whole); intro D' h' F' N' l1; (try k_lt l1); (try k_sweep)))
local macro_rules | `(tactic| k_all) => `(tactic| assumption)
local macro_rules | `(tactic| walk_at "Turn") => `(tactic| ((first | refine Turn.ret ?_ | refine Turn.brk ?_); (try dsimp only); (try k_fold)))
local macro_rules | `(tactic| walk_at "pyIter str") => `(tactic| (refine Hold.out ?_))
local macro_rules | `(tactic| walk_at "exec For Name Name cons nil") => `(tactic| (k_here; (rename Fr _ _ _ _ => lF'); (with_unfolding_all refine' For_invVF lF' ?k1 ?k2 ?_; (case k1 => exact rfl); (case k2 => exact rfl); k_whole)))
local macro_rules | `(tactic| walk_at "exec For Name Attribute cons nil") => `(tactic| (k_here; (rename Fr _ _ _ _ => lF'); (with_unfolding_all refine' For_invVF lF' ?k1 ?k2 ?_; (case k1 => exact rfl); (case k2 => exact rfl); k_whole)))
local macro_rules | `(tactic| walk_at "exec For Name Call cons nil") => `(tactic| (k_here; (rename Fr _ _ _ _ => lF'); (with_unfolding_all refine' For_invVF lF' ?k1 ?k2 ?_; (case k1 => exact rfl); (case k2 => exact rfl); k_whole)))

theorem init_spec (w : World) (news : List (Addr × Obj)) (tl : List Nat) (c : Nat) (rest : List Nat) (t : Tok) (hx : (tl ++ c :: rest).length < 10000) (htl : ∀ k ∈ tl, k = 32 ∨ k = 9) (hc : c ≠ 32 ∧ c ≠ 9) :
    Gives w 83 3 [.str (S (tl ++ c :: rest)) t] news (fun r tl' => WhiteAt w tl' r (wsOf tl)) := by
  w_top off
  unfold Gives
  w_top off
  k_fill
  intro mean mg mb dp un gd cn cs a ccd cl outer A₀ base h₀ L m s Q E B F X N T hk hd hu hret
  k_dflt (refine' call_cls ?k1 ?k2 ?k3 ?k4 ?k5 ?k6 ?_; (case k1 => k_asm); (case k2 => k_asm); (case k3 => k_asm); (case k4 => k_is); (case k5 => k_is); (case k6 => k_is))
  intro x' d' h' F' N' l1 l2
  have l2n : @LT.lt Nat _ d' x' := l2
  k_dflt ktr_enter
  k_steps
  refine Hold.mk ?_
  (rename Fr _ _ _ _ => fF); (rename News _ _ _ _ => fN)
  have fN2 := ledger_keep fN
  refine' loop_str (fun c : ISt => (c.cl, listOf c.vs.toArray c.nn) :: (x', instObj 83 d') :: (d', _) :: news) (fun c : ISt => [(Str.ofString "count", Value.ref c.cl), (Str.ofString "b", Value.int c.b c.tb), (Str.ofString "n", Value.int c.n c.tn), (Str.ofString "nt", Value.int c.nt c.tt)]) []
    (fun i c => i ≤ tl.length ∧ c.b = ((wsOf (tl.take i)).b : Int) ∧ c.n = ((wsOf (tl.take i)).n : Int) ∧ c.nt = ((wsOf (tl.take i)).nt : Int) ∧ IntsAre c.vs ((wsOf (tl.take i)).cs.map fun (k : Nat) => (k : Int)) ∧ @LT.lt Nat _ x' c.cl)
    (ISt.mk ?cl0 [] 0 0 0 0 ?tb ?tn ?tt) (by rfl) fF fN2 ?k1 ?k2 ?_ ?_
  case k1 => kst_all
  case k2 => exact ⟨Nat.zero_le _, rfl, rfl, rfl, .nil, by (show @LT.lt Nat _ x' _); dsimp only; omega⟩
  · rintro ⟨cl, vs, nn, b, n, nt, tb, tn, tt⟩ i k tk1 u h tk own hk hP hoff F1 N1
    dsimp only at hP hoff F1 N1
    obtain ⟨hi, rfl, rfl, rfl, hI, hcl⟩ := hP
    obtain ⟨sb, sn, snt, scs⟩ := wsOf_small (tl.take i)
    clear fF fN fN2; dsimp only [kstB] at F1; simp only [List.cons_append] at N1
    have hvl : vs.length = (wsOf (tl.take i)).cs.length := by simpa using hI.length
    have hx2 : tl.length < 10000 := by simp only [List.length_append] at hx; omega
    have hi2 : (tl.take i).length ≤ i := List.length_take_le ..
    have hall1 : ∀ p ∈ news ++ own, p.1 ≠ cl := fun p hp => (List.mem_append.mp hp).elim (fun h => Nat.ne_of_lt (Nat.lt_trans (l1 p h) (Nat.lt_trans l2 hcl))) (fun h => hoff p h _ (.head _))
    have hall2 : ∀ p ∈ news ++ own, p.1 ≠ d' := fun p hp => (List.mem_append.mp hp).elim (fun h => Nat.ne_of_lt (l1 p h)) (fun h => hoff p h _ (.tail _ (.tail _ (.head _))))
    k_steps
    · (rename ((_ : Str) == _) = true => hq)
      rw [one_eq S_blank, decide_eq_true_eq] at hq
      subst hq
      rcases at_text hk hi with ⟨hlt, _, htk⟩ | ⟨_, rfl⟩
      · (rename News _ _ _ _ => nE)
        refine Turn.next (ISt.mk _ _ _ _ _ _ _ _ _) (by assumption) nE (fun p hp => by simp [hp]) (List.forall_mem_cons.mpr ⟨.head _, fun p hp => by (simp only [List.mem_cons, List.mem_append] at hp ⊢; rcases hp with h | h | h <;> simp [h])⟩) hoff (by kst_all) ?h5 ?h6
        case h5 => kst_same
        case h6 => rw [htk, wsOf_snoc]; exact ⟨hlt, rfl, rfl, rfl, hI, hcl⟩
      · exact absurd rfl hc.1
    · (rename News _ _ _ _ => fN)
      k_dflt (refine' ksa_set ?k1 ?k2 ?k3 ?k4 ?k5 ?k6 ?k7 ?_)
      case k1 => k_asm
      case k2 => k_asm
      case k4 => with_reducible assumption
      case k3 => exact Upd.head (by first | k_all | (refine' List.forall_mem_cons.mpr ⟨by k_ne, List.forall_mem_cons.mpr ⟨by k_ne, List.forall_mem_cons.mpr ⟨by k_ne, List.forall_mem_cons.mpr ⟨by k_ne, List.forall_mem_cons.mpr ⟨by k_ne, ?_⟩⟩⟩⟩⟩; exact fun p hp => Nat.ne_of_lt (ktn_ltOf (by with_reducible (first | assumption | omega)) p hp)))
      case k5 => omega
      case k6 => simp; omega
      case k7 => omega
      intro h' F' N' hi' hl' hs'
      k_steps
      (rename ((_ : Str) == Str.ofString "\t") = true => hq)
      rw [one_eq S_tab, decide_eq_true_eq] at hq
      subst hq
      rcases at_text hk hi with ⟨hlt, _, htk⟩ | ⟨_, rfl⟩
      · (rename ((List.length (List.map _ (wsOf (List.take i tl)).cs) : Int) ≤ _) => hJ)
        (rename News _ _ _ _ => nE)
        refine Turn.next (ISt.mk _ _ _ _ _ _ _ _ _) (by assumption) nE (fun p hp => by simp [hp]) (List.forall_mem_cons.mpr ⟨.head _, fun p hp => by (simp only [List.mem_cons, List.mem_append] at hp ⊢; rcases hp with h | h | h <;> simp [h])⟩) ?h3 (by kst_all) ?h5 ?h6
        case h3 => intro p hp q hq; dsimp only at hq; exact own_off hoff (fun p hp => Nat.ne_of_lt (ktn_ltOf (by with_reducible (rename (_ ∧ _ ∧ _ ∧ _ ∧ _ ∧ AllLt _ _) => hL); exact hL.2.2.2.2.2) p (List.mem_append.mpr (.inr hp)))) p hp q hq
        case h5 => kst_same
        case h6 =>
          rw [htk, wsOf_snoc]
          refine ⟨hlt, rfl, rfl, rfl, ?_, by (show @LT.lt Nat _ x' _); dsimp only; omega⟩
          rw [bump_pad (by simpa using hJ)] at hi'
          exact hi'
      · exact absurd rfl hc.2
    · (rename ((_ : Str) == Str.ofString "\t") = true => hq)
      rw [one_eq S_tab, decide_eq_true_eq] at hq
      subst hq
      rcases at_text hk hi with ⟨hlt, _, htk⟩ | ⟨_, rfl⟩
      · (rename IntsAre (List.set _ _ _) _ => hi'); (rename ¬ ((List.length (List.map _ (wsOf (List.take i tl)).cs) : Int) ≤ _) => hJ)
        (rename News _ _ _ _ => nE)
        refine Turn.next (ISt.mk _ _ _ _ _ _ _ _ _) (by assumption) nE (fun p hp => by simp [hp]) (List.forall_mem_cons.mpr ⟨.head _, fun p hp => by (simp only [List.mem_cons, List.mem_append] at hp ⊢; rcases hp with h | h | h <;> simp [h])⟩) ?h3 (by kst_all) ?h5 ?h6
        case h3 =>
          intro p hp q hq
          have h1 : p.1 ≠ cl := hoff p hp _ (.head _)
          rcases List.mem_cons.mp hq with h | h
          · rw [h]; exact h1
          · exact hoff p hp q (.tail _ h)
        case h5 => kst_same
        case h6 =>
          rw [htk, wsOf_snoc]
          refine ⟨hlt, rfl, rfl, rfl, ?_, hcl⟩
          rw [bump_no (by simpa using hJ)] at hi'
          exact hi'
      · exact absurd rfl hc.2
    · (rename ((_ : Str) == Str.ofString "\t") = false => hq2); (rename ((_ : Str) == Str.ofString " ") = false => hq1)
      rw [one_eq S_tab, decide_eq_false_iff_not] at hq2
      rw [one_eq S_blank, decide_eq_false_iff_not] at hq1
      rcases at_text hk hi with ⟨_, hmem, _⟩ | ⟨hi3, _⟩
      · exact absurd (htl k hmem) (by simp [hq1, hq2])
      · subst hi3
        (rename News _ _ _ _ => nE)
        refine hret _ [_, _, _, _] _ _ (by assumption) (cb_drop nE (r4 (.head _) (.tail _ (.head _)) (.tail _ (.tail _ (.tail _ (.head _)))) (.tail _ (.tail _ (.tail _ (.tail _ (.head _)))))
          (fun p hp => .tail _ (.tail _ (.tail _ (.tail _ (.tail _ (List.mem_append.mpr (.inl hp))))))))) ?ho ?hw
        case ho =>
          have hn1 : ∀ q ∈ news, @LT.lt Nat _ q.1 d' := l1
          refine r4 ?_ ?_ ?_ ?_ (fun p hp => nomatch hp)
          all_goals (intro q hq; have := hn1 q hq; (show @LT.lt Nat _ _ _); dsimp only; omega)
        case hw =>
          rw [List.take_length] at hI
          exact ⟨x', d', _, _, _, vs, _, _, _, _, _, _, _, _, rfl, .tail _ (.tail _ (.head _)), .tail _ (.tail _ (.tail _ (by rw [List.take_length]; exact .head _))), by rw [List.take_length]; exact .head _, .tail _ (.head _), hI⟩
  · rintro ⟨cl, vs, nn, b, n, nt, tb, tn, tt⟩ u h tk hP F1 N1
    exfalso
    have := hP.1
    simp [S] at this
    omega
end Mine
end
section
open PySem PySem.W PyProof.Rows
set_option maxRecDepth 100000
namespace Mine
open Builtin Builtin.Str
/-- w stands at place i of y, up to hi -/
theorem at_iff (y w : List Nat) (hi i : Nat) : StrLaws.At (S y) (S w) hi i ↔ (i + w.length ≤ hi ∧ (y.drop i).take w.length = w) := by
  unfold StrLaws.At
  rw [StrLaws.subAt_eq, S_len]
  simp [S]
/-- find by plain lists -/
theorem find_none {y w : List Nat} {lo hi : Nat} (h : ∀ i, lo ≤ i → i + w.length ≤ hi → (y.drop i).take w.length ≠ w) : findF (S y) (S w) lo hi = none := by
  rcases findF_spec (S y) (S w) lo hi with ⟨h1, _⟩ | ⟨i, _, h2, h3, _⟩
  · exact h1
  · rw [at_iff] at h3
    exact absurd h3.2 (h i h2 h3.1)
theorem find_some {y w : List Nat} {lo hi p : Nat} (hlo : lo ≤ p) (hp : p + w.length ≤ hi) (hw : (y.drop p).take w.length = w) (h : ∀ i, lo ≤ i → i < p → (y.drop i).take w.length ≠ w) : findF (S y) (S w) lo hi = some p := by
  rcases findF_spec (S y) (S w) lo hi with ⟨_, h2⟩ | ⟨i, h1, h2, h3, h4⟩
  · exact absurd ((at_iff y w hi p).mpr ⟨hp, hw⟩) (h2 p hlo)
  · rw [at_iff] at h3
    rcases Nat.lt_trichotomy i p with hl | hl | hl
    · exact absurd h3.2 (h i h2 hl)
    · rw [h1, hl]
    · exact absurd ((at_iff y w hi p).mpr ⟨hp, hw⟩) (h4 p hlo hl)
/-- the dots are found -/
theorem dots_in (r : List Nat) : (occurrences (S (dots ++ r)) (Str.ofString "...") 0 (S (dots ++ r)).length 1).isEmpty = false := by
  rw [S_dots]
  have h := (StrLaws.found_iff (S (dots ++ r)) (S dots)).mpr ⟨0, by rw [S_len, S_len]; simp, ((at_iff _ _ (S (dots ++ r)).length 0).mpr ⟨by rw [S_len]; simp, by simp⟩).2⟩
  simpa using h
/-- texts with the dots between -/
def joinD : List (List Nat) → List Nat
  | [] => []
  | [p] => p
  | p :: q :: r => p ++ dots ++ joinD (q :: r)
theorem at_first {x w : List Nat} {hi k c : Nat} {t : List Nat} (e : w = c :: t) (h : StrLaws.At (S x) (S w) hi k) : x[k]? = some c := by
  rw [at_iff, e] at h
  have h2 := congrArg (fun l => l[0]?) h.2
  simp at h2
  exact h2
theorem strSub_S (x : List Nat) (i j : Nat) : strSub (S x) i j = S ((x.drop i).take (j - i)) := by
  rw [S_of (strSub (S x) i j), StrLaws.strSub_toList]
  rfl
theorem parts_join : ∀ (ps : List (List Nat)) (pre : List Nat) (cuts : List Nat) (x : List Nat) (f : Nat), ps ≠ [] → (∀ p ∈ ps, 46 ∉ p) → x = pre ++ joinD ps → StrLaws.ChainG (S x) (S dots) (S x).length pre.length cuts f →
    (∀ k, f ≤ k → ¬ StrLaws.At (S x) (S dots) (S x).length k) → StrLaws.partsFrom (S x) 3 pre.length cuts = ps.map S
  | [], _, _, _, _, h, _, _, _, _ => absurd rfl h
  | [p], pre, cuts, x, f, _, hf, hx, hc, hend => by
    subst hx
    have hno : ∀ k, pre.length ≤ k → ¬ StrLaws.At (S (pre ++ p)) (S dots) (S (pre ++ p)).length k := by
      intro k hk h
      have h1 := at_first rfl h
      rw [List.getElem?_append_right hk] at h1
      exact hf p (by simp) (List.mem_of_getElem? h1)
    cases cuts with
    | nil =>
      show [strSub _ _ _] = [S p]
      rw [strSub_S, S_len]
      show [S (((pre ++ p).drop pre.length).take _)] = _
      rw [List.drop_left]
      simp only [joinD, List.length_append, Nat.add_sub_cancel_left, List.take_length]
    | cons c r => exact absurd hc.2.1 (hno c hc.1)
  | p :: q :: r, pre, cuts, x, f, _, hf, hx, hc, hend => by
    subst hx
    have hat : StrLaws.At (S (pre ++ (p ++ dots ++ joinD (q :: r)))) (S dots) (S (pre ++ (p ++ dots ++ joinD (q :: r)))).length (pre.length + p.length) := by
      rw [at_iff, S_len]
      refine ⟨by simp only [List.length_append]; omega, ?_⟩
      rw [← List.length_append, ← List.append_assoc, ← List.append_assoc, List.append_assoc (pre ++ p) dots, List.drop_left, List.take_left]
    have hno : ∀ k, pre.length ≤ k → k < pre.length + p.length → ¬ StrLaws.At (S (pre ++ (p ++ dots ++ joinD (q :: r)))) (S dots) (S (pre ++ (p ++ dots ++ joinD (q :: r)))).length k := by
      intro k hk hk2 h
      have h1 := at_first rfl h
      rw [List.getElem?_append_right hk, List.append_assoc, List.getElem?_append_left (by omega)] at h1
      exact hf p (by simp) (List.mem_of_getElem? h1)
    cases cuts with
    | nil =>
      have : f = pre.length := hc
      exact absurd hat (hend _ (by omega))
    | cons c r' =>
      obtain ⟨h1, h2, h3, h4⟩ := hc
      have hce : c = pre.length + p.length := by
        rcases Nat.lt_trichotomy c (pre.length + p.length) with h | h | h
        · exact absurd h2 (hno c h1 h)
        · exact h
        · exact absurd hat (h3 _ (by omega) h)
      subst hce
      show strSub _ _ _ :: StrLaws.partsFrom _ 3 _ r' = S p :: (q :: r).map S
      have hl : (S dots).length = 3 := by rw [S_len]; rfl
      rw [hl] at h4
      have e1 : pre.length + p.length + 3 = (pre ++ p ++ dots).length := by simp [dots]; omega
      rw [strSub_S]
      refine congr (congrArg List.cons ?_) ?_
      · congr 1
        simp only [joinD]
        rw [List.drop_left, Nat.add_sub_cancel_left, List.append_assoc, List.take_left]
      · have hx2 : pre ++ joinD (p :: q :: r) = (pre ++ p ++ dots) ++ joinD (q :: r) := by simp only [joinD, List.append_assoc]
        rw [e1]
        rw [e1] at h4
        exact parts_join (q :: r) (pre ++ p ++ dots) r' _ f (by simp) (fun z hz => hf z (.tail _ hz)) hx2 h4 hend
theorem kind_pos (x : Str) : 1 ≤ Str.strKind x := by
  unfold Str.strKind
  split
  · decide
  · split <;> decide
theorem split_join {p q : List Nat} {r : List (List Nat)} (hf : ∀ z ∈ p :: q :: r, 46 ∉ z) : Txt.split (S (joinD (p :: q :: r))) (Str.ofString "...") = (p :: q :: r).map S := by
  rw [S_dots]
  have hlen : (S dots).length = 3 := by rw [S_len]; rfl
  obtain ⟨f, hc, hend⟩ := StrLaws.occ_tight (S (joinD (p :: q :: r))) (S dots) (by rw [hlen]; decide)
  have hxl : 3 ≤ (S (joinD (p :: q :: r))).length := by rw [S_len]; simp only [joinD, List.length_append, dots, List.length_cons, List.length_nil]; omega
  have h1 : (decide ((S (joinD (p :: q :: r))).length < (S dots).length) || decide (strKind (S (joinD (p :: q :: r))) < strKind (S dots))) = false := by
    have hk : strKind (S dots) = 1 := by decide +kernel
    have hk2 : 1 ≤ Str.strKind (S (joinD (p :: q :: r))) := kind_pos _
    rw [hlen, hk, decide_eq_false (by omega), decide_eq_false (by omega)]
    rfl
  have hparts := parts_join (p :: q :: r) [] _ _ f (by simp) hf rfl hc hend
  unfold Txt.split
  rw [h1]
  simp only [Bool.false_eq_true, if_false]
  rw [StrLaws.partsBetween_eq, hlen]
  have hne : (occurrences (S (joinD (p :: q :: r))) (S dots) 0 (S (joinD (p :: q :: r))).length ((S (joinD (p :: q :: r))).length + 1)).isEmpty = false := by
    cases ho : occurrences (S (joinD (p :: q :: r))) (S dots) 0 (S (joinD (p :: q :: r))).length ((S (joinD (p :: q :: r))).length + 1) with
    | nil =>
      rw [ho] at hparts
      have := congrArg List.length hparts
      simp [StrLaws.partsFrom] at this
    | cons a b => rfl
  rw [hne]
  simp only [Bool.false_eq_true, if_false]
  exact hparts
end Mine
end
section
open PySem PySem.W PyProof.Rows
set_option maxRecDepth 100000
namespace Mine
open Builtin Builtin.Str
theorem joinD_end : ∀ ps : List (List Nat), joinD (ps ++ [[]]) = (ps.map (· ++ dots)).flatten
  | [] => rfl
  | [p] => by simp [joinD]
  | p :: q :: r => by
    have ih := joinD_end (q :: r)
    show p ++ dots ++ joinD (q :: r ++ [[]]) = _
    rw [ih]
    simp
theorem findF_skip {y w : List Nat} {lo lo' hi : Nat} (hle : lo ≤ lo') (h : ∀ i, lo ≤ i → i < lo' → (y.drop i).take w.length ≠ w) : findF (S y) (S w) lo hi = findF (S y) (S w) lo' hi := by
  rcases findF_spec (S y) (S w) lo' hi with ⟨h1, h2⟩ | ⟨i, h1, h2, h3, h4⟩
  · rw [h1]
    refine find_none fun i hi1 hi2 hw => ?_
    by_cases hl : i < lo'
    · exact h i hi1 hl hw
    · exact h2 i (by omega) ((at_iff _ _ _ _).mpr ⟨hi2, hw⟩)
  · rw [h1]
    rw [at_iff] at h3
    refine find_some (by omega) h3.1 h3.2 fun k hk1 hk2 hw => ?_
    by_cases hl : k < lo'
    · exact h k hk1 hl hw
    · exact h4 k (by omega) hk2 ((at_iff _ _ _ _).mpr ⟨by omega, hw⟩)
theorem findF_nil (y : Str) (lo hi : Nat) (h : lo ≤ hi) : findF y Str.empty lo hi = some lo := by
  rcases findF_spec y Str.empty lo hi with ⟨_, h2⟩ | ⟨i, h1, h2, _, h4⟩
  · exact absurd ⟨by simpa [Str.empty, Str.length] using h, by rw [StrLaws.subAt_eq]; simp [Str.empty, Str.length]⟩ (h2 lo (Nat.le_refl _))
  · rcases Nat.lt_or_ge lo i with hl | hl
    · exact absurd ⟨by simpa [Str.empty, Str.length] using h, by rw [StrLaws.subAt_eq]; simp [Str.empty, Str.length]⟩ (h4 lo (Nat.le_refl _) hl)
    · rw [h1]; congr 1; omega
theorem S_empty : S [] = Str.empty := rfl
/-- a run of a lead with its bar ahead -/
def seg (r : Nat) : List Nat := 124 :: (List.replicate r 32 ++ [9])
theorem repT_blanks (n : Nat) : repT (List.replicate n 32) = List.replicate n 32 := repT_free _ (fun h => by have := List.eq_of_mem_replicate h; omega)
theorem barT_segs (closed : List Nat) (behind : Nat) : barT closed behind = (closed.map seg).flatten ++ (124 :: List.replicate behind 32) := by
  have key : ∀ closed : List Nat, 124 :: repT (runsText closed) = (closed.map seg).flatten ++ [124] := by
    intro closed
    induction closed with
    | nil => rfl
    | cons r rs ih =>
      simp only [runsText, List.map_cons, List.flatten_cons]
      rw [repT_app, repT_app, repT_blanks]
      have e : repT [9] = [9, 124] := rfl
      rw [e]
      have e2 : (seg r ++ (rs.map seg).flatten) ++ [124] = seg r ++ ((rs.map seg).flatten ++ [124]) := by simp
      rw [e2, ← ih]
      simp [seg]
  unfold barT textT
  rw [repT_app, repT_blanks, ← List.cons_append, key closed]
  simp
end Mine
end
section
open PySem PySem.W PyProof.Rows
set_option maxRecDepth 100000
namespace Mine
open Builtin Builtin.Str
theorem seg_len (r : Nat) : (seg r).length = r + 2 := by simp [seg]
/-- the sign at a place of a run -/
theorem seg_at {r i c : Nat} (h : (seg r)[i]? = some c) : (i = 0 ∧ c = 124) ∨ (0 < i ∧ i < r + 1 ∧ c = 32) ∨ (i = r + 1 ∧ c = 9) := by
  cases i with
  | zero => simp [seg] at h; exact .inl ⟨rfl, h.symm⟩
  | succ i =>
    simp only [seg, List.getElem?_cons_succ] at h
    by_cases hl : i < r
    · rw [List.getElem?_append_left (by simpa using hl), List.getElem?_replicate, if_pos hl] at h
      exact .inr (.inl ⟨by omega, by omega, (Option.some.inj h).symm⟩)
    · rw [List.getElem?_append_right (by simp; omega)] at h
      simp only [List.length_replicate] at h
      have hi : i - r = 0 := by
        have := (List.getElem?_eq_some_iff.mp h).1
        simp at this
        omega
      rw [hi] at h
      simp at h
      exact .inr (.inr ⟨by omega, h.symm⟩)
theorem take_get {y w : List Nat} {i : Nat} (h : (y.drop i).take w.length = w) {k c : Nat} (hk : w[k]? = some c) : y[i + k]? = some c := by
  have hk2 := (List.getElem?_eq_some_iff.mp hk).1
  rw [← h, List.getElem?_take, if_pos hk2, List.getElem?_drop] at hk
  exact hk
/-- a run found behind a run of another length: not within it -/
theorem seg_not {pre post : List Nat} {c r : Nat} (hcr : c ≠ r) : ∀ i, pre.length ≤ i → i < pre.length + (c + 2) → ((pre ++ (seg c ++ post)).drop i).take (seg r).length ≠ seg r := by
  intro i h1 h2 hw
  have h0 := take_get hw (k := 0) (c := 124) rfl
  have hsg : ∀ k, k < c + 2 → (pre ++ (seg c ++ post))[pre.length + k]? = (seg c)[k]? := by
    intro k hk
    rw [List.getElem?_append_right (by omega), Nat.add_sub_cancel_left, List.getElem?_append_left (by rw [seg_len]; exact hk)]
  obtain ⟨k, rfl⟩ : ∃ k, i = pre.length + k := ⟨i - pre.length, by omega⟩
  rw [Nat.add_zero, hsg k (by omega)] at h0
  have hk0 : k = 0 := by
    rcases seg_at h0 with h | h | h
    · exact h.1
    · omega
    · omega
  subst hk0
  -- the tab's place
  have h9 : (seg r)[r + 1]? = some 9 := by
    simp [seg]
  have h9c : (seg c)[c + 1]? = some 9 := by simp [seg]
  rcases Nat.lt_or_ge r c with hl | hl
  · have := take_get hw h9
    rw [Nat.add_zero, hsg _ (by omega)] at this
    rcases seg_at this with h | h | h <;> omega
  · have hb : (seg r)[c + 1]? = some 32 := by
      simp only [seg, List.getElem?_cons_succ]
      rw [List.getElem?_append_left (by simp; omega), List.getElem?_replicate, if_pos (by omega)]
    have := take_get hw hb
    rw [Nat.add_zero, hsg _ (by omega), h9c] at this
    simp at this
theorem tail_no9 {pre w : List Nat} {b k : Nat} (hk : w[k]? = some 9) : ∀ i, pre.length ≤ i → ((pre ++ (124 :: List.replicate b 32)).drop i).take w.length ≠ w := by
  intro i h1 hw
  have h9 := take_get hw hk
  rw [List.getElem?_append_right (by omega)] at h9
  have := List.mem_of_getElem? h9
  simp at this
theorem scan_segs (r b : Nat) : ∀ (closed : List Nat) (pre : List Nat) (n : Nat),
    scan (S (pre ++ ((closed.map seg).flatten ++ (124 :: List.replicate b 32)))) (pre ++ ((closed.map seg).flatten ++ (124 :: List.replicate b 32))).length (List.replicate n (S (seg r)) ++ [Str.empty]) pre.length = decide (n ≤ closed.count r)
  | closed, pre, 0 => by
    simp only [List.replicate_zero, List.nil_append, scan]
    rw [findF_nil _ _ _ (by simp only [List.length_append]; omega)]
    simp [scan]
  | [], pre, n + 1 => by
    rw [List.replicate_succ, List.cons_append, scan]
    simp only [List.map_nil, List.flatten_nil, List.nil_append]
    rw [find_none (fun i h1 _ => tail_no9 (k := r + 1) (by simp [seg]) i h1)]
    simp
  | c :: cs, pre, n + 1 => by
    have ey : pre ++ (((c :: cs).map seg).flatten ++ (124 :: List.replicate b 32)) = (pre ++ seg c) ++ ((cs.map seg).flatten ++ (124 :: List.replicate b 32)) := by simp
    have ey2 : pre ++ (((c :: cs).map seg).flatten ++ (124 :: List.replicate b 32)) = pre ++ (seg c ++ ((cs.map seg).flatten ++ (124 :: List.replicate b 32))) := by simp
    by_cases hcr : c = r
    · subst hcr
      rw [List.replicate_succ, List.cons_append, scan]
      rw [find_some (p := pre.length) (Nat.le_refl _) (by rw [ey2]; simp only [List.length_append]; omega) (by rw [ey2, List.drop_left, List.take_left]) (fun i h1 h2 => absurd h2 (by omega))]
      show scan _ _ _ (pre.length + (S (seg c)).length) = _
      rw [S_len, ← List.length_append, ey, scan_segs c b cs (pre ++ seg c) n]
      rw [List.count_cons_self]
      simp
    · have hskip : scan (S (pre ++ (((c :: cs).map seg).flatten ++ (124 :: List.replicate b 32)))) (pre ++ (((c :: cs).map seg).flatten ++ (124 :: List.replicate b 32))).length (List.replicate (n + 1) (S (seg r)) ++ [Str.empty]) pre.length
          = scan (S (pre ++ (((c :: cs).map seg).flatten ++ (124 :: List.replicate b 32)))) (pre ++ (((c :: cs).map seg).flatten ++ (124 :: List.replicate b 32))).length (List.replicate (n + 1) (S (seg r)) ++ [Str.empty]) (pre ++ seg c).length := by
        rw [List.replicate_succ, List.cons_append, scan, scan]
        rw [findF_skip (lo' := (pre ++ seg c).length) (by simp) (fun i h1 h2 => by rw [ey2]; exact seg_not hcr i h1 (by rw [List.length_append, seg_len] at h2; exact h2))]
      rw [hskip, ey, scan_segs r b cs (pre ++ seg c) (n + 1)]
      rw [List.count_cons_of_ne (by simpa using hcr)]
theorem scan_tabs (b : Nat) : ∀ (closed : List Nat) (pre : List Nat) (n : Nat),
    scan (S (pre ++ ((closed.map seg).flatten ++ (124 :: List.replicate b 32)))) (pre ++ ((closed.map seg).flatten ++ (124 :: List.replicate b 32))).length (List.replicate n (S [9]) ++ [Str.empty]) pre.length = decide (n ≤ closed.length)
  | closed, pre, 0 => by
    simp only [List.replicate_zero, List.nil_append, scan]
    rw [findF_nil _ _ _ (by simp only [List.length_append]; omega)]
    simp [scan]
  | [], pre, n + 1 => by
    rw [List.replicate_succ, List.cons_append, scan]
    simp only [List.map_nil, List.flatten_nil, List.nil_append]
    rw [find_none (fun i h1 _ => tail_no9 (k := 0) rfl i h1)]
    simp
  | c :: cs, pre, n + 1 => by
    have ey : pre ++ (((c :: cs).map seg).flatten ++ (124 :: List.replicate b 32)) = (pre ++ seg c) ++ ((cs.map seg).flatten ++ (124 :: List.replicate b 32)) := by simp
    have ey2 : pre ++ (((c :: cs).map seg).flatten ++ (124 :: List.replicate b 32)) = pre ++ (seg c ++ ((cs.map seg).flatten ++ (124 :: List.replicate b 32))) := by simp
    have ey3 : pre ++ (((c :: cs).map seg).flatten ++ (124 :: List.replicate b 32)) = (pre ++ 124 :: List.replicate c 32) ++ ([9] ++ ((cs.map seg).flatten ++ (124 :: List.replicate b 32))) := by simp [seg]
    rw [List.replicate_succ, List.cons_append, scan]
    rw [find_some (p := (pre ++ 124 :: List.replicate c 32).length) (by simp) (by rw [ey3]; simp only [List.length_append]; omega) (by rw [ey3, List.drop_left, List.take_left]) ?_]
    · show scan _ _ _ ((pre ++ 124 :: List.replicate c 32).length + (S [9]).length) = _
      have e : (pre ++ 124 :: List.replicate c 32).length + (S [9]).length = (pre ++ seg c).length := by
        rw [S_len, List.length_append, List.length_append, seg_len]; simp; omega
      rw [e, ey, scan_tabs b cs (pre ++ seg c) n]
      simp
    · intro i h1 h2 hw
      have h9 := take_get hw (k := 0) (c := 9) rfl
      rw [ey2, List.getElem?_append_right (by omega), List.getElem?_append_left (by rw [seg_len]; simp at h2; omega)] at h9
      rcases seg_at h9 with h | h | h
      · omega
      · omega
      · simp at h2; omega
theorem scan_empty (y : Str) (hi : Nat) (ws : List Str) : scan y hi (Str.empty :: ws) 0 = scan y hi ws 0 := by
  rw [scan, findF_nil _ _ _ (Nat.zero_le _)]
  rfl
theorem em_runs_val (r n : Nat) (closed : List Nat) (b : Nat) : emB (S (barT closed b)) (List.replicate n (S (seg r))) (S []) = decide (n ≤ closed.count r) := by
  rw [emB, if_pos (by rw [S_len]; rfl), scan_empty, barT_segs, S_empty, S_len]
  exact scan_segs r b closed [] n
theorem em_tabs_val (n : Nat) (closed : List Nat) (b : Nat) : emB (S (barT closed b)) (List.replicate n (S [9])) (S []) = decide (n ≤ closed.length) := by
  rw [emB, if_pos (by rw [S_len]; rfl), scan_empty, barT_segs, S_empty, S_len]
  exact scan_tabs b closed [] n
theorem ends_val (A : List Nat) (n b : Nat) : Txt.endswith (S (A ++ (124 :: List.replicate b 32))) (S (124 :: List.replicate n 32)) = decide (n = b) := by
  unfold Txt.endswith
  rw [S_len, S_len, StrLaws.subAt_eq, S_len, Bool.eq_iff_iff]
  simp only [Bool.and_eq_true, decide_eq_true_eq, beq_iff_eq]
  have hS : ∀ l : List Nat, (S l).cps.toList = l := fun l => by simp [S]
  rw [hS, hS]
  constructor
  · rintro ⟨h1, h2⟩
    simp only [List.length_append, List.length_cons, List.length_replicate] at h1 h2
    rcases Nat.lt_trichotomy n b with hl | hl | hl
    · exfalso
      have h3 := take_get (w := 124 :: List.replicate n 32) (by simpa using h2) (k := 0) (c := 124) rfl
      rw [Nat.add_zero, List.getElem?_append_right (by omega)] at h3
      have hk : A.length + (b + 1) - (n + 1) - A.length = (b - n - 1) + 1 := by omega
      rw [hk, List.getElem?_cons_succ, List.getElem?_replicate] at h3
      split at h3 <;> simp at h3
    · exact hl
    · exfalso
      have h3 := take_get (w := 124 :: List.replicate n 32) (by simpa using h2) (k := n - b) (c := 32) (by
        have : n - b = (n - b - 1) + 1 := by omega
        rw [this, List.getElem?_cons_succ, List.getElem?_replicate, if_pos (by omega)])
      have hk : A.length + (b + 1) - (n + 1) + (n - b) = A.length := by omega
      rw [hk, List.getElem?_append_right (Nat.le_refl _)] at h3
      simp at h3
  · rintro rfl
    refine ⟨by simp only [List.length_append]; omega, ?_⟩
    rw [List.length_append, Nat.add_sub_cancel, List.drop_left, List.take_length]
theorem em_end_val (n : Nat) (closed : List Nat) (b : Nat) : emB (S (barT closed b)) [] (S (124 :: List.replicate n 32)) = decide (n = b) := by
  rw [emB, if_neg (by rw [S_len]; simp), scan_empty]
  rw [barT_segs, ends_val]
  show (_ && true) = _
  rw [Bool.and_true]
end Mine
end
section
open PySem PySem.W PyProof.Rows
set_option maxRecDepth 100000
namespace Mine
theorem em_gen (w : World) (news : List (Addr × Obj)) (mid : List (List Nat)) (last : List Nat) (y : Str) (t u : Tok) (hf : ∀ z ∈ mid ++ [last], 46 ∉ z) (hx : (S (joinD ([] :: (mid ++ [last])))).length < 1000000) (hy : y.length < 1000000) (hm : mid.length < 999999) :
    Gives w 94 1 [.str (S (joinD ([] :: (mid ++ [last])))) t, .str y u] news (fun r' tl => tl = [] ∧ r' = .bool (emB y (mid.map S) (S last))) := by
  have hne : ∃ q r, mid ++ [last] = q :: r := by
    cases mid with
    | nil => exact ⟨last, [], rfl⟩
    | cons a b => exact ⟨a, b ++ [last], rfl⟩
  obtain ⟨q, r, e⟩ := hne
  refine em_spec w news _ y t u (mid.map S) (S last) hx hy (by simpa using hm) ?_ ?_
  · rw [e]
    exact dots_in (joinD (q :: r))
  · have h := split_join (p := []) (q := q) (r := r) (fun z hz => by
      rcases List.mem_cons.mp hz with rfl | hz
      · simp
      · exact hf z (e ▸ hz))
    rw [← e] at h
    rw [h]
    simp [S_empty]
theorem runs_join (r n : Nat) : runsT r n = joinD ([] :: (List.replicate n (seg r) ++ [[]])) := by
  have e : joinD ([] :: (List.replicate n (seg r) ++ [[]])) = joinD (([] :: List.replicate n (seg r)) ++ [[]]) := rfl
  rw [e, joinD_end]
  clear e
  induction n with
  | zero => rfl
  | succ n ih =>
    rw [runsT, ih, List.replicate_succ']
    simp [seg]
theorem tabs_join (n : Nat) : tabsT n = joinD ([] :: (List.replicate n [9] ++ [[]])) := by
  have e : joinD ([] :: (List.replicate n [9] ++ [[]])) = joinD (([] :: List.replicate n [9]) ++ [[]]) := rfl
  rw [e, joinD_end]
  clear e
  induction n with
  | zero => rfl
  | succ n ih =>
    rw [tabsT, ih, List.replicate_succ']
    simp
theorem end_join (n : Nat) : endT n = joinD ([] :: ([] ++ [124 :: List.replicate n 32])) := by
  simp [endT, joinD]
theorem bar_small {closed : List Nat} {behind : Nat} (hs : Small closed behind) : (S (barT closed behind)).length < 1000000 := by
  have := repT_len hs
  rw [S_len] at this ⊢
  simp only [barT, List.length_cons]
  omega
theorem em_runs (w : World) (news : List (Addr × Obj)) (r n : Nat) (closed : List Nat) (behind : Nat) (t u : Tok) (hr : r < 900) (hn : n < 1000) (hs : Small closed behind) :
    Gives w 94 1 [.str (S (runsT r n)) t, .str (S (barT closed behind)) u] news (fun r' tl => tl = [] ∧ r' = .bool (decide (n ≤ closed.count r))) := by
  have hlen : (S (runsT r n)).length < 1000000 := by
    rw [S_len, runsT_len]
    have : (5 + r) * n ≤ 905 * 1000 := Nat.mul_le_mul (by omega) (by omega)
    omega
  rw [← em_runs_val r n closed behind]
  rw [runs_join] at hlen ⊢
  have h := em_gen w news (List.replicate n (seg r)) [] (S (barT closed behind)) t u (fun z hz => by
    rcases List.mem_append.mp hz with h | h
    · rw [List.eq_of_mem_replicate h]; simp [seg]
    · rw [List.mem_singleton.mp h]; simp) hlen (bar_small hs) (by simp; omega)
  rw [List.map_replicate] at h
  exact h
theorem em_tabs (w : World) (news : List (Addr × Obj)) (n : Nat) (closed : List Nat) (behind : Nat) (t u : Tok) (hn : n < 1000) (hs : Small closed behind) :
    Gives w 94 1 [.str (S (tabsT n)) t, .str (S (barT closed behind)) u] news (fun r' tl => tl = [] ∧ r' = .bool (decide (n ≤ closed.length))) := by
  have hlen : (S (tabsT n)).length < 1000000 := by
    rw [S_len, tabsT_len]
    omega
  rw [← em_tabs_val n closed behind]
  rw [tabs_join] at hlen ⊢
  have h := em_gen w news (List.replicate n [9]) [] (S (barT closed behind)) t u (fun z hz => by
    rcases List.mem_append.mp hz with h | h
    · rw [List.eq_of_mem_replicate h]; simp
    · rw [List.mem_singleton.mp h]; simp) hlen (bar_small hs) (by simp; omega)
  rw [List.map_replicate] at h
  exact h
theorem em_end (w : World) (news : List (Addr × Obj)) (n : Nat) (closed : List Nat) (behind : Nat) (t u : Tok) (hn : n < 1000) (hs : Small closed behind) :
    Gives w 94 1 [.str (S (endT n)) t, .str (S (barT closed behind)) u] news (fun r' tl => tl = [] ∧ r' = .bool (decide (n = behind))) := by
  have hlen : (S (endT n)).length < 1000000 := by
    rw [S_len]
    simp only [endT, dots, List.length_append, List.length_cons, List.length_nil, List.length_replicate]
    omega
  rw [← em_end_val n closed behind]
  rw [end_join] at hlen ⊢
  exact em_gen w news [] (124 :: List.replicate n 32) (S (barT closed behind)) t u (fun z hz => by
    rw [List.nil_append] at hz
    rw [List.mem_singleton.mp hz]; simp) hlen (bar_small hs) (by simp)
end Mine
end
section
open PySem PySem.W PyProof.Rows
set_option Elab.async false
set_option maxRecDepth 100000
set_option maxHeartbeats 8000000
set_option pp.maxSteps 20000
namespace Mine
local macro_rules | `(tactic| walk_at "pyIter ref") => `(tactic| (refine Hold.out ?_))
local macro_rules | `(tactic| walk_at "call builtin:str.replace") => `(tactic| (k_here; (refine SC.replaceW (by ((show @Ne Nat _ _); omega)) (by ((show @Ne Nat _ _); omega)) (by ((show @Ne Nat _ _); omega)) (by decide +kernel) (by omega) (by decide +kernel) ?_); intro t9 k9))
local macro_rules | `(tactic| walk_at "Turn") => `(tactic| ((first | refine Turn.ret ?_ | refine Turn.brk ?_); (try dsimp only); (try k_fold)))
local macro_rules | `(tactic| walk_at "pyIter str") => `(tactic| (refine Hold.out ?_))
local macro_rules | `(tactic| walk_at "exec For Name Name cons nil") => `(tactic| (k_here; (rename Fr _ _ _ _ => lF'); (with_unfolding_all refine' For_invVF lF' ?k1 ?k2 ?_; (case k1 => exact rfl); (case k2 => exact rfl); k_whole)))
local macro_rules | `(tactic| walk_at "exec For Name Attribute cons nil") => `(tactic| (k_here; (rename Fr _ _ _ _ => lF'); (with_unfolding_all refine' For_invVF lF' ?k1 ?k2 ?_; (case k1 => exact rfl); (case k2 => exact rfl); k_whole)))
local macro_rules | `(tactic| walk_at "exec For Name Call cons nil") => `(tactic| (k_here; (rename Fr _ _ _ _ => lF'); (with_unfolding_all refine' For_invVF lF' ?k1 ?k2 ?_; (case k1 => exact rfl); (case k2 => exact rfl); k_whole)))

theorem runs_call (w : World) (news : List (Addr × Obj)) (r n : Int) (t t2 : Tok) (hr : 0 ≤ r ∧ r < 1000) (hn : 0 ≤ n ∧ n < 1000) :
    Gives w 122 1 [.int r t2, .int n t] news (fun r' tl => tl = [] ∧ ∃ t', r' = .str (S (runsT r.toNat n.toNat)) t') := by
  obtain ⟨r, rfl⟩ := Int.eq_ofNat_of_zero_le hr.1
  obtain ⟨n, rfl⟩ := Int.eq_ofNat_of_zero_le hn.1
  exact runs_spec w news r n t t2 (by omega) (by omega)
theorem tabs_call (w : World) (news : List (Addr × Obj)) (n : Int) (t : Tok) (hn : 0 ≤ n ∧ n < 1000) :
    Gives w 129 1 [.int n t] news (fun r' tl => tl = [] ∧ ∃ t', r' = .str (S (tabsT n.toNat)) t') := by
  obtain ⟨n, rfl⟩ := Int.eq_ofNat_of_zero_le hn.1
  exact tabs_spec w news n t (by omega)
theorem end_call (w : World) (news : List (Addr × Obj)) (n : Int) (t : Tok) (hn : 0 ≤ n ∧ n < 1000) :
    Gives w 136 1 [.int n t] news (fun r' tl => tl = [] ∧ ∃ t', r' = .str (S (endT n.toNat)) t') := by
  obtain ⟨n, rfl⟩ := Int.eq_ofNat_of_zero_le hn.1
  exact end_spec w news n t (by omega)
local macro_rules | `(tactic| walk_at "call ref") => `(tactic| (k_here; (with_reducible show wpAny _ _ (call (Value.ref _) _) _ _ _); k_dflt (refine' Gives.useS (runs_call _ _ _ _ _ _ ?c1 ?c2) ?k1 ?k2 ?k3 ?k4 ?k5 ?kK ?kd ?ku ?_; (case k1 => k_asm); (case k2 => k_asm); (case k3 => k_asm); (case k4 => k_asm); (case k5 => k_asm); (case kK => exact rfl); (case kd => ktr_room); (case ku => ktr_units); (case c1 => (constructor <;> omega)); (case c2 => (constructor <;> omega)); k_whole); intro t9 h9 tk9 hle9 F9 N9; (try dsimp only at hle9); (try dsimp only); (try k_fold)))
local macro_rules | `(tactic| walk_at "call ref") => `(tactic| (k_here; (with_reducible show wpAny _ _ (call (Value.ref _) _) _ _ _); k_dflt (refine' Gives.useS (tabs_call _ _ _ _ ?c1) ?k1 ?k2 ?k3 ?k4 ?k5 ?kK ?kd ?ku ?_; (case k1 => k_asm); (case k2 => k_asm); (case k3 => k_asm); (case k4 => k_asm); (case k5 => k_asm); (case kK => exact rfl); (case kd => ktr_room); (case ku => ktr_units); (case c1 => (constructor <;> omega)); k_whole); intro t9 h9 tk9 hle9 F9 N9; (try dsimp only at hle9); (try dsimp only); (try k_fold)))
local macro_rules | `(tactic| walk_at "call ref") => `(tactic| (k_here; (with_reducible show wpAny _ _ (call (Value.ref _) _) _ _ _); k_dflt (refine' Gives.useS (end_call _ _ _ _ ?c1) ?k1 ?k2 ?k3 ?k4 ?k5 ?kK ?kd ?ku ?_; (case k1 => k_asm); (case k2 => k_asm); (case k3 => k_asm); (case k4 => k_asm); (case k5 => k_asm); (case kK => exact rfl); (case kd => ktr_room); (case ku => ktr_units); (case c1 => (constructor <;> omega)); k_whole); intro t9 h9 tk9 hle9 F9 N9; (try dsimp only at hle9); (try dsimp only); (try k_fold)))
local macro_rules | `(tactic| walk_at "call ref") => `(tactic| (k_here; (with_reducible show wpAny _ _ (call (Value.ref _) _) _ _ _); k_dflt (refine' Gives.useB (em_runs _ _ _ _ _ _ _ _ ?c1 ?c2 ?c3) ?k1 ?k2 ?k3 ?k4 ?k5 ?kK ?kd ?ku ?_; (case k1 => k_asm); (case k2 => k_asm); (case k3 => k_asm); (case k4 => k_asm); (case k5 => k_asm); (case kK => exact rfl); (case kd => ktr_room); (case ku => ktr_units); (case c1 => omega); (case c2 => omega); (case c3 => assumption); k_whole); intro h9 tk9 hle9 F9 N9; (try dsimp only at hle9); (try dsimp only); (try k_fold)))
local macro_rules | `(tactic| walk_at "call ref") => `(tactic| (k_here; (with_reducible show wpAny _ _ (call (Value.ref _) _) _ _ _); k_dflt (refine' Gives.useB (em_tabs _ _ _ _ _ _ _ ?c1 ?c2) ?k1 ?k2 ?k3 ?k4 ?k5 ?kK ?kd ?ku ?_; (case k1 => k_asm); (case k2 => k_asm); (case k3 => k_asm); (case k4 => k_asm); (case k5 => k_asm); (case kK => exact rfl); (case kd => ktr_room); (case ku => ktr_units); (case c1 => omega); (case c2 => assumption); k_whole); intro h9 tk9 hle9 F9 N9; (try dsimp only at hle9); (try dsimp only); (try k_fold)))
local macro_rules | `(tactic| walk_at "call ref") => `(tactic| (k_here; (with_reducible show wpAny _ _ (call (Value.ref _) _) _ _ _); k_dflt (refine' Gives.useB (em_end _ _ _ _ _ _ _ ?c1 ?c2) ?k1 ?k2 ?k3 ?k4 ?k5 ?kK ?kd ?ku ?_; (case k1 => k_asm); (case k2 => k_asm); (case k3 => k_asm); (case k4 => k_asm); (case k5 => k_asm); (case kK => exact rfl); (case kd => ktr_room); (case ku => ktr_units); (case c1 => omega); (case c2 => assumption); k_whole); intro h9 tk9 hle9 F9 N9; (try dsimp only at hle9); (try dsimp only); (try k_fold)))

section
variable {prog : Program} {w : World} {A : Around} {E : Value → Shared → Prop} {s : Shared} {h₀ : Heap} {L : Addr} {news : List (Addr × Obj)}
theorem len_tupI {ct : Addr} {vs : List Value} {k : Nat} {Q : Value → Shared → Prop} (N : News h₀ L s.heap news) (hm : (ct, ({ cls := .type "tuple", data := .seq vs.toArray } : Obj)) ∈ news) (hl : vs.length = k) (hk : k < 1000000)
    (h : ∀ t k', Q (.int (k : Int) t) { s with toks := k' }) : wpAny (model prog w) A (call (.builtin "len") [.ref ct]) Q E s := by
  refine len_tuple (News.isTup N hm) (by rw [List.size_toArray]; omega) ?_
  rw [List.size_toArray, hl]
  exact h _ _
theorem item_my {closed cs : List Nat} {value slice : PySem.Expr} {l : Addr} {vs : List Value} {k : Int} {u : Tok} {Q : Value → Shared → Prop} (ht : IsTup s.heap l vs.toArray) (hi : IntsAre vs (cs.map fun (k : Nat) => (k : Int)))
    (hcs : ∀ r, cs.getD r 0 = closed.count r) (h0 : 0 ≤ k) (h1 : k < cs.length) (hfit : k < 2 ^ 63) (h : ∀ t, closed.count k.toNat ≤ closed.length → Q (.int (closed.count k.toNat : Int) t) s)
    (hs : subscripted slice false (.ref l) (.int k u) = operate [.ref l, .int k u] (getItem (.ref l) (.int k u)) := by with_unfolding_all rfl) :
    wpAny (model prog w) A (subscriptTail value slice (.ref l) (.int k u)) Q E s := by
  refine item_anyT ht hi h0 (by rw [List.length_map]; exact h1) hfit (fun t => ?_) hs
  have e : (cs.map fun (k : Nat) => (k : Int)).getD k.toNat 0 = (closed.count k.toNat : Int) := by
    rw [← hcs]
    have : k.toNat < cs.length := by omega
    rw [List.getD_eq_getElem?_getD, List.getD_eq_getElem?_getD, List.getElem?_map, List.getElem?_eq_getElem this]
    rfl
  rw [e]
  exact h t List.count_le_length
end
local macro_rules | `(tactic| walk_at "call builtin:len") => `(tactic| (k_here; (with_reducible show wpAny _ _ (call (Value.builtin "len") [Value.ref _]) _ _ _); k_dflt (refine' len_tupI ?k1 ?k2 ?k3 ?k4 ?_; (case k1 => k_asm); (case k2 => k_mem); (case k3 => assumption); (case k4 => omega)); intro t9 k9))
local macro_rules | `(tactic| walk_at "subscriptTail") => `(tactic| (k_here; (with_reducible show wpAny _ _ (subscriptTail _ _ (Value.ref _) (Value.int _ _)) _ _ _); k_dflt (refine' item_my ?k1 ?k3 ?k4 ?k5 ?k6 ?k7 ?_ ?k8; (case k1 => exact News.isTup (by k_asm) (by k_mem)); (case k3 => assumption); (case k4 => assumption); (case k5 => omega); (case k6 => omega); (case k7 => omega); (case k8 => with_unfolding_all rfl)); intro t9 hc9))
theorem bne_no {i b : Nat} (h : (decide ((i : Int).toNat = b) != ((i : Int) == (b : Int))) = true) : False := by
  have e : decide ((i : Int).toNat = b) = ((i : Int) == (b : Int)) := by
    rw [Bool.eq_iff_iff]
    simp only [decide_eq_true_eq, beq_iff_eq]
    omega
  rw [e] at h
  simp at h
theorem members_spec (w : World) (news : List (Addr × Obj)) (v : Value) (st : WSt) (closed : List Nat) (behind : Nat) (t : Tok) (hv : WhiteAt w news v st) (hs : Small closed behind)
    (hcs : ∀ r, st.cs.getD r 0 = closed.count r) (hnt : st.nt = closed.length) (hb : st.b = behind) (hlen : st.cs.length ≤ 21) :
    Gives w 143 2 [v, .str (S (barT closed behind)) t] news (fun r tl => tl = [] ∧ r = .bool true) := by
  obtain ⟨x, dx, nm, ct, raw, vs, tn, tt, tb, k1, k2, k3, k4, k5, rfl, hm1, hm2, hm3, hm4, hI⟩ := hv
  have hvl : vs.length = st.cs.length := by simpa using hI.length
  w_top off
  unfold Gives
  w_top off
  k_fill
  intro mean mg mb dp un gd cn cs a ccd cl outer A₀ base h₀ L m s Q E B F X N T hk hd hu hret
  refine wpAny_call ?_
  k_dflt ktr_enter
  k_steps
  refine Hold.mk ?_
  (rename Fr _ _ _ _ => fF); (rename News _ _ _ _ => fN); (rename IsRange _ _ _ _ _ _ _ _ => rgX)
  have hs1 := hs.1
  refine' loop_rangeC (σ := Unit) (n := st.cs.length + 1) (fun _ => []) [Str.ofString "times"] (fun _ _ => True) () (by rfl) rgX (small_one (by omega) (by omega) (by omega) (by omega)) ?kn fF fN ?k1 trivial ?_ ?_
  case kn => rw [rangeSize_nat]; omega
  case k1 => kst_all
  · rintro ⟨⟩ i ti u2 h tk own hi hP hoff F1 N1
    rw [Int.zero_add] at F1
    clear fF fN; dsimp only [kstB] at F1
    by_cases hlt : i < st.cs.length
    · k_steps
      refine' Turn.next () (by assumption) (by assumption) (fun p hp => List.mem_append.mpr (.inr hp)) (fun p hp => List.mem_append.mpr (.inl hp)) hoff ?k1 ?k2 trivial
      case k1 => kst_all
      case k2 => kst_same
    · have hz : closed.count (i : Int).toNat = 0 := by
        have e : (i : Int).toNat = i := rfl
        rw [e, ← hcs, List.getD_eq_getElem?_getD, List.getElem?_eq_none (by omega)]
        rfl
      k_steps
      refine' Turn.next () (by assumption) (by assumption) (fun p hp => List.mem_append.mpr (.inr hp)) (fun p hp => List.mem_append.mpr (.inl hp)) hoff ?k1 ?k2 trivial
      case k1 => kst_all
      case k2 => kst_same
  · rintro ⟨⟩ u2 h tk hP F1 N1
    clear fF fN; dsimp only [kstB] at F1
    k_steps
    refine Hold.mk ?_
    (rename Fr _ _ _ _ => fF); (rename News _ _ _ _ => fN); (rename IsRange _ _ _ _ _ _ _ _ => rgY)
    have hs3 := hs.2.2
    refine' loop_rangeC (σ := Unit) (n := st.b + 2) (fun _ => []) [] (fun _ _ => True) () (by rfl) rgY (small_one (by omega) (by omega) (by omega) (by omega)) ?kn fF fN ?k1 trivial ?_ ?_
    case kn => rw [rangeSize_nat]; omega
    case k1 => kst_all
    · rintro ⟨⟩ i ti u2 h tk own hi hP hoff F1 N1
      rw [Int.zero_add] at F1
      clear fF fN; dsimp only [kstB] at F1
      k_steps
      · (rename (_ != _) = true => hq)
        rw [hb] at hq
        exact (bne_no hq).elim
      · refine' Turn.next () (by assumption) (by assumption) (fun p hp => List.mem_append.mpr (.inr hp)) (fun p hp => List.mem_append.mpr (.inl hp)) hoff ?k1 ?k2 trivial
        case k1 => kst_all
        case k2 => kst_same
    · rintro ⟨⟩ u2 h tk hP F1 N1
      clear fF fN; dsimp only [kstB] at F1
      k_steps
      exact hret _ [] _ _ (by assumption) (by assumption) (fun _ h => nomatch h) ⟨rfl, rfl⟩
end Mine
end
section
open PySem PySem.W PyProof.Rows
set_option Elab.async false
set_option maxRecDepth 100000
set_option maxHeartbeats 8000000
set_option pp.maxSteps 20000
namespace Mine
local macro_rules | `(tactic| walk_at "pyIter ref") => `(tactic| (refine Hold.out ?_))
local macro_rules | `(tactic| walk_at "call builtin:str.replace") => `(tactic| (k_here; (refine SC.replaceW (by ((show @Ne Nat _ _); omega)) (by ((show @Ne Nat _ _); omega)) (by ((show @Ne Nat _ _); omega)) (by decide +kernel) (by omega) (by decide +kernel) ?_); intro t9 k9))
local macro_rules | `(tactic| walk_at "Turn") => `(tactic| ((first | refine Turn.ret ?_ | refine Turn.brk ?_); (try dsimp only); (try k_fold)))
local macro_rules | `(tactic| walk_at "pyIter str") => `(tactic| (refine Hold.out ?_))
local macro_rules | `(tactic| walk_at "exec For Name Name cons nil") => `(tactic| (k_here; (rename Fr _ _ _ _ => lF'); (with_unfolding_all refine' For_invVF lF' ?k1 ?k2 ?_; (case k1 => exact rfl); (case k2 => exact rfl); k_whole)))
local macro_rules | `(tactic| walk_at "exec For Name Attribute cons nil") => `(tactic| (k_here; (rename Fr _ _ _ _ => lF'); (with_unfolding_all refine' For_invVF lF' ?k1 ?k2 ?_; (case k1 => exact rfl); (case k2 => exact rfl); k_whole)))
local macro_rules | `(tactic| walk_at "exec For Name Call cons nil") => `(tactic| (k_here; (rename Fr _ _ _ _ => lF'); (with_unfolding_all refine' For_invVF lF' ?k1 ?k2 ?_; (case k1 => exact rfl); (case k2 => exact rfl); k_whole)))
local macro_rules | `(tactic| walk_at "call ref") => `(tactic| (k_here; (with_reducible show wpAny _ _ (call (Value.ref _) _) _ _ _); k_dflt (refine' Gives.useS (runs_call _ _ _ _ _ _ ?c1 ?c2) ?k1 ?k2 ?k3 ?k4 ?k5 ?kK ?kd ?ku ?_; (case k1 => k_asm); (case k2 => k_asm); (case k3 => k_asm); (case k4 => k_asm); (case k5 => k_asm); (case kK => exact rfl); (case kd => ktr_room); (case ku => ktr_units); (case c1 => (constructor <;> omega)); (case c2 => (constructor <;> omega)); k_whole); intro t9 h9 tk9 hle9 F9 N9; (try dsimp only at hle9); (try dsimp only); (try k_fold)))
local macro_rules | `(tactic| walk_at "call ref") => `(tactic| (k_here; (with_reducible show wpAny _ _ (call (Value.ref _) _) _ _ _); k_dflt (refine' Gives.useS (tabs_call _ _ _ _ ?c1) ?k1 ?k2 ?k3 ?k4 ?k5 ?kK ?kd ?ku ?_; (case k1 => k_asm); (case k2 => k_asm); (case k3 => k_asm); (case k4 => k_asm); (case k5 => k_asm); (case kK => exact rfl); (case kd => ktr_room); (case ku => ktr_units); (case c1 => (constructor <;> omega)); k_whole); intro t9 h9 tk9 hle9 F9 N9; (try dsimp only at hle9); (try dsimp only); (try k_fold)))
local macro_rules | `(tactic| walk_at "call ref") => `(tactic| (k_here; (with_reducible show wpAny _ _ (call (Value.ref _) _) _ _ _); k_dflt (refine' Gives.useS (end_call _ _ _ _ ?c1) ?k1 ?k2 ?k3 ?k4 ?k5 ?kK ?kd ?ku ?_; (case k1 => k_asm); (case k2 => k_asm); (case k3 => k_asm); (case k4 => k_asm); (case k5 => k_asm); (case kK => exact rfl); (case kd => ktr_room); (case ku => ktr_units); (case c1 => (constructor <;> omega)); k_whole); intro t9 h9 tk9 hle9 F9 N9; (try dsimp only at hle9); (try dsimp only); (try k_fold)))
local macro_rules | `(tactic| walk_at "call ref") => `(tactic| (k_here; (with_reducible show wpAny _ _ (call (Value.ref _) _) _ _ _); k_dflt (refine' Gives.useB (em_runs _ _ _ _ _ _ _ _ ?c1 ?c2 ?c3) ?k1 ?k2 ?k3 ?k4 ?k5 ?kK ?kd ?ku ?_; (case k1 => k_asm); (case k2 => k_asm); (case k3 => k_asm); (case k4 => k_asm); (case k5 => k_asm); (case kK => exact rfl); (case kd => ktr_room); (case ku => ktr_units); (case c1 => omega); (case c2 => omega); (case c3 => assumption); k_whole); intro h9 tk9 hle9 F9 N9; (try dsimp only at hle9); (try dsimp only); (try k_fold)))
local macro_rules | `(tactic| walk_at "call ref") => `(tactic| (k_here; (with_reducible show wpAny _ _ (call (Value.ref _) _) _ _ _); k_dflt (refine' Gives.useB (em_tabs _ _ _ _ _ _ _ ?c1 ?c2) ?k1 ?k2 ?k3 ?k4 ?k5 ?kK ?kd ?ku ?_; (case k1 => k_asm); (case k2 => k_asm); (case k3 => k_asm); (case k4 => k_asm); (case k5 => k_asm); (case kK => exact rfl); (case kd => ktr_room); (case ku => ktr_units); (case c1 => omega); (case c2 => assumption); k_whole); intro h9 tk9 hle9 F9 N9; (try dsimp only at hle9); (try dsimp only); (try k_fold)))
local macro_rules | `(tactic| walk_at "call ref") => `(tactic| (k_here; (with_reducible show wpAny _ _ (call (Value.ref _) _) _ _ _); k_dflt (refine' Gives.useB (em_end _ _ _ _ _ _ _ ?c1 ?c2) ?k1 ?k2 ?k3 ?k4 ?k5 ?kK ?kd ?ku ?_; (case k1 => k_asm); (case k2 => k_asm); (case k3 => k_asm); (case k4 => k_asm); (case k5 => k_asm); (case kK => exact rfl); (case kd => ktr_room); (case ku => ktr_units); (case c1 => omega); (case c2 => assumption); k_whole); intro h9 tk9 hle9 F9 N9; (try dsimp only at hle9); (try dsimp only); (try k_fold)))

local macro_rules | `(tactic| walk_at "call builtin:len") => `(tactic| (k_here; (with_reducible show wpAny _ _ (call (Value.builtin "len") [Value.ref _]) _ _ _); k_dflt (refine' len_tupI ?k1 ?k2 ?k3 ?k4 ?_; (case k1 => k_asm); (case k2 => k_mem); (case k3 => assumption); (case k4 => omega)); intro t9 k9))
local macro_rules | `(tactic| walk_at "subscriptTail") => `(tactic| (k_here; (with_reducible show wpAny _ _ (subscriptTail _ _ (Value.ref _) (Value.int _ _)) _ _ _); k_dflt (refine' item_my ?k1 ?k3 ?k4 ?k5 ?k6 ?k7 ?_ ?k8; (case k1 => exact News.isTup (by k_asm) (by k_mem)); (case k3 => assumption); (case k4 => assumption); (case k5 => omega); (case k6 => omega); (case k7 => omega); (case k8 => with_unfolding_all rfl)); intro t9 hc9))

theorem count_le (ci : List Nat) : ∀ cj : List Nat, (∀ r, ci.count r ≤ cj.count r) → ci.length ≤ cj.length ∧ (cj.length ≤ ci.length → ∀ r, ci.count r = cj.count r) := by
  induction ci with
  | nil =>
    intro cj _
    refine ⟨Nat.zero_le _, fun h r => ?_⟩
    have : cj = [] := List.length_eq_zero_iff.mp (by simpa using h)
    rw [this]
  | cons a ci ih =>
    intro cj h
    have ha : a ∈ cj := List.count_pos_iff.mp (by have := h a; rw [List.count_cons_self] at this; omega)
    have hle : ∀ r, ci.count r ≤ (cj.erase a).count r := by
      intro r
      have h1 := h r
      rw [List.count_erase]
      rw [List.count_cons] at h1
      by_cases e : a = r
      · subst e; simp at h1 ⊢; omega
      · have e1 : (a == r) = false := by simpa using e
        rw [e1] at h1 ⊢
        simpa using h1
    obtain ⟨h1, h2⟩ := ih _ hle
    have hlen : (cj.erase a).length = cj.length - 1 := List.length_erase_of_mem ha
    have hpos : 1 ≤ cj.length := List.length_pos_of_mem ha
    refine ⟨by simp only [List.length_cons]; omega, fun hl r => ?_⟩
    simp only [List.length_cons] at hl
    have h3 := h2 (by omega) r
    rw [List.count_erase] at h3
    rw [List.count_cons]
    by_cases e : a = r
    · subst e
      have := List.count_pos_iff.mpr ha
      simp at h3 ⊢
      omega
    · have e1 : (a == r) = false := by simpa using e
      rw [e1] at h3 ⊢
      simpa using h3

theorem same_spec (w : World) (news : List (Addr × Obj)) (v : Value) (st : WSt) (ci cj : List Nat) (bi bj : Nat) (t : Tok) (e : Bool) (he : e = true ↔ ((∀ r, ci.count r = cj.count r) ∧ bi = bj)) (hv : WhiteAt w news v st) (hs : Small cj bj) (hsi : Small ci bi)
    (hcs : ∀ r, st.cs.getD r 0 = ci.count r) (hnt : st.nt = ci.length) (hb : st.b = bi) (hlen : st.cs.length ≤ 21) :
    Gives w 150 2 [v, .str (S (barT cj bj)) t] news (fun r tl => tl = [] ∧ r = .bool e) := by
  obtain ⟨x, dx, nm, ct, raw, vs, tn, tt, tb, k1, k2, k3, k4, k5, rfl, hm1, hm2, hm3, hm4, hI⟩ := hv
  have hvl : vs.length = st.cs.length := by simpa using hI.length
  have hs1 := hs.1
  have hs3 := hs.2.2
  have hsi1 := hsi.1
  have hsi3 := hsi.2.2
  w_top off
  unfold Gives
  w_top off
  k_fill
  intro mean mg mb dp un gd cn cs a ccd cl outer A₀ base h₀ L m s Q E B F X N T hk hd hu hret
  refine wpAny_call ?_
  k_dflt ktr_enter
  k_steps
  refine Hold.mk ?_
  (rename Fr _ _ _ _ => fF); (rename News _ _ _ _ => fN); (rename IsRange _ _ _ _ _ _ _ _ => rgX)
  refine' loop_rangeC (σ := Unit) (n := st.cs.length) (fun _ => []) [] (fun i _ => ∀ r, r < i → ci.count r ≤ cj.count r) () (by rfl) rgX (small_one (by omega) (by omega) (by omega) (by omega)) ?kn fF fN ?k1 (fun r h => absurd h (Nat.not_lt_zero _)) ?_ ?_
  case kn => rw [rangeSize_nat]; omega
  case k1 => kst_all
  · rintro ⟨⟩ i ti u2 h tk own hi hP hoff F1 N1
    rw [Int.zero_add] at F1
    clear fF fN; dsimp only [kstB] at F1
    k_steps
    · (rename Int.toNat _ ≤ List.count _ cj => hq)
      refine' Turn.next () (by assumption) (by assumption) (fun p hp => List.mem_append.mpr (.inr hp)) (fun p hp => List.mem_append.mpr (.inl hp)) hoff ?k1 ?k2 ?k3
      case k1 => kst_all
      case k2 => kst_same
      case k3 =>
        intro r hr
        by_cases h : r = i
        · subst h; exact hq
        · exact hP r (by omega)
    · (rename ¬ (Int.toNat _ ≤ List.count _ cj) => hq)
      have hef : e = false := by
        cases e with
        | false => rfl
        | true =>
          have h1 := (he.mp rfl).1 i
          have h2 : ¬ ci.count i ≤ cj.count i := hq
          omega
      refine' hret _ [] _ _ ?e1 ?e2 (fun _ h => nomatch h) ⟨rfl, ?e3⟩
      case e1 => assumption
      case e2 => exact cb_drop (by assumption) (by intro p hp; simp only [List.nil_append] at hp; simp [hp])
      case e3 => rw [hef]
  · rintro ⟨⟩ u2 h tk hP F1 N1
    clear fF fN; dsimp only [kstB] at F1
    have hall : ∀ r, ci.count r ≤ cj.count r := by
      intro r
      by_cases h : r < st.cs.length
      · exact hP r h
      · have : ci.count r = 0 := by
          rw [← hcs, List.getD_eq_getElem?_getD, List.getElem?_eq_none (by omega)]
          rfl
        omega
    obtain ⟨hl1, hl2⟩ := count_le ci cj hall
    k_steps
    · have hef : e = false := by
        cases e with
        | false => rfl
        | true =>
          (rename Int.toNat _ ≤ List.length cj => hq)
          have h1 := (he.mp rfl).1
          have h2 := (count_le cj ci (fun r => Nat.le_of_eq (h1 r).symm)).1
          omega
      refine' hret _ [] _ _ ?e1 ?e2 (fun _ h => nomatch h) ⟨rfl, ?e3⟩
      case e1 => assumption
      case e2 => exact cb_drop (by assumption) (by intro p hp; simp only [List.nil_append] at hp; simp [hp])
      case e3 => rw [hef]
    · (rename ¬ (Int.toNat _ ≤ List.length cj) => hq)
      have hee : decide ((st.b : Int).toNat = bj) = e := by
        rw [Bool.eq_iff_iff, he, decide_eq_true_eq]
        have h3 := hl2 (by omega)
        have h4 : (st.b : Int).toNat = st.b := rfl
        rw [h4, hb]
        exact ⟨fun h => ⟨h3, h⟩, fun h => h.2⟩
      refine' hret _ [] _ _ ?e1 ?e2 (fun _ h => nomatch h) ⟨rfl, ?e3⟩
      case e1 => assumption
      case e2 => exact cb_drop (by assumption) (by intro p hp; simp only [List.nil_append] at hp; simp [hp])
      case e3 => rw [hee]
end Mine
end
section
open PySem PySem.W PyProof.Rows
set_option Elab.async false
set_option maxRecDepth 100000
set_option maxHeartbeats 8000000
set_option pp.maxSteps 20000
namespace Mine
local macro_rules | `(tactic| walk_at "pyIter ref") => `(tactic| (refine Hold.out ?_))
local macro_rules | `(tactic| walk_at "call builtin:str.replace") => `(tactic| (k_here; (refine SC.replaceW (by ((show @Ne Nat _ _); omega)) (by ((show @Ne Nat _ _); omega)) (by ((show @Ne Nat _ _); omega)) (by decide +kernel) (by omega) (by decide +kernel) ?_); intro t9 k9))
local macro_rules | `(tactic| k_mem) => `(tactic| first | assumption | (refine List.mem_cons_of_mem _ ?_; k_mem) | (refine List.mem_append.mpr (Or.inr ?_); k_mem) | (refine List.mem_append.mpr (Or.inl ?_); k_mem))
local macro_rules | `(tactic| walk_at "Turn") => `(tactic| ((first | refine Turn.ret ?_ | refine Turn.brk ?_); (try dsimp only); (try k_fold)))
local macro_rules | `(tactic| walk_at "pyIter str") => `(tactic| (refine Hold.out ?_))
local macro_rules | `(tactic| walk_at "exec For Name Name cons nil") => `(tactic| (k_here; (rename Fr _ _ _ _ => lF'); (with_unfolding_all refine' For_invVF lF' ?k1 ?k2 ?_; (case k1 => exact rfl); (case k2 => exact rfl); k_whole)))
local macro_rules | `(tactic| walk_at "exec For Name Attribute cons nil") => `(tactic| (k_here; (rename Fr _ _ _ _ => lF'); (with_unfolding_all refine' For_invVF lF' ?k1 ?k2 ?_; (case k1 => exact rfl); (case k2 => exact rfl); k_whole)))
local macro_rules | `(tactic| walk_at "exec For Name Call cons nil") => `(tactic| (k_here; (rename Fr _ _ _ _ => lF'); (with_unfolding_all refine' For_invVF lF' ?k1 ?k2 ?_; (case k1 => exact rfl); (case k2 => exact rfl); k_whole)))

local macro_rules | `(tactic| walk_at "compareOp Eq ref ref") => `(tactic| (refine Hold.out ?_))
theorem reads_ints {h : Heap} {vs : List Value} {ns : List Int} (hi : IntsAre vs ns) : ReadsAll h vs (ns.map PyData.int) [] := by
  induction hi with
  | nil => exact .nil
  | cons n t _ ih => exact .cons (as := []) (bs := []) (.int n t) ih
/-- norm as data -/
def normD (s : WSt) : PyData := .tuple [.tuple ((s.cs.map fun (k : Nat) => (k : Int)).map PyData.int), .int (s.b : Int)]
theorem normD_shaped (s : WSt) : SeqAt.shaped (normD s) = true := by
  unfold normD
  generalize (s.cs.map fun (k : Nat) => (k : Int)) = ns
  simp [SeqAt.shaped, PyData.canLay0, PyData.canLayAll0, PyData.depth, PyData.depthAll, ke_canLayAll0, ke_depthAll]
theorem normD_eqv (s t : WSt) : PyData.eqv (normD s) (normD t) = decide (s.cs = t.cs ∧ s.b = t.b) := by
  have hinj : ∀ a b : List Nat, (a.map fun (k : Nat) => (k : Int)) = (b.map fun (k : Nat) => (k : Int)) ↔ a = b := by
    intro a b
    constructor
    · intro h
      exact List.map_inj_right (f := fun (k : Nat) => (k : Int)) (fun x y h => Int.ofNat.inj h) |>.mp h
    · intro h; rw [h]
  have e1 := ked_eqvAll (s.cs.map fun (k : Nat) => (k : Int)) (t.cs.map fun (k : Nat) => (k : Int))
  simp only [normD, PyData.eqv, PyData.eqvAll, Bool.and_true]
  rw [e1]
  rw [Bool.eq_iff_iff]
  simp only [Bool.and_eq_true, decide_eq_true_eq, beq_iff_eq, hinj]
  constructor
  · rintro ⟨h1, h2⟩; exact ⟨h1, by omega⟩
  · rintro ⟨h1, h2⟩; exact ⟨h1, by omega⟩
theorem equal_spec (w : World) (news : List (Addr × Obj)) (v1 v2 : Value) (s1 s2 : WSt) (h1 : WhiteAt w news v1 s1) (h2 : WhiteAt w news v2 s2) :
    Gives w 59 9 [v1, v2] news (fun r tl => tl = [] ∧ r = .bool (decide (s1.cs = s2.cs ∧ s1.b = s2.b))) := by
  obtain ⟨x1, dx1, nm1, ct1, raw1, vs1, tn1, tt1, tb1, c11, c12, c13, c14, c15, rfl, hm11, hm12, hm13, hm14, hI1⟩ := h1
  obtain ⟨x2, dx2, nm2, ct2, raw2, vs2, tn2, tt2, tb2, c21, c22, c23, c24, c25, rfl, hm21, hm22, hm23, hm24, hI2⟩ := h2
  w_top off
  unfold Gives
  w_top off
  k_fill
  intro mean mg mb dp un gd cn cs a ccd cl outer A₀ base h₀ L m s Q E B F X N T hk hd hu hret
  refine wpAny_call ?_
  k_dflt ktr_enter
  k_steps
  refine Hold.mk ?_
  (rename News _ _ _ _ => fN)
  refine eq_dataH (da := normD s1) (db := normD s2) (reads_tuple_at (fN.get hm13) rfl rfl (.cons (reads_tuple_at (fN.get hm14) rfl rfl (reads_ints hI1)) (.cons (.int _ _) .nil)))
    (reads_tuple_at (fN.get hm23) rfl rfl (.cons (reads_tuple_at (fN.get hm24) rfl rfl (reads_ints hI2)) (.cons (.int _ _) .nil))) (normD_shaped _) (normD_shaped _) ?hu ?_
  case hu => (show un + 3 + 64 < cLine); omega
  rw [normD_eqv]
  k_steps
  exact hret _ [] _ _ (by assumption) (by assumption) (fun _ h => nomatch h) ⟨rfl, rfl⟩
end Mine
end
section
open PySem PySem.W PyProof.Rows
namespace Mine
theorem getD_set (l : List Nat) (b x r : Nat) (h : b < l.length) : (l.set b x).getD r 0 = if r = b then x else l.getD r 0 := by
  rw [List.getD_eq_getElem?_getD, List.getD_eq_getElem?_getD, List.getElem?_set]
  by_cases e : b = r
  · subst e; simp [h]
  · rw [if_neg e, if_neg (fun h => e h.symm)]
theorem pad_getD (cs : List Nat) (b r : Nat) : (pad cs b).getD r 0 = cs.getD r 0 := by
  unfold pad
  split
  · by_cases h : r < cs.length
    · rw [List.getD_eq_getElem?_getD, List.getD_eq_getElem?_getD, List.getElem?_append_left h]
    · rw [List.getD_eq_getElem?_getD, List.getD_eq_getElem?_getD, List.getElem?_append_right (by omega), List.getElem?_replicate, List.getElem?_eq_none (by omega : cs.length ≤ r)]
      split <;> rfl
  · rfl
theorem bump_getD (cs : List Nat) (b r : Nat) : (bump cs b).getD r 0 = if r = b then cs.getD b 0 + 1 else cs.getD r 0 := by
  rw [bump, getD_set _ _ _ _ (by rw [pad_len]; omega), pad_getD, pad_getD]
/-- the last count is not nought -/
def NZ (cs : List Nat) : Prop := ∀ n, cs.length = n + 1 → cs.getD n 0 ≠ 0
theorem bump_nz {cs : List Nat} {b : Nat} (h : NZ cs) : NZ (bump cs b) := by
  intro n hn
  rw [bump_len] at hn
  rw [bump_getD]
  by_cases e : n = b
  · rw [if_pos e]; omega
  · rw [if_neg e]
    exact h n (by omega)
theorem nz_eq {a b : List Nat} (ha : NZ a) (hb : NZ b) (h : ∀ r, a.getD r 0 = b.getD r 0) : a = b := by
  have hlen : a.length = b.length := by
    rcases Nat.lt_trichotomy a.length b.length with hl | hl | hl
    · exfalso
      have := hb (b.length - 1) (by omega)
      rw [← h, List.getD_eq_getElem?_getD, List.getElem?_eq_none (by omega)] at this
      exact this rfl
    · exact hl
    · exfalso
      have := ha (a.length - 1) (by omega)
      rw [h, List.getD_eq_getElem?_getD, List.getElem?_eq_none (by omega)] at this
      exact this rfl
  refine List.ext_getElem hlen fun i h1 h2 => ?_
  have := h i
  rw [List.getD_eq_getElem?_getD, List.getD_eq_getElem?_getD, List.getElem?_eq_getElem h1, List.getElem?_eq_getElem h2] at this
  exact this
theorem ws_blanks (st : WSt) (r : Nat) : (List.replicate r 32).foldl wsStep st = ⟨st.cs, st.b + r, st.n + r, st.nt⟩ := by
  induction r generalizing st with
  | zero => rfl
  | succ r ih =>
    rw [List.replicate_succ, List.foldl_cons, ih, wsStep, if_pos rfl]
    simp only [WSt.mk.injEq, true_and, and_true]
    omega
def sumN (l : List Nat) : Nat := l.foldl (fun a r => a + (r + 1)) 0
/-- what the lead's closed runs make of the state -/
structure WsIs (st : WSt) (closed : List Nat) (bb : Nat) : Prop where
  b : st.b = bb
  nt : st.nt = closed.length
  cs : ∀ r, st.cs.getD r 0 = closed.count r
  nz : NZ st.cs
  len : ∀ B, (∀ r ∈ closed, r ≤ B) → st.cs.length ≤ B + 1
  n : st.n = sumN closed + bb
theorem ws_runs (closed : List Nat) : WsIs (wsOf (runsText closed)) closed 0 := by
  refine snoc_ind (P := fun closed => WsIs (wsOf (runsText closed)) closed 0) ?_ ?_ closed
  · exact ⟨rfl, rfl, fun r => rfl, fun n hn => (by simp [wsOf, runsText] at hn), fun B _ => Nat.zero_le _, rfl⟩
  · intro l r ih
    have e : wsOf (runsText (l ++ [r])) = ⟨bump (wsOf (runsText l)).cs r, 0, (wsOf (runsText l)).n + r + 1, (wsOf (runsText l)).nt + 1⟩ := by
      rw [runsText_app]
      show (runsText l ++ (List.replicate r 32 ++ [9] ++ [])).foldl wsStep ⟨[], 0, 0, 0⟩ = _
      rw [List.append_nil, List.foldl_append, List.foldl_append, ws_blanks]
      show wsStep _ 9 = _
      rw [wsStep, if_neg (by decide)]
      show (⟨bump (wsOf (runsText l)).cs ((wsOf (runsText l)).b + r), 0, _, _⟩ : WSt) = _
      rw [ih.b, Nat.zero_add]
      rfl
    rw [e]
    refine ⟨rfl, by rw [List.length_append, ← ih.nt]; rfl, fun k => ?_, bump_nz ih.nz, fun B hB => ?_, ?_⟩
    · show (bump _ r).getD k 0 = _
      rw [bump_getD, List.count_append, ih.cs, ih.cs, List.count_cons, List.count_nil]
      by_cases h : k = r
      · subst h; simp
      · rw [if_neg h]
        have h2 : (r == k) = false := by simpa using fun h' => h h'.symm
        simp [h2]
    · show (bump _ r).length ≤ _
      rw [bump_len]
      have h1 := ih.len B (fun x hx => hB x (by simp [hx]))
      have h2 := hB r (by simp)
      omega
    · show (wsOf (runsText l)).n + r + 1 = _
      rw [ih.n]
      simp only [sumN, List.foldl_append, List.foldl_cons, List.foldl_nil]
      omega
theorem ws_text (closed : List Nat) (behind : Nat) : WsIs (wsOf (textT closed behind)) closed behind := by
  have ih := ws_runs closed
  have e : wsOf (textT closed behind) = ⟨(wsOf (runsText closed)).cs, (wsOf (runsText closed)).b + behind, (wsOf (runsText closed)).n + behind, (wsOf (runsText closed)).nt⟩ := by
    rw [textT]
    show (runsText closed ++ List.replicate behind 32).foldl wsStep ⟨[], 0, 0, 0⟩ = _
    rw [List.foldl_append, ws_blanks]
    rfl
  rw [e]
  exact ⟨by rw [ih.b]; exact Nat.zero_add _, ih.nt, ih.cs, ih.nz, ih.len, by show (wsOf (runsText closed)).n + behind = _; rw [ih.n]; rfl⟩
/-- norm against norm -/
theorem norm_eq {a b : WSt} {ca cb : List Nat} {ba bb : Nat} (ha : WsIs a ca ba) (hb : WsIs b cb bb) : (a.cs = b.cs ∧ a.b = b.b) ↔ ((∀ r, ca.count r = cb.count r) ∧ ba = bb) := by
  constructor
  · rintro ⟨h1, h2⟩
    exact ⟨fun r => by rw [← ha.cs, ← hb.cs, h1], by rw [← ha.b, ← hb.b, h2]⟩
  · rintro ⟨h1, h2⟩
    exact ⟨nz_eq ha.nz hb.nz (fun r => by rw [ha.cs, hb.cs, h1]), by rw [ha.b, hb.b, h2]⟩
end Mine
end
section
open PySem PySem.W PyProof.Rows
set_option Elab.async false
set_option maxRecDepth 100000
set_option maxHeartbeats 8000000
set_option pp.maxSteps 20000
namespace Mine
local macro_rules | `(tactic| walk_at "pyIter ref") => `(tactic| (refine Hold.out ?_))
local macro_rules | `(tactic| walk_at "call builtin:str.replace") => `(tactic| (k_here; (refine SC.replaceW (by ((show @Ne Nat _ _); omega)) (by ((show @Ne Nat _ _); omega)) (by ((show @Ne Nat _ _); omega)) (by decide +kernel) (by omega) (by decide +kernel) ?_); intro t9 k9))
local macro_rules | `(tactic| k_mem) => `(tactic| first | assumption | (refine List.mem_cons_of_mem _ ?_; k_mem) | (refine List.mem_append.mpr (Or.inr ?_); k_mem) | (refine List.mem_append.mpr (Or.inl ?_); k_mem))
local macro_rules | `(tactic| walk_at "Turn") => `(tactic| ((first | refine Turn.ret ?_ | refine Turn.brk ?_); (try dsimp only); (try k_fold)))
local macro_rules | `(tactic| walk_at "pyIter str") => `(tactic| (refine Hold.out ?_))
local macro_rules | `(tactic| walk_at "exec For Name Name cons nil") => `(tactic| (k_here; (rename Fr _ _ _ _ => lF'); (with_unfolding_all refine' For_invVF lF' ?k1 ?k2 ?_; (case k1 => exact rfl); (case k2 => exact rfl); k_whole)))
local macro_rules | `(tactic| walk_at "exec For Name Attribute cons nil") => `(tactic| (k_here; (rename Fr _ _ _ _ => lF'); (with_unfolding_all refine' For_invVF lF' ?k1 ?k2 ?_; (case k1 => exact rfl); (case k2 => exact rfl); k_whole)))
local macro_rules | `(tactic| walk_at "exec For Name Call cons nil") => `(tactic| (k_here; (rename Fr _ _ _ _ => lF'); (with_unfolding_all refine' For_invVF lF' ?k1 ?k2 ?_; (case k1 => exact rfl); (case k2 => exact rfl); k_whole)))
theorem Small.runs {c : List Nat} {b : Nat} (h : Small c b) : ∀ r ∈ c, r ≤ 20 := h.2.1
local macro_rules | `(tactic| walk_at "exec Assign cons ListComp") => `(tactic| (k_here; k_dflt (refine LCg.Assign_ListComp_U (F₀ := by k_asm) (by rfl) (by with_unfolding_all rfl) (by with_unfolding_all rfl) (by decide) (by rfl) (by decide) (by rfl) (by rfl) (by rfl) ?_)))
local macro_rules | `(tactic| walk_at "CompSrc") => `(tactic| (refine Hold.out ?_))
local macro_rules | `(tactic| walk_at "CompEnd") => `(tactic| (refine Hold.out ?_))
local macro_rules | `(tactic| walk_at "call ref") => `(tactic| (k_here; (with_reducible show wpAny _ _ (call (Value.ref _) _) _ _ _); (refine Hold.out ?_)))
local macro_rules | `(tactic| walk_at "call ref") => `(tactic| (k_here; (with_reducible show wpAny _ _ (call (Value.ref _) _) _ _ _); k_dflt (refine' Gives.useS (text_spec _ _ _ _ _ ?c1 ?c2) ?k1 ?k2 ?k3 ?k4 ?k5 ?kK ?kd ?ku ?_; (case k1 => k_asm); (case k2 => k_asm); (case k3 => k_asm); (case k4 => k_asm); (case k5 => k_asm); (case kK => exact rfl); (case kd => ktr_room); (case ku => ktr_units); (case c1 => assumption); (case c2 => assumption); k_whole); intro t9 h9 tk9 hle9 F9 N9; (try dsimp only at hle9); (try dsimp only); (try k_fold)))
local macro_rules | `(tactic| walk_at "call ref") => `(tactic| (k_here; (with_reducible show wpAny _ _ (call (Value.ref _) _) _ _ _); k_dflt (refine' Gives.useS (barred_spec _ _ _ _ _ ?c1 ?c2) ?k1 ?k2 ?k3 ?k4 ?k5 ?kK ?kd ?ku ?_; (case k1 => k_asm); (case k2 => k_asm); (case k3 => k_asm); (case k4 => k_asm); (case k5 => k_asm); (case kK => exact rfl); (case kd => ktr_room); (case ku => ktr_units); (case c1 => assumption); (case c2 => assumption); k_whole); intro t9 h9 tk9 hle9 F9 N9; (try dsimp only at hle9); (try dsimp only); (try k_fold)))

local macro_rules | `(tactic| walk_at "call ref") => `(tactic| (k_here; (with_reducible show wpAny _ _ (call (Value.ref _) _) _ _ _); k_dflt (refine' Gives.useB (members_spec _ _ _ (wsOf (textT _ _)) _ _ _ ?c1 ?c2 ?c3 ?c4 ?c5 ?c6) ?k1 ?k2 ?k3 ?k4 ?k5 ?kK ?kd ?ku ?_; (case k1 => k_asm); (case k2 => k_asm); (case k3 => k_asm); (case k4 => k_asm); (case k5 => k_asm); (case kK => exact rfl); (case kd => ktr_room); (case ku => ktr_units); (case c1 => assumption); (case c2 => assumption); (case c3 => exact (ws_text _ _).cs); (case c4 => exact (ws_text _ _).nt); (case c5 => exact (ws_text _ _).b); (case c6 => exact (ws_text _ _).len 20 (Small.runs (by assumption))); k_whole); intro h9 tk9 hle9 F9 N9; (try dsimp only at hle9); (try dsimp only); (try k_fold)))
theorem same_iff (ca : List Nat) (ba : Nat) (cb : List Nat) (bb : Nat) : decide ((wsOf (textT ca ba)).cs = (wsOf (textT cb bb)).cs ∧ (wsOf (textT ca ba)).b = (wsOf (textT cb bb)).b) = true ↔ ((∀ r, ca.count r = cb.count r) ∧ ba = bb) := by
  rw [decide_eq_true_eq]
  exact norm_eq (ws_text ca ba) (ws_text cb bb)
local macro_rules | `(tactic| walk_at "call ref") => `(tactic| (k_here; (with_reducible show wpAny _ _ (call (Value.ref _) _) _ _ _); k_dflt (refine' Gives.useB (equal_spec _ _ _ _ (wsOf (textT _ _)) (wsOf (textT _ _)) ?c1 ?c2) ?k1 ?k2 ?k3 ?k4 ?k5 ?kK ?kd ?ku ?_; (case k1 => k_asm); (case k2 => k_asm); (case k3 => k_asm); (case k4 => k_asm); (case k5 => k_asm); (case kK => exact rfl); (case kd => ktr_room); (case ku => ktr_units); (case c1 => assumption); (case c2 => assumption); k_whole); intro h9 tk9 hle9 F9 N9; (try dsimp only at hle9); (try dsimp only); (try k_fold)))
local macro_rules | `(tactic| walk_at "call ref") => `(tactic| (k_here; (with_reducible show wpAny _ _ (call (Value.ref _) _) _ _ _); k_dflt (refine' Gives.useB (same_spec _ _ _ (wsOf (textT _ _)) _ _ _ _ _ _ (same_iff _ _ _ _) ?c1 ?c2 ?c7 ?c3 ?c4 ?c5 ?c6) ?k1 ?k2 ?k3 ?k4 ?k5 ?kK ?kd ?ku ?_; (case k1 => k_asm); (case k2 => k_asm); (case k3 => k_asm); (case k4 => k_asm); (case k5 => k_asm); (case kK => exact rfl); (case kd => ktr_room); (case ku => ktr_units); (case c1 => assumption); (case c2 => assumption); (case c3 => exact (ws_text _ _).cs); (case c4 => exact (ws_text _ _).nt); (case c5 => exact (ws_text _ _).b); (case c7 => assumption); (case c6 => exact (ws_text _ _).len 20 (Small.runs (by assumption))); k_whole); intro h9 tk9 hle9 F9 N9; (try dsimp only at hle9); (try dsimp only); (try k_fold)))
/-- the leads as the program holds them -/
def LeadsAt (news : List (Addr × Obj)) (vs : List Value) (ls : List (List Nat × Nat)) : Prop :=
  vs.length = ls.length ∧ ∀ (i : Nat) (l : List Nat × Nat), ls[i]? = some l → ∃ v, vs[i]? = some v ∧ LeadAt news v l.1 l.2
def WhitesAt (w : World) (news : List (Addr × Obj)) (vs : List Value) (sts : List WSt) : Prop :=
  vs.length = sts.length ∧ ∀ (i : Nat) (l : WSt), sts[i]? = some l → ∃ v, vs[i]? = some v ∧ WhiteAt w news v l
theorem WhitesAt.snoc {w : World} {news news' : List (Addr × Obj)} {vs : List Value} {sts : List WSt} {v : Value} {st : WSt} (h : WhitesAt w news vs sts) (hs : ∀ p ∈ news, p ∈ news') (hv : WhiteAt w news' v st) : WhitesAt w news' (vs ++ [v]) (sts ++ [st]) := by
  refine ⟨by simp [h.1], fun i l hi => ?_⟩
  by_cases hlt : i < sts.length
  · rw [List.getElem?_append_left hlt] at hi
    obtain ⟨u, h1, h2⟩ := h.2 i l hi
    exact ⟨u, by rw [List.getElem?_append_left (by rw [h.1]; exact hlt)]; exact h1, h2.mono hs⟩
  · rw [List.getElem?_append_right (by omega)] at hi
    have e : i - sts.length = 0 := by
      have := (List.getElem?_eq_some_iff.mp hi).1
      simp at this
      omega
    rw [e] at hi
    simp at hi
    subst hi
    exact ⟨v, by rw [List.getElem?_append_right (by rw [h.1]; omega), h.1, e]; rfl, hv⟩
theorem strs_get {vs : List Value} {ys : List Str} (h : StrsAre vs ys) : ∀ (i : Nat) (y : Str), ys[i]? = some y → ∃ t, vs[i]? = some (.str y t) := by
  induction h with
  | nil => intro i y hi; simp at hi
  | cons z t _ ih =>
    intro i y hi
    cases i with
    | zero => simp at hi; subst hi; exact ⟨t, by simp⟩
    | succ i => simp at hi; obtain ⟨t', h1⟩ := ih i y hi; exact ⟨t', by simpa using h1⟩
theorem S_tail : Str.ofString "| \t x" = S (124 :: [32, 9, 32, 120]) := by decide +kernel
theorem text_signs (closed : List Nat) (behind : Nat) : ∀ k ∈ textT closed behind, k = 32 ∨ k = 9 := by
  have h1 : ∀ k ∈ runsText closed, k = 32 ∨ k = 9 := by
    induction closed with
    | nil => intro k hk; cases hk
    | cons r rs ih =>
      intro k hk
      simp only [runsText, List.mem_append, List.mem_singleton] at hk
      rcases hk with (h | h) | h
      · exact .inl (List.eq_of_mem_replicate h)
      · exact .inr h
      · exact ih k h
  intro k hk
  rw [textT, List.mem_append] at hk
  exact hk.elim (h1 k) fun h => .inl (List.eq_of_mem_replicate h)
section
variable {prog : Program} {w : World} {A : Around} {E : Value → Shared → Prop} {s : Shared}
theorem item_list {value slice : PySem.Expr} {l : Addr} {vs : List Value} {k : Nat} {u : Tok} {v : Value} {Q : Value → Shared → Prop}
    (hl : s.heap.IsList l vs.toArray) (hhi : k < 1000000) (hx : vs[k]? = some v) (h : Q v s)
    (hs : subscripted slice false (.ref l) (.int (k : Int) u) = operate [.ref l, .int (k : Int) u] (getItem (.ref l) (.int (k : Int) u)) := by with_unfolding_all rfl) :
    wpAny (model prog w) A (subscriptTail value slice (.ref l) (.int (k : Int) u)) Q E s :=
  tail_any hl.typeIs slot_list_getitem.lookup (wpAny_getItem_list hl (by omega) (by omega) (by simpa using hx) h) hs
theorem len_listN {h₀ : Heap} {L l : Addr} {news : List (Addr × Obj)} {vs : List Value} {c k : Nat} {Q : Value → Shared → Prop} (N : News h₀ L s.heap news) (hm : (l, listOf vs.toArray c) ∈ news) (e : vs.length = k) (hk : k < 1000000)
    (h : ∀ t k', Q (.int (k : Int) t) { s with toks := k' }) : wpAny (model prog w) A (call (.builtin "len") [.ref l]) Q E s :=
  kst_len N hm e (by omega) (h _ _)
end
local macro_rules | `(tactic| walk_at "call builtin:len") => `(tactic| (k_here; (with_reducible show wpAny _ _ (call (Value.builtin "len") [Value.ref _]) _ _ _); k_dflt (refine' len_listN ?k1 ?k2 ?k3 ?k4 ?_; (case k1 => k_asm); (case k2 => k_mem); (case k3 => assumption); (case k4 => omega)); intro t9 k9))
local macro_rules | `(tactic| walk_at "subscriptTail") => `(tactic| (k_here; (with_reducible show wpAny _ _ (subscriptTail _ _ (Value.ref _) (Value.int _ _)) _ _ _); k_dflt (refine' item_list ?k1 ?k3 ?k4 ?_ ?k8; (case k1 => exact News.isList (by k_asm) (by k_mem)); (case k4 => assumption); (case k3 => omega); (case k8 => with_unfolding_all rfl))))
theorem holds_spec (w : World) (news : List (Addr × Obj)) (la : Addr) (vs : List Value) (nn : Nat) (ls : List (List Nat × Nat)) (hm : (la, listOf vs.toArray nn) ∈ news) (hl : LeadsAt news vs ls) (hs : ∀ l ∈ ls, Small l.1 l.2) (hlen : ls.length ≤ 20) :
    Gives w 155 12 [.ref la] news (fun r tl => tl = [] ∧ r = .bool true) := by
  w_top off
  unfold Gives
  w_top off
  k_fill
  intro mean mg mb dp un gd cn cs a ccd cl outer A₀ base h₀ L m s Q E B F X N T hk hd hu hret
  refine wpAny_call ?_
  k_dflt ktr_enter
  k_steps
  refine Hold.mk ?_
  (rename Fr _ _ _ _ => fF); (rename News _ _ _ _ => fN)
  have hvl := hl.1
  refine LCg.CompSrc.ledger (by rfl) fF fN hm (by rw [List.size_toArray, sizeLine_eq]; omega) (fun g => ?_)
  rw [List.size_toArray]
  refine comp_ind (fun i ys nw => (∃ tl, nw = tl ++ news) ∧ WhitesAt w nw ys ((ls.take i).map fun l => wsOf (textT l.1 l.2))) ⟨⟨[], rfl⟩, rfl, fun i l h => by simp at h⟩ ?_ ?_
  · rintro i ys nw v I oI C oC D m2 h tk E' hi ⟨⟨tl, rfl⟩, hW⟩ hv hC hx F1 N1 hoff hne
    have hv' : vs[i]? = some v := by simpa using hv
    obtain ⟨l, hl1⟩ : ∃ l, ls[i]? = some l := ⟨_, List.getElem?_eq_getElem (by omega)⟩
    obtain ⟨v', hv1, hLead0⟩ := hl.2 i l hl1
    have e := Option.some.inj (hv'.symm.trans hv1)
    subst e
    have hSm := hs l (List.mem_of_getElem? hl1)
    have hLead : LeadAt ((I, oI) :: (C, oC) :: (D, LCg.lst ys) :: (tl ++ news)) v l.1 l.2 := hLead0.mono (fun p hp => by simp [hp])
    have hlt := textT_len hSm
    clear fF fN
    k_steps
    refine Hold.mk ?_
    rw [S_tail, S_app]
    k_dflt (refine' Gives.use (init_spec w _ (textT l.1 l.2) 124 _ _ ?c1 ?c2 ?c3) ?k1 ?k2 ?k3 ?k4 ?k5 ?kK ?kd ?ku ?_)
    case k1 => k_asm
    case k2 => k_asm
    case k3 => k_asm
    case k4 => k_asm
    case k5 => k_asm
    case kK => exact rfl
    case kd => ktr_room
    case ku => ktr_units
    case c1 => rw [S_len] at hlt; simp only [List.length_append, List.length_cons, List.length_nil]; omega
    case c2 => exact text_signs _ _
    case c3 => decide
    intro r9 tl9 h9 tk9 hle9 F9 N9 ho9 hw9
    k_steps
    refine Hold.mk ?_
    refine LCg.CompEnd.intro F9 N9 (tl9 ++ (tl ++ news)) ?sub ?off ?hS ?r
    case sub => intro p hp; simp only [List.mem_cons, List.mem_append] at hp ⊢; grind
    case off =>
      refine LCg.Off3.of fun p hp => ?_
      rcases List.mem_append.mp hp with h | h
      · exact ⟨(Nat.ne_of_lt (ho9 p h _ (.head _))).symm, (Nat.ne_of_lt (ho9 p h _ (.tail _ (.head _)))).symm, (Nat.ne_of_lt (ho9 p h _ (.tail _ (.tail _ (.head _))))).symm⟩
      · exact hoff.mem p h
    case hS => exact .inr ⟨_, List.mem_append.mpr (.inr (List.mem_append.mpr (.inr hm))), rfl, _, rfl⟩
    case r =>
      refine ⟨⟨tl9 ++ tl, by simp⟩, ?_⟩
      rw [List.take_add_one, hl1]
      simp only [Option.toList_some, List.map_append, List.map_cons, List.map_nil]
      exact hW.snoc (fun p hp => List.mem_append.mpr (.inr hp)) (hw9.mono fun p hp => List.mem_append.mpr (.inl hp))
  · rintro ys nw ⟨⟨tl, rfl⟩, hW⟩
    intro D h tk F1 N1 hD
    rw [hvl, List.take_length] at hW
    clear fF fN
    k_steps
    refine Hold.mk ?_
    (rename Fr _ _ _ _ => fF); (rename News _ _ _ _ => fN)
    refine LCg.CompSrc.ledger (by rfl) fF fN (.tail _ (List.mem_append.mpr (.inr hm))) (by rw [List.size_toArray, sizeLine_eq]; omega) (fun g => ?_)
    rw [List.size_toArray]
    refine comp_ind (fun i zs nw => nw = (D, LCg.lst ys) :: (tl ++ news) ∧ StrsAre zs ((ls.take i).map fun l => S (barT l.1 l.2))) ⟨rfl, .nil⟩ ?_ ?_
    · rintro i zs nw v I oI C oC D2 m2 h tk E' hi ⟨rfl, hZ⟩ hv hC hx F1 N1 hoff hne
      have hv' : vs[i]? = some v := by simpa using hv
      obtain ⟨l, hl1⟩ : ∃ l, ls[i]? = some l := ⟨_, List.getElem?_eq_getElem (by omega)⟩
      obtain ⟨v', hv1, hLead0⟩ := hl.2 i l hl1
      have e := Option.some.inj (hv'.symm.trans hv1)
      subst e
      have hSm := hs l (List.mem_of_getElem? hl1)
      have hLead : LeadAt ((I, oI) :: (C, oC) :: (D2, LCg.lst zs) :: (D, LCg.lst ys) :: (tl ++ news)) v l.1 l.2 := hLead0.mono (fun p hp => by simp [hp])
      clear fF fN
      k_steps
      refine Hold.mk ?_
      refine LCg.CompEnd.intro (by assumption) (by assumption) ((D, LCg.lst ys) :: (tl ++ news)) (fun p hp => hp) hoff ?hS ?r
      case hS => exact .inr ⟨_, .tail _ (List.mem_append.mpr (.inr hm)), rfl, _, rfl⟩
      case r =>
        refine ⟨rfl, ?_⟩
        rw [List.take_add_one, hl1]
        simp only [Option.toList_some, List.map_append, List.map_cons, List.map_nil]
        exact KStt.strs_snoc hZ
    · rintro zs nw ⟨rfl, hZ⟩
      intro D2 h tk F1 N1 hD2
      rw [hvl, List.take_length] at hZ
      clear fF fN
      k_steps
      refine Hold.mk ?_
      (rename Fr _ _ _ _ => fF); (rename News _ _ _ _ => fN); (rename IsRange _ _ _ _ _ _ _ _ => rgX)
      refine' loop_rangeC (σ := Unit) (n := ls.length) (fun _ => []) [Str.ofString "j", Str.ofString "said"] (fun _ _ => True) () (by rfl) rgX (small_one (by omega) (by omega) (by omega) (by omega)) ?kn fF fN ?k1 trivial ?_ ?_
      case kn => rw [rangeSize_nat]; omega
      case k1 => kst_all
      · rintro ⟨⟩ i ti u2 h tk own hi hP hoff F1 N1
        rw [Int.zero_add] at F1
        clear fF fN; dsimp only [kstB] at F1
        obtain ⟨l, hl1⟩ : ∃ l, ls[i]? = some l := ⟨_, List.getElem?_eq_getElem (by omega)⟩
        obtain ⟨wv, hw1, hw2⟩ := hW.2 i _ (by rw [List.getElem?_map, hl1]; rfl)
        obtain ⟨gt, hg1⟩ := strs_get hZ i _ (by rw [List.getElem?_map, hl1]; rfl)
        have hSm := hs l (List.mem_of_getElem? hl1)
        have hwA : WhiteAt w ((D2, LCg.lst zs) :: (D, LCg.lst ys) :: (tl ++ news) ++ own) wv (wsOf (textT l.1 l.2)) := hw2.mono (fun p hp => List.mem_append.mpr (.inl (.tail _ (.tail _ hp))))
        k_steps
        refine Hold.mk ?_
        (rename Fr _ _ _ _ => fF); (rename News _ _ _ _ => fN); (rename IsRange _ _ _ _ _ _ _ _ => rgY)
        refine' loop_rangeC (σ := Unit) (n := ls.length) (fun _ => []) [Str.ofString "said"] (fun _ _ => True) () (by rfl) rgY (small_one (by omega) (by omega) (by omega) (by omega)) ?kn fF fN ?k1 trivial ?_ ?_
        case kn => rw [rangeSize_nat]; omega
        case k1 => kst_all
        · rintro ⟨⟩ j tj u3 h tk own2 hj hP hoff2 F1 N1
          rw [Int.zero_add] at F1
          clear fF fN; dsimp only [kstB] at F1
          obtain ⟨l2, hl2⟩ : ∃ l, ls[j]? = some l := ⟨_, List.getElem?_eq_getElem (by omega)⟩
          obtain ⟨wv2, hw3, hw4⟩ := hW.2 j _ (by rw [List.getElem?_map, hl2]; rfl)
          obtain ⟨gt2, hg2⟩ := strs_get hZ j _ (by rw [List.getElem?_map, hl2]; rfl)
          have hSm2 := hs l2 (List.mem_of_getElem? hl2)
          have hwA1 : WhiteAt w ((D2, LCg.lst zs) :: (D, LCg.lst ys) :: (tl ++ news) ++ own ++ own2) wv (wsOf (textT l.1 l.2)) := hwA.mono (fun p hp => List.mem_append.mpr (.inl hp))
          have hwA2 : WhiteAt w ((D2, LCg.lst zs) :: (D, LCg.lst ys) :: (tl ++ news) ++ own ++ own2) wv2 (wsOf (textT l2.1 l2.2)) := hw4.mono (fun p hp => List.mem_append.mpr (.inl (List.mem_append.mpr (.inl (.tail _ (.tail _ hp))))))
          have hwC1 := hwA1
          have hwC2 := hwA2
          obtain ⟨x1, dx1, nm1, ct1, raw1, vs1, tn1, tt1, tb1, c11, c12, c13, c14, c15, e1, hm11, hm12, hm13, hm14, hI1⟩ := hwC1
          obtain ⟨x2, dx2, nm2, ct2, raw2, vs2, tn2, tt2, tb2, c21, c22, c23, c24, c25, e2, hm21, hm22, hm23, hm24, hI2⟩ := hwC2
          rw [e1] at hwA1 hw1
          rw [e2] at hwA2 hw3
          clear hwA hw2 hw4
          k_steps
          · (rename (_ != _) = true => hq)
            exact (by simp at hq : False).elim
          · refine' Turn.next () (by assumption) (by assumption) (fun p hp => List.mem_append.mpr (.inr hp)) (fun p hp => List.mem_append.mpr (.inl hp)) hoff2 ?k1 ?k2 trivial
            case k1 => kst_all
            case k2 => kst_same
        · rintro ⟨⟩ u3 h tk hP F1 N1
          clear fF fN; dsimp only [kstB] at F1
          k_steps
          refine' Turn.next () (by assumption) (by assumption) (fun p hp => List.mem_append.mpr (.inr hp)) (fun p hp => List.mem_append.mpr (.inl hp)) hoff ?k1 ?k2 trivial
          case k1 => kst_all
          case k2 => kst_same
      · rintro ⟨⟩ u2 h tk hP F1 N1
        clear fF fN; dsimp only [kstB] at F1
        k_steps
        refine' hret _ [] _ _ ?e1 ?e2 (fun _ h => nomatch h) ⟨rfl, rfl⟩
        case e1 => assumption
        case e2 => exact cb_drop (by assumption) (by intro p hp; simp only [List.nil_append] at hp; simp [hp])
end Mine
end
section
open PySem PySem.W PyProof.Rows
set_option Elab.async false
set_option maxRecDepth 100000
namespace Mine
open PySem.Spec PySem.Calls PyProof.V
theorem off_same {own a b : List (Addr × Obj)} (hm : b.map (·.1) = a.map (·.1)) (h : ∀ p ∈ own, ∀ q ∈ a, p.1 ≠ q.1) : ∀ p ∈ own, ∀ q ∈ b, p.1 ≠ q.1 := by
  intro p hp q hq e
  have h1 : q.1 ∈ b.map (·.1) := List.mem_map_of_mem hq
  rw [hm] at h1
  obtain ⟨r, hr, he⟩ := List.mem_map.mp h1
  exact h p hp r hr (by rw [e, he])
section
variable {prog : Program} {w : World} {A : Around} {E : Value → Shared → Prop} {s : Shared} {env : Env} {h₀ : Heap} {x : Str} {body : List Stmt} {Q : Flow → Shared → Prop}
/-- over a list; one list beside it grows -/
theorem loop_list2 {l lc : Addr} {vs cs₀ : List Value} {nn n₀ : Nat} {news : List (Addr × Obj)} {m₀ : Str → Option Value} (P : Nat → List Value → Prop)
    (hh : A.handled = none) (F : Fr h₀ env.locals s.heap m₀) (N : News h₀ env.locals s.heap ((l, listOf vs.toArray nn) :: (lc, listOf cs₀.toArray n₀) :: news)) (hlt : @LT.lt Nat _ lc l) (hln : ∀ p ∈ news, p.1 < lc) (hp : P 0 cs₀)
    (turn : ∀ (c : List Value × Nat) i v (u : Str → Option Value) h tk own, vs[i]? = some v → P i c.1 → (∀ p ∈ own, ∀ q ∈ (l, listOf vs.toArray nn) :: (lc, listOf c.1.toArray c.2) :: news, p.1 ≠ q.1) →
      (∀ p ∈ news ++ own, p.1 ≠ lc) →
      Fr h₀ env.locals h (fun y => if y = x then some v else kstB (fun z => if ([] : List Str).contains z then u z else m₀ z) [] y) → News h₀ env.locals h ((l, listOf vs.toArray nn) :: (lc, listOf c.1.toArray c.2) :: (news ++ own)) →
      wpAny (model prog w) A (execs body env) (Turn h₀ env.locals x (fun c : List Value × Nat => (l, listOf vs.toArray nn) :: (lc, listOf c.1.toArray c.2) :: news) (fun _ => []) [] m₀ (fun c => P (i + 1) c.1) own { s with heap := h, toks := tk } Q) E { s with heap := h, toks := tk })
    (done : ∀ (c : List Value × Nat) (u : Str → Option Value) h tk, P vs.length c.1 → Fr h₀ env.locals h (fun y => if y = x then u y else kstB (fun z => if ([] : List Str).contains z then u z else m₀ z) [] y) → News h₀ env.locals h ((l, listOf vs.toArray nn) :: (lc, listOf c.1.toArray c.2) :: news) → Q .next { s with heap := h, toks := tk }) :
    wpAny (model prog w) A (pyIter (.ref l)) (fun it s₂ => LoopAtV prog w A h₀ env x body Q E it s₂) E s := by
  refine loop_list (fun c : List Value × Nat => (l, listOf vs.toArray nn) :: (lc, listOf c.1.toArray c.2) :: news) (fun _ => []) [] (fun i c => P i c.1) (cs₀, n₀) hh (fun _ => .head _) F N (fun p hp => nomatch hp) hp ?_ done
  intro c i v u h tk own hv hP hoff F1 N1
  refine turn c i v u h tk own hv hP hoff (fun p hp => ?_) F1 N1
  rcases List.mem_append.mp hp with h | h
  · exact Nat.ne_of_lt (hln p h)
  · exact hoff p h _ (.tail _ (.head _))
/-- over a range; two lists grow -/
theorem loop_range2 {r ga mv : Addr} {a₀ b₀ : Int} {t₀ u₀ v₀ : Tok} {n : Nat} {gs₀ ms₀ : List Value} {kg km : Nat} {news : List (Addr × Obj)} {m₀ : Str → Option Value} (P : Nat → List Value → List Value → Prop)
    (hh : A.handled = none) (hr : IsRange s.heap r a₀ b₀ 1 t₀ u₀ v₀) (hsmall : Builtin.Range.small a₀ b₀ 1 = true) (hn : Builtin.Range.rangeSize a₀ b₀ 1 = (n : Int)) (F : Fr h₀ env.locals s.heap m₀)
    (N : News h₀ env.locals s.heap ((mv, listOf ms₀.toArray km) :: (ga, listOf gs₀.toArray kg) :: news)) (hlt : @LT.lt Nat _ ga mv) (hln : ∀ p ∈ news, p.1 < ga) (hp : P 0 gs₀ ms₀)
    (turn : ∀ (c : (List Value × Nat) × (List Value × Nat)) (i : Nat) t (u : Str → Option Value) h tk own, i < n → P i c.1.1 c.2.1 → (∀ p ∈ own, ∀ q ∈ (mv, listOf c.2.1.toArray c.2.2) :: (ga, listOf c.1.1.toArray c.1.2) :: news, p.1 ≠ q.1) →
      (∀ p ∈ news ++ own, p.1 ≠ ga) → (∀ p ∈ news ++ own, p.1 ≠ mv) →
      Fr h₀ env.locals h (fun y => if y = x then some (.int (a₀ + (i : Int)) t) else kstB (fun z => if ([] : List Str).contains z then u z else m₀ z) [] y) → News h₀ env.locals h ((mv, listOf c.2.1.toArray c.2.2) :: (ga, listOf c.1.1.toArray c.1.2) :: (news ++ own)) →
      wpAny (model prog w) A (execs body env) (Turn h₀ env.locals x (fun c : (List Value × Nat) × (List Value × Nat) => (mv, listOf c.2.1.toArray c.2.2) :: (ga, listOf c.1.1.toArray c.1.2) :: news) (fun _ => []) [] m₀ (fun c => P (i + 1) c.1.1 c.2.1) own { s with heap := h, toks := tk } Q) E { s with heap := h, toks := tk })
    (done : ∀ (c : (List Value × Nat) × (List Value × Nat)) (u : Str → Option Value) h tk, P n c.1.1 c.2.1 → Fr h₀ env.locals h (fun y => if y = x then u y else kstB (fun z => if ([] : List Str).contains z then u z else m₀ z) [] y) → News h₀ env.locals h ((mv, listOf c.2.1.toArray c.2.2) :: (ga, listOf c.1.1.toArray c.1.2) :: news) → Q .next { s with heap := h, toks := tk }) :
    wpAny (model prog w) A (pyIter (.ref r)) (fun it s₂ => LoopAtV prog w A h₀ env x body Q E it s₂) E s := by
  refine loop_range (fun c : (List Value × Nat) × (List Value × Nat) => (mv, listOf c.2.1.toArray c.2.2) :: (ga, listOf c.1.1.toArray c.1.2) :: news) (fun _ => []) [] (fun i c => P i c.1.1 c.2.1) ((gs₀, kg), (ms₀, km)) hh hr hsmall hn F N (fun p hp => nomatch hp) hp ?_ done
  intro c i t u h tk own hi hP hoff F1 N1
  refine turn c i t u h tk own hi hP hoff (fun p hp => ?_) (fun p hp => ?_) F1 N1
  · rcases List.mem_append.mp hp with h | h
    · exact Nat.ne_of_lt (hln p h)
    · exact hoff p h _ (.tail _ (.head _))
  · rcases List.mem_append.mp hp with h | h
    · exact Nat.ne_of_lt (Nat.lt_trans (hln p h) hlt)
    · exact hoff p h _ (.head _)
end
end Mine
end
section
open PySem PySem.W PyProof.Rows
set_option Elab.async false
set_option maxRecDepth 100000
set_option maxHeartbeats 8000000
set_option pp.maxSteps 20000
namespace Mine
local macro_rules | `(tactic| walk_at "pyIter ref") => `(tactic| (refine Hold.out ?_))
local macro_rules | `(tactic| walk_at "call builtin:str.replace") => `(tactic| (k_here; (refine SC.replaceW (by ((show @Ne Nat _ _); omega)) (by ((show @Ne Nat _ _); omega)) (by ((show @Ne Nat _ _); omega)) (by decide +kernel) (by omega) (by decide +kernel) ?_); intro t9 k9))
local macro_rules | `(tactic| k_mem) => `(tactic| first | assumption | (refine List.mem_cons_of_mem _ ?_; k_mem) | (refine List.mem_append.mpr (Or.inr ?_); k_mem) | (refine List.mem_append.mpr (Or.inl ?_); k_mem))
local macro_rules | `(tactic| k_all) => `(tactic| assumption)
local macro_rules | `(tactic| walk_at "Turn") => `(tactic| ((first | refine Turn.ret ?_ | refine Turn.brk ?_); (try dsimp only); (try k_fold)))
local macro_rules | `(tactic| walk_at "pyIter str") => `(tactic| (refine Hold.out ?_))
local macro_rules | `(tactic| walk_at "exec For Name Name cons nil") => `(tactic| (k_here; (rename Fr _ _ _ _ => lF'); (with_unfolding_all refine' For_invVF lF' ?k1 ?k2 ?_; (case k1 => exact rfl); (case k2 => exact rfl); k_whole)))
local macro_rules | `(tactic| walk_at "exec For Name Subscript cons nil") => `(tactic| (k_here; (rename Fr _ _ _ _ => lF'); (with_unfolding_all refine' For_invVF lF' ?k1 ?k2 ?_; (case k1 => exact rfl); (case k2 => exact rfl); k_whole)))
local macro_rules | `(tactic| walk_at "exec For Name Attribute cons nil") => `(tactic| (k_here; (rename Fr _ _ _ _ => lF'); (with_unfolding_all refine' For_invVF lF' ?k1 ?k2 ?_; (case k1 => exact rfl); (case k2 => exact rfl); k_whole)))
local macro_rules | `(tactic| walk_at "exec For Name Call cons nil") => `(tactic| (k_here; (rename Fr _ _ _ _ => lF'); (with_unfolding_all refine' For_invVF lF' ?k1 ?k2 ?_; (case k1 => exact rfl); (case k2 => exact rfl); k_whole)))

theorem int_at {vs : List Value} {ns : List Int} (h : IntsAre vs ns) {i : Nat} {v : Value} (hv : vs[i]? = some v) : ∃ r t, ns[i]? = some r ∧ v = .int r t := by
  have hl : vs.length = ns.length := h.length
  have hi : i < ns.length := by rw [← hl]; exact (List.getElem?_eq_some_iff.mp hv).1
  obtain ⟨t, ht⟩ := h.get i ns[i] (by simp [hi])
  rw [hv] at ht
  exact ⟨ns[i], t, by simp [hi], Option.some.inj ht⟩
theorem ints_snoc {vs : List Value} {ns : List Int} {n : Int} {t : Tok} (h : IntsAre vs ns) : IntsAre (vs ++ [.int n t]) (ns ++ [n]) := by
  induction h with
  | nil => exact .cons n t .nil
  | cons a u _ ih => exact .cons a u ih
theorem closed_nat {c : List Value} {ns : List Int} {k : Nat} (h : IntsAre c (1 :: 0 :: ((ns.take 5).take k).map fun n => Int.fmod n 5)) :
    ∃ cN : List Nat, IntsAre c (cN.map fun (k : Nat) => (k : Int)) ∧ 2 ≤ cN.length ∧ cN.length ≤ 15 ∧ ∀ r ∈ cN, r ≤ 4 := by
  have hb : ∀ n : Int, 0 ≤ Int.fmod n 5 ∧ Int.fmod n 5 ≤ 4 := fun n => by
    have h1 := Int.fmod_nonneg_of_pos n (by decide : (0 : Int) < 5)
    have h2 := Int.fmod_lt_of_pos n (by decide : (0 : Int) < 5)
    omega
  refine ⟨1 :: 0 :: ((ns.take 5).take k).map fun n => (Int.fmod n 5).toNat, ?_, ?_, ?_, ?_⟩
  · have e : ((1 :: 0 :: ((ns.take 5).take k).map fun n => (Int.fmod n 5).toNat : List Nat).map fun (k : Nat) => (k : Int)) = 1 :: 0 :: ((ns.take 5).take k).map fun n => Int.fmod n 5 := by
      simp only [List.map_cons, List.map_map]
      refine congrArg (fun l => (1 : Int) :: 0 :: l) (List.map_congr_left fun n _ => ?_)
      show (((Int.fmod n 5).toNat : Nat) : Int) = _
      exact Int.toNat_of_nonneg (hb n).1
    rw [e]; exact h
  · simp
  · simp only [List.length_cons, List.length_map, List.length_take]; omega
  · intro r hr
    simp only [List.mem_cons, List.mem_map] at hr
    rcases hr with rfl | rfl | ⟨n, _, rfl⟩
    · decide
    · decide
    · have := hb n; omega
section
variable {prog : Program} {w : World} {A : Around} {E : Value → Shared → Prop} {s : Shared}
theorem item_nat {cN : List Nat} {value slice : PySem.Expr} {l : Addr} {vs : List Value} {k : Int} {u : Tok} {Q : Value → Shared → Prop} (hl : s.heap.IsList l vs.toArray) (hi : IntsAre vs (cN.map fun (k : Nat) => (k : Int)))
    (h4 : ∀ r ∈ cN, r ≤ 4) (h0 : 0 ≤ k) (h1 : k < cN.length) (hfit : k < 2 ^ 63) (h : ∀ t, cN.getD k.toNat 0 ≤ 4 → Q (.int ((cN.getD k.toNat 0 : Nat) : Int) t) s)
    (hs : subscripted slice false (.ref l) (.int k u) = operate [.ref l, .int k u] (getItem (.ref l) (.int k u)) := by with_unfolding_all rfl) :
    wpAny (model prog w) A (subscriptTail value slice (.ref l) (.int k u)) Q E s := by
  refine item_anyK hl hi h0 (by rw [List.length_map]; exact h1) hfit (fun t => ?_) hs
  have hk : k.toNat < cN.length := by omega
  have e : (cN.map fun (k : Nat) => (k : Int)).getD k.toNat 0 = ((cN.getD k.toNat 0 : Nat) : Int) := by
    rw [List.getD_eq_getElem?_getD, List.getD_eq_getElem?_getD, List.getElem?_map, List.getElem?_eq_getElem hk]
    rfl
  rw [e]
  refine h t ?_
  rw [List.getD_eq_getElem?_getD, List.getElem?_eq_getElem hk]
  exact h4 _ (List.getElem_mem hk)
end
local macro_rules | `(tactic| walk_at "call builtin:len") => `(tactic| (k_here; (with_reducible show wpAny _ _ (call (Value.builtin "len") [Value.ref _]) _ _ _); k_dflt (refine' len_listN ?k1 ?k2 ?k3 ?k4 ?_; (case k1 => k_asm); (case k2 => k_mem); (case k3 => assumption); (case k4 => omega)); intro t9 k9))
local macro_rules | `(tactic| walk_at "subscriptTail") => `(tactic| (k_here; (with_reducible show wpAny _ _ (subscriptTail _ _ (Value.ref _) (Value.int _ _)) _ _ _); k_dflt (refine' item_nat ?k1 ?k3 ?k4 ?k5 ?k6 ?k7 ?_ ?k8; (case k1 => exact News.isList (by k_asm) (by k_mem)); (case k3 => assumption); (case k4 => assumption); (case k5 => omega); (case k6 => omega); (case k7 => omega); (case k8 => with_unfolding_all rfl)); intro t9 hc9))
theorem item_val {cN : List Nat} {i : Nat} (h4 : ∀ r ∈ cN, r ≤ 4) (h : i < cN.length) : (cN.map fun (k : Nat) => (k : Int)).getD (i : Int).toNat 0 = ((cN.getD i 0 : Nat) : Int) ∧ cN.getD i 0 ≤ 4 := by
  have e : (i : Int).toNat = i := rfl
  rw [e]
  rw [List.getD_eq_getElem?_getD, List.getD_eq_getElem?_getD, List.getElem?_map, List.getElem?_eq_getElem h]
  exact ⟨rfl, h4 _ (List.getElem_mem h)⟩
theorem leads_step {cN gN : List Nat} {pl : Int} {mN : List Int} {g mv : List Value} {i : Nat} {x y : Int} {t t' : Tok} (hg1 : IntsAre g (gN.map fun (k : Nat) => (k : Int))) (hg2 : gN.length = i) (hg3 : ∀ r ∈ gN, r ≤ 5)
    (hm1 : IntsAre mv mN) (hm2 : mN.length = i) (hm3 : cN.getD pl.toNat 0 ≠ 0 → ∀ r ∈ mN, 0 ≤ r ∧ r ≤ 5) (hx : 0 ≤ x ∧ x ≤ 5) (hy : cN.getD pl.toNat 0 ≠ 0 → 0 ≤ y ∧ y ≤ 5) :
    (∃ gN : List Nat, IntsAre (g ++ [Value.int x t]) (gN.map fun (k : Nat) => (k : Int)) ∧ gN.length = i + 1 ∧ ∀ r ∈ gN, r ≤ 5) ∧ ∃ mN : List Int, IntsAre (mv ++ [Value.int y t']) mN ∧ mN.length = i + 1 ∧ (cN.getD pl.toNat 0 ≠ 0 → ∀ r ∈ mN, 0 ≤ r ∧ r ≤ 5) := by
  refine ⟨⟨gN ++ [x.toNat], ?_, by simp [hg2], ?_⟩, mN ++ [y], ints_snoc hm1, by simp [hm2], ?_⟩
  · rw [List.map_append]
    have e : ((x.toNat : Nat) : Int) = x := Int.toNat_of_nonneg hx.1
    have := ints_snoc (n := x) (t := t) hg1
    simpa [e] using this
  · intro r hr
    rcases List.mem_append.mp hr with h | h
    · exact hg3 r h
    · rw [List.mem_singleton.mp h]; omega
  · intro hne r hr
    rcases List.mem_append.mp hr with h | h
    · exact hm3 hne r h
    · rw [List.mem_singleton.mp h]; exact hy hne
/-- what _law_leads hands back -/
def LeadsMade (tl : List (Addr × Obj)) (r : Value) : Prop :=
  ∃ la vs nn ls, r = .ref la ∧ (la, listOf vs.toArray nn) ∈ tl ∧ LeadsAt tl vs ls ∧ (∀ l ∈ ls, Small l.1 l.2) ∧ ls.length ≤ 20
theorem made5 {tl : List (Addr × Obj)} {la : Addr} {v1 v2 v3 v4 v5 : Value} {nn : Nat} {l1 l2 l3 l4 l5 : List Nat × Nat} (hm : (la, listOf [v1, v2, v3, v4, v5].toArray nn) ∈ tl)
    (h1 : LeadAt tl v1 l1.1 l1.2) (h2 : LeadAt tl v2 l2.1 l2.2) (h3 : LeadAt tl v3 l3.1 l3.2) (h4 : LeadAt tl v4 l4.1 l4.2) (h5 : LeadAt tl v5 l5.1 l5.2)
    (s1 : Small l1.1 l1.2) (s2 : Small l2.1 l2.2) (s3 : Small l3.1 l3.2) (s4 : Small l4.1 l4.2) (s5 : Small l5.1 l5.2) : LeadsMade tl (.ref la) := by
  refine ⟨la, _, nn, [l1, l2, l3, l4, l5], rfl, hm, ⟨rfl, fun i l hi => ?_⟩, fun l hl => ?_, by simp⟩
  · match i, hi with
    | 0, hi => simp at hi; subst hi; exact ⟨v1, rfl, h1⟩
    | 1, hi => simp at hi; subst hi; exact ⟨v2, rfl, h2⟩
    | 2, hi => simp at hi; subst hi; exact ⟨v3, rfl, h3⟩
    | 3, hi => simp at hi; subst hi; exact ⟨v4, rfl, h4⟩
    | 4, hi => simp at hi; subst hi; exact ⟨v5, rfl, h5⟩
    | n + 5, hi => simp at hi
  · simp only [List.mem_cons, List.not_mem_nil, or_false] at hl
    rcases hl with rfl | rfl | rfl | rfl | rfl
    · exact s1
    · exact s2
    · exact s3
    · exact s4
    · exact s5
theorem leads_spec (w : World) (news : List (Addr × Obj)) (sc : Addr) (vs : List Value) (ns : List Int) (hns : ns.length ≤ 63) (hI : IntsAre vs ns)  :
    ∀ (mean : ExcName → Option Value) (mg mb : Str → Option Value) (dp un : Nat) (gd : Option (List Code)) (cn : Str) (cs : Scope) (a : Addr) (ccd : Value) (cl : List (Str × Addr)) (outer : List Env) (A₀ : Around) (base h₀ : Heap) (L : Addr) (m : Str → Option Value) (s : Shared)
    (Q E : Value → Shared → Prop),
    Below A₀ base outer h₀ → Fr h₀ L s.heap m → (hd.heap_39 w.params).In h₀ → News h₀ L s.heap news → Top hd.view_39 (looseW hd.view_39 [Str.ofString "Whitespace"]) mean mg mb h₀ → h₀.IsList sc vs.toArray → cs.kind = .function → dp + 2 < recursionLimit → un + 8 * 2 < cLine →
    (∀ r tl h' tk', Fr h₀ L h' m → News h₀ L h' (tl ++ news) → LeadsMade tl r → Q r { s with heap := h', toks := tk' }) →
    wpAny (model Challenge.rw_mj0186_02.row.prog w) (ktrTop dp un gd cn cs L a ccd cl outer) (call (.ref 101) [.ref sc]) Q E s := by
  w_top off
  k_fill
  intro mean mg mb dp un gd cn cs a ccd cl outer A₀ base h₀ L m s Q E B F X N T hsc hk hd hu hret
  refine wpAny_call ?_
  k_dflt ktr_enter
  (rename Fr h₀ L _ m => fG)
  have hsc2 := hsc.at (fun o e => fG.keep sc o e)
  k_steps
  refine Hold.mk ?_
  (rename Fr _ _ _ _ => fF); (rename News _ _ _ _ => fN)
  (rename IntsAre _ (List.take 5 ns) => hI5)
  (rename (∀ p ∈ news, p.1 < _) => hl0)
  refine loop_list2 (fun i c => IntsAre c (1 :: 0 :: ((ns.take 5).take i).map fun n => Int.fmod n 5)) (by rfl) fF fN (by omega) hl0 (.cons _ _ (.cons _ _ .nil)) ?_ ?_
  · rintro ⟨c, kc⟩ i v u h tk own hv hP hoff hall F1 N1
    dsimp only at hP N1 hoff
    obtain ⟨n, tn, hn, rfl⟩ := int_at hI5 hv
    have hlc : c.length ≤ 7 := by
      have := hP.length
      simp only [List.length_cons, List.length_map, List.length_take] at this
      omega
    clear fF fN; dsimp only [kstB] at F1
    k_steps
    (rename News _ _ _ _ => nE)
    try simp only [List.push_toArray] at nE
    refine Turn.next (_, _) (by assumption) nE (fun p hp => by simp [hp]) (List.forall_mem_cons.mpr ⟨.head _, List.forall_mem_cons.mpr ⟨.tail _ (.head _), fun p hp => by simp [hp]⟩⟩) (off_same (by rfl) hoff) (by kst_all) ?h5 ?h6
    case h5 => kst_same
    case h6 =>
      rw [List.take_add_one, hn]
      simp only [Option.toList_some, List.map_append, List.map_cons, List.map_nil]
      exact ints_snoc hP
  · rintro ⟨c, kc⟩ u h tk hP F1 N1
    dsimp only at hP N1
    clear fF fN; dsimp only [kstB] at F1
    obtain ⟨cN, hcN, hc2, hc7, hc4⟩ : ∃ cN : List Nat, IntsAre c (cN.map fun (k : Nat) => (k : Int)) ∧ 2 ≤ cN.length ∧ cN.length ≤ 15 ∧ ∀ r ∈ cN, r ≤ 4 := closed_nat hP
    have hcl : c.length = cN.length := by simpa using hcN.length
    obtain ⟨pl, hpl⟩ : ∃ pl, pl = (ns.sum.fdiv 4).fmod (cN.length : Int) := ⟨_, rfl⟩
    have hpl0 : 0 ≤ pl := by rw [hpl]; exact Int.fmod_nonneg_of_pos _ (by omega)
    have hpl1 : pl < cN.length := by rw [hpl]; exact Int.fmod_lt_of_pos _ (by omega)
    k_steps
    refine Hold.mk ?_
    (rename Fr _ _ _ _ => fF); (rename News _ _ _ _ => fN); (rename IsRange _ _ _ _ _ _ _ _ => rgX)
    rw [← hpl] at fF
    refine loop_range2 (n := cN.length) (fun i g m => (∃ gN : List Nat, IntsAre g (gN.map fun (k : Nat) => (k : Int)) ∧ gN.length = i ∧ ∀ r ∈ gN, r ≤ 5) ∧ ∃ mN : List Int, IntsAre m mN ∧ mN.length = i ∧ (cN.getD pl.toNat 0 ≠ 0 → ∀ r ∈ mN, 0 ≤ r ∧ r ≤ 5))
      (by rfl) rgX (small_one (by omega) (by omega) (by omega) (by omega)) (by rw [rangeSize_nat]; omega) fF fN (by omega) ?hln ⟨⟨[], .nil, rfl, fun r h => nomatch h⟩, [], .nil, rfl, fun _ r h => nomatch h⟩ ?_ ?_
    case hln =>
      intro p hp
      simp only [List.mem_cons] at hp
      have hn1 : ∀ p ∈ news, @LT.lt Nat _ p.1 _ := hl0
      rcases hp with rfl | rfl | h
      · (show @LT.lt Nat _ _ _); dsimp only; omega
      · (show @LT.lt Nat _ _ _); dsimp only; omega
      · have := hn1 p h; (show @LT.lt Nat _ _ _); omega
    · rintro ⟨⟨g, kg⟩, mv, km⟩ i ti u h tk own hi hP hoff hall1 hall2 F1 N1
      dsimp only at hP N1 hoff
      obtain ⟨⟨gN, hg1, hg2, hg3⟩, mN, hm1, hm2, hm3⟩ := hP
      have hgl : g.length ≤ 15 := by have := hg1.length; simp only [List.length_map] at this; omega
      have hml : mv.length ≤ 15 := by have := hm1.length; omega
      rw [Int.zero_add] at F1
      simp only [List.cons_append] at N1
      clear fF fN; dsimp only [kstB] at F1
      obtain ⟨d, hd⟩ : ∃ d, d = (cN.map fun (k : Nat) => (k : Int)).getD (i : Int).toNat 0 := ⟨_, rfl⟩
      have hd2 := item_val (cN := cN) (i := i) hc4 (by omega)
      rw [← hd] at hd2
      have fin : ∀ x y t t', (0 ≤ x ∧ x ≤ 5) → (cN.getD pl.toNat 0 ≠ 0 → 0 ≤ y ∧ y ≤ 5) →
          (∃ gN : List Nat, IntsAre (g ++ [Value.int x t]) (gN.map fun (k : Nat) => (k : Int)) ∧ gN.length = i + 1 ∧ ∀ r ∈ gN, r ≤ 5) ∧ ∃ mN : List Int, IntsAre (mv ++ [Value.int y t']) mN ∧ mN.length = i + 1 ∧ (cN.getD pl.toNat 0 ≠ 0 → ∀ r ∈ mN, 0 ≤ r ∧ r ≤ 5) :=
        fun x y t t' hx hy => leads_step hg1 hg2 hg3 hm1 hm2 hm3 hx hy
      k_steps
      all_goals (
        (rename News _ _ _ _ => nE)
        try simp only [List.push_toArray, ← hd] at nE
        refine Turn.next ((_, _), (_, _)) (by assumption) nE (fun p hp => by simp [hp]) (List.forall_mem_cons.mpr ⟨.head _, List.forall_mem_cons.mpr ⟨.tail _ (.head _), fun p hp => by (simp only [List.mem_cons, List.mem_append] at hp ⊢; rcases hp with h | h | h <;> simp [h])⟩⟩) (off_same (by rfl) hoff) (by kst_all) ?h5 ?h6
        case h5 => kst_same
        case h6 =>
          refine fin _ _ _ _ (by omega) (fun hne => ?_)
          by_cases hip : (i : Int) = pl
          · have e : (i : Int).toNat = i := rfl
            rw [← hip, e] at hne
            omega
          · omega)
    · rintro ⟨⟨g, kg⟩, mv, km⟩ u h tk hP F1 N1
      dsimp only at hP N1
      obtain ⟨⟨gN, hg1, hg2, hg3⟩, mN, hm1, hm2, hm3⟩ := hP
      clear fF fN; dsimp only [kstB] at F1
      obtain ⟨bN, hbN, hb3⟩ : ∃ bN : Nat, ns.sum.fmod 4 = (bN : Int) ∧ bN ≤ 3 := by
        have h1 := Int.fmod_nonneg_of_pos ns.sum (by decide : (0 : Int) < 4)
        have h2 := Int.fmod_lt_of_pos ns.sum (by decide : (0 : Int) < 4)
        exact ⟨(ns.sum.fmod 4).toNat, by omega, by omega⟩
      k_steps
      · (rename News _ _ _ _ => nE)
        simp only [hbN] at nE
        rw [show ((bN : Int) + 1) = ((bN + 1 : Nat) : Int) from rfl] at nE
        (rename IntsAre _ (List.map _ cN).reverse => hrev)
        rw [← List.map_reverse] at hrev
        (rename IntsAre _ (List.map _ cN ++ [0]) => hmv)
        rw [show (cN.map fun (k : Nat) => (k : Int)) ++ [0] = (cN ++ [0]).map (fun (k : Nat) => (k : Int)) from by simp] at hmv
        have hsm : Small (cN ++ [0]) bN := ⟨by simp; omega, fun r hr => (List.mem_append.mp hr).elim (fun h => by have := hc4 r h; omega) (fun h => by rw [List.mem_singleton.mp h]; omega), by omega⟩
        refine hret _ [_, _, _, _, _, _, _, _, _, _, _, _, _] _ _ (by assumption) nE ?_
        refine made5 (l1 := (cN, bN)) (l2 := (cN.reverse, bN)) (l3 := (gN, bN)) (l4 := (cN, bN + 1)) (l5 := (cN ++ [0], bN)) (.head _) ⟨_, _, _, _, _, _, rfl, by k_mem, by k_mem, hcN⟩ ⟨_, _, _, _, _, _, rfl, by k_mem, by k_mem, hrev⟩ ⟨_, _, _, _, _, _, rfl, by k_mem, by k_mem, hg1⟩ ⟨_, _, _, _, _, _, rfl, by k_mem, by k_mem, hcN⟩ ⟨_, _, _, _, _, _, rfl, by k_mem, by k_mem, hmv⟩
          ⟨by (show cN.length ≤ 20); omega, fun r hr => by have := hc4 r hr; omega, by (show bN ≤ 20); omega⟩ ⟨by (show cN.reverse.length ≤ 20); rw [List.length_reverse]; omega, fun r hr => by have := hc4 r (List.mem_reverse.mp hr); omega, by (show bN ≤ 20); omega⟩ ⟨by (show gN.length ≤ 20); omega, fun r hr => by have := hg3 r hr; omega, by (show bN ≤ 20); omega⟩ ⟨by (show cN.length ≤ 20); omega, fun r hr => by have := hc4 r hr; omega, by (show bN + 1 ≤ 20); omega⟩ hsm
      · (rename News _ _ _ _ => nE)
        simp only [hbN] at nE
        rw [show ((bN : Int) + 1) = ((bN + 1 : Nat) : Int) from rfl] at nE
        (rename IntsAre _ (List.map _ cN).reverse => hrev)
        rw [← List.map_reverse] at hrev
        (rename List.getD (List.map _ cN) _ 0 ≠ 0 => hne)
        have hne2 : cN.getD pl.toNat 0 ≠ 0 := by
          intro h0
          have hpe : pl = ((pl.toNat : Nat) : Int) := by omega
          have h1 := (item_val (cN := cN) (i := pl.toNat) hc4 (by omega)).1
          rw [← hpe] at h1
          rw [h1, h0] at hne
          exact hne rfl
        have hmm := hm3 hne2
        have hmv : IntsAre mv ((mN.map Int.toNat).map fun (k : Nat) => (k : Int)) := by
          have e : (mN.map Int.toNat).map (fun (k : Nat) => (k : Int)) = mN := by
            rw [List.map_map]
            refine (List.map_congr_left fun r hr => ?_).trans (List.map_id _)
            exact Int.toNat_of_nonneg (hmm r hr).1
          rw [e]; exact hm1
        have hsm : Small (mN.map Int.toNat) bN := ⟨by rw [List.length_map]; omega, fun r hr => by (obtain ⟨z, hz, rfl⟩ := List.mem_map.mp hr; have := hmm z hz; omega), by omega⟩
        refine hret _ [_, _, _, _, _, _, _, _, _, _, _] _ _ (by assumption) nE ?_
        refine made5 (l1 := (cN, bN)) (l2 := (cN.reverse, bN)) (l3 := (gN, bN)) (l4 := (cN, bN + 1)) (l5 := (mN.map Int.toNat, bN)) (.head _) ⟨_, _, _, _, _, _, rfl, by k_mem, by k_mem, hcN⟩ ⟨_, _, _, _, _, _, rfl, by k_mem, by k_mem, hrev⟩ ⟨_, _, _, _, _, _, rfl, by k_mem, by k_mem, hg1⟩ ⟨_, _, _, _, _, _, rfl, by k_mem, by k_mem, hcN⟩ ⟨_, _, _, _, _, _, rfl, by k_mem, by k_mem, hmv⟩
          ⟨by (show cN.length ≤ 20); omega, fun r hr => by have := hc4 r hr; omega, by (show bN ≤ 20); omega⟩ ⟨by (show cN.reverse.length ≤ 20); rw [List.length_reverse]; omega, fun r hr => by have := hc4 r (List.mem_reverse.mp hr); omega, by (show bN ≤ 20); omega⟩ ⟨by (show gN.length ≤ 20); omega, fun r hr => by have := hg3 r hr; omega, by (show bN ≤ 20); omega⟩ ⟨by (show cN.length ≤ 20); omega, fun r hr => by have := hc4 r hr; omega, by (show bN + 1 ≤ 20); omega⟩ hsm
end Mine
end
section
open PySem PySem.W PyProof.Rows
set_option Elab.async false
set_option maxRecDepth 100000
set_option maxHeartbeats 8000000
set_option pp.maxSteps 20000
namespace Mine
local macro_rules | `(tactic| walk_at "pyIter ref") => `(tactic| (refine Hold.out ?_))
local macro_rules | `(tactic| walk_at "call builtin:str.replace") => `(tactic| (k_here; (refine SC.replaceW (by ((show @Ne Nat _ _); omega)) (by ((show @Ne Nat _ _); omega)) (by ((show @Ne Nat _ _); omega)) (by decide +kernel) (by omega) (by decide +kernel) ?_); intro t9 k9))
local macro_rules | `(tactic| k_mem) => `(tactic| first | assumption | (refine List.mem_cons_of_mem _ ?_; k_mem) | (refine List.mem_append.mpr (Or.inr ?_); k_mem) | (refine List.mem_append.mpr (Or.inl ?_); k_mem))
local macro_rules | `(tactic| walk_at "Turn") => `(tactic| ((first | refine Turn.ret ?_ | refine Turn.brk ?_); (try dsimp only); (try k_fold)))
local macro_rules | `(tactic| walk_at "pyIter str") => `(tactic| (refine Hold.out ?_))
local macro_rules | `(tactic| walk_at "exec For Name Name cons nil") => `(tactic| (k_here; (rename Fr _ _ _ _ => lF'); (with_unfolding_all refine' For_invVF lF' ?k1 ?k2 ?_; (case k1 => exact rfl); (case k2 => exact rfl); k_whole)))
local macro_rules | `(tactic| walk_at "exec For Name Subscript cons nil") => `(tactic| (k_here; (rename Fr _ _ _ _ => lF'); (with_unfolding_all refine' For_invVF lF' ?k1 ?k2 ?_; (case k1 => exact rfl); (case k2 => exact rfl); k_whole)))
local macro_rules | `(tactic| walk_at "exec For Name Attribute cons nil") => `(tactic| (k_here; (rename Fr _ _ _ _ => lF'); (with_unfolding_all refine' For_invVF lF' ?k1 ?k2 ?_; (case k1 => exact rfl); (case k2 => exact rfl); k_whole)))
local macro_rules | `(tactic| walk_at "exec For Name Call cons nil") => `(tactic| (k_here; (rename Fr _ _ _ _ => lF'); (with_unfolding_all refine' For_invVF lF' ?k1 ?k2 ?_; (case k1 => exact rfl); (case k2 => exact rfl); k_whole)))
local macro_rules | `(tactic| walk_at "call ref") => `(tactic| (k_here; (with_reducible show wpAny _ _ (call (Value.ref _) _) _ _ _); (refine Hold.out ?_)))
theorem law_holds : PySem.Challenge.rw_mj0186_02.Holds := by
  refine hd ?_
  w_on
  w_strict (
    k_go0
    (all_goals try k_fold)
    k_steps
    refine Hold.mk ?_
    (rename IntsAre _ _ => hI9); (rename Heap.IsList _ _ _ => hl9)
    k_dflt (refine' leads_spec _ _ _ _ _ ?c1 hI9 _ _ _ _ _ _ _ _ _ _ _ _ _ _ _ _ _ _ _ _ ?k1 ?k2 ?k3 ?k4 ?k5 ?k6 ?kK ?kd ?ku ?_)
    case k1 => k_asm
    case k2 => k_asm
    case k3 => k_asm
    case k4 => k_asm
    case k5 => k_asm
    case k6 => exact hl9
    case kK => exact rfl
    case kd => ktr_room
    case ku => ktr_units
    case c1 => omega
    intro r9 tl9 h9 tk9 F9 N9 hmade
    obtain ⟨la, vs, nn, ls, e9, hm, hl, hs, hlen⟩ := hmade
    subst e9
    rw [List.append_nil] at N9
    dsimp only
    (try k_fold)
    k_steps
    refine Hold.mk ?_
    k_dflt (refine' Gives.useB (holds_spec _ _ _ _ _ _ hm hl hs hlen) ?k1 ?k2 ?k3 ?k4 ?k5 ?kK ?kd ?ku ?_)
    case k1 => k_asm
    case k2 => k_asm
    case k3 => k_asm
    case k4 => k_asm
    case k5 => k_asm
    case kK => exact rfl
    case kd => ktr_room
    case ku => ktr_units
    intro h9 tk9 hle9 F9 N9
    dsimp only
    (try k_fold)
    k_steps)
end Mine
end
theorem PySem.Challenge.cw_mj0186_02_holds : PySem.Challenge.rw_mj0186_02.Holds :=
  Mine.law_holds
