import PyProof.Rows.All
import Wide.All
import OpenK.AllK
import Wide.FinOn
import PySem.Challenge.RW_mj0186_01
section
open PySem PySem.W PyProof.Rows
set_option Elab.async false
set_option maxRecDepth 100000
set_option maxHeartbeats 8000000
namespace Mine
open_top hd for PySem.Challenge.rw_mj0186_01
end Mine
end
section
open PySem PySem.W PyProof.Rows
set_option Elab.async false
set_option maxRecDepth 100000
namespace Mine
open PySem.Spec PySem.Calls PyProof.V

/-- where the walk is to wait -/
def Hold (P : Prop) : Prop := P
theorem Hold.out {P : Prop} (h : Hold P) : P := h
theorem Hold.mk {P : Prop} (h : P) : Hold P := h

section
variable {prog : Program} {w : World} {A : Around} {E : Value → Shared → Prop} {s : Shared} {env : Env} {h₀ : Heap} {x : Str} {body : List Stmt} {Q : Flow → Shared → Prop}

def TurnEnd {σ : Type} (h₀ : Heap) (L : Addr) (x : Str) (Led : σ → List (Addr × Obj)) (ps : σ → List (Str × Value)) (st : List Str) (m₀ : Str → Option Value) (P : σ → Prop) (own : List (Addr × Obj)) (s₁ s₂ : Shared) : Prop :=
  ∃ h' tk m' nx c, s₂ = { s₁ with heap := h', toks := tk } ∧ Fr h₀ L h' m' ∧ News h₀ L h' nx ∧ (∀ p ∈ own, p ∈ nx) ∧ (∀ p ∈ Led c, p ∈ nx) ∧ (∀ p ∈ own, ∀ q ∈ Led c, p.1 ≠ q.1) ∧
    (∀ p ∈ ps c, m' p.1 = some p.2) ∧ (∀ z, z ≠ x → (∀ p ∈ ps c, z ≠ p.1) → st.contains z = false → m' z = m₀ z) ∧ P c

def Turn {σ : Type} (h₀ : Heap) (L : Addr) (x : Str) (Led : σ → List (Addr × Obj)) (ps : σ → List (Str × Value)) (st : List Str) (m₀ : Str → Option Value) (P : σ → Prop) (own : List (Addr × Obj)) (s₁ : Shared) (Q : Flow → Shared → Prop) (f : Flow) (s₂ : Shared) : Prop :=
  match f with
  | .ret v => Q (.ret v) s₂
  | .brk => Q .next s₂
  | _ => TurnEnd h₀ L x Led ps st m₀ P own s₁ s₂

theorem TurnEnd.intro {σ : Type} {L : Addr} {Led : σ → List (Addr × Obj)} {ps : σ → List (Str × Value)} {st : List Str} {m₀ m' : Str → Option Value} {P : σ → Prop} {own nx : List (Addr × Obj)} {s₁ : Shared} {h' : Heap} {tk : Nat}
    (c : σ) (F : Fr h₀ L h' m') (N : News h₀ L h' nx) (ho : ∀ p ∈ own, p ∈ nx) (hl : ∀ p ∈ Led c, p ∈ nx) (hoff : ∀ p ∈ own, ∀ q ∈ Led c, p.1 ≠ q.1) (hk : ∀ p ∈ ps c, m' p.1 = some p.2)
    (hr : ∀ z, z ≠ x → (∀ p ∈ ps c, z ≠ p.1) → st.contains z = false → m' z = m₀ z) (hP : P c) : TurnEnd h₀ L x Led ps st m₀ P own s₁ { s₁ with heap := h', toks := tk } :=
  ⟨h', tk, m', nx, c, rfl, F, N, ho, hl, hoff, hk, hr, hP⟩

theorem Turn.next {σ : Type} {L : Addr} {Led : σ → List (Addr × Obj)} {ps : σ → List (Str × Value)} {st : List Str} {m₀ m' : Str → Option Value} {P : σ → Prop} {own nx : List (Addr × Obj)} {s₁ : Shared} {h' : Heap} {tk : Nat}
    (c : σ) (F : Fr h₀ L h' m') (N : News h₀ L h' nx) (ho : ∀ p ∈ own, p ∈ nx) (hl : ∀ p ∈ Led c, p ∈ nx) (hoff : ∀ p ∈ own, ∀ q ∈ Led c, p.1 ≠ q.1) (hk : ∀ p ∈ ps c, m' p.1 = some p.2)
    (hr : ∀ z, z ≠ x → (∀ p ∈ ps c, z ≠ p.1) → st.contains z = false → m' z = m₀ z) (hP : P c) : Turn h₀ L x Led ps st m₀ P own s₁ Q .next { s₁ with heap := h', toks := tk } :=
  ⟨h', tk, m', nx, c, rfl, F, N, ho, hl, hoff, hk, hr, hP⟩
theorem Turn.cont {σ : Type} {L : Addr} {Led : σ → List (Addr × Obj)} {ps : σ → List (Str × Value)} {st : List Str} {m₀ m' : Str → Option Value} {P : σ → Prop} {own nx : List (Addr × Obj)} {s₁ : Shared} {h' : Heap} {tk : Nat}
    (c : σ) (F : Fr h₀ L h' m') (N : News h₀ L h' nx) (ho : ∀ p ∈ own, p ∈ nx) (hl : ∀ p ∈ Led c, p ∈ nx) (hoff : ∀ p ∈ own, ∀ q ∈ Led c, p.1 ≠ q.1) (hk : ∀ p ∈ ps c, m' p.1 = some p.2)
    (hr : ∀ z, z ≠ x → (∀ p ∈ ps c, z ≠ p.1) → st.contains z = false → m' z = m₀ z) (hP : P c) : Turn h₀ L x Led ps st m₀ P own s₁ Q .cont { s₁ with heap := h', toks := tk } :=
  ⟨h', tk, m', nx, c, rfl, F, N, ho, hl, hoff, hk, hr, hP⟩

theorem Turn.ret {σ : Type} {L : Addr} {Led : σ → List (Addr × Obj)} {ps : σ → List (Str × Value)} {st : List Str} {m₀ : Str → Option Value} {P : σ → Prop} {own : List (Addr × Obj)} {s₁ s₂ : Shared} {v : Value}
    (h : Q (.ret v) s₂) : Turn h₀ L x Led ps st m₀ P own s₁ Q (.ret v) s₂ := h
theorem Turn.brk {σ : Type} {L : Addr} {Led : σ → List (Addr × Obj)} {ps : σ → List (Str × Value)} {st : List Str} {m₀ : Str → Option Value} {P : σ → Prop} {own : List (Addr × Obj)} {s₁ s₂ : Shared}
    (h : Q .next s₂) : Turn h₀ L x Led ps st m₀ P own s₁ Q .brk s₂ := h

theorem loop_my {σ : Type} {I : Addr} {fp : List Addr} {n : Nat} {Pv : Nat → Value → Prop} {St : Nat → Heap → Prop} {m₀ : Str → Option Value} (Led : σ → List (Addr × Obj)) (ps : σ → List (Str × Value)) (st : List Str) (P : Nat → σ → Prop) (c₀ : σ)
    (W : Walks prog w A I fp [I] n Pv St) (hLf : env.locals ∉ fp) (hwr : h₀.get? I = none) (hnw : ∀ p ∈ Led c₀, p.1 ≠ I)
    (hfp : ∀ b ∈ fp, b = I ∨ (∃ o, h₀.get? b = some o) ∨ ∃ o, ∀ c, (b, o) ∈ Led c) (hhas : ∀ i h, St i h → ∃ o, h.get? I = some o) (hst : St 0 s.heap) (F : Fr h₀ env.locals s.heap m₀) (N : News h₀ env.locals s.heap (Led c₀))
    (hk : ∀ p ∈ ps c₀, m₀ p.1 = some p.2) (hp : P 0 c₀)
    (turn : ∀ (c : σ) i v (u : Str → Option Value) h tk own, i < n → Pv i v → P i c → (∀ p ∈ own, ∀ q ∈ Led c, p.1 ≠ q.1) →
      Fr h₀ env.locals h (fun y => if y = x then some v else kstB (fun z => if st.contains z then u z else m₀ z) (ps c) y) → News h₀ env.locals h (Led c ++ own) →
      wpAny (model prog w) A (execs body env) (Turn h₀ env.locals x Led ps st m₀ (P (i + 1)) own { s with heap := h, toks := tk } Q) E { s with heap := h, toks := tk })
    (done : ∀ (c : σ) (u : Str → Option Value) h tk, P n c → Fr h₀ env.locals h (fun y => if y = x then u y else kstB (fun z => if st.contains z then u z else m₀ z) (ps c) y) → News h₀ env.locals h (Led c) → Q .next { s with heap := h, toks := tk }) :
    LoopAtV prog w A h₀ env x body Q E (.ref I) s := by
  refine ⟨I, fp, [I], n, Pv, St, m₀, Led c₀, (fun i m nx => ∃ c, nx = Led c ∧ (∀ p ∈ ps c, m p.1 = some p.2) ∧ (∀ z, z ≠ x → (∀ p ∈ ps c, z ≠ p.1) → st.contains z = false → m z = m₀ z) ∧ P i c), rfl, W, hLf, ?_, ?_, hst, F, N, ⟨c₀, rfl, hk, fun _ _ _ _ => rfl, hp⟩, ?_, ?_⟩
  · intro b hb
    rw [List.mem_singleton.mp hb]; exact hwr
  · intro p hp' hI
    exact hnw p hp' (List.mem_singleton.mp hI)
  · rintro i v m₁ news₁ s₁ own ⟨hh', tk', rfl⟩ hin hP ⟨c, rfl, h1, h2, hp'⟩ hoff hown hget hall hSt F₁ N₁
    have hsep : ∀ p ∈ own.filter (fun p => decide (p.1 = I)), ∀ q ∈ Led c, p.1 ≠ q.1 := by
      intro p hp q hq e
      have h3 : p.1 = I := by simpa using (List.mem_filter.mp hp).2
      exact hoff q hq (by rw [← e, h3]; exact List.mem_singleton.mpr rfl)
    have N₂ : News h₀ env.locals hh' (Led c ++ own.filter (fun p => decide (p.1 = I))) := fun p hp =>
      N₁ p ((List.mem_append.mp hp).elim (fun h => List.mem_append.mpr (.inr h)) fun h => List.mem_append.mpr (.inl ((List.mem_filter.mp h).1)))
    refine wpAny_mono (turn c i v m₁ hh' tk' _ hin hP hp' hsep (kst_fr h1 h2 F₁) N₂) (fun f s₂ p => ?_) fun _ _ e => e
    have fin : TurnEnd h₀ env.locals x Led ps st m₀ (P (i + 1)) (own.filter (fun p => decide (p.1 = I))) { s with heap := hh', toks := tk' } s₂ →
        LoopStepU h₀ env.locals [I] own (fun m nx => ∃ c, nx = Led c ∧ (∀ p ∈ ps c, m p.1 = some p.2) ∧ (∀ z, z ≠ x → (∀ p ∈ ps c, z ≠ p.1) → st.contains z = false → m z = m₀ z) ∧ P (i + 1) c) { s with heap := hh', toks := tk' } .next s₂ := by
      rintro ⟨h', tk, m', nx, c', e, F', N', ho, hl, hof, k1, k2, k3⟩
      have hoI : ∃ o, (I, o) ∈ own := by
        obtain ⟨o, ho'⟩ := hhas _ _ hSt
        exact ⟨o, hall I (W.sub _ (List.mem_singleton.mpr rfl)) hwr o ho'⟩
      obtain ⟨oI, hoI⟩ := hoI
      refine ⟨rfl, h', tk, m', Led c', e, F', fun p hp => ?_, fun p hp hI => ?_, c', rfl, k1, k2, k3⟩
      · rcases List.mem_append.mp hp with h | h
        · by_cases hI : p.1 = I
          · exact N' p (ho p (List.mem_filter.mpr ⟨h, by simpa using hI⟩))
          · rcases hfp p.1 (hown p h) with h3 | ⟨o, h3⟩ | ⟨o, h3⟩
            · exact absurd h3 hI
            · have h4 : hh'.get? p.1 = some o := F₁.keep _ _ h3
              have h5 := (N₁ p (List.mem_append.mpr (.inl h))).2.2
              rw [h3] at h5; cases h5
            · have h4 : hh'.get? p.1 = some o := (N₁ _ (List.mem_append.mpr (.inr (h3 c)))).1
              have h5 : hh'.get? p.1 = some p.2 := hget p h
              rw [h4] at h5
              have h6 : p = (p.1, o) := Prod.ext rfl (Option.some.inj h5).symm
              rw [h6]
              exact N' _ (hl _ (h3 c'))
        · exact N' p (hl p h)
      · have h3 := hof (I, oI) (List.mem_filter.mpr ⟨hoI, by simp⟩) p hp
        exact h3 (List.mem_singleton.mp hI).symm
    cases f with
    | ret v => exact .ret p
    | brk => exact .brk p
    | next => exact .next (fin p)
    | cont => exact .cont (fin p)
  · rintro h' tk m' news' F' N' _ ⟨c, rfl, k1, k2, k3⟩
    exact done c m' h' tk k3 (kst_frOut k1 k2 F') N'

/-- over a list of the ledger that no turn changes -/
theorem loop_list {σ : Type} {l : Addr} {vs : List Value} {nn : Nat} {m₀ : Str → Option Value} (Led : σ → List (Addr × Obj)) (ps : σ → List (Str × Value)) (st : List Str) (P : Nat → σ → Prop) (c₀ : σ)
    (hh : A.handled = none) (hl : ∀ c, (l, listOf vs.toArray nn) ∈ Led c) (F : Fr h₀ env.locals s.heap m₀) (N : News h₀ env.locals s.heap (Led c₀)) (hk : ∀ p ∈ ps c₀, m₀ p.1 = some p.2) (hp : P 0 c₀)
    (turn : ∀ (c : σ) i v (u : Str → Option Value) h tk own, vs[i]? = some v → P i c → (∀ p ∈ own, ∀ q ∈ Led c, p.1 ≠ q.1) →
      Fr h₀ env.locals h (fun y => if y = x then some v else kstB (fun z => if st.contains z then u z else m₀ z) (ps c) y) → News h₀ env.locals h (Led c ++ own) →
      wpAny (model prog w) A (execs body env) (Turn h₀ env.locals x Led ps st m₀ (P (i + 1)) own { s with heap := h, toks := tk } Q) E { s with heap := h, toks := tk })
    (done : ∀ (c : σ) (u : Str → Option Value) h tk, P vs.length c → Fr h₀ env.locals h (fun y => if y = x then u y else kstB (fun z => if st.contains z then u z else m₀ z) (ps c) y) → News h₀ env.locals h (Led c) → Q .next { s with heap := h, toks := tk }) :
    wpAny (model prog w) A (pyIter (.ref l)) (fun it s₂ => LoopAtV prog w A h₀ env x body Q E it s₂) E s := by
  have hol : s.heap.get? l = some (listOf vs.toArray nn) := (N _ (hl c₀)).1
  have hls : s.heap.IsList l vs.toArray := ⟨_, hol, rfl, nn, rfl⟩
  have hne : l ≠ s.heap.objs.size := Nat.ne_of_lt (Heap.lt_size hol)
  refine wpAny_pyIter_list hls ?_
  have W := Walks.list (prog := prog) (w := w) hh s.heap.objs.size l hne vs.toArray
  have hlen : vs.toArray.size = vs.length := by simp
  rw [hlen] at W
  refine loop_my Led ps st P c₀ W ?_ (next_is_new F) ?_ ?_ ?_ ⟨⟨_, Heap.get?_push_size _ rfl, rfl, rfl⟩, hls.at fun o e => Heap.get?_push_of_some _ e⟩ (F.push _) (fun p hp => ⟨Heap.get?_push_of_some _ (N p hp).1, (N p hp).2⟩) hk hp ?_ ?_
  · intro hm
    rcases List.mem_cons.mp hm with e | hm
    · exact absurd F.ns.lt (e ▸ Nat.lt_irrefl _)
    · exact (N _ (hl c₀)).2.1 ((List.mem_singleton.mp hm).symm)
  · intro p hp hI
    exact absurd (Heap.lt_size (N p hp).1) (hI ▸ Nat.lt_irrefl _)
  · intro b hb
    rcases List.mem_cons.mp hb with e | hb
    · exact .inl e
    · rw [List.mem_singleton.mp hb]; exact .inr (.inr ⟨_, hl⟩)
  · rintro i h ⟨⟨o, ho, _⟩, _⟩
    exact ⟨o, ho⟩
  · intro c i v u h tk own _ hv hP hoff F₁ N₁
    exact turn c i v u h tk own (by simpa using hv) hP hoff F₁ N₁
  · exact done

theorem loop_range {σ : Type} {r : Addr} {a₀ b₀ : Int} {t₀ u₀ v₀ : Tok} {n : Nat} {m₀ : Str → Option Value} (Led : σ → List (Addr × Obj)) (ps : σ → List (Str × Value)) (st : List Str) (P : Nat → σ → Prop) (c₀ : σ)
    (hh : A.handled = none) (hr : IsRange s.heap r a₀ b₀ 1 t₀ u₀ v₀) (hsmall : Builtin.Range.small a₀ b₀ 1 = true) (hn : Builtin.Range.rangeSize a₀ b₀ 1 = (n : Int)) (F : Fr h₀ env.locals s.heap m₀) (N : News h₀ env.locals s.heap (Led c₀)) (hk : ∀ p ∈ ps c₀, m₀ p.1 = some p.2) (hp : P 0 c₀)
    (turn : ∀ (c : σ) (i : Nat) t (u : Str → Option Value) h tk own, i < n → P i c → (∀ p ∈ own, ∀ q ∈ Led c, p.1 ≠ q.1) →
      Fr h₀ env.locals h (fun y => if y = x then some (.int (a₀ + (i : Int)) t) else kstB (fun z => if st.contains z then u z else m₀ z) (ps c) y) → News h₀ env.locals h (Led c ++ own) →
      wpAny (model prog w) A (execs body env) (Turn h₀ env.locals x Led ps st m₀ (P (i + 1)) own { s with heap := h, toks := tk } Q) E { s with heap := h, toks := tk })
    (done : ∀ (c : σ) (u : Str → Option Value) h tk, P n c → Fr h₀ env.locals h (fun y => if y = x then u y else kstB (fun z => if st.contains z then u z else m₀ z) (ps c) y) → News h₀ env.locals h (Led c) → Q .next { s with heap := h, toks := tk }) :
    wpAny (model prog w) A (pyIter (.ref r)) (fun it s₂ => LoopAtV prog w A h₀ env x body Q E it s₂) E s := by
  refine wpAny_pyIter_range hr hsmall ?_
  have W : Walks prog w A s.heap.objs.size [s.heap.objs.size] [s.heap.objs.size] n (fun i v => i < n ∧ ∃ t, v = .int (a₀ + i * 1) t)
      (fun i h => IsRangeIter h s.heap.objs.size (a₀ + (i : Nat) * 1) ((n : Int) - (i : Nat)) 1) := (Walks.range hh _ a₀ 1 n).bound
  refine loop_my Led ps st P c₀ W ?_ (next_is_new F) ?_ ?_ ?_ (by show IsRangeIter _ _ _ _ _; rw [hn]; simpa using Heap.get?_push_size _ rfl) (F.push _) (fun p hp => ⟨Heap.get?_push_of_some _ (N p hp).1, (N p hp).2⟩) hk hp ?_ ?_
  · intro hm
    exact absurd F.ns.lt ((List.mem_singleton.mp hm) ▸ Nat.lt_irrefl _)
  · intro p hp hI
    exact absurd (Heap.lt_size (N p hp).1) (hI ▸ Nat.lt_irrefl _)
  · intro b hb
    exact .inl (List.mem_singleton.mp hb)
  · intro i h hs
    exact ⟨_, hs⟩
  · rintro c i v u h tk own _ ⟨hi, t, rfl⟩ hP hoff F₁ N₁
    have e1 : a₀ + (i : Int) * 1 = a₀ + (i : Int) := by omega
    rw [e1] at F₁
    exact turn c i t u h tk own hi hP hoff F₁ N₁
  · exact done

theorem loop_str {σ : Type} {xt : Str} {tx : Tok} {m₀ : Str → Option Value} (Led : σ → List (Addr × Obj)) (ps : σ → List (Str × Value)) (st : List Str) (P : Nat → σ → Prop) (c₀ : σ)
    (hh : A.handled = none) (F : Fr h₀ env.locals s.heap m₀) (N : News h₀ env.locals s.heap (Led c₀)) (hk : ∀ p ∈ ps c₀, m₀ p.1 = some p.2) (hp : P 0 c₀)
    (turn : ∀ (c : σ) (i n : Nat) t (u : Str → Option Value) h tk own, xt.cps[i]? = some n → P i c → (∀ p ∈ own, ∀ q ∈ Led c, p.1 ≠ q.1) →
      Fr h₀ env.locals h (fun y => if y = x then some (.str ⟨#[n]⟩ t) else kstB (fun z => if st.contains z then u z else m₀ z) (ps c) y) → News h₀ env.locals h (Led c ++ own) →
      wpAny (model prog w) A (execs body env) (Turn h₀ env.locals x Led ps st m₀ (P (i + 1)) own { s with heap := h, toks := tk } Q) E { s with heap := h, toks := tk })
    (done : ∀ (c : σ) (u : Str → Option Value) h tk, P xt.cps.size c → Fr h₀ env.locals h (fun y => if y = x then u y else kstB (fun z => if st.contains z then u z else m₀ z) (ps c) y) → News h₀ env.locals h (Led c) → Q .next { s with heap := h, toks := tk }) :
    wpAny (model prog w) A (pyIter (.str xt tx)) (fun it s₂ => LoopAtV prog w A h₀ env x body Q E it s₂) E s := by
  have go : ∀ (o : Obj) (St : Nat → Heap → Prop), Walks prog w A s.heap.objs.size [s.heap.objs.size] [s.heap.objs.size] xt.cps.size (SignAt xt) St → (∀ i h, St i h → ∃ o, h.get? s.heap.objs.size = some o) → St 0 (s.heap.push o) →
      LoopAtV prog w A h₀ env x body Q E (.ref s.heap.objs.size) { s with heap := s.heap.push o } := by
    intro o St W hhas hst
    refine loop_my Led ps st P c₀ W ?_ (next_is_new F) ?_ ?_ hhas hst (F.push _) (fun p hp => ⟨Heap.get?_push_of_some _ (N p hp).1, (N p hp).2⟩) hk hp ?_ ?_
    · intro hm
      exact absurd F.ns.lt ((List.mem_singleton.mp hm) ▸ Nat.lt_irrefl _)
    · intro p hp hI
      exact absurd (Heap.lt_size (N p hp).1) (hI ▸ Nat.lt_irrefl _)
    · intro b hb
      exact .inl (List.mem_singleton.mp hb)
    · rintro c i v u h tk own _ ⟨n, t, hn, rfl⟩ hP hoff F₁ N₁
      exact turn c i n t u h tk own hn hP hoff F₁ N₁
    · exact done
  cases ha : xt.cps.all (· < 128)
  · exact wpAny_pyIter_wide ha (go _ _ (Walks.strWide hh _ xt tx) (fun i h st => let ⟨o, ho, _⟩ := st; ⟨o, ho⟩) ⟨_, Heap.get?_push_size _ rfl, rfl, rfl⟩)
  · exact wpAny_pyIter_ascii ha (go _ _ (Walks.strAscii hh _ xt tx) (fun i h st => let ⟨o, ho, _⟩ := st; ⟨o, ho⟩) ⟨_, Heap.get?_push_size _ rfl, rfl, rfl⟩)
theorem loop_listC {σ : Type} {l : Addr} {vs : List Value} {nn : Nat} {m₀ : Str → Option Value} {nw : List (Addr × Obj)} (ps : σ → List (Str × Value)) (st : List Str) (P : Nat → σ → Prop) (c₀ : σ)
    (hh : A.handled = none) (hl : (l, listOf vs.toArray nn) ∈ nw) (F : Fr h₀ env.locals s.heap m₀) (N : News h₀ env.locals s.heap nw) (hk : ∀ p ∈ ps c₀, m₀ p.1 = some p.2) (hp : P 0 c₀)
    (turn : ∀ (c : σ) i v (u : Str → Option Value) h tk own, vs[i]? = some v → P i c → (∀ p ∈ own, ∀ q ∈ nw, p.1 ≠ q.1) →
      Fr h₀ env.locals h (fun y => if y = x then some v else kstB (fun z => if st.contains z then u z else m₀ z) (ps c) y) → News h₀ env.locals h (nw ++ own) →
      wpAny (model prog w) A (execs body env) (Turn h₀ env.locals x (fun _ => nw) ps st m₀ (P (i + 1)) own { s with heap := h, toks := tk } Q) E { s with heap := h, toks := tk })
    (done : ∀ (c : σ) (u : Str → Option Value) h tk, P vs.length c → Fr h₀ env.locals h (fun y => if y = x then u y else kstB (fun z => if st.contains z then u z else m₀ z) (ps c) y) → News h₀ env.locals h (nw) → Q .next { s with heap := h, toks := tk }) :
    wpAny (model prog w) A (pyIter (.ref l)) (fun it s₂ => LoopAtV prog w A h₀ env x body Q E it s₂) E s :=
  loop_list (fun _ => nw) ps st P c₀ hh (fun _ => hl) F N hk hp turn done
theorem loop_rangeC {σ : Type} {r : Addr} {a₀ b₀ : Int} {t₀ u₀ v₀ : Tok} {n : Nat} {m₀ : Str → Option Value} {nw : List (Addr × Obj)} (ps : σ → List (Str × Value)) (st : List Str) (P : Nat → σ → Prop) (c₀ : σ)
    (hh : A.handled = none) (hr : IsRange s.heap r a₀ b₀ 1 t₀ u₀ v₀) (hsmall : Builtin.Range.small a₀ b₀ 1 = true) (hn : Builtin.Range.rangeSize a₀ b₀ 1 = (n : Int)) (F : Fr h₀ env.locals s.heap m₀) (N : News h₀ env.locals s.heap nw) (hk : ∀ p ∈ ps c₀, m₀ p.1 = some p.2) (hp : P 0 c₀)
    (turn : ∀ (c : σ) (i : Nat) t (u : Str → Option Value) h tk own, i < n → P i c → (∀ p ∈ own, ∀ q ∈ nw, p.1 ≠ q.1) →
      Fr h₀ env.locals h (fun y => if y = x then some (.int (a₀ + (i : Int)) t) else kstB (fun z => if st.contains z then u z else m₀ z) (ps c) y) → News h₀ env.locals h (nw ++ own) →
      wpAny (model prog w) A (execs body env) (Turn h₀ env.locals x (fun _ => nw) ps st m₀ (P (i + 1)) own { s with heap := h, toks := tk } Q) E { s with heap := h, toks := tk })
    (done : ∀ (c : σ) (u : Str → Option Value) h tk, P n c → Fr h₀ env.locals h (fun y => if y = x then u y else kstB (fun z => if st.contains z then u z else m₀ z) (ps c) y) → News h₀ env.locals h (nw) → Q .next { s with heap := h, toks := tk }) :
    wpAny (model prog w) A (pyIter (.ref r)) (fun it s₂ => LoopAtV prog w A h₀ env x body Q E it s₂) E s :=
  loop_range (fun _ => nw) ps st P c₀ hh hr hsmall hn F N hk hp turn done
theorem loop_strC {σ : Type} {xt : Str} {tx : Tok} {m₀ : Str → Option Value} {nw : List (Addr × Obj)} (ps : σ → List (Str × Value)) (st : List Str) (P : Nat → σ → Prop) (c₀ : σ)
    (hh : A.handled = none) (F : Fr h₀ env.locals s.heap m₀) (N : News h₀ env.locals s.heap nw) (hk : ∀ p ∈ ps c₀, m₀ p.1 = some p.2) (hp : P 0 c₀)
    (turn : ∀ (c : σ) (i n : Nat) t (u : Str → Option Value) h tk own, xt.cps[i]? = some n → P i c → (∀ p ∈ own, ∀ q ∈ nw, p.1 ≠ q.1) →
      Fr h₀ env.locals h (fun y => if y = x then some (.str ⟨#[n]⟩ t) else kstB (fun z => if st.contains z then u z else m₀ z) (ps c) y) → News h₀ env.locals h (nw ++ own) →
      wpAny (model prog w) A (execs body env) (Turn h₀ env.locals x (fun _ => nw) ps st m₀ (P (i + 1)) own { s with heap := h, toks := tk } Q) E { s with heap := h, toks := tk })
    (done : ∀ (c : σ) (u : Str → Option Value) h tk, P xt.cps.size c → Fr h₀ env.locals h (fun y => if y = x then u y else kstB (fun z => if st.contains z then u z else m₀ z) (ps c) y) → News h₀ env.locals h (nw) → Q .next { s with heap := h, toks := tk }) :
    wpAny (model prog w) A (pyIter (.str xt tx)) (fun it s₂ => LoopAtV prog w A h₀ env x body Q E it s₂) E s :=
  loop_str (fun _ => nw) ps st P c₀ hh F N hk hp turn done
theorem ledger_keep {h₀ h : Heap} {L : Addr} {p q : Addr × Obj} {r : List (Addr × Obj)} (N : News h₀ L h (p :: q :: r)) : News h₀ L h (p :: r) := cb_drop N (by intro x hx; rcases List.mem_cons.mp hx with h | h <;> simp [h])
theorem ne_of_news {h₀ h : Heap} {L a b : Addr} {o o' : Obj} {r : List (Addr × Obj)} (N : News h₀ L h r) (ha : (a, o) ∈ r) (hb : (b, o') ∈ r) (hne : o ≠ o') : @Ne Nat a b := fun e => by
  have h1 := (N _ ha).1
  have h2 := (N _ hb).1
  have e' : a = b := e
  rw [e'] at h1
  exact hne (Option.some.inj (h1.symm.trans h2))
theorem own_off {own r : List (Addr × Obj)} {q₀ q₁ : Addr × Obj} (h : ∀ p ∈ own, ∀ q ∈ q₀ :: r, p.1 ≠ q.1) (h1 : ∀ p ∈ own, p.1 ≠ q₁.1) : ∀ p ∈ own, ∀ q ∈ q₁ :: r, p.1 ≠ q.1 := by
  intro p hp q hq
  rcases List.mem_cons.mp hq with rfl | hq
  · exact h1 p hp
  · exact h p hp q (.tail _ hq)
theorem r4 {α : Type} {P : α → Prop} {a b c d : α} {r : List α} (h1 : P a) (h2 : P b) (h3 : P c) (h4 : P d) (h5 : ∀ p ∈ r, P p) : ∀ p ∈ [a, b, c, d] ++ r, P p := by
  intro p hp
  simp only [List.cons_append, List.nil_append, List.mem_cons] at hp
  rcases hp with rfl | rfl | rfl | rfl | h
  · exact h1
  · exact h2
  · exact h3
  · exact h4
  · exact h5 p h
/-- a comprehension by an invariant: the values so far, the ledger -/
theorem comp_ind {L : Addr} {m : Str → Option Value} {elt : Expr} {scope : Scope} {cl : List (Str × Addr)} {S : List (Addr × Obj) → Prop} {P : Nat → Value → Prop} {Fin : List Value → List (Addr × Obj) → Prop} {news : List (Addr × Obj)} {n : Nat}
    (J : Nat → List Value → List (Addr × Obj) → Prop) (h0 : J 0 [] news)
    (turn : ∀ i ys news₁ v I oI C oC D m₂ h tk (E' : Value → Shared → Prop), i < n → J i ys news₁ → P i v → LCg.NsObj oC m₂ → m₂ x = some v → Fr h₀ L h m → News h₀ L h ((I, oI) :: (C, oC) :: (D, LCg.lst ys) :: news₁) → LCg.Off3 I C D news₁ → ((@Ne Nat I C) ∧ (@Ne Nat I D) ∧ (@Ne Nat C D)) →
      wpAny (model prog w) A (eval elt (compEnvC scope cl C env)) (LCg.CompEnd h₀ L m { s with heap := h, toks := tk } I oI C oC D (LCg.lst ys) S (fun y news' => J (i + 1) (ys ++ [y]) news')) E' { s with heap := h, toks := tk })
    (fin : ∀ ys news₁, J n ys news₁ → Fin ys news₁) : LCg.CompRest prog w A h₀ L m env elt x scope cl s S P Fin n 0 [] news := by
  have key : ∀ (j i : Nat) (ys : List Value) (nw : List (Addr × Obj)), i + j = n → J i ys nw → LCg.CompRest prog w A h₀ L m env elt x scope cl s S P Fin j i ys nw := by
    intro j
    induction j with
    | zero =>
      intro i ys nw hi hJ
      have e : i = n := by omega
      subst e
      exact LCg.CompRest.zero (fin ys nw hJ)
    | succ j ih =>
      intro i ys nw hi hJ
      refine LCg.CompRest.succ ?_
      intro v I oI C oC D m₂ h tk E' hv hC hx F N off ne
      refine wpAny_mono (turn i ys nw v I oI C oC D m₂ h tk E' (by omega) hJ hv hC hx F N off ne) (fun y s₂ hq => ?_) fun _ _ e => e
      obtain ⟨h', tk', nw', e, F', N', off', hS, hJ'⟩ := hq
      exact ⟨h', tk', nw', e, F', N', off', hS, ih (i + 1) _ nw' (by omega) hJ'⟩
  exact key n 0 [] news (by omega) h0
end
end Mine
end
section
open PySem PySem.W PyProof.Rows
set_option Elab.async false
set_option maxRecDepth 100000
namespace Mine
open Builtin Builtin.Str

/-- find between two places -/
def findF (y w : Str) (lo hi : Nat) : Option Nat := (occurrences y w lo hi 1).head?

theorem findF_spec (y w : Str) (lo hi : Nat) :
    (findF y w lo hi = none ∧ ∀ i, lo ≤ i → ¬ StrLaws.At y w hi i) ∨
    ∃ i, findF y w lo hi = some i ∧ lo ≤ i ∧ StrLaws.At y w hi i ∧ ∀ k, lo ≤ k → k < i → ¬ StrLaws.At y w hi k := by
  unfold findF
  rw [StrLaws.occ_eq]
  rcases StrLaws.occ_first y w hi 1 (Nat.le_refl _) (List.range' lo (hi + 1 - lo)) lo (fun i hi => by have := List.mem_range'_1.mp hi; omega) with ⟨h0, hn⟩ | ⟨pre, a, post, e, h0, ha, hn⟩
  · refine .inl ⟨by rw [h0]; rfl, fun i hlo hi' => ?_⟩
    exact hn i (by have := hi'.1; rw [List.mem_range'_1]; omega) hi'
  · have hs := StrLaws.range'_split_from e
    refine .inr ⟨a, ?_, hs.1, ha, fun k hk0 hk => hn k (hs.2 k hk0 hk)⟩
    generalize (forIn (List.range' lo (hi + 1 - lo)) ((#[] : Array Nat), lo) (StrLaws.occBody y w hi 1)).run.fst = arr at h0
    have h1 : arr.toList[0]? = some a := by simpa using h0
    rw [List.head?_eq_getElem?]
    exact h1

theorem gives_find4 (x y : Str) (i j : Int) (t u v k : Tok) : PySem.Gives («str.find» ⟨[.str x t, .str y u, .int i v, .int j k], []⟩)
    (.int (match occurrences x y (fromIndex x.length i) (min (fromIndex x.length j) x.length) 1 with | k :: _ => (k : Int) | [] => -1)) := by
  show PySem.Gives (match occurrences x y (fromIndex x.length i) (min (fromIndex x.length j) x.length) 1 with | k :: _ => retInt k | [] => (do rule "str.find.not-found"; retInt (-1))) _
  cases occurrences x y (fromIndex x.length i) (min (fromIndex x.length j) x.length) 1 with
  | nil => exact .rule (.of_eq rfl)
  | cons k _ => exact .of_eq rfl

theorem fromIndex_nat (len n : Nat) : fromIndex len (n : Int) = n := by
  unfold fromIndex
  rw [if_neg (by omega)]
  omega

section
variable {prog : Program} {w : World} {A : Around} {E : Value → Shared → Prop} {s : Shared} {x y : Str} {t u v k : Tok} {Q : Value → Shared → Prop}
theorem call_find4 {i j : Nat} (hj : j ≤ x.length) (h : ∀ t' k', (findF x y i j = none → Q (.int (-1) t') { s with toks := k' }) ∧ ∀ p, findF x y i j = some p → Q (.int (p : Int) t') { s with toks := k' }) :
    wpAny (model prog w) A (call (.builtin "str.find") [.str x t, .str y u, .int (i : Int) v, .int (j : Int) k]) Q E s := by
  refine call_gives F.slot_str_find (typeIs_str _ _ _) F.entry_str_find (F.args_str_find_4 _ _ _ _) (gives_find4 x y i j t u v k) ?_
  rw [fromIndex_nat, fromIndex_nat, Nat.min_eq_left hj]
  unfold findF at h
  obtain ⟨h1, h2⟩ := h s.toks (s.toks + 1)
  cases e : occurrences x y i j 1 with
  | nil => rw [e] at h1; exact h1 rfl
  | cons p r => rw [e] at h2; exact h2 p rfl
end

/-- doctest's loop: the texts one behind the other -/
def scan (y : Str) (hi : Nat) : List Str → Nat → Bool
  | [], _ => true
  | w :: ws, lo => match findF y w lo hi with
    | none => false
    | some i => scan y hi ws (i + w.length)

/-- _ellipsis_match of a pattern that opens with the dots -/
def emB (y : Str) (mid : List Str) (last : Str) : Bool :=
  if last.length = 0 then scan y y.length (Str.empty :: (mid ++ [last])) 0
  else Txt.endswith y last && scan y (y.length - last.length) (Str.empty :: mid) 0
end Mine
end
section
open PySem PySem.W PyProof.Rows
set_option Elab.async false
set_option maxRecDepth 100000
namespace Mine

/-- what a call of the def at f gives back -/
def Gives (w : World) (f : Addr) (dn : Nat) (args : List Value) (news : List (Addr × Obj)) (Post : Value → List (Addr × Obj) → Prop) : Prop :=
  ∀ (mean : ExcName → Option Value) (mg mb : Str → Option Value) (dp un : Nat) (gd : Option (List Code)) (cn : Str) (cs : Scope) (a : Addr) (ccd : Value) (cl : List (Str × Addr)) (outer : List Env) (A₀ : Around) (base h₀ : Heap) (L : Addr) (m : Str → Option Value) (s : Shared)
    (Q E : Value → Shared → Prop),
    Below A₀ base outer h₀ → Fr h₀ L s.heap m → (hd.heap_39 w.params).In h₀ → News h₀ L s.heap news → Top hd.view_39 (looseW hd.view_39 [Str.ofString "Whitespace"]) mean mg mb h₀ → cs.kind = .function → dp + dn < recursionLimit → un + 8 * dn < cLine →
    (∀ r tl h' tk', Fr h₀ L h' m → News h₀ L h' (tl ++ news) → (∀ p ∈ tl, ∀ q ∈ news, q.1 < p.1) → Post r tl → Q r { s with heap := h', toks := tk' }) →
    wpAny (model Challenge.rw_mj0186_01.row.prog w) (ktrTop dp un gd cn cs L a ccd cl outer) (call (.ref f) args) Q E s

theorem Gives.use {w : World} {f : Addr} {dn : Nat} {args : List Value} {news : List (Addr × Obj)} {Post : Value → List (Addr × Obj) → Prop} (G : Gives w f dn args news Post)
    {mean : ExcName → Option Value} {mg mb : Str → Option Value} {dp un : Nat} {gd : Option (List Code)} {cn : Str} {cs : Scope} {a : Addr} {ccd : Value} {cl : List (Str × Addr)} {outer : List Env} {A₀ : Around} {base h₀ : Heap} {L : Addr} {m : Str → Option Value} {s : Shared}
    {Q E : Value → Shared → Prop}
    (B : Below A₀ base outer h₀) (F : Fr h₀ L s.heap m) (X : (hd.heap_39 w.params).In h₀) (N : News h₀ L s.heap news) (T : Top hd.view_39 (looseW hd.view_39 [Str.ofString "Whitespace"]) mean mg mb h₀) (hk : cs.kind = .function) (hd : dp + dn < recursionLimit) (hu : un + 8 * dn < cLine)
    (ret : ∀ r tl h' tk', s.toks ≤ tk' → Fr h₀ L h' m → News h₀ L h' (tl ++ news) → (∀ p ∈ tl, ∀ q ∈ news, q.1 < p.1) → Post r tl → Q r { s with heap := h', toks := tk' }) :
    wpAny (model Challenge.rw_mj0186_01.row.prog w) (ktrTop dp un gd cn cs L a ccd cl outer) (call (.ref f) args) Q E s :=
  wpAny_with_toks (Nat.le_refl _) (G mean mg mb dp un gd cn cs a ccd cl outer A₀ base h₀ L m s _ _ B F X N T hk hd hu (fun r tl h' tk' F' N' ho hp hle => ret r tl h' tk' hle F' N' ho hp))
theorem Gives.useS {w : World} {f : Addr} {dn : Nat} {args : List Value} {news : List (Addr × Obj)} {x : Str} (G : Gives w f dn args news (fun r tl => tl = [] ∧ ∃ t', r = .str x t'))
    {mean : ExcName → Option Value} {mg mb : Str → Option Value} {dp un : Nat} {gd : Option (List Code)} {cn : Str} {cs : Scope} {a : Addr} {ccd : Value} {cl : List (Str × Addr)} {outer : List Env} {A₀ : Around} {base h₀ : Heap} {L : Addr} {m : Str → Option Value} {s : Shared}
    {Q E : Value → Shared → Prop}
    (B : Below A₀ base outer h₀) (F : Fr h₀ L s.heap m) (X : (hd.heap_39 w.params).In h₀) (N : News h₀ L s.heap news) (T : Top hd.view_39 (looseW hd.view_39 [Str.ofString "Whitespace"]) mean mg mb h₀) (hk : cs.kind = .function) (hd : dp + dn < recursionLimit) (hu : un + 8 * dn < cLine)
    (ret : ∀ t h' tk', s.toks ≤ tk' → Fr h₀ L h' m → News h₀ L h' news → Q (.str x t) { s with heap := h', toks := tk' }) :
    wpAny (model Challenge.rw_mj0186_01.row.prog w) (ktrTop dp un gd cn cs L a ccd cl outer) (call (.ref f) args) Q E s :=
  wpAny_with_toks (Nat.le_refl _) (G mean mg mb dp un gd cn cs a ccd cl outer A₀ base h₀ L m s _ _ B F X N T hk hd hu (by rintro r tl h' tk' F' N' _ ⟨rfl, t, rfl⟩ hle; exact ret t h' tk' hle F' N'))
theorem Gives.useB {w : World} {f : Addr} {dn : Nat} {args : List Value} {news : List (Addr × Obj)} {x : Bool} (G : Gives w f dn args news (fun r tl => tl = [] ∧ r = .bool x))
    {mean : ExcName → Option Value} {mg mb : Str → Option Value} {dp un : Nat} {gd : Option (List Code)} {cn : Str} {cs : Scope} {a : Addr} {ccd : Value} {cl : List (Str × Addr)} {outer : List Env} {A₀ : Around} {base h₀ : Heap} {L : Addr} {m : Str → Option Value} {s : Shared}
    {Q E : Value → Shared → Prop}
    (B : Below A₀ base outer h₀) (F : Fr h₀ L s.heap m) (X : (hd.heap_39 w.params).In h₀) (N : News h₀ L s.heap news) (T : Top hd.view_39 (looseW hd.view_39 [Str.ofString "Whitespace"]) mean mg mb h₀) (hk : cs.kind = .function) (hd : dp + dn < recursionLimit) (hu : un + 8 * dn < cLine)
    (ret : ∀ h' tk', s.toks ≤ tk' → Fr h₀ L h' m → News h₀ L h' news → Q (.bool x) { s with heap := h', toks := tk' }) :
    wpAny (model Challenge.rw_mj0186_01.row.prog w) (ktrTop dp un gd cn cs L a ccd cl outer) (call (.ref f) args) Q E s :=
  wpAny_with_toks (Nat.le_refl _) (G mean mg mb dp un gd cn cs a ccd cl outer A₀ base h₀ L m s _ _ B F X N T hk hd hu (by rintro r tl h' tk' F' N' _ ⟨rfl, rfl⟩ hle; exact ret h' tk' hle F' N'))
theorem Gives.useI {w : World} {f : Addr} {dn : Nat} {args : List Value} {news : List (Addr × Obj)} {x : Int} (G : Gives w f dn args news (fun r tl => tl = [] ∧ ∃ t', r = .int x t'))
    {mean : ExcName → Option Value} {mg mb : Str → Option Value} {dp un : Nat} {gd : Option (List Code)} {cn : Str} {cs : Scope} {a : Addr} {ccd : Value} {cl : List (Str × Addr)} {outer : List Env} {A₀ : Around} {base h₀ : Heap} {L : Addr} {m : Str → Option Value} {s : Shared}
    {Q E : Value → Shared → Prop}
    (B : Below A₀ base outer h₀) (F : Fr h₀ L s.heap m) (X : (hd.heap_39 w.params).In h₀) (N : News h₀ L s.heap news) (T : Top hd.view_39 (looseW hd.view_39 [Str.ofString "Whitespace"]) mean mg mb h₀) (hk : cs.kind = .function) (hd : dp + dn < recursionLimit) (hu : un + 8 * dn < cLine)
    (ret : ∀ t h' tk', s.toks ≤ tk' → Fr h₀ L h' m → News h₀ L h' news → Q (.int x t) { s with heap := h', toks := tk' }) :
    wpAny (model Challenge.rw_mj0186_01.row.prog w) (ktrTop dp un gd cn cs L a ccd cl outer) (call (.ref f) args) Q E s :=
  wpAny_with_toks (Nat.le_refl _) (G mean mg mb dp un gd cn cs a ccd cl outer A₀ base h₀ L m s _ _ B F X N T hk hd hu (by rintro r tl h' tk' F' N' _ ⟨rfl, t, rfl⟩ hle; exact ret t h' tk' hle F' N'))
end Mine
end
section
open PySem PySem.W PyProof.Rows
set_option Elab.async false
set_option maxRecDepth 100000
namespace Mine
/-- as Gives, and a token has been drawn -/
def GivesP (w : World) (f : Addr) (dn : Nat) (args : List Value) (news : List (Addr × Obj)) (Post : Value → List (Addr × Obj) → Prop) : Prop :=
  ∀ (mean : ExcName → Option Value) (mg mb : Str → Option Value) (dp un : Nat) (gd : Option (List Code)) (cn : Str) (cs : Scope) (a : Addr) (ccd : Value) (cl : List (Str × Addr)) (outer : List Env) (A₀ : Around) (base h₀ : Heap) (L : Addr) (m : Str → Option Value) (s : Shared)
    (Q E : Value → Shared → Prop),
    Below A₀ base outer h₀ → Fr h₀ L s.heap m → (hd.heap_39 w.params).In h₀ → News h₀ L s.heap news → Top hd.view_39 (looseW hd.view_39 [Str.ofString "Whitespace"]) mean mg mb h₀ → cs.kind = .function → dp + dn < recursionLimit → un + 8 * dn < cLine →
    (∀ r tl h' tk', 0 < tk' → Fr h₀ L h' m → News h₀ L h' (tl ++ news) → (∀ p ∈ tl, ∀ q ∈ news, q.1 < p.1) → Post r tl → Q r { s with heap := h', toks := tk' }) →
    wpAny (model Challenge.rw_mj0186_01.row.prog w) (ktrTop dp un gd cn cs L a ccd cl outer) (call (.ref f) args) Q E s
theorem GivesP.weak {w : World} {f : Addr} {dn : Nat} {args : List Value} {news : List (Addr × Obj)} {Post : Value → List (Addr × Obj) → Prop} (G : GivesP w f dn args news Post) : Gives w f dn args news Post :=
  fun mean mg mb dp un gd cn cs a ccd cl outer A₀ base h₀ L m s Q E B F X N T hk hd hu hret => G mean mg mb dp un gd cn cs a ccd cl outer A₀ base h₀ L m s Q E B F X N T hk hd hu (fun r tl h' tk' _ => hret r tl h' tk')
theorem GivesP.useS {w : World} {f : Addr} {dn : Nat} {args : List Value} {news : List (Addr × Obj)} {x : Str} (G : GivesP w f dn args news (fun r tl => tl = [] ∧ ∃ t', r = .str x t'))
    {mean : ExcName → Option Value} {mg mb : Str → Option Value} {dp un : Nat} {gd : Option (List Code)} {cn : Str} {cs : Scope} {a : Addr} {ccd : Value} {cl : List (Str × Addr)} {outer : List Env} {A₀ : Around} {base h₀ : Heap} {L : Addr} {m : Str → Option Value} {s : Shared}
    {Q E : Value → Shared → Prop}
    (B : Below A₀ base outer h₀) (F : Fr h₀ L s.heap m) (X : (hd.heap_39 w.params).In h₀) (N : News h₀ L s.heap news) (T : Top hd.view_39 (looseW hd.view_39 [Str.ofString "Whitespace"]) mean mg mb h₀) (hk : cs.kind = .function) (hd : dp + dn < recursionLimit) (hu : un + 8 * dn < cLine)
    (ret : ∀ t h' tk', 0 < tk' → Fr h₀ L h' m → News h₀ L h' news → Q (.str x t) { s with heap := h', toks := tk' }) :
    wpAny (model Challenge.rw_mj0186_01.row.prog w) (ktrTop dp un gd cn cs L a ccd cl outer) (call (.ref f) args) Q E s :=
  G mean mg mb dp un gd cn cs a ccd cl outer A₀ base h₀ L m s _ _ B F X N T hk hd hu (by rintro r tl h' tk' hp F' N' _ ⟨rfl, t, rfl⟩; exact ret t h' tk' hp F' N')
end Mine
end
section
open PySem PySem.W PyProof.Rows
namespace Mine
theorem snoc_ind {α : Type} {P : List α → Prop} (h0 : P []) (h1 : ∀ l a, P l → P (l ++ [a])) (l : List α) : P l := by
  have h : ∀ r : List α, P r.reverse := by
    intro r
    induction r with
    | nil => exact h0
    | cons a r ih => rw [List.reverse_cons]; exact h1 _ _ ih
  have := h l.reverse
  rwa [List.reverse_reverse] at this
/-- the counts with room for a run of b -/
def pad (cs : List Nat) (b : Nat) : List Nat := if cs.length ≤ b then cs ++ List.replicate (b + 1 - cs.length) 0 else cs
def bump (cs : List Nat) (b : Nat) : List Nat := (pad cs b).set b ((pad cs b).getD b 0 + 1)
/-- Whitespace.__init__'s state: the counts, the blanks at hand, all signs, the tabs -/
structure WSt where
  cs : List Nat
  b : Nat
  n : Nat
  nt : Nat
def wsStep (s : WSt) (c : Nat) : WSt := if c = 32 then ⟨s.cs, s.b + 1, s.n + 1, s.nt⟩ else ⟨bump s.cs s.b, 0, s.n + 1, s.nt + 1⟩
def wsOf (l : List Nat) : WSt := l.foldl wsStep ⟨[], 0, 0, 0⟩
theorem wsOf_snoc (l : List Nat) (c : Nat) : wsOf (l ++ [c]) = wsStep (wsOf l) c := by simp [wsOf]
theorem pad_len (cs : List Nat) (b : Nat) : (pad cs b).length = max cs.length (b + 1) := by
  unfold pad
  split
  · simp only [List.length_append, List.length_replicate]; omega
  · omega
theorem bump_len (cs : List Nat) (b : Nat) : (bump cs b).length = max cs.length (b + 1) := by simp [bump, pad_len]
/-- the state's parts are small -/
theorem wsOf_small (l : List Nat) : (wsOf l).b ≤ l.length ∧ (wsOf l).n ≤ l.length ∧ (wsOf l).nt ≤ l.length ∧ (wsOf l).cs.length ≤ l.length + 1 := by
  refine snoc_ind (P := fun l => (wsOf l).b ≤ l.length ∧ (wsOf l).n ≤ l.length ∧ (wsOf l).nt ≤ l.length ∧ (wsOf l).cs.length ≤ l.length + 1) ?_ ?_ l
  · simp [wsOf]
  · intro l c ih
    obtain ⟨h1, h2, h3, h4⟩ := ih
    rw [wsOf_snoc, wsStep]
    split <;> simp only [List.length_append, List.length_cons, List.length_nil, bump_len] <;> omega
/-- a state of the loop as the program holds it -/
structure ISt where
  cl : Addr
  vs : List Value
  nn : Nat
  b : Int
  n : Int
  nt : Int
  tb : Tok
  tn : Tok
  tt : Tok
end Mine
end
section
open PySem PySem.W PyProof.Rows
namespace Mine
/-- a text by its signs' numbers -/
def S (l : List Nat) : Str := ⟨l.toArray⟩
theorem S_app (a b : List Nat) : S a ++ S b = S (a ++ b) := by
  refine Str.ext' ?_
  simp [S, Str.cps_append]
theorem S_len (a : List Nat) : (S a).length = a.length := by simp [S, Str.length]
theorem S_of (x : Str) : x = S x.cps.toList := by simp [S]
theorem S_nil : Str.ofString "" = S [] := by decide +kernel
def dots : List Nat := [46, 46, 46]
theorem S_dots : Str.ofString "..." = S dots := by decide +kernel
theorem S_tabdots : Str.ofString "\t..." = S (9 :: dots) := by decide +kernel
theorem S_tab : Str.ofString "\t" = S [9] := by decide +kernel
theorem S_blank : Str.ofString " " = S [32] := by decide +kernel
theorem S_bar : Str.ofString "|" = S [124] := by decide +kernel
theorem S_dotsbar : Str.ofString "...|" = S (dots ++ [124]) := by decide +kernel
theorem S_mul (n : Nat) : Txt.mul (Str.ofString " ") (n : Int) = S (List.replicate n 32) := by
  rw [S_blank]
  have h := mul_one_list 32 (n : Int)
  rw [S_of (Txt.mul (S [32]) (n : Int))]
  exact congrArg S (h.trans (by simp))
/-- what _law_tabs hands back -/
def tabsT : Nat → List Nat
  | 0 => dots
  | n + 1 => tabsT n ++ (9 :: dots)
theorem tabsT_len (n : Nat) : (tabsT n).length = 3 + 4 * n := by
  induction n with
  | zero => rfl
  | succ n ih => simp only [tabsT, List.length_append, ih, dots, List.length_cons, List.length_nil]; omega
/-- what _law_runs hands back -/
def runsT (r : Nat) : Nat → List Nat
  | 0 => dots
  | n + 1 => runsT r n ++ [124] ++ List.replicate r 32 ++ (9 :: dots)
theorem runsT_len (r n : Nat) : (runsT r n).length = 3 + (5 + r) * n := by
  induction n with
  | zero => rfl
  | succ n ih => simp only [runsT, List.length_append, ih, dots, List.length_cons, List.length_nil, List.length_replicate, Nat.mul_succ]; omega
def endT (b : Nat) : List Nat := dots ++ [124] ++ List.replicate b 32
/-- a lead's text: each run closed by a tab -/
def runsText : List Nat → List Nat
  | [] => []
  | r :: rs => List.replicate r 32 ++ [9] ++ runsText rs
theorem runsText_app (a b : List Nat) : runsText (a ++ b) = runsText a ++ runsText b := by
  induction a with
  | nil => rfl
  | cons r rs ih => simp only [List.cons_append, runsText, ih, List.append_assoc]
def textT (closed : List Nat) (behind : Nat) : List Nat := runsText closed ++ List.replicate behind 32
theorem runsText_len (B : Nat) : ∀ (l : List Nat), (∀ r ∈ l, r ≤ B) → (runsText l).length ≤ (B + 1) * l.length
  | [], _ => by simp [runsText]
  | r :: rs, h => by
    have h1 := runsText_len B rs fun x hx => h x (.tail _ hx)
    have h2 := h r (.head _)
    simp only [runsText, List.length_append, List.length_replicate, List.length_cons, List.length_nil, Nat.mul_succ]
    omega
/-- a lead as the program holds it: a tuple of a list of ints and an int -/
def LeadAt (news : List (Addr × Obj)) (v : Value) (closed : List Nat) (behind : Nat) : Prop :=
  ∃ a c vs nn k tb, v = .ref a ∧ (a, ({ cls := .type "tuple", data := .seq #[.ref c, .int (behind : Int) tb] k } : Obj)) ∈ news ∧ (c, listOf vs.toArray nn) ∈ news ∧ IntsAre vs (closed.map fun (n : Nat) => (n : Int))
theorem LeadAt.mono {news news' : List (Addr × Obj)} {v : Value} {closed : List Nat} {behind : Nat} (h : LeadAt news v closed behind) (hs : ∀ p ∈ news, p ∈ news') : LeadAt news' v closed behind := by
  obtain ⟨a, c, vs, nn, k, tb, e, h1, h2, h3⟩ := h
  exact ⟨a, c, vs, nn, k, tb, e, hs _ h1, hs _ h2, h3⟩
/-- a Whitespace as the program holds it -/
def WhiteAt (w : World) (news : List (Addr × Obj)) (v : Value) (st : WSt) : Prop :=
  ∃ (x dx nm ct : Addr) (raw : Value) (vs : List Value) (tn tt tb k1 k2 k3 k4 k5 : Tok),
    v = .ref x ∧ (x, instObj 83 dx) ∈ news ∧
    (dx, dictOf [⟨PyData.keyHash w.params (Str.ofString "raw"), .str (Str.ofString "raw") k1, raw⟩,
      ⟨PyData.keyHash w.params (Str.ofString "n"), .str (Str.ofString "n") k2, .int (st.n : Int) tn⟩,
      ⟨PyData.keyHash w.params (Str.ofString "nt"), .str (Str.ofString "nt") k3, .int (st.nt : Int) tt⟩,
      ⟨PyData.keyHash w.params (Str.ofString "norm"), .str (Str.ofString "norm") k4, .ref nm⟩,
      ⟨PyData.keyHash w.params (Str.ofString "is_simple"), .str (Str.ofString "is_simple") k5, .bool (decide (((st.cs.map fun (k : Nat) => (k : Int)).length : Int) ≤ 1))⟩] 5) ∈ news ∧
    (nm, ({ cls := .type "tuple", data := .seq #[.ref ct, .int (st.b : Int) tb] } : Obj)) ∈ news ∧
    (ct, ({ cls := .type "tuple", data := .seq vs.toArray } : Obj)) ∈ news ∧ IntsAre vs (st.cs.map fun (k : Nat) => (k : Int))
theorem WhiteAt.mono {w : World} {news news' : List (Addr × Obj)} {v : Value} {st : WSt} (h : WhiteAt w news v st) (hs : ∀ p ∈ news, p ∈ news') : WhiteAt w news' v st := by
  obtain ⟨x, dx, nm, ct, raw, vs, tn, tt, tb, k1, k2, k3, k4, k5, e, h1, h2, h3, h4, h5⟩ := h
  exact ⟨x, dx, nm, ct, raw, vs, tn, tt, tb, k1, k2, k3, k4, k5, e, hs _ h1, hs _ h2, hs _ h3, hs _ h4, h5⟩
/-- a lead of a bounded size -/
def Small (closed : List Nat) (behind : Nat) : Prop := closed.length ≤ 20 ∧ (∀ r ∈ closed, r ≤ 20) ∧ behind ≤ 20
theorem textT_len {closed : List Nat} {behind : Nat} (h : Small closed behind) : (S (textT closed behind)).length ≤ 500 := by
  obtain ⟨h1, h2, h3⟩ := h
  have := runsText_len 20 closed h2
  rw [S_len, textT, List.length_append, List.length_replicate]
  omega
/-- each tab with a bar behind -/
def repT : List Nat → List Nat
  | [] => []
  | c :: r => if c = 9 then 9 :: 124 :: repT r else c :: repT r
theorem repT_app (a b : List Nat) : repT (a ++ b) = repT a ++ repT b := by
  induction a with
  | nil => rfl
  | cons c r ih => by_cases h : c = 9 <;> simp [repT, h, ih]
theorem repT_free (l : List Nat) (h : 9 ∉ l) : repT l = l := by
  induction l with
  | nil => rfl
  | cons c r ih =>
    have h1 : c ≠ 9 := fun e => h (e ▸ List.mem_cons_self ..)
    have h2 : 9 ∉ r := fun e => h (List.mem_cons_of_mem _ e)
    simp [repT, h1, ih h2]
theorem repT_join : ∀ parts : List Str, (∀ p ∈ parts, 9 ∉ p.cps.toList) → repT (Str.join ⟨#[9]⟩ parts).cps.toList = (Str.join ⟨#[9, 124]⟩ parts).cps.toList
  | [], _ => rfl
  | [p], h => repT_free _ (h p (List.mem_singleton.mpr rfl))
  | p :: q :: r, h => by
    have ih := repT_join (q :: r) fun a ha => h a (List.mem_cons_of_mem _ ha)
    show repT (p ++ ⟨#[9]⟩ ++ Str.join ⟨#[9]⟩ (q :: r)).cps.toList = (p ++ ⟨#[9, 124]⟩ ++ Str.join ⟨#[9, 124]⟩ (q :: r)).cps.toList
    simp only [Str.cps_append, Array.toList_append]
    rw [repT_app, repT_app, ih, repT_free _ (h p (List.mem_cons_self ..))]
    rfl
theorem rep_eq (l : List Nat) : Txt.replace (S l) (Str.ofString "\t") (Str.ofString "\t|") = S (repT l) := by
  have e1 : Str.ofString "\t" = ⟨#[9]⟩ := by decide +kernel
  have e2 : Str.ofString "\t|" = ⟨#[9, 124]⟩ := by decide +kernel
  rw [e1, e2, StrLaws.replace_one]
  have h := repT_join _ (StrLaws.split_free (S l) 9)
  rw [StrLaws.join_split] at h
  rw [S_of (Str.join _ _), ← h]
  rfl
theorem repT_len_le (l : List Nat) : (repT l).length ≤ 2 * l.length := by
  induction l with
  | nil => simp [repT]
  | cons c r ih => by_cases h : c = 9 <;> simp [repT, h] <;> omega
theorem repT_len {closed : List Nat} {behind : Nat} (h : Small closed behind) : (S (repT (textT closed behind))).length ≤ 1000 := by
  have h1 := textT_len h
  have h2 := repT_len_le (textT closed behind)
  rw [S_len] at h1 ⊢
  omega
def barT (closed : List Nat) (behind : Nat) : List Nat := 124 :: repT (textT closed behind)
theorem barT_eq (closed : List Nat) (behind : Nat) : Txt.replace (S (textT closed behind)) (Str.ofString "\t") (Str.ofString "\t|") = S (repT (textT closed behind)) := rep_eq _
theorem one_eq {s : Str} {j k : Nat} (e : s = ⟨#[j]⟩) : ((⟨#[k]⟩ : Str) == s) = decide (k = j) := by
  subst e
  by_cases h : k = j
  · subst h; simp
  · rw [decide_eq_false h, beq_eq_false_iff_ne]
    intro e
    injection e with e
    simp at e
    exact h e
theorem at_text {tl rest : List Nat} {c i k : Nat} (h : (S (tl ++ c :: rest)).cps[i]? = some k) (hi : i ≤ tl.length) :
    (i < tl.length ∧ k ∈ tl ∧ tl.take (i + 1) = tl.take i ++ [k]) ∨ (i = tl.length ∧ k = c) := by
  have h' : (tl ++ c :: rest)[i]? = some k := by simpa [S] using h
  by_cases hlt : i < tl.length
  · rw [List.getElem?_append_left hlt] at h'
    exact .inl ⟨hlt, List.mem_of_getElem? h', by rw [List.take_add_one, h']; rfl⟩
  · have : i = tl.length := by omega
    subst this
    rw [List.getElem?_append_right (Nat.le_refl _)] at h'
    simp at h'
    exact .inr ⟨rfl, h'.symm⟩
theorem flat_rep (n : Nat) (a : Int) : (List.replicate n [a]).flatten = List.replicate n a := by
  induction n with
  | zero => rfl
  | succ n ih => rw [List.replicate_succ, List.flatten_cons, ih, List.replicate_succ]; rfl
theorem bump_pad {cs : List Nat} {b : Nat} (h : cs.length ≤ b) :
    (((cs.map fun (k : Nat) => (k : Int)) ++ (List.replicate ((b : Int) - ((cs.map fun (k : Nat) => (k : Int)).length : Int) + 1).toNat [(0 : Int)]).flatten).set (b : Int).toNat (0 + 1)) = (bump cs b).map fun (k : Nat) => (k : Int) := by
  rw [flat_rep, bump, List.map_set, List.length_map]
  have e1 : ((b : Int) - (cs.length : Int) + 1).toNat = b + 1 - cs.length := by omega
  rw [e1, Int.toNat_natCast]
  have e2 : pad cs b = cs ++ List.replicate (b + 1 - cs.length) 0 := by rw [pad, if_pos h]
  rw [e2, List.map_append, List.map_replicate]
  have e3 : (cs ++ List.replicate (b + 1 - cs.length) 0).getD b 0 = 0 := by
    rw [List.getD_eq_getElem?_getD, List.getElem?_append_right h, List.getElem?_replicate]
    split <;> rfl
  rw [e3]
  rfl
theorem bump_no {cs : List Nat} {b : Nat} (h : ¬ cs.length ≤ b) :
    ((cs.map fun (k : Nat) => (k : Int)).set (b : Int).toNat ((cs.map fun (k : Nat) => (k : Int)).getD (b : Int).toNat 0 + 1)) = (bump cs b).map fun (k : Nat) => (k : Int) := by
  have e2 : pad cs b = cs := by rw [pad, if_neg h]
  rw [bump, List.map_set, e2, Int.toNat_natCast]
  congr 1
  rw [List.getD_eq_getElem?_getD, List.getD_eq_getElem?_getD, List.getElem?_map]
  have : b < cs.length := by omega
  rw [List.getElem?_eq_getElem this]
  rfl
end Mine
end
section
open PySem PySem.W PyProof.Rows
set_option Elab.async false
set_option maxRecDepth 100000
set_option maxHeartbeats 8000000
set_option pp.maxSteps 20000
namespace Mine
local macro_rules | `(tactic| walk_at "pyIter ref") => `(tactic| (refine Hold.out ?_))
local macro_rules | `(tactic| walk_at "pyIter str") => `(tactic| (refine Hold.out ?_))
local macro_rules | `(tactic| walk_at "exec For Name Name cons nil") => `(tactic| (k_here; (rename Fr _ _ _ _ => lF'); (with_unfolding_all refine' For_invVF lF' ?k1 ?k2 ?_; (case k1 => exact rfl); (case k2 => exact rfl); k_whole)))
local macro_rules | `(tactic| walk_at "exec For Name Attribute cons nil") => `(tactic| (k_here; (rename Fr _ _ _ _ => lF'); (with_unfolding_all refine' For_invVF lF' ?k1 ?k2 ?_; (case k1 => exact rfl); (case k2 => exact rfl); k_whole)))
local macro_rules | `(tactic| walk_at "exec For Name Call cons nil") => `(tactic| (k_here; (rename Fr _ _ _ _ => lF'); (with_unfolding_all refine' For_invVF lF' ?k1 ?k2 ?_; (case k1 => exact rfl); (case k2 => exact rfl); k_whole)))

theorem ints_at {vs : List Value} {closed : List Nat} (h : IntsAre vs (closed.map fun (n : Nat) => (n : Int))) {i : Nat} {v : Value} (hv : vs[i]? = some v) : ∃ r t, closed[i]? = some r ∧ v = .int (r : Int) t := by
  have hl : vs.length = closed.length := by simpa using h.length
  have hi : i < closed.length := by rw [← hl]; exact (List.getElem?_eq_some_iff.mp hv).1
  obtain ⟨t, ht⟩ := h.get i (closed[i] : Int) (by simp [hi])
  rw [hv] at ht
  exact ⟨closed[i], t, by simp [hi], Option.some.inj ht⟩

def Mark : Prop := True
local macro_rules | `(tactic| walk_at "binaryOp Mult str int") => `(tactic| ((have mk7 : Mark := by assumption); clear mk7; refine Hold.out ?_))
def Mark2 : Prop := True
local macro_rules | `(tactic| walk_at "binaryOp Add str str") => `(tactic| ((have mk7 : Mark2 := by assumption); clear mk7; refine Hold.out ?_))
theorem text_specP (w : World) (news : List (Addr × Obj)) (v : Value) (closed : List Nat) (behind : Nat) (hv : LeadAt news v closed behind) (hs : Small closed behind) :
    GivesP w 108 1 [v] news (fun r tl => tl = [] ∧ ∃ t', r = .str (S (textT closed behind)) t') := by
  obtain ⟨av, ac, vs, nn, kk, tb, rfl, hm1, hm2, hI⟩ := hv
  obtain ⟨hs1, hs2, hs3⟩ := hs
  have hlen : vs.length = closed.length := by simpa using hI.length
  w_top off
  unfold GivesP
  w_top off
  k_fill
  intro mean mg mb dp un gd cn cs a ccd cl outer A₀ base h₀ L m s Q E B F X N T hk hd hu hret
  refine wpAny_call ?_
  k_dflt ktr_enter
  k_steps
  refine Hold.mk ?_
  (rename Fr _ _ _ _ => fF); (rename News _ _ _ _ => fN)
  refine' loop_list (fun _ => news) (fun c : Str × Tok => [(Str.ofString "text", Value.str c.1 c.2)]) [] (fun i c => c.1 = S (runsText (closed.take i))) (Str.ofString "", ?tk0) (by rfl) (fun _ => hm2) fF fN ?k1 ?k2 ?_ ?_
  case k1 => kst_all
  case k2 => exact S_nil
  · rintro ⟨c, tc⟩ i vi u h tk own hvi hP hoff F1 N1
    dsimp only at hP
    subst hP
    obtain ⟨r, tr, hr, rfl⟩ := ints_at hI hvi
    have hr2 := hs2 r (List.mem_of_getElem? hr)
    have hl := (S_len (runsText (closed.take i)))
    have hb := runsText_len 20 (closed.take i) (fun x hx => hs2 x (List.mem_of_mem_take hx))
    have hb2 : (closed.take i).length ≤ 20 := by rw [List.length_take]; omega
    clear fF fN; dsimp only [kstB] at F1
    k_steps
    refine' Turn.next (_, _) (by assumption) (by assumption) (fun p hp => List.mem_append.mpr (.inr hp)) (fun p hp => List.mem_append.mpr (.inl hp)) hoff ?k1 ?k2 ?k3
    case k1 => kst_all
    case k2 => kst_same
    case k3 =>
      show S (runsText (closed.take i)) ++ Txt.mul (Str.ofString " ") (r : Int) ++ Str.ofString "\t" = S (runsText (closed.take (i + 1)))
      rw [S_mul, S_tab, S_app, S_app, List.take_add_one, hr]
      simp [runsText_app, runsText]
  · rintro ⟨c, tc⟩ u h tk hP F1 N1
    dsimp only at hP
    rw [hlen, List.take_length] at hP
    subst hP
    have hl := (S_len (runsText closed))
    have hb := runsText_len 20 closed hs2
    clear fF fN; dsimp only [kstB] at F1
    have mk9 : Mark := trivial
    have mk8 : Mark2 := trivial
    k_steps
    refine Hold.mk ?_
    refine wpAny_with_toks (n := 1) (Nat.succ_le_succ (Nat.zero_le _)) ?_
    clear mk9
    k_steps
    refine Hold.mk ?_
    refine wpAny_with_toks (n := 1) (by assumption) ?_
    clear mk8
    k_steps
    exact hret _ [] _ _ (by assumption) (by assumption) (by assumption) (fun _ h => nomatch h) ⟨rfl, _, congrArg (Value.str · _) (by rw [S_mul, S_app]; rfl)⟩
theorem text_spec (w : World) (news : List (Addr × Obj)) (v : Value) (closed : List Nat) (behind : Nat) (hv : LeadAt news v closed behind) (hs : Small closed behind) :
    Gives w 108 1 [v] news (fun r tl => tl = [] ∧ ∃ t', r = .str (S (textT closed behind)) t') := (text_specP w news v closed behind hv hs).weak
end Mine
end
section
open PySem PySem.W PyProof.Rows
set_option Elab.async false
set_option maxRecDepth 100000
set_option maxHeartbeats 8000000
set_option pp.maxSteps 20000
namespace Mine
local macro_rules | `(tactic| walk_at "pyIter ref") => `(tactic| (refine Hold.out ?_))
local macro_rules | `(tactic| walk_at "call builtin:str.replace") => `(tactic| (k_here; (refine SC.replaceW (by ((show @Ne Nat _ _); omega)) (by ((show @Ne Nat _ _); omega)) (by ((show @Ne Nat _ _); omega)) (by decide +kernel) (by omega) (by decide +kernel) ?_); intro t9 k9))
local macro_rules | `(tactic| walk_at "Turn") => `(tactic| ((first | refine Turn.ret ?_ | refine Turn.brk ?_); (try dsimp only); (try k_fold)))
local macro_rules | `(tactic| walk_at "pyIter str") => `(tactic| (refine Hold.out ?_))
local macro_rules | `(tactic| walk_at "exec For Name Name cons nil") => `(tactic| (k_here; (rename Fr _ _ _ _ => lF'); (with_unfolding_all refine' For_invVF lF' ?k1 ?k2 ?_; (case k1 => exact rfl); (case k2 => exact rfl); k_whole)))
local macro_rules | `(tactic| walk_at "exec For Name Attribute cons nil") => `(tactic| (k_here; (rename Fr _ _ _ _ => lF'); (with_unfolding_all refine' For_invVF lF' ?k1 ?k2 ?_; (case k1 => exact rfl); (case k2 => exact rfl); k_whole)))
local macro_rules | `(tactic| walk_at "exec For Name Call cons nil") => `(tactic| (k_here; (rename Fr _ _ _ _ => lF'); (with_unfolding_all refine' For_invVF lF' ?k1 ?k2 ?_; (case k1 => exact rfl); (case k2 => exact rfl); k_whole)))

local macro_rules | `(tactic| walk_at "truthy str") => `(tactic| (refine Hold.out ?_))
local macro_rules | `(tactic| walk_at "delItem ref int") => `(tactic| (refine Hold.out ?_))
local macro_rules | `(tactic| walk_at "call builtin:str.find") => `(tactic| (refine Hold.out ?_))
section
variable {prog : Program} {w : World} {A : Around} {E : Value → Shared → Prop} {s : Shared} {x : Str} {t : Tok} {Q : Bool → Shared → Prop}
theorem truthy_no (hx : x.length = 0) (h : Q false { s with toks := s.toks + 1 + 1 }) : wpAny (model prog w) A (truthy (.str x t)) Q E s :=
  P.truthy_str (by rw [hx]; decide) (by rw [hx]; exact h)
theorem truthy_yes (hx : x.length ≠ 0) (hy : x.length < 1000000) (h : Q true { s with toks := s.toks + 1 + 1 }) : wpAny (model prog w) A (truthy (.str x t)) Q E s :=
  P.truthy_str (by omega) ((show ((x.length : Int) != 0) = true from by rw [bne_iff_ne]; omega) ▸ h)
end
theorem strs_at {vs : List Value} {ys : List Str} (h : StrsAre vs ys) : ∀ {i : Nat} {v : Value}, vs[i]? = some v → ∃ y t, ys[i]? = some y ∧ v = .str y t := by
  induction h with
  | nil => intro i v hv; simp at hv
  | cons y t _ ih =>
    intro i v hv
    cases i with
    | zero => simp at hv; exact ⟨y, t, by simp, hv.symm⟩
    | succ i => simp at hv; obtain ⟨y', t', h1, h2⟩ := ih hv; exact ⟨y', t', by simpa using h1, h2⟩
theorem strs_len {vs : List Value} {ys : List Str} (h : StrsAre vs ys) : vs.length = ys.length := by
  induction h with
  | nil => rfl
  | cons y t _ ih => simp [ih]
theorem drop_at {α : Type} {l : List α} {i : Nat} {a : α} (h : l[i]? = some a) : l.drop i = a :: l.drop (i + 1) := by
  obtain ⟨hi, e⟩ := List.getElem?_eq_some_iff.mp h
  rw [List.drop_eq_getElem_cons hi, e]
theorem strs_ne {vs : List Value} {ys : List Str} {y : Str} (h : StrsAre vs (ys ++ [y])) : vs ≠ [] := fun e => by
  have := strs_len h
  rw [e] at this
  simp at this
theorem strs_dropLast {vs : List Value} {ys : List Str} {y : Str} (h : StrsAre vs (ys ++ [y])) : StrsAre vs.dropLast ys := by
  induction ys generalizing vs with
  | nil =>
    cases h with
    | cons _ t h' => cases h'; exact .nil
  | cons z zs ih =>
    cases h with
    | cons _ t h' =>
      have h2 := ih h'
      have hne := strs_ne h'
      rw [List.dropLast_cons_of_ne_nil hne]
      exact .cons z t h2
theorem ends_le {y z : Str} (h : Txt.endswith y z = true) : z.length ≤ y.length := by
  unfold Txt.endswith at h
  simp only [Bool.and_eq_true, decide_eq_true_eq] at h
  omega
theorem delLast : ∀ {l : List Value} {k : Nat}, l ≠ [] → k + 1 = l.length → ki_delL l k = some l.dropLast
  | [], _, h, _ => absurd rfl h
  | [x], 0, _, _ => rfl
  | x :: y :: r, k + 1, _, hk => by
    have := delLast (l := y :: r) (k := k) (by simp) (by simpa using hk)
    unfold ki_delL
    rw [this]
    rfl
theorem em_spec (w : World) (news : List (Addr × Obj)) (x y : Str) (t u : Tok) (mid : List Str) (last : Str) (hx : x.length < 1000000) (hy : y.length < 1000000) (hmid : mid.length < 999999)
    (hin : (Builtin.Str.occurrences x (Str.ofString "...") 0 x.length 1).isEmpty = false) (hsp : Txt.split x (Str.ofString "...") = Str.empty :: (mid ++ [last])) :
    Gives w 94 1 [.str x t, .str y u] news (fun r tl => tl = [] ∧ r = .bool (emB y mid last)) := by
  w_top off
  unfold Gives
  w_top off
  k_fill
  intro mean mg mb dp un gd cn cs a ccd cl outer A₀ base h₀ L m s Q E B F X N T hk hd hu hret
  refine wpAny_call ?_
  k_dflt ktr_enter
  (rename News _ _ _ _ => nE); have hlt0 := fun p (hp : p ∈ news) => Heap.lt_size (nE p hp).1; revert hlt0 nE; intro nE hlt0
  k_steps
  · refine Hold.mk ?_
    (rename List (Str × Tok) => l); (rename List.map _ l = Txt.split _ _ => hlk); (rename (List.map _ l)[_]? = some _ => hw)
    rw [hsp] at hlk
    rw [hlk] at hw
    have hw' := Option.some.inj hw
    subst hw'
    clear hw
    refine truthy_no rfl ?_
    k_steps
    refine Hold.mk ?_
    have e : (List.map (fun x => x.fst) l).getD (-1 + ((List.map (fun x => x.fst) l).length : Int)).toNat Str.empty = last := by
      rw [hlk]
      have e1 : (-1 + ((Str.empty :: (mid ++ [last])).length : Int)).toNat = mid.length + 1 := by simp only [List.length_cons, List.length_append, List.length_nil]; omega
      rw [e1]
      simp
    simp only [e] at *
    have hal : ∀ a ∈ Str.empty :: (mid ++ [last]), a.length < 1000000 := by
      (rename (∀ a, a ∈ List.map _ l → Str.length a ≤ _) => hal0)
      intro a ha
      have := hal0 a (by rw [hlk]; exact ha)
      omega
    have hlast := hal last (by simp)
    have hstrs : StrsAre (strValues l) (Str.empty :: (mid ++ [last])) := by
      (rename StrsAre _ _ => hst0)
      rw [hlk] at hst0
      exact hst0
    have hlenv := strs_len hstrs
    by_cases h0 : last.length = 0
    · refine truthy_no h0 ?_
      k_steps
      have hR0 : emB y mid last = scan y y.length (Str.empty :: (mid ++ [last])) 0 := by rw [emB, if_pos h0]
      refine Hold.mk ?_
      (rename Fr _ _ _ _ => fF); (rename News _ _ _ _ => fN)
      refine' loop_listC (vs := strValues l) (fun c : Int × Tok => [(Str.ofString "startpos", Value.int c.1 c.2)]) [] (fun i c => ∃ lo : Nat, c.1 = (lo : Int) ∧ scan y y.length ((Str.empty :: (mid ++ [last])).drop i) lo = emB y mid last) ((0 : Int), ?tk0) (by rfl) ?km fF fN ?k1 ?k2 ?_ ?_
      case km => k_mem
      case k1 => kst_all
      case k2 => exact ⟨0, rfl, hR0.symm⟩
      · rintro ⟨c, tc⟩ i vi u2 h tk own hvi hP hoff F1 N1
        obtain ⟨lo, hlo, hsc⟩ := hP
        dsimp only at hlo
        subst hlo
        obtain ⟨wi, ti, hwi, rfl⟩ := strs_at hstrs hvi
        rw [drop_at hwi] at hsc
        have hwl : wi.length < 1000000 := hal wi (List.mem_of_getElem? hwi)
        clear fF fN; dsimp only [kstB] at F1
        k_steps
        refine Hold.mk ?_
        refine call_find4 (Nat.le_refl _) (fun t' k' => ⟨fun hn => ?_, fun p hp => ?_⟩)
        · rw [scan, hn] at hsc
          k_steps
          refine' hret _ [] _ _ ?e1 ?e2 (fun _ h => nomatch h) ⟨rfl, ?e3⟩
          case e1 => assumption
          case e2 => exact cb_drop (by assumption) (by intro p hp; simp only [List.nil_append] at hp; simp [hp])
          case e3 => rw [← hsc]
        · rw [scan, hp] at hsc
          dsimp only at hsc
          k_steps
          refine' Turn.next (_, _) (by assumption) (by assumption) (fun p hp => List.mem_append.mpr (.inr hp)) (fun p hp => List.mem_append.mpr (.inl hp)) hoff ?k1 ?k2 ?k3
          case k1 => kst_all
          case k2 => kst_same
          case k3 => exact ⟨p + wi.length, by simp, hsc⟩
      · rintro ⟨c, tc⟩ u2 h tk hP F1 N1
        obtain ⟨lo, hlo, hsc⟩ := hP
        have hR : emB y mid last = true := by rw [← hsc, hlenv, List.drop_length]; rfl
        clear fF fN; dsimp only [kstB] at F1
        k_steps
        refine' hret _ [] _ _ ?e1 ?e2 (fun _ h => nomatch h) ⟨rfl, ?e3⟩
        case e1 => assumption
        case e2 => exact cb_drop (by assumption) (by intro p hp; simp only [List.nil_append] at hp; simp [hp])
        case e3 => rw [hR]
    · refine truthy_yes h0 hlast ?_
      k_steps
      · refine Hold.mk ?_
        (rename Txt.endswith y last = true => hew)
        have hle : last.length ≤ y.length := ends_le hew
        have hR0 : emB y mid last = scan y (y.length - last.length) (Str.empty :: mid) 0 := by rw [emB, if_neg h0, hew, Bool.true_and]
        have hstrs2 : StrsAre (strValues l).dropLast (Str.empty :: mid) := strs_dropLast (ys := Str.empty :: mid) hstrs
        have hlenv2 := strs_len hstrs2
        have e2 : ((y.length : Int) - (last.length : Int)) = ((y.length - last.length : Nat) : Int) := by omega
        simp only [e2] at *
        have hne0 : strValues l ≠ [] := by intro h; rw [h] at hlenv; simp at hlenv
        have hbig : (strValues l).length ≤ 1000001 := by
          rw [hlenv]
          simp only [List.length_cons, List.length_append, List.length_nil]
          omega
        k_dflt (refine' ki_del ?F ?N ?f ?k ?e ?U ?z ?_)
        case F => k_asm
        case N => k_asm
        case U => exact Upd.tail (by k_ne) (Upd.head (fun p hp => Nat.ne_of_lt (hlt0 p hp)))
        case f => rfl
        case k => exact StrLaws.seqIndex_neg (by decide) (by have := List.length_pos_iff.mpr hne0; simp only [List.size_toArray]; omega)
        case e => exact delLast hne0 (by simp only [List.size_toArray]; have := List.length_pos_iff.mpr hne0; omega)
        case z => (show (strValues l).toArray.toList.length ≤ _); rw [sizeLine_eq]; simp only [List.toList_toArray]; omega
        intro h' F' N'
        k_steps
        refine Hold.mk ?_
        (rename Fr _ _ _ _ => fF); (rename News _ _ _ _ => fN)
        refine' loop_listC (vs := (strValues l).dropLast) (fun c : Int × Tok => [(Str.ofString "startpos", Value.int c.1 c.2)]) [] (fun i c => ∃ lo : Nat, c.1 = (lo : Int) ∧ scan y (y.length - last.length) ((Str.empty :: mid).drop i) lo = emB y mid last) ((0 : Int), ?tk0) (by rfl) ?km fF fN ?k1 ?k2 ?_ ?_
        case km => k_mem
        case k1 => kst_all
        case k2 => exact ⟨0, rfl, hR0.symm⟩
        · rintro ⟨c, tc⟩ i vi u2 h tk own hvi hP hoff F1 N1
          obtain ⟨lo, hlo, hsc⟩ := hP
          dsimp only at hlo
          subst hlo
          obtain ⟨wi, ti, hwi, rfl⟩ := strs_at hstrs2 hvi
          rw [drop_at hwi] at hsc
          have hwl : wi.length < 1000000 := hal wi (by have := List.mem_of_getElem? hwi; simp at this ⊢; rcases this with h | h <;> simp [h])
          clear fF fN; dsimp only [kstB] at F1
          k_steps
          refine Hold.mk ?_
          refine call_find4 (Nat.sub_le _ _) (fun t' k' => ⟨fun hn => ?_, fun p hp => ?_⟩)
          · rw [scan, hn] at hsc
            k_steps
            refine' hret _ [] _ _ ?e1 ?e2 (fun _ h => nomatch h) ⟨rfl, ?e3⟩
            case e1 => assumption
            case e2 => exact cb_drop (by assumption) (by intro p hp; simp only [List.nil_append] at hp; simp [hp])
            case e3 => rw [← hsc]
          · rw [scan, hp] at hsc
            dsimp only at hsc
            k_steps
            refine' Turn.next (_, _) (by assumption) (by assumption) (fun p hp => List.mem_append.mpr (.inr hp)) (fun p hp => List.mem_append.mpr (.inl hp)) hoff ?k1 ?k2 ?k3
            case k1 => kst_all
            case k2 => kst_same
            case k3 => exact ⟨p + wi.length, by simp, hsc⟩
        · rintro ⟨c, tc⟩ u2 h tk hP F1 N1
          obtain ⟨lo, hlo, hsc⟩ := hP
          have hR : emB y mid last = true := by rw [← hsc, hlenv2, List.drop_length]; rfl
          clear fF fN; dsimp only [kstB] at F1
          k_steps
          refine' hret _ [] _ _ ?e1 ?e2 (fun _ h => nomatch h) ⟨rfl, ?e3⟩
          case e1 => assumption
          case e2 => exact cb_drop (by assumption) (by intro p hp; simp only [List.nil_append] at hp; simp [hp])
          case e3 => rw [hR]
      · have hR0 : emB y mid last = false := by
          (rename Txt.endswith y last = false => hew)
          rw [emB, if_neg h0, hew, Bool.false_and]
        refine' hret _ [] _ _ ?e1 ?e2 (fun _ h => nomatch h) ⟨rfl, ?e3⟩
        case e1 => assumption
        case e2 => exact cb_drop (by assumption) (by intro p hp; simp only [List.nil_append] at hp; simp [hp])
        case e3 => rw [hR0]
  · exfalso
    (rename List (Str × Tok) => l); (rename List.map _ l = Txt.split _ _ => hlk); (rename ¬ (2 ≤ (List.length _ : Int)) => h2)
    have := congrArg List.length hlk
    rw [hsp] at this
    simp only [List.length_map, List.length_cons, List.length_append, List.length_nil] at this
    omega
end Mine
end
section
open PySem PySem.W PyProof.Rows
set_option Elab.async false
set_option maxRecDepth 100000
set_option maxHeartbeats 8000000
set_option pp.maxSteps 20000
namespace Mine
local macro_rules | `(tactic| walk_at "pyIter ref") => `(tactic| (refine Hold.out ?_))
local macro_rules | `(tactic| walk_at "call builtin:str.replace") => `(tactic| (k_here; (refine SC.replaceW (by ((show @Ne Nat _ _); omega)) (by ((show @Ne Nat _ _); omega)) (by ((show @Ne Nat _ _); omega)) (by decide +kernel) (by omega) (by decide +kernel) ?_); intro t9 k9))
local macro_rules | `(tactic| walk_at "call type:tuple") => `(tactic| (k_here; (with_reducible show wpAny _ _ (call (Value.type _) [Value.ref _]) _ _ _); k_dflt (refine' kde_tupleOf ?k1 ?k2 ?k3 ?k4 ?k5 ?_; (case k1 => k_asm); (case k2 => k_asm); (case k3 => exact News.isList (by k_asm) (by k_mem)); (case k4 => (simp only [List.size_toArray]; omega)); (case k5 => exact rfl); k_whole); intro D' h' F' N' l1; (try k_lt l1); (try k_sweep)))
local macro_rules | `(tactic| k_all) => `(tactic| assumption)
local macro_rules | `(tactic| walk_at "Turn") => `(tactic| ((first | refine Turn.ret ?_ | refine Turn.brk ?_); (try dsimp only); (try k_fold)))
local macro_rules | `(tactic| walk_at "pyIter str") => `(tactic| (refine Hold.out ?_))
local macro_rules | `(tactic| walk_at "exec For Name Name cons nil") => `(tactic| (k_here; (rename Fr _ _ _ _ => lF'); (with_unfolding_all refine' For_invVF lF' ?k1 ?k2 ?_; (case k1 => exact rfl); (case k2 => exact rfl); k_whole)))
local macro_rules | `(tactic| walk_at "exec For Name Attribute cons nil") => `(tactic| (k_here; (rename Fr _ _ _ _ => lF'); (with_unfolding_all refine' For_invVF lF' ?k1 ?k2 ?_; (case k1 => exact rfl); (case k2 => exact rfl); k_whole)))
local macro_rules | `(tactic| walk_at "exec For Name Call cons nil") => `(tactic| (k_here; (rename Fr _ _ _ _ => lF'); (with_unfolding_all refine' For_invVF lF' ?k1 ?k2 ?_; (case k1 => exact rfl); (case k2 => exact rfl); k_whole)))

theorem init_spec (w : World) (news : List (Addr × Obj)) (tl : List Nat) (c : Nat) (rest : List Nat) (t : Tok) (hx : (tl ++ c :: rest).length < 10000) (htl : ∀ k ∈ tl, k = 32 ∨ k = 9) (hc : c ≠ 32 ∧ c ≠ 9) :
    Gives w 83 3 [.str (S (tl ++ c :: rest)) t] news (fun r tl' => WhiteAt w tl' r (wsOf tl)) := by
  w_top off
  unfold Gives
  w_top off
  k_fill
  intro mean mg mb dp un gd cn cs a ccd cl outer A₀ base h₀ L m s Q E B F X N T hk hd hu hret
  k_dflt (refine' call_cls ?k1 ?k2 ?k3 ?k4 ?k5 ?k6 ?_; (case k1 => k_asm); (case k2 => k_asm); (case k3 => k_asm); (case k4 => k_is); (case k5 => k_is); (case k6 => k_is))
  intro x' d' h' F' N' l1 l2
  have l2n : @LT.lt Nat _ d' x' := l2
  k_dflt ktr_enter
  k_steps
  refine Hold.mk ?_
  (rename Fr _ _ _ _ => fF); (rename News _ _ _ _ => fN)
  have fN2 := ledger_keep fN
  refine' loop_str (fun c : ISt => (c.cl, listOf c.vs.toArray c.nn) :: (x', instObj 83 d') :: (d', _) :: news) (fun c : ISt => [(Str.ofString "count", Value.ref c.cl), (Str.ofString "b", Value.int c.b c.tb), (Str.ofString "n", Value.int c.n c.tn), (Str.ofString "nt", Value.int c.nt c.tt)]) []
    (fun i c => i ≤ tl.length ∧ c.b = ((wsOf (tl.take i)).b : Int) ∧ c.n = ((wsOf (tl.take i)).n : Int) ∧ c.nt = ((wsOf (tl.take i)).nt : Int) ∧ IntsAre c.vs ((wsOf (tl.take i)).cs.map fun (k : Nat) => (k : Int)) ∧ @LT.lt Nat _ x' c.cl)
    (ISt.mk ?cl0 [] 0 0 0 0 ?tb ?tn ?tt) (by rfl) fF fN2 ?k1 ?k2 ?_ ?_
  case k1 => kst_all
  case k2 => exact ⟨Nat.zero_le _, rfl, rfl, rfl, .nil, by (show @LT.lt Nat _ x' _); dsimp only; omega⟩
  · rintro ⟨cl, vs, nn, b, n, nt, tb, tn, tt⟩ i k tk1 u h tk own hk hP hoff F1 N1
    dsimp only at hP hoff F1 N1
    obtain ⟨hi, rfl, rfl, rfl, hI, hcl⟩ := hP
    obtain ⟨sb, sn, snt, scs⟩ := wsOf_small (tl.take i)
    clear fF fN fN2; dsimp only [kstB] at F1; simp only [List.cons_append] at N1
    have hvl : vs.length = (wsOf (tl.take i)).cs.length := by simpa using hI.length
    have hx2 : tl.length < 10000 := by simp only [List.length_append] at hx; omega
    have hi2 : (tl.take i).length ≤ i := List.length_take_le ..
    have hall1 : ∀ p ∈ news ++ own, p.1 ≠ cl := fun p hp => (List.mem_append.mp hp).elim (fun h => Nat.ne_of_lt (Nat.lt_trans (l1 p h) (Nat.lt_trans l2 hcl))) (fun h => hoff p h _ (.head _))
    have hall2 : ∀ p ∈ news ++ own, p.1 ≠ d' := fun p hp => (List.mem_append.mp hp).elim (fun h => Nat.ne_of_lt (l1 p h)) (fun h => hoff p h _ (.tail _ (.tail _ (.head _))))
    k_steps
    · (rename ((_ : Str) == _) = true => hq)
      rw [one_eq S_blank, decide_eq_true_eq] at hq
      subst hq
      rcases at_text hk hi with ⟨hlt, _, htk⟩ | ⟨_, rfl⟩
      · (rename News _ _ _ _ => nE)
        refine Turn.next (ISt.mk _ _ _ _ _ _ _ _ _) (by assumption) nE (fun p hp => by simp [hp]) (List.forall_mem_cons.mpr ⟨.head _, fun p hp => by (simp only [List.mem_cons, List.mem_append] at hp ⊢; rcases hp with h | h | h <;> simp [h])⟩) hoff (by kst_all) ?h5 ?h6
        case h5 => kst_same
        case h6 => rw [htk, wsOf_snoc]; exact ⟨hlt, rfl, rfl, rfl, hI, hcl⟩
      · exact absurd rfl hc.1
    · (rename News _ _ _ _ => fN)
      k_dflt (refine' ksa_set ?k1 ?k2 ?k3 ?k4 ?k5 ?k6 ?k7 ?_)
      case k1 => k_asm
      case k2 => k_asm
      case k4 => with_reducible assumption
      case k3 => exact Upd.head (by first | k_all | (refine' List.forall_mem_cons.mpr ⟨by k_ne, List.forall_mem_cons.mpr ⟨by k_ne, List.forall_mem_cons.mpr ⟨by k_ne, List.forall_mem_cons.mpr ⟨by k_ne, List.forall_mem_cons.mpr ⟨by k_ne, ?_⟩⟩⟩⟩⟩; exact fun p hp => Nat.ne_of_lt (ktn_ltOf (by with_reducible (first | assumption | omega)) p hp)))
      case k5 => omega
      case k6 => simp; omega
      case k7 => omega
      intro h' F' N' hi' hl' hs'
      k_steps
      (rename ((_ : Str) == Str.ofString "\t") = true => hq)
      rw [one_eq S_tab, decide_eq_true_eq] at hq
      subst hq
      rcases at_text hk hi with ⟨hlt, _, htk⟩ | ⟨_, rfl⟩
      · (rename ((List.length (List.map _ (wsOf (List.take i tl)).cs) : Int) ≤ _) => hJ)
        (rename News _ _ _ _ => nE)
        refine Turn.next (ISt.mk _ _ _ _ _ _ _ _ _) (by assumption) nE (fun p hp => by simp [hp]) (List.forall_mem_cons.mpr ⟨.head _, fun p hp => by (simp only [List.mem_cons, List.mem_append] at hp ⊢; rcases hp with h | h | h <;> simp [h])⟩) ?h3 (by kst_all) ?h5 ?h6
        case h3 => intro p hp q hq; dsimp only at hq; exact own_off hoff (fun p hp => Nat.ne_of_lt (ktn_ltOf (by with_reducible (rename (_ ∧ _ ∧ _ ∧ _ ∧ _ ∧ AllLt _ _) => hL); exact hL.2.2.2.2.2) p (List.mem_append.mpr (.inr hp)))) p hp q hq
        case h5 => kst_same
        case h6 =>
          rw [htk, wsOf_snoc]
          refine ⟨hlt, rfl, rfl, rfl, ?_, by (show @LT.lt Nat _ x' _); dsimp only; omega⟩
          rw [bump_pad (by simpa using hJ)] at hi'
          exact hi'
      · exact absurd rfl hc.2
    · (rename ((_ : Str) == Str.ofString "\t") = true => hq)
      rw [one_eq S_tab, decide_eq_true_eq] at hq
      subst hq
      rcases at_text hk hi with ⟨hlt, _, htk⟩ | ⟨_, rfl⟩
      · (rename IntsAre (List.set _ _ _) _ => hi'); (rename ¬ ((List.length (List.map _ (wsOf (List.take i tl)).cs) : Int) ≤ _) => hJ)
        (rename News _ _ _ _ => nE)
        refine Turn.next (ISt.mk _ _ _ _ _ _ _ _ _) (by assumption) nE (fun p hp => by simp [hp]) (List.forall_mem_cons.mpr ⟨.head _, fun p hp => by (simp only [List.mem_cons, List.mem_append] at hp ⊢; rcases hp with h | h | h <;> simp [h])⟩) ?h3 (by kst_all) ?h5 ?h6
        case h3 =>
          intro p hp q hq
          have h1 : p.1 ≠ cl := hoff p hp _ (.head _)
          rcases List.mem_cons.mp hq with h | h
          · rw [h]; exact h1
          · exact hoff p hp q (.tail _ h)
        case h5 => kst_same
        case h6 =>
          rw [htk, wsOf_snoc]
          refine ⟨hlt, rfl, rfl, rfl, ?_, hcl⟩
          rw [bump_no (by simpa using hJ)] at hi'
          exact hi'
      · exact absurd rfl hc.2
    · (rename ((_ : Str) == Str.ofString "\t") = false => hq2); (rename ((_ : Str) == Str.ofString " ") = false => hq1)
      rw [one_eq S_tab, decide_eq_false_iff_not] at hq2
      rw [one_eq S_blank, decide_eq_false_iff_not] at hq1
      rcases at_text hk hi with ⟨_, hmem, _⟩ | ⟨hi3, _⟩
      · exact absurd (htl k hmem) (by simp [hq1, hq2])
      · subst hi3
        (rename News _ _ _ _ => nE)
        refine hret _ [_, _, _, _] _ _ (by assumption) (cb_drop nE (r4 (.head _) (.tail _ (.head _)) (.tail _ (.tail _ (.tail _ (.head _)))) (.tail _ (.tail _ (.tail _ (.tail _ (.head _)))))
          (fun p hp => .tail _ (.tail _ (.tail _ (.tail _ (.tail _ (List.mem_append.mpr (.inl hp))))))))) ?ho ?hw
        case ho =>
          have hn1 : ∀ q ∈ news, @LT.lt Nat _ q.1 d' := l1
          refine r4 ?_ ?_ ?_ ?_ (fun p hp => nomatch hp)
          all_goals (intro q hq; have := hn1 q hq; (show @LT.lt Nat _ _ _); dsimp only; omega)
        case hw =>
          rw [List.take_length] at hI
          exact ⟨x', d', _, _, _, vs, _, _, _, _, _, _, _, _, rfl, .tail _ (.tail _ (.head _)), .tail _ (.tail _ (.tail _ (by rw [List.take_length]; exact .head _))), by rw [List.take_length]; exact .head _, .tail _ (.head _), hI⟩
  · rintro ⟨cl, vs, nn, b, n, nt, tb, tn, tt⟩ u h tk hP F1 N1
    exfalso
    have := hP.1
    simp [S] at this
    omega
end Mine
end
section
open PySem PySem.W PyProof.Rows
set_option maxRecDepth 100000
namespace Mine
open Builtin Builtin.Str
/-- w stands at place i of y, up to hi -/
theorem at_iff (y w : List Nat) (hi i : Nat) : StrLaws.At (S y) (S w) hi i ↔ (i + w.length ≤ hi ∧ (y.drop i).take w.length = w) := by
  unfold StrLaws.At
  rw [StrLaws.subAt_eq, S_len]
  simp [S]
/-- find by plain lists -/
theorem find_none {y w : List Nat} {lo hi : Nat} (h : ∀ i, lo ≤ i → i + w.length ≤ hi → (y.drop i).take w.length ≠ w) : findF (S y) (S w) lo hi = none := by
  rcases findF_spec (S y) (S w) lo hi with ⟨h1, _⟩ | ⟨i, _, h2, h3, _⟩
  · exact h1
  · rw [at_iff] at h3
    exact absurd h3.2 (h i h2 h3.1)
theorem find_some {y w : List Nat} {lo hi p : Nat} (hlo : lo ≤ p) (hp : p + w.length ≤ hi) (hw : (y.drop p).take w.length = w) (h : ∀ i, lo ≤ i → i < p → (y.drop i).take w.length ≠ w) : findF (S y) (S w) lo hi = some p := by
  rcases findF_spec (S y) (S w) lo hi with ⟨_, h2⟩ | ⟨i, h1, h2, h3, h4⟩
  · exact absurd ((at_iff y w hi p).mpr ⟨hp, hw⟩) (h2 p hlo)
  · rw [at_iff] at h3
    rcases Nat.lt_trichotomy i p with hl | hl | hl
    · exact absurd h3.2 (h i h2 hl)
    · rw [h1, hl]
    · exact absurd ((at_iff y w hi p).mpr ⟨hp, hw⟩) (h4 p hlo hl)
/-- the dots are found -/
theorem dots_in (r : List Nat) : (occurrences (S (dots ++ r)) (Str.ofString "...") 0 (S (dots ++ r)).length 1).isEmpty = false := by
  rw [S_dots]
  have h := (StrLaws.found_iff (S (dots ++ r)) (S dots)).mpr ⟨0, by rw [S_len, S_len]; simp, ((at_iff _ _ (S (dots ++ r)).length 0).mpr ⟨by rw [S_len]; simp, by simp⟩).2⟩
  simpa using h
/-- texts with the dots between -/
def joinD : List (List Nat) → List Nat
  | [] => []
  | [p] => p
  | p :: q :: r => p ++ dots ++ joinD (q :: r)
theorem at_first {x w : List Nat} {hi k c : Nat} {t : List Nat} (e : w = c :: t) (h : StrLaws.At (S x) (S w) hi k) : x[k]? = some c := by
  rw [at_iff, e] at h
  have h2 := congrArg (fun l => l[0]?) h.2
  simp at h2
  exact h2
theorem strSub_S (x : List Nat) (i j : Nat) : strSub (S x) i j = S ((x.drop i).take (j - i)) := by
  rw [S_of (strSub (S x) i j), StrLaws.strSub_toList]
  rfl
theorem parts_join : ∀ (ps : List (List Nat)) (pre : List Nat) (cuts : List Nat) (x : List Nat) (f : Nat), ps ≠ [] → (∀ p ∈ ps, 46 ∉ p) → x = pre ++ joinD ps → StrLaws.ChainG (S x) (S dots) (S x).length pre.length cuts f →
    (∀ k, f ≤ k → ¬ StrLaws.At (S x) (S dots) (S x).length k) → StrLaws.partsFrom (S x) 3 pre.length cuts = ps.map S
  | [], _, _, _, _, h, _, _, _, _ => absurd rfl h
  | [p], pre, cuts, x, f, _, hf, hx, hc, hend => by
    subst hx
    have hno : ∀ k, pre.length ≤ k → ¬ StrLaws.At (S (pre ++ p)) (S dots) (S (pre ++ p)).length k := by
      intro k hk h
      have h1 := at_first rfl h
      rw [List.getElem?_append_right hk] at h1
      exact hf p (by simp) (List.mem_of_getElem? h1)
    cases cuts with
    | nil =>
      show [strSub _ _ _] = [S p]
      rw [strSub_S, S_len]
      show [S (((pre ++ p).drop pre.length).take _)] = _
      rw [List.drop_left]
      simp only [joinD, List.length_append, Nat.add_sub_cancel_left, List.take_length]
    | cons c r => exact absurd hc.2.1 (hno c hc.1)
  | p :: q :: r, pre, cuts, x, f, _, hf, hx, hc, hend => by
    subst hx
    have hat : StrLaws.At (S (pre ++ (p ++ dots ++ joinD (q :: r)))) (S dots) (S (pre ++ (p ++ dots ++ joinD (q :: r)))).length (pre.length + p.length) := by
      rw [at_iff, S_len]
      refine ⟨by simp only [List.length_append]; omega, ?_⟩
      rw [← List.length_append, ← List.append_assoc, ← List.append_assoc, List.append_assoc (pre ++ p) dots, List.drop_left, List.take_left]
    have hno : ∀ k, pre.length ≤ k → k < pre.length + p.length → ¬ StrLaws.At (S (pre ++ (p ++ dots ++ joinD (q :: r)))) (S dots) (S (pre ++ (p ++ dots ++ joinD (q :: r)))).length k := by
      intro k hk hk2 h
      have h1 := at_first rfl h
      rw [List.getElem?_append_right hk, List.append_assoc, List.getElem?_append_left (by omega)] at h1
      exact hf p (by simp) (List.mem_of_getElem? h1)
    cases cuts with
    | nil =>
      have : f = pre.length := hc
      exact absurd hat (hend _ (by omega))
    | cons c r' =>
      obtain ⟨h1, h2, h3, h4⟩ := hc
      have hce : c = pre.length + p.length := by
        rcases Nat.lt_trichotomy c (pre.length + p.length) with h | h | h
        · exact absurd h2 (hno c h1 h)
        · exact h
        · exact absurd hat (h3 _ (by omega) h)
      subst hce
      show strSub _ _ _ :: StrLaws.partsFrom _ 3 _ r' = S p :: (q :: r).map S
      have hl : (S dots).length = 3 := by rw [S_len]; rfl
      rw [hl] at h4
      have e1 : pre.length + p.length + 3 = (pre ++ p ++ dots).length := by simp [dots]; omega
      rw [strSub_S]
      refine congr (congrArg List.cons ?_) ?_
      · congr 1
        simp only [joinD]
        rw [List.drop_left, Nat.add_sub_cancel_left, List.append_assoc, List.take_left]
      · have hx2 : pre ++ joinD (p :: q :: r) = (pre ++ p ++ dots) ++ joinD (q :: r) := by simp only [joinD, List.append_assoc]
        rw [e1]
        rw [e1] at h4
        exact parts_join (q :: r) (pre ++ p ++ dots) r' _ f (by simp) (fun z hz => hf z (.tail _ hz)) hx2 h4 hend
theorem kind_pos (x : Str) : 1 ≤ Str.strKind x := by
  unfold Str.strKind
  split
  · decide
  · split <;> decide
theorem split_join {p q : List Nat} {r : List (List Nat)} (hf : ∀ z ∈ p :: q :: r, 46 ∉ z) : Txt.split (S (joinD (p :: q :: r))) (Str.ofString "...") = (p :: q :: r).map S := by
  rw [S_dots]
  have hlen : (S dots).length = 3 := by rw [S_len]; rfl
  obtain ⟨f, hc, hend⟩ := StrLaws.occ_tight (S (joinD (p :: q :: r))) (S dots) (by rw [hlen]; decide)
  have hxl : 3 ≤ (S (joinD (p :: q :: r))).length := by rw [S_len]; simp only [joinD, List.length_append, dots, List.length_cons, List.length_nil]; omega
  have h1 : (decide ((S (joinD (p :: q :: r))).length < (S dots).length) || decide (strKind (S (joinD (p :: q :: r))) < strKind (S dots))) = false := by
    have hk : strKind (S dots) = 1 := by decide +kernel
    have hk2 : 1 ≤ Str.strKind (S (joinD (p :: q :: r))) := kind_pos _
    rw [hlen, hk, decide_eq_false (by omega), decide_eq_false (by omega)]
    rfl
  have hparts := parts_join (p :: q :: r) [] _ _ f (by simp) hf rfl hc hend
  unfold Txt.split
  rw [h1]
  simp only [Bool.false_eq_true, if_false]
  rw [StrLaws.partsBetween_eq, hlen]
  have hne : (occurrences (S (joinD (p :: q :: r))) (S dots) 0 (S (joinD (p :: q :: r))).length ((S (joinD (p :: q :: r))).length + 1)).isEmpty = false := by
    cases ho : occurrences (S (joinD (p :: q :: r))) (S dots) 0 (S (joinD (p :: q :: r))).length ((S (joinD (p :: q :: r))).length + 1) with
    | nil =>
      rw [ho] at hparts
      have := congrArg List.length hparts
      simp [StrLaws.partsFrom] at this
    | cons a b => rfl
  rw [hne]
  simp only [Bool.false_eq_true, if_false]
  exact hparts
end Mine
end
section
open PySem PySem.W PyProof.Rows
set_option maxRecDepth 100000
namespace Mine
open Builtin Builtin.Str
theorem joinD_end : ∀ ps : List (List Nat), joinD (ps ++ [[]]) = (ps.map (· ++ dots)).flatten
  | [] => rfl
  | [p] => by simp [joinD]
  | p :: q :: r => by
    have ih := joinD_end (q :: r)
    show p ++ dots ++ joinD (q :: r ++ [[]]) = _
    rw [ih]
    simp
theorem findF_skip {y w : List Nat} {lo lo' hi : Nat} (hle : lo ≤ lo') (h : ∀ i, lo ≤ i → i < lo' → (y.drop i).take w.length ≠ w) : findF (S y) (S w) lo hi = findF (S y) (S w) lo' hi := by
  rcases findF_spec (S y) (S w) lo' hi with ⟨h1, h2⟩ | ⟨i, h1, h2, h3, h4⟩
  · rw [h1]
    refine find_none fun i hi1 hi2 hw => ?_
    by_cases hl : i < lo'
    · exact h i hi1 hl hw
    · exact h2 i (by omega) ((at_iff _ _ _ _).mpr ⟨hi2, hw⟩)
  · rw [h1]
    rw [at_iff] at h3
    refine find_some (by omega) h3.1 h3.2 fun k hk1 hk2 hw => ?_
    by_cases hl : k < lo'
    · exact h k hk1 hl hw
    · exact h4 k (by omega) hk2 ((at_iff _ _ _ _).mpr ⟨by omega, hw⟩)
theorem findF_nil (y : Str) (lo hi : Nat) (h : lo ≤ hi) : findF y Str.empty lo hi = some lo := by
  rcases findF_spec y Str.empty lo hi with ⟨_, h2⟩ | ⟨i, h1, h2, _, h4⟩
  · exact absurd ⟨by simpa [Str.empty, Str.length] using h, by rw [StrLaws.subAt_eq]; simp [Str.empty, Str.length]⟩ (h2 lo (Nat.le_refl _))
  · rcases Nat.lt_or_ge lo i with hl | hl
    · exact absurd ⟨by simpa [Str.empty, Str.length] using h, by rw [StrLaws.subAt_eq]; simp [Str.empty, Str.length]⟩ (h4 lo (Nat.le_refl _) hl)
    · rw [h1]; congr 1; omega
theorem S_empty : S [] = Str.empty := rfl
/-- a run of a lead with its bar ahead -/
def seg (r : Nat) : List Nat := 124 :: (List.replicate r 32 ++ [9])
theorem repT_blanks (n : Nat) : repT (List.replicate n 32) = List.replicate n 32 := repT_free _ (fun h => by have := List.eq_of_mem_replicate h; omega)
theorem barT_segs (closed : List Nat) (behind : Nat) : barT closed behind = (closed.map seg).flatten ++ (124 :: List.replicate behind 32) := by
  have key : ∀ closed : List Nat, 124 :: repT (runsText closed) = (closed.map seg).flatten ++ [124] := by
    intro closed
    induction closed with
    | nil => rfl
    | cons r rs ih =>
      simp only [runsText, List.map_cons, List.flatten_cons]
      rw [repT_app, repT_app, repT_blanks]
      have e : repT [9] = [9, 124] := rfl
      rw [e]
      have e2 : (seg r ++ (rs.map seg).flatten) ++ [124] = seg r ++ ((rs.map seg).flatten ++ [124]) := by simp
      rw [e2, ← ih]
      simp [seg]
  unfold barT textT
  rw [repT_app, repT_blanks, ← List.cons_append, key closed]
  simp
end Mine
end
section
open PySem PySem.W PyProof.Rows
namespace Mine
theorem getD_set (l : List Nat) (b x r : Nat) (h : b < l.length) : (l.set b x).getD r 0 = if r = b then x else l.getD r 0 := by
  rw [List.getD_eq_getElem?_getD, List.getD_eq_getElem?_getD, List.getElem?_set]
  by_cases e : b = r
  · subst e; simp [h]
  · rw [if_neg e, if_neg (fun h => e h.symm)]
theorem pad_getD (cs : List Nat) (b r : Nat) : (pad cs b).getD r 0 = cs.getD r 0 := by
  unfold pad
  split
  · by_cases h : r < cs.length
    · rw [List.getD_eq_getElem?_getD, List.getD_eq_getElem?_getD, List.getElem?_append_left h]
    · rw [List.getD_eq_getElem?_getD, List.getD_eq_getElem?_getD, List.getElem?_append_right (by omega), List.getElem?_replicate, List.getElem?_eq_none (by omega : cs.length ≤ r)]
      split <;> rfl
  · rfl
theorem bump_getD (cs : List Nat) (b r : Nat) : (bump cs b).getD r 0 = if r = b then cs.getD b 0 + 1 else cs.getD r 0 := by
  rw [bump, getD_set _ _ _ _ (by rw [pad_len]; omega), pad_getD, pad_getD]
/-- the last count is not nought -/
def NZ (cs : List Nat) : Prop := ∀ n, cs.length = n + 1 → cs.getD n 0 ≠ 0
theorem bump_nz {cs : List Nat} {b : Nat} (h : NZ cs) : NZ (bump cs b) := by
  intro n hn
  rw [bump_len] at hn
  rw [bump_getD]
  by_cases e : n = b
  · rw [if_pos e]; omega
  · rw [if_neg e]
    exact h n (by omega)
theorem nz_eq {a b : List Nat} (ha : NZ a) (hb : NZ b) (h : ∀ r, a.getD r 0 = b.getD r 0) : a = b := by
  have hlen : a.length = b.length := by
    rcases Nat.lt_trichotomy a.length b.length with hl | hl | hl
    · exfalso
      have := hb (b.length - 1) (by omega)
      rw [← h, List.getD_eq_getElem?_getD, List.getElem?_eq_none (by omega)] at this
      exact this rfl
    · exact hl
    · exfalso
      have := ha (a.length - 1) (by omega)
      rw [h, List.getD_eq_getElem?_getD, List.getElem?_eq_none (by omega)] at this
      exact this rfl
  refine List.ext_getElem hlen fun i h1 h2 => ?_
  have := h i
  rw [List.getD_eq_getElem?_getD, List.getD_eq_getElem?_getD, List.getElem?_eq_getElem h1, List.getElem?_eq_getElem h2] at this
  exact this
theorem ws_blanks (st : WSt) (r : Nat) : (List.replicate r 32).foldl wsStep st = ⟨st.cs, st.b + r, st.n + r, st.nt⟩ := by
  induction r generalizing st with
  | zero => rfl
  | succ r ih =>
    rw [List.replicate_succ, List.foldl_cons, ih, wsStep, if_pos rfl]
    simp only [WSt.mk.injEq, true_and, and_true]
    omega
def sumN (l : List Nat) : Nat := l.foldl (fun a r => a + (r + 1)) 0
/-- what the lead's closed runs make of the state -/
structure WsIs (st : WSt) (closed : List Nat) (bb : Nat) : Prop where
  b : st.b = bb
  nt : st.nt = closed.length
  cs : ∀ r, st.cs.getD r 0 = closed.count r
  nz : NZ st.cs
  len : ∀ B, (∀ r ∈ closed, r ≤ B) → st.cs.length ≤ B + 1
  n : st.n = sumN closed + bb
theorem ws_runs (closed : List Nat) : WsIs (wsOf (runsText closed)) closed 0 := by
  refine snoc_ind (P := fun closed => WsIs (wsOf (runsText closed)) closed 0) ?_ ?_ closed
  · exact ⟨rfl, rfl, fun r => rfl, fun n hn => (by simp [wsOf, runsText] at hn), fun B _ => Nat.zero_le _, rfl⟩
  · intro l r ih
    have e : wsOf (runsText (l ++ [r])) = ⟨bump (wsOf (runsText l)).cs r, 0, (wsOf (runsText l)).n + r + 1, (wsOf (runsText l)).nt + 1⟩ := by
      rw [runsText_app]
      show (runsText l ++ (List.replicate r 32 ++ [9] ++ [])).foldl wsStep ⟨[], 0, 0, 0⟩ = _
      rw [List.append_nil, List.foldl_append, List.foldl_append, ws_blanks]
      show wsStep _ 9 = _
      rw [wsStep, if_neg (by decide)]
      show (⟨bump (wsOf (runsText l)).cs ((wsOf (runsText l)).b + r), 0, _, _⟩ : WSt) = _
      rw [ih.b, Nat.zero_add]
      rfl
    rw [e]
    refine ⟨rfl, by rw [List.length_append, ← ih.nt]; rfl, fun k => ?_, bump_nz ih.nz, fun B hB => ?_, ?_⟩
    · show (bump _ r).getD k 0 = _
      rw [bump_getD, List.count_append, ih.cs, ih.cs, List.count_cons, List.count_nil]
      by_cases h : k = r
      · subst h; simp
      · rw [if_neg h]
        have h2 : (r == k) = false := by simpa using fun h' => h h'.symm
        simp [h2]
    · show (bump _ r).length ≤ _
      rw [bump_len]
      have h1 := ih.len B (fun x hx => hB x (by simp [hx]))
      have h2 := hB r (by simp)
      omega
    · show (wsOf (runsText l)).n + r + 1 = _
      rw [ih.n]
      simp only [sumN, List.foldl_append, List.foldl_cons, List.foldl_nil]
      omega
theorem ws_text (closed : List Nat) (behind : Nat) : WsIs (wsOf (textT closed behind)) closed behind := by
  have ih := ws_runs closed
  have e : wsOf (textT closed behind) = ⟨(wsOf (runsText closed)).cs, (wsOf (runsText closed)).b + behind, (wsOf (runsText closed)).n + behind, (wsOf (runsText closed)).nt⟩ := by
    rw [textT]
    show (runsText closed ++ List.replicate behind 32).foldl wsStep ⟨[], 0, 0, 0⟩ = _
    rw [List.foldl_append, ws_blanks]
    rfl
  rw [e]
  exact ⟨by rw [ih.b]; exact Nat.zero_add _, ih.nt, ih.cs, ih.nz, ih.len, by show (wsOf (runsText closed)).n + behind = _; rw [ih.n]; rfl⟩
/-- norm against norm -/
theorem norm_eq {a b : WSt} {ca cb : List Nat} {ba bb : Nat} (ha : WsIs a ca ba) (hb : WsIs b cb bb) : (a.cs = b.cs ∧ a.b = b.b) ↔ ((∀ r, ca.count r = cb.count r) ∧ ba = bb) := by
  constructor
  · rintro ⟨h1, h2⟩
    exact ⟨fun r => by rw [← ha.cs, ← hb.cs, h1], by rw [← ha.b, ← hb.b, h2]⟩
  · rintro ⟨h1, h2⟩
    exact ⟨nz_eq ha.nz hb.nz (fun r => by rw [ha.cs, hb.cs, h1]), by rw [ha.b, hb.b, h2]⟩
end Mine
end
section
open PySem PySem.W PyProof.Rows
set_option maxRecDepth 100000
namespace Mine
open Builtin Builtin.Str
/-- each tab with a blank behind -/
def repW : List Nat → List Nat
  | [] => []
  | c :: r => if c = 9 then 9 :: 32 :: repW r else c :: repW r
theorem repW_app (a b : List Nat) : repW (a ++ b) = repW a ++ repW b := by
  induction a with
  | nil => rfl
  | cons c r ih => by_cases h : c = 9 <;> simp [repW, h, ih]
theorem repW_free (l : List Nat) (h : 9 ∉ l) : repW l = l := by
  induction l with
  | nil => rfl
  | cons c r ih =>
    have h1 : c ≠ 9 := fun e => h (e ▸ List.mem_cons_self ..)
    have h2 : 9 ∉ r := fun e => h (List.mem_cons_of_mem _ e)
    simp [repW, h1, ih h2]
theorem repW_join : ∀ parts : List Str, (∀ p ∈ parts, 9 ∉ p.cps.toList) → repW (Str.join ⟨#[9]⟩ parts).cps.toList = (Str.join ⟨#[9, 32]⟩ parts).cps.toList
  | [], _ => rfl
  | [p], h => repW_free _ (h p (List.mem_singleton.mpr rfl))
  | p :: q :: r, h => by
    have ih := repW_join (q :: r) fun a ha => h a (List.mem_cons_of_mem _ ha)
    show repW (p ++ ⟨#[9]⟩ ++ Str.join ⟨#[9]⟩ (q :: r)).cps.toList = (p ++ ⟨#[9, 32]⟩ ++ Str.join ⟨#[9, 32]⟩ (q :: r)).cps.toList
    simp only [Str.cps_append, Array.toList_append]
    rw [repW_app, repW_app, ih, repW_free _ (h p (List.mem_cons_self ..))]
    rfl
theorem repW_eq (l : List Nat) : Txt.replace (S l) (Str.ofString "\t") (Str.ofString "\t ") = S (repW l) := by
  have e1 : Str.ofString "\t" = ⟨#[9]⟩ := by decide +kernel
  have e2 : Str.ofString "\t " = ⟨#[9, 32]⟩ := by decide +kernel
  rw [e1, e2, StrLaws.replace_one]
  have h := repW_join _ (StrLaws.split_free (S l) 9)
  rw [StrLaws.join_split] at h
  rw [S_of (Str.join _ _), ← h]
  rfl
theorem repW_len_le (l : List Nat) : (repW l).length ≤ 2 * l.length := by
  induction l with
  | nil => simp [repW]
  | cons c r ih => by_cases h : c = 9 <;> simp [repW, h] <;> omega
theorem repW_signs (l : List Nat) (h : ∀ k ∈ l, k = 32 ∨ k = 9) : ∀ k ∈ repW l, k = 32 ∨ k = 9 := by
  induction l with
  | nil => intro k hk; cases hk
  | cons c r ih =>
    have ih := ih fun k hk => h k (.tail _ hk)
    have hc := h c (.head _)
    intro k hk
    by_cases e : c = 9
    · rw [repW, if_pos e] at hk
      simp only [List.mem_cons] at hk
      rcases hk with rfl | rfl | hk
      · exact .inr rfl
      · exact .inl rfl
      · exact ih k hk
    · rw [repW, if_neg e] at hk
      simp only [List.mem_cons] at hk
      rcases hk with rfl | hk
      · exact hc
      · exact ih k hk
/-- what _law_worth hands back -/
def worthT (closed : List Nat) (behind : Nat) : List Nat := repW (textT closed behind)
theorem text_signs (closed : List Nat) (behind : Nat) : ∀ k ∈ textT closed behind, k = 32 ∨ k = 9 := by
  have h1 : ∀ k ∈ runsText closed, k = 32 ∨ k = 9 := by
    induction closed with
    | nil => intro k hk; cases hk
    | cons r rs ih =>
      intro k hk
      simp only [runsText, List.mem_append, List.mem_singleton] at hk
      rcases hk with (h | h) | h
      · exact .inl (List.eq_of_mem_replicate h)
      · exact .inr h
      · exact ih k h
  intro k hk
  rw [textT, List.mem_append] at hk
  exact hk.elim (h1 k) fun h => .inl (List.eq_of_mem_replicate h)
theorem worth_signs (closed : List Nat) (behind : Nat) : ∀ k ∈ worthT closed behind, k = 32 ∨ k = 9 := repW_signs _ (text_signs _ _)
theorem worth_len {closed : List Nat} {behind : Nat} (h : Small closed behind) : (S (worthT closed behind)).length ≤ 1000 := by
  have h1 := textT_len h
  have h2 := repW_len_le (textT closed behind)
  rw [S_len] at h1 ⊢
  rw [worthT]
  omega
/-- what _law_pattern hands back -/
def patT (l : List Nat) : List Nat := dots ++ (l.map fun c => c :: dots).flatten
theorem patT_len (l : List Nat) : (patT l).length = 3 + 4 * l.length := by
  have : ((l.map fun c => c :: dots).flatten).length = 4 * l.length := by
    induction l with
    | nil => rfl
    | cons c r ih =>
      rw [List.map_cons, List.flatten_cons, List.length_append, ih]
      show 4 + 4 * r.length = 4 * (r.length + 1)
      omega
  rw [patT, List.length_append, this]
  rfl
theorem patT_snoc (l : List Nat) (c : Nat) : patT (l ++ [c]) = patT l ++ [c] ++ dots := by simp [patT]
theorem pat_join (l : List Nat) : patT l = joinD ([] :: ((l.map fun c => [c]) ++ [[]])) := by
  have e : joinD ([] :: ((l.map fun c => [c]) ++ [[]])) = joinD (([] :: (l.map fun c => [c])) ++ [[]]) := rfl
  rw [e, joinD_end, patT]
  simp [Function.comp_def]
theorem take_get {y w : List Nat} {i : Nat} (h : (y.drop i).take w.length = w) {k c : Nat} (hk : w[k]? = some c) : y[i + k]? = some c := by
  have hk2 := (List.getElem?_eq_some_iff.mp hk).1
  rw [← h, List.getElem?_take, if_pos hk2, List.getElem?_drop] at hk
  exact hk
theorem scan_empty (y : Str) (hi : Nat) (ws : List Str) : scan y hi (Str.empty :: ws) 0 = scan y hi ws 0 := by
  rw [scan, findF_nil _ _ _ (Nat.zero_le _)]
  rfl
/-- one sign after the other: a sublist -/
theorem scan_sub : ∀ (y pre l : List Nat), scan (S (pre ++ y)) (pre ++ y).length ((l.map fun c => S [c]) ++ [Str.empty]) pre.length = l.isSublist y
  | y, pre, [] => by
    simp only [List.map_nil, List.nil_append, scan]
    rw [findF_nil _ _ _ (by simp only [List.length_append]; omega)]
    cases y <;> rfl
  | [], pre, c :: l => by
    rw [List.map_cons, List.cons_append, scan]
    rw [find_none (fun i h1 h2 => by simp only [List.length_append, List.length_cons, List.length_nil] at h2; omega)]
    rfl
  | d :: y, pre, c :: l => by
    have ey : pre ++ d :: y = (pre ++ [d]) ++ y := by simp
    by_cases hcd : c = d
    · subst hcd
      rw [List.map_cons, List.cons_append, scan]
      rw [find_some (p := pre.length) (Nat.le_refl _) (by simp) (by rw [List.drop_left]; rfl) (fun i h1 h2 => absurd h2 (by omega))]
      show scan _ _ _ (pre.length + (S [c]).length) = _
      have e : pre.length + (S [c]).length = (pre ++ [c]).length := by rw [S_len]; simp
      rw [e, ey, scan_sub y (pre ++ [c]) l, List.isSublist, if_pos (by simp)]
    · have hskip : scan (S (pre ++ d :: y)) (pre ++ d :: y).length (((c :: l).map fun c => S [c]) ++ [Str.empty]) pre.length
          = scan (S (pre ++ d :: y)) (pre ++ d :: y).length (((c :: l).map fun c => S [c]) ++ [Str.empty]) (pre ++ [d]).length := by
        rw [List.map_cons, List.cons_append, scan, scan]
        rw [findF_skip (lo' := (pre ++ [d]).length) (by simp) (fun i h1 h2 hw => by
          have e : i = pre.length := by simp at h2; omega
          subst e
          have := take_get hw (k := 0) (c := c) rfl
          rw [Nat.add_zero, List.getElem?_append_right (Nat.le_refl _)] at this
          simp at this
          exact hcd this.symm)]
      rw [hskip, ey, scan_sub y (pre ++ [d]) (c :: l), List.isSublist.eq_def (c :: l) (d :: y)]
      simp [hcd]
theorem em_pat_val (l y : List Nat) : emB (S y) (l.map fun c => S [c]) (S []) = l.isSublist y := by
  rw [emB, if_pos (by rw [S_len]; rfl), scan_empty, S_empty, S_len]
  exact scan_sub y [] l
end Mine
end
section
open PySem PySem.W PyProof.Rows
set_option maxRecDepth 100000
namespace Mine
def sumQ (ts : Nat) : List Nat → Nat
  | [] => 0
  | r :: rs => r / ts + sumQ ts rs
theorem sumQ_app (ts : Nat) (a b : List Nat) : sumQ ts (a ++ b) = sumQ ts a + sumQ ts b := by
  induction a with
  | nil => simp [sumQ]
  | cons r rs ih => simp only [List.cons_append, sumQ, ih]; omega
theorem sumQ_zero {ts : Nat} : ∀ {c : List Nat}, (∀ r ∈ c, r < ts) → sumQ ts c = 0
  | [], _ => rfl
  | r :: rs, h => by
    rw [sumQ, sumQ_zero fun x hx => h x (.tail _ hx), Nat.div_eq_of_lt (h r (.head _))]
/-- a lead's column -/
def colT (closed : List Nat) (behind ts : Nat) : Nat := behind + ts * (sumQ ts closed + closed.length)
def wseg (r : Nat) : List Nat := List.replicate r 32 ++ [9, 32]
theorem repW_blanks (n : Nat) : repW (List.replicate n 32) = List.replicate n 32 := repW_free _ (fun h => by have := List.eq_of_mem_replicate h; omega)
theorem worth_segs (closed : List Nat) (behind : Nat) : worthT closed behind = (closed.map wseg).flatten ++ List.replicate behind 32 := by
  have key : ∀ closed : List Nat, repW (runsText closed) = (closed.map wseg).flatten := by
    intro closed
    induction closed with
    | nil => rfl
    | cons r rs ih =>
      simp only [runsText, List.map_cons, List.flatten_cons]
      rw [repW_app, repW_app, repW_blanks, ih]
      rfl
  rw [worthT, textT, repW_app, repW_blanks, key]
def wstep (ts c k : Nat) : Nat := if k = 9 then (c / ts + 1) * ts - 1 else c + 1
theorem wstep_infl {ts : Nat} (h : 0 < ts) (c k : Nat) : c ≤ wstep ts c k := by
  unfold wstep
  split
  · have := Nat.lt_div_mul_add (a := c) h
    rw [Nat.add_mul]
    omega
  · omega
theorem wstep_mono {ts : Nat} {c c' : Nat} (k : Nat) (hc : c ≤ c') : wstep ts c k ≤ wstep ts c' k := by
  unfold wstep
  split
  · have h1 : c / ts ≤ c' / ts := Nat.div_le_div_right hc
    have h2 : (c / ts + 1) * ts ≤ (c' / ts + 1) * ts := Nat.mul_le_mul_right _ (by omega)
    omega
  · omega
theorem fold_sub {ts : Nat} (h : 0 < ts) {s t : List Nat} (hs : s.Sublist t) : ∀ {c c' : Nat}, c ≤ c' → s.foldl (wstep ts) c ≤ t.foldl (wstep ts) c' := by
  induction hs with
  | slnil => intro c c' hc; exact hc
  | cons a _ ih =>
    intro c c' hc
    rw [List.foldl_cons]
    exact ih (Nat.le_trans hc (wstep_infl h _ _))
  | cons_cons a _ ih =>
    intro c c' hc
    rw [List.foldl_cons, List.foldl_cons]
    exact ih (wstep_mono a hc)
theorem fold_blanks (ts c n : Nat) : (List.replicate n 32).foldl (wstep ts) c = c + n := by
  induction n generalizing c with
  | zero => rfl
  | succ n ih =>
    rw [List.replicate_succ, List.foldl_cons, ih]
    simp only [wstep]
    rw [if_neg (by decide)]
    omega
theorem fold_segs {ts : Nat} (h : 0 < ts) (closed : List Nat) : ∀ q, ((closed.map wseg).flatten).foldl (wstep ts) (ts * q) = ts * (q + sumQ ts closed + closed.length) := by
  induction closed with
  | nil => intro q; rfl
  | cons r rs ih =>
    intro q
    rw [List.map_cons, List.flatten_cons, List.foldl_append, wseg, List.foldl_append, fold_blanks]
    have e : [9, 32].foldl (wstep ts) (ts * q + r) = ts * (q + r / ts + 1) := by
      show wstep ts (wstep ts (ts * q + r) 9) 32 = _
      have h1 : wstep ts (ts * q + r) 9 = ((ts * q + r) / ts + 1) * ts - 1 := if_pos rfl
      have h2 : ∀ c, wstep ts c 32 = c + 1 := fun c => if_neg (by decide)
      have h3 : (ts * q + r) / ts = q + r / ts := by rw [Nat.mul_add_div h]
      rw [h2, h1, h3, Nat.mul_comm]
      have : 0 < ts * (q + r / ts + 1) := Nat.mul_pos h (Nat.succ_pos _)
      omega
    rw [e, ih, sumQ, List.length_cons]
    congr 1
    omega
theorem fold_worth {ts : Nat} (h : 0 < ts) (closed : List Nat) (behind : Nat) : (worthT closed behind).foldl (wstep ts) 0 = colT closed behind ts := by
  rw [worth_segs, List.foldl_append, fold_blanks]
  have := fold_segs h closed 0
  rw [Nat.mul_zero, Nat.zero_add] at this
  rw [this, colT]
  omega
theorem some_col {c1 c2 : List Nat} {b1 b2 ts : Nat} (h : 0 < ts) (hs : (worthT c1 b1).Sublist (worthT c2 b2)) : colT c1 b1 ts ≤ colT c2 b2 ts := by
  have := fold_sub h hs (Nat.le_refl 0)
  rwa [fold_worth h, fold_worth h] at this
theorem worth_more (c : List Nat) (b : Nat) : worthT c b ++ [32] = worthT c (b + 1) := by
  rw [worth_segs, worth_segs, List.append_assoc, ← List.replicate_succ']
theorem more_col {c1 c2 : List Nat} {b1 b2 ts : Nat} (h : 0 < ts) (hs : (worthT c1 b1 ++ [32]).Sublist (worthT c2 b2)) : colT c1 b1 ts < colT c2 b2 ts := by
  rw [worth_more] at hs
  have := some_col h hs
  simp only [colT] at this ⊢
  omega
theorem count_segs (c : List Nat) : ((c.map wseg).flatten).count 32 = sumQ 1 c + c.length := by
  induction c with
  | nil => rfl
  | cons r rs ih =>
    rw [List.map_cons, List.flatten_cons, List.count_append, ih, wseg, List.count_append, List.count_replicate_self, sumQ, Nat.div_one, List.length_cons]
    have : [9, 32].count 32 = 1 := rfl
    rw [this]
    omega
theorem tabs_sub : ∀ (c : List Nat), (((List.replicate c.length 0).map wseg).flatten).Sublist ((c.map wseg).flatten)
  | [] => .slnil
  | r :: rs => by
    rw [List.length_cons, List.replicate_succ, List.map_cons, List.flatten_cons, List.map_cons, List.flatten_cons]
    refine List.Sublist.append ?_ (tabs_sub rs)
    show [9, 32].Sublist (List.replicate r 32 ++ [9, 32])
    exact List.sublist_append_right _ _
theorem tail_sub {c2 : List Nat} {b2 m x : Nat} (hm : m ≤ c2.length) (hx : x ≤ sumQ 1 (c2.drop m) + (c2.length - m) + b2) : (((List.replicate m 0).map wseg).flatten ++ List.replicate x 32).Sublist (worthT c2 b2) := by
  have e : worthT c2 b2 = ((c2.take m).map wseg).flatten ++ (((c2.drop m).map wseg).flatten ++ List.replicate b2 32) := by
    rw [worth_segs, ← List.append_assoc, ← List.flatten_append, ← List.map_append, List.take_append_drop]
  rw [e]
  have h1 := tabs_sub (c2.take m)
  rw [List.length_take, Nat.min_eq_left hm] at h1
  refine List.Sublist.append h1 ?_
  rw [List.replicate_sublist_iff, List.count_append, count_segs, List.count_replicate_self, List.length_drop]
  exact hx
theorem zeros_eq {c : List Nat} (h : ∀ r ∈ c, r = 0) : c = List.replicate c.length 0 := List.eq_replicate_of_mem h
theorem sumQ1_zeros {c : List Nat} (h : ∀ r ∈ c, r = 0) : sumQ 1 c = 0 := sumQ_zero fun r hr => by have := h r hr; omega
/-- the other way: the columns give the pattern -/
theorem cols_sub {c1 c2 : List Nat} {b2 x N : Nat} (h1 : ∀ r ∈ c1, r = 0) (hs : c2.Pairwise (· ≤ ·)) (hN : ∀ r ∈ c2, r < N) (hb : b2 < N) (hcol : ∀ ts, 1 ≤ ts → ts ≤ N → x + ts * c1.length ≤ colT c2 b2 ts)
    (hc : (∀ r ∈ c2, r = 0) ∨ c1.length = 0 ∨ c2.length ≤ c1.length + 1) : (worthT c1 x).Sublist (worthT c2 b2) := by
  rw [worth_segs c1, zeros_eq h1]
  generalize hm : c1.length = m at *
  have hNN := hcol N (by omega) (Nat.le_refl _)
  simp only [colT, sumQ_zero hN, Nat.zero_add] at hNN
  have hmk : m ≤ c2.length := by
    rcases Nat.lt_or_ge c2.length m with h | h
    · exfalso
      have h3 : N * (c2.length + 1) ≤ N * m := Nat.mul_le_mul_left _ h
      rw [Nat.mul_add] at h3
      omega
    · exact h
  refine tail_sub hmk ?_
  have hone := hcol 1 (Nat.le_refl _) (by omega)
  simp only [colT, Nat.one_mul] at hone
  rcases hc with h | h | h
  · rw [sumQ1_zeros h] at hone
    omega
  · subst h
    rw [List.drop_zero]
    omega
  · by_cases e : c2.length = m
    · rw [e] at hNN
      omega
    · have hk : c2.length = m + 1 := by omega
      obtain ⟨l, hl⟩ : ∃ l, c2.drop m = [l] := by
        have : (c2.drop m).length = 1 := by rw [List.length_drop]; omega
        exact List.length_eq_one_iff.mp this
      have hmem : l ∈ c2 := List.mem_of_mem_drop (hl ▸ List.mem_singleton.mpr rfl : l ∈ c2.drop m)
      have hle : ∀ r ∈ c2, r < l + 1 := by
        intro r hr
        have e2 : c2 = c2.take m ++ [l] := by rw [← hl, List.take_append_drop]
        rw [e2] at hr hs
        rcases List.mem_append.mp hr with h | h
        · have := (List.pairwise_append.mp hs).2.2 r h l (by simp)
          omega
        · rw [List.mem_singleton.mp h]; omega
      have hL := hcol (l + 1) (by omega) (hN l hmem)
      simp only [colT, sumQ_zero hle, Nat.zero_add, hk] at hL
      rw [Nat.mul_add (l + 1) m 1, Nat.mul_one] at hL
      rw [hl]
      simp only [sumQ, Nat.div_one]
      omega
end Mine
end
section
open PySem PySem.W PyProof.Rows
set_option maxRecDepth 100000
namespace Mine
/-- indent_level's sum -/
def ilAcc (cs : List Nat) (ts : Nat) : Nat → Nat
  | 0 => 0
  | k + 1 => ilAcc cs ts k + (ts + k) / ts * cs.getD (ts + k) 0
/-- indent_level -/
def ilv (st : WSt) (ts : Nat) : Nat := st.b + ts * (ilAcc st.cs ts (st.cs.length - ts) + st.nt)
def pick (ts k : Nat) : List Nat → Nat
  | [] => 0
  | r :: rs => (if ts ≤ r ∧ r < ts + k then r / ts else 0) + pick ts k rs
theorem pick_succ (ts k : Nat) : ∀ c : List Nat, pick ts (k + 1) c = pick ts k c + (ts + k) / ts * c.count (ts + k)
  | [] => by simp [pick]
  | r :: rs => by
    rw [pick, pick, pick_succ ts k rs, List.count_cons]
    by_cases e : r = ts + k
    · subst e
      rw [if_pos (by omega), if_neg (by omega)]
      simp only [beq_self_eq_true, if_true, Nat.mul_add, Nat.mul_one]
      omega
    · have h2 : (r == ts + k) = false := by simpa using e
      rw [h2]
      by_cases h : ts ≤ r ∧ r < ts + k
      · rw [if_pos (by omega), if_pos h]
        simp
        omega
      · rw [if_neg (by omega), if_neg h]
        simp
theorem acc_pick {cs closed : List Nat} (h : ∀ r, cs.getD r 0 = closed.count r) (ts : Nat) : ∀ k, ilAcc cs ts k = pick ts k closed
  | 0 => by
    have : ∀ c : List Nat, pick ts 0 c = 0 := by
      intro c
      induction c with
      | nil => rfl
      | cons r rs ih => rw [pick, ih, if_neg (by omega)]
    rw [this]; rfl
  | k + 1 => by rw [ilAcc, acc_pick h ts k, pick_succ, h]
theorem pick_sum (ts n : Nat) (hn : 0 < ts) : ∀ c : List Nat, (∀ r ∈ c, r < n) → pick ts (n - ts) c = sumQ ts c
  | [], _ => rfl
  | r :: rs, h => by
    rw [pick, sumQ, pick_sum ts n hn rs fun x hx => h x (.tail _ hx)]
    have := h r (.head _)
    by_cases hr : ts ≤ r
    · rw [if_pos (by omega)]
    · rw [if_neg (by omega), Nat.div_eq_of_lt (by omega)]
theorem runs_lt {st : WSt} {closed : List Nat} {bb : Nat} (h : WsIs st closed bb) : ∀ r ∈ closed, r < st.cs.length := by
  intro r hr
  have h1 : 0 < closed.count r := List.count_pos_iff.mpr hr
  rw [← h.cs] at h1
  rcases Nat.lt_or_ge r st.cs.length with h2 | h2
  · exact h2
  · rw [List.getD_eq_getElem?_getD, List.getElem?_eq_none h2] at h1
    simp at h1
theorem ilv_col {st : WSt} {closed : List Nat} {bb : Nat} (h : WsIs st closed bb) {ts : Nat} (hts : 0 < ts) : ilv st ts = colT closed bb ts := by
  rw [ilv, colT, acc_pick h.cs, pick_sum ts _ hts closed (runs_lt h), h.b, h.nt]
theorem sumN_eq (c : List Nat) : sumN c = sumQ 1 c + c.length := by
  have key : ∀ (c : List Nat) (a : Nat), c.foldl (fun a r => a + (r + 1)) a = a + (sumQ 1 c + c.length) := by
    intro c
    induction c with
    | nil => intro a; rfl
    | cons r rs ih => intro a; rw [List.foldl_cons, ih, sumQ, Nat.div_one, List.length_cons]; omega
  rw [sumN, key]; omega
theorem n_col {st : WSt} {closed : List Nat} {bb : Nat} (h : WsIs st closed bb) : st.n = ilv st 1 := by
  rw [ilv_col h (by decide), h.n, colT, sumN_eq]; omega
/-- longest_run_of_spaces -/
def lng (st : WSt) : Nat := max (st.cs.length - 1) st.b
def topN (a b : WSt) : Nat := max (lng a) (lng b) + 1
def ltAll (a b : WSt) : Bool := (List.range (topN a b)).all fun i => decide (ilv a (i + 1) < ilv b (i + 1))
def leAll (a b : WSt) : Bool := (List.range (topN a b)).all fun i => decide (ilv a (i + 1) ≤ ilv b (i + 1))
theorem ltAll_iff (a b : WSt) : ltAll a b = true ↔ ∀ ts, 1 ≤ ts → ts ≤ topN a b → ilv a ts < ilv b ts := by
  simp only [ltAll, List.all_eq_true, List.mem_range, decide_eq_true_eq]
  constructor
  · intro h ts h1 h2
    have := h (ts - 1) (by omega)
    rwa [Nat.sub_add_cancel h1] at this
  · intro h i hi
    exact h (i + 1) (by omega) (by omega)
theorem leAll_iff (a b : WSt) : leAll a b = true ↔ ∀ ts, 1 ≤ ts → ts ≤ topN a b → ilv a ts ≤ ilv b ts := by
  simp only [leAll, List.all_eq_true, List.mem_range, decide_eq_true_eq]
  constructor
  · intro h ts h1 h2
    have := h (ts - 1) (by omega)
    rwa [Nat.sub_add_cancel h1] at this
  · intro h i hi
    exact h (i + 1) (by omega) (by omega)
theorem ltAll_no {a b : WSt} {ts : Nat} (h1 : 1 ≤ ts) (h2 : ts ≤ topN a b) (h : ilv b ts ≤ ilv a ts) : ltAll a b = false := by
  rw [← Bool.not_eq_true]
  intro hc
  have := (ltAll_iff a b).mp hc ts h1 h2
  omega
/-- few lengths of runs: the closed runs are all 0 -/
theorem simple_zero {st : WSt} {closed : List Nat} {bb : Nat} (h : WsIs st closed bb) (hs : st.cs.length ≤ 1) : ∀ r ∈ closed, r = 0 := by
  intro r hr
  have := runs_lt h r hr
  omega
theorem simple_ilv {st : WSt} {closed : List Nat} {bb : Nat} (h : WsIs st closed bb) (hs : st.cs.length ≤ 1) {ts : Nat} (hts : 0 < ts) : ilv st ts = st.b + ts * st.nt := by
  rw [ilv_col h hts, colT, sumQ_zero (fun r hr => by have := simple_zero h hs r hr; omega), h.b, h.nt, Nat.zero_add]
theorem ltAll_simple {a b : WSt} {c1 c2 : List Nat} {b1 b2 : Nat} (ha : WsIs a c1 b1) (hb : WsIs b c2 b2) (sa : a.cs.length ≤ 1) (sb : b.cs.length ≤ 1) (hn : a.n < b.n) : ltAll a b = decide (a.nt ≤ b.nt) := by
  rw [n_col ha, n_col hb, simple_ilv ha sa (by decide), simple_ilv hb sb (by decide)] at hn
  rw [Bool.eq_iff_iff, ltAll_iff, decide_eq_true_eq]
  constructor
  · intro h
    have hN := h (topN a b) (by simp [topN]) (Nat.le_refl _)
    rw [simple_ilv ha sa (by simp [topN]), simple_ilv hb sb (by simp [topN])] at hN
    rcases Nat.lt_or_ge b.nt a.nt with hl | hl
    · exfalso
      have h3 : topN a b * (b.nt + 1) ≤ topN a b * a.nt := Nat.mul_le_mul_left _ hl
      rw [Nat.mul_add] at h3
      have h4 : b.b < topN a b := by simp only [topN, lng]; omega
      omega
    · exact hl
  · intro h ts h1 _
    rw [simple_ilv ha sa h1, simple_ilv hb sb h1]
    obtain ⟨k, rfl⟩ : ∃ k, ts = k + 1 := ⟨ts - 1, by omega⟩
    have h3 : k * a.nt ≤ k * b.nt := Nat.mul_le_mul_left _ h
    rw [Nat.add_mul, Nat.add_mul, Nat.one_mul, Nat.one_mul]
    omega
/-- the rows of not_less_witness: the columns -/
def rowsTo (a b : WSt) : Nat → List (Nat × Nat)
  | 0 => []
  | i + 1 => rowsTo a b i ++ (if ilv b (i + 1) ≤ ilv a (i + 1) then [(ilv a (i + 1), ilv b (i + 1))] else [])
theorem rows_len (a b : WSt) (n : Nat) : (rowsTo a b n).length = 0 ↔ ∀ ts, 1 ≤ ts → ts ≤ n → ilv a ts < ilv b ts := by
  induction n with
  | zero => simp [rowsTo]; intro ts h1 h2; omega
  | succ i ih =>
    rw [rowsTo, List.length_append, Nat.add_eq_zero_iff, ih]
    constructor
    · rintro ⟨h1, h2⟩ ts h3 h4
      by_cases e : ts = i + 1
      · subst e
        by_cases hc : ilv b (i + 1) ≤ ilv a (i + 1)
        · rw [if_pos hc] at h2; simp at h2
        · omega
      · exact h1 ts h3 (by omega)
    · intro h
      refine ⟨fun ts h1 h2 => h ts h1 (by omega), ?_⟩
      rw [if_neg (by have := h (i + 1) (by omega) (Nat.le_refl _); omega)]
      rfl
theorem rows_unlike (a b : WSt) (n : Nat) : ((rowsTo a b n).filter fun p => decide (p.1 ≠ p.2)).length = 0 ↔ ∀ ts, 1 ≤ ts → ts ≤ n → ilv a ts ≤ ilv b ts := by
  induction n with
  | zero => simp [rowsTo]; intro ts h1 h2; omega
  | succ i ih =>
    rw [rowsTo, List.filter_append, List.length_append, Nat.add_eq_zero_iff, ih]
    constructor
    · rintro ⟨h1, h2⟩ ts h3 h4
      by_cases e : ts = i + 1
      · subst e
        by_cases hc : ilv b (i + 1) ≤ ilv a (i + 1)
        · rw [if_pos hc] at h2
          rcases Nat.lt_or_ge (ilv b (i + 1)) (ilv a (i + 1)) with hl | hl
          · rw [List.filter_cons_of_pos (by simp; omega)] at h2; simp at h2
          · exact hl
        · omega
      · exact h1 ts h3 (by omega)
    · intro h
      refine ⟨fun ts h1 h2 => h ts h1 (by omega), ?_⟩
      have h3 := h (i + 1) (by omega) (Nat.le_refl _)
      by_cases hc : ilv b (i + 1) ≤ ilv a (i + 1)
      · rw [if_pos hc, List.filter_cons_of_neg (by simp; omega)]; rfl
      · rw [if_neg hc]; rfl
def rowsOf (a b : WSt) : List (Nat × Nat) := rowsTo a b (topN a b)
theorem rowsTo_len (a b : WSt) : ∀ n, (rowsTo a b n).length ≤ n
  | 0 => Nat.le_refl _
  | n + 1 => by
    have := rowsTo_len a b n
    rw [rowsTo, List.length_append]
    split <;> simp <;> omega
theorem rows_lt (a b : WSt) : decide ((rowsOf a b).length = 0) = ltAll a b := by
  rw [Bool.eq_iff_iff, ltAll_iff, decide_eq_true_eq]; exact rows_len a b _
theorem rows_le (a b : WSt) : decide (((rowsOf a b).filter fun p => decide (p.1 ≠ p.2)).length = 0) = leAll a b := by
  rw [Bool.eq_iff_iff, leAll_iff, decide_eq_true_eq]; exact rows_unlike a b _
/-- _law_both_ways -/
def straightB (c : List Nat) : Bool := c.all fun r => decide (r = 0)
def bothB (c1 c2 : List Nat) : Bool := straightB c1 && (straightB c2 || (decide (c1.length = 0) || decide (c2.length ≤ c1.length + 1)))
theorem straight_iff (c : List Nat) : straightB c = true ↔ ∀ r ∈ c, r = 0 := by simp [straightB]
theorem sub_iff (l y : List Nat) : l.isSublist y = true ↔ l.Sublist y := List.isSublist_iff_sublist
theorem law_more {a b : WSt} {c1 c2 : List Nat} {b1 b2 : Nat} (ha : WsIs a c1 b1) (hb : WsIs b c2 b2) (h : (worthT c1 b1 ++ [32]).isSublist (worthT c2 b2) = true) : ltAll a b = true := by
  rw [ltAll_iff]
  intro ts h1 _
  rw [ilv_col ha h1, ilv_col hb h1]
  exact more_col h1 ((sub_iff _ _).mp h)
theorem law_some {a b : WSt} {c1 c2 : List Nat} {b1 b2 : Nat} (ha : WsIs a c1 b1) (hb : WsIs b c2 b2) (h : (worthT c1 b1).isSublist (worthT c2 b2) = true) : leAll a b = true := by
  rw [leAll_iff]
  intro ts h1 _
  rw [ilv_col ha h1, ilv_col hb h1]
  exact some_col h1 ((sub_iff _ _).mp h)
theorem law_both {a b : WSt} {c1 c2 : List Nat} {b1 b2 : Nat} (ha : WsIs a c1 b1) (hb : WsIs b c2 b2) (hs : c2.Pairwise (· ≤ ·)) (hbw : bothB c1 c2 = true) :
    ltAll a b = (worthT c1 b1 ++ [32]).isSublist (worthT c2 b2) ∧ leAll a b = (worthT c1 b1).isSublist (worthT c2 b2) := by
  simp only [bothB, Bool.and_eq_true, Bool.or_eq_true, decide_eq_true_eq, straight_iff] at hbw
  obtain ⟨h1, hc⟩ := hbw
  have hN : ∀ r ∈ c2, r < topN a b := fun r hr => by
    have := runs_lt hb r hr
    simp only [topN, lng]; omega
  have hbN : b2 < topN a b := by
    have := hb.b
    simp only [topN, lng]; omega
  have col1 : ∀ ts, 1 ≤ ts → colT c1 b1 ts = b1 + ts * c1.length := fun ts h => by
    rw [colT, sumQ_zero (fun r hr => by have := h1 r hr; omega), Nat.zero_add]
  constructor
  · rw [Bool.eq_iff_iff]
    refine ⟨fun h => ?_, law_more ha hb⟩
    rw [sub_iff, worth_more]
    rw [ltAll_iff] at h
    refine cols_sub h1 hs hN hbN (fun ts h3 h4 => ?_) hc
    have := h ts h3 h4
    rw [ilv_col ha h3, ilv_col hb h3, col1 ts h3] at this
    omega
  · rw [Bool.eq_iff_iff]
    refine ⟨fun h => ?_, law_some ha hb⟩
    rw [sub_iff]
    rw [leAll_iff] at h
    refine cols_sub h1 hs hN hbN (fun ts h3 h4 => ?_) hc
    have := h ts h3 h4
    rwa [ilv_col ha h3, ilv_col hb h3, col1 ts h3] at this
end Mine
end
section
open PySem PySem.W PyProof.Rows
set_option Elab.async false
set_option maxRecDepth 100000
set_option maxHeartbeats 8000000
set_option pp.maxSteps 20000
namespace Mine
local macro_rules | `(tactic| walk_at "pyIter ref") => `(tactic| (refine Hold.out ?_))
local macro_rules | `(tactic| walk_at "call builtin:str.replace") => `(tactic| (k_here; (refine SC.replaceW (by ((show @Ne Nat _ _); omega)) (by ((show @Ne Nat _ _); omega)) (by ((show @Ne Nat _ _); omega)) (by decide +kernel) (by omega) (by decide +kernel) ?_); intro t9 k9))
local macro_rules | `(tactic| k_mem) => `(tactic| first | assumption | (refine List.mem_cons_of_mem _ ?_; k_mem) | (refine List.mem_append.mpr (Or.inr ?_); k_mem) | (refine List.mem_append.mpr (Or.inl ?_); k_mem))
local macro_rules | `(tactic| walk_at "Turn") => `(tactic| ((first | refine Turn.ret ?_ | refine Turn.brk ?_); (try dsimp only); (try k_fold)))
local macro_rules | `(tactic| walk_at "pyIter str") => `(tactic| (refine Hold.out ?_))
local macro_rules | `(tactic| walk_at "exec For Name Name cons nil") => `(tactic| (k_here; (rename Fr _ _ _ _ => lF'); (with_unfolding_all refine' For_invVF lF' ?k1 ?k2 ?_; (case k1 => exact rfl); (case k2 => exact rfl); k_whole)))
local macro_rules | `(tactic| walk_at "exec For Name Attribute cons nil") => `(tactic| (k_here; (rename Fr _ _ _ _ => lF'); (with_unfolding_all refine' For_invVF lF' ?k1 ?k2 ?_; (case k1 => exact rfl); (case k2 => exact rfl); k_whole)))
local macro_rules | `(tactic| walk_at "exec For Name Subscript cons nil") => `(tactic| (k_here; (rename Fr _ _ _ _ => lF'); (with_unfolding_all refine' For_invVF lF' ?k1 ?k2 ?_; (case k1 => exact rfl); (case k2 => exact rfl); k_whole)))
local macro_rules | `(tactic| walk_at "exec For Name Call cons nil") => `(tactic| (k_here; (rename Fr _ _ _ _ => lF'); (with_unfolding_all refine' For_invVF lF' ?k1 ?k2 ?_; (case k1 => exact rfl); (case k2 => exact rfl); k_whole)))
local macro_rules | `(tactic| walk_at "call ref") => `(tactic| (k_here; (with_reducible show wpAny _ _ (call (Value.ref _) _) _ _ _); k_dflt (refine' GivesP.useS (text_specP _ _ _ _ _ ?c1 ?c2) ?k1 ?k2 ?k3 ?k4 ?k5 ?kK ?kd ?ku ?_; (case k1 => k_asm); (case k2 => k_asm); (case k3 => k_asm); (case k4 => k_asm); (case k5 => k_asm); (case kK => exact rfl); (case kd => ktr_room); (case ku => ktr_units); (case c1 => assumption); (case c2 => assumption); k_whole); intro t9 h9 tk9 hle9 F9 N9; (try dsimp only at hle9); (try dsimp only); (try k_fold)))

theorem worth_spec (w : World) (news : List (Addr × Obj)) (v : Value) (closed : List Nat) (behind : Nat) (hv : LeadAt news v closed behind) (hs : Small closed behind) :
    Gives w 115 2 [v] news (fun r tl => tl = [] ∧ ∃ t', r = .str (S (worthT closed behind)) t') := by
  have hl : (S (textT closed behind)).length ≤ 500 := textT_len hs
  have he := repW_eq (textT closed behind)
  have hl2 : (S (repW (textT closed behind))).length ≤ 1000 := worth_len hs
  w_top off
  unfold Gives
  w_top off
  k_fill
  intro mean mg mb dp un gd cn cs a ccd cl outer A₀ base h₀ L m s Q E B F X N T hk hd hu hret
  refine wpAny_call ?_
  k_dflt ktr_enter
  k_steps
  rw [he]
  k_steps
  exact hret _ [] _ _ (by assumption) (by assumption) (fun _ h => nomatch h) ⟨rfl, _, rfl⟩
theorem pattern_spec (w : World) (news : List (Addr × Obj)) (l : List Nat) (t : Tok) (hl : l.length < 2000) :
    Gives w 122 1 [.str (S l) t] news (fun r tl => tl = [] ∧ ∃ t', r = .str (S (patT l)) t') := by
  w_top off
  unfold Gives
  w_top off
  k_fill
  intro mean mg mb dp un gd cn cs a ccd cl outer A₀ base h₀ L m s Q E B F X N T hk hd hu hret
  refine wpAny_call ?_
  k_dflt ktr_enter
  k_steps
  refine Hold.mk ?_
  (rename Fr _ _ _ _ => fF); (rename News _ _ _ _ => fN)
  refine' loop_strC (fun c : Str × Tok => [(Str.ofString "want", Value.str c.1 c.2)]) [] (fun i c => i ≤ l.length ∧ c.1 = S (patT (l.take i))) (Str.ofString "...", ?tk0) (by rfl) fF fN ?k1 ?k2 ?_ ?_
  case k1 => kst_all
  case k2 => exact ⟨Nat.zero_le _, S_dots⟩
  · rintro ⟨c, tc⟩ i n ti u h tk own hn hP hoff F1 N1
    dsimp only at hP
    obtain ⟨hi, rfl⟩ := hP
    have hn' : l[i]? = some n := by simpa [S] using hn
    have hi2 := (List.getElem?_eq_some_iff.mp hn').1
    have hl1 := (S_len (patT (l.take i))).trans (patT_len _)
    have hl2 : (l.take i).length ≤ 2000 := by rw [List.length_take]; omega
    clear fF fN; dsimp only [kstB] at F1
    k_steps
    refine' Turn.next (_, _) (by assumption) (by assumption) (fun p hp => List.mem_append.mpr (.inr hp)) (fun p hp => List.mem_append.mpr (.inl hp)) hoff ?k1 ?k2 ?k3
    case k1 => kst_all
    case k2 => kst_same
    case k3 =>
      refine ⟨hi2, ?_⟩
      show S (patT (l.take i)) ++ S [n] ++ Str.ofString "..." = S (patT (l.take (i + 1)))
      rw [S_dots, S_app, S_app, List.take_add_one, hn']
      exact congrArg S (patT_snoc _ _).symm
  · rintro ⟨c, tc⟩ u h tk hP F1 N1
    dsimp only at hP
    have e : (S l).cps.size = l.length := by simp [S]
    rw [e, List.take_length] at hP
    obtain ⟨_, rfl⟩ := hP
    clear fF fN; dsimp only [kstB] at F1
    k_steps
    exact hret _ [] _ _ (by assumption) (by assumption) (fun _ h => nomatch h) ⟨rfl, _, rfl⟩
end Mine
end
section
open PySem PySem.W PyProof.Rows
set_option Elab.async false
set_option maxRecDepth 100000
set_option maxHeartbeats 8000000
set_option pp.maxSteps 20000
namespace Mine
local macro_rules | `(tactic| walk_at "pyIter ref") => `(tactic| (refine Hold.out ?_))
local macro_rules | `(tactic| walk_at "call builtin:str.replace") => `(tactic| (k_here; (refine SC.replaceW (by ((show @Ne Nat _ _); omega)) (by ((show @Ne Nat _ _); omega)) (by ((show @Ne Nat _ _); omega)) (by decide +kernel) (by omega) (by decide +kernel) ?_); intro t9 k9))
local macro_rules | `(tactic| k_mem) => `(tactic| first | assumption | (refine List.mem_cons_of_mem _ ?_; k_mem) | (refine List.mem_append.mpr (Or.inr ?_); k_mem) | (refine List.mem_append.mpr (Or.inl ?_); k_mem))
local macro_rules | `(tactic| walk_at "Turn") => `(tactic| ((first | refine Turn.ret ?_ | refine Turn.brk ?_); (try dsimp only); (try k_fold)))
local macro_rules | `(tactic| walk_at "pyIter str") => `(tactic| (refine Hold.out ?_))
local macro_rules | `(tactic| walk_at "exec For Name Name cons nil") => `(tactic| (k_here; (rename Fr _ _ _ _ => lF'); (with_unfolding_all refine' For_invVF lF' ?k1 ?k2 ?_; (case k1 => exact rfl); (case k2 => exact rfl); k_whole)))
local macro_rules | `(tactic| walk_at "exec For Name Attribute cons nil") => `(tactic| (k_here; (rename Fr _ _ _ _ => lF'); (with_unfolding_all refine' For_invVF lF' ?k1 ?k2 ?_; (case k1 => exact rfl); (case k2 => exact rfl); k_whole)))
local macro_rules | `(tactic| walk_at "exec For Name Subscript cons nil") => `(tactic| (k_here; (rename Fr _ _ _ _ => lF'); (with_unfolding_all refine' For_invVF lF' ?k1 ?k2 ?_; (case k1 => exact rfl); (case k2 => exact rfl); k_whole)))
local macro_rules | `(tactic| walk_at "exec For Name Call cons nil") => `(tactic| (k_here; (rename Fr _ _ _ _ => lF'); (with_unfolding_all refine' For_invVF lF' ?k1 ?k2 ?_; (case k1 => exact rfl); (case k2 => exact rfl); k_whole)))

theorem straight_spec (w : World) (news : List (Addr × Obj)) (v : Value) (closed : List Nat) (behind : Nat) (hv : LeadAt news v closed behind) (hs : Small closed behind) :
    Gives w 129 1 [v] news (fun r tl => tl = [] ∧ r = .bool (straightB closed)) := by
  obtain ⟨av, ac, vs, nn, kk, tb, rfl, hm1, hm2, hI⟩ := hv
  obtain ⟨hs1, hs2, hs3⟩ := hs
  have hlen : vs.length = closed.length := by simpa using hI.length
  w_top off
  unfold Gives
  w_top off
  k_fill
  intro mean mg mb dp un gd cn cs a ccd cl outer A₀ base h₀ L m s Q E B F X N T hk hd hu hret
  refine wpAny_call ?_
  k_dflt ktr_enter
  k_steps
  refine Hold.mk ?_
  (rename Fr _ _ _ _ => fF); (rename News _ _ _ _ => fN)
  refine' loop_listC (σ := Unit) (fun _ => []) [] (fun i _ => ∀ r ∈ closed.take i, r = 0) () (by rfl) hm2 fF fN ?k1 ?k2 ?_ ?_
  case k1 => kst_all
  case k2 => intro r hr; simp at hr
  · rintro ⟨⟩ i vi u h tk own hvi hP hoff F1 N1
    obtain ⟨r, tr, hr, rfl⟩ := ints_at hI hvi
    clear fF fN; dsimp only [kstB] at F1
    by_cases h0 : r = 0
    · subst h0
      k_steps
      refine' Turn.next () (by assumption) (by assumption) (fun p hp => List.mem_append.mpr (.inr hp)) (fun p hp => List.mem_append.mpr (.inl hp)) hoff ?k1 ?k2 ?k3
      case k1 => kst_all
      case k2 => kst_same
      case k3 =>
        intro r hr9
        rw [List.take_add_one, hr] at hr9
        simp at hr9
        rcases hr9 with h | h
        · exact hP r h
        · exact h
    · k_steps
      refine' hret _ [] _ _ ?e1 ?e2 (fun _ h => nomatch h) ⟨rfl, ?e3⟩
      case e1 => assumption
      case e2 => exact cb_drop (by assumption) (by intro p hp; simp only [List.nil_append] at hp; simp [hp])
      case e3 =>
        have : straightB closed = false := by
          rw [← Bool.not_eq_true, straight_iff]
          exact fun h => h0 (h r (List.mem_of_getElem? hr))
        rw [this]
  · rintro ⟨⟩ u h tk hP F1 N1
    rw [hlen, List.take_length] at hP
    clear fF fN; dsimp only [kstB] at F1
    k_steps
    exact hret _ [] _ _ (by assumption) (by assumption) (fun _ h => nomatch h) ⟨rfl, by rw [(straight_iff closed).mpr hP]⟩
end Mine
end
section
open PySem PySem.W PyProof.Rows
set_option Elab.async false
set_option maxRecDepth 100000
set_option maxHeartbeats 8000000
set_option pp.maxSteps 20000
namespace Mine
local macro_rules | `(tactic| walk_at "pyIter ref") => `(tactic| (refine Hold.out ?_))
local macro_rules | `(tactic| walk_at "call builtin:str.replace") => `(tactic| (k_here; (refine SC.replaceW (by ((show @Ne Nat _ _); omega)) (by ((show @Ne Nat _ _); omega)) (by ((show @Ne Nat _ _); omega)) (by decide +kernel) (by omega) (by decide +kernel) ?_); intro t9 k9))
local macro_rules | `(tactic| k_mem) => `(tactic| first | assumption | (refine List.mem_cons_of_mem _ ?_; k_mem) | (refine List.mem_append.mpr (Or.inr ?_); k_mem) | (refine List.mem_append.mpr (Or.inl ?_); k_mem))
local macro_rules | `(tactic| walk_at "Turn") => `(tactic| ((first | refine Turn.ret ?_ | refine Turn.brk ?_); (try dsimp only); (try k_fold)))
local macro_rules | `(tactic| walk_at "pyIter str") => `(tactic| (refine Hold.out ?_))
local macro_rules | `(tactic| walk_at "exec For Name Name cons nil") => `(tactic| (k_here; (rename Fr _ _ _ _ => lF'); (with_unfolding_all refine' For_invVF lF' ?k1 ?k2 ?_; (case k1 => exact rfl); (case k2 => exact rfl); k_whole)))
local macro_rules | `(tactic| walk_at "exec For Name Attribute cons nil") => `(tactic| (k_here; (rename Fr _ _ _ _ => lF'); (with_unfolding_all refine' For_invVF lF' ?k1 ?k2 ?_; (case k1 => exact rfl); (case k2 => exact rfl); k_whole)))
local macro_rules | `(tactic| walk_at "exec For Name Subscript cons nil") => `(tactic| (k_here; (rename Fr _ _ _ _ => lF'); (with_unfolding_all refine' For_invVF lF' ?k1 ?k2 ?_; (case k1 => exact rfl); (case k2 => exact rfl); k_whole)))
local macro_rules | `(tactic| walk_at "exec For Name Call cons nil") => `(tactic| (k_here; (rename Fr _ _ _ _ => lF'); (with_unfolding_all refine' For_invVF lF' ?k1 ?k2 ?_; (case k1 => exact rfl); (case k2 => exact rfl); k_whole)))
section
variable {prog : Program} {w : World} {A : Around} {E : Value → Shared → Prop} {s : Shared} {h₀ : Heap} {L : Addr} {news : List (Addr × Obj)}
theorem len_listN {l : Addr} {vs : List Value} {c k : Nat} {Q : Value → Shared → Prop} (N : News h₀ L s.heap news) (hm : (l, listOf vs.toArray c) ∈ news) (e : vs.length = k) (hk : k < 1000000)
    (h : ∀ t k', Q (.int (k : Int) t) { s with toks := k' }) : wpAny (model prog w) A (call (.builtin "len") [.ref l]) Q E s :=
  kst_len N hm e (by omega) (h _ _)
theorem len_tupI {ct : Addr} {vs : List Value} {k : Nat} {Q : Value → Shared → Prop} (N : News h₀ L s.heap news) (hm : (ct, ({ cls := .type "tuple", data := .seq vs.toArray } : Obj)) ∈ news) (hl : vs.length = k) (hk : k < 1000000)
    (h : ∀ t k', Q (.int (k : Int) t) { s with toks := k' }) : wpAny (model prog w) A (call (.builtin "len") [.ref ct]) Q E s := by
  refine len_tuple (News.isTup N hm) (by rw [List.size_toArray]; omega) ?_
  rw [List.size_toArray, hl]
  exact h _ _
end
local macro_rules | `(tactic| walk_at "call builtin:len") => `(tactic| (k_here; (with_reducible show wpAny _ _ (call (Value.builtin "len") [Value.ref _]) _ _ _); k_dflt (refine' len_listN ?k1 ?k2 ?k3 ?k4 ?_; (case k1 => k_asm); (case k2 => k_mem); (case k3 => assumption); (case k4 => omega)); intro t9 k9))
local macro_rules | `(tactic| walk_at "call ref") => `(tactic| (k_here; (with_reducible show wpAny _ _ (call (Value.ref _) _) _ _ _); k_dflt (refine' Gives.useB (straight_spec _ _ _ _ _ ?c1 ?c2) ?k1 ?k2 ?k3 ?k4 ?k5 ?kK ?kd ?ku ?_; (case k1 => k_asm); (case k2 => k_asm); (case k3 => k_asm); (case k4 => k_asm); (case k5 => k_asm); (case kK => exact rfl); (case kd => ktr_room); (case ku => ktr_units); (case c1 => assumption); (case c2 => assumption); k_whole); intro h9 tk9 hle9 F9 N9; (try dsimp only at hle9); (try dsimp only); (try k_fold)))

theorem both_spec (w : World) (news : List (Addr × Obj)) (v1 v2 : Value) (c1 c2 : List Nat) (b1 b2 : Nat) (h1 : LeadAt news v1 c1 b1) (h2 : LeadAt news v2 c2 b2) (s1 : Small c1 b1) (s2 : Small c2 b2) :
    Gives w 136 2 [v1, v2] news (fun r tl => tl = [] ∧ r = .bool (bothB c1 c2)) := by
  have g1 := h1
  have g2 := h2
  obtain ⟨av1, ac1, vs1, nn1, kk1, tb1, rfl, hm11, hm12, hI1⟩ := g1
  obtain ⟨av2, ac2, vs2, nn2, kk2, tb2, rfl, hm21, hm22, hI2⟩ := g2
  have hl1 : vs1.length = c1.length := by simpa using hI1.length
  have hl2 : vs2.length = c2.length := by simpa using hI2.length
  have hs1 := s1.1
  have hs2 := s2.1
  have hB : bothB c1 c2 = (straightB c1 && (straightB c2 || (decide (c1.length = 0) || decide (c2.length ≤ c1.length + 1)))) := rfl
  w_top off
  unfold Gives
  w_top off
  k_fill
  intro mean mg mb dp un gd cn cs a ccd cl outer A₀ base h₀ L m s Q E B F X N T hk hd hu hret
  refine wpAny_call ?_
  k_dflt ktr_enter
  k_steps
  all_goals (refine' hret _ [] _ _ (by assumption) (by assumption) (fun _ h => nomatch h) ⟨rfl, congrArg Value.bool ?_⟩)
  · (rename straightB c1 = true => q1); (rename straightB c2 = true => q2)
    rw [hB, q1, q2]; rfl
  · (rename straightB c1 = true => q1); (rename straightB c2 = false => q2); (rename (c1.length : Int) = 0 => q3)
    have q4 : c1.length = 0 := by omega
    rw [hB, q1, q2, q4]; rfl
  · (rename straightB c1 = true => q1); (rename straightB c2 = false => q2); (rename (c1.length : Int) ≠ 0 => q3)
    have q4 : c1.length ≠ 0 := by omega
    rw [hB, q1, q2, decide_eq_false q4]
    simp only [Bool.true_and, Bool.false_or]
    exact decide_eq_decide.mpr (by omega)
  · (rename straightB c1 = false => q1)
    rw [hB, q1]; rfl
end Mine
end
section
open PySem PySem.W PyProof.Rows
set_option Elab.async false
set_option maxRecDepth 100000
set_option maxHeartbeats 8000000
set_option pp.maxSteps 20000
namespace Mine
local macro_rules | `(tactic| walk_at "pyIter ref") => `(tactic| (refine Hold.out ?_))
local macro_rules | `(tactic| walk_at "call builtin:str.replace") => `(tactic| (k_here; (refine SC.replaceW (by ((show @Ne Nat _ _); omega)) (by ((show @Ne Nat _ _); omega)) (by ((show @Ne Nat _ _); omega)) (by decide +kernel) (by omega) (by decide +kernel) ?_); intro t9 k9))
local macro_rules | `(tactic| k_mem) => `(tactic| first | assumption | (refine List.mem_cons_of_mem _ ?_; k_mem) | (refine List.mem_append.mpr (Or.inr ?_); k_mem) | (refine List.mem_append.mpr (Or.inl ?_); k_mem))
local macro_rules | `(tactic| walk_at "Turn") => `(tactic| ((first | refine Turn.ret ?_ | refine Turn.brk ?_); (try dsimp only); (try k_fold)))
local macro_rules | `(tactic| walk_at "pyIter str") => `(tactic| (refine Hold.out ?_))
local macro_rules | `(tactic| walk_at "exec For Name Name cons nil") => `(tactic| (k_here; (rename Fr _ _ _ _ => lF'); (with_unfolding_all refine' For_invVF lF' ?k1 ?k2 ?_; (case k1 => exact rfl); (case k2 => exact rfl); k_whole)))
local macro_rules | `(tactic| walk_at "exec For Name Attribute cons nil") => `(tactic| (k_here; (rename Fr _ _ _ _ => lF'); (with_unfolding_all refine' For_invVF lF' ?k1 ?k2 ?_; (case k1 => exact rfl); (case k2 => exact rfl); k_whole)))
local macro_rules | `(tactic| walk_at "exec For Name Subscript cons nil") => `(tactic| (k_here; (rename Fr _ _ _ _ => lF'); (with_unfolding_all refine' For_invVF lF' ?k1 ?k2 ?_; (case k1 => exact rfl); (case k2 => exact rfl); k_whole)))
local macro_rules | `(tactic| walk_at "exec For Name Call cons nil") => `(tactic| (k_here; (rename Fr _ _ _ _ => lF'); (with_unfolding_all refine' For_invVF lF' ?k1 ?k2 ?_; (case k1 => exact rfl); (case k2 => exact rfl); k_whole)))
local macro_rules | `(tactic| walk_at "call builtin:len") => `(tactic| (k_here; (with_reducible show wpAny _ _ (call (Value.builtin "len") [Value.ref _]) _ _ _); k_dflt (refine' len_tupI ?k1 ?k2 ?k3 ?k4 ?_; (case k1 => k_asm); (case k2 => k_mem); (case k3 => assumption); (case k4 => omega)); intro t9 k9))
/-- a state with small parts -/
def SmallW (st : WSt) : Prop := st.cs.length ≤ 21 ∧ st.b ≤ 20 ∧ st.nt ≤ 20 ∧ st.n ≤ 1000 ∧ ∀ r, st.cs.getD r 0 ≤ 20
theorem longest_spec (w : World) (news : List (Addr × Obj)) (v : Value) (st : WSt) (hv : WhiteAt w news v st) (hs : SmallW st) :
    Gives w 45 1 [v] news (fun r tl => tl = [] ∧ ∃ t', r = .int (lng st : Int) t') := by
  obtain ⟨x, dx, nm, ct, raw, vs, tn, tt, tb, k1, k2, k3, k4, k5, rfl, hm1, hm2, hm3, hm4, hI⟩ := hv
  have hvl : vs.length = st.cs.length := by simpa using hI.length
  obtain ⟨s1, s2, s3, s4, s5⟩ := hs
  w_top off
  unfold Gives
  w_top off
  k_fill
  intro mean mg mb dp un gd cn cs a ccd cl outer A₀ base h₀ L m s Q E B F X N T hk hd hu hret
  refine wpAny_call ?_
  k_dflt ktr_enter
  k_steps
  refine' hret _ [] _ _ (by assumption) (by assumption) (fun _ h => nomatch h) ⟨rfl, _, congrArg (Value.int · _) ?_⟩
  rw [lng]
  split <;> omega
theorem ilAcc_le {cs : List Nat} {ts : Nat} (h : ∀ r, cs.getD r 0 ≤ 20) : ∀ k, (k = 0 ∨ ts + k ≤ 21) → ilAcc cs ts k ≤ k * 420
  | 0, _ => Nat.le_refl _
  | k + 1, hk => by
    have h1 := ilAcc_le (ts := ts) h k (by omega)
    have h2 : (ts + k) / ts ≤ 21 := Nat.le_trans (Nat.div_le_self _ _) (by omega)
    have h3 : (ts + k) / ts * cs.getD (ts + k) 0 ≤ 21 * 20 := Nat.mul_le_mul h2 (h _)
    rw [ilAcc]
    omega
section
variable {prog : Program} {w : World} {A : Around} {E : Value → Shared → Prop} {s : Shared}
theorem item_cs {cs : List Nat} {value slice : PySem.Expr} {l : Addr} {vs : List Value} {k : Int} {u : Tok} {Q : Value → Shared → Prop} (ht : IsTup s.heap l vs.toArray) (hi : IntsAre vs (cs.map fun (k : Nat) => (k : Int)))
    (h20 : ∀ r, cs.getD r 0 ≤ 20) (h0 : 0 ≤ k) (h1 : k < cs.length) (hfit : k < 2 ^ 63) (h : ∀ t, cs.getD k.toNat 0 ≤ 20 → Q (.int ((cs.getD k.toNat 0 : Nat) : Int) t) s)
    (hs : subscripted slice false (.ref l) (.int k u) = operate [.ref l, .int k u] (getItem (.ref l) (.int k u)) := by with_unfolding_all rfl) :
    wpAny (model prog w) A (subscriptTail value slice (.ref l) (.int k u)) Q E s := by
  refine item_anyT ht hi h0 (by rw [List.length_map]; exact h1) hfit (fun t => ?_) hs
  have e : (cs.map fun (k : Nat) => (k : Int)).getD k.toNat 0 = ((cs.getD k.toNat 0 : Nat) : Int) := by
    have : k.toNat < cs.length := by omega
    rw [List.getD_eq_getElem?_getD, List.getD_eq_getElem?_getD, List.getElem?_map, List.getElem?_eq_getElem this]
    rfl
  rw [e]
  exact h t (h20 _)
end
local macro_rules | `(tactic| walk_at "subscriptTail") => `(tactic| (k_here; (with_reducible show wpAny _ _ (subscriptTail _ _ (Value.ref _) (Value.int _ _)) _ _ _); k_dflt (refine' item_cs ?k1 ?k3 ?k4 ?k5 ?k6 ?k7 ?_ ?k8; (case k1 => exact News.isTup (by k_asm) (by k_mem)); (case k3 => assumption); (case k4 => assumption); (case k5 => omega); (case k6 => omega); (case k7 => omega); (case k8 => with_unfolding_all rfl)); intro t9 hc9))
theorem indent_spec (w : World) (news : List (Addr × Obj)) (v : Value) (st : WSt) (ts : Nat) (t : Tok) (hv : WhiteAt w news v st) (hs : SmallW st) (h0 : 0 < ts) (h1 : ts ≤ 100) :
    Gives w 52 1 [v, .int (ts : Int) t] news (fun r tl => tl = [] ∧ ∃ t', r = .int (ilv st ts : Int) t') := by
  obtain ⟨x, dx, nm, ct, raw, vs, tn, tt, tb, k1, k2, k3, k4, k5, rfl, hm1, hm2, hm3, hm4, hI⟩ := hv
  have hvl : vs.length = st.cs.length := by simpa using hI.length
  obtain ⟨s1, s2, s3, s4, s5⟩ := hs
  w_top off
  unfold Gives
  w_top off
  k_fill
  intro mean mg mb dp un gd cn cs a ccd cl outer A₀ base h₀ L m s Q E B F X N T hk hd hu hret
  refine wpAny_call ?_
  k_dflt ktr_enter
  k_steps
  refine Hold.mk ?_
  (rename Fr _ _ _ _ => fF); (rename News _ _ _ _ => fN); (rename IsRange _ _ _ _ _ _ _ _ => rgX)
  refine' loop_rangeC (n := st.cs.length - ts) (fun c : Int × Tok => [(Str.ofString "il", Value.int c.1 c.2)]) [] (fun i c => c.1 = (ilAcc st.cs ts i : Int)) ((0 : Int), ?tk0) (by rfl) rgX (small_one (by omega) (by omega) (by omega) (by omega)) ?kn fF fN ?k1 ?k2 ?_ ?_
  case kn => rw [rangeSize_nat]; omega
  case k1 => kst_all
  case k2 => rfl
  · rintro ⟨c, tc⟩ i ti u h tk own hi hP hoff F1 N1
    dsimp only at hP
    subst hP
    have hle := ilAcc_le s5 (ts := ts) i (by omega)
    have e1 : ((ts : Int) + (i : Int)).fdiv (ts : Int) = (((ts + i) / ts : Nat) : Int) := by rw [Int.fdiv_eq_ediv_of_nonneg _ (by omega), ← Int.natCast_add, ← Int.natCast_ediv]
    have e2 : (ts + i) / ts ≤ 21 := Nat.le_trans (Nat.div_le_self _ _) (by omega)
    have e3 : ((ts : Int) + (i : Int)).toNat = ts + i := rfl
    clear fF fN; dsimp only [kstB] at F1
    k_steps
    refine' Turn.next (_, _) (by assumption) (by assumption) (fun p hp => List.mem_append.mpr (.inr hp)) (fun p hp => List.mem_append.mpr (.inl hp)) hoff ?k1 ?k2 ?k3
    case k1 => kst_all
    case k2 => kst_same
    case k3 => dsimp only; rw [ilAcc, Int.natCast_add, Int.natCast_mul, e1, e3]
  · rintro ⟨c, tc⟩ u h tk hP F1 N1
    dsimp only at hP
    subst hP
    have hle := ilAcc_le s5 (ts := ts) (st.cs.length - ts) (by omega)
    clear fF fN; dsimp only [kstB] at F1
    k_steps
    exact hret _ [] _ _ (by assumption) (by assumption) (fun _ h => nomatch h) ⟨rfl, _, congrArg (Value.int · _) (by rw [ilv]; rfl)⟩
end Mine
end
section
open PySem PySem.W PyProof.Rows
set_option Elab.async false
set_option maxRecDepth 100000
set_option maxHeartbeats 8000000
set_option pp.maxSteps 20000
namespace Mine
local macro_rules | `(tactic| walk_at "pyIter ref") => `(tactic| (refine Hold.out ?_))
local macro_rules | `(tactic| walk_at "call builtin:str.replace") => `(tactic| (k_here; (refine SC.replaceW (by ((show @Ne Nat _ _); omega)) (by ((show @Ne Nat _ _); omega)) (by ((show @Ne Nat _ _); omega)) (by decide +kernel) (by omega) (by decide +kernel) ?_); intro t9 k9))
local macro_rules | `(tactic| k_mem) => `(tactic| first | assumption | (refine List.mem_cons_of_mem _ ?_; k_mem) | (refine List.mem_append.mpr (Or.inr ?_); k_mem) | (refine List.mem_append.mpr (Or.inl ?_); k_mem))
local macro_rules | `(tactic| walk_at "Turn") => `(tactic| ((first | refine Turn.ret ?_ | refine Turn.brk ?_); (try dsimp only); (try k_fold)))
local macro_rules | `(tactic| walk_at "pyIter str") => `(tactic| (refine Hold.out ?_))
local macro_rules | `(tactic| walk_at "exec For Name Name cons nil") => `(tactic| (k_here; (rename Fr _ _ _ _ => lF'); (with_unfolding_all refine' For_invVF lF' ?k1 ?k2 ?_; (case k1 => exact rfl); (case k2 => exact rfl); k_whole)))
local macro_rules | `(tactic| walk_at "exec For Name Attribute cons nil") => `(tactic| (k_here; (rename Fr _ _ _ _ => lF'); (with_unfolding_all refine' For_invVF lF' ?k1 ?k2 ?_; (case k1 => exact rfl); (case k2 => exact rfl); k_whole)))
local macro_rules | `(tactic| walk_at "exec For Name Subscript cons nil") => `(tactic| (k_here; (rename Fr _ _ _ _ => lF'); (with_unfolding_all refine' For_invVF lF' ?k1 ?k2 ?_; (case k1 => exact rfl); (case k2 => exact rfl); k_whole)))
local macro_rules | `(tactic| walk_at "exec For Name Call cons nil") => `(tactic| (k_here; (rename Fr _ _ _ _ => lF'); (with_unfolding_all refine' For_invVF lF' ?k1 ?k2 ?_; (case k1 => exact rfl); (case k2 => exact rfl); k_whole)))
theorem white_in {w : World} {h₀ h : Heap} {L : Addr} {news led : List (Addr × Obj)} {v : Value} {st : WSt} (_N : News h₀ L h led) (hw : WhiteAt w news v st) (hs : ∀ p ∈ news, p ∈ led) : WhiteAt w led v st := hw.mono hs
theorem indent_call (w : World) (news : List (Addr × Obj)) (v : Value) (st : WSt) (ts : Int) (t : Tok) (hv : WhiteAt w news v st) (hs : SmallW st) (h0 : 0 < ts ∧ ts ≤ 100) :
    Gives w 52 1 [v, .int ts t] news (fun r tl => tl = [] ∧ ∃ t', r = .int (ilv st ts.toNat : Int) t') := by
  obtain ⟨ts, rfl⟩ := Int.eq_ofNat_of_zero_le (Int.le_of_lt h0.1)
  exact indent_spec w news v st ts t hv hs (by omega) (by omega)
theorem ilv_le {st : WSt} {ts : Nat} (hs : SmallW st) (ht : ts ≤ 100) : ilv st ts ≤ 1000000 := by
  obtain ⟨s1, s2, s3, s4, s5⟩ := hs
  have h1 := ilAcc_le s5 (ts := ts) (st.cs.length - ts) (by omega)
  have h2 : ts * (ilAcc st.cs ts (st.cs.length - ts) + st.nt) ≤ 100 * 9000 := Nat.mul_le_mul ht (by omega)
  rw [ilv]
  omega
local macro_rules | `(tactic| walk_at "call ref") => `(tactic| (k_here; (with_reducible show wpAny _ _ (call (Value.ref _) _) _ _ _); k_dflt (refine' Gives.useI (longest_spec _ _ _ _ ?c1 ?c2) ?k1 ?k2 ?k3 ?k4 ?k5 ?kK ?kd ?ku ?_; (case k1 => k_asm); (case k2 => k_asm); (case k3 => k_asm); (case k4 => k_asm); (case k5 => k_asm); (case kK => exact rfl); (case kd => ktr_room); (case ku => ktr_units); (case c1 => assumption); (case c2 => assumption); k_whole); intro t9 h9 tk9 hle9 F9 N9; (try dsimp only at hle9); (try dsimp only); (try k_fold)))
local macro_rules | `(tactic| walk_at "call ref") => `(tactic| (k_here; (with_reducible show wpAny _ _ (call (Value.ref _) _) _ _ _); k_dflt (refine' Gives.useI (indent_call _ _ _ _ _ _ ?c1 ?c2 ?c3) ?k1 ?k2 ?k3 ?k4 ?k5 ?kK ?kd ?ku ?_; (case k1 => k_asm); (case k2 => k_asm); (case k3 => k_asm); (case k4 => k_asm); (case k5 => k_asm); (case kK => exact rfl); (case kd => ktr_room); (case ku => ktr_units); (case c1 => assumption); (case c2 => assumption); (case c3 => (constructor <;> omega)); k_whole); intro t9 h9 tk9 hle9 F9 N9; (try dsimp only at hle9); (try dsimp only); (try k_fold)))

theorem less_spec (w : World) (news : List (Addr × Obj)) (v1 v2 : Value) (a9 b9 : WSt) (c1 c2 : List Nat) (b1 b2 : Nat) (h1 : WhiteAt w news v1 a9) (h2 : WhiteAt w news v2 b9) (ha : WsIs a9 c1 b1) (hb : WsIs b9 c2 b2) (sa : SmallW a9) (sb : SmallW b9) :
    Gives w 73 2 [v1, v2] news (fun r tl => tl = [] ∧ r = .bool (ltAll a9 b9)) := by
  have g1 := h1
  have g2 := h2
  obtain ⟨x1, dx1, nm1, ct1, raw1, vs1, tn1, tt1, tb1, k11, k12, k13, k14, k15, rfl, hm11, hm12, hm13, hm14, hI1⟩ := g1
  obtain ⟨x2, dx2, nm2, ct2, raw2, vs2, tn2, tt2, tb2, k21, k22, k23, k24, k25, rfl, hm21, hm22, hm23, hm24, hI2⟩ := g2
  have la1 : lng a9 ≤ 20 := by have := sa.1; have := sa.2.1; rw [lng]; omega
  have lb1 : lng b9 ≤ 20 := by have := sb.1; have := sb.2.1; rw [lng]; omega
  have hT : (topN a9 b9 : Int) = (if (lng b9 : Int) > (lng a9 : Int) then (lng b9 : Int) else (lng a9 : Int)) + 1 := by rw [topN]; split <;> omega
  have hT2 : topN a9 b9 ≤ 21 := by rw [topN]; omega
  have sa1 := sa.1
  have sb1 := sb.1
  w_top off
  unfold Gives
  w_top off
  k_fill
  intro mean mg mb dp un gd cn cs a ccd cl outer A₀ base h₀ L m s Q E B F X N T hk hd hu hret
  refine wpAny_call ?_
  k_dflt ktr_enter
  k_steps
  · (rename ((b9.n : Nat) : Int) ≤ _ => hq)
    refine' hret _ [] _ _ (by assumption) (by assumption) (fun _ h => nomatch h) ⟨rfl, congrArg Value.bool (ltAll_no (ts := 1) (Nat.le_refl _) (by rw [topN]; omega) ?_).symm⟩
    rw [← n_col ha, ← n_col hb]
    omega
  · (rename ¬ ((b9.n : Nat) : Int) ≤ _ => hq)
    (rename ((List.length (List.map _ a9.cs) : Nat) : Int) ≤ 1 => q1)
    (rename ((List.length (List.map _ b9.cs) : Nat) : Int) ≤ 1 => q2)
    rw [List.length_map] at q1 q2
    refine' hret _ [] _ _ (by assumption) (by assumption) (fun _ h => nomatch h) ⟨rfl, congrArg Value.bool ?_⟩
    rw [ltAll_simple ha hb (by omega) (by omega) (by omega)]
    exact decide_eq_decide.mpr (by omega)
  all_goals (
    refine Hold.mk ?_
    (rename Fr _ _ _ _ => fF); (rename News _ _ _ _ => fN); (rename IsRange _ _ _ _ _ _ _ _ => rgX)
    rw [← hT] at rgX
    refine' loop_rangeC (σ := Unit) (n := topN a9 b9 - 1) (fun _ => []) [] (fun i _ => ∀ ts, 2 ≤ ts → ts < 2 + i → ilv a9 ts < ilv b9 ts) () (by rfl) rgX (small_one (by omega) (by omega) (by omega) (by omega)) ?kn fF fN ?k1 ?k2 ?_ ?_
    case kn => rw [rangeSize_nat]; omega
    case k1 => kst_all
    case k2 => intro ts h3 h4; omega
    · rintro ⟨⟩ i ti u h tk own hi hP hoff F1 N1
      have e3 : ((2 : Int) + (i : Int)).toNat = 2 + i := by omega
      have h1' : WhiteAt w (news ++ own) _ a9 := h1.mono (fun p hp => List.mem_append.mpr (.inl hp))
      have h2' : WhiteAt w (news ++ own) _ b9 := h2.mono (fun p hp => List.mem_append.mpr (.inl hp))
      have hla := ilv_le (ts := ((2 : Int) + (i : Int)).toNat) sa (by omega)
      have hlb := ilv_le (ts := ((2 : Int) + (i : Int)).toNat) sb (by omega)
      clear fF fN; dsimp only [kstB] at F1
      k_steps
      · (rename ((ilv b9 _ : Nat) : Int) ≤ _ => hq)
        rw [e3] at hq
        refine' hret _ [] _ _ ?e1 ?e2 (fun _ h => nomatch h) ⟨rfl, congrArg Value.bool ?e3⟩
        case e1 => assumption
        case e2 => exact cb_drop (by assumption) (by intro p hp; simp only [List.nil_append] at hp; simp [hp])
        case e3 => exact (ltAll_no (ts := 2 + i) (by omega) (by omega) (by omega)).symm
      · (rename ¬ ((ilv b9 _ : Nat) : Int) ≤ _ => hq)
        rw [e3] at hq
        refine' Turn.next () (by assumption) (by assumption) (fun p hp => List.mem_append.mpr (.inr hp)) (fun p hp => List.mem_append.mpr (.inl hp)) hoff ?k1 ?k2 ?k3
        case k1 => kst_all
        case k2 => kst_same
        case k3 =>
          intro ts h3 h4
          by_cases e : ts = 2 + i
          · subst e; omega
          · exact hP ts h3 (by omega)
    · rintro ⟨⟩ u h tk hP F1 N1
      clear fF fN; dsimp only [kstB] at F1
      k_steps
      refine' hret _ [] _ _ (by assumption) (by assumption) (fun _ h => nomatch h) ⟨rfl, congrArg Value.bool ?_⟩
      refine ((ltAll_iff a9 b9).mpr fun ts h3 h4 => ?_).symm
      by_cases e : ts = 1
      · subst e
        rw [← n_col ha, ← n_col hb]
        omega
      · exact hP ts (by omega) (by omega))
end Mine
end
section
open PySem PySem.W PyProof.Rows
set_option Elab.async false
set_option maxRecDepth 100000
set_option maxHeartbeats 8000000
set_option pp.maxSteps 20000
namespace Mine
local macro_rules | `(tactic| walk_at "pyIter ref") => `(tactic| (refine Hold.out ?_))
local macro_rules | `(tactic| walk_at "call builtin:str.replace") => `(tactic| (k_here; (refine SC.replaceW (by ((show @Ne Nat _ _); omega)) (by ((show @Ne Nat _ _); omega)) (by ((show @Ne Nat _ _); omega)) (by decide +kernel) (by omega) (by decide +kernel) ?_); intro t9 k9))
local macro_rules | `(tactic| k_mem) => `(tactic| first | assumption | (refine List.mem_cons_of_mem _ ?_; k_mem) | (refine List.mem_append.mpr (Or.inr ?_); k_mem) | (refine List.mem_append.mpr (Or.inl ?_); k_mem))
local macro_rules | `(tactic| walk_at "Turn") => `(tactic| ((first | refine Turn.ret ?_ | refine Turn.brk ?_); (try dsimp only); (try k_fold)))
local macro_rules | `(tactic| walk_at "pyIter str") => `(tactic| (refine Hold.out ?_))
local macro_rules | `(tactic| walk_at "exec For Name Name cons nil") => `(tactic| (k_here; (rename Fr _ _ _ _ => lF'); (with_unfolding_all refine' For_invVF lF' ?k1 ?k2 ?_; (case k1 => exact rfl); (case k2 => exact rfl); k_whole)))
local macro_rules | `(tactic| walk_at "exec For Name Attribute cons nil") => `(tactic| (k_here; (rename Fr _ _ _ _ => lF'); (with_unfolding_all refine' For_invVF lF' ?k1 ?k2 ?_; (case k1 => exact rfl); (case k2 => exact rfl); k_whole)))
local macro_rules | `(tactic| walk_at "exec For Name Subscript cons nil") => `(tactic| (k_here; (rename Fr _ _ _ _ => lF'); (with_unfolding_all refine' For_invVF lF' ?k1 ?k2 ?_; (case k1 => exact rfl); (case k2 => exact rfl); k_whole)))
local macro_rules | `(tactic| walk_at "exec For Name Call cons nil") => `(tactic| (k_here; (rename Fr _ _ _ _ => lF'); (with_unfolding_all refine' For_invVF lF' ?k1 ?k2 ?_; (case k1 => exact rfl); (case k2 => exact rfl); k_whole)))
local macro_rules | `(tactic| k_all) => `(tactic| assumption)
local macro_rules | `(tactic| walk_at "call ref") => `(tactic| (k_here; (with_reducible show wpAny _ _ (call (Value.ref _) _) _ _ _); k_dflt (refine' Gives.useI (longest_spec _ _ _ _ ?c1 ?c2) ?k1 ?k2 ?k3 ?k4 ?k5 ?kK ?kd ?ku ?_; (case k1 => k_asm); (case k2 => k_asm); (case k3 => k_asm); (case k4 => k_asm); (case k5 => k_asm); (case kK => exact rfl); (case kd => ktr_room); (case ku => ktr_units); (case c1 => assumption); (case c2 => assumption); k_whole); intro t9 h9 tk9 hle9 F9 N9; (try dsimp only at hle9); (try dsimp only); (try k_fold)))
local macro_rules | `(tactic| walk_at "call ref") => `(tactic| (k_here; (with_reducible show wpAny _ _ (call (Value.ref _) _) _ _ _); k_dflt (refine' Gives.useI (indent_call _ _ _ _ _ _ ?c1 ?c2 ?c3) ?k1 ?k2 ?k3 ?k4 ?k5 ?kK ?kd ?ku ?_; (case k1 => k_asm); (case k2 => k_asm); (case k3 => k_asm); (case k4 => k_asm); (case k5 => k_asm); (case kK => exact rfl); (case kd => ktr_room); (case ku => ktr_units); (case c1 => assumption); (case c2 => assumption); (case c3 => (constructor <;> omega)); k_whole); intro t9 h9 tk9 hle9 F9 N9; (try dsimp only at hle9); (try dsimp only); (try k_fold)))

/-- rows as the program holds them -/
def RowsAt (tl : List (Addr × Obj)) (vs : List Value) (rows : List (Nat × Nat)) : Prop :=
  vs.length = rows.length ∧ ∀ (i : Nat) (p : Nat × Nat), rows[i]? = some p → ∃ T x0 t0 tx ty, vs[i]? = some (.ref T) ∧ (T, ({ cls := .type "tuple", data := .seq #[.int x0 t0, .int (p.1 : Int) tx, .int (p.2 : Int) ty] } : Obj)) ∈ tl
structure RSt where
  vs : List Value
  k : Nat
  tups : List (Addr × Obj)
section
open PySem.Spec PySem.Calls PyProof.V
variable {prog : Program} {w : World} {A : Around} {E : Value → Shared → Prop} {s : Shared} {env : Env} {h₀ : Heap} {x : Str} {body : List Stmt} {Q : Flow → Shared → Prop}
/-- over a range; a list of new tuples grows -/
theorem loop_rows {r la : Addr} {a₀ b₀ : Int} {t₀ u₀ v₀ : Tok} {n : Nat} {news : List (Addr × Obj)} {m₀ : Str → Option Value} (P : Nat → RSt → Prop)
    (hh : A.handled = none) (hr : IsRange s.heap r a₀ b₀ 1 t₀ u₀ v₀) (hsmall : Builtin.Range.small a₀ b₀ 1 = true) (hn : Builtin.Range.rangeSize a₀ b₀ 1 = (n : Int)) (F : Fr h₀ env.locals s.heap m₀)
    (N : News h₀ env.locals s.heap ((la, listOf #[] 0) :: news)) (hln : ∀ p ∈ news, p.1 < la) (hp : P 0 ⟨[], 0, []⟩)
    (turn : ∀ (c : RSt) (i : Nat) t (u : Str → Option Value) h tk own, i < n → P i c → (∀ p ∈ c.tups, @LT.lt Nat _ la p.1) → (∀ p ∈ own, ∀ q ∈ (la, listOf c.vs.toArray c.k) :: (c.tups ++ news), p.1 ≠ q.1) →
      (∀ p ∈ c.tups ++ news ++ own, p.1 ≠ la) →
      Fr h₀ env.locals h (fun y => if y = x then some (.int (a₀ + (i : Int)) t) else kstB (fun z => if ([] : List Str).contains z then u z else m₀ z) [] y) → News h₀ env.locals h ((la, listOf c.vs.toArray c.k) :: (c.tups ++ news ++ own)) →
      wpAny (model prog w) A (execs body env) (Turn h₀ env.locals x (fun c : RSt => (la, listOf c.vs.toArray c.k) :: (c.tups ++ news)) (fun _ => []) [] m₀ (fun c => P (i + 1) c ∧ ∀ p ∈ c.tups, @LT.lt Nat _ la p.1) own { s with heap := h, toks := tk } Q) E { s with heap := h, toks := tk })
    (done : ∀ (c : RSt) (u : Str → Option Value) h tk, P n c → (∀ p ∈ c.tups, @LT.lt Nat _ la p.1) → Fr h₀ env.locals h (fun y => if y = x then u y else kstB (fun z => if ([] : List Str).contains z then u z else m₀ z) [] y) → News h₀ env.locals h ((la, listOf c.vs.toArray c.k) :: (c.tups ++ news)) → Q .next { s with heap := h, toks := tk }) :
    wpAny (model prog w) A (pyIter (.ref r)) (fun it s₂ => LoopAtV prog w A h₀ env x body Q E it s₂) E s := by
  refine loop_range (fun c : RSt => (la, listOf c.vs.toArray c.k) :: (c.tups ++ news)) (fun _ => []) [] (fun i c => P i c ∧ ∀ p ∈ c.tups, @LT.lt Nat _ la p.1) ⟨[], 0, []⟩ hh hr hsmall hn F N (fun p hp => nomatch hp) ⟨hp, fun p hp => nomatch hp⟩ ?_ ?_
  · rintro c i t u h tk own hi ⟨hP, ht⟩ hoff F1 N1
    refine turn c i t u h tk own hi hP ht hoff (fun p hp => ?_) F1 N1
    rcases List.mem_append.mp hp with hp | hp
    · rcases List.mem_append.mp hp with hp | hp
      · exact (Nat.ne_of_lt (ht p hp)).symm
      · exact Nat.ne_of_lt (hln p hp)
    · exact hoff p hp _ (.head _)
  · rintro c u h tk ⟨hP, ht⟩ F1 N1
    exact done c u h tk hP ht F1 N1
end
theorem RowsAt.snoc {tl : List (Addr × Obj)} {vs : List Value} {rows : List (Nat × Nat)} {T : Addr} {x0 : Int} {t0 tx ty : Tok} {p : Nat × Nat} (h : RowsAt tl vs rows) :
    RowsAt ((T, ({ cls := .type "tuple", data := .seq #[.int x0 t0, .int (p.1 : Int) tx, .int (p.2 : Int) ty] } : Obj)) :: tl) (vs ++ [.ref T]) (rows ++ [p]) := by
  refine ⟨by simp [h.1], fun i q hi => ?_⟩
  by_cases hlt : i < rows.length
  · rw [List.getElem?_append_left hlt] at hi
    obtain ⟨T', x0', t0', tx', ty', h1, h2⟩ := h.2 i q hi
    exact ⟨T', x0', t0', tx', ty', by rw [List.getElem?_append_left (by rw [h.1]; exact hlt)]; exact h1, .tail _ h2⟩
  · rw [List.getElem?_append_right (by omega)] at hi
    have e : i - rows.length = 0 := by
      have := (List.getElem?_eq_some_iff.mp hi).1
      simp at this
      omega
    rw [e] at hi
    simp at hi
    subst hi
    exact ⟨T, x0, t0, tx, ty, by rw [List.getElem?_append_right (by rw [h.1]; omega), h.1, e]; rfl, .head _⟩
theorem witness_spec (w : World) (news : List (Addr × Obj)) (v1 v2 : Value) (a9 b9 : WSt) (h1 : WhiteAt w news v1 a9) (h2 : WhiteAt w news v2 b9) (sa : SmallW a9) (sb : SmallW b9) :
    Gives w 80 2 [v1, v2] news (fun r tl => ∃ la vs k, r = .ref la ∧ (la, listOf vs.toArray k) ∈ tl ∧ RowsAt tl vs (rowsOf a9 b9)) := by
  have g1 := h1
  have g2 := h2
  obtain ⟨x1, dx1, nm1, ct1, raw1, vs1, tn1, tt1, tb1, k11, k12, k13, k14, k15, rfl, hm11, hm12, hm13, hm14, hI1⟩ := g1
  obtain ⟨x2, dx2, nm2, ct2, raw2, vs2, tn2, tt2, tb2, k21, k22, k23, k24, k25, rfl, hm21, hm22, hm23, hm24, hI2⟩ := g2
  have la1 : lng a9 ≤ 20 := by have := sa.1; have := sa.2.1; rw [lng]; omega
  have lb1 : lng b9 ≤ 20 := by have := sb.1; have := sb.2.1; rw [lng]; omega
  have hT : (topN a9 b9 : Int) = (if (lng b9 : Int) > (lng a9 : Int) then (lng b9 : Int) else (lng a9 : Int)) + 1 := by rw [topN]; split <;> omega
  have hT2 : topN a9 b9 ≤ 21 := by rw [topN]; omega
  w_top off
  unfold Gives
  w_top off
  k_fill
  intro mean mg mb dp un gd cn cs a ccd cl outer A₀ base h₀ L m s Q E B F X N T hk hd hu hret
  refine wpAny_call ?_
  k_dflt ktr_enter
  k_steps
  refine Hold.mk ?_
  (rename Fr _ _ _ _ => fF); (rename News _ _ _ _ => fN); (rename IsRange _ _ _ _ _ _ _ _ => rgX)
  (rename (∀ p ∈ news, p.1 < _) => hl0)
  rw [← hT] at rgX
  refine loop_rows (n := topN a9 b9) (fun i c => RowsAt c.tups c.vs (rowsTo a9 b9 i)) (by rfl) rgX (small_one (by omega) (by omega) (by omega) (by omega)) (by rw [rangeSize_nat]; omega) fF fN hl0 ⟨rfl, fun i p h => by simp [rowsTo] at h⟩ ?_ ?_
  · rintro ⟨vs, k, tups⟩ i ti u h tk own hi hP ht hoff hall F1 N1
    dsimp only at hP ht hoff hall N1
    have e3 : ((1 : Int) + (i : Int)).toNat = i + 1 := by omega
    have hvl := hP.1
    have hvl2 := rowsTo_len a9 b9 i
    have hla := ilv_le (ts := ((1 : Int) + (i : Int)).toNat) sa (by omega)
    have hlb := ilv_le (ts := ((1 : Int) + (i : Int)).toNat) sb (by omega)
    clear fF fN; dsimp only [kstB] at F1
    have hs0 : ∀ p ∈ news, p ∈ tups ++ news ++ own := fun p hp => List.mem_append.mpr (.inl (List.mem_append.mpr (.inr hp)))
    have h1' := white_in N1 h1 (fun p hp => .tail _ (hs0 p hp))
    have h2' := white_in N1 h2 (fun p hp => .tail _ (hs0 p hp))
    clear h1 h2
    k_steps
    · (rename News _ _ _ _ => nE); (rename (_ ∧ AllLt _ _) => l9); (rename ((ilv b9 _ : Nat) : Int) ≤ _ => hq)
      try simp only [List.push_toArray] at nE
      rw [e3] at hq nE
      have hD := ktn_ltOf l9.2
      have hq2 : ilv b9 (i + 1) ≤ ilv a9 (i + 1) := by omega
      refine Turn.next (RSt.mk _ _ (_ :: tups)) (by assumption) nE (fun p hp => .tail _ (.tail _ (List.mem_append.mpr (.inr hp)))) (List.forall_mem_cons.mpr ⟨.tail _ (.head _), List.forall_mem_cons.mpr ⟨.head _, fun p hp => .tail _ (.tail _ (List.mem_append.mpr (.inl hp)))⟩⟩) ?off (by kst_all) ?h5 ?h6
      case off =>
        intro p hp
        have h0 := hoff p hp _ (List.Mem.head _)
        refine List.forall_mem_cons.mpr ⟨h0, List.forall_mem_cons.mpr ⟨?_, fun q hq => hoff p hp q (.tail _ hq)⟩⟩
        exact Nat.ne_of_lt (hD p (List.mem_append.mpr (.inr hp)))
      case h5 => kst_same
      case h6 =>
        refine ⟨?_, List.forall_mem_cons.mpr ⟨l9.1, ht⟩⟩
        rw [rowsTo, if_pos hq2]
        exact hP.snoc (p := (ilv a9 (i + 1), ilv b9 (i + 1)))
    · (rename News _ _ _ _ => nE); (rename ¬ ((ilv b9 _ : Nat) : Int) ≤ _ => hq)
      rw [e3] at hq
      refine Turn.next (RSt.mk vs k tups) (by assumption) nE (fun p hp => .tail _ (List.mem_append.mpr (.inr hp))) (List.forall_mem_cons.mpr ⟨.head _, fun p hp => .tail _ (List.mem_append.mpr (.inl hp))⟩) hoff (by kst_all) ?h5 ?h6
      case h5 => kst_same
      case h6 =>
        refine ⟨?_, ht⟩
        rw [rowsTo, if_neg (by omega), List.append_nil]
        exact hP
  · rintro ⟨vs, k, tups⟩ u h tk hP ht F1 N1
    dsimp only at hP ht N1
    clear fF fN; dsimp only [kstB] at F1
    k_steps
    (rename News _ _ _ _ => nE)
    refine hret _ (_ :: tups) _ _ (by assumption) nE (List.forall_mem_cons.mpr ⟨hl0, fun p hp q hq => Nat.lt_trans (hl0 q hq) (ht p hp)⟩) ⟨_, vs, _, rfl, .head _, hP.1, fun i p hi => ?_⟩
    obtain ⟨T', x0', t0', tx', ty', h1, h2⟩ := hP.2 i p hi
    exact ⟨T', x0', t0', tx', ty', h1, .tail _ h2⟩
end Mine
end
section
open PySem PySem.W PyProof.Rows
set_option Elab.async false
set_option maxRecDepth 100000
set_option maxHeartbeats 8000000
set_option pp.maxSteps 20000
namespace Mine
local macro_rules | `(tactic| walk_at "pyIter ref") => `(tactic| (refine Hold.out ?_))
local macro_rules | `(tactic| walk_at "call builtin:str.replace") => `(tactic| (k_here; (refine SC.replaceW (by ((show @Ne Nat _ _); omega)) (by ((show @Ne Nat _ _); omega)) (by ((show @Ne Nat _ _); omega)) (by decide +kernel) (by omega) (by decide +kernel) ?_); intro t9 k9))
local macro_rules | `(tactic| k_mem) => `(tactic| first | assumption | (refine List.mem_cons_of_mem _ ?_; k_mem) | (refine List.mem_append.mpr (Or.inr ?_); k_mem) | (refine List.mem_append.mpr (Or.inl ?_); k_mem))
local macro_rules | `(tactic| walk_at "Turn") => `(tactic| ((first | refine Turn.ret ?_ | refine Turn.brk ?_); (try dsimp only); (try k_fold)))
local macro_rules | `(tactic| walk_at "pyIter str") => `(tactic| (refine Hold.out ?_))
local macro_rules | `(tactic| walk_at "exec For Name Name cons nil") => `(tactic| (k_here; (rename Fr _ _ _ _ => lF'); (with_unfolding_all refine' For_invVF lF' ?k1 ?k2 ?_; (case k1 => exact rfl); (case k2 => exact rfl); k_whole)))
local macro_rules | `(tactic| walk_at "exec For Name Attribute cons nil") => `(tactic| (k_here; (rename Fr _ _ _ _ => lF'); (with_unfolding_all refine' For_invVF lF' ?k1 ?k2 ?_; (case k1 => exact rfl); (case k2 => exact rfl); k_whole)))
local macro_rules | `(tactic| walk_at "exec For Name Subscript cons nil") => `(tactic| (k_here; (rename Fr _ _ _ _ => lF'); (with_unfolding_all refine' For_invVF lF' ?k1 ?k2 ?_; (case k1 => exact rfl); (case k2 => exact rfl); k_whole)))
local macro_rules | `(tactic| walk_at "exec For Name Call cons nil") => `(tactic| (k_here; (rename Fr _ _ _ _ => lF'); (with_unfolding_all refine' For_invVF lF' ?k1 ?k2 ?_; (case k1 => exact rfl); (case k2 => exact rfl); k_whole)))

theorem em_gen (w : World) (news : List (Addr × Obj)) (mid : List (List Nat)) (last : List Nat) (y : Str) (t u : Tok) (hf : ∀ z ∈ mid ++ [last], 46 ∉ z) (hx : (S (joinD ([] :: (mid ++ [last])))).length < 1000000) (hy : y.length < 1000000) (hm : mid.length < 999999) :
    Gives w 94 1 [.str (S (joinD ([] :: (mid ++ [last])))) t, .str y u] news (fun r' tl => tl = [] ∧ r' = .bool (emB y (mid.map S) (S last))) := by
  have hne : ∃ q r, mid ++ [last] = q :: r := by
    cases mid with
    | nil => exact ⟨last, [], rfl⟩
    | cons a b => exact ⟨a, b ++ [last], rfl⟩
  obtain ⟨q, r, e⟩ := hne
  refine em_spec w news _ y t u (mid.map S) (S last) hx hy (by simpa using hm) ?_ ?_
  · rw [e]
    exact dots_in (joinD (q :: r))
  · have h := split_join (p := []) (q := q) (r := r) (fun z hz => by
      rcases List.mem_cons.mp hz with rfl | hz
      · simp
      · exact hf z (e ▸ hz))
    rw [← e] at h
    rw [h]
    simp [S_empty]
theorem em_pat (w : World) (news : List (Addr × Obj)) (l y : List Nat) (t u : Tok) (hl : l.length < 2000) (hy : (S y).length < 2000) (hs : ∀ k ∈ l, k = 32 ∨ k = 9) :
    Gives w 94 1 [.str (S (patT l)) t, .str (S y) u] news (fun r' tl => tl = [] ∧ r' = .bool (l.isSublist y)) := by
  have hlen : (S (patT l)).length < 1000000 := by rw [S_len, patT_len]; omega
  rw [← em_pat_val l y]
  rw [pat_join] at hlen ⊢
  have h := em_gen w news (l.map fun c => [c]) [] (S y) t u (fun z hz => by
    rcases List.mem_append.mp hz with h | h
    · obtain ⟨c, hc, rfl⟩ := List.mem_map.mp h
      rcases hs c hc with rfl | rfl <;> simp
    · rw [List.mem_singleton.mp h]; simp) hlen (by omega) (by simp; omega)
  rw [List.map_map] at h
  exact h
/-- what _law_made hands back -/
def MadeAt (w : World) (led : List (Addr × Obj)) (v : Value) (c : List Nat) (b : Nat) : Prop :=
  ∃ T vl vw t1 t2 t3, v = .ref T ∧ (T, ({ cls := .type "tuple", data := .seq #[vl, vw, .str (S (worthT c b)) t1, .str (S (patT (worthT c b ++ [32]))) t2, .str (S (patT (worthT c b))) t3] } : Obj)) ∈ led ∧ LeadAt led vl c b ∧ WhiteAt w led vw (wsOf (textT c b))
theorem MadeAt.mono {w : World} {news news' : List (Addr × Obj)} {v : Value} {c : List Nat} {b : Nat} (h : MadeAt w news v c b) (hs : ∀ p ∈ news, p ∈ news') : MadeAt w news' v c b := by
  obtain ⟨T, vl, vw, t1, t2, t3, e, h1, h2, h3⟩ := h
  exact ⟨T, vl, vw, t1, t2, t3, e, hs _ h1, h2.mono hs, h3.mono hs⟩
theorem S_tail : Str.ofString "if x: \t" = S (105 :: [102, 32, 120, 58, 32, 9]) := by decide +kernel
end Mine
end
section
open PySem PySem.W PyProof.Rows
set_option Elab.async false
set_option maxRecDepth 100000
set_option maxHeartbeats 8000000
set_option pp.maxSteps 20000
namespace Mine
local macro_rules | `(tactic| walk_at "pyIter ref") => `(tactic| (refine Hold.out ?_))
local macro_rules | `(tactic| walk_at "call builtin:str.replace") => `(tactic| (k_here; (refine SC.replaceW (by ((show @Ne Nat _ _); omega)) (by ((show @Ne Nat _ _); omega)) (by ((show @Ne Nat _ _); omega)) (by decide +kernel) (by omega) (by decide +kernel) ?_); intro t9 k9))
local macro_rules | `(tactic| k_mem) => `(tactic| first | assumption | (refine List.mem_cons_of_mem _ ?_; k_mem) | (refine List.mem_append.mpr (Or.inr ?_); k_mem) | (refine List.mem_append.mpr (Or.inl ?_); k_mem))
local macro_rules | `(tactic| walk_at "Turn") => `(tactic| ((first | refine Turn.ret ?_ | refine Turn.brk ?_); (try dsimp only); (try k_fold)))
local macro_rules | `(tactic| walk_at "pyIter str") => `(tactic| (refine Hold.out ?_))
local macro_rules | `(tactic| walk_at "exec For Name Name cons nil") => `(tactic| (k_here; (rename Fr _ _ _ _ => lF'); (with_unfolding_all refine' For_invVF lF' ?k1 ?k2 ?_; (case k1 => exact rfl); (case k2 => exact rfl); k_whole)))
local macro_rules | `(tactic| walk_at "exec For Name Attribute cons nil") => `(tactic| (k_here; (rename Fr _ _ _ _ => lF'); (with_unfolding_all refine' For_invVF lF' ?k1 ?k2 ?_; (case k1 => exact rfl); (case k2 => exact rfl); k_whole)))
local macro_rules | `(tactic| walk_at "exec For Name Subscript cons nil") => `(tactic| (k_here; (rename Fr _ _ _ _ => lF'); (with_unfolding_all refine' For_invVF lF' ?k1 ?k2 ?_; (case k1 => exact rfl); (case k2 => exact rfl); k_whole)))
local macro_rules | `(tactic| walk_at "exec For Name Call cons nil") => `(tactic| (k_here; (rename Fr _ _ _ _ => lF'); (with_unfolding_all refine' For_invVF lF' ?k1 ?k2 ?_; (case k1 => exact rfl); (case k2 => exact rfl); k_whole)))
local macro_rules | `(tactic| walk_at "call ref") => `(tactic| (k_here; (with_reducible show wpAny _ _ (call (Value.ref _) _) _ _ _); (refine Hold.out ?_)))
local macro_rules | `(tactic| walk_at "call ref") => `(tactic| (k_here; (with_reducible show wpAny _ _ (call (Value.ref _) _) _ _ _); k_dflt (refine' Gives.useS (text_spec _ _ _ _ _ ?c1 ?c2) ?k1 ?k2 ?k3 ?k4 ?k5 ?kK ?kd ?ku ?_; (case k1 => k_asm); (case k2 => k_asm); (case k3 => k_asm); (case k4 => k_asm); (case k5 => k_asm); (case kK => exact rfl); (case kd => ktr_room); (case ku => ktr_units); (case c1 => assumption); (case c2 => assumption); k_whole); intro t9 h9 tk9 hle9 F9 N9; (try dsimp only at hle9); (try dsimp only); (try k_fold)))
local macro_rules | `(tactic| walk_at "call ref") => `(tactic| (k_here; (with_reducible show wpAny _ _ (call (Value.ref _) _) _ _ _); k_dflt (refine' Gives.useS (worth_spec _ _ _ _ _ ?c1 ?c2) ?k1 ?k2 ?k3 ?k4 ?k5 ?kK ?kd ?ku ?_; (case k1 => k_asm); (case k2 => k_asm); (case k3 => k_asm); (case k4 => k_asm); (case k5 => k_asm); (case kK => exact rfl); (case kd => ktr_room); (case ku => ktr_units); (case c1 => assumption); (case c2 => assumption); k_whole); intro t9 h9 tk9 hle9 F9 N9; (try dsimp only at hle9); (try dsimp only); (try k_fold)))
local macro_rules | `(tactic| walk_at "call ref") => `(tactic| (k_here; (with_reducible show wpAny _ _ (call (Value.ref _) _) _ _ _); k_dflt (refine' Gives.useS (pattern_spec _ _ _ _ ?c1) ?k1 ?k2 ?k3 ?k4 ?k5 ?kK ?kd ?ku ?_; (case k1 => k_asm); (case k2 => k_asm); (case k3 => k_asm); (case k4 => k_asm); (case k5 => k_asm); (case kK => exact rfl); (case kd => ktr_room); (case ku => ktr_units); (case c1 => first | assumption | omega); k_whole); intro t9 h9 tk9 hle9 F9 N9; (try dsimp only at hle9); (try dsimp only); (try k_fold)))

theorem pattern_more (w : World) (news : List (Addr × Obj)) (l : List Nat) (t : Tok) (hl : l.length < 1500) :
    Gives w 122 1 [.str (S l ++ Str.ofString " ") t] news (fun r tl => tl = [] ∧ ∃ t', r = .str (S (patT (l ++ [32]))) t') := by
  rw [S_blank, S_app]
  exact pattern_spec w news _ t (by simp; omega)
local macro_rules | `(tactic| walk_at "call ref") => `(tactic| (k_here; (with_reducible show wpAny _ _ (call (Value.ref _) _) _ _ _); k_dflt (refine' Gives.useS (pattern_more _ _ _ _ ?c1) ?k1 ?k2 ?k3 ?k4 ?k5 ?kK ?kd ?ku ?_; (case k1 => k_asm); (case k2 => k_asm); (case k3 => k_asm); (case k4 => k_asm); (case k5 => k_asm); (case kK => exact rfl); (case kd => ktr_room); (case ku => ktr_units); (case c1 => omega); k_whole); intro t9 h9 tk9 hle9 F9 N9; (try dsimp only at hle9); (try dsimp only); (try k_fold)))
theorem made_spec (w : World) (news : List (Addr × Obj)) (v : Value) (closed : List Nat) (behind : Nat) (hv : LeadAt news v closed behind) (hs : Small closed behind) :
    Gives w 143 4 [v] news (fun r tl => ∀ led, (∀ p ∈ tl, p ∈ led) → LeadAt led v closed behind → MadeAt w led r closed behind) := by
  have hlt := textT_len hs
  have hlw := worth_len hs
  have hlw2 : (worthT closed behind).length ≤ 1000 := by rw [S_len] at hlw; exact hlw
  w_top off
  unfold Gives
  w_top off
  k_fill
  intro mean mg mb dp un gd cn cs a ccd cl outer A₀ base h₀ L m s Q E B F X N T hk hd hu hret
  refine wpAny_call ?_
  k_dflt ktr_enter
  k_steps
  refine Hold.mk ?_
  rw [S_tail, S_app]
  k_dflt (refine' Gives.use (init_spec w _ (textT closed behind) 105 _ _ ?c1 ?c2 ?c3) ?k1 ?k2 ?k3 ?k4 ?k5 ?kK ?kd ?ku ?_)
  case k1 => k_asm
  case k2 => k_asm
  case k3 => k_asm
  case k4 => k_asm
  case k5 => k_asm
  case kK => exact rfl
  case kd => ktr_room
  case ku => ktr_units
  case c1 => rw [S_len] at hlt; simp only [List.length_append, List.length_cons, List.length_nil]; omega
  case c2 => exact text_signs _ _
  case c3 => decide
  intro r9 tl9 h9 tk9 hle9 F9 N9 ho9 hw9
  k_steps
  (rename News _ _ _ _ => nE); (rename (∀ p ∈ tl9 ++ news, p.1 < _) => l9)
  refine hret _ (_ :: tl9) _ _ (by assumption) nE (List.forall_mem_cons.mpr ⟨fun q hq => l9 q (List.mem_append.mpr (.inr hq)), ho9⟩) (fun led hs hL => ⟨_, v, r9, _, _, _, rfl, hs _ (.head _), hL, hw9.mono fun p hp => hs p (.tail _ hp)⟩)
end Mine
end
section
open PySem PySem.W PyProof.Rows
set_option Elab.async false
set_option maxRecDepth 100000
set_option maxHeartbeats 8000000
set_option pp.maxSteps 20000
namespace Mine
local macro_rules | `(tactic| walk_at "pyIter ref") => `(tactic| (refine Hold.out ?_))
local macro_rules | `(tactic| walk_at "call builtin:str.replace") => `(tactic| (k_here; (refine SC.replaceW (by ((show @Ne Nat _ _); omega)) (by ((show @Ne Nat _ _); omega)) (by ((show @Ne Nat _ _); omega)) (by decide +kernel) (by omega) (by decide +kernel) ?_); intro t9 k9))
local macro_rules | `(tactic| k_mem) => `(tactic| first | assumption | (refine List.mem_cons_of_mem _ ?_; k_mem) | (refine List.mem_append.mpr (Or.inr ?_); k_mem) | (refine List.mem_append.mpr (Or.inl ?_); k_mem))
local macro_rules | `(tactic| walk_at "Turn") => `(tactic| ((first | refine Turn.ret ?_ | refine Turn.brk ?_); (try dsimp only); (try k_fold)))
local macro_rules | `(tactic| walk_at "pyIter str") => `(tactic| (refine Hold.out ?_))
local macro_rules | `(tactic| walk_at "exec For Name Name cons nil") => `(tactic| (k_here; (rename Fr _ _ _ _ => lF'); (with_unfolding_all refine' For_invVF lF' ?k1 ?k2 ?_; (case k1 => exact rfl); (case k2 => exact rfl); k_whole)))
local macro_rules | `(tactic| walk_at "exec For Name Attribute cons nil") => `(tactic| (k_here; (rename Fr _ _ _ _ => lF'); (with_unfolding_all refine' For_invVF lF' ?k1 ?k2 ?_; (case k1 => exact rfl); (case k2 => exact rfl); k_whole)))
local macro_rules | `(tactic| walk_at "exec For Name Subscript cons nil") => `(tactic| (k_here; (rename Fr _ _ _ _ => lF'); (with_unfolding_all refine' For_invVF lF' ?k1 ?k2 ?_; (case k1 => exact rfl); (case k2 => exact rfl); k_whole)))
local macro_rules | `(tactic| walk_at "exec For Name Call cons nil") => `(tactic| (k_here; (rename Fr _ _ _ _ => lF'); (with_unfolding_all refine' For_invVF lF' ?k1 ?k2 ?_; (case k1 => exact rfl); (case k2 => exact rfl); k_whole)))
local macro_rules | `(tactic| walk_at "call ref") => `(tactic| (k_here; (with_reducible show wpAny _ _ (call (Value.ref _) _) _ _ _); (refine Hold.out ?_)))
local macro_rules | `(tactic| walk_at "call ref") => `(tactic| (k_here; (with_reducible show wpAny _ _ (call (Value.ref _) _) _ _ _); k_dflt (refine' Gives.useB (em_pat _ _ _ _ _ _ ?c1 ?c2 ?c3) ?k1 ?k2 ?k3 ?k4 ?k5 ?kK ?kd ?ku ?_; (case k1 => k_asm); (case k2 => k_asm); (case k3 => k_asm); (case k4 => k_asm); (case k5 => k_asm); (case kK => exact rfl); (case kd => ktr_room); (case ku => ktr_units); (case c1 => first | omega | (simp only [List.length_append, List.length_cons, List.length_nil]; omega)); (case c2 => omega); (case c3 => assumption); k_whole); intro h9 tk9 hle9 F9 N9; (try dsimp only at hle9); (try dsimp only); (try k_fold)))
local macro_rules | `(tactic| walk_at "call ref") => `(tactic| (k_here; (with_reducible show wpAny _ _ (call (Value.ref _) _) _ _ _); k_dflt (refine' Gives.useB (less_spec _ _ _ _ _ _ _ _ _ _ ?c1 ?c2 ?c3 ?c4 ?c5 ?c6) ?k1 ?k2 ?k3 ?k4 ?k5 ?kK ?kd ?ku ?_; (case k1 => k_asm); (case k2 => k_asm); (case k3 => k_asm); (case k4 => k_asm); (case k5 => k_asm); (case kK => exact rfl); (case kd => ktr_room); (case ku => ktr_units); (case c1 => assumption); (case c2 => assumption); (case c3 => assumption); (case c4 => assumption); (case c5 => assumption); (case c6 => assumption); k_whole); intro h9 tk9 hle9 F9 N9; (try dsimp only at hle9); (try dsimp only); (try k_fold)))
local macro_rules | `(tactic| walk_at "call ref") => `(tactic| (k_here; (with_reducible show wpAny _ _ (call (Value.ref _) _) _ _ _); k_dflt (refine' Gives.useB (both_spec _ _ _ _ _ _ _ _ ?c1 ?c2 ?c3 ?c4) ?k1 ?k2 ?k3 ?k4 ?k5 ?kK ?kd ?ku ?_; (case k1 => k_asm); (case k2 => k_asm); (case k3 => k_asm); (case k4 => k_asm); (case k5 => k_asm); (case kK => exact rfl); (case kd => ktr_room); (case ku => ktr_units); (case c1 => assumption); (case c2 => assumption); (case c3 => assumption); (case c4 => assumption); k_whole); intro h9 tk9 hle9 F9 N9; (try dsimp only at hle9); (try dsimp only); (try k_fold)))
theorem lead_in {h₀ h : Heap} {L : Addr} {news led : List (Addr × Obj)} {v : Value} {c : List Nat} {b : Nat} (_N : News h₀ L h led) (hw : LeadAt news v c b) (hs : ∀ p ∈ news, p ∈ led) : LeadAt led v c b := hw.mono hs
section
variable {prog : Program} {w : World} {A : Around} {s : Shared} {env : Env} {h₀ : Heap} {x : Str}
/-- a comprehension with a test, by an invariant -/
theorem comp_indT {L : Addr} {m : Str → Option Value} {ct elt : Expr} {scope : Scope} {cl : List (Str × Addr)} {S : List (Addr × Obj) → Prop} {P : Nat → Value → Prop} {Fin : List Value → List (Addr × Obj) → Prop} {news : List (Addr × Obj)} {n : Nat}
    (J : Nat → List Value → List (Addr × Obj) → Prop) (h0 : J 0 [] news)
    (turn : ∀ i ys news₁ v I oI C oC D m₂ h tk (E' : Value → Shared → Prop), i < n → J i ys news₁ → P i v → LCg.NsObj oC m₂ → m₂ x = some v → Fr h₀ L h m → News h₀ L h ((I, oI) :: (C, oC) :: (D, LCg.lst ys) :: news₁) → LCg.Off3 I C D news₁ → ((@Ne Nat I C) ∧ (@Ne Nat I D) ∧ (@Ne Nat C D)) →
      wpAny (model prog w) A (isTrue ct (compEnvC scope cl C env) (eval ct (compEnvC scope cl C env))) (fun ok s' => if ok = true then
        wpAny (model prog w) A (eval elt (compEnvC scope cl C env)) (LCg.CompEnd h₀ L m { s with heap := h, toks := tk } I oI C oC D (LCg.lst ys) S (fun y news' => J (i + 1) (ys ++ [y]) news')) E' s'
        else LCg.CompEnd h₀ L m { s with heap := h, toks := tk } I oI C oC D (LCg.lst ys) S (fun _ news' => J (i + 1) ys news') Value.none s') E' { s with heap := h, toks := tk })
    (fin : ∀ ys news₁, J n ys news₁ → Fin ys news₁) : LCt.CompRestT prog w A h₀ L m env ct elt x scope cl s S P Fin n 0 [] news := by
  have key : ∀ (j i : Nat) (ys : List Value) (nw : List (Addr × Obj)), i + j = n → J i ys nw → LCt.CompRestT prog w A h₀ L m env ct elt x scope cl s S P Fin j i ys nw := by
    intro j
    induction j with
    | zero =>
      intro i ys nw hi hJ
      have e : i = n := by omega
      subst e
      exact LCt.CompRestT.zero (fin ys nw hJ)
    | succ j ih =>
      intro i ys nw hi hJ
      refine LCt.CompRestT.succ ?_
      intro v I oI C oC D m₂ h tk E' hv hC hx F N off ne
      refine wpAny_mono (turn i ys nw v I oI C oC D m₂ h tk E' (by omega) hJ hv hC hx F N off ne) (fun ok s₂ hq => ?_) fun _ _ e => e
      cases ok with
      | true =>
        simp only [if_true] at hq ⊢
        refine wpAny_mono hq (fun y s₃ hq => ?_) fun _ _ e => e
        obtain ⟨h', tk', nw', e, F', N', off', hS, hJ'⟩ := hq
        exact ⟨h', tk', nw', e, F', N', off', hS, ih (i + 1) _ nw' (by omega) hJ'⟩
      | false =>
        simp only [Bool.false_eq_true, if_false] at hq ⊢
        obtain ⟨h', tk', nw', e, F', N', off', hS, hJ'⟩ := hq
        exact ⟨h', tk', nw', e, F', N', off', hS, ih (i + 1) _ nw' (by omega) hJ'⟩
  exact key n 0 [] news (by omega) h0
end
local macro_rules | `(tactic| walk_at "exec Assign cons ListComp") => `(tactic| (k_here; k_dflt (refine LCt.Assign_ListComp_T (F₀ := by k_asm) (by rfl) (by with_unfolding_all rfl) (by with_unfolding_all rfl) (by decide) (by rfl) (by decide) (by rfl) (by rfl) (by rfl) ?_)))
local macro_rules | `(tactic| walk_at "CompSrcT") => `(tactic| (refine Hold.out ?_))
local macro_rules | `(tactic| walk_at "CompEnd") => `(tactic| (refine Hold.out ?_))
local macro_rules | `(tactic| walk_at "call builtin:len") => `(tactic| (k_here; (with_reducible show wpAny _ _ (call (Value.builtin "len") [Value.ref _]) _ _ _); k_dflt (refine' len_listN ?k1 ?k2 ?k3 ?k4 ?_; (case k1 => k_asm); (case k2 => k_mem); (case k3 => assumption); (case k4 => omega)); intro t9 k9))
theorem smallW {closed : List Nat} {behind : Nat} (h : Small closed behind) : SmallW (wsOf (textT closed behind)) := by
  have hw := ws_text closed behind
  obtain ⟨h1, h2, h3⟩ := h
  refine ⟨hw.len 20 h2, by rw [hw.b]; exact h3, by rw [hw.nt]; exact h1, ?_, fun r => by rw [hw.cs]; exact Nat.le_trans List.count_le_length h1⟩
  have h4 := (wsOf_small (textT closed behind)).2.1
  have h5 := textT_len (closed := closed) (behind := behind) ⟨h1, h2, h3⟩
  rw [S_len] at h5
  omega
theorem pair_spec (w : World) (news : List (Addr × Obj)) (v1 v2 : Value) (c1 c2 : List Nat) (b1 b2 : Nat) (h1 : MadeAt w news v1 c1 b1) (h2 : MadeAt w news v2 c2 b2) (s1 : Small c1 b1) (s2 : Small c2 b2) (so : c2.Pairwise (· ≤ ·)) :
    Gives w 148 4 [v1, v2] news (fun r tl => tl = [] ∧ r = .bool true) := by
  have wi1 := ws_text c1 b1
  have wi2 := ws_text c2 b2
  have sw1 := smallW s1
  have sw2 := smallW s2
  have hmore := fun h => law_more (a := wsOf (textT c1 b1)) (b := wsOf (textT c2 b2)) wi1 wi2 h
  have hsome := fun h => law_some (a := wsOf (textT c1 b1)) (b := wsOf (textT c2 b2)) wi1 wi2 h
  have hboth := fun h => law_both (a := wsOf (textT c1 b1)) (b := wsOf (textT c2 b2)) wi1 wi2 so h
  have hlw1 : (worthT c1 b1).length ≤ 1000 := by have := worth_len s1; rw [S_len] at this; exact this
  have hlw2 := worth_len s2
  have sg1 := worth_signs c1 b1
  have sg1b : ∀ k ∈ worthT c1 b1 ++ [32], k = 32 ∨ k = 9 := fun k hk => (List.mem_append.mp hk).elim (sg1 k) fun h => .inl (List.mem_singleton.mp h)
  obtain ⟨T1, vl1, vw1, t11, t12, t13, rfl, hm1, hL1, hW1⟩ := h1
  obtain ⟨T2, vl2, vw2, t21, t22, t23, rfl, hm2, hL2, hW2⟩ := h2
  have gW1 := hW1
  have gW2 := hW2
  obtain ⟨x1, dx1, nm1, ct1, raw1, vs1, tn1, tt1, tb1, k11, k12, k13, k14, k15, rfl, hm11, hm12, hm13, hm14, hI1⟩ := gW1
  obtain ⟨x2, dx2, nm2, ct2, raw2, vs2, tn2, tt2, tb2, k21, k22, k23, k24, k25, rfl, hm21, hm22, hm23, hm24, hI2⟩ := gW2
  generalize hmo : (worthT c1 b1 ++ [32]).isSublist (worthT c2 b2) = mo at hmore hboth
  generalize hso : (worthT c1 b1).isSublist (worthT c2 b2) = som at hsome hboth
  w_top off
  unfold Gives
  w_top off
  k_fill
  intro mean mg mb dp un gd cn cs a ccd cl outer A₀ base h₀ L m s Q E B F X N T hk hd hu hret
  refine wpAny_call ?_
  k_dflt ktr_enter
  k_steps
  refine Hold.mk ?_
  k_dflt (refine' Gives.use (witness_spec w _ _ _ _ _ hW1 hW2 sw1 sw2) ?k1 ?k2 ?k3 ?k4 ?k5 ?kK ?kd ?ku ?_)
  case k1 => k_asm
  case k2 => k_asm
  case k3 => k_asm
  case k4 => k_asm
  case k5 => k_asm
  case kK => exact rfl
  case kd => ktr_room
  case ku => ktr_units
  intro r9 tl9 h9 tk9 hle9 F9 N9 ho9 hw9
  obtain ⟨la, vs, kk, e9, hml, hrows⟩ := hw9
  subst e9
  have hvl := hrows.1
  have hrl : (rowsOf (wsOf (textT c1 b1)) (wsOf (textT c2 b2))).length ≤ 30 := by
    refine Nat.le_trans (rowsTo_len _ _ _) ?_
    obtain ⟨a1, a2, _⟩ := sw1
    obtain ⟨a3, a4, _⟩ := sw2
    rw [topN, lng, lng]
    omega
  have hRlt := rows_lt (wsOf (textT c1 b1)) (wsOf (textT c2 b2))
  have hRle := rows_le (wsOf (textT c1 b1)) (wsOf (textT c2 b2))
  generalize hlt9 : ltAll (wsOf (textT c1 b1)) (wsOf (textT c2 b2)) = lt9 at *
  generalize hle9b : leAll (wsOf (textT c1 b1)) (wsOf (textT c2 b2)) = le9 at *
  generalize hR9 : rowsOf (wsOf (textT c1 b1)) (wsOf (textT c2 b2)) = rows9 at *
  have hmlA : (la, listOf vs.toArray kk) ∈ tl9 ++ news := List.mem_append.mpr (.inl hml)
  have eR : decide (rows9.length = 0) = ((rows9.length : Int) == 0) := by
    rw [Bool.eq_iff_iff]
    simp
  k_steps
  · (rename (lt9 != _) = true => hq)
    rw [← hRlt, eR] at hq
    exact (by simp at hq : False).elim
  · refine Hold.mk ?_
    (rename Fr _ _ _ _ => fF); (rename News _ _ _ _ => fN)
    refine LCt.CompSrcT.ledger (by rfl) fF fN hmlA (by rw [List.size_toArray, sizeLine_eq]; omega) (fun g => ?_)
    rw [List.size_toArray]
    refine comp_indT (fun i ys nw => nw = tl9 ++ news ∧ ys.length = ((rows9.take i).filter fun p => decide (p.1 ≠ p.2)).length) ⟨rfl, rfl⟩ ?_ ?_
    · rintro i ys nw v I oI C oC D m2 h tk E' hi ⟨rfl, hY⟩ hv hC hx F1 N1 hoff hne
      have hv' : vs[i]? = some v := by simpa using hv
      obtain ⟨p, hp⟩ : ∃ p, rows9[i]? = some p := ⟨_, List.getElem?_eq_getElem (by omega)⟩
      obtain ⟨T, x0, t0, tx, ty, hT1, hT2⟩ := hrows.2 i p hp
      have e := Option.some.inj (hv'.symm.trans hT1)
      subst e
      clear fF fN hmore hsome hboth
      k_steps
      · refine Hold.mk ?_
        (rename ((p.1 : Nat) : Int) ≠ _ => hq)
        refine LCg.CompEnd.intro (by assumption) (by assumption) (tl9 ++ news) (fun _ hz => hz) hoff (.inr ⟨_, hmlA, rfl, _, rfl⟩) ⟨rfl, ?_⟩
        rw [List.take_add_one, hp, List.filter_append, List.length_append, List.length_append, hY, Option.toList_some, List.filter_cons_of_pos (by simp; omega)]
        rfl
      · refine Hold.mk ?_
        (rename ((p.1 : Nat) : Int) = _ => hq)
        refine LCg.CompEnd.intro (by assumption) (by assumption) (tl9 ++ news) (fun _ hz => hz) hoff (.inr ⟨_, hmlA, rfl, _, rfl⟩) ⟨rfl, ?_⟩
        rw [List.take_add_one, hp, List.filter_append, List.length_append, hY, Option.toList_some, List.filter_cons_of_neg (by simp; omega)]
        rfl
    · rintro ys nw ⟨rfl, hY⟩
      intro D h tk F1 N1 hD
      rw [hvl, List.take_length] at hY
      have hL1' := lead_in N1 hL1 (fun p hp => .tail _ (List.mem_append.mpr (.inr hp)))
      have hL2' := lead_in N1 hL2 (fun p hp => .tail _ (List.mem_append.mpr (.inr hp)))
      clear fF fN hL1 hL2
      have hyl : ys.length ≤ 30 := by rw [hY]; exact Nat.le_trans (List.length_filter_le _ _) hrl
      have eL : (((List.filter (fun p => decide (p.fst ≠ p.snd)) rows9).length : Int) == 0) = le9 := by
        rw [← hRle, Bool.eq_iff_iff]
        simp
      k_steps
      · refine' hret _ [] _ _ ?e1 ?e2 (fun _ h => nomatch h) ⟨rfl, congrArg Value.bool ?e3⟩
        case e1 => assumption
        case e2 => exact cb_drop (by assumption) (by intro p hp; simp only [List.nil_append] at hp; simp [hp])
        case e3 => (rename bothB c1 c2 = true => q); rw [eL, hso, (hboth q).2]; exact beq_self_eq_true _
      · refine' hret _ [] _ _ ?e1 ?e2 (fun _ h => nomatch h) ⟨rfl, congrArg Value.bool ?e3⟩
        case e1 => assumption
        case e2 => exact cb_drop (by assumption) (by intro p hp; simp only [List.nil_append] at hp; simp [hp])
        case e3 => (rename bothB c1 c2 = true => q); rw [hmo, (hboth q).1]; exact beq_self_eq_true _
      · refine' hret _ [] _ _ ?e1 ?e2 (fun _ h => nomatch h) ⟨rfl, congrArg Value.bool ?e3⟩
        case e1 => assumption
        case e2 => exact cb_drop (by assumption) (by intro p hp; simp only [List.nil_append] at hp; simp [hp])
        case e3 => (rename ((List.length (List.filter _ rows9) : Nat) : Int) = 0 => q); rw [q]; rfl
      · refine' hret _ [] _ _ ?e1 ?e2 (fun _ h => nomatch h) ⟨rfl, congrArg Value.bool ?e3⟩
        case e1 => assumption
        case e2 => exact cb_drop (by assumption) (by intro p hp; simp only [List.nil_append] at hp; simp [hp])
        case e3 => 
          (rename ((List.length (List.filter _ rows9) : Nat) : Int) ≠ 0 => q)
          have q2 : le9 = false := by rw [← hRle]; exact decide_eq_false (by omega)
          have q3 : som = false := by
            rw [← Bool.not_eq_true]
            intro h
            rw [hsome h] at q2
            cases q2
          rw [hso, q3]; rfl
      · refine' hret _ [] _ _ ?e1 ?e2 (fun _ h => nomatch h) ⟨rfl, congrArg Value.bool ?e3⟩
        case e1 => assumption
        case e2 => exact cb_drop (by assumption) (by intro p hp; simp only [List.nil_append] at hp; simp [hp])
        case e3 => (rename lt9 = false => q); (rename List.isSublist (worthT c1 b1 ++ [32]) _ = true => q1); rw [hmo] at q1; rw [hmore q1] at q; cases q
      · refine' hret _ [] _ _ ?e1 ?e2 (fun _ h => nomatch h) ⟨rfl, congrArg Value.bool ?e3⟩
        case e1 => assumption
        case e2 => exact cb_drop (by assumption) (by intro p hp; simp only [List.nil_append] at hp; simp [hp])
        case e3 => (rename ((List.length (List.filter _ rows9) : Nat) : Int) = 0 => q); rw [q]; rfl
      · refine' hret _ [] _ _ ?e1 ?e2 (fun _ h => nomatch h) ⟨rfl, congrArg Value.bool ?e3⟩
        case e1 => assumption
        case e2 => exact cb_drop (by assumption) (by intro p hp; simp only [List.nil_append] at hp; simp [hp])
        case e3 => 
          (rename ((List.length (List.filter _ rows9) : Nat) : Int) ≠ 0 => q)
          have q2 : le9 = false := by rw [← hRle]; exact decide_eq_false (by omega)
          have q3 : som = false := by
            rw [← Bool.not_eq_true]
            intro h
            rw [hsome h] at q2
            cases q2
          rw [hso, q3]; rfl
end Mine
end
section
open PySem PySem.W PyProof.Rows
set_option Elab.async false
set_option maxRecDepth 100000
set_option maxHeartbeats 8000000
set_option pp.maxSteps 20000
namespace Mine
local macro_rules | `(tactic| walk_at "pyIter ref") => `(tactic| (refine Hold.out ?_))
local macro_rules | `(tactic| walk_at "call builtin:str.replace") => `(tactic| (k_here; (refine SC.replaceW (by ((show @Ne Nat _ _); omega)) (by ((show @Ne Nat _ _); omega)) (by ((show @Ne Nat _ _); omega)) (by decide +kernel) (by omega) (by decide +kernel) ?_); intro t9 k9))
local macro_rules | `(tactic| k_mem) => `(tactic| first | assumption | (refine List.mem_cons_of_mem _ ?_; k_mem) | (refine List.mem_append.mpr (Or.inr ?_); k_mem) | (refine List.mem_append.mpr (Or.inl ?_); k_mem))
local macro_rules | `(tactic| walk_at "Turn") => `(tactic| ((first | refine Turn.ret ?_ | refine Turn.brk ?_); (try dsimp only); (try k_fold)))
local macro_rules | `(tactic| walk_at "pyIter str") => `(tactic| (refine Hold.out ?_))
local macro_rules | `(tactic| walk_at "exec For Name Name cons nil") => `(tactic| (k_here; (rename Fr _ _ _ _ => lF'); (with_unfolding_all refine' For_invVF lF' ?k1 ?k2 ?_; (case k1 => exact rfl); (case k2 => exact rfl); k_whole)))
local macro_rules | `(tactic| walk_at "exec For Name Attribute cons nil") => `(tactic| (k_here; (rename Fr _ _ _ _ => lF'); (with_unfolding_all refine' For_invVF lF' ?k1 ?k2 ?_; (case k1 => exact rfl); (case k2 => exact rfl); k_whole)))
local macro_rules | `(tactic| walk_at "exec For Name Subscript cons nil") => `(tactic| (k_here; (rename Fr _ _ _ _ => lF'); (with_unfolding_all refine' For_invVF lF' ?k1 ?k2 ?_; (case k1 => exact rfl); (case k2 => exact rfl); k_whole)))
local macro_rules | `(tactic| walk_at "exec For Name Call cons nil") => `(tactic| (k_here; (rename Fr _ _ _ _ => lF'); (with_unfolding_all refine' For_invVF lF' ?k1 ?k2 ?_; (case k1 => exact rfl); (case k2 => exact rfl); k_whole)))
local macro_rules | `(tactic| walk_at "call ref") => `(tactic| (k_here; (with_reducible show wpAny _ _ (call (Value.ref _) _) _ _ _); (refine Hold.out ?_)))
local macro_rules | `(tactic| walk_at "exec Assign cons ListComp") => `(tactic| (k_here; k_dflt (refine LCg.Assign_ListComp_U (F₀ := by k_asm) (by rfl) (by with_unfolding_all rfl) (by with_unfolding_all rfl) (by decide) (by rfl) (by decide) (by rfl) (by rfl) (by rfl) ?_)))
local macro_rules | `(tactic| walk_at "CompSrc") => `(tactic| (refine Hold.out ?_))
local macro_rules | `(tactic| walk_at "CompEnd") => `(tactic| (refine Hold.out ?_))
local macro_rules | `(tactic| walk_at "call ref") => `(tactic| (k_here; (with_reducible show wpAny _ _ (call (Value.ref _) _) _ _ _); k_dflt (refine' Gives.useB (pair_spec _ _ _ _ _ _ _ _ ?c1 ?c2 ?c3 ?c4 ?c5) ?k1 ?k2 ?k3 ?k4 ?k5 ?kK ?kd ?ku ?_; (case k1 => k_asm); (case k2 => k_asm); (case k3 => k_asm); (case k4 => k_asm); (case k5 => k_asm); (case kK => exact rfl); (case kd => ktr_room); (case ku => ktr_units); (case c1 => assumption); (case c2 => assumption); (case c3 => assumption); (case c4 => assumption); (case c5 => assumption); k_whole); intro h9 tk9 hle9 F9 N9; (try dsimp only at hle9); (try dsimp only); (try k_fold)))

/-- the leads as the program holds them -/
def LeadsAt (news : List (Addr × Obj)) (vs : List Value) (ls : List (List Nat × Nat)) : Prop :=
  vs.length = ls.length ∧ ∀ (i : Nat) (l : List Nat × Nat), ls[i]? = some l → ∃ v, vs[i]? = some v ∧ LeadAt news v l.1 l.2
def MadesAt (w : World) (news : List (Addr × Obj)) (vs : List Value) (ls : List (List Nat × Nat)) : Prop :=
  vs.length = ls.length ∧ ∀ (i : Nat) (l : List Nat × Nat), ls[i]? = some l → ∃ v, vs[i]? = some v ∧ MadeAt w news v l.1 l.2
theorem MadesAt.snoc {w : World} {news news' : List (Addr × Obj)} {vs : List Value} {ls : List (List Nat × Nat)} {v : Value} {l : List Nat × Nat} (h : MadesAt w news vs ls) (hs : ∀ p ∈ news, p ∈ news') (hv : MadeAt w news' v l.1 l.2) : MadesAt w news' (vs ++ [v]) (ls ++ [l]) := by
  refine ⟨by simp [h.1], fun i k hi => ?_⟩
  by_cases hlt : i < ls.length
  · rw [List.getElem?_append_left hlt] at hi
    obtain ⟨u, h1, h2⟩ := h.2 i k hi
    exact ⟨u, by rw [List.getElem?_append_left (by rw [h.1]; exact hlt)]; exact h1, h2.mono hs⟩
  · rw [List.getElem?_append_right (by omega)] at hi
    have e : i - ls.length = 0 := by
      have := (List.getElem?_eq_some_iff.mp hi).1
      simp at this
      omega
    rw [e] at hi
    simp at hi
    subst hi
    exact ⟨v, by rw [List.getElem?_append_right (by rw [h.1]; omega), h.1, e]; rfl, hv⟩
theorem made_in {w : World} {h₀ h : Heap} {L : Addr} {news led : List (Addr × Obj)} {v : Value} {c : List Nat} {b : Nat} (_N : News h₀ L h led) (hw : MadeAt w news v c b) (hs : ∀ p ∈ news, p ∈ led) : MadeAt w led v c b := hw.mono hs
theorem holds_spec (w : World) (news : List (Addr × Obj)) (la : Addr) (vs : List Value) (nn : Nat) (ls : List (List Nat × Nat)) (hm : (la, listOf vs.toArray nn) ∈ news) (hl : LeadsAt news vs ls) (hs : ∀ l ∈ ls, Small l.1 l.2) (ho : ∀ l ∈ ls, l.1.Pairwise (· ≤ ·)) (hlen : ls.length ≤ 20) :
    Gives w 153 6 [.ref la] news (fun r tl => tl = [] ∧ r = .bool true) := by
  w_top off
  unfold Gives
  w_top off
  k_fill
  intro mean mg mb dp un gd cn cs a ccd cl outer A₀ base h₀ L m s Q E B F X N T hk hd hu hret
  refine wpAny_call ?_
  k_dflt ktr_enter
  k_steps
  refine Hold.mk ?_
  (rename Fr _ _ _ _ => fF); (rename News _ _ _ _ => fN)
  have hvl := hl.1
  refine LCg.CompSrc.ledger (by rfl) fF fN hm (by rw [List.size_toArray, sizeLine_eq]; omega) (fun g => ?_)
  rw [List.size_toArray]
  refine comp_ind (fun i ys nw => (∃ tl, nw = tl ++ news) ∧ MadesAt w nw ys (ls.take i)) ⟨⟨[], rfl⟩, rfl, fun i l h => by simp at h⟩ ?_ ?_
  · rintro i ys nw v I oI C oC D m2 h tk E' hi ⟨⟨tl, rfl⟩, hW⟩ hv hC hx F1 N1 hoff hne
    have hv' : vs[i]? = some v := by simpa using hv
    obtain ⟨l, hl1⟩ : ∃ l, ls[i]? = some l := ⟨_, List.getElem?_eq_getElem (by omega)⟩
    obtain ⟨v', hv1, hLead0⟩ := hl.2 i l hl1
    have e := Option.some.inj (hv'.symm.trans hv1)
    subst e
    have hSm := hs l (List.mem_of_getElem? hl1)
    have hLead : LeadAt ((I, oI) :: (C, oC) :: (D, LCg.lst ys) :: (tl ++ news)) v l.1 l.2 := hLead0.mono (fun p hp => by simp [hp])
    clear fF fN
    k_steps
    refine Hold.mk ?_
    k_dflt (refine' Gives.use (made_spec w _ _ _ _ hLead hSm) ?k1 ?k2 ?k3 ?k4 ?k5 ?kK ?kd ?ku ?_)
    case k1 => k_asm
    case k2 => k_asm
    case k3 => k_asm
    case k4 => k_asm
    case k5 => k_asm
    case kK => exact rfl
    case kd => ktr_room
    case ku => ktr_units
    intro r9 tl9 h9 tk9 hle9 F9 N9 ho9 hw9
    k_steps
    refine Hold.mk ?_
    refine LCg.CompEnd.intro F9 N9 (tl9 ++ (tl ++ news)) ?sub ?off ?hS ?r
    case sub => intro p hp; simp only [List.mem_cons, List.mem_append] at hp ⊢; grind
    case off =>
      refine LCg.Off3.of fun p hp => ?_
      rcases List.mem_append.mp hp with h | h
      · exact ⟨(Nat.ne_of_lt (ho9 p h _ (.head _))).symm, (Nat.ne_of_lt (ho9 p h _ (.tail _ (.head _)))).symm, (Nat.ne_of_lt (ho9 p h _ (.tail _ (.tail _ (.head _))))).symm⟩
      · exact hoff.mem p h
    case hS => exact .inr ⟨_, List.mem_append.mpr (.inr (List.mem_append.mpr (.inr hm))), rfl, _, rfl⟩
    case r =>
      refine ⟨⟨tl9 ++ tl, by simp⟩, ?_⟩
      rw [List.take_add_one, hl1]
      exact hW.snoc (fun p hp => List.mem_append.mpr (.inr hp)) (hw9 _ (fun p hp => List.mem_append.mpr (.inl hp)) (hLead0.mono fun p hp => List.mem_append.mpr (.inr (List.mem_append.mpr (.inr hp)))))
  · rintro ys nw ⟨⟨tl, rfl⟩, hW⟩
    intro D h tk F1 N1 hD
    rw [hvl, List.take_length] at hW
    have hyl := hW.1
    clear fF fN
    k_steps
    refine Hold.mk ?_
    (rename Fr _ _ _ _ => fF); (rename News _ _ _ _ => fN)
    refine' loop_listC (σ := Unit) (vs := ys) (fun _ => []) [Str.ofString "second"] (fun _ _ => True) () (by rfl) (.head _) fF fN ?k1 trivial ?_ ?_
    case k1 => kst_all
    · rintro ⟨⟩ i v1 u2 h tk own hv1 hP hoff F1 N1
      clear fF fN; dsimp only [kstB] at F1
      have hi : i < ls.length := by rw [← hyl]; exact (List.getElem?_eq_some_iff.mp hv1).1
      obtain ⟨l1, hl1⟩ : ∃ l, ls[i]? = some l := ⟨_, List.getElem?_eq_getElem hi⟩
      obtain ⟨v1', hq1, hM1⟩ := hW.2 i l1 hl1
      have e := Option.some.inj (hv1.symm.trans hq1)
      subst e
      have hSm1 := hs l1 (List.mem_of_getElem? hl1)
      k_steps
      refine Hold.mk ?_
      (rename Fr _ _ _ _ => fF); (rename News _ _ _ _ => fN)
      refine' loop_listC (σ := Unit) (vs := ys) (fun _ => []) [] (fun _ _ => True) () (by rfl) (.head _) fF fN ?k1 trivial ?_ ?_
      case k1 => kst_all
      · rintro ⟨⟩ j v2 u3 h tk own2 hv2 hP hoff2 F1 N1
        clear fF fN; dsimp only [kstB] at F1
        have hj : j < ls.length := by rw [← hyl]; exact (List.getElem?_eq_some_iff.mp hv2).1
        obtain ⟨l2, hl2⟩ : ∃ l, ls[j]? = some l := ⟨_, List.getElem?_eq_getElem hj⟩
        obtain ⟨v2', hq2, hM2⟩ := hW.2 j l2 hl2
        have e := Option.some.inj (hv2.symm.trans hq2)
        subst e
        have hSm2 := hs l2 (List.mem_of_getElem? hl2)
        have hSo2 := ho l2 (List.mem_of_getElem? hl2)
        have hA1 := made_in N1 hM1 (fun p hp => List.mem_append.mpr (.inl (List.mem_append.mpr (.inl (.tail _ hp)))))
        have hA2 := made_in N1 hM2 (fun p hp => List.mem_append.mpr (.inl (List.mem_append.mpr (.inl (.tail _ hp)))))
        clear hM1 hM2
        k_steps
        refine' Turn.next () (by assumption) (by assumption) (fun p hp => List.mem_append.mpr (.inr hp)) (fun p hp => List.mem_append.mpr (.inl hp)) hoff2 ?k1 ?k2 trivial
        case k1 => kst_all
        case k2 => kst_same
      · rintro ⟨⟩ u3 h tk hP F1 N1
        clear fF fN; dsimp only [kstB] at F1
        k_steps
        refine' Turn.next () (by assumption) (by assumption) (fun p hp => List.mem_append.mpr (.inr hp)) (fun p hp => List.mem_append.mpr (.inl hp)) hoff ?k1 ?k2 trivial
        case k1 => kst_all
        case k2 => kst_same
    · rintro ⟨⟩ u2 h tk hP F1 N1
      clear fF fN; dsimp only [kstB] at F1
      k_steps
      refine' hret _ [] _ _ ?e1 ?e2 (fun _ h => nomatch h) ⟨rfl, rfl⟩
      case e1 => assumption
      case e2 => exact cb_drop (by assumption) (by intro p hp; simp only [List.nil_append] at hp; simp [hp])
end Mine
end
section
open PySem PySem.W PyProof.Rows
set_option Elab.async false
set_option maxRecDepth 100000
set_option maxHeartbeats 8000000
set_option pp.maxSteps 20000
namespace Mine
local macro_rules | `(tactic| walk_at "pyIter ref") => `(tactic| (refine Hold.out ?_))
local macro_rules | `(tactic| walk_at "call builtin:str.replace") => `(tactic| (k_here; (refine SC.replaceW (by ((show @Ne Nat _ _); omega)) (by ((show @Ne Nat _ _); omega)) (by ((show @Ne Nat _ _); omega)) (by decide +kernel) (by omega) (by decide +kernel) ?_); intro t9 k9))
local macro_rules | `(tactic| k_mem) => `(tactic| first | assumption | (refine List.mem_cons_of_mem _ ?_; k_mem) | (refine List.mem_append.mpr (Or.inr ?_); k_mem) | (refine List.mem_append.mpr (Or.inl ?_); k_mem))
local macro_rules | `(tactic| walk_at "Turn") => `(tactic| ((first | refine Turn.ret ?_ | refine Turn.brk ?_); (try dsimp only); (try k_fold)))
local macro_rules | `(tactic| walk_at "pyIter str") => `(tactic| (refine Hold.out ?_))
local macro_rules | `(tactic| walk_at "exec For Name Name cons nil") => `(tactic| (k_here; (rename Fr _ _ _ _ => lF'); (with_unfolding_all refine' For_invVF lF' ?k1 ?k2 ?_; (case k1 => exact rfl); (case k2 => exact rfl); k_whole)))
local macro_rules | `(tactic| walk_at "exec For Name Attribute cons nil") => `(tactic| (k_here; (rename Fr _ _ _ _ => lF'); (with_unfolding_all refine' For_invVF lF' ?k1 ?k2 ?_; (case k1 => exact rfl); (case k2 => exact rfl); k_whole)))
local macro_rules | `(tactic| walk_at "exec For Name Subscript cons nil") => `(tactic| (k_here; (rename Fr _ _ _ _ => lF'); (with_unfolding_all refine' For_invVF lF' ?k1 ?k2 ?_; (case k1 => exact rfl); (case k2 => exact rfl); k_whole)))
local macro_rules | `(tactic| walk_at "exec For Name Call cons nil") => `(tactic| (k_here; (rename Fr _ _ _ _ => lF'); (with_unfolding_all refine' For_invVF lF' ?k1 ?k2 ?_; (case k1 => exact rfl); (case k2 => exact rfl); k_whole)))
local macro_rules | `(tactic| k_all) => `(tactic| assumption)
/-- what _law_leads hands back -/
def LeadsMade (tl : List (Addr × Obj)) (r : Value) : Prop :=
  ∃ la vs nn ls, r = .ref la ∧ (la, listOf vs.toArray nn) ∈ tl ∧ LeadsAt tl vs ls ∧ (∀ l ∈ ls, Small l.1 l.2) ∧ (∀ l ∈ ls, l.1.Pairwise (· ≤ ·)) ∧ ls.length ≤ 20
theorem int_at {vs : List Value} {ns : List Int} (h : IntsAre vs ns) {i : Nat} {v : Value} (hv : vs[i]? = some v) : ∃ r t, ns[i]? = some r ∧ v = .int r t := by
  have hl : vs.length = ns.length := h.length
  have hi : i < ns.length := by rw [← hl]; exact (List.getElem?_eq_some_iff.mp hv).1
  obtain ⟨t, ht⟩ := h.get i ns[i] (by simp [hi])
  rw [hv] at ht
  exact ⟨ns[i], t, by simp [hi], Option.some.inj ht⟩
section
open PySem.Spec PySem.Calls PyProof.V
variable {prog : Program} {w : World} {A : Around} {E : Value → Shared → Prop} {s : Shared} {env : Env} {h₀ : Heap} {x : Str} {body : List Stmt} {Q : Flow → Shared → Prop}
/-- over a list; another list of new objects grows -/
theorem loop_leads {l la : Addr} {vs cs₀ : List Value} {nn n₀ : Nat} {t₀ news : List (Addr × Obj)} {m₀ : Str → Option Value} (st : List Str) (P : Nat → RSt → Prop)
    (hh : A.handled = none) (F : Fr h₀ env.locals s.heap m₀) (N : News h₀ env.locals s.heap ((l, listOf vs.toArray nn) :: (la, listOf cs₀.toArray n₀) :: (t₀ ++ news))) (hln : ∀ p ∈ news, p.1 ≠ la) (ht₀ : ∀ p ∈ t₀, p.1 ≠ la) (hp : P 0 ⟨cs₀, n₀, t₀⟩)
    (turn : ∀ (c : RSt) i v (u : Str → Option Value) h tk own, vs[i]? = some v → P i c → (∀ p ∈ c.tups, p.1 ≠ la) → (∀ p ∈ own, ∀ q ∈ (l, listOf vs.toArray nn) :: (la, listOf c.vs.toArray c.k) :: (c.tups ++ news), p.1 ≠ q.1) →
      (∀ p ∈ c.tups ++ news ++ own, p.1 ≠ la) →
      Fr h₀ env.locals h (fun y => if y = x then some v else kstB (fun z => if st.contains z then u z else m₀ z) [] y) → News h₀ env.locals h ((l, listOf vs.toArray nn) :: (la, listOf c.vs.toArray c.k) :: (c.tups ++ news ++ own)) →
      wpAny (model prog w) A (execs body env) (Turn h₀ env.locals x (fun c : RSt => (l, listOf vs.toArray nn) :: (la, listOf c.vs.toArray c.k) :: (c.tups ++ news)) (fun _ => []) st m₀ (fun c => P (i + 1) c ∧ ∀ p ∈ c.tups, p.1 ≠ la) own { s with heap := h, toks := tk } Q) E { s with heap := h, toks := tk })
    (done : ∀ (c : RSt) (u : Str → Option Value) h tk, P vs.length c → Fr h₀ env.locals h (fun y => if y = x then u y else kstB (fun z => if st.contains z then u z else m₀ z) [] y) → News h₀ env.locals h ((l, listOf vs.toArray nn) :: (la, listOf c.vs.toArray c.k) :: (c.tups ++ news)) → Q .next { s with heap := h, toks := tk }) :
    wpAny (model prog w) A (pyIter (.ref l)) (fun it s₂ => LoopAtV prog w A h₀ env x body Q E it s₂) E s := by
  refine loop_list (fun c : RSt => (l, listOf vs.toArray nn) :: (la, listOf c.vs.toArray c.k) :: (c.tups ++ news)) (fun _ => []) st (fun i c => P i c ∧ ∀ p ∈ c.tups, p.1 ≠ la) ⟨cs₀, n₀, t₀⟩ hh (fun _ => .head _) F N (fun p hp => nomatch hp) ⟨hp, ht₀⟩ ?_ ?_
  · rintro c i v u h tk own hv ⟨hP, ht⟩ hoff F1 N1
    refine turn c i v u h tk own hv hP ht hoff (fun p hp => ?_) F1 N1
    rcases List.mem_append.mp hp with hp | hp
    · rcases List.mem_append.mp hp with hp | hp
      · exact ht p hp
      · exact hln p hp
    · exact hoff p hp _ (.tail _ (.head _))
  · rintro c u h tk ⟨hP, _⟩ F1 N1
    exact done c u h tk hP F1 N1
end
theorem leads_ini {tl : List (Addr × Obj)} {v1 v2 v3 : Value} (h1 : LeadAt tl v1 [] 0) (h2 : LeadAt tl v2 [0] 2) (h3 : LeadAt tl v3 [1, 2] 1) :
    ∃ ls, LeadsAt tl [v1, v2, v3] ls ∧ (∀ l ∈ ls, Small l.1 l.2) ∧ (∀ l ∈ ls, l.1.Pairwise (· ≤ ·)) ∧ ls.length ≤ 3 + 2 * 0 := by
  refine ⟨[([], 0), ([0], 2), ([1, 2], 1)], ⟨rfl, fun i l hi => ?_⟩, ?_, ?_, by simp⟩
  · match i, hi with
    | 0, hi => simp at hi; subst hi; exact ⟨v1, rfl, h1⟩
    | 1, hi => simp at hi; subst hi; exact ⟨v2, rfl, h2⟩
    | 2, hi => simp at hi; subst hi; exact ⟨v3, rfl, h3⟩
    | n + 3, hi => simp at hi
  · simp [Small]
  · simp
theorem LeadsAt.snoc {news news' : List (Addr × Obj)} {vs : List Value} {ls : List (List Nat × Nat)} {v : Value} {l : List Nat × Nat} (h : LeadsAt news vs ls) (hs : ∀ p ∈ news, p ∈ news') (hv : LeadAt news' v l.1 l.2) : LeadsAt news' (vs ++ [v]) (ls ++ [l]) := by
  refine ⟨by simp [h.1], fun i k hi => ?_⟩
  by_cases hlt : i < ls.length
  · rw [List.getElem?_append_left hlt] at hi
    obtain ⟨u, h1, h2⟩ := h.2 i k hi
    exact ⟨u, by rw [List.getElem?_append_left (by rw [h.1]; exact hlt)]; exact h1, h2.mono hs⟩
  · rw [List.getElem?_append_right (by omega)] at hi
    have e : i - ls.length = 0 := by
      have := (List.getElem?_eq_some_iff.mp hi).1
      simp at this
      omega
    rw [e] at hi
    simp at hi
    subst hi
    exact ⟨v, by rw [List.getElem?_append_right (by rw [h.1]; omega), h.1, e]; rfl, hv⟩
theorem sorted_nat {n' l : List Int} {vs : List Value} (p : n'.Perm l) (h : ∀ x ∈ l, 0 ≤ x ∧ x ≤ 20) (o : n'.Pairwise (· ≤ ·)) (e : n'.length ≤ 20) (hi : IntsAre vs n') :
    ∃ cN : List Nat, IntsAre vs (cN.map fun (k : Nat) => (k : Int)) ∧ cN.length ≤ 20 ∧ (∀ r ∈ cN, r ≤ 20) ∧ cN.Pairwise (· ≤ ·) := by
  have h' : ∀ x ∈ n', 0 ≤ x ∧ x ≤ 20 := fun x hx => h x (p.mem_iff.mp hx)
  refine ⟨n'.map Int.toNat, ?_, by rw [List.length_map]; exact e, ?_, ?_⟩
  · have e : (n'.map Int.toNat).map (fun (k : Nat) => (k : Int)) = n' := by
      rw [List.map_map]
      refine (List.map_congr_left fun r hr => ?_).trans (List.map_id _)
      exact Int.toNat_of_nonneg (h' r hr).1
    rw [e]; exact hi
  · intro r hr
    obtain ⟨z, hz, rfl⟩ := List.mem_map.mp hr
    have := h' z hz
    omega
  · rw [List.pairwise_map]
    exact o.imp fun h => Int.toNat_le_toNat h
theorem zeros_nat {k : Nat} {vs : List Value} (hi : IntsAre vs (List.replicate k [(0 : Int)]).flatten) : IntsAre vs ((List.replicate k 0).map fun (k : Nat) => (k : Int)) := by
  rw [flat_rep] at hi
  rw [List.map_replicate]
  exact hi
/-- two leads more -/
theorem leads_two {tl tl' : List (Addr × Obj)} {c : List Value} {ls : List (List Nat × Nat)} {i : Nat} {v1 v2 : Value} {l1 l2 : List Nat × Nat} (hP1 : LeadsAt tl c ls) (hP2 : ∀ l ∈ ls, Small l.1 l.2) (hP3 : ∀ l ∈ ls, l.1.Pairwise (· ≤ ·)) (hP4 : ls.length ≤ 3 + 2 * i) (hs : ∀ p ∈ tl, p ∈ tl')
    (h1 : LeadAt tl' v1 l1.1 l1.2) (h2 : LeadAt tl' v2 l2.1 l2.2) (s1 : Small l1.1 l1.2) (s2 : Small l2.1 l2.2) (o1 : l1.1.Pairwise (· ≤ ·)) (o2 : l2.1.Pairwise (· ≤ ·)) :
    ∃ ls, LeadsAt tl' (c ++ [v1] ++ [v2]) ls ∧ (∀ l ∈ ls, Small l.1 l.2) ∧ (∀ l ∈ ls, l.1.Pairwise (· ≤ ·)) ∧ ls.length ≤ 3 + 2 * (i + 1) := by
  refine ⟨ls ++ [l1] ++ [l2], (hP1.snoc hs h1).snoc (fun p hp => hp) h2, ?_, ?_, by simp; omega⟩
  · intro l hl
    simp only [List.mem_append, List.mem_singleton] at hl
    rcases hl with (h | rfl) | rfl
    · exact hP2 l h
    · exact s1
    · exact s2
  · intro l hl
    simp only [List.mem_append, List.mem_singleton] at hl
    rcases hl with (h | rfl) | rfl
    · exact hP3 l h
    · exact o1
    · exact o2
theorem fm_nat (n : Int) (k : Nat) (hk : 0 < k) (hk2 : k ≤ 20) : ∃ b : Nat, n.fmod (k : Int) = (b : Int) ∧ b ≤ 20 := by
  have h1 := Int.fmod_nonneg_of_pos n (by omega : (0 : Int) < k)
  have h2 := Int.fmod_lt_of_pos n (by omega : (0 : Int) < k)
  exact ⟨(n.fmod k).toNat, by omega, by omega⟩
theorem fm_range (n : Int) (k : Nat) (hk : 0 < k) (hk2 : k ≤ 20) : 0 ≤ n.fmod (k : Int) ∧ n.fmod (k : Int) ≤ 20 := by
  obtain ⟨b, h1, h2⟩ := fm_nat n k hk hk2
  omega
theorem leads_spec (w : World) (news : List (Addr × Obj)) (sc : Addr) (vs : List Value) (ns : List Int) (hns : ns.length ≤ 63) (hI : IntsAre vs ns)  :
    ∀ (mean : ExcName → Option Value) (mg mb : Str → Option Value) (dp un : Nat) (gd : Option (List Code)) (cn : Str) (cs : Scope) (a : Addr) (ccd : Value) (cl : List (Str × Addr)) (outer : List Env) (A₀ : Around) (base h₀ : Heap) (L : Addr) (m : Str → Option Value) (s : Shared)
    (Q E : Value → Shared → Prop),
    Below A₀ base outer h₀ → Fr h₀ L s.heap m → (hd.heap_39 w.params).In h₀ → News h₀ L s.heap news → Top hd.view_39 (looseW hd.view_39 [Str.ofString "Whitespace"]) mean mg mb h₀ → h₀.IsList sc vs.toArray → cs.kind = .function → dp + 2 < recursionLimit → un + 8 * 2 < cLine →
    (∀ r tl h' tk', Fr h₀ L h' m → News h₀ L h' (tl ++ news) → LeadsMade tl r → Q r { s with heap := h', toks := tk' }) →
    wpAny (model Challenge.rw_mj0186_01.row.prog w) (ktrTop dp un gd cn cs L a ccd cl outer) (call (.ref 101) [.ref sc]) Q E s := by
  w_top off
  k_fill
  intro mean mg mb dp un gd cn cs a ccd cl outer A₀ base h₀ L m s Q E B F X N T hsc hk hd hu hret
  refine wpAny_call ?_
  k_dflt ktr_enter
  (rename Fr h₀ L _ m => fG)
  have hsc2 := hsc.at (fun o e => fG.keep sc o e)
  k_steps
  refine Hold.mk ?_
  (rename Fr _ _ _ _ => fF); (rename News _ _ _ _ => fN)
  (rename IntsAre _ (List.take 3 ns) => hI3)
  (rename (_ ∧ _ ∧ _ ∧ _ ∧ _ ∧ _ ∧ AllLt _ news) => hl8)
  refine loop_leads (t₀ := [_, _, _, _, _, _]) (cs₀ := [_, _, _]) [Str.ofString "rest", Str.ofString "closed"] (fun i c => ∃ ls, LeadsAt c.tups c.vs ls ∧ (∀ l ∈ ls, Small l.1 l.2) ∧ (∀ l ∈ ls, l.1.Pairwise (· ≤ ·)) ∧ ls.length ≤ 3 + 2 * i) (by rfl) fF fN ?hln ?ht ?hp ?_ ?_
  case hln => exact fun p hp => Nat.ne_of_lt (ktn_ltOf hl8.2.2.2.2.2.2 p hp)
  case ht =>
    simp only [List.mem_cons, List.not_mem_nil, or_false, forall_eq_or_imp, forall_eq]
    refine ⟨?_, ?_, ?_, ?_, ?_, ?_⟩ <;> (refine neN ?_; omega)
  case hp =>
    refine leads_ini ⟨_, _, _, _, _, _, rfl, by k_mem, by k_mem, .nil⟩ ⟨_, _, _, _, _, _, rfl, by k_mem, by k_mem, .cons _ _ .nil⟩ ⟨_, _, _, _, _, _, rfl, by k_mem, by k_mem, .cons _ _ (.cons _ _ .nil)⟩
  · rintro ⟨c, kc, tups⟩ i v u h tk own hv hP ht hoff hall F1 N1
    dsimp only at hP ht hoff hall N1
    obtain ⟨ls, hP1, hP2, hP3, hP4⟩ := hP
    obtain ⟨n, tn, hn, rfl⟩ := int_at hI3 hv
    have hi3 : i < 3 := by
      have := (List.getElem?_eq_some_iff.mp hn).1
      rw [List.length_take] at this
      omega
    have hlc : c.length ≤ 10 := by rw [hP1.1]; omega
    clear fF fN; dsimp only [kstB] at F1
    have q1 := Int.fmod_nonneg_of_pos n (by decide : (0 : Int) < 4)
    have q2 := Int.fmod_lt_of_pos n (by decide : (0 : Int) < 4)
    have q3 := Int.fmod_nonneg_of_pos (n.fdiv 4) (by decide : (0 : Int) < 4)
    have q4 := Int.fmod_lt_of_pos (n.fdiv 4) (by decide : (0 : Int) < 4)
    obtain ⟨b1, hb1, hb1b⟩ : ∃ b : Nat, (n.fdiv 4).fmod 4 = (b : Int) ∧ b ≤ 20 := fm_nat _ 4 (by decide) (by decide)
    obtain ⟨b2, hb2, hb2b⟩ : ∃ b : Nat, ((n.fdiv 16).fdiv 96).fmod 3 = (b : Int) ∧ b ≤ 20 := fm_nat _ 3 (by decide) (by decide)
    k_steps
    all_goals (
      (rename News _ _ _ _ => nE)
      simp only [hb1, hb2] at nE
      try simp only [List.push_toArray] at nE
      (rename IntsAre _ (List.flatten _) => hz1); (rename List.Perm _ _ => hpm); (rename List.Pairwise _ _ => hso); (rename IntsAre _ _ => hsi)
      (rename (List.length (_ : List Int) = _) => hsl)
      (rename (_ ∧ _ ∧ _ ∧ _ ∧ _ ∧ _ ∧ _ ∧ AllLt _ (tups ++ news ++ own)) => r1)
      (rename (_ ∧ _ ∧ _ ∧ _ ∧ _ ∧ _ ∧ AllLt _ (tups ++ news ++ own)) => r2)
      (rename (_ ∧ _ ∧ _ ∧ _ ∧ AllLt _ (tups ++ news ++ own)) => r3)
      (rename (_ ∧ _ ∧ _ ∧ AllLt _ (tups ++ news ++ own)) => r4)
      have w1 := ktn_ltOf r1.2.2.2.2.2.2.2
      have w2 := ktn_ltOf r2.2.2.2.2.2.2
      have w3 := ktn_ltOf r3.2.2.2.2
      have w4 := ktn_ltOf r4.2.2.2
      obtain ⟨cN, hc1, hc2, hc3, hc4⟩ := sorted_nat hpm (by
        simp only [List.mem_cons, List.not_mem_nil, or_false, forall_eq_or_imp, forall_eq]
        first
        | exact ⟨fm_range _ 3 (by decide) (by decide), fm_range _ 4 (by decide) (by decide), fm_range _ 4 (by decide) (by decide)⟩
        | exact ⟨fm_range _ 3 (by decide) (by decide), fm_range _ 4 (by decide) (by decide)⟩) hso (by omega) hsi
      refine Turn.next (RSt.mk _ _ (_ :: _ :: _ :: _ :: tups)) (by assumption) nE (fun p hp => .tail _ (.tail _ (.tail _ (.tail _ (.tail _ (.tail _ (.tail _ (.tail _ (List.mem_append.mpr (.inr hp)))))))))) (List.forall_mem_cons.mpr ⟨.tail _ (.tail _ (.tail _ (.tail _ (.tail _ (.tail _ (.head _)))))), List.forall_mem_cons.mpr ⟨.tail _ (.tail _ (.tail _ (.tail _ (.tail _ (.tail _ (.tail _ (.head _))))))), List.forall_mem_cons.mpr ⟨.head _, List.forall_mem_cons.mpr ⟨.tail _ (.head _), List.forall_mem_cons.mpr ⟨.tail _ (.tail _ (.tail _ (.head _))), List.forall_mem_cons.mpr ⟨.tail _ (.tail _ (.tail _ (.tail _ (.head _)))), fun p hp => .tail _ (.tail _ (.tail _ (.tail _ (.tail _ (.tail _ (.tail _ (.tail _ (List.mem_append.mpr (.inl hp)))))))))⟩⟩⟩⟩⟩⟩) ?off (by kst_all) ?h5 ?h6
      case off =>
        intro p hp
        have h0 := hoff p hp _ (List.Mem.head _)
        have h1 := hoff p hp _ (List.Mem.tail _ (List.Mem.head _))
        have h2 : p ∈ tups ++ news ++ own := List.mem_append.mpr (.inr hp)
        exact List.forall_mem_cons.mpr ⟨h0, List.forall_mem_cons.mpr ⟨h1, List.forall_mem_cons.mpr ⟨Nat.ne_of_lt (w1 p h2), List.forall_mem_cons.mpr ⟨Nat.ne_of_lt (w2 p h2), List.forall_mem_cons.mpr ⟨Nat.ne_of_lt (w3 p h2), List.forall_mem_cons.mpr ⟨Nat.ne_of_lt (w4 p h2), fun q hq => hoff p hp q (.tail _ (.tail _ hq))⟩⟩⟩⟩⟩⟩
      case h5 => kst_same
      case h6 =>
        refine ⟨leads_two hP1 hP2 hP3 hP4 (fun p hp => .tail _ (.tail _ (.tail _ (.tail _ (hp))))) (l1 := (List.replicate (n.fmod 4).toNat 0, b1)) (l2 := (cN, b2)) ⟨_, _, _, _, _, _, rfl, .tail _ (.tail _ (.head _)), .tail _ (.tail _ (.tail _ (.head _))), zeros_nat hz1⟩ ⟨_, _, _, _, _, _, rfl, .head _, .tail _ (.head _), hc1⟩ ⟨?_, ?_, hb1b⟩ ⟨hc2, hc3, hb2b⟩ ?_ hc4, ?_⟩
        · rw [List.length_replicate]; omega
        · intro r hr
          rw [List.eq_of_mem_replicate hr]; omega
        · exact List.pairwise_replicate.mpr (.inr (Nat.le_refl _))
        · exact List.forall_mem_cons.mpr ⟨(Nat.ne_of_lt r1.2.2.2.2.2.2.1).symm, List.forall_mem_cons.mpr ⟨(Nat.ne_of_lt r2.2.2.2.2.2.1).symm, List.forall_mem_cons.mpr ⟨(Nat.ne_of_lt r3.2.2.2.1).symm, List.forall_mem_cons.mpr ⟨(Nat.ne_of_lt r4.2.2.1).symm, ht⟩⟩⟩⟩)
  · rintro ⟨c, kc, tups⟩ u h tk hP F1 N1
    dsimp only at hP N1
    obtain ⟨ls, hP1, hP2, hP3, hP4⟩ := hP
    have hwl := hI3.length
    rw [List.length_take] at hwl
    clear fF fN; dsimp only [kstB] at F1
    k_steps
    (rename News _ _ _ _ => nE)
    refine hret _ (_ :: _ :: tups) _ _ (by assumption) nE ⟨_, _, _, ls, rfl, .tail _ (.head _), ⟨hP1.1, fun i l hi => ?_⟩, hP2, hP3, by omega⟩
    obtain ⟨v, h1, h2⟩ := hP1.2 i l hi
    exact ⟨v, h1, h2.mono fun p hp => .tail _ (.tail _ hp)⟩
end Mine
end
section
open PySem PySem.W PyProof.Rows
set_option Elab.async false
set_option maxRecDepth 100000
set_option maxHeartbeats 8000000
set_option pp.maxSteps 20000
namespace Mine
local macro_rules | `(tactic| walk_at "pyIter ref") => `(tactic| (refine Hold.out ?_))
local macro_rules | `(tactic| walk_at "call builtin:str.replace") => `(tactic| (k_here; (refine SC.replaceW (by ((show @Ne Nat _ _); omega)) (by ((show @Ne Nat _ _); omega)) (by ((show @Ne Nat _ _); omega)) (by decide +kernel) (by omega) (by decide +kernel) ?_); intro t9 k9))
local macro_rules | `(tactic| k_mem) => `(tactic| first | assumption | (refine List.mem_cons_of_mem _ ?_; k_mem) | (refine List.mem_append.mpr (Or.inr ?_); k_mem) | (refine List.mem_append.mpr (Or.inl ?_); k_mem))
local macro_rules | `(tactic| walk_at "Turn") => `(tactic| ((first | refine Turn.ret ?_ | refine Turn.brk ?_); (try dsimp only); (try k_fold)))
local macro_rules | `(tactic| walk_at "pyIter str") => `(tactic| (refine Hold.out ?_))
local macro_rules | `(tactic| walk_at "exec For Name Name cons nil") => `(tactic| (k_here; (rename Fr _ _ _ _ => lF'); (with_unfolding_all refine' For_invVF lF' ?k1 ?k2 ?_; (case k1 => exact rfl); (case k2 => exact rfl); k_whole)))
local macro_rules | `(tactic| walk_at "exec For Name Subscript cons nil") => `(tactic| (k_here; (rename Fr _ _ _ _ => lF'); (with_unfolding_all refine' For_invVF lF' ?k1 ?k2 ?_; (case k1 => exact rfl); (case k2 => exact rfl); k_whole)))
local macro_rules | `(tactic| walk_at "exec For Name Attribute cons nil") => `(tactic| (k_here; (rename Fr _ _ _ _ => lF'); (with_unfolding_all refine' For_invVF lF' ?k1 ?k2 ?_; (case k1 => exact rfl); (case k2 => exact rfl); k_whole)))
local macro_rules | `(tactic| walk_at "exec For Name Call cons nil") => `(tactic| (k_here; (rename Fr _ _ _ _ => lF'); (with_unfolding_all refine' For_invVF lF' ?k1 ?k2 ?_; (case k1 => exact rfl); (case k2 => exact rfl); k_whole)))
local macro_rules | `(tactic| walk_at "call ref") => `(tactic| (k_here; (with_reducible show wpAny _ _ (call (Value.ref _) _) _ _ _); (refine Hold.out ?_)))
theorem law_holds : PySem.Challenge.rw_mj0186_01.Holds := by
  refine hd ?_
  w_on
  w_strict (
    k_go0
    (all_goals try k_fold)
    k_steps
    refine Hold.mk ?_
    (rename IntsAre _ _ => hI9); (rename Heap.IsList _ _ _ => hl9)
    k_dflt (refine' leads_spec _ _ _ _ _ ?c1 hI9 _ _ _ _ _ _ _ _ _ _ _ _ _ _ _ _ _ _ _ _ ?k1 ?k2 ?k3 ?k4 ?k5 ?k6 ?kK ?kd ?ku ?_)
    case k1 => k_asm
    case k2 => k_asm
    case k3 => k_asm
    case k4 => k_asm
    case k5 => k_asm
    case k6 => exact hl9
    case kK => exact rfl
    case kd => ktr_room
    case ku => ktr_units
    case c1 => omega
    intro r9 tl9 h9 tk9 F9 N9 hmade
    obtain ⟨la, vs, nn, ls, e9, hm, hl, hs, ho, hlen⟩ := hmade
    subst e9
    rw [List.append_nil] at N9
    dsimp only
    (try k_fold)
    k_steps
    refine Hold.mk ?_
    k_dflt (refine' Gives.useB (holds_spec _ _ _ _ _ _ hm hl hs ho hlen) ?k1 ?k2 ?k3 ?k4 ?k5 ?kK ?kd ?ku ?_)
    case k1 => k_asm
    case k2 => k_asm
    case k3 => k_asm
    case k4 => k_asm
    case k5 => k_asm
    case kK => exact rfl
    case kd => ktr_room
    case ku => ktr_units
    intro h9 tk9 hle9 F9 N9
    dsimp only
    (try k_fold)
    k_steps)
end Mine
end
theorem PySem.Challenge.cw_mj0186_01_holds : PySem.Challenge.rw_mj0186_01.Holds :=
  Mine.law_holds
