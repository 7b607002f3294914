import PyProof.Rows.All
import Wide.All
import OpenK.AllK
import Wide.FinOn
import PySem.Challenge.RW_ko0121_02
set_option Elab.async false
set_option maxRecDepth 100000
open PySem PySem.W PySem.Spec PySem.Calls PyProof.Rows
open_top hd for PySem.Challenge.rw_ko0121_02
namespace Mine
open PySem PySem.W PySem.Spec PySem.Calls PyProof.Rows

/-- what a frame says of some names -/
def HasAll (m : Str → Option Value) (ps : List (Str × Value)) : Prop := ∀ p ∈ ps, m p.1 = some p.2

theorem hasAll_eq {m : Str → Option Value} {ps : List (Str × Value)} (h : HasAll m ps) : kstB m ps = m := by
  funext y
  exact kstB_eq h fun _ => rfl

theorem hasAll_x {m : Str → Option Value} {ps : List (Str × Value)} {x : Str} {v : Value} (h : HasAll m ps) : (fun y => if y = x then some v else m y) = (fun y => if y = x then some v else kstB m ps y) := by
  rw [hasAll_eq h]

section
variable {prog : Program} {w : World} {A : Around} {E : Value → Shared → Prop} {Q : Flow → Shared → Prop} {s : Shared} {env : Env} {h₀ : Heap} {L : Addr}

/-- a while's turn ends: a new state, less by the measure -/
def WhEnd {σ : Type} (h₀ : Heap) (L : Addr) (s : Shared) (Led : σ → List (Addr × Obj)) (ps : σ → List (Str × Value)) (P : σ → Prop) (μ : σ → Nat) (c : σ) (s₂ : Shared) : Prop :=
  ∃ (c' : σ) (h' : Heap) (tk : Nat) (m' : Str → Option Value) (news' : List (Addr × Obj)), s₂ = { s with heap := h', toks := tk } ∧ Fr h₀ L h' m' ∧ News h₀ L h' news' ∧ (∀ p ∈ Led c', p ∈ news') ∧ HasAll m' (ps c') ∧ P c' ∧ μ c' < μ c
def WhPost {σ : Type} (h₀ : Heap) (L : Addr) (s : Shared) (Led : σ → List (Addr × Obj)) (ps : σ → List (Str × Value)) (P : σ → Prop) (μ : σ → Nat) (Q : Flow → Shared → Prop) (c : σ) (f : Flow) (s₂ : Shared) : Prop :=
  match f with
  | .ret v => Q (.ret v) s₂
  | .brk => Q .next s₂
  | _ => WhEnd h₀ L s Led ps P μ c s₂
theorem whEnd {σ : Type} {Led : σ → List (Addr × Obj)} {ps : σ → List (Str × Value)} {P : σ → Prop} {μ : σ → Nat} {c : σ} {h' : Heap} {tk : Nat} {m' : Str → Option Value} {news' : List (Addr × Obj)} (F : Fr h₀ L h' m') (N : News h₀ L h' news') (c' : σ)
    (hn : ∀ p ∈ Led c', p ∈ news') (hk : HasAll m' (ps c')) (hp : P c') (hm : μ c' < μ c) : WhEnd h₀ L s Led ps P μ c { s with heap := h', toks := tk } := ⟨c', h', tk, m', news', rfl, F, N, hn, hk, hp, hm⟩

theorem while_G {σ : Type} {test : Expr} {body : List Stmt} {pos : Pos} {m₀ : Str → Option Value} {news₀ : List (Addr × Obj)} (Led : σ → List (Addr × Obj)) (ps : σ → List (Str × Value)) (P : σ → Prop) (μ : σ → Nat) (c₀ : σ)
    (F : Fr h₀ L s.heap m₀) (N : News h₀ L s.heap news₀) (hL : ∀ p ∈ Led c₀, p ∈ news₀) (hk : HasAll m₀ (ps c₀)) (hp : P c₀)
    (turn : ∀ (c : σ) (u : Str → Option Value) h tk, P c → Fr h₀ L h (kstB u (ps c)) → News h₀ L h (Led c) →
      wpAny (model prog w) A (isTrue test env (eval test env)) (fun b s₂ =>
        if b = true then wpAny (model prog w) A (execs body env) (WhPost h₀ L s Led ps P μ Q c) E s₂ else Q .next s₂) E { s with heap := h, toks := tk })
    (hE : PassesOwn (model prog w) A env E := by passes_own) :
    wpAny (model prog w) A (exec (.While test body [] pos) env) Q E s := by
  refine While_inv2 (fun n m nx => ∃ c : σ, nx = Led c ∧ μ c = n ∧ HasAll m (ps c) ∧ P c) F (fun p hp => N p (hL p hp)) ⟨c₀, rfl, rfl, hk, hp⟩ ?_ hE
  rintro n m₁ nx h tk F₁ N₁ ⟨c, rfl, rfl, h1, hp'⟩
  rw [← hasAll_eq h1] at F₁
  refine wpAny_mono (turn c m₁ h tk hp' F₁ N₁) (fun b s₂ p => ?_) fun _ _ x => x
  cases b with
  | false => simpa using p
  | true =>
    simp only [if_true] at p ⊢
    refine wpAny_mono p (fun f s₃ q => ?_) fun _ _ x => x
    cases f with
    | ret v => exact q
    | brk => exact q
    | next =>
      obtain ⟨c', h', tk', m', news', rfl, F', N', hn, hk9, hp9, hm9⟩ := q
      exact ⟨h', tk', m', Led c', μ c', rfl, F', fun p hp => N' p (hn p hp), hm9, c', rfl, rfl, hk9, hp9⟩
    | cont =>
      obtain ⟨c', h', tk', m', news', rfl, F', N', hn, hk9, hp9, hm9⟩ := q
      exact ⟨h', tk', m', Led c', μ c', rfl, F', fun p hp => N' p (hn p hp), hm9, c', rfl, rfl, hk9, hp9⟩

/-- a for's turn ends -/
def FoEnd {σ : Type} (h₀ : Heap) (L : Addr) (s : Shared) (Led : σ → List (Addr × Obj)) (ps : σ → List (Str × Value)) (P : σ → Prop) (own : List (Addr × Obj)) (s₂ : Shared) : Prop :=
  ∃ (c' : σ) (h' : Heap) (tk : Nat) (m' : Str → Option Value) (news' : List (Addr × Obj)), s₂ = { s with heap := h', toks := tk } ∧ Fr h₀ L h' m' ∧ News h₀ L h' news' ∧ (∀ p ∈ Led c', p ∈ news') ∧ (∀ p ∈ own, p ∈ news') ∧ OwnOff own ((Led c').map (·.1)) ∧ HasAll m' (ps c') ∧ P c'
def FoPost {σ : Type} (h₀ : Heap) (L : Addr) (s : Shared) (Led : σ → List (Addr × Obj)) (ps : σ → List (Str × Value)) (P : σ → Prop) (own : List (Addr × Obj)) (Q : Flow → Shared → Prop) (f : Flow) (s₂ : Shared) : Prop :=
  match f with
  | .ret v => Q (.ret v) s₂
  | .brk => Q .next s₂
  | _ => FoEnd h₀ L s Led ps P own s₂
theorem foEnd {σ : Type} {Led : σ → List (Addr × Obj)} {ps : σ → List (Str × Value)} {P : σ → Prop} {own : List (Addr × Obj)} {h' : Heap} {tk : Nat} {m' : Str → Option Value} {news' : List (Addr × Obj)} (F : Fr h₀ L h' m') (N : News h₀ L h' news') (c' : σ)
    (hn : ∀ p ∈ Led c', p ∈ news') (ho : ∀ p ∈ own, p ∈ news') (ha : OwnOff own ((Led c').map (·.1))) (hk : HasAll m' (ps c')) (hp : P c') : FoEnd h₀ L s Led ps P own { s with heap := h', toks := tk } := ⟨c', h', tk, m', news', rfl, F, N, hn, ho, ha, hk, hp⟩

theorem for_G {σ : Type} {x : Str} {body : List Stmt} {I : Addr} {fp wr : List Addr} {n : Nat} {Pv : Nat → Value → Prop} {St : Nat → Heap → Prop} {m₀ : Str → Option Value} (Led : σ → List (Addr × Obj)) (ps : σ → List (Str × Value)) (P : Nat → σ → Prop) (c₀ : σ)
    (W : Walks prog w A I fp wr n Pv St) (hLf : env.locals ∉ fp) (hwr : ∀ b ∈ wr, h₀.get? b = none) (hlive : ∀ i h, St i h → ∀ b ∈ fp, ∃ o, h.get? b = some o)
    (hst : St 0 s.heap) (F : Fr h₀ env.locals s.heap m₀) (N : News h₀ env.locals s.heap (Led c₀)) (hfp : ∀ q ∈ Led c₀, q.1 ∉ fp) (hk : HasAll m₀ (ps c₀)) (hp : P 0 c₀)
    (turn : ∀ i v (c : σ) (u : Str → Option Value) h tk own, i < n → Pv i v → P i c → OwnOff own ((Led c).map (·.1)) → (∀ b ∈ fp, h₀.get? b = none → ∀ o, h.get? b = some o → (b, o) ∈ own) → St (i + 1) h →
      Fr h₀ env.locals h (fun y => if y = x then some v else kstB u (ps c) y) → News h₀ env.locals h (Led c ++ own) →
      wpAny (model prog w) A (execs body env) (FoPost h₀ env.locals { s with heap := h, toks := tk } Led ps (P (i + 1)) own Q) E { s with heap := h, toks := tk })
    (done : ∀ (c : σ) (u : Str → Option Value) h tk, P n c → Fr h₀ env.locals h (kstB u (ps c)) → News h₀ env.locals h (Led c) → Q .next { s with heap := h, toks := tk }) :
    LoopAtV prog w A h₀ env x body Q E (.ref I) s := by
  refine ⟨I, fp, wr, n, Pv, St, m₀, Led c₀, fun i m nx => ∃ c : σ, nx = Led c ∧ HasAll m (ps c) ∧ P i c ∧ ∀ q ∈ Led c, q.1 ∉ fp, rfl, W, hLf, hwr, fun p hp hm => hfp p hp (W.sub _ hm), hst, F, N, ⟨c₀, rfl, hk, hp, hfp⟩, ?_, ?_⟩
  · rintro i v m₁ news₁ s₁ own ⟨hh', tk', rfl⟩ hin hP ⟨c, rfl, h1, hp', hoff'⟩ hoff hown hget hall hst' F₁ N₁
    have hsep : OwnOff own ((Led c).map (·.1)) := by
      intro p hp b hb e
      obtain ⟨q, hq, rfl⟩ := List.mem_map.mp hb
      exact hoff' q hq (e ▸ hown p hp)
    rw [hasAll_x h1] at F₁
    have N₂ : News h₀ env.locals hh' (Led c ++ own) := fun p hp => N₁ p ((List.mem_append.mp hp).elim (fun h => List.mem_append.mpr (.inr h)) fun h => List.mem_append.mpr (.inl h))
    refine wpAny_mono (turn i v c m₁ hh' tk' own hin hP hp' hsep hall hst' F₁ N₂) (fun f s₂ p => ?_) fun _ _ e => e
    have fin : FoEnd h₀ env.locals { s with heap := hh', toks := tk' } Led ps (P (i + 1)) own s₂ → LoopStepU h₀ env.locals wr own (fun m nx => ∃ c : σ, nx = Led c ∧ HasAll m (ps c) ∧ P (i + 1) c ∧ ∀ q ∈ Led c, q.1 ∉ fp) { s with heap := hh', toks := tk' } .next s₂ := by
      rintro ⟨c', h', tk, m', news', e, F', N', hn, ho, ha, hk', hp''⟩
      have hfp' : ∀ q ∈ Led c', q.1 ∉ fp := by
        intro q hq hm
        obtain ⟨o, ho'⟩ := hlive _ _ hst' _ hm
        exact ha _ (hall _ hm (N' _ (hn q hq)).2.2 o ho') _ (List.mem_map_of_mem hq) rfl
      exact ⟨rfl, h', tk, m', Led c', e, F', fun p hp => N' p ((List.mem_append.mp hp).elim (ho p) (hn p)), fun p hp hq => hfp' p hp (W.sub _ hq), c', rfl, hk', hp'', hfp'⟩
    cases f with
    | ret v => exact .ret p
    | brk => exact .brk p
    | next => exact .next (fin p)
    | cont => exact .cont (fin p)
  · rintro h' tk m' news' F' N' _ ⟨c, rfl, h1, hp', _⟩
    rw [← hasAll_eq h1] at F'
    exact done c m' h' tk hp' F' N'

/-- a loop over a list that stands below the call (the script) -/
theorem for_list {σ : Type} {x : Str} {body : List Stmt} {l : Addr} {vs : List Value} {m₀ : Str → Option Value} {news₀ : List (Addr × Obj)} (Led : σ → List (Addr × Obj)) (ps : σ → List (Str × Value)) (P : Nat → σ → Prop) (c₀ : σ)
    (hh : A.handled = none) (hl : h₀.IsList l vs.toArray) (F : Fr h₀ env.locals s.heap m₀) (N : News h₀ env.locals s.heap news₀) (hL : ∀ p ∈ Led c₀, p ∈ news₀) (hk : HasAll m₀ (ps c₀)) (hp : P 0 c₀)
    (turn : ∀ i v (c : σ) (u : Str → Option Value) h tk own, i < vs.length → vs[i]? = some v → P i c → OwnOff own ((Led c).map (·.1)) →
      Fr h₀ env.locals h (fun y => if y = x then some v else kstB u (ps c) y) → News h₀ env.locals h (Led c ++ own) →
      wpAny (model prog w) A (execs body env) (FoPost h₀ env.locals { s with heap := h, toks := tk } Led ps (P (i + 1)) own Q) E { s with heap := h, toks := tk })
    (done : ∀ (c : σ) (u : Str → Option Value) h tk, P vs.length c → Fr h₀ env.locals h (kstB u (ps c)) → News h₀ env.locals h (Led c) → Q .next { s with heap := h, toks := tk }) :
    wpAny (model prog w) A (pyIter (.ref l)) (fun it s₂ => LoopAtV prog w A h₀ env x body Q E it s₂) E s := by
  have hls : s.heap.IsList l vs.toArray := hl.at fun o e => F.keep l o e
  obtain ⟨ol, hol, _⟩ := id hl
  have hlt : l < h₀.objs.size := Heap.lt_size hol
  have hne : l ≠ s.heap.objs.size := Nat.ne_of_lt (Nat.lt_trans (Nat.lt_of_lt_of_le hlt F.above) F.ns.lt)
  have N' : News h₀ env.locals s.heap (Led c₀) := fun p hp => N p (hL p hp)
  refine wpAny_pyIter_list hls ?_
  have W := Walks.list (prog := prog) (w := w) hh s.heap.objs.size l hne vs.toArray
  have hlen : vs.toArray.size = vs.length := by simp
  rw [hlen] at W
  refine for_G Led ps P c₀ W ?_ ?_ ?_ ⟨⟨_, Heap.get?_push_size _ rfl, rfl, rfl⟩, hls.at fun o e => Heap.get?_push_of_some _ e⟩ (F.push _) (fun p hp => ⟨Heap.get?_push_of_some _ (N' p hp).1, (N' p hp).2⟩) ?_ hk hp ?_ ?_
  · intro hm
    rcases List.mem_cons.mp hm with e | hm
    · exact absurd F.ns.lt (e ▸ Nat.lt_irrefl _)
    · exact absurd (Nat.lt_of_lt_of_le hlt F.above) ((List.mem_singleton.mp hm) ▸ Nat.lt_irrefl _)
  · intro b hb
    rw [List.mem_singleton.mp hb]
    exact next_is_new F
  · rintro i h ⟨⟨o1, e1, _⟩, ⟨o2, e2, _⟩⟩ b hb
    rcases List.mem_cons.mp hb with rfl | hb
    · exact ⟨o1, e1⟩
    · rw [List.mem_singleton.mp hb]; exact ⟨o2, e2⟩
  · intro q hq hm
    rcases List.mem_cons.mp hm with e | hm
    · exact absurd (Heap.lt_size (N' q hq).1) (by rw [e]; exact Nat.lt_irrefl _)
    · have h3 := (N' q hq).2.2
      rw [List.mem_singleton.mp hm, hol] at h3
      cases h3
  · intro i v c u h tk own hi hv hp' hoff _ _ F₁ N₁
    exact turn i v c u h tk own hi (by simpa using hv) hp' hoff F₁ N₁
  · exact done

/-- a loop over a list of the ledger, which no turn changes -/
theorem for_listN {σ : Type} {x : Str} {body : List Stmt} {l : Addr} {vs : List Value} {nn : Nat} {m₀ : Str → Option Value} {news₀ : List (Addr × Obj)} (Led : σ → List (Addr × Obj)) (ps : σ → List (Str × Value)) (P : Nat → σ → Prop) (c₀ : σ)
    (hh : A.handled = none) (hl : (l, listOf vs.toArray nn) ∈ news₀) (hoffl : ∀ p ∈ Led c₀, p.1 ≠ l) (F : Fr h₀ env.locals s.heap m₀) (N : News h₀ env.locals s.heap news₀) (hL : ∀ p ∈ Led c₀, p ∈ news₀) (hk : HasAll m₀ (ps c₀)) (hp : P 0 c₀)
    (turn : ∀ i v (c : σ) (u : Str → Option Value) h tk own, i < vs.length → vs[i]? = some v → P i c → OwnOff own ((Led c).map (·.1)) → (l, listOf vs.toArray nn) ∈ own →
      Fr h₀ env.locals h (fun y => if y = x then some v else kstB u (ps c) y) → News h₀ env.locals h (Led c ++ own) →
      wpAny (model prog w) A (execs body env) (FoPost h₀ env.locals { s with heap := h, toks := tk } Led ps (fun c => P (i + 1) c) own Q) E { s with heap := h, toks := tk })
    (done : ∀ (c : σ) (u : Str → Option Value) h tk, P vs.length c → Fr h₀ env.locals h (kstB u (ps c)) → News h₀ env.locals h (Led c) → Q .next { s with heap := h, toks := tk }) :
    wpAny (model prog w) A (pyIter (.ref l)) (fun it s₂ => LoopAtV prog w A h₀ env x body Q E it s₂) E s := by
  have hln := N _ hl
  have hls : s.heap.IsList l vs.toArray := ⟨_, hln.1, rfl, nn, rfl⟩
  have hne : l ≠ s.heap.objs.size := Nat.ne_of_lt (Heap.lt_size hln.1)
  have N' : News h₀ env.locals s.heap (Led c₀) := fun p hp => N p (hL p hp)
  refine wpAny_pyIter_list hls ?_
  have W0 := Walks.list (prog := prog) (w := w) hh s.heap.objs.size l hne vs.toArray
  have W : Walks prog w A s.heap.objs.size [s.heap.objs.size, l] [s.heap.objs.size] vs.length (fun i v => vs.toArray[i]? = some v) (fun i h => (h.IsListIter s.heap.objs.size l i ∧ h.IsList l vs.toArray) ∧ h.get? l = some (listOf vs.toArray nn)) :=
    { sub := W0.sub
      frame := fun i h h' st hk => ⟨W0.frame i h h' st.1 hk, hk l (by simp) _ st.2⟩
      item := fun i s Q E hi st hQ => W0.item i s Q E (by simpa using hi) st.1 fun v h' tk hv st' hk => hQ v h' tk hv ⟨st', hk l _ (by simp; exact hne) st.2⟩ hk
      done := fun s Q E st hQ => W0.done s Q E (by simpa using st.1) hQ
      self := fun i s Q E st hQ => W0.self i s Q E st.1 hQ }
  refine for_G Led ps P c₀ W ?_ ?_ ?_ ⟨⟨⟨_, Heap.get?_push_size _ rfl, rfl, rfl⟩, hls.at fun o e => Heap.get?_push_of_some _ e⟩, Heap.get?_push_of_some _ hln.1⟩ (F.push _) (fun p hp => ⟨Heap.get?_push_of_some _ (N' p hp).1, (N' p hp).2⟩) ?_ hk hp ?_ ?_
  · intro hm
    rcases List.mem_cons.mp hm with e | hm
    · exact absurd F.ns.lt (e ▸ Nat.lt_irrefl _)
    · exact hln.2.1 (List.mem_singleton.mp hm).symm
  · intro b hb
    rw [List.mem_singleton.mp hb]
    exact next_is_new F
  · rintro i h ⟨⟨⟨o1, e1, _⟩, ⟨o2, e2, _⟩⟩, _⟩ b hb
    rcases List.mem_cons.mp hb with rfl | hb
    · exact ⟨o1, e1⟩
    · rw [List.mem_singleton.mp hb]; exact ⟨o2, e2⟩
  · intro q hq hm
    rcases List.mem_cons.mp hm with e | hm
    · exact absurd (Heap.lt_size (N' q hq).1) (by rw [e]; exact Nat.lt_irrefl _)
    · exact hoffl q hq (List.mem_singleton.mp hm)
  · intro i v c u h tk own hi hv hp' hoff hall hst F₁ N₁
    exact turn i v c u h tk own hi (by simpa using hv) hp' hoff (hall l (by simp) hln.2.2 _ hst.2) F₁ N₁
  · exact done

/-- a loop over bytes -/
theorem for_bytes {σ : Type} {x : Str} {body : List Stmt} {b : Array UInt8} {tb : Tok} {m₀ : Str → Option Value} {news₀ : List (Addr × Obj)} (Led : σ → List (Addr × Obj)) (ps : σ → List (Str × Value)) (P : Nat → σ → Prop) (c₀ : σ)
    (hh : A.handled = none) (F : Fr h₀ env.locals s.heap m₀) (N : News h₀ env.locals s.heap news₀) (hL : ∀ p ∈ Led c₀, p ∈ news₀) (hk : HasAll m₀ (ps c₀)) (hp : P 0 c₀)
    (turn : ∀ i k t (c : σ) (u : Str → Option Value) h tk own, i < b.size → b[i]? = some k → P i c → OwnOff own ((Led c).map (·.1)) →
      Fr h₀ env.locals h (fun y => if y = x then some (.int (k.toNat : Int) t) else kstB u (ps c) y) → News h₀ env.locals h (Led c ++ own) →
      wpAny (model prog w) A (execs body env) (FoPost h₀ env.locals { s with heap := h, toks := tk } Led ps (P (i + 1)) own Q) E { s with heap := h, toks := tk })
    (done : ∀ (c : σ) (u : Str → Option Value) h tk, P b.size c → Fr h₀ env.locals h (kstB u (ps c)) → News h₀ env.locals h (Led c) → Q .next { s with heap := h, toks := tk }) :
    wpAny (model prog w) A (pyIter (.bytes b tb)) (fun it s₂ => LoopAtV prog w A h₀ env x body Q E it s₂) E s := by
  refine KBw.pyIter_bytes ?_
  have W := KBw.walks (prog := prog) (w := w) hh s.heap.objs.size b tb
  have N' : News h₀ env.locals s.heap (Led c₀) := fun p hp => N p (hL p hp)
  refine for_G Led ps P c₀ W ?_ ?_ ?_ ⟨_, Heap.get?_push_size _ rfl, rfl, rfl⟩ (F.push _) (fun p hp => ⟨Heap.get?_push_of_some _ (N' p hp).1, (N' p hp).2⟩) ?_ hk hp ?_ ?_
  · intro hm
    exact absurd F.ns.lt ((List.mem_singleton.mp hm) ▸ Nat.lt_irrefl _)
  · intro b' hb
    rw [List.mem_singleton.mp hb]
    exact next_is_new F
  · rintro i h ⟨o, ho, _⟩ b' hb
    rw [List.mem_singleton.mp hb]; exact ⟨o, ho⟩
  · intro p hp hI
    exact absurd (Heap.lt_size (N' p hp).1) ((List.mem_singleton.mp hI) ▸ Nat.lt_irrefl _)
  · rintro i v c u h tk own hi ⟨k, t, hk', rfl⟩ hp' hoff _ _ F₁ N₁
    exact turn i k t c u h tk own hi hk' hp' hoff F₁ N₁
  · exact done

/-- a loop over a text -/
theorem for_str {σ : Type} {x : Str} {body : List Stmt} {xt : Str} {tx : Tok} {m₀ : Str → Option Value} {news₀ : List (Addr × Obj)} (Led : σ → List (Addr × Obj)) (ps : σ → List (Str × Value)) (P : Nat → σ → Prop) (c₀ : σ)
    (hh : A.handled = none) (F : Fr h₀ env.locals s.heap m₀) (N : News h₀ env.locals s.heap news₀) (hL : ∀ p ∈ Led c₀, p ∈ news₀) (hk : HasAll m₀ (ps c₀)) (hp : P 0 c₀)
    (turn : ∀ i k t (c : σ) (u : Str → Option Value) h tk own, i < xt.cps.size → xt.cps[i]? = some k → P i c → OwnOff own ((Led c).map (·.1)) →
      Fr h₀ env.locals h (fun y => if y = x then some (.str ⟨#[k]⟩ t) else kstB u (ps c) y) → News h₀ env.locals h (Led c ++ own) →
      wpAny (model prog w) A (execs body env) (FoPost h₀ env.locals { s with heap := h, toks := tk } Led ps (P (i + 1)) own Q) E { s with heap := h, toks := tk })
    (done : ∀ (c : σ) (u : Str → Option Value) h tk, P xt.cps.size c → Fr h₀ env.locals h (kstB u (ps c)) → News h₀ env.locals h (Led c) → Q .next { s with heap := h, toks := tk }) :
    wpAny (model prog w) A (pyIter (.str xt tx)) (fun it s₂ => LoopAtV prog w A h₀ env x body Q E it s₂) E s := by
  have N' : News h₀ env.locals s.heap (Led c₀) := fun p hp => N p (hL p hp)
  have main : ∀ (o : Obj) (T : String), Walks prog w A s.heap.objs.size [s.heap.objs.size] [s.heap.objs.size] xt.cps.size (SignAt xt) (fun i h => h.IsStrIter s.heap.objs.size T xt tx i) → (s.heap.push o).IsStrIter s.heap.objs.size T xt tx 0 →
      LoopAtV prog w A h₀ env x body Q E (.ref s.heap.objs.size) { s with heap := s.heap.push o } := by
    intro o T W hst
    refine for_G Led ps P c₀ W ?_ ?_ ?_ hst (F.push _) (fun p hp => ⟨Heap.get?_push_of_some _ (N' p hp).1, (N' p hp).2⟩) ?_ hk hp ?_ ?_
    · intro hm
      exact absurd F.ns.lt ((List.mem_singleton.mp hm) ▸ Nat.lt_irrefl _)
    · intro b' hb
      rw [List.mem_singleton.mp hb]
      exact next_is_new F
    · rintro i h ⟨o, ho, _⟩ b' hb
      rw [List.mem_singleton.mp hb]; exact ⟨_, ho⟩
    · intro p hp hI
      exact absurd (Heap.lt_size (N' p hp).1) ((List.mem_singleton.mp hI) ▸ Nat.lt_irrefl _)
    · rintro i v c u h tk own hi ⟨k, t, hk', rfl⟩ hp' hoff _ _ F₁ N₁
      exact turn i k t c u h tk own hi hk' hp' hoff F₁ N₁
    · exact done
  cases ha : xt.cps.all (· < 128)
  · exact wpAny_pyIter_wide ha (main _ _ (Walks.strWide hh _ xt tx) ⟨_, Heap.get?_push_size _ rfl, rfl, rfl⟩)
  · exact wpAny_pyIter_ascii ha (main _ _ (Walks.strAscii hh _ xt tx) ⟨_, Heap.get?_push_size _ rfl, rfl, rfl⟩)

/-- a loop over a range -/
theorem for_range {σ : Type} {x : Str} {body : List Stmt} {r : Addr} {a₀ b₀ c₀' : Int} {t₀ u₀ v₀ : Tok} (n : Nat) {m₀ : Str → Option Value} {news₀ : List (Addr × Obj)} (Led : σ → List (Addr × Obj)) (ps : σ → List (Str × Value)) (P : Nat → σ → Prop) (c₀ : σ)
    (hh : A.handled = none) (hr : IsRange s.heap r a₀ b₀ c₀' t₀ u₀ v₀) (hn : Builtin.Range.rangeSize a₀ b₀ c₀' = (n : Int))
    (F : Fr h₀ env.locals s.heap m₀) (N : News h₀ env.locals s.heap news₀) (hL : ∀ p ∈ Led c₀, p ∈ news₀) (hk : HasAll m₀ (ps c₀)) (hp : P 0 c₀)
    (turn : ∀ (i : Nat) t (c : σ) (u : Str → Option Value) h tk own, i < n → P i c → OwnOff own ((Led c).map (·.1)) →
      Fr h₀ env.locals h (fun y => if y = x then some (.int (a₀ + (i : Int) * c₀') t) else kstB u (ps c) y) → News h₀ env.locals h (Led c ++ own) →
      wpAny (model prog w) A (execs body env) (FoPost h₀ env.locals { s with heap := h, toks := tk } Led ps (P (i + 1)) own Q) E { s with heap := h, toks := tk })
    (done : ∀ (c : σ) (u : Str → Option Value) h tk, P n c → Fr h₀ env.locals h (kstB u (ps c)) → News h₀ env.locals h (Led c) → Q .next { s with heap := h, toks := tk }) :
    wpAny (model prog w) A (pyIter (.ref r)) (fun it s₂ => LoopAtV prog w A h₀ env x body Q E it s₂) E s := by
  have N' : News h₀ env.locals s.heap (Led c₀) := fun p hp => N p (hL p hp)
  have main : ∀ (o : Obj) (St : Nat → Heap → Prop), (∀ i h, St i h → ∃ o, h.get? s.heap.objs.size = some o) → Walks prog w A s.heap.objs.size [s.heap.objs.size] [s.heap.objs.size] n (fun i v => i < n ∧ ∃ t, v = .int (a₀ + i * c₀') t) St → St 0 (s.heap.push o) →
      LoopAtV prog w A h₀ env x body Q E (.ref s.heap.objs.size) { s with heap := s.heap.push o } := by
    intro o St hal W hst
    refine for_G Led ps P c₀ W ?_ ?_ ?_ hst (F.push _) (fun p hp => ⟨Heap.get?_push_of_some _ (N' p hp).1, (N' p hp).2⟩) ?_ hk hp ?_ ?_
    · intro hm
      exact absurd F.ns.lt ((List.mem_singleton.mp hm) ▸ Nat.lt_irrefl _)
    · intro b' hb
      rw [List.mem_singleton.mp hb]
      exact next_is_new F
    · intro i h ho b' hb
      rw [List.mem_singleton.mp hb]; exact hal i h ho
    · intro p hp hI
      exact absurd (Heap.lt_size (N' p hp).1) ((List.mem_singleton.mp hI) ▸ Nat.lt_irrefl _)
    · rintro i v c u h tk own hi ⟨_, t, rfl⟩ hp' hoff _ _ F₁ N₁
      exact turn i t c u h tk own hi hp' hoff F₁ N₁
    · exact done
  cases hsm : Builtin.Range.small a₀ b₀ c₀'
  · exact wpAny_pyIter_longrange hr hsm (main _ _ (fun i h st => ⟨_, st⟩) (Walks.longrange hh _ a₀ c₀' n).bound (by show IsLongIter _ _ _ _ _; rw [hn]; simpa using Heap.get?_push_size _ rfl))
  · exact wpAny_pyIter_range hr hsm (main _ _ (fun i h st => ⟨_, st⟩) (Walks.range hh _ a₀ c₀' n).bound (by show IsRangeIter _ _ _ _ _; rw [hn]; simpa using Heap.get?_push_size _ rfl))
end

/-- a call of a def of the text: what it asks, what it gives, what it raises -/
def Spec1 (prog : Program) (w : World) (K : Frag) (p : Program) (loose : List Str) (mean : ExcName → Option Value) (mg mb : Str → Option Value) (f : Addr) (pos : List Value) (kw : List (Str × Value)) (d u : Nat)
    (Pre : List (Addr × Obj) → Prop) (Out : List (Addr × Obj) → Value → Prop) (Bad : String → Prop) : Prop :=
  ∀ (dp un : Nat) (gd : Option (List Code)) (cn : Str) (cs : Scope) (a : Addr) (ccd : Value) (cl : List (Str × Addr)) (outer : List Env) (A₀ : Around) (base h₀ : Heap) (L : Addr) (m : Str → Option Value) (news : List (Addr × Obj)) (s : Shared)
    (Q E : Value → Shared → Prop),
    Below A₀ base outer h₀ → Fr h₀ L s.heap m → K.In h₀ → News h₀ L s.heap news → Top p loose mean mg mb h₀ → cs.kind = .function → dp + d < recursionLimit → un + u < cLine → Pre news →
    (∀ r tl h' tk', Fr h₀ L h' m → News h₀ L h' (tl ++ news) → (∀ q ∈ news, ∀ p ∈ tl, q.1 < p.1) → Out tl r → Q r { s with heap := h', toks := tk' }) →
    (∀ X e g h' tk', Bad X → Fr h₀ L g m → g.UpToSlots h' → RaisedN base (envX cn cs L a ccd cl :: outer) e (.type X) news h' → E (.ref e) { s with heap := h', toks := tk' }) →
    wpAny (model prog w) (ktrTop dp un gd cn cs L a ccd cl outer) (call (.ref f) pos kw) Q E s

end Mine
namespace Mine
def Halt (P : Prop) : Prop := P
theorem halt {P : Prop} (h : Halt P) : P := h
end Mine

namespace Mine
open PySem PySem.W PySem.Spec PySem.Calls PyProof.Rows

/-- the signs of base64, by their six bits -/
def sgn (k : Nat) : Nat := if k < 26 then k + 65 else if k < 52 then k + 71 else if k < 62 then k - 4 else if k = 62 then 43 else 47
def b64 : List UInt8 := [65, 66, 67, 68, 69, 70, 71, 72, 73, 74, 75, 76, 77, 78, 79, 80, 81, 82, 83, 84, 85, 86, 87, 88, 89, 90, 97, 98, 99, 100, 101, 102, 103, 104, 105, 106, 107, 108, 109, 110, 111, 112, 113, 114, 115, 116, 117, 118, 119, 120, 121, 122, 48, 49, 50, 51, 52, 53, 54, 55, 56, 57, 43, 47]
theorem b64_get : ∀ k : Fin 64, (b64.getD k.1 0).toNat = sgn k.1 := by decide +kernel

section
variable {prog : Program} {w : World} {A : Around} {E : Value → Shared → Prop} {s : Shared} {value slice : PySem.Expr} {Q : Value → Shared → Prop}
theorem item_b64 {t : Tok} {i : Int} {ui : Tok} (h0 : 0 ≤ i ∧ i < 64) (h : ∀ t' k, Q (.int (sgn i.toNat : Nat) t') { s with toks := k })
    (hs : subscripted slice false (.bytes b64.toArray t) (.int i ui) = operate [.bytes b64.toArray t, .int i ui] (getItem (.bytes b64.toArray t) (.int i ui)) := by with_unfolding_all rfl)
    (ht : ∀ r, letTemporaryGo value (.bytes b64.toArray t) r = pure () := by intro _; with_unfolding_all rfl) :
    wpAny (model prog w) A (subscriptTail value slice (.bytes b64.toArray t) (.int i ui)) Q E s := by
  refine KBy.item_N (x := b64) (by decide) h0.1 (by exact h0.2) ?_ hs ht
  have e := b64_get ⟨i.toNat, by omega⟩
  rw [show (b64.getD i.toNat 0).toNat = sgn i.toNat from e]
  exact h _ _
end

theorem and63 (x : Int) : 0 ≤ Builtin.bitAnd x 63 ∧ Builtin.bitAnd x 63 < 64 := by rw [bitAnd_m6]; omega
theorem bitOr_eq (x y : Int) : Builtin.bitOr x y = x + y - Builtin.bitAnd x y := by
  have h := bitXor_and x y
  unfold Builtin.bitXor at h
  omega
theorem bitAnd_shl (c k : Nat) (n : Nat) (h : k < 2 ^ n) : Builtin.bitAnd ((c : Int) * 2 ^ n) (k : Int) = 0 := by
  have e : ((c : Int) * 2 ^ n) = ((c * 2 ^ n : Nat) : Int) := by simp
  rw [e]
  have nn : ∀ a b : Nat, Builtin.bitAnd (a : Int) (b : Int) = ((a &&& b : Nat) : Int) := fun a b => by
    unfold Builtin.bitAnd
    rw [decide_eq_true (Int.natCast_nonneg a), decide_eq_true (Int.natCast_nonneg b)]
    rfl
  rw [nn]
  have : (c * 2 ^ n) &&& k = 0 := by
    apply Nat.eq_of_testBit_eq
    intro i
    simp only [Nat.testBit_and, Nat.zero_testBit, Nat.testBit_mul_two_pow]
    by_cases hi : n ≤ i
    · rw [Nat.testBit_lt_two_pow (Nat.lt_of_lt_of_le h (Nat.pow_le_pow_right (by decide) hi))]; simp
    · simp [hi]
  rw [this]; rfl
theorem bitOr_shl (c k : Nat) (n : Nat) (h : k < 2 ^ n) : Builtin.bitOr ((c : Int) * 2 ^ n) (k : Int) = (c : Int) * 2 ^ n + k := by
  rw [bitOr_eq, bitAnd_shl c k n h]; omega

/-- naturals as a list of ints; octets of bytes as naturals and back -/
def zs (l : List Nat) : List Int := l.map Int.ofNat
def octs (b : Array UInt8) : List Nat := b.toList.map (·.toNat)
def ofOcts (l : List Nat) : Array UInt8 := (l.map Nat.toUInt8).toArray
theorem zs_length (l : List Nat) : (zs l).length = l.length := by simp [zs]
theorem octs_length (b : Array UInt8) : (octs b).length = b.size := by simp [octs]
theorem octs_lt (b : Array UInt8) : ∀ k ∈ octs b, k < 256 := by
  intro k hk
  obtain ⟨x, _, rfl⟩ := List.mem_map.mp hk
  exact x.toNat_lt
theorem octs_get {b : Array UInt8} {i : Nat} {k : UInt8} (h : b[i]? = some k) : (octs b)[i]? = some k.toNat := by
  simp [octs, h]
theorem octs_take {b : Array UInt8} {i : Nat} {k : UInt8} (h : b[i]? = some k) : (octs b).take (i + 1) = (octs b).take i ++ [k.toNat] := by
  rw [List.take_add_one, octs_get h]; rfl
theorem octs_ofOcts {l : List Nat} (h : ∀ k ∈ l, k < 256) : octs (ofOcts l) = l := by
  unfold octs ofOcts
  simp only [List.map_map]
  refine (List.map_congr_left fun k hk => ?_).trans (List.map_id l)
  show (Nat.toUInt8 k).toNat = k
  have : (Nat.toUInt8 k).toNat = k % 256 := rfl
  rw [this]; exact Nat.mod_eq_of_lt (h k hk)
theorem ofOcts_size (l : List Nat) : (ofOcts l).size = l.length := by simp [ofOcts]
theorem ofOcts_octs (b : Array UInt8) : ofOcts (octs b) = b := by
  unfold octs ofOcts
  have : (b.toList.map (·.toNat)).map Nat.toUInt8 = b.toList := by
    rw [List.map_map]
    refine (List.map_congr_left fun k _ => ?_).trans (List.map_id _)
    show Nat.toUInt8 k.toNat = k
    exact UInt8.ofNat_toNat
  rw [this]
theorem zs_append (a b : List Nat) : zs (a ++ b) = zs a ++ zs b := by simp [zs]
theorem intsAre_snoc {vs : List Value} {l : List Nat} {k : Nat} {t : Tok} (h : IntsAre vs (zs l)) : IntsAre (vs ++ [.int (k : Int) t]) (zs (l ++ [k])) := by
  rw [zs_append]
  exact h.append (.cons _ _ .nil)
theorem snocE {vs : List Value} {l : List Nat} {k : Nat} {z : Int} {t : Tok} (h : IntsAre vs (zs l)) (e : z = (k : Int)) : IntsAre (vs ++ [.int z t]) (zs (l ++ [k])) := by
  subst e
  exact intsAre_snoc h

section
variable {prog : Program} {w : World} {A : Around} {E : Value → Shared → Prop} {s : Shared} {h₀ : Heap} {L : Addr} {m : Str → Option Value} {news : List (Addr × Obj)}
theorem bytes_Z {l : Addr} {vs : List Value} {nn : Nat} {ns : List Nat} {Q : Value → Shared → Prop} (F : Fr h₀ L s.heap m) (N : News h₀ L s.heap news) (hl : (l, listOf vs.toArray nn) ∈ news) (hi : IntsAre vs (zs ns)) (hr : ∀ n ∈ ns, n < 256) (hz : vs.length ≤ sizeLine) (hh : A.handled = none)
    (h : ∀ h' t k, Fr h₀ L h' m → News h₀ L h' news → Q (.bytes (ofOcts ns) t) { s with heap := h', toks := k }) : wpAny (model prog w) A (call (.type "bytes") [.ref l]) Q E s := by
  refine bytes_K F N ⟨_, (N _ hl).1, rfl, nn, rfl⟩ hi ?_ hz hh fun h' t k F' N' _ => ?_
  · intro n hn
    obtain ⟨x, hx, rfl⟩ := List.mem_map.mp hn
    have := hr x hx
    exact ⟨Int.natCast_nonneg x, by show ((x : Nat) : Int) < 256; omega⟩
  · have e : ((zs ns).map fun n => n.toNat.toUInt8) = ns.map Nat.toUInt8 := by
      unfold zs
      rw [List.map_map]
      rfl
    rw [e]
    exact h h' t k F' N'
end


section
variable {prog : Program} {w : World} {A : Around} {E : Value → Shared → Prop} {s : Shared} {h₀ : Heap} {L : Addr} {m : Str → Option Value} {news news' : List (Addr × Obj)}
theorem append_Z {D : Addr} {vs : List Value} {n : Nat} {x : Value} {Q : Value → Shared → Prop} (F : Fr h₀ L s.heap m) (N : News h₀ L s.heap news) (U : Upd D (listOf vs.toArray n) (listOf (vs ++ [x]).toArray (n + 1)) news news')
    (h : ∀ h', Fr h₀ L h' m → News h₀ L h' news' → Q .none { s with heap := h' }) (hsz : vs.length ≤ sizeLine) : wpAny (model prog w) A (call (.builtin "list.append") [.ref D, x]) Q E s := by
  have e : (vs ++ [x]).toArray = vs.toArray.push x := by simp
  rw [e] at U
  exact append_K F N U h (by rw [List.size_toArray]; exact hsz)
end

section
variable {prog : Program} {w : World} {A : Around} {E : Value → Shared → Prop} {s : Shared} {a b : Int} {t u : Tok} {Q : Value → Shared → Prop}
theorem band63 (h : ∀ t' k, Q (.int (a % 64) t') { s with toks := k }) : wpAny (model prog w) A (binaryOp .BitAnd (.int a t) (.int 63 u)) Q E s := and_int (by rw [bitAnd_m6]; exact h _ _)
theorem band65535 (h : ∀ t' k, Q (.int (a % 65536) t') { s with toks := k }) : wpAny (model prog w) A (binaryOp .BitAnd (.int a t) (.int 65535 u)) Q E s := and_int (by rw [bitAnd_m16]; exact h _ _)
theorem band15 (h : ∀ t' k, Q (.int (a % 16) t') { s with toks := k }) : wpAny (model prog w) A (binaryOp .BitAnd (.int a t) (.int 15 u)) Q E s := and_int (by rw [bitAnd_m4]; exact h _ _)
theorem band3 (h : ∀ t' k, Q (.int (a % 4) t') { s with toks := k }) : wpAny (model prog w) A (binaryOp .BitAnd (.int a t) (.int 3 u)) Q E s := and_int (by rw [bitAnd_m2]; exact h _ _)
theorem bor_sum {c : Int} (n : Nat) (d : Int) (ha : a = c * d) (hc : 0 ≤ c) (hb : 0 ≤ b ∧ b < d) (hd : d = 2 ^ n) (h : ∀ t' k, Q (.int (a + b) t') { s with toks := k }) : wpAny (model prog w) A (binaryOp .BitOr (.int a t) (.int b u)) Q E s := by
  have e : Builtin.bitOr a b = a + b := by
    obtain ⟨c, rfl⟩ := Int.eq_ofNat_of_zero_le hc
    obtain ⟨b, rfl⟩ := Int.eq_ofNat_of_zero_le hb.1
    rw [ha, hd]
    refine bitOr_shl c b n ?_
    have := hb.2
    rw [hd, ← kbt_cast] at this
    exact Int.ofNat_lt.mp this
  exact or_int (by rw [e]; exact h _ _)
theorem lsh_by {n : Int} (k : Nat) (d : Int) (hn : n = (k : Int)) (hd : (2 : Int) ^ k = d) (hk : k ≤ 1000) (ha : a.natAbs < 2 ^ 64) (h : ∀ t' k, Q (.int (a * d) t') { s with toks := k }) : wpAny (model prog w) A (binaryOp .LShift (.int a t) (.int n u)) Q E s := by
  subst hn
  refine lshift_int_small (Int.natCast_nonneg k) (by omega) ha ?_
  rw [Int.toNat_natCast, hd]
  exact h _ _
theorem rsh_by {n : Int} (k : Nat) (d : Int) (hn : n = (k : Int)) (hd : (2 : Int) ^ k = d) (h : ∀ t' k, Q (.int (a / d) t') { s with toks := k }) : wpAny (model prog w) A (binaryOp .RShift (.int a t) (.int n u)) Q E s := by
  subst hn
  refine rshift_int (Int.natCast_nonneg k) ?_
  rw [Int.toNat_natCast, Int.fdiv_eq_ediv_of_nonneg _ (Int.le_of_lt (kbt_pos k)), hd]
  exact h _ _
theorem addI (h : ∀ t' k, Q (.int (a + b) t') { s with toks := k }) : wpAny (model prog w) A (binaryOp .Add (.int a t) (.int b u)) Q E s := add_int (h _ _)
theorem subI (h : ∀ t' k, Q (.int (a - b) t') { s with toks := k }) : wpAny (model prog w) A (binaryOp .Sub (.int a t) (.int b u)) Q E s := sub_int (h _ _)
theorem modI (hb : 0 < b) (h : ∀ t' k, Q (.int (a % b) t') { s with toks := k }) : wpAny (model prog w) A (binaryOp .Mod (.int a t) (.int b u)) Q E s :=
  mod_int (by omega) (by rw [Int.fmod_eq_emod_of_nonneg _ (Int.le_of_lt hb)]; exact h _ _)
theorem divI (hb : 0 < b ∧ b < 1073741824) (h : ∀ t' k, Q (.int (a / b) t') { s with toks := k }) : wpAny (model prog w) A (binaryOp .FloorDiv (.int a t) (.int b u)) Q E s :=
  floordiv_int (by omega) (by rw [Int.fdiv_eq_ediv_of_nonneg _ (Int.le_of_lt hb.1)]; exact h _ _) (Or.inl (PyProof.noPylong_small (by omega)))
theorem mulI (hb : b.natAbs < 2 ^ 64 ∨ a.natAbs < 2 ^ 64) (h : ∀ t' k, Q (.int (a * b) t') { s with toks := k }) : wpAny (model prog w) A (binaryOp .Mult (.int a t) (.int b u)) Q E s :=
  mul_int (h _ _) (hb.elim (fun h => IntMulOk.of_right (intBits_le_iff.mpr h)) fun h => IntMulOk.of_left (intBits_le_iff.mpr h))
theorem constI {env : Env} {pos : Pos} {i : Int} {kk : Nat} (h : ∀ t' k, Q (.int i t') { s with toks := k }) : wpAny (model prog w) A (eval (.Constant (.int i) kk pos) env) Q E s := wpAny_Constant_int (h _ _)
end
theorem intE {z z' : Int} {t : Tok} (h : z = z') : Value.int z t = Value.int z' t := by rw [h]
theorem sgE {z : Int} {j : Nat} (h : z.toNat = j) : ((sgn z.toNat : Nat) : Int) = ((sgn j : Nat) : Int) := by rw [h]
theorem dropN {h₀ h : Heap} {L : Addr} {news news' : List (Addr × Obj)} (N : News h₀ L h news') (hs : ∀ p ∈ news, p ∈ news') : News h₀ L h news := fun p hp => N p (hs p hp)
theorem noneAbove {news : List (Addr × Obj)} : ∀ q ∈ news, ∀ p ∈ ([] : List (Addr × Obj)), q.1 < p.1 := fun _ _ _ h => nomatch h
theorem sgn_lt (k : Nat) (h : k < 64) : sgn k < 256 := (by decide : ∀ k : Fin 64, sgn k.1 < 256) ⟨k, h⟩

/-- the encoder's machine -/
def stepB (st : Nat × Nat × List Nat) (x : Nat) : Nat × Nat × List Nat :=
  if st.1 = 0 then (2, (st.2.1 * 256 + x) % 65536, st.2.2 ++ [sgn ((st.2.1 * 256 + x) % 65536 / 4 % 64)])
  else if st.1 = 2 then (4, (st.2.1 * 256 + x) % 65536, st.2.2 ++ [sgn ((st.2.1 * 256 + x) % 65536 / 16 % 64)])
  else (0, (st.2.1 * 256 + x) % 65536, st.2.2 ++ [sgn ((st.2.1 * 256 + x) % 65536 / 64 % 64)] ++ [sgn ((st.2.1 * 256 + x) % 65536 % 64)])
theorem stepB0 (lc : Nat) (out : List Nat) (x : Nat) : stepB (0, lc, out) x = (2, (lc * 256 + x) % 65536, out ++ [sgn ((lc * 256 + x) % 65536 / 4 % 64)]) := rfl
theorem stepB2 (lc : Nat) (out : List Nat) (x : Nat) : stepB (2, lc, out) x = (4, (lc * 256 + x) % 65536, out ++ [sgn ((lc * 256 + x) % 65536 / 16 % 64)]) := rfl
theorem stepB4 (lc : Nat) (out : List Nat) (x : Nat) : stepB (4, lc, out) x = (0, (lc * 256 + x) % 65536, out ++ [sgn ((lc * 256 + x) % 65536 / 64 % 64)] ++ [sgn ((lc * 256 + x) % 65536 % 64)]) := rfl
def runB (l : List Nat) : Nat × Nat × List Nat := l.foldl stepB (0, 0, [])
def endB (st : Nat × Nat × List Nat) : List Nat :=
  if st.1 = 0 then st.2.2 ++ [10] else if st.1 = 2 then st.2.2 ++ [sgn (st.2.1 % 4 * 16)] ++ [61] ++ [61] ++ [10] else st.2.2 ++ [sgn (st.2.1 % 16 * 4)] ++ [61] ++ [10]
def encB (l : List Nat) : List Nat := endB (runB l)
theorem encB_eq (l : List Nat) : encB l = endB (runB l) := rfl
theorem runB_snoc (l : List Nat) (x : Nat) : runB (l ++ [x]) = stepB (runB l) x := by simp [runB]
theorem runB_ok (l : List Nat) : ((runB l).1 = 0 ∨ (runB l).1 = 2 ∨ (runB l).1 = 4) ∧ (runB l).2.1 < 65536 ∧ (runB l).2.2.length ≤ 2 * l.length ∧ ∀ k ∈ (runB l).2.2, k < 256 := by
  have h : ∀ l : List Nat, let r := runB l.reverse; (r.1 = 0 ∨ r.1 = 2 ∨ r.1 = 4) ∧ r.2.1 < 65536 ∧ r.2.2.length ≤ 2 * l.length ∧ ∀ k ∈ r.2.2, k < 256 := by
    intro l
    induction l with
    | nil => simp [runB]
    | cons x l ih =>
      simp only [List.reverse_cons, runB_snoc]
      generalize runB l.reverse = r at ih
      obtain ⟨lb, lc, out⟩ := r
      obtain ⟨h1, h2, h3, h4⟩ := ih
      dsimp only at h1 h2 h3 h4
      rcases h1 with rfl | rfl | rfl <;> simp only [stepB0, stepB2, stepB4] <;> refine ⟨by simp, by omega, by simp; omega, ?_⟩ <;> intro k hk <;> simp at hk
      · rcases hk with hk | rfl
        · exact h4 k hk
        · exact sgn_lt _ (by omega)
      · rcases hk with hk | rfl
        · exact h4 k hk
        · exact sgn_lt _ (by omega)
      · rcases hk with hk | rfl | rfl
        · exact h4 k hk
        · exact sgn_lt _ (by omega)
        · exact sgn_lt _ (by omega)
  have := h l.reverse
  simpa using this
theorem encB_lt (l : List Nat) : ∀ k ∈ encB l, k < 256 := by
  obtain ⟨h1, h2, h3, h4⟩ := runB_ok l
  rw [encB_eq]
  generalize runB l = r at *
  obtain ⟨lb, lc, out⟩ := r
  dsimp only at *
  rcases h1 with rfl | rfl | rfl <;> intro k hk <;> simp [endB] at hk
  · rcases hk with hk | rfl
    · exact h4 k hk
    · decide
  · rcases hk with hk | rfl | rfl | rfl
    · exact h4 k hk
    · exact sgn_lt _ (by omega)
    · decide
    · decide
  · rcases hk with hk | rfl | rfl | rfl
    · exact h4 k hk
    · exact sgn_lt _ (by omega)
    · decide
    · decide
end Mine

namespace Mine
open PySem PySem.W PySem.Spec PySem.Calls PyProof.Rows
namespace BJ
open Builtin Builtin.Bytes
theorem slot_join : Slot "bytes" "join" "bytes.join" :=
  .of (owner := "bytes") (n := "join") (by rw [typeLookup_type, builtinLookup_eq_fast]; kernel_rfl) (by decide +kernel) (by decide +kernel) (by decide +kernel)
    (by first | exact .inl (by decide +kernel) | exact .inr (by decide +kernel)) (by rw [isSubtype_type]; kernel_rfl)
theorem type_join : typeOf (.builtin "bytes.join") = pure (.type "method_descriptor") := by show builtinType _ = _; rw [builtinType_eq_fast]; kernel_rfl
theorem entry_join : entryFor table "bytes.join" = some Builtin.«bytes.join» := entryFor_of_tree (by kernel_rfl)
theorem args_join (a b : Value) : argsOk "bytes.join" ⟨[a, b], []⟩ := by
  unfold argsOk; rw [signature?_of (id := "bytes.join") (n := ['n', 'i', 'o', 'j']) (o := ['s', 'e', 't', 'y', 'b']) (by kernel_rfl) FB.owner_bytes]; kernel_rfl
theorem take_eq {id : String} {b : Array UInt8} {t : Tok} : takeBufferQuiet? id (.bytes b t) 0 = pure (some (b, none)) := by
  unfold takeBufferQuiet? takeBuffer?
  rw [KBy.special_eq KBy.look_buffer, KBy.own_buffer]
  simp only [pure_bind]
  show ((buffer? id (.bytes b t) (full := (0 : Int) == fullReadOnly) >>= fun r => pure (r.map (·, none))).attempt >>= _) = _
  have e : ∀ full, buffer? id (.bytes b t) full = pure (some b) := by
    intro full
    unfold buffer?
    rw [KBy.special_eq KBy.look_buffer, KBy.own_buffer, KBy.own_release]
    kernel_rfl
  rw [e]
  rfl
end BJ
end Mine
namespace Mine
open PySem PySem.W PySem.Spec PySem.Calls PyProof.Rows
inductive BytesAre : List Value → List (Array UInt8) → Prop
  | nil : BytesAre [] []
  | cons (b : Array UInt8) (t : Tok) {vs : List Value} {bs : List (Array UInt8)} : BytesAre vs bs → BytesAre (.bytes b t :: vs) (b :: bs)
theorem BytesAre.snoc {vs : List Value} {bs : List (Array UInt8)} {b : Array UInt8} {t : Tok} (h : BytesAre vs bs) : BytesAre (vs ++ [.bytes b t]) (bs ++ [b]) := by
  induction h with
  | nil => exact .cons _ _ .nil
  | cons b t _ ih => exact .cons _ _ ih
theorem BytesAre.length {vs : List Value} {bs : List (Array UInt8)} (h : BytesAre vs bs) : vs.length = bs.length := by
  induction h with
  | nil => rfl
  | cons b t _ ih => simp [ih]
theorem BytesAre.get {vs : List Value} {bs : List (Array UInt8)} (h : BytesAre vs bs) : ∀ i, i < vs.length → ∃ b t, vs[i]? = some (.bytes b t) ∧ bs[i]? = some b := by
  induction h with
  | nil => intro i hi; exact absurd hi (Nat.not_lt_zero _)
  | cons b t _ ih =>
    intro i hi
    cases i with
    | zero => exact ⟨b, t, rfl, rfl⟩
    | succ i => simpa using ih i (by simpa using hi)
namespace BJ
open Builtin Builtin.Bytes
theorem tooLong_of {n : Nat} (h : n ≤ sizeLine) : tooLong n = false := by unfold tooLong; exact decide_eq_false (by omega)
theorem let_go {M : Model} {A : Around} {E : Value → Shared → Prop} {s : Shared} {Q : Unit → Shared → Prop} (h : Q () s) : ∀ (l keep : List Value), wpAny M A (letGo l keep) Q E s
  | [], _ => wpAny_pure h
  | _ :: r, keep => wpAny_bind (wpAny_holding (wpAny_point (let_go h r keep)))
theorem join_let_go {M : Model} {A : Around} {E : Value → Shared → Prop} {s : Shared} {Q : Unit → Shared → Prop} (h : Q () s) : ∀ (l : List (Value × Option Value)) (keep : List Value), (∀ p ∈ l, p.2 = none) → wpAny M A (joinLetGo l keep) Q E s
  | [], _, _ => wpAny_pure h
  | (x, w) :: r, keep, hn => by
    have : w = none := hn (x, w) (.head _)
    subst this
    exact wpAny_bind (let_go (join_let_go h r keep fun p hp => hn p (.tail _ hp)) _ _)

theorem joined_eq (l : List (Array UInt8)) : joined #[] l = ofOcts (l.flatMap octs) := by
  have h : ∀ (l : List (Array UInt8)) (j : Nat) (acc : Array UInt8), (l.zipIdx j).foldl (fun out (p, i) => (if i > 0 then out ++ #[] else out) ++ p) acc = acc ++ ofOcts (l.flatMap octs) := by
    intro l
    induction l with
    | nil => intro j acc; simp [ofOcts]
    | cons b l ih =>
      intro j acc
      rw [List.zipIdx_cons, List.foldl_cons, ih]
      have e : ofOcts ((b :: l).flatMap octs) = b ++ ofOcts (l.flatMap octs) := by
        rw [List.flatMap_cons]
        have := ofOcts_octs b
        unfold ofOcts at *
        rw [List.map_append, ← List.append_toArray, this]
      rw [e]
      simp [Array.append_assoc]
  unfold joined
  rw [h l 0 #[]]
  simp
theorem joined_size (l : List (Array UInt8)) : (joined #[] l).size = l.foldl (· + ·.size) 0 := by
  rw [joined_eq, ofOcts_size]
  have h : ∀ (l : List (Array UInt8)) (k : Nat), l.foldl (· + ·.size) k = k + (l.flatMap octs).length := by
    intro l
    induction l with
    | nil => intro k; simp
    | cons b l ih => intro k; rw [List.foldl_cons, ih, List.flatMap_cons, List.length_append, octs_length]; omega
  rw [h l 0]; omega

theorem meets_join {a : Addr} {bs : List (Array UInt8)} {vs : List Value} {t : Tok} (hv : BytesAre vs bs) :
    Meets («bytes.join» ⟨[.bytes #[] t, .ref a], []⟩) (fun _ R s => s.heap.IsList a vs.toArray ∧ (bs.foldl (· + ·.size) 0) ≤ sizeLine ∧ ∀ t' k, R (.ok (.ret (.bytes (joined #[] bs) t'))) { s with toks := k }) := by
  refine .of_wp fun prog w A R s hS => ?_
  obtain ⟨⟨o, ho, hc, n, hd⟩, hsz, h⟩ := hS
  have hT : s.TypeIs (.ref a) "list" := ⟨o, ho, hc⟩
  show wpAny _ _ (joinM .bytes ⟨[.bytes #[] t, .ref a], []⟩) _ _ s
  unfold joinM
  refine wpAny_bind (wpAny_of_eq (a := (.bytes #[] t, .ref a)) rfl ?_)
  dsimp only
  refine wpAny_bind ?_
  unfold joinItems
  refine wpAny_bind (wpAny_typeOf hT ?_)
  refine wpAny_ite (KBc.ite_yes rfl (wpAny_pure ?_))
  refine wpAny_bind (wpAny_seqItems ho hd ?_)
  dsimp only
  refine wpAny_ite (KBc.ite_yes rfl ?_)
  have one : ∀ x, vs = [x] → ∃ b tb, x = .bytes b tb ∧ bs = [b] := by
    rintro x rfl
    cases hv with
    | cons b tb h0 => cases h0; exact ⟨b, tb, rfl, rfl⟩
  have hsz2 : vs.toArray.size = vs.length := by simp
  have hget0 : ∀ j b tb, vs[j]? = some (.bytes b tb) → j < vs.length → vs.toArray.getD j .none = .bytes b tb := by
    intro j b tb hx hjl
    simp [Array.getD, hjl]; simpa [hjl] using hx
  rcases hvs : vs with _ | ⟨x, _ | ⟨y, r⟩⟩
  case cons.nil =>
    obtain ⟨b, tb, rfl, rfl⟩ := one x hvs
    refine wpAny_bind (wpAny_typeOf (typeIs_bytes _ b tb) ?_)
    refine wpAny_ite (KBc.ite_yes rfl ?_)
    refine wpAny_bind (wpAny_rule (wpAny_pure ⟨_, rfl, ?_⟩))
    have := h tb s.toks
    have e : joined #[] [b] = b := by simp [joined]
    rw [e] at this
    exact this
  all_goals
    refine wpAny_bind ?_
    rw [← hvs]
    rw [KPc.range_list, hsz2]
    refine wpAny_forIn_list _ (fun rest st s' => s' = s ∧ ∃ j, rest = List.range' j (vs.length - j) 1 ∧ j ≤ vs.length ∧ st.1.toList = bs.take j ∧ ∀ p ∈ st.2, p.2 = none ∧ p.1.onHeap = false) _ ?_ ?_ _ _ ⟨rfl, 0, by simp, by omega, by simp, by simp⟩
    · rintro x rest ⟨parts, taken⟩ s' ⟨rfl, j, hr, hj, hp, ht⟩
      have hjl : j < vs.length := by
        rcases Nat.lt_or_ge j vs.length with h | h
        · exact h
        · rw [show vs.length - j = 0 by omega] at hr; cases hr
      rw [show vs.length - j = (vs.length - (j + 1)) + 1 by omega, List.range'_succ] at hr
      obtain ⟨rfl, rfl⟩ := List.cons.inj hr
      obtain ⟨b, tb, hx, hb⟩ := hv.get x hjl
      have hget := hget0 _ _ _ hx hjl
      refine wpAny_bind (wpAny_seqItems ho hd ?_)
      dsimp only at *
      rw [hget]
      refine wpAny_ite (KBy.ite_no ?_ ?_)
      · simp only [Bool.not_eq_true, Bool.or_eq_false_iff, List.any_eq_false]
        exact ⟨rfl, fun p hp' => by simp [(ht p hp').2]⟩
      refine wpAny_bind (wpAny_holding (wpAny_of_eq BJ.take_eq ?_))
      dsimp only
      refine wpAny_bind (wpAny_seqItems ho hd ?_)
      dsimp only
      refine wpAny_ite (KBy.ite_no (by simp) (wpAny_pure ?_))
      refine ⟨rfl, x + 1, rfl, hjl, ?_, ?_⟩
      · simp [hp, List.take_add_one, hb]
      · intro p hp'
        rcases List.mem_append.mp hp' with hp' | hp'
        · exact ht p hp'
        · rw [List.mem_singleton.mp hp']; exact ⟨rfl, rfl⟩
    · rintro ⟨parts, taken⟩ s' ⟨rfl, j, hr, hj, hp, ht⟩
      have hjl : j = vs.length := by
        rcases Nat.lt_or_ge j vs.length with h | h
        · rw [show vs.length - j = (vs.length - (j + 1)) + 1 by omega, List.range'_succ] at hr; cases hr
        · omega
      have hparts : parts = bs.toArray := by
        rw [hjl, hv.length, List.take_length] at hp
        dsimp only at hp
        rw [← hp]
      subst hparts
      dsimp only at *
      refine wpAny_bind (wpAny_of_eq (a := #[]) rfl ?_)
      refine wpAny_ite (KBy.ite_no ?_ ?_)
      · rw [tooLong_of]
        · exact Bool.false_ne_true
        · simpa using hsz
      refine wpAny_bind (wpAny_mkBytes ?_ ?_)
      · refine wpAny_bind (wpAny_holding (wpAny_point ?_))
        refine wpAny_bind (join_let_go ?_ _ _ fun p hp' => (ht p hp').1)
        exact wpAny_pure ⟨_, rfl, by simpa using h _ _⟩
      · rw [joined_size]; exact hsz
end BJ
section
variable {prog : Program} {w : World} {A : Around} {E : Value → Shared → Prop} {s : Shared} {h₀ : Heap} {L : Addr} {m : Str → Option Value} {news news' : List (Addr × Obj)} {Q : Value → Shared → Prop}
theorem join_B {l : Addr} {vs : List Value} {nn : Nat} {bs : List (Array UInt8)} {t : Tok} (N : News h₀ L s.heap news) (hl : (l, listOf vs.toArray nn) ∈ news) (hv : BytesAre vs bs) (hz : (bs.flatMap octs).length ≤ sizeLine)
    (h : ∀ t' k, Q (.bytes (ofOcts (bs.flatMap octs)) t') { s with toks := k }) : wpAny (model prog w) A (call (.builtin "bytes.join") [.bytes #[] t, .ref l]) Q E s := by
  refine call_meets BJ.slot_join (typeIs_bytes _ _ _) BJ.entry_join (BJ.args_join _ _) (BJ.meets_join hv) ⟨⟨_, (N _ hl).1, rfl, nn, rfl⟩, ?_, fun t' k => ?_⟩
  · rw [← BJ.joined_size, BJ.joined_eq, ofOcts_size]; exact hz
  · rw [BJ.joined_eq]; exact h t' k
theorem join_meth {M : Model} {pl : Sem Bool} {b : Array UInt8} {t : Tok} {Q : Value × List Value → Shared → Prop} (h : Q (.builtin "bytes.join", [.bytes b t]) s) : wpAny M A (getMethod (.bytes b t) "join" pl) Q E s := by
  with_reducible exact KBd.method_of (.bytes b t) (typeIs_bytes _ _ _) BJ.slot_join BJ.type_join KBd.noRef h
end
end Mine
namespace Mine
open PySem PySem.W PySem.Spec PySem.Calls PyProof.Rows
section
variable {prog : Program} {w : World} {A : Around} {E : Value → Shared → Prop} {s : Shared} {h₀ h : Heap} {L D b : Addr} {m : Str → Option Value} {news news' : List (Addr × Obj)} {n n2 : Nat} {vs us : List Value} {Q : Value → Shared → Prop}
theorem extend_Z (F : Fr h₀ L s.heap m) (N : News h₀ L s.heap news) (hb : (b, listOf us.toArray n2) ∈ news) (hne : us ≠ [])
    (U : Upd D (listOf vs.toArray n) (listOf (vs ++ us).toArray (n + 1)) news news') (hz : vs.length + us.length ≤ 1000000)
    (h : ∀ h', Fr h₀ L h' m → News h₀ L h' news' → Q .none { s with heap := h' }) : wpAny (model prog w) A (call (.builtin "list.extend") [.ref D, .ref b]) Q E s := by
  obtain ⟨pre, post, rfl, rfl, a, c⟩ := U.split
  have z := N (D, listOf vs.toArray n) (List.mem_append.mpr (.inr (.head _)))
  have hz1 : vs.toArray.size = vs.length := by simp
  have hz2 : us.toArray.size = us.length := by simp
  have hd : ¬(!vs.toArray.isEmpty && Builtin.List.listTooLong (vs.toArray.size + us.toArray.size)) = true := by
    have : Builtin.List.listTooLong (vs.toArray.size + us.toArray.size) = false := by
      unfold Builtin.List.listTooLong
      rw [hz1, hz2]
      first
        | exact decide_eq_false (by rw [sizeLine_eq]; omega)
        | (simp; omega)
    rw [this]; simp
  have hs1 : vs.toArray.size ≤ sizeLine := by rw [hz1, sizeLine_eq]; omega
  have hs2 : vs.toArray.size + us.toArray.size ≤ sizeLine + 1 := by rw [hz1, hz2, sizeLine_eq]; omega
  refine call_meets PySem.F.slot_list_extend ⟨_, z.1, rfl⟩ PySem.F.entry_list_extend (PySem.F.args_list_extend_2 _ _) (PySem.AutoSeq1.list_extend_list_list_0 D vs.toArray n b us.toArray n2 hd hs1 hs2) ⟨z.1, (N _ hb).1, ?_⟩
  have e : Obj.mapSeq (fun x => x ++ us.toArray) (listOf vs.toArray n) = listOf (vs ++ us).toArray (n + 1) := by
    have hl : us.length ≠ 0 := fun e => hne (List.length_eq_zero_iff.mp e)
    simp [Obj.mapSeq, W.listOf, hl]
  obtain ⟨F', N'⟩ := news_upd (f := Obj.mapSeq fun x => x ++ us.toArray) F N a c e rfl
  exact h _ F' N'
end
end Mine
namespace Mine
open PySem PySem.W PySem.Spec PySem.Calls PyProof.Rows
namespace SE
open Builtin Builtin.Str Builtin._codecs
def enc (f : Nat → List UInt8) (x : Str) : Array UInt8 := (x.cps.toList.flatMap f).toArray
theorem fold_enc (f : Nat → List UInt8) : ∀ (l : List Nat) (acc : Array UInt8), l.foldl (fun acc y => acc ++ (f y).toArray) acc = acc ++ (l.flatMap f).toArray
  | [], acc => by simp
  | y :: l, acc => by
    rw [List.foldl_cons, fold_enc f l, List.flatMap_cons, ← List.append_toArray, Array.append_assoc]
theorem narrow_ok {M : Model} {A : Around} {E : Value → Shared → Prop} {s : Shared} {Q : Array UInt8 → Shared → Prop} (id : String) (c : TextCodec) (self : Value) (x : Str) (hg : ∀ k ∈ x.cps.toList, c.bad k = false) (hz : (enc c.bytesOf x).size ≤ sizeLine)
    (h : Q (enc c.bytesOf x) s) : wpAny M A (encodeNarrow id c none self x) Q E s := by
  have hnone : x.cps.findIdx? c.bad = none := by
    rw [Array.findIdx?_eq_none_iff]
    intro k hk
    exact hg k (Array.mem_toList_iff.mpr hk)
  unfold encodeNarrow
  dsimp only
  rw [KPc.range_list]
  refine wpAny_bind (wpAny_forIn_list _ (fun rest st s' => s' = s ∧ ((st.1 = 0 ∧ st.2.1 = #[] ∧ rest.length = x.length) ∨ (st.1 = x.cps.size ∧ st.2.1 = enc c.bytesOf x))) _ ?_ ?_ _ _ ⟨rfl, .inl ⟨rfl, rfl, by simp⟩⟩)
  · rintro y rest ⟨i, out, st⟩ s' ⟨rfl, hst⟩
    dsimp only at *
    have hout : out.size ≤ sizeLine := by
      rcases hst with ⟨_, rfl, _⟩ | ⟨_, rfl⟩
      · simp
      · exact hz
    refine wpAny_ite (KBy.ite_no (by omega) ?_)
    rcases hst with ⟨rfl, rfl, hl⟩ | ⟨rfl, rfl⟩
    · have hsz : 0 < x.cps.size := by
        have : rest.length + 1 = x.cps.size := hl
        omega
      have e1 : x.cps[0]? = some x.cps[0] := by simp [hsz]
      have hb0 : c.bad x.cps[0] = false := hg _ (by simp)
      rw [e1]
      dsimp only
      rw [hb0]
      have e2 : x.cps.extract 0 x.cps.size = x.cps := by simp
      rw [e2, hnone]
      refine wpAny_ite (KBc.ite_yes rfl (wpAny_pure ⟨rfl, .inr ⟨by simp, ?_⟩⟩))
      have := fold_enc c.bytesOf x.cps.toList #[]
      simpa [enc] using this
    · have e1 : x.cps[x.cps.size]? = none := by simp
      rw [e1]
      exact wpAny_pure (wpAny_pure h)
  · rintro ⟨i, out, st⟩ s' ⟨rfl, hst⟩
    dsimp only at *
    refine wpAny_pure ?_
    rcases hst with ⟨_, rfl, hl⟩ | ⟨_, rfl⟩
    · have e : x.cps = #[] := Array.size_eq_zero_iff.mp hl.symm
      simpa [enc, e] using h
    · exact h
theorem road_ascii (id : String) (self : Value) (x : Str) : encodeRoad id self x (Str.ofString "ascii") none = (encodeNarrow id asciiCodec none self x >>= fun b => mkBytes b) := by
  kernel_rfl
theorem entry_ascii (x : Str) (t t1 : Tok) : «str.encode» ⟨[.str x t, .str (Str.ofString "ascii") t1], []⟩ = (encodeRoad "str.encode" (.str x t) x (Str.ofString "ascii") none >>= fun v => ret v) := by kernel_rfl
theorem meets_ascii (x : Str) (t t1 : Tok) (hg : ∀ k ∈ x.cps.toList, k < 128) : Meets («str.encode» ⟨[.str x t, .str (Str.ofString "ascii") t1], []⟩) (fun _ R s => x.length ≤ sizeLine ∧ ∀ t' k, R (.ok (.ret (.bytes (ofOcts x.cps.toList) t'))) { s with toks := k }) := by
  refine .of_wp fun prog w A R s hS => ?_
  obtain ⟨hsz, h⟩ := hS
  have e : enc asciiCodec.bytesOf x = ofOcts x.cps.toList := by
    unfold enc ofOcts asciiCodec
    congr 1
    generalize x.cps.toList = l
    induction l with
    | nil => rfl
    | cons k l ih => rw [List.flatMap_cons, List.map_cons, ih]; rfl
  have hz : (enc asciiCodec.bytesOf x).size ≤ sizeLine := by rw [e, ofOcts_size]; simpa [Str.length] using hsz
  rw [entry_ascii, road_ascii]
  refine wpAny_bind (wpAny_bind (narrow_ok _ _ _ _ (fun k hk => decide_eq_false (by have := hg k hk; omega)) hz ?_))
  rw [e] at hz ⊢
  exact wpAny_mkBytes (wpAny_pure ⟨_, rfl, h _ _⟩) hz
theorem meets_utf8 (x : Str) (t : Tok) (hg : ∀ k ∈ x.cps.toList, Str.isSurrogate k = false) : Meets («str.encode» ⟨[.str x t], []⟩) (fun _ R s => (enc Str.utf8Of x).size ≤ sizeLine ∧ ∀ t' k, R (.ok (.ret (.bytes (enc Str.utf8Of x) t'))) { s with toks := k }) := by
  refine .of_wp fun prog w A R s hS => ?_
  obtain ⟨hz, h⟩ := hS
  rw [encode_tree, encodeRoad_utf8]
  refine wpAny_bind (wpAny_bind (narrow_ok _ utf8Codec _ _ hg hz ?_))
  exact wpAny_mkBytes (wpAny_pure ⟨_, rfl, h _ _⟩) hz
end SE
section
variable {prog : Program} {w : World} {A : Around} {E : Value → Shared → Prop} {s : Shared} {Q : Value → Shared → Prop} {x : Str} {t t1 : Tok}
theorem enc_ascii (hg : ∀ k ∈ x.cps.toList, k < 128) (hz : x.length ≤ sizeLine) (h : ∀ t' k, Q (.bytes (ofOcts x.cps.toList) t') { s with toks := k }) :
    wpAny (model prog w) A (call (.builtin "str.encode") [.str x t, .str (Str.ofString "ascii") t1]) Q E s :=
  call_meets F.slot_str_encode (typeIs_str _ _ _) F.entry_str_encode (F.args_str_encode_2 _ _) (SE.meets_ascii x t t1 hg) ⟨hz, h⟩
theorem enc_utf8 (hg : ∀ k ∈ x.cps.toList, Str.isSurrogate k = false) (hz : (SE.enc Str.utf8Of x).size ≤ sizeLine) (h : ∀ t' k, Q (.bytes (SE.enc Str.utf8Of x) t') { s with toks := k }) :
    wpAny (model prog w) A (call (.builtin "str.encode") [.str x t]) Q E s :=
  call_meets F.slot_str_encode (typeIs_str _ _ _) F.entry_str_encode (F.args_str_encode_1 _) (SE.meets_utf8 x t hg) ⟨hz, h⟩
theorem enc_meth {M : Model} {pl : Sem Bool} {Q : Value × List Value → Shared → Prop} (h : Q (.builtin "str.encode", [.str x t]) s) : wpAny M A (getMethod (.str x t) "encode" pl) Q E s := by
  with_reducible exact getMethod_builtin (typeIs_str _ _ _) F.plainAttrs_str F.slot_str_encode F.type_str_encode (fun _ e => nomatch e) h
end
end Mine
namespace Mine
open PySem PySem.W PySem.Spec PySem.Calls PyProof.Rows
open Builtin.Str in
theorem slice_ix (lo hi : Option Int) (n : Nat) : strSliceIndices lo hi 1 n = sliceRange ((lo.elim 0 (clipAt n) : Nat) : Int) ((hi.elim n (clipAt n) : Nat) : Int) 1 := by
  unfold strSliceIndices
  simp only [show (1 : Int) > 0 by decide, if_true]
  cases lo <;> cases hi <;> simp only [Option.elim, clipAt_cast] <;> rfl
theorem slice_list (x : Str) (lo hi : Option Int) : (Txt.slice x lo hi).cps.toList = (x.cps.toList.drop (lo.elim 0 (clipAt x.length))).take (hi.elim x.length (clipAt x.length) - lo.elim 0 (clipAt x.length)) := by
  have e : ((Builtin.Str.strSliceIndices lo hi 1 x.length).filterMap (x.cps[·]?)) = (x.cps.toList.drop (lo.elim 0 (clipAt x.length))).take (hi.elim x.length (clipAt x.length) - lo.elim 0 (clipAt x.length)) := by
    rw [slice_ix, sliceRange_one, pick_run]
  unfold Txt.slice
  split
  · rename_i h
    have hl : (Builtin.Str.strSliceIndices lo hi 1 x.length).length = x.length := by simpa using h
    rw [slice_ix, sliceRange_one, List.length_map, List.length_range] at hl
    have hb : hi.elim x.length (clipAt x.length) ≤ x.length := by
      cases hi with
      | none => exact Nat.le_refl _
      | some j =>
        have := clipAt_cast x.length j
        simp only [Option.elim]
        omega
    have hx : x.cps.toList.length = x.length := by simp [Str.length]
    rcases Nat.eq_zero_or_pos x.length with h0 | h0
    · rw [List.eq_nil_of_length_eq_zero (hx.trans h0)]; simp
    · have ha : lo.elim 0 (clipAt x.length) = 0 := by omega
      rw [ha] at hl ⊢
      rw [List.drop_zero, hl, List.take_of_length_le (by omega)]
  · exact e
end Mine
namespace Mine
open PySem PySem.W PySem.Spec PySem.Calls PyProof.Rows
/-- a row of signs cut into lines -/
def linesL (w : Nat) (l : List Nat) : List Nat := if l = [] ∨ w = 0 then [] else l.take w ++ 10 :: linesL w (l.drop w)
termination_by l.length
decreasing_by
  rename_i h
  simp only [not_or] at h
  have : l.length ≠ 0 := fun e => h.1 (List.length_eq_zero_iff.mp e)
  simp only [List.length_drop]; omega
theorem linesL_nil (w : Nat) : linesL w [] = [] := by rw [linesL]; simp
theorem linesL_cons (w : Nat) {l : List Nat} (h : l ≠ []) (hw : w ≠ 0) : linesL w l = l.take w ++ 10 :: linesL w (l.drop w) := by
  rw [linesL]; simp [h, hw]
theorem linesL_len (w : Nat) (l : List Nat) : (linesL w l).length ≤ 2 * l.length := by
  by_cases h : l = [] ∨ w = 0
  · rw [linesL, if_pos h]; simp
  · simp only [not_or] at h
    have hl : l.length ≠ 0 := fun e => h.1 (List.length_eq_zero_iff.mp e)
    rw [linesL_cons w h.1 h.2]
    have ih := linesL_len w (l.drop w)
    simp only [List.length_append, List.length_cons, List.length_take, List.length_drop] at *
    omega
termination_by l.length
decreasing_by simp only [List.length_drop]; omega
theorem linesL_all (p : Nat → Prop) (h10 : p 10) (w : Nat) (l : List Nat) (hl : ∀ k ∈ l, p k) : ∀ k ∈ linesL w l, p k := by
  by_cases h : l = [] ∨ w = 0
  · rw [linesL, if_pos h]; simp
  · simp only [not_or] at h
    have hl' : l.length ≠ 0 := fun e => h.1 (List.length_eq_zero_iff.mp e)
    rw [linesL_cons w h.1 h.2]
    have ih := linesL_all p h10 w (l.drop w) fun k hk => hl k (List.mem_of_mem_drop hk)
    intro k hk
    rcases List.mem_append.mp hk with hk | hk
    · exact hl k (List.mem_of_mem_take hk)
    · rcases List.mem_cons.mp hk with rfl | hk
      · exact h10
      · exact ih k hk
termination_by l.length
decreasing_by simp only [List.length_drop]; omega
theorem str_len (x : Str) : x.cps.toList.length = x.length := by simp [Str.length]
theorem str_cat (x y : Str) : (x ++ y).cps.toList = x.cps.toList ++ y.cps.toList := by rw [Str.cps_append, Array.toList_append]
theorem str_nil {x : Str} : x.cps.toList = [] ↔ x = Str.ofString "" := by
  have e : (Str.ofString "").cps = #[] := by decide
  constructor
  · intro h
    refine Str.ext' ?_
    rw [e]
    exact Array.toList_inj.mp h
  · rintro rfl
    rw [e]
theorem str_ne {x : Str} (h : (x != Str.ofString "") = true) : x.cps.toList ≠ [] := fun e => by
  rw [str_nil.mp e] at h
  exact absurd h (by decide)
theorem clip_pos (n : Nat) (i : Int) (h : 0 ≤ i) : clipAt n i = min i.toNat n := by
  obtain ⟨k, rfl⟩ := Int.eq_ofNat_of_zero_le h
  rw [clipAt_nat]; rfl
theorem slice_take (x : Str) (i : Int) (h : 0 ≤ i) : (Txt.slice x none (some i)).cps.toList = x.cps.toList.take i.toNat := by
  rw [slice_list]
  simp only [Option.elim, List.drop_zero, Nat.sub_zero]
  rw [clip_pos _ _ h]
  rcases Nat.le_total i.toNat x.length with h1 | h1
  · rw [Nat.min_eq_left h1]
  · rw [Nat.min_eq_right h1, List.take_of_length_le (by rw [str_len]; omega), List.take_of_length_le (by rw [str_len]; omega)]
theorem slice_drop (x : Str) (i : Int) (h : 0 ≤ i) : (Txt.slice x (some i) none).cps.toList = x.cps.toList.drop i.toNat := by
  rw [slice_list]
  simp only [Option.elim]
  rw [clip_pos _ _ h]
  rcases Nat.le_total i.toNat x.length with h1 | h1
  · rw [Nat.min_eq_left h1, List.take_of_length_le (by rw [List.length_drop, str_len]; omega)]
  · rw [Nat.min_eq_right h1, List.drop_of_length_le (by rw [str_len]; omega), List.drop_of_length_le (by rw [str_len]; omega)]; simp
end Mine

namespace Mine
open PySem PySem.W PySem.Spec PySem.Calls PyProof.Rows
section
variable {prog : Program} {w : World} {A : Around} {E : Value → Shared → Prop} {s : Shared} {value slice : PySem.Expr} {Q : Value → Shared → Prop}
/-- a text's sign at a known place -/
theorem item_S {x : Str} {t : Tok} {i : Int} {ui : Tok} {c : Nat} (h0 : 0 ≤ i ∧ i < 1000000) (hc : x.cps.toList[i.toNat]? = some c) (h : ∀ t' k, Q (.str ⟨#[c]⟩ t') { s with toks := k })
    (hs : subscripted slice false (.str x t) (.int i ui) = operate [.str x t, .int i ui] (getItem (.str x t) (.int i ui)) := by with_unfolding_all rfl)
    (ht : ∀ r, letTemporaryGo value (.str x t) r = pure () := by intro _; with_unfolding_all rfl) :
    wpAny (model prog w) A (subscriptTail value slice (.str x t) (.int i ui)) Q E s := by
  have hx : x.cps[i.toNat]? = some c := by rw [← Array.getElem?_toList]; exact hc
  have hlt : i.toNat < x.length := by
    rcases Nat.lt_or_ge i.toNat x.cps.size with h1 | h1
    · exact h1
    · rw [Array.getElem?_eq_none h1] at hx; cases hx
  have e : seqIndex? i x.length = some i.toNat := by
    have h1 : ¬ i < 0 := by omega
    have h2 : i < (x.length : Int) := by omega
    simp [seqIndex?, h1, h2, h0.1]
  exact tail_of_ItemOn ⟨"str", _, F.slot_str_getitem.lookup, typeIs_str _ _ _, P.getItem_str (c := c) (by simp; omega) (by rw [e]; exact hx) (h _ _)⟩ hs ht
/-- a text of one sign, some times over -/
theorem mul_one_S {x : Str} {c : Nat} {n : Int} {t u : Tok} (hx : x.cps = #[c]) (hn : 0 ≤ n ∧ n ≤ 1000) (h : ∀ y t' k, y.cps.toList = List.replicate n.toNat c → Q (.str y t') { s with toks := k }) :
    wpAny (model prog w) A (binaryOp .Mult (.str x t) (.int n u)) Q E s := by
  have hl : x.length = 1 := by show x.cps.size = 1; rw [hx]; rfl
  refine SB.mul ⟨?_, ?_, ?_⟩ fun t' k => h _ t' k ?_
  · simp; omega
  · intro h1 _ h2
    rw [hl] at h2
    have : (1 : Int) ≤ (2 ^ 63 - 1) / n := by
      refine (Int.le_ediv_iff_mul_le (by omega)).mpr ?_
      omega
    omega
  · intro _ _
    unfold Builtin.Str.tooLong
    rw [hl]
    first
      | exact decide_eq_false (by rw [sizeLine_eq]; omega)
      | (simp [sizeLine_eq]; omega)
  · obtain ⟨k, rfl⟩ := Int.eq_ofNat_of_zero_le hn.1
    unfold Txt.mul
    have rep : ∀ (k : Nat) (acc : Array Nat), ((List.replicate k x.cps).foldl (· ++ ·) acc).toList = acc.toList ++ List.replicate k c := by
      intro k
      induction k with
      | zero => intro acc; simp
      | succ k ih =>
        intro acc
        rw [List.replicate_succ, List.foldl_cons, ih, Array.toList_append, hx, List.replicate_succ]
        simp
    split
    · have : k = 0 := by omega
      subst this; rfl
    · split
      · rename_i h1
        have : k = 1 := by
          rw [hl] at h1
          simp at h1
          omega
        subst this
        rw [hx]; rfl
      · have := rep k #[]
        simpa using this
theorem pow256 {n : Int} {t u : Tok} (hn : 0 ≤ n ∧ n ≤ 2) (h : ∀ (z : Nat) t' k, z = 256 ^ n.toNat → 1 ≤ z → z ≤ 65536 → Q (.int (z : Int) t') { s with toks := k }) :
    wpAny (model prog w) A (binaryOp .Pow (.int 256 t) (.int n u)) Q E s := by
  refine pow_int_small hn.1 (by omega) (by decide) ?_
  obtain ⟨k, rfl⟩ := Int.eq_ofNat_of_zero_le hn.1
  have hk : k = 0 ∨ k = 1 ∨ k = 2 := by omega
  have e : ((256 : Int) ^ (Int.ofNat k).toNat) = ((256 ^ k : Nat) : Int) := by
    show (256 : Int) ^ k = _
    simp
  have := h (256 ^ k) s.toks (s.toks + 1) rfl (by rcases hk with rfl | rfl | rfl <;> decide) (by rcases hk with rfl | rfl | rfl <;> decide)
  rw [← e] at this
  exact this
end
def alpha : Str := Str.ofString "ABCDEFGHIJKLMNOPQRSTUVWXYZabcdefghijklmnopqrstuvwxyz0123456789+/"
theorem alpha_get (k : Nat) (h : k < 64) : alpha.cps.toList[k]? = some (sgn k) := (by decide +kernel : ∀ k : Fin 64, alpha.cps.toList[k.1]? = some (sgn k.1)) ⟨k, h⟩
/-- a row of octets as one number; its low digits to base 64, as signs -/
def numOf (l : List Nat) : Nat := l.foldl (fun n o => n * 256 + o) 0
theorem numOf_snoc (l : List Nat) (x : Nat) : numOf (l ++ [x]) = numOf l * 256 + x := by simp [numOf]
def lowS : Nat → Nat → List Nat
  | 0, _ => []
  | k + 1, n => sgn (n / 64 ^ k % 64) :: lowS k n
theorem lowS_length (k n : Nat) : (lowS k n).length = k := by induction k with | zero => rfl | succ k ih => simp [lowS, ih]
def lackOf (n : Nat) : Nat := (3 - n % 3) % 3
def sigL (l : List Nat) : List Nat := (lowS ((l.length + lackOf l.length) / 3 * 4) (numOf l * 256 ^ lackOf l.length)).take ((l.length + lackOf l.length) / 3 * 4 - lackOf l.length) ++ List.replicate (lackOf l.length) 61
end Mine
namespace Mine
open PySem PySem.W PySem.Spec PySem.Calls PyProof.Rows
theorem item_alpha {i : Int} (h : 0 ≤ i ∧ i < 64) : (Txt.item (Str.ofString "ABCDEFGHIJKLMNOPQRSTUVWXYZabcdefghijklmnopqrstuvwxyz0123456789+/") i).cps.toList = [sgn i.toNat] := by
  obtain ⟨k, rfl⟩ := Int.eq_ofNat_of_zero_le h.1
  have hk : k < 64 := by omega
  exact (by decide +kernel : ∀ k : Fin 64, (Txt.item (Str.ofString "ABCDEFGHIJKLMNOPQRSTUVWXYZabcdefghijklmnopqrstuvwxyz0123456789+/") ((k.1 : Nat) : Int)).cps.toList = [sgn k.1]) ⟨k, hk⟩
theorem mul_list {x : Str} {c n : Nat} (hx : x.cps = #[c]) : (Txt.mul x (n : Int)).cps.toList = List.replicate n c := by
  have hl : x.length = 1 := by show x.cps.size = 1; rw [hx]; rfl
  unfold Txt.mul
  have rep : ∀ (k : Nat) (acc : Array Nat), ((List.replicate k x.cps).foldl (· ++ ·) acc).toList = acc.toList ++ List.replicate k c := by
    intro k
    induction k with
    | zero => intro acc; simp
    | succ k ih =>
      intro acc
      rw [List.replicate_succ, List.foldl_cons, ih, Array.toList_append, hx, List.replicate_succ]
      simp
  split
  · have : n = 0 := by omega
    subst this; rfl
  · split
    · rename_i h1
      have : n = 1 := by
        rw [hl] at h1
        simp at h1
        omega
      subst this
      rw [hx]; rfl
    · have := rep n #[]
      simpa using this
end Mine

namespace Mine
open PySem PySem.W PySem.Spec PySem.Calls PyProof.Rows
theorem noPylong_left {x y : Int} (h : x.natAbs < 1073741824) : Builtin.divisionGoesByPylong x y = false := by
  have h1 : (if x == 0 then 0 else x.natAbs.log2 / 30 + 1) ≤ 1 := by
    by_cases h0 : (x == 0) = true
    · rw [if_pos h0]; exact Nat.zero_le _
    · rw [if_neg h0]
      have hx : x.natAbs ≠ 0 := by
        intro e
        have : x = 0 := by omega
        subst this; exact h0 rfl
      have h30 : x.natAbs.log2 < 30 := (Nat.log2_lt hx).mpr h
      omega
  show (decide ((if y == 0 then 0 else y.natAbs.log2 / 30 + 1) > 300) && decide ((if x == 0 then 0 else x.natAbs.log2 / 30 + 1) > (if y == 0 then 0 else y.natAbs.log2 / 30 + 1) + 150)) = false
  rw [decide_eq_false (p := (if x == 0 then 0 else x.natAbs.log2 / 30 + 1) > _) (by omega), Bool.and_false]
section
variable {prog : Program} {w : World} {A : Around} {E : Value → Shared → Prop} {s : Shared} {h₀ : Heap} {L : Addr} {m : Str → Option Value} {news : List (Addr × Obj)} {Q : Value → Shared → Prop}
theorem range_Z {a b c : Int} {t u v : Tok} (F : Fr h₀ L s.heap m) (N : News h₀ L s.heap news) (hc : c ≠ 0) (hs : (b - a).natAbs < 1073741824)
    (h : ∀ h' tk t₁ u₁ v₁, IsRange h' s.heap.objs.size a b c t₁ u₁ v₁ → Fr h₀ L h' m → News h₀ L h' news → (∀ b o, s.heap.get? b = some o → h'.get? b = some o) → Q (.ref s.heap.objs.size) { s with heap := h', toks := tk }) :
    wpAny (model prog w) A (call (.type "range") [.int a t, .int b u, .int c v]) Q E s := range3_rows F N hc h (.inl (noPylong_left hs))
theorem range_new_zero (a b : Int) (t u v : Tok) : Meets (Builtin.«range.__new__» ⟨[.type "range", .int a t, .int b u, .int 0 v], []⟩) (raisesNew "ValueError") := by
  intro prog w A R s hS
  have e : Builtin.«range.__new__» ⟨[.type "range", .int a t, .int b u, .int 0 v], []⟩ = (rule "range.new.step-zero" >>= fun _ => (raiseError "ValueError" "range() arg 3 must not be zero" : Sem PUnit) >>= fun _ => Builtin.roomForPylong (b - a) 0 >>= fun _ => newFields "range" [.int a t, .int b u, .int 0 v] >>= fun x => ret x) := by
    have hsub := F.called_range.sub
    show (isSubtype (.type "range") (.type "range") >>= fun r => _) = _
    rw [hsub]
    kernel_rfl
  rw [e]
  first
    | exact wpAny_bind (wpAny_rule (by exact_raiseError plainExc_ValueError hS.1 hS.2))
    | exact wpAny_bind (wpAny_rule (wpAny_bind (by exact_raiseError plainExc_ValueError hS.1 hS.2)))
theorem range_zero {a b c : Int} {t u v : Tok} (hc : c = 0) (hh : A.handled = none) (h : ∀ h' tk e, Heap.NewExc s.heap h' e "ValueError" → E (.ref e) { s with heap := h', toks := tk }) :
    wpAny (model prog w) A (call (.type "range") [.int a t, .int b u, .int c v]) Q E s := by
  subst hc
  exact callType_newIn F.called_range (by decide) (F.typeCall_range_3 _ _ _) (F.newCall_range_3 _ _ _) (fun obj => F.initArgs_range_3 obj _ _ _) F.entry_range_new
    (fun A R s h => range_new_zero a b t u v prog w A R s h) ⟨hh, fun h' tk e hx => h h' tk e hx⟩
end
/-- the encoder's pieces -/
def chunkE (m : Nat) (l : List Nat) : List Nat := if l = [] ∨ m = 0 then [] else encB (l.take m) ++ chunkE m (l.drop m)
termination_by l.length
decreasing_by
  rename_i h
  simp only [not_or] at h
  have : l.length ≠ 0 := fun e => h.1 (List.length_eq_zero_iff.mp e)
  simp only [List.length_drop]; omega
theorem chunkE_nil (m : Nat) : chunkE m [] = [] := by rw [chunkE]; simp
theorem chunkE_cons (m : Nat) {l : List Nat} (h : l ≠ []) (hm : m ≠ 0) : chunkE m l = encB (l.take m) ++ chunkE m (l.drop m) := by
  rw [chunkE]; simp [h, hm]
theorem encB_len (l : List Nat) : (encB l).length ≤ 2 * l.length + 4 := by
  obtain ⟨h1, h2, h3, h4⟩ := runB_ok l
  rw [encB_eq]
  generalize runB l = r at *
  obtain ⟨lb, lc, out⟩ := r
  dsimp only at *
  rcases h1 with rfl | rfl | rfl <;> simp [endB] <;> omega
theorem chunkE_len (m : Nat) (l : List Nat) : (chunkE m l).length ≤ 6 * l.length := by
  by_cases h : l = [] ∨ m = 0
  · rw [chunkE, if_pos h]; simp
  · simp only [not_or] at h
    have hl : l.length ≠ 0 := fun e => h.1 (List.length_eq_zero_iff.mp e)
    rw [chunkE_cons m h.1 h.2]
    have ih := chunkE_len m (l.drop m)
    have := encB_len (l.take m)
    simp only [List.length_append, List.length_take, List.length_drop] at *
    omega
termination_by l.length
decreasing_by simp only [List.length_drop]; omega
theorem octs_picked (b : Array UInt8) {lo hi : Int} (h0 : 0 ≤ lo) (h1 : lo ≤ hi) : octs (KBy.picked b (some lo) (some hi)) = ((octs b).drop lo.toNat).take (hi.toNat - lo.toNat) := by
  rw [KBc.picked_eq]
  unfold octs
  simp only [Option.elim, List.map_take, List.map_drop]
  rw [clip_pos _ _ h0, clip_pos _ _ (Int.le_trans h0 h1)]
  have hl : (b.toList.map (·.toNat)).length = b.size := by simp
  generalize b.toList.map (·.toNat) = l at *
  rw [← hl]
  rcases Nat.le_total lo.toNat l.length with h | h
  · rw [Nat.min_eq_left h]
    rcases Nat.le_total hi.toNat l.length with h2 | h2
    · rw [Nat.min_eq_left h2]
    · rw [Nat.min_eq_right h2, List.take_of_length_le (by rw [List.length_drop]; omega), List.take_of_length_le (by rw [List.length_drop]; omega)]
  · rw [Nat.min_eq_right h, List.drop_of_length_le (Nat.le_refl _), List.drop_of_length_le h]; simp
theorem rangeSize_ceil (n : Nat) (m : Int) (hm : 0 < m) : Builtin.Range.rangeSize 0 (n : Int) m = (((n + m.toNat - 1) / m.toNat : Nat) : Int) := by
  obtain ⟨k, rfl⟩ := Int.eq_ofNat_of_zero_le (Int.le_of_lt hm)
  have hk : 0 < k := by omega
  unfold Builtin.Range.rangeSize
  rw [if_pos (by omega)]
  simp only [Int.toNat_natCast]
  split
  · rename_i h
    have e1 : n + k - 1 = (n - 1) + k := by omega
    rw [e1, Nat.add_div_right _ hk]
    have : ((n : Int) - 0 - 1) = ((n - 1 : Nat) : Int) := by omega
    rw [this, ← Int.natCast_ediv]
    rfl
  · have : n = 0 := by omega
    subst this
    rw [Nat.div_eq_of_lt (by omega)]; rfl
section
variable {prog : Program} {w : World} {A : Around} {E : Value → Shared → Prop} {s : Shared} {value slice : PySem.Expr} {b : Array UInt8} {t tl th : Tok} {lo hi : Int} {h₀ : Heap} {L : Addr} {m : PySem.Str → Option Value} {news : List (Addr × Obj)} {Q : Value → Shared → Prop}
theorem slice_Z (F : Fr h₀ L s.heap m) (N : News h₀ L s.heap news) (hz : b.size ≤ 16777216) (h0 : 0 ≤ lo ∧ lo ≤ hi)
    (h : ∀ h' t' k y, Fr h₀ L h' m → News h₀ L h' news → octs y = ((octs b).drop lo.toNat).take (hi.toNat - lo.toNat) → Q (.bytes y t') { s with heap := h', toks := k })
    (hs : subscripted slice false (.bytes b t) (.ref s.heap.objs.size) = operate [.ref s.heap.objs.size, .bytes b t] (getItem (.bytes b t) (.ref s.heap.objs.size)) := by with_unfolding_all rfl)
    (ht : ∀ r, letTemporaryGo value (.bytes b t) r = pure () := by intro _; with_unfolding_all rfl) :
    wpAny (model prog w) A (subscriptTail value slice (.bytes b t) (.ref s.heap.objs.size)) Q E { s with heap := s.heap.push { cls := .type "slice", data := .fields #[.int lo tl, .int hi th, .none] } } :=
  KBc.slice_K F N rfl (.int lo tl) (.int hi th) (by rw [KBw.ints_length]; exact hz) (fun h' t' k F' N' _ => h h' t' k _ F' N' (octs_picked b h0.1 h0.2)) hs ht
end
end Mine
namespace Mine
open PySem PySem.W PySem.Spec PySem.Calls PyProof.Rows
theorem Spec1.use {prog : Program} {w : World} {K : Frag} {p : Program} {loose : List Str} {mean : ExcName → Option Value} {mg mb : Str → Option Value} {f : Addr} {pos : List Value} {kw : List (Str × Value)} {d u : Nat}
    {Pre : List (Addr × Obj) → Prop} {Out : List (Addr × Obj) → Value → Prop} {Bad : String → Prop} (C : Spec1 prog w K p loose mean mg mb f pos kw d u Pre Out Bad)
    {dp un : Nat} {gd : Option (List Code)} {cn : Str} {cs : Scope} {a : Addr} {ccd : Value} {cl : List (Str × Addr)} {outer : List Env} {A₀ : Around} {base h₀ : Heap} {L : Addr} {m : Str → Option Value} {news : List (Addr × Obj)} {s : Shared}
    {Q E : Value → Shared → Prop} (B : Below A₀ base outer h₀) (F : Fr h₀ L s.heap m) (X : K.In h₀) (N : News h₀ L s.heap news) (T : Top p loose mean mg mb h₀) (hk : cs.kind = .function) (hd : dp + d < recursionLimit) (hu : un + u < cLine) (hp : Pre news)
    (ret : ∀ r tl h' tk', Fr h₀ L h' m → News h₀ L h' (tl ++ news) → (∀ q ∈ news, ∀ p ∈ tl, q.1 < p.1) → Out tl r → Q r { s with heap := h', toks := tk' })
    (bad : ∀ X e g h' tk', Bad X → Fr h₀ L g m → g.UpToSlots h' → RaisedN base (envX cn cs L a ccd cl :: outer) e (.type X) news h' → E (.ref e) { s with heap := h', toks := tk' }) :
    wpAny (model prog w) (ktrTop dp un gd cn cs L a ccd cl outer) (call (.ref f) pos kw) Q E s :=
  C dp un gd cn cs a ccd cl outer A₀ base h₀ L m news s Q E B F X N T hk hd hu hp ret bad
end Mine
namespace Mine
theorem ceil_lt {n m i : Nat} (hm : 0 < m) (h : i < (n + m - 1) / m) : i * m < n := by
  have := (Nat.le_div_iff_mul_le hm).mp (show i + 1 ≤ (n + m - 1) / m from h)
  rw [Nat.add_mul] at this
  omega
theorem ceil_ge (n m : Nat) (hm : 0 < m) : n ≤ (n + m - 1) / m * m := by
  have h1 := Nat.div_add_mod (n + m - 1) m
  have h2 := Nat.mod_lt (n + m - 1) hm
  rw [Nat.mul_comm] at h1
  omega
end Mine
namespace Mine
open PySem PySem.W PySem.Spec PySem.Calls PyProof.Rows
theorem raisedN_sub {base : Heap} {l : List Env} {e : Addr} {cls : Value} {news news' : List (Addr × Obj)} {h : Heap} (R : RaisedN base l e cls news' h) (hs : ∀ p ∈ news, p ∈ news') : RaisedN base l e cls news h := by
  obtain ⟨B, a0, h1, h2, h3⟩ := R
  exact ⟨B, a0, h1, fun q hq => h2 q (hs q hq), h3⟩
end Mine

namespace Mine
/-- the signs of a row of octets, by threes -/
def sigT : List Nat → List Nat
  | a :: b :: c :: r => sgn (a / 4) :: sgn (a % 4 * 16 + b / 16) :: sgn (b % 16 * 4 + c / 64) :: sgn (c % 64) :: sigT r
  | [a, b] => [sgn (a / 4), sgn (a % 4 * 16 + b / 16), sgn (b % 16 * 4), 61]
  | [a] => [sgn (a / 4), sgn (a % 4 * 16), 61, 61]
  | [] => []
theorem sgn_lt128 (k : Nat) : sgn k < 128 := by unfold sgn; split <;> (try split) <;> (try split) <;> (try split) <;> omega
theorem sigT_lt : ∀ l, ∀ k ∈ sigT l, k < 128
  | a :: b :: c :: r => by
    intro k hk
    simp only [sigT, List.mem_cons] at hk
    rcases hk with rfl | rfl | rfl | rfl | hk
    · exact sgn_lt128 _
    · exact sgn_lt128 _
    · exact sgn_lt128 _
    · exact sgn_lt128 _
    · exact sigT_lt r k hk
  | [a, b] => by
    intro k hk
    simp only [sigT, List.mem_cons, List.not_mem_nil, or_false] at hk
    rcases hk with rfl | rfl | rfl | rfl <;> first | exact sgn_lt128 _ | decide
  | [a] => by
    intro k hk
    simp only [sigT, List.mem_cons, List.not_mem_nil, or_false] at hk
    rcases hk with rfl | rfl | rfl | rfl <;> first | exact sgn_lt128 _ | decide
  | [] => by simp [sigT]
theorem sigT_len : ∀ l : List Nat, (sigT l).length ≤ 2 * l.length + 2
  | a :: b :: c :: r => by have := sigT_len r; simp only [sigT, List.length_cons]; omega
  | [a, b] => by simp [sigT]
  | [a] => by simp [sigT]
  | [] => by simp [sigT]
theorem sigT_ne : ∀ {l : List Nat}, l ≠ [] → sigT l ≠ []
  | a :: b :: c :: r, _ => by simp [sigT]
  | [a, b], _ => by simp [sigT]
  | [a], _ => by simp [sigT]
  | [], h => absurd rfl h
theorem sigT_cut : ∀ (q : Nat) (l : List Nat), (sigT l).take (4 * q) = sigT (l.take (3 * q)) ∧ (sigT l).drop (4 * q) = sigT (l.drop (3 * q))
  | 0, l => by simp [sigT]
  | q + 1, a :: b :: c :: r => by
    have := sigT_cut q r
    rw [show 4 * (q + 1) = 4 * q + 1 + 1 + 1 + 1 by omega, show 3 * (q + 1) = 3 * q + 1 + 1 + 1 by omega]
    simp only [sigT, List.take_succ_cons, List.drop_succ_cons, this, and_self]
  | q + 1, [a, b] => by
    rw [show 4 * (q + 1) = 4 * q + 1 + 1 + 1 + 1 by omega, show 3 * (q + 1) = 3 * q + 1 + 1 + 1 by omega]
    simp [sigT]
  | q + 1, [a] => by
    rw [show 4 * (q + 1) = 4 * q + 1 + 1 + 1 + 1 by omega, show 3 * (q + 1) = 3 * q + 1 + 1 + 1 by omega]
    simp [sigT]
  | q + 1, [] => by simp [sigT]
theorem encB_go : ∀ (l : List Nat), (∀ k ∈ l, k < 256) → ∀ lc out, endB (l.foldl stepB (0, lc, out)) = out ++ sigT l ++ [10]
  | a :: b :: c :: r, h, lc, out => by
    have ha := h a (by simp)
    have hb := h b (by simp)
    have hc := h c (by simp)
    have ih := encB_go r (fun k hk => h k (by simp [hk]))
    rw [List.foldl_cons, List.foldl_cons, List.foldl_cons, stepB0, stepB2, stepB4, ih]
    have e1 : (lc * 256 + a) % 65536 / 4 % 64 = a / 4 := by omega
    have e2 : ((lc * 256 + a) % 65536 * 256 + b) % 65536 / 16 % 64 = a % 4 * 16 + b / 16 := by omega
    have e3 : (((lc * 256 + a) % 65536 * 256 + b) % 65536 * 256 + c) % 65536 / 64 % 64 = b % 16 * 4 + c / 64 := by omega
    have e4 : (((lc * 256 + a) % 65536 * 256 + b) % 65536 * 256 + c) % 65536 % 64 = c % 64 := by omega
    rw [e1, e2, e3, e4]
    simp [sigT]
  | [a, b], h, lc, out => by
    have ha := h a (by simp)
    have hb := h b (by simp)
    rw [List.foldl_cons, List.foldl_cons, List.foldl_nil, stepB0, stepB2]
    have e1 : (lc * 256 + a) % 65536 / 4 % 64 = a / 4 := by omega
    have e2 : ((lc * 256 + a) % 65536 * 256 + b) % 65536 / 16 % 64 = a % 4 * 16 + b / 16 := by omega
    have e3 : ((lc * 256 + a) % 65536 * 256 + b) % 65536 % 16 * 4 = b % 16 * 4 := by omega
    simp [endB, e1, e2, sigT]
    congr 1
    omega
  | [a], h, lc, out => by
    have ha := h a (by simp)
    rw [List.foldl_cons, List.foldl_nil, stepB0]
    have e1 : (lc * 256 + a) % 65536 / 4 % 64 = a / 4 := by omega
    have e2 : (lc * 256 + a) % 65536 % 4 * 16 = a % 4 * 16 := by omega
    simp [endB, e1, sigT]
    congr 1
    omega
  | [], _, lc, out => by simp [endB, sigT]
theorem encB_sigT (l : List Nat) (h : ∀ k ∈ l, k < 256) : encB l = sigT l ++ [10] := by
  rw [encB_eq]; exact (encB_go l h 0 []).trans (by simp)
theorem lines_chunks (q : Nat) (hq : 0 < q) (l : List Nat) (h : ∀ k ∈ l, k < 256) : linesL (4 * q) (sigT l) = chunkE (q * 3) l := by
  by_cases hl : l = []
  · subst hl; rw [chunkE_nil]; exact linesL_nil _
  · have hn : l.length ≠ 0 := fun e => hl (List.length_eq_zero_iff.mp e)
    rw [linesL_cons _ (sigT_ne hl) (by omega), chunkE_cons _ hl (by omega), (sigT_cut q l).1, (sigT_cut q l).2, Nat.mul_comm q 3, encB_sigT _ (fun k hk => h k (List.mem_of_mem_take hk))]
    have ih := lines_chunks q hq (l.drop (3 * q)) fun k hk => h k (List.mem_of_mem_drop hk)
    rw [Nat.mul_comm q 3] at ih
    rw [ih]; simp
termination_by l.length
decreasing_by simp only [List.length_drop]; omega
theorem numOf_go : ∀ (l : List Nat) (n : Nat), l.foldl (fun n o => n * 256 + o) n = n * 256 ^ l.length + numOf l
  | [], n => by simp [numOf]
  | x :: l, n => by
    have h1 := numOf_go l (n * 256 + x)
    have h2 := numOf_go l (0 * 256 + x)
    rw [List.foldl_cons, h1]
    show _ = _ + List.foldl _ (0 * 256 + x) l
    rw [h2, List.length_cons, Nat.pow_succ, Nat.add_mul]
    simp only [Nat.zero_mul, Nat.zero_add]
    rw [Nat.mul_assoc, Nat.mul_comm 256, Nat.add_assoc]
theorem numOf_lt (l : List Nat) (h : ∀ k ∈ l, k < 256) : numOf l < 256 ^ l.length := by
  induction l with
  | nil => simp [numOf]
  | cons x l ih =>
    have := ih fun k hk => h k (by simp [hk])
    have hx := h x (by simp)
    show List.foldl _ (0 * 256 + x) l < _
    rw [numOf_go, List.length_cons, Nat.pow_succ]
    have h2 : (0 * 256 + x) * 256 ^ l.length ≤ 255 * 256 ^ l.length := Nat.mul_le_mul_right _ (by omega)
    omega
theorem lowS_add : ∀ (k x m : Nat), lowS k (x * 64 ^ k + m) = lowS k m
  | 0, _, _ => rfl
  | k + 1, x, m => by
    have e : x * 64 ^ (k + 1) + m = (x * 64) * 64 ^ k + m := by rw [Nat.pow_succ, Nat.mul_assoc, Nat.mul_comm 64]
    have hp : 0 < 64 ^ k := Nat.pow_pos (by decide)
    rw [e]
    show sgn _ :: lowS k _ = sgn _ :: lowS k _
    rw [lowS_add k (x * 64) m, Nat.mul_comm (x * 64), Nat.mul_add_div hp]
    congr 2
    omega
theorem pow_6_8 (j : Nat) : 256 ^ (3 * j) = 64 ^ (4 * j) := by
  rw [Nat.pow_mul, Nat.pow_mul]
theorem numOf_cons3 (a b c : Nat) (r : List Nat) : numOf (a :: b :: c :: r) = (a * 65536 + b * 256 + c) * 256 ^ r.length + numOf r := by
  have h := numOf_go r (((0 * 256 + a) * 256 + b) * 256 + c)
  unfold numOf at h ⊢
  rw [List.foldl_cons, List.foldl_cons, List.foldl_cons, h]
  congr 2
  omega
set_option maxHeartbeats 1000000 in
theorem sigL_sigT : ∀ (l : List Nat), (∀ k ∈ l, k < 256) → sigL l = sigT l
  | a :: b :: c :: r, h => by
    have ha := h a (by simp)
    have hb := h b (by simp)
    have hc := h c (by simp)
    have hr : ∀ k ∈ r, k < 256 := fun k hk => h k (by simp [hk])
    have ih := sigL_sigT r hr
    rw [show sigT (a :: b :: c :: r) = sgn (a / 4) :: sgn (a % 4 * 16 + b / 16) :: sgn (b % 16 * 4 + c / 64) :: sgn (c % 64) :: sigT r from rfl, ← ih]
    have hlk : lackOf (a :: b :: c :: r).length = lackOf r.length := by
      unfold lackOf; simp only [List.length_cons]; omega
    unfold sigL
    rw [hlk]
    obtain ⟨j, hj⟩ : ∃ j, r.length + lackOf r.length = 3 * j := ⟨(r.length + lackOf r.length) / 3, by unfold lackOf; omega⟩
    have hl2 : lackOf r.length ≤ 4 * j := by unfold lackOf at *; omega
    have e1 : ((a :: b :: c :: r).length + lackOf r.length) / 3 * 4 = 4 * j + 4 := by simp only [List.length_cons]; omega
    have e2 : (r.length + lackOf r.length) / 3 * 4 = 4 * j := by omega
    rw [e1, e2]
    have eN : numOf (a :: b :: c :: r) * 256 ^ lackOf r.length = (a * 65536 + b * 256 + c) * 64 ^ (4 * j) + numOf r * 256 ^ lackOf r.length := by
      rw [numOf_cons3, Nat.add_mul, Nat.mul_assoc _ (256 ^ r.length), ← Nat.pow_add, hj, pow_6_8]
    have hM : numOf r * 256 ^ lackOf r.length < 64 ^ (4 * j) := by
      rw [← pow_6_8, ← hj, Nat.pow_add]
      exact Nat.mul_lt_mul_of_pos_right (numOf_lt r hr) (Nat.pow_pos (by decide))
    rw [eN]
    generalize hMM : numOf r * 256 ^ lackOf r.length = M at *
    have hp : 0 < 64 ^ (4 * j) := Nat.pow_pos (by decide)
    have ed : ∀ X i, (X * 64 ^ (4 * j) + M) / 64 ^ (4 * j + i) = X / 64 ^ i := by
      intro X i
      rw [Nat.pow_add, ← Nat.div_div_eq_div_mul, Nat.mul_comm X, Nat.mul_add_div hp, Nat.div_eq_of_lt hM, Nat.add_zero]
    show List.take _ (sgn _ :: sgn _ :: sgn _ :: sgn _ :: lowS (4 * j) _) ++ _ = _
    rw [show 4 * j + 4 - lackOf r.length = (4 * j - lackOf r.length) + 1 + 1 + 1 + 1 by omega]
    simp only [List.take_succ_cons, List.cons_append]
    rw [lowS_add]
    have d3 := ed (a * 65536 + b * 256 + c) 3
    have d2 := ed (a * 65536 + b * 256 + c) 2
    have d1 := ed (a * 65536 + b * 256 + c) 1
    have d0 := ed (a * 65536 + b * 256 + c) 0
    rw [Nat.add_zero] at d0
    rw [d3, d2, d1, d0]
    have f3 : (a * 65536 + b * 256 + c) / 64 ^ 3 % 64 = a / 4 := by simp only [Nat.reducePow]; omega
    have f2 : (a * 65536 + b * 256 + c) / 64 ^ 2 % 64 = a % 4 * 16 + b / 16 := by simp only [Nat.reducePow]; omega
    have f1 : (a * 65536 + b * 256 + c) / 64 ^ 1 % 64 = b % 16 * 4 + c / 64 := by simp only [Nat.reducePow]; omega
    have f0 : (a * 65536 + b * 256 + c) / 64 ^ 0 % 64 = c % 64 := by simp only [Nat.reducePow]; omega
    rw [f3, f2, f1, f0]
  | [a, b], h => by
    have ha := h a (by simp)
    have hb := h b (by simp)
    have hN : numOf [a, b] * 256 ^ 1 = a * 65536 + b * 256 := by simp only [numOf, List.foldl_cons, List.foldl_nil, Nat.reducePow]; omega
    unfold sigL
    rw [show [a, b].length = 2 from rfl, show lackOf 2 = 1 from rfl, show (2 + 1) / 3 * 4 = 4 from rfl, hN]
    have f3 : (a * 65536 + b * 256) / 64 ^ 3 % 64 = a / 4 := by simp only [Nat.reducePow]; omega
    have f2 : (a * 65536 + b * 256) / 64 ^ 2 % 64 = a % 4 * 16 + b / 16 := by simp only [Nat.reducePow]; omega
    have f1 : (a * 65536 + b * 256) / 64 ^ 1 % 64 = b % 16 * 4 := by simp only [Nat.reducePow]; omega
    simp only [lowS, f3, f2, f1, sigT]
    rfl
  | [a], h => by
    have ha := h a (by simp)
    have hN : numOf [a] * 256 ^ 2 = a * 65536 := by simp only [numOf, List.foldl_cons, List.foldl_nil, Nat.reducePow]; omega
    unfold sigL
    rw [show [a].length = 1 from rfl, show lackOf 1 = 2 from rfl, show (1 + 2) / 3 * 4 = 4 from rfl, hN]
    have f3 : (a * 65536) / 64 ^ 3 % 64 = a / 4 := by simp only [Nat.reducePow]; omega
    have f2 : (a * 65536) / 64 ^ 2 % 64 = a % 4 * 16 := by simp only [Nat.reducePow]; omega
    simp only [lowS, f3, f2, sigT]
    rfl
  | [], _ => rfl
theorem law02 (l : List Nat) (h : ∀ k ∈ l, k < 256) (w : Nat) (hw : 4 ≤ w) : linesL (w - w % 4) (sigL l) = chunkE (w / 4 * 3) l := by
  rw [sigL_sigT l h, show w - w % 4 = 4 * (w / 4) by omega]
  exact lines_chunks _ (by omega) l h
theorem sigL_lt (l : List Nat) (h : ∀ k ∈ l, k < 256) : ∀ k ∈ sigL l, k < 128 := by rw [sigL_sigT l h]; exact sigT_lt l
theorem sigL_len (l : List Nat) (h : ∀ k ∈ l, k < 256) : (sigL l).length ≤ 2 * l.length + 2 := by rw [sigL_sigT l h]; exact sigT_len l
end Mine
namespace Mine
open PySem PySem.W PySem.Spec PySem.Calls PyProof.Rows
def datL (ns : List Int) : List Nat := 251 :: 255 :: ns.flatMap fun x => [(x % 256).toNat, (x / 256 % 256).toNat]
theorem datL_snoc {ns : List Int} {i : Nat} {x : Int} (h : ns[i]? = some x) : datL (ns.take (i + 1)) = datL (ns.take i) ++ [(x % 256).toNat, (x / 256 % 256).toNat] := by
  rw [List.take_add_one, h]
  simp [datL]
theorem datL_len (ns : List Int) : (datL ns).length = 2 + 2 * ns.length := by
  unfold datL
  induction ns with
  | nil => rfl
  | cons x ns ih => simp only [List.flatMap_cons, List.length_append, List.length_cons, List.length_nil] at *; omega
theorem datL_lt (ns : List Int) : ∀ k ∈ datL ns, k < 256 := by
  intro k hk
  simp only [datL, List.mem_cons, List.mem_flatMap, List.not_mem_nil, or_false] at hk
  rcases hk with rfl | rfl | ⟨x, _, rfl | rfl⟩ <;> omega
theorem snoc2E {vs : List Value} {l : List Nat} {a b : Int} {t u : Tok} {j k : Nat} (h : IntsAre vs (zs l)) (ea : a = (j : Int)) (eb : b = (k : Int)) : IntsAre (vs ++ [.int a t, .int b u]) (zs (l ++ [j, k])) := by
  subst ea; subst eb
  rw [zs_append]
  exact h.append (.cons _ _ (.cons _ _ .nil))
end Mine
namespace Mine
open PySem PySem.W PySem.Spec PySem.Calls PyProof.Rows
theorem zs_drop (k : Nat) (l : List Nat) : (zs l).drop k = zs (l.drop k) := by simp [zs, List.map_drop]
end Mine
namespace Mine
open PySem PySem.W PySem.Spec PySem.Calls PyProof.Rows
theorem sig_short {x : Str} {b : Array UInt8} (h : x.cps.toList = sigL (octs b)) (hb : b.size ≤ 150) : x.length ≤ 400 := by
  have e := congrArg List.length h
  rw [str_len] at e
  have := sigL_len (octs b) (octs_lt b)
  rw [octs_length] at this
  omega
theorem sig_plain {x : Str} {b : Array UInt8} (h : x.cps.toList = sigL (octs b)) : ∀ k ∈ x.cps.toList, k < 128 := by rw [h]; exact sigL_lt _ (octs_lt b)
theorem sig_lines {x : Str} {b : Array UInt8} (h : x.cps.toList = sigL (octs b)) (w : Nat) (hw : 4 ≤ w) : linesL (w - w % 4) x.cps.toList = chunkE (w / 4 * 3) (octs b) := by rw [h]; exact law02 _ (octs_lt b) w hw
end Mine

namespace Mine
open PySem PySem.W PySem.Spec PySem.Calls PyProof.Rows
namespace TN
open Builtin
theorem slot_type_ne : Slot "type" (cmpInfo .NotEq).2.1 "object.__ne__" :=
  .of (owner := "object") (n := "__ne__") (by rw [typeLookup_type, builtinLookup_eq_fast]; kernel_rfl) (by decide +kernel) (by decide +kernel) (by decide +kernel)
    (by first | exact .inl (by decide +kernel) | exact .inr (by decide +kernel)) (by rw [isSubtype_type]; kernel_rfl)
theorem meets_ne {X : String} (hX : ∀ s' : Shared, s'.TypeIs (.type X) "type") : Meets («object.__ne__» ⟨[.type X, .type X], []⟩) (fun _ R s => R (.ok (.ret (.bool false))) s) := by
  refine .of_wp fun prog w A R s hS => ?_
  unfold Builtin.«object.__ne__»
  refine wpAny_bind (wpAny_of_eq (a := (Value.type X, [Value.type X])) (by simp [slotArgs]) ?_)
  refine wpAny_bind (wpAny_cRoomFor_or (.inl rfl) ?_)
  refine wpAny_bind (wpAny_callSpecialIfBound?_slot (hX s) TypeEq.slot_type_eq (call_gives TypeEq.slot_type_eq (hX s) F.entry_object_eq (F.args_object_eq_2 _ _) (TypeEq.object_eq_same rfl (by simp)) ?_))
  show wpAny _ _ (truthy (.bool true) >>= fun b => ret (.bool (!b))) _ _ _
  refine wpAny_bind (wpAny_truthy_bool ?_)
  exact wpAny_pure ⟨_, rfl, hS⟩
end TN
section
variable {prog : Program} {w : World} {A : Around} {E : Value → Shared → Prop} {s : Shared} {Q : Value → Shared → Prop}
theorem ne_type_same {X : String} (hX : ∀ s' : Shared, s'.TypeIs (.type X) "type") (h : Q (.bool false) s) : wpAny (model prog w) A (compareOp .NotEq (.type X) (.type X)) Q E s := by
  show wpAny _ A (richCompare .NotEq _ _) Q E s
  exact wpAny_richCompare_same (T := "type") (hX s) (hX s) TN.slot_type_ne
    (call_meets TN.slot_type_ne (hX s) F.cmpEntry_ne (F.cmpArgs_ne _ _) (TN.meets_ne hX) ⟨(by intro e; cases e), h⟩)
end
end Mine

local macro_rules | `(tactic| walk_at "WhPost") => `(tactic| dsimp only [Mine.WhPost])
local macro_rules | `(tactic| walk_at "FoPost") => `(tactic| dsimp only [Mine.FoPost])
local macro_rules | `(tactic| k_room) => `(tactic| ktr_room)
local macro_rules | `(tactic| k_units) => `(tactic| ktr_units)
local macro_rules | `(tactic| ktr_enter) => `(tactic| (refine' code_def ?k1 ?k2 ?k3 ?k4 ?k5 ?kA ?kF ?kK ?k6 ?k7 ?k8 ?k9 ?kB ?_ ?c2 ?c3 ?c4 ?c5; (case kA => exact rfl); (case kF => exact rfl); (case kK => first | exact rfl | assumption); (case k1 => k_asm); (case k2 => k_asm); (case k3 => k_asm); (case k4 => k_asm); (case k5 => k_asm); (case k6 => k_is); (case k7 => k_is); (case k8 => ktr_room); (case k9 => first | exact BindsTo.of_eq rfl | exact binds_K (by k_in) rfl (by k_is) rfl rfl rfl | (refine' kp_binds ?kx ?ke; (case kx => k_in); (case ke => exact fun _ => rfl))); (case c5 => decide); (case kB => exact locs rfl); (case c2 => exact rfl); (case c3 => exact rfl); (case c4 => exact rfl); k_whole; intro g' L' h' FG' F' N' B' X' T'; (try dsimp only); (try k_fold)))
local macro_rules | `(tactic| walk_at "call type:type") => `(tactic| ((with_reducible show wpAny _ _ (call _ [Value.bytes _ _]) _ _ _); refine call_type_of (Tx := "bytes") rfl (by decide +kernel) ?_))
local macro_rules | `(tactic| size_fits) => `(tactic| ((try simp only [List.size_toArray, Array.size_append, List.length_append, List.length_cons, List.length_nil, PySem.sizeLine_eq]); omega))
local macro_rules | `(tactic| k_all) => `(tactic| kst_allNe)
local macro_rules | `(tactic| k_all) => `(tactic| (refine List.forall_mem_append.mpr ⟨?_, ?_⟩ <;> k_all))
local macro_rules | `(tactic| walk_at "call builtin:list.append") => `(tactic| (k_here; (try dsimp only [List.cons_append, List.nil_append]); k_dflt (refine' Mine.append_Z ?k1 ?k2 ?k3 ?_ ?z; (case k1 => k_asm); (case k2 => k_asm); (case k3 => k_upd); (case z => size_fits); k_whole); intro h' F' N'; (try k_sweep)))
local macro_rules | `(tactic| walk_at "call type:bytes") => `(tactic| (k_here; (try dsimp only [List.cons_append, List.nil_append]); k_dflt (refine' Mine.bytes_Z ?F ?N ?l ?i ?r ?z ?h ?_; (case F => k_asm); (case N => k_asm); (case l => k_memK); (case i => assumption); (case r => assumption); (case z => size_fits); (case h => with_unfolding_all rfl); k_whole); intro h' t' k' F' N'; (try k_sweep)))
local macro_rules | `(tactic| walk_at "subscriptTail") => `(tactic| (k_here; (with_reducible show wpAny _ _ (subscriptTail _ _ (Value.bytes _ _) (Value.int _ _)) _ _ _); (with_unfolding_all refine' Mine.item_b64 ?k1 ?_); (case k1 => omega); intro t' k'))
local macro_rules | `(tactic| walk_at "binaryOp Add int int") => `(tactic| (k_here; refine Mine.addI ?_; intro t' k'))
local macro_rules | `(tactic| walk_at "binaryOp Sub int int") => `(tactic| (k_here; refine Mine.subI ?_; intro t' k'))
local macro_rules | `(tactic| walk_at "binaryOp Mod int int") => `(tactic| (k_here; refine' Mine.modI ?z ?_; (case z => omega); intro t' k'))
local macro_rules | `(tactic| walk_at "binaryOp FloorDiv int int") => `(tactic| (k_here; refine' Mine.divI ?z ?_; (case z => omega); intro t' k'))
local macro_rules | `(tactic| walk_at "binaryOp Mult int int") => `(tactic| (k_here; refine' Mine.mulI ?z ?_; (case z => omega); intro t' k'))
local macro_rules | `(tactic| walk_at "eval Constant int") => `(tactic| (k_here; refine Mine.constI ?_; intro t' k'))
local macro_rules | `(tactic| walk_at "binaryOp BitAnd int int") => `(tactic| (k_here; with_reducible (first | refine Mine.band63 ?_ | refine Mine.band65535 ?_ | refine Mine.band15 ?_ | refine Mine.band3 ?_); intro t' k'))
local macro_rules | `(tactic| walk_at "binaryOp RShift int int") => `(tactic| (k_here; (first | (with_reducible refine' Mine.rsh_by 4 16 ?e ?f ?_; (case e => decide); (case f => decide)) | (with_reducible refine' Mine.rsh_by 2 4 ?e ?f ?_; (case e => decide); (case f => decide)) | (with_reducible refine' Mine.rsh_by 6 64 ?e ?f ?_; (case e => decide); (case f => decide)) | (with_reducible refine' Mine.rsh_by 0 1 ?e ?f ?_; (case e => decide); (case f => decide))); intro t' k'))
local macro_rules | `(tactic| walk_at "binaryOp LShift int int") => `(tactic| (k_here; (first | (with_reducible refine' Mine.lsh_by 8 256 ?e ?f ?g ?z ?_; (case e => decide)) | (with_reducible refine' Mine.lsh_by 4 16 ?e ?f ?g ?z ?_; (case e => decide)) | (with_reducible refine' Mine.lsh_by 2 4 ?e ?f ?g ?z ?_; (case e => decide)) | (with_reducible refine' Mine.lsh_by 6 64 ?e ?f ?g ?z ?_; (case e => decide))); (case f => decide); (case g => decide); (case z => omega); intro t' k'))
local macro_rules | `(tactic| walk_at "binaryOp BitOr int int") => `(tactic| (k_here; (first | (with_reducible refine' Mine.bor_sum 8 256 ?a ?c ?z ?d ?_; (case a => with_reducible rfl)) | (with_reducible refine' Mine.bor_sum 4 16 ?a ?c ?z ?d ?_; (case a => with_reducible rfl)) | (with_reducible refine' Mine.bor_sum 2 4 ?a ?c ?z ?d ?_; (case a => with_reducible rfl)) | (with_reducible refine' Mine.bor_sum 6 64 ?a ?c ?z ?d ?_; (case a => with_reducible rfl))); (case c => omega); (case z => omega); (case d => decide); intro t' k'))
local macro_rules | `(tactic| walk_at "getMethod str") => `(tactic| (k_here; with_reducible refine Mine.enc_meth ?_))
local macro_rules | `(tactic| walk_at "getMethod bytes") => `(tactic| (k_here; with_reducible refine Mine.join_meth ?_))
local macro_rules | `(tactic| walk_at "binaryOp Pow int int") => `(tactic| (k_here; with_reducible refine' Mine.pow256 ?z ?_; (case z => omega); intro pz t' k' hpe hp1 hp2))
local macro_rules | `(tactic| walk_at "binaryOp Mult str int") => `(tactic| (k_here; with_reducible refine' Mine.mul_one_S (c := 61) ?e ?z ?_; (case e => rfl); (case z => omega); intro my t' k' hmy))
local macro_rules | `(tactic| walk_at "subscriptTail") => `(tactic| (k_here; (with_reducible show wpAny _ _ (subscriptTail _ _ (Value.str (Str.ofString "ABCDEFGHIJKLMNOPQRSTUVWXYZabcdefghijklmnopqrstuvwxyz0123456789+/") _) (Value.int _ _)) _ _ _); (with_unfolding_all refine' Mine.item_S (c := Mine.sgn _) ?k1 ?k2 ?_); (case k1 => omega); (case k2 => exact Mine.alpha_get _ (by omega)); intro t' k'))
local macro_rules | `(tactic| walk_at "call type:range") => `(tactic| (k_here; (with_reducible show wpAny _ _ (call _ [_, _, _]) _ _ _); k_dflt (refine' Mine.range_zero ?z ?hh ?_; (case z => omega); (case hh => exact rfl)); intro _ _ _ _))
local macro_rules | `(tactic| walk_at "call type:range") => `(tactic| (k_here; (with_reducible show wpAny _ _ (call _ [_, _, _]) _ _ _); k_dflt (refine' Mine.range_Z ?F ?N ?c ?z ?_; (case F => k_asm); (case N => k_asm); (case c => first | omega | with_reducible assumption); (case z => omega)); intro _ _ _ _ _ _ _ _ _))
local macro_rules | `(tactic| walk_at "subscriptTail") => `(tactic| (k_here; (with_reducible show wpAny _ _ (subscriptTail _ (Expr.Slice _ _ none _) (Value.bytes _ _) (Value.ref _)) _ _ _); (with_reducible rename Fr _ _ _ _ => F'); (with_reducible rename News _ _ _ _ => N'); (refine' Mine.slice_Z (s := ⟨_, _, _, _, _⟩) F' N' ?z ?b ?_; (case z => omega); (case b => omega)); intro _ _ _ _ _ _ kbcK))
local macro_rules | `(tactic| walk_at "call builtin:list.extend") => `(tactic| (k_here; (with_reducible show wpAny _ _ (call (Value.builtin _) [Value.ref _, Value.ref _]) _ _ _); (try dsimp only [List.cons_append, List.nil_append]); k_dflt (refine' Mine.extend_Z ?F ?N ?b ?ne ?U ?z ?_; (case F => k_asm); (case N => k_asm); (case b => k_memK); (case ne => simp); (case U => k_upd); (case z => (simp only [List.length_cons, List.length_nil]; omega)); k_whole); intro h' F' N'; (try k_sweep)))
local macro_rules | `(tactic| walk_at "compareOp NotEq") => `(tactic| (k_here; (with_reducible show wpAny _ _ (compareOp CmpOp.NotEq (Value.type "bytes") (Value.type "bytes")) _ _ _); (refine Mine.ne_type_same PySem.TypeEq.meta_bytes ?_)))
local macro_rules | `(tactic| walk_at "compareOp NotEq") => `(tactic| (k_here; (with_reducible show wpAny _ _ (compareOp CmpOp.NotEq (Value.type "str") (Value.type "str")) _ _ _); (refine Mine.ne_type_same PySem.TypeEq.meta_str ?_)))
namespace Mine
open PySem PySem.W PySem.Spec PySem.Calls PyProof.Rows
set_option maxHeartbeats 2000000 in
theorem lines_spec (w : World) (loose : List Str) (mean : ExcName → Option Value) (mg mb : Str → Option Value) (x : Str) (tx : Tok) (wd : Int) (tw : Tok) (hx : x.length ≤ 400) (hw : 1 ≤ wd) (hg : ∀ k ∈ x.cps.toList, k < 128) :
    Spec1 PySem.Challenge.pw_ko0121_02 w (hd.heap_39 w.params) hd.view_39 loose mean mg mb 65 [.str x tx, .int wd tw] [] 2 20 (fun _ => True)
      (fun _ r => ∃ t, r = .bytes (ofOcts (linesL wd.toNat x.cps.toList)) t) (fun _ => False) := by
  unfold Spec1
  intro dp un gd cn cs a ccd cl outer A₀ base h₀ L m news s Q E B F X N T hk hdp hun hpre hret hbad
  have kq : (PySem.Challenge.rw_ko0121_02.foot = PySem.Challenge.rw_ko0121_02.foot ∧ hd.heap_39 = hd.heap_39) := by (k_fill; exact ⟨rfl, rfl⟩)
  clear kq
  w_on
  have hMk9 : KstMark := kstMark
  refine wpAny_call ?_
  k_dflt ktr_enter
  k_with "exec While Compare cons nil" => (refine halt ?_)
  k_steps
  k_with_none
  unfold Halt
  (rename Fr _ _ _ _ => lF; rename News _ _ _ _ => lN)
  refine while_G (σ := Value × Value) (fun c => news) (fun c => [("signs", .str x tx), ("width", .int wd tw), ("lines", c.1), ("rest", c.2)])
    (fun c => ∃ a ta r tr, c.1 = .str a ta ∧ c.2 = .str r tr ∧ a.cps.toList ++ linesL wd.toNat r.cps.toList = linesL wd.toNat x.cps.toList ∧ a.length + 2 * r.length ≤ 800)
    (fun c => match c.2 with | .str r _ => r.length | _ => 0) (_, _) lF lN (by exact fun _ h => h) (by kst_all) (by exact ⟨_, _, _, _, rfl, rfl, rfl, by show 0 + _ ≤ _; omega⟩) ?_
  rintro ⟨v1, v2⟩ u h tk ⟨ca, ct, cr, cu, rfl, rfl, hcat, hlen⟩ F' N'
  dsimp only at F' N' ⊢
  clear lF lN
  have hl1 := linesL_len wd.toNat x.cps.toList
  rw [← hcat, List.length_append, str_len, str_len] at hl1
  k_steps
  · rename (_ != _) = true => hne
    have hne' := str_ne hne
    have e0 : cr.cps.toList.length ≠ 0 := fun e => hne' (List.length_eq_zero_iff.mp e)
    (rename Fr _ _ _ _ => lF; rename News _ _ _ _ => lN)
    have e1 := slice_take cr wd (by omega)
    have e2 := slice_drop cr wd (by omega)
    have e3 : (Str.ofString "\n").cps.toList = [10] := by decide
    have l1 := congrArg List.length e1
    have l2 := congrArg List.length e2
    rw [List.length_take, str_len, str_len] at l1
    rw [List.length_drop, str_len, str_len] at l2
    rw [str_len] at e0
    refine whEnd lF lN (_, _) (by exact fun _ h => h) (by kst_all) (by
      refine ⟨_, _, _, _, rfl, rfl, ?_, ?_⟩
      · rw [← hcat, linesL_cons wd.toNat hne' (by omega), str_cat, str_cat, e1, e2, e3]
        simp
      · rw [← str_len (_ ++ _), str_cat, str_cat, List.length_append, List.length_append, e3, str_len, str_len, l1, l2]
        simp only [List.length_cons, List.length_nil]
        omega) (by dsimp only; rw [l2]; omega)
  · rename (_ != _) = false => hne
    have hnil : cr.cps.toList = [] := str_nil.mpr (by simpa using hne)
    rw [hnil, linesL_nil, List.append_nil] at hcat
    (rename Fr _ _ _ _ => lF; rename News _ _ _ _ => lN)
    dsimp only [List.cons_append, List.nil_append]
    refine enc_ascii (by rw [hcat]; exact linesL_all (· < 128) (by decide) _ _ hg) (by rw [sizeLine_eq]; omega) ?_
    intro t k
    rw [hcat]
    k_steps
    exact hret _ [] _ _ (by k_asm) (by k_asm) noneAbove ⟨_, rfl⟩
end Mine

namespace Mine
open PySem PySem.W PySem.Spec PySem.Calls PyProof.Rows
set_option maxHeartbeats 4000000 in
theorem b2a_spec (w : World) (loose : List Str) (mean : ExcName → Option Value) (mg mb : Str → Option Value) (b : Array UInt8) (tb : Tok) (hx : b.size ≤ 200) :
    Spec1 PySem.Challenge.pw_ko0121_02 w (hd.heap_39 w.params) hd.view_39 loose mean mg mb 43 [.bytes b tb] [] 3 20 (fun _ => True)
      (fun _ r => ∃ t, r = .bytes (ofOcts (encB (octs b))) t) (fun _ => False) := by
  unfold Spec1
  intro dp un gd cn cs a ccd cl outer A₀ base h₀ L m news s Q E B F X N T hk hdp hun hpre hret hbad
  have kq : (PySem.Challenge.rw_ko0121_02.foot = PySem.Challenge.rw_ko0121_02.foot ∧ hd.heap_39 = hd.heap_39) := by (k_fill; exact ⟨rfl, rfl⟩)
  clear kq
  w_on
  have hMk9 : KstMark := kstMark
  refine wpAny_call ?_
  k_dflt ktr_enter
  k_with "newList" => (refine halt ?_)
  k_with "pyIter bytes" => (refine halt ?_)
  k_steps
  unfold Halt
  k_dflt (refine' newList_K ?k1 ?k2 ?_; (case k1 => k_asm); (case k2 => k_asm))
  intro lo h' F' N' l1
  k_sweep
  k_steps
  k_with_none
  unfold Halt
  (rename Fr _ _ _ _ => lF; rename News _ _ _ _ => lN)
  refine for_bytes (σ := Value × Value × Obj) (fun c => (lo, c.2.2) :: news) (fun c => [("out", .ref lo), ("leftbits", c.1), ("leftchar", c.2.1), ("newline", .bool true)])
    (fun i c => ∃ st t1 t2 vs nn, st = runB ((octs b).take i) ∧ c.1 = .int (st.1 : Int) t1 ∧ c.2.1 = .int (st.2.1 : Int) t2 ∧ c.2.2 = listOf vs.toArray nn ∧ IntsAre vs (zs st.2.2)) (_, _, _) rfl lF lN (by kst_in) (by kst_all) (by exact ⟨(0,0,[]), _, _, [], _, rfl, rfl, rfl, rfl, .nil⟩) ?_ ?_
  · rintro i k t ⟨v1, v2, o⟩ u h tk own hi hk ⟨⟨lb, lc, out⟩, t1, t2, vs, nn, hst, rfl, rfl, rfl, hvs⟩ hoff F' N'
    have hok := runB_ok ((octs b).take i)
    have hnx := runB_snoc ((octs b).take i) k.toNat
    rw [← octs_take hk] at hnx
    rw [← hst] at hok hnx
    obtain ⟨h1, h2, h3, h4⟩ := hok
    have hk8 := k.toNat_lt
    dsimp only at *
    clear lF lN
    dsimp only [List.cons_append, List.nil_append] at N'
    have hlv : vs.length ≤ 400 := by rw [hvs.length]; simp only [zs_length, List.length_take, octs_length] at *; omega
    rcases h1 with rfl | rfl | rfl
    all_goals
      k_steps
      (rename Fr _ _ _ _ => lF; rename News _ _ _ _ => lN)
      first | rw [stepB0] at hnx | rw [stepB2] at hnx | rw [stepB4] at hnx
      refine foEnd lF lN (_, _, _) (by kst_in) (by intro p hp; kst_mem) (by exact hoff) (by kst_all) (by exact ⟨(_, _, _), _, _, _, _, hnx.symm, rfl, intE (by dsimp only; omega), rfl, by first | exact snocE hvs (sgE (by first | omega | (dsimp only; omega))) | exact snocE (snocE hvs (sgE (by first | omega | (dsimp only; omega)))) (sgE (by first | omega | (dsimp only; omega)))⟩)
  · rintro ⟨v1, v2, o⟩ u h tk ⟨⟨lb, lc, out⟩, t1, t2, vs, nn, hst, rfl, rfl, rfl, hvs⟩ F' N'
    rw [← octs_length, List.take_length] at hst
    have hok := runB_ok (octs b)
    have henc := encB_eq (octs b)
    have hlt := encB_lt (octs b)
    rw [← hst] at hok henc
    obtain ⟨h1, h2, h3, h4⟩ := hok
    dsimp only at *
    clear lF lN
    have hlv : vs.length ≤ 400 := by rw [hvs.length]; simp only [zs_length, List.length_take, octs_length] at *; omega
    rcases h1 with rfl | rfl | rfl
    all_goals
      k_steps
      (rename Fr _ _ _ _ => lF; rename News _ _ _ _ => lN)
      dsimp only
      refine bytes_Z (ns := encB (octs b)) lF lN (by k_memK) ?hi hlt (by size_fits) rfl ?_
      case hi =>
        rw [henc]
        first
          | exact snocE hvs rfl
          | exact snocE (snocE (snocE (snocE hvs (sgE (by first | omega | (dsimp only; omega)))) rfl) rfl) rfl
          | exact snocE (snocE (snocE hvs (sgE (by first | omega | (dsimp only; omega)))) rfl) rfl
      intro h' t k F' N'
      k_steps
      exact hret _ [] _ _ (by k_asm) (dropN (by k_asm) (by intro p hp; kst_mem)) noneAbove ⟨_, rfl⟩
end Mine

namespace Mine
open PySem PySem.W PySem.Spec PySem.Calls PyProof.Rows
set_option maxHeartbeats 4000000 in
theorem signs_spec (w : World) (loose : List Str) (mean : ExcName → Option Value) (mg mb : Str → Option Value) (b : Array UInt8) (tb : Tok) (hx : b.size ≤ 200) :
    Spec1 PySem.Challenge.pw_ko0121_02 w (hd.heap_39 w.params) hd.view_39 loose mean mg mb 58 [.bytes b tb] [] 2 20 (fun _ => True)
      (fun _ r => ∃ x t, r = .str x t ∧ x.cps.toList = sigL (octs b)) (fun _ => False) := by
  unfold Spec1
  intro dp un gd cn cs a ccd cl outer A₀ base h₀ L m news s Q E B F X N T hk hdp hun hpre hret hbad
  have kq : (PySem.Challenge.rw_ko0121_02.foot = PySem.Challenge.rw_ko0121_02.foot ∧ hd.heap_39 = hd.heap_39) := by (k_fill; exact ⟨rfl, rfl⟩)
  clear kq
  w_on
  have hMk9 : KstMark := kstMark
  refine wpAny_call ?_
  k_dflt ktr_enter
  k_with "pyIter bytes" => (refine halt ?_)
  k_steps
  k_with_none
  unfold Halt
  (rename Fr _ _ _ _ => lF; rename News _ _ _ _ => lN)
  have hol := octs_length b
  refine for_bytes (σ := Value × Value × Value) (fun c => news) (fun c => [("number", c.1), ("lacking", c.2.1), ("data", .bytes b tb), ("alphabet", c.2.2)])
    (fun i c => ∃ t t2 t3, c.1 = .int (numOf ((octs b).take i) : Int) t ∧ c.2.1 = .int (lackOf b.size : Int) t2 ∧ c.2.2 = .str (Str.ofString "ABCDEFGHIJKLMNOPQRSTUVWXYZabcdefghijklmnopqrstuvwxyz0123456789+/") t3) (_, _, _) rfl lF lN (by exact fun _ h => h) (by kst_all) (by exact ⟨_, _, _, rfl, intE (by unfold lackOf; omega), rfl⟩) ?_ ?_
  · rintro i k t ⟨v1, v2, v3⟩ u h tk own hi hk ⟨t1, t2, t3, rfl, rfl, rfl⟩ hoff F' N'
    have hk8 := k.toNat_lt
    dsimp only at *
    clear lF lN
    k_steps
    (rename Fr _ _ _ _ => lF; rename News _ _ _ _ => lN)
    refine foEnd lF lN (_, _, _) (by intro p hp; kst_mem) (by intro p hp; kst_mem) (by exact hoff) (by kst_all) (by exact ⟨_, _, _, intE (by rw [octs_take hk, numOf_snoc]; omega), rfl, rfl⟩)
  · rintro ⟨v1, v2, v3⟩ u h tk ⟨t1, t2, t3, rfl, rfl, rfl⟩ F' N'
    have hlk : lackOf b.size ≤ 2 := by unfold lackOf; omega
    have hlk2 : lackOf b.size ≤ (b.size + lackOf b.size) / 3 * 4 := by unfold lackOf; omega
    dsimp only at *
    clear lF lN
    k_with "pyIter ref" => (refine halt ?_)
    k_steps
    k_with_none
    unfold Halt
    (rename Fr _ _ _ _ => lF; rename News _ _ _ _ => lN; rename IsRange _ _ _ _ _ _ _ _ => lR)
    rename _ = 256 ^ _ => hpe
    rw [Int.toNat_natCast] at hpe
    rw [← hol, List.take_length, hol] at lF
    generalize hN : numOf (octs b) * 256 ^ lackOf b.size = NN
    refine for_range (σ := Value × Value) ((b.size + lackOf b.size) / 3 * 4) (fun c => news) (fun c => [("number", c.1), ("signs", c.2), ("lacking", .int (lackOf b.size : Int) t2), ("data", .bytes b tb), ("alphabet", .str (Str.ofString "ABCDEFGHIJKLMNOPQRSTUVWXYZabcdefghijklmnopqrstuvwxyz0123456789+/") t3)])
      (fun i c => ∃ t x t2, c.1 = .int (NN / 64 ^ i : Nat) t ∧ c.2 = .str x t2 ∧ x.cps.toList = lowS i NN) (_, _) rfl lR (by rw [rangeSize_one]; split <;> omega) lF lN (by exact fun _ h => h) (by kst_all) (by exact ⟨_, Str.ofString "", _, intE (by rw [← hN, hpe]; simp), rfl, by show _ = []; decide⟩) ?_ ?_
    · rintro i t ⟨v1, v2⟩ u h tk own hi ⟨t1, x, tx, rfl, rfl, hxl⟩ hoff F' N'
      have hlen := congrArg List.length hxl
      rw [lowS_length, str_len] at hlen
      have hlen' : x.length ≤ 400 := by omega
      dsimp only at *
      clear lF lN
      k_steps
      (rename Fr _ _ _ _ => lF; rename News _ _ _ _ => lN)
      refine foEnd lF lN (_, _) (by intro p hp; kst_mem) (by intro p hp; kst_mem) (by exact hoff) (by kst_all) (by exact ⟨_, _, _, intE (by rw [Nat.pow_succ, ← Nat.div_div_eq_div_mul]; omega), rfl, by
        rw [str_cat, hxl, item_alpha (by omega)]
        show sgn _ :: _ = sgn _ :: _
        congr 2⟩)
    · rintro ⟨v1, v2⟩ u h tk ⟨t1, x, tx, rfl, rfl, hxl⟩ F' N'
      have hlen := congrArg List.length hxl
      rw [lowS_length, str_len] at hlen
      have hlen' : x.length ≤ 400 := by omega
      dsimp only at *
      clear lF lN
      k_steps
      refine hret _ [] _ _ (by k_asm) (dropN (by k_asm) (by intro p hp; kst_mem)) noneAbove ⟨_, _, rfl, ?_⟩
      have em : (Txt.mul (Str.ofString "=") (lackOf b.size : Int)).cps.toList = List.replicate (lackOf b.size) 61 := mul_list (by decide)
      rw [str_cat, slice_take x _ (by omega), hxl, em, hlen]
      unfold sigL
      rw [hol, hN]
      congr 2
      omega
end Mine

namespace Mine
open PySem PySem.W PySem.Spec PySem.Calls PyProof.Rows
set_option maxHeartbeats 4000000 in
theorem enc_spec (w : World) (loose : List Str) (mean : ExcName → Option Value) (mg mb : Str → Option Value) (b : Array UInt8) (tb : Tok) (wd : Int) (tw : Tok) (hx : b.size ≤ 200) (hw : 4 ≤ wd) :
    Spec1 PySem.Challenge.pw_ko0121_02 w (hd.heap_39 w.params) hd.view_39 loose mean mg mb 51 [.bytes b tb, .int wd tw] [] 4 25 (fun _ => True)
      (fun _ r => ∃ t, r = .bytes (ofOcts (chunkE (wd.toNat / 4 * 3) (octs b))) t) (fun _ => False) := by
  unfold Spec1
  intro dp un gd cn cs a ccd cl outer A₀ base h₀ L m news s Q E B F X N T hk hdp hun hpre hret hbad
  have kq : (PySem.Challenge.rw_ko0121_02.foot = PySem.Challenge.rw_ko0121_02.foot ∧ hd.heap_39 = hd.heap_39) := by (k_fill; exact ⟨rfl, rfl⟩)
  clear kq
  w_on
  have hMk9 : KstMark := kstMark
  refine wpAny_call ?_
  k_dflt ktr_enter
  k_with "newList" => (refine halt ?_)
  k_steps
  unfold Halt
  k_dflt (refine' newList_K ?k1 ?k2 ?_; (case k1 => k_asm); (case k2 => k_asm))
  intro lo h' F' N' l1
  k_sweep
  k_with "pyIter ref" => (refine halt ?_)
  k_steps
  k_with_none
  unfold Halt
  (rename Fr _ _ _ _ => lF; rename News _ _ _ _ => lN; rename IsRange _ _ _ _ _ _ _ _ => lR)
  obtain ⟨mm, hmm⟩ := Int.eq_ofNat_of_zero_le (show 0 ≤ wd / 4 * 3 by omega)
  rw [hmm] at lR lF
  have hm3 : 3 ≤ mm := by omega
  refine for_range (σ := Obj) ((b.size + (mm : Int).toNat - 1) / (mm : Int).toNat) (fun c => (lo, c) :: news) (fun c => [("s", .bytes b tb), ("maxbinsize", .int (mm : Int) _), ("pieces", .ref lo)])
    (fun i c => ∃ vs nn bs, c = W.listOf vs.toArray nn ∧ BytesAre vs bs ∧ vs.length = i ∧ bs.flatMap octs ++ chunkE mm ((octs b).drop (i * mm)) = chunkE mm (octs b)) _ rfl lR (rangeSize_ceil _ _ (by omega)) lF lN (by kst_in) (by kst_all) (by exact ⟨[], _, [], rfl, .nil, rfl, by simp⟩) ?_ ?_
  · rintro i t o u h tk own hi ⟨vs, nn, bs, rfl, hvs, hvl, hcat⟩ hoff F' N'
    dsimp only at *
    clear lF lN
    dsimp only [List.cons_append, List.nil_append] at N'
    obtain ⟨j, hj⟩ : ∃ j : Nat, j = i * mm := ⟨_, rfl⟩
    have ej : (0 : Int) + (i : Int) * (mm : Int) = (j : Int) := by rw [hj]; simp
    rw [ej] at F'
    k_with "call ref" => (k_here; (with_reducible show wpAny _ _ (call (Value.ref 43) [Value.bytes _ _] _) _ _ _); refine halt ?_)
    k_steps
    k_with_none
    rename octs _ = List.take _ _ => hy
    rename Array UInt8 => yy
    unfold Halt
    k_dflt (refine' Spec1.use (b2a_spec _ _ _ _ _ _ _ ?sz) ?B ?F ?X ?N ?T ?hk ?hd ?hu ?hp ?ret ?bad; (case B => k_asm); (case F => k_asm); (case X => k_asm); (case N => k_asm); (case T => k_asm); (case hk => exact rfl); (case hd => ktr_room); (case hu => ktr_units); (case hp => trivial); (case bad => (intro _ _ _ _ _ hb; exact hb.elim)); k_whole)
    case sz =>
      rw [← octs_length, hy, List.length_take, List.length_drop, octs_length]; omega
    intro r tl h' tk' F' N' _ hr
    obtain ⟨t9, rfl⟩ := hr
    replace N' := dropN N' (fun p hp => List.mem_append.mpr (.inr hp))
    rw [Int.toNat_natCast] at hi
    have hib := ceil_lt (show 0 < mm by omega) hi
    have him : i ≤ i * mm := Nat.le_mul_of_pos_right i (by omega)
    k_steps
    (rename Fr _ _ _ _ => lF; rename News _ _ _ _ => lN)
    have hy2 : octs yy = (((octs b).drop (i * mm)).take mm) := by rw [hy, hj]; congr 1 ; omega
    refine foEnd lF lN _ (by kst_in) (by intro p hp; kst_mem) (by exact hoff) (by kst_all) (by
      refine ⟨_, _, bs ++ [_], rfl, hvs.snoc, by simp [hvl], ?_⟩
      rw [← hcat, List.flatMap_append, List.append_assoc]
      congr 1
      rw [chunkE_cons mm (l := (octs b).drop (i * mm)) (by intro e; have := congrArg List.length e; rw [List.length_drop, octs_length] at this; simp at this; omega) (by omega)]
      rw [List.drop_drop]
      simp only [List.flatMap_cons, List.flatMap_nil, List.append_nil]
      rw [octs_ofOcts (encB_lt _), hy2, Nat.add_mul, Nat.one_mul])
  · rintro o u h tk ⟨vs, nn, bs, rfl, hvs, hvl, hcat⟩ F' N'
    rw [Int.toNat_natCast] at hcat hvl
    have hge := ceil_ge b.size mm (by omega)
    rw [List.drop_of_length_le (by rw [octs_length]; exact hge), chunkE_nil, List.append_nil] at hcat
    dsimp only at *
    clear lF lN
    have hcl := chunkE_len mm (octs b)
    rw [octs_length] at hcl
    k_steps
    (rename Fr _ _ _ _ => lF; rename News _ _ _ _ => lN)
    dsimp only
    refine join_B lN (by k_memK) hvs (by rw [hcat, sizeLine_eq]; omega) ?_
    rw [hcat]
    intro t' k'
    k_steps
    exact hret _ [] _ _ (by k_asm) (dropN (by k_asm) (by intro p hp; kst_mem)) noneAbove ⟨_, by rw [show mm = wd.toNat / 4 * 3 by omega]⟩
end Mine

namespace Mine
open PySem PySem.W PySem.Spec PySem.Calls PyProof.Rows
set_option maxHeartbeats 4000000 in
theorem enc76_spec (w : World) (loose : List Str) (mean : ExcName → Option Value) (mg mb : Str → Option Value) (b : Array UInt8) (tb : Tok) (hx : b.size ≤ 200) :
    Spec1 PySem.Challenge.pw_ko0121_02 w (hd.heap_39 w.params) hd.view_39 loose mean mg mb 51 [.bytes b tb] [] 4 25 (fun _ => True)
      (fun _ r => ∃ t, r = .bytes (ofOcts (chunkE (57) (octs b))) t) (fun _ => False) := by
  unfold Spec1
  intro dp un gd cn cs a ccd cl outer A₀ base h₀ L m news s Q E B F X N T hk hdp hun hpre hret hbad
  have kq : (PySem.Challenge.rw_ko0121_02.foot = PySem.Challenge.rw_ko0121_02.foot ∧ hd.heap_39 = hd.heap_39) := by (k_fill; exact ⟨rfl, rfl⟩)
  clear kq
  w_on
  have hMk9 : KstMark := kstMark
  refine wpAny_call ?_
  k_dflt ktr_enter
  k_with "newList" => (refine halt ?_)
  k_steps
  unfold Halt
  k_dflt (refine' newList_K ?k1 ?k2 ?_; (case k1 => k_asm); (case k2 => k_asm))
  intro lo h' F' N' l1
  k_sweep
  k_with "pyIter ref" => (refine halt ?_)
  k_steps
  k_with_none
  unfold Halt
  (rename Fr _ _ _ _ => lF; rename News _ _ _ _ => lN; rename IsRange _ _ _ _ _ _ _ _ => lR)
  obtain ⟨mm, hmm⟩ := Int.eq_ofNat_of_zero_le (show 0 ≤ 76 / 4 * 3 by omega)
  rw [hmm] at lR lF
  have hm3 : 3 ≤ mm := by omega
  refine for_range (σ := Obj) ((b.size + (mm : Int).toNat - 1) / (mm : Int).toNat) (fun c => (lo, c) :: news) (fun c => [("s", .bytes b tb), ("maxbinsize", .int (mm : Int) _), ("pieces", .ref lo)])
    (fun i c => ∃ vs nn bs, c = W.listOf vs.toArray nn ∧ BytesAre vs bs ∧ vs.length = i ∧ bs.flatMap octs ++ chunkE mm ((octs b).drop (i * mm)) = chunkE mm (octs b)) _ rfl lR (rangeSize_ceil _ _ (by omega)) lF lN (by kst_in) (by kst_all) (by exact ⟨[], _, [], rfl, .nil, rfl, by simp⟩) ?_ ?_
  · rintro i t o u h tk own hi ⟨vs, nn, bs, rfl, hvs, hvl, hcat⟩ hoff F' N'
    dsimp only at *
    clear lF lN
    dsimp only [List.cons_append, List.nil_append] at N'
    obtain ⟨j, hj⟩ : ∃ j : Nat, j = i * mm := ⟨_, rfl⟩
    have ej : (0 : Int) + (i : Int) * (mm : Int) = (j : Int) := by rw [hj]; simp
    rw [ej] at F'
    k_with "call ref" => (k_here; (with_reducible show wpAny _ _ (call (Value.ref 43) [Value.bytes _ _] _) _ _ _); refine halt ?_)
    k_steps
    k_with_none
    rename octs _ = List.take _ _ => hy
    rename Array UInt8 => yy
    unfold Halt
    k_dflt (refine' Spec1.use (b2a_spec _ _ _ _ _ _ _ ?sz) ?B ?F ?X ?N ?T ?hk ?hd ?hu ?hp ?ret ?bad; (case B => k_asm); (case F => k_asm); (case X => k_asm); (case N => k_asm); (case T => k_asm); (case hk => exact rfl); (case hd => ktr_room); (case hu => ktr_units); (case hp => trivial); (case bad => (intro _ _ _ _ _ hb; exact hb.elim)); k_whole)
    case sz =>
      rw [← octs_length, hy, List.length_take, List.length_drop, octs_length]; omega
    intro r tl h' tk' F' N' _ hr
    obtain ⟨t9, rfl⟩ := hr
    replace N' := dropN N' (fun p hp => List.mem_append.mpr (.inr hp))
    rw [Int.toNat_natCast] at hi
    have hib := ceil_lt (show 0 < mm by omega) hi
    have him : i ≤ i * mm := Nat.le_mul_of_pos_right i (by omega)
    k_steps
    (rename Fr _ _ _ _ => lF; rename News _ _ _ _ => lN)
    have hy2 : octs yy = (((octs b).drop (i * mm)).take mm) := by rw [hy, hj]; congr 1 ; omega
    refine foEnd lF lN _ (by kst_in) (by intro p hp; kst_mem) (by exact hoff) (by kst_all) (by
      refine ⟨_, _, bs ++ [_], rfl, hvs.snoc, by simp [hvl], ?_⟩
      rw [← hcat, List.flatMap_append, List.append_assoc]
      congr 1
      rw [chunkE_cons mm (l := (octs b).drop (i * mm)) (by intro e; have := congrArg List.length e; rw [List.length_drop, octs_length] at this; simp at this; omega) (by omega)]
      rw [List.drop_drop]
      simp only [List.flatMap_cons, List.flatMap_nil, List.append_nil]
      rw [octs_ofOcts (encB_lt _), hy2, Nat.add_mul, Nat.one_mul])
  · rintro o u h tk ⟨vs, nn, bs, rfl, hvs, hvl, hcat⟩ F' N'
    rw [Int.toNat_natCast] at hcat hvl
    have hge := ceil_ge b.size mm (by omega)
    rw [List.drop_of_length_le (by rw [octs_length]; exact hge), chunkE_nil, List.append_nil] at hcat
    dsimp only at *
    clear lF lN
    have hcl := chunkE_len mm (octs b)
    rw [octs_length] at hcl
    k_steps
    (rename Fr _ _ _ _ => lF; rename News _ _ _ _ => lN)
    dsimp only
    refine join_B lN (by k_memK) hvs (by rw [hcat, sizeLine_eq]; omega) ?_
    rw [hcat]
    intro t' k'
    k_steps
    exact hret _ [] _ _ (by k_asm) (dropN (by k_asm) (by intro p hp; kst_mem)) noneAbove ⟨_, by rw [show mm = 57 by omega]⟩
end Mine

namespace Mine
open PySem PySem.W PySem.Spec PySem.Calls PyProof.Rows
set_option maxHeartbeats 4000000 in
theorem encbad_spec (w : World) (loose : List Str) (mean : ExcName → Option Value) (mg mb : Str → Option Value) (b : Array UInt8) (tb : Tok) (wd : Int) (tw : Tok) (hx : b.size ≤ 200) (hw : 0 ≤ wd ∧ wd < 4) :
    Spec1 PySem.Challenge.pw_ko0121_02 w (hd.heap_39 w.params) hd.view_39 loose mean mg mb 51 [.bytes b tb, .int wd tw] [] 4 25 (fun _ => True)
      (fun _ _ => False) (fun X => X = "ValueError") := by
  unfold Spec1
  intro dp un gd cn cs a ccd cl outer A₀ base h₀ L m news s Q E B F X N T hk hdp hun hpre hret hbad
  have kq : (PySem.Challenge.rw_ko0121_02.foot = PySem.Challenge.rw_ko0121_02.foot ∧ hd.heap_39 = hd.heap_39) := by (k_fill; exact ⟨rfl, rfl⟩)
  clear kq
  w_on
  have hMk9 : KstMark := kstMark
  refine wpAny_call ?_
  k_dflt ktr_enter
  k_with "newList" => (refine halt ?_)
  k_steps
  unfold Halt
  k_dflt (refine' newList_K ?k1 ?k2 ?_; (case k1 => k_asm); (case k2 => k_asm))
  intro lo h' F' N' l1
  k_sweep
  k_with_none
  k_steps
  exact hbad "ValueError" _ _ _ _ rfl (by k_asm) (by k_asm) (raisedN_sub (by k_asm) (by intro p hp; kst_mem))
end Mine

open PySem PySem.W PySem.Spec PySem.Calls PyProof.Rows
local macro_rules | `(tactic| walk_at "c58") => `(tactic| (k_here; (with_reducible show wpAny _ _ (call (Value.ref 58) [Value.bytes _ _] _) _ _ _); k_dflt (refine' Mine.Spec1.use (Mine.signs_spec _ _ _ _ _ _ _ ?sz) ?B ?F ?X ?N ?T ?hk ?hd ?hu ?hp ?ret ?bad; (case sz => first | omega | with_reducible assumption); (case B => k_asm); (case F => k_asm); (case X => k_asm); (case N => k_asm); (case T => k_asm); (case hk => exact rfl); (case hd => ktr_room); (case hu => ktr_units); (case hp => trivial); k_whole); (case bad => (intro _ _ _ _ _ hb; exact hb.elim)); intro r tl h' tk' F' N' hab hr; obtain ⟨x9, tx9, er, hx9⟩ := hr; subst er; replace N' := Mine.dropN N' (fun p hp => List.mem_append.mpr (.inr hp)); (have hs8 := Mine.sig_short hx9 (by omega)); (have hs9 := Mine.sig_plain hx9)))
local macro_rules | `(tactic| walk_at "c51") => `(tactic| (k_here; (with_reducible show wpAny _ _ (call (Value.ref 51) [Value.bytes _ _] _) _ _ _); k_dflt (refine' Mine.Spec1.use (Mine.enc76_spec _ _ _ _ _ _ _ ?sz) ?B ?F ?X ?N ?T ?hk ?hd ?hu ?hp ?ret ?bad; (case sz => first | omega | with_reducible assumption); (case B => k_asm); (case F => k_asm); (case X => k_asm); (case N => k_asm); (case T => k_asm); (case hk => exact rfl); (case hd => ktr_room); (case hu => ktr_units); (case hp => trivial); k_whole); (case bad => (intro _ _ _ _ _ hb; exact hb.elim)); intro r tl h' tk' F' N' hab hr; obtain ⟨tx9, er⟩ := hr; subst er; replace N' := Mine.dropN N' (fun p hp => List.mem_append.mpr (.inr hp))))
local macro_rules | `(tactic| walk_at "c51") => `(tactic| (k_here; (with_reducible show wpAny _ _ (call (Value.ref 51) [Value.bytes _ _, Value.int _ _] _) _ _ _); k_dflt (refine' Mine.Spec1.use (Mine.enc_spec _ _ _ _ _ _ _ _ _ ?sz ?wz) ?B ?F ?X ?N ?T ?hk ?hd ?hu ?hp ?ret ?bad; (case sz => first | omega | with_reducible assumption); (case wz => first | omega | with_reducible assumption); (case B => k_asm); (case F => k_asm); (case X => k_asm); (case N => k_asm); (case T => k_asm); (case hk => exact rfl); (case hd => ktr_room); (case hu => ktr_units); (case hp => trivial); k_whole); (case bad => (intro _ _ _ _ _ hb; exact hb.elim)); intro r tl h' tk' F' N' hab hr; obtain ⟨tx9, er⟩ := hr; subst er; replace N' := Mine.dropN N' (fun p hp => List.mem_append.mpr (.inr hp))))
local macro_rules | `(tactic| walk_at "c51") => `(tactic| (k_here; (with_reducible show wpAny _ _ (call (Value.ref 51) [Value.bytes _ _, Value.int _ _] _) _ _ _); k_dflt (refine' Mine.Spec1.use (Mine.encbad_spec _ _ _ _ _ _ _ _ _ ?sz ?wz) ?B ?F ?X ?N ?T ?hk ?hd ?hu ?hp ?ret ?bad; (case sz => first | omega | with_reducible assumption); (case wz => first | omega | with_reducible assumption); (case B => k_asm); (case F => k_asm); (case X => k_asm); (case N => k_asm); (case T => k_asm); (case hk => exact rfl); (case hd => ktr_room); (case hu => ktr_units); (case hp => trivial); k_whole); (case ret => (intro _ _ _ _ _ _ _ hb; exact hb.elim)); intro X' e' g' h' tk' hX' F' U' R'; subst hX'))
local macro_rules | `(tactic| walk_at "c65") => `(tactic| (k_here; (with_reducible show wpAny _ _ (call (Value.ref 65) [Value.str _ _, Value.int _ _] _) _ _ _); k_dflt (refine' Mine.Spec1.use (Mine.lines_spec _ _ _ _ _ _ _ _ _ ?sz ?wz ?gz) ?B ?F ?X ?N ?T ?hk ?hd ?hu ?hp ?ret ?bad; (case sz => first | omega | with_reducible assumption); (case wz => first | omega | with_reducible assumption); (case gz => first | omega | with_reducible assumption); (case B => k_asm); (case F => k_asm); (case X => k_asm); (case N => k_asm); (case T => k_asm); (case hk => exact rfl); (case hd => ktr_room); (case hu => ktr_units); (case hp => trivial); k_whole); (case bad => (intro _ _ _ _ _ hb; exact hb.elim)); intro r tl h' tk' F' N' hab hr; obtain ⟨tx9, er⟩ := hr; subst er; replace N' := Mine.dropN N' (fun p hp => List.mem_append.mpr (.inr hp))))
set_option maxHeartbeats 8000000 in
theorem PySem.Challenge.cw_ko0121_02_holds : PySem.Challenge.rw_ko0121_02.Holds := by
  exact hd (by
  k_go0
  (all_goals try k_fold)
  k_with "pyIter ref" => (refine Mine.halt ?_)
  k_steps
  k_with_none
  unfold Mine.Halt
  (rename Fr _ _ _ _ => lF; rename News _ _ _ _ => lN; rename IntsAre _ _ => hI; rename ¬ (_ < (_ : Int)) => hlen; rename Heap.IsList _ _ _ => hL; rename List Value => vs; rename IntsAre vs _ => hI)
  have hlen2 := IntsAre.length hI
  rename List Int => ns
  refine Mine.for_list (σ := Obj) (fun c => [(_, c)]) (fun c => [("octets", .ref _), ("script", .ref _)])
    (fun i c => ∃ us nn, c = W.listOf us.toArray nn ∧ IntsAre us (Mine.zs (Mine.datL (List.take i ns)))) _ rfl hL lF lN (by kst_in) (by kst_all) (by exact ⟨_, _, rfl, .cons _ _ (.cons _ _ .nil)⟩) ?_ ?_
  · rintro i v o u h tk own hi hv ⟨us, nn, rfl, hus⟩ hoff F' N'
    obtain ⟨x, tx, rfl, hx⟩ := IntsAre.at hI i v hv
    have hul := hus.length
    rw [Mine.zs_length, Mine.datL_len, List.length_take] at hul
    dsimp only at *
    dsimp only [List.cons_append, List.nil_append] at N'
    clear lF lN
    k_steps
    (rename Fr _ _ _ _ => lF; rename News _ _ _ _ => lN)
    refine Mine.foEnd lF lN _ (by kst_in) (by intro p hp; kst_mem) (by exact hoff) (by kst_all) (by
      refine ⟨_, _, rfl, ?_⟩
      rw [Mine.datL_snoc hx]
      exact Mine.snoc2E hus (by omega) (by omega))
  · rintro o u h tk ⟨us, nn, rfl, hus⟩ F' N'
    rw [hlen2, List.take_length] at hus
    have hlt9 := Mine.datL_lt ns
    have hul := hus.length
    rw [Mine.zs_length, Mine.datL_len] at hul
    dsimp only at *
    clear lF lN
    have hlt91 : ∀ k ∈ (Mine.datL ns).drop 1, k < 256 := fun k hk => hlt9 k (List.mem_of_mem_drop hk)
    have hlt92 : ∀ k ∈ (Mine.datL ns).drop 2, k < 256 := fun k hk => hlt9 k (List.mem_of_mem_drop hk)
    k_with "pyIter ref" => (refine Mine.halt ?_)
    k_steps
    rename IntsAre _ (List.drop 1 _) => hI1
    rw [Mine.zs_drop] at hI1
    have hI1l := hI1.length
    rw [Mine.zs_length, List.length_drop, Mine.datL_len] at hI1l
    k_steps
    rename IntsAre _ (List.drop 2 _) => hI2
    rw [Mine.zs_drop] at hI2
    have hI2l := hI2.length
    rw [Mine.zs_length, List.length_drop, Mine.datL_len] at hI2l
    k_steps
    k_with_none
    unfold Mine.Halt
    (rename Fr _ _ _ _ => lF; rename News _ _ _ _ => lN)
    generalize hfz : (if (ns ++ [76]).getD (Int.toNat 0) 0 < 0 then -(ns ++ [76]).getD (Int.toNat 0) 0 else (ns ++ [76]).getD (Int.toNat 0) 0) = fz at lF
    have hf0 : 0 ≤ fz := by rw [← hfz]; split <;> omega
    clear hI1 hI2 hI1l hI2l hfz
    refine Mine.for_listN (σ := Unit) (fun c => []) (fun c => [("first", .int fz _)]) (fun i c => True) () rfl (by k_memK) (by exact fun _ h => nomatch h) lF lN (by exact fun _ h => nomatch h) (by kst_all) trivial ?_ ?_
    · rintro i v _ u h tk own hi hv _ hoff hown F' N'
      have hvb : ∃ b t, v = .bytes b t ∧ b.size ≤ 150 := by
        have hm := List.mem_of_getElem? hv
        simp only [List.mem_cons, List.not_mem_nil, or_false] at hm
        have hdl := Mine.datL_len ns
        rcases hm with rfl | rfl | rfl | rfl
        · exact ⟨_, _, rfl, by rw [Mine.ofOcts_size]; omega⟩
        · exact ⟨_, _, rfl, by rw [Mine.ofOcts_size, List.length_drop]; omega⟩
        · exact ⟨_, _, rfl, by rw [Mine.ofOcts_size, List.length_drop]; omega⟩
        · exact ⟨_, _, rfl, by decide⟩
      obtain ⟨b, tb, rfl, hbs⟩ := hvb
      dsimp only at *
      dsimp only [List.cons_append, List.nil_append] at N'
      clear lF lN
      k_with "call ref" => (first | walk_at "c58" | walk_at "c51" | walk_at "c65")
      k_with "compareOp NotEq bytes bytes" => (refine Mine.halt ?_)
      k_steps
      unfold Mine.Halt
      rename _ = Mine.sigL _ => hsg
      rename Str => sx
      rw [show Mine.linesL (Int.toNat 76) sx.cps.toList = Mine.chunkE 57 (Mine.octs b) from Mine.sig_lines hsg 76 (by decide)]
      k_with_none
      k_with "pyIter ref" => (refine Mine.halt ?_)
      k_steps
      k_with_none
      unfold Mine.Halt
      (rename Fr _ _ _ _ => lF; rename News _ _ _ _ => lN; rename ∀ _ ∈ own, _ < _ => hlo)
      refine Mine.for_listN (σ := Unit) (fun c => own) (fun c => [("data", .bytes b tb), ("signs", .str sx _), ("first", .int fz _)]) (fun i c => True) () rfl (by k_memK) (by exact fun p hp => Nat.ne_of_lt (hlo p hp)) lF lN (by intro p hp; kst_mem) (by kst_all) trivial ?_ ?_
      · rintro i2 v _ u h tk own2 hi2 hv2 _ hoff2 hown2 F' N'
        have hvb : ∃ n t, v = .int n t ∧ 0 ≤ n := by
          have hm := List.mem_of_getElem? hv2
          simp only [List.mem_cons, List.not_mem_nil, or_false] at hm
          rcases hm with rfl | rfl
          · exact ⟨_, _, rfl, hf0⟩
          · exact ⟨_, _, rfl, by omega⟩
        obtain ⟨n, tn, rfl, hn0⟩ := hvb
        dsimp only at *
        clear lF lN
        k_with "call ref" => (first | walk_at "c58" | walk_at "c51" | walk_at "c65")
        k_with "compareOp NotEq bytes bytes" => (refine Mine.halt ?_)
        k_steps
        k_with_none
        · unfold Mine.Halt
          rw [show Mine.linesL (n - n % 4).toNat sx.cps.toList = Mine.chunkE (n.toNat / 4 * 3) (Mine.octs b) by
            rw [show (n - n % 4).toNat = n.toNat - n.toNat % 4 by omega]
            exact Mine.sig_lines hsg n.toNat (by omega)]
          k_steps
          (rename Fr _ _ _ _ => lF; rename News _ _ _ _ => lN)
          exact Mine.foEnd lF lN () (by intro p hp; kst_mem) (by intro p hp; kst_mem) (by exact hoff2) (by kst_all) trivial
        · (rename Fr _ _ _ _ => lF; rename News _ _ _ _ => lN)
          exact Mine.foEnd lF lN () (by intro p hp; kst_mem) (by intro p hp; kst_mem) (by exact hoff2) (by kst_all) trivial
      · rintro _ u h tk _ F' N'
        dsimp only at *
        clear lF lN
        k_steps
        (rename Fr _ _ _ _ => lF; rename News _ _ _ _ => lN)
        exact Mine.foEnd lF lN () (by exact fun _ h => nomatch h) (by intro p hp; kst_mem) (by exact hoff) (by kst_all) trivial
    · rintro _ u h tk _ F' N'
      dsimp only at *
      clear lF lN
      k_steps
      all_goals trace_state)

