import PyProof.Rows.All
import Wide.All
import OpenK.AllK
import Wide.FinOn
import PySem.Challenge.RW_ko0121_01
set_option Elab.async false
set_option maxRecDepth 100000
open PySem PySem.W PySem.Spec PySem.Calls PyProof.Rows
open_top hd for PySem.Challenge.rw_ko0121_01
namespace Mine
open PySem PySem.W PySem.Spec PySem.Calls PyProof.Rows

/-- what a frame says of some names -/
def HasAll (m : Str → Option Value) (ps : List (Str × Value)) : Prop := ∀ p ∈ ps, m p.1 = some p.2

theorem hasAll_eq {m : Str → Option Value} {ps : List (Str × Value)} (h : HasAll m ps) : kstB m ps = m := by
  funext y
  exact kstB_eq h fun _ => rfl

theorem hasAll_x {m : Str → Option Value} {ps : List (Str × Value)} {x : Str} {v : Value} (h : HasAll m ps) : (fun y => if y = x then some v else m y) = (fun y => if y = x then some v else kstB m ps y) := by
  rw [hasAll_eq h]

section
variable {prog : Program} {w : World} {A : Around} {E : Value → Shared → Prop} {Q : Flow → Shared → Prop} {s : Shared} {env : Env} {h₀ : Heap} {L : Addr}

/-- a while's turn ends: a new state, less by the measure -/
def WhEnd {σ : Type} (h₀ : Heap) (L : Addr) (s : Shared) (Led : σ → List (Addr × Obj)) (ps : σ → List (Str × Value)) (P : σ → Prop) (μ : σ → Nat) (c : σ) (s₂ : Shared) : Prop :=
  ∃ (c' : σ) (h' : Heap) (tk : Nat) (m' : Str → Option Value) (news' : List (Addr × Obj)), s₂ = { s with heap := h', toks := tk } ∧ Fr h₀ L h' m' ∧ News h₀ L h' news' ∧ (∀ p ∈ Led c', p ∈ news') ∧ HasAll m' (ps c') ∧ P c' ∧ μ c' < μ c
def WhPost {σ : Type} (h₀ : Heap) (L : Addr) (s : Shared) (Led : σ → List (Addr × Obj)) (ps : σ → List (Str × Value)) (P : σ → Prop) (μ : σ → Nat) (Q : Flow → Shared → Prop) (c : σ) (f : Flow) (s₂ : Shared) : Prop :=
  match f with
  | .ret v => Q (.ret v) s₂
  | .brk => Q .next s₂
  | _ => WhEnd h₀ L s Led ps P μ c s₂
theorem whEnd {σ : Type} {Led : σ → List (Addr × Obj)} {ps : σ → List (Str × Value)} {P : σ → Prop} {μ : σ → Nat} {c : σ} {h' : Heap} {tk : Nat} {m' : Str → Option Value} {news' : List (Addr × Obj)} (F : Fr h₀ L h' m') (N : News h₀ L h' news') (c' : σ)
    (hn : ∀ p ∈ Led c', p ∈ news') (hk : HasAll m' (ps c')) (hp : P c') (hm : μ c' < μ c) : WhEnd h₀ L s Led ps P μ c { s with heap := h', toks := tk } := ⟨c', h', tk, m', news', rfl, F, N, hn, hk, hp, hm⟩

theorem while_G {σ : Type} {test : Expr} {body : List Stmt} {pos : Pos} {m₀ : Str → Option Value} {news₀ : List (Addr × Obj)} (Led : σ → List (Addr × Obj)) (ps : σ → List (Str × Value)) (P : σ → Prop) (μ : σ → Nat) (c₀ : σ)
    (F : Fr h₀ L s.heap m₀) (N : News h₀ L s.heap news₀) (hL : ∀ p ∈ Led c₀, p ∈ news₀) (hk : HasAll m₀ (ps c₀)) (hp : P c₀)
    (turn : ∀ (c : σ) (u : Str → Option Value) h tk, P c → Fr h₀ L h (kstB u (ps c)) → News h₀ L h (Led c) →
      wpAny (model prog w) A (isTrue test env (eval test env)) (fun b s₂ =>
        if b = true then wpAny (model prog w) A (execs body env) (WhPost h₀ L s Led ps P μ Q c) E s₂ else Q .next s₂) E { s with heap := h, toks := tk })
    (hE : PassesOwn (model prog w) A env E := by passes_own) :
    wpAny (model prog w) A (exec (.While test body [] pos) env) Q E s := by
  refine While_inv2 (fun n m nx => ∃ c : σ, nx = Led c ∧ μ c = n ∧ HasAll m (ps c) ∧ P c) F (fun p hp => N p (hL p hp)) ⟨c₀, rfl, rfl, hk, hp⟩ ?_ hE
  rintro n m₁ nx h tk F₁ N₁ ⟨c, rfl, rfl, h1, hp'⟩
  rw [← hasAll_eq h1] at F₁
  refine wpAny_mono (turn c m₁ h tk hp' F₁ N₁) (fun b s₂ p => ?_) fun _ _ x => x
  cases b with
  | false => simpa using p
  | true =>
    simp only [if_true] at p ⊢
    refine wpAny_mono p (fun f s₃ q => ?_) fun _ _ x => x
    cases f with
    | ret v => exact q
    | brk => exact q
    | next =>
      obtain ⟨c', h', tk', m', news', rfl, F', N', hn, hk9, hp9, hm9⟩ := q
      exact ⟨h', tk', m', Led c', μ c', rfl, F', fun p hp => N' p (hn p hp), hm9, c', rfl, rfl, hk9, hp9⟩
    | cont =>
      obtain ⟨c', h', tk', m', news', rfl, F', N', hn, hk9, hp9, hm9⟩ := q
      exact ⟨h', tk', m', Led c', μ c', rfl, F', fun p hp => N' p (hn p hp), hm9, c', rfl, rfl, hk9, hp9⟩

/-- a for's turn ends -/
def FoEnd {σ : Type} (h₀ : Heap) (L : Addr) (s : Shared) (Led : σ → List (Addr × Obj)) (ps : σ → List (Str × Value)) (P : σ → Prop) (own : List (Addr × Obj)) (s₂ : Shared) : Prop :=
  ∃ (c' : σ) (h' : Heap) (tk : Nat) (m' : Str → Option Value) (news' : List (Addr × Obj)), s₂ = { s with heap := h', toks := tk } ∧ Fr h₀ L h' m' ∧ News h₀ L h' news' ∧ (∀ p ∈ Led c', p ∈ news') ∧ (∀ p ∈ own, p ∈ news') ∧ OwnOff own ((Led c').map (·.1)) ∧ HasAll m' (ps c') ∧ P c'
def FoPost {σ : Type} (h₀ : Heap) (L : Addr) (s : Shared) (Led : σ → List (Addr × Obj)) (ps : σ → List (Str × Value)) (P : σ → Prop) (own : List (Addr × Obj)) (Q : Flow → Shared → Prop) (f : Flow) (s₂ : Shared) : Prop :=
  match f with
  | .ret v => Q (.ret v) s₂
  | .brk => Q .next s₂
  | _ => FoEnd h₀ L s Led ps P own s₂
theorem foEnd {σ : Type} {Led : σ → List (Addr × Obj)} {ps : σ → List (Str × Value)} {P : σ → Prop} {own : List (Addr × Obj)} {h' : Heap} {tk : Nat} {m' : Str → Option Value} {news' : List (Addr × Obj)} (F : Fr h₀ L h' m') (N : News h₀ L h' news') (c' : σ)
    (hn : ∀ p ∈ Led c', p ∈ news') (ho : ∀ p ∈ own, p ∈ news') (ha : OwnOff own ((Led c').map (·.1))) (hk : HasAll m' (ps c')) (hp : P c') : FoEnd h₀ L s Led ps P own { s with heap := h', toks := tk } := ⟨c', h', tk, m', news', rfl, F, N, hn, ho, ha, hk, hp⟩

theorem for_G {σ : Type} {x : Str} {body : List Stmt} {I : Addr} {fp wr : List Addr} {n : Nat} {Pv : Nat → Value → Prop} {St : Nat → Heap → Prop} {m₀ : Str → Option Value} (Led : σ → List (Addr × Obj)) (ps : σ → List (Str × Value)) (P : Nat → σ → Prop) (c₀ : σ)
    (W : Walks prog w A I fp wr n Pv St) (hLf : env.locals ∉ fp) (hwr : ∀ b ∈ wr, h₀.get? b = none) (hlive : ∀ i h, St i h → ∀ b ∈ fp, ∃ o, h.get? b = some o)
    (hst : St 0 s.heap) (F : Fr h₀ env.locals s.heap m₀) (N : News h₀ env.locals s.heap (Led c₀)) (hfp : ∀ q ∈ Led c₀, q.1 ∉ fp) (hk : HasAll m₀ (ps c₀)) (hp : P 0 c₀)
    (turn : ∀ i v (c : σ) (u : Str → Option Value) h tk own, i < n → Pv i v → P i c → OwnOff own ((Led c).map (·.1)) → (∀ b ∈ fp, h₀.get? b = none → ∀ o, h.get? b = some o → (b, o) ∈ own) → St (i + 1) h →
      Fr h₀ env.locals h (fun y => if y = x then some v else kstB u (ps c) y) → News h₀ env.locals h (Led c ++ own) →
      wpAny (model prog w) A (execs body env) (FoPost h₀ env.locals { s with heap := h, toks := tk } Led ps (P (i + 1)) own Q) E { s with heap := h, toks := tk })
    (done : ∀ (c : σ) (u : Str → Option Value) h tk, P n c → Fr h₀ env.locals h (kstB u (ps c)) → News h₀ env.locals h (Led c) → Q .next { s with heap := h, toks := tk }) :
    LoopAtV prog w A h₀ env x body Q E (.ref I) s := by
  refine ⟨I, fp, wr, n, Pv, St, m₀, Led c₀, fun i m nx => ∃ c : σ, nx = Led c ∧ HasAll m (ps c) ∧ P i c ∧ ∀ q ∈ Led c, q.1 ∉ fp, rfl, W, hLf, hwr, fun p hp hm => hfp p hp (W.sub _ hm), hst, F, N, ⟨c₀, rfl, hk, hp, hfp⟩, ?_, ?_⟩
  · rintro i v m₁ news₁ s₁ own ⟨hh', tk', rfl⟩ hin hP ⟨c, rfl, h1, hp', hoff'⟩ hoff hown hget hall hst' F₁ N₁
    have hsep : OwnOff own ((Led c).map (·.1)) := by
      intro p hp b hb e
      obtain ⟨q, hq, rfl⟩ := List.mem_map.mp hb
      exact hoff' q hq (e ▸ hown p hp)
    rw [hasAll_x h1] at F₁
    have N₂ : News h₀ env.locals hh' (Led c ++ own) := fun p hp => N₁ p ((List.mem_append.mp hp).elim (fun h => List.mem_append.mpr (.inr h)) fun h => List.mem_append.mpr (.inl h))
    refine wpAny_mono (turn i v c m₁ hh' tk' own hin hP hp' hsep hall hst' F₁ N₂) (fun f s₂ p => ?_) fun _ _ e => e
    have fin : FoEnd h₀ env.locals { s with heap := hh', toks := tk' } Led ps (P (i + 1)) own s₂ → LoopStepU h₀ env.locals wr own (fun m nx => ∃ c : σ, nx = Led c ∧ HasAll m (ps c) ∧ P (i + 1) c ∧ ∀ q ∈ Led c, q.1 ∉ fp) { s with heap := hh', toks := tk' } .next s₂ := by
      rintro ⟨c', h', tk, m', news', e, F', N', hn, ho, ha, hk', hp''⟩
      have hfp' : ∀ q ∈ Led c', q.1 ∉ fp := by
        intro q hq hm
        obtain ⟨o, ho'⟩ := hlive _ _ hst' _ hm
        exact ha _ (hall _ hm (N' _ (hn q hq)).2.2 o ho') _ (List.mem_map_of_mem hq) rfl
      exact ⟨rfl, h', tk, m', Led c', e, F', fun p hp => N' p ((List.mem_append.mp hp).elim (ho p) (hn p)), fun p hp hq => hfp' p hp (W.sub _ hq), c', rfl, hk', hp'', hfp'⟩
    cases f with
    | ret v => exact .ret p
    | brk => exact .brk p
    | next => exact .next (fin p)
    | cont => exact .cont (fin p)
  · rintro h' tk m' news' F' N' _ ⟨c, rfl, h1, hp', _⟩
    rw [← hasAll_eq h1] at F'
    exact done c m' h' tk hp' F' N'

/-- a loop over a list that stands below the call (the script) -/
theorem for_list {σ : Type} {x : Str} {body : List Stmt} {l : Addr} {vs : List Value} {m₀ : Str → Option Value} {news₀ : List (Addr × Obj)} (Led : σ → List (Addr × Obj)) (ps : σ → List (Str × Value)) (P : Nat → σ → Prop) (c₀ : σ)
    (hh : A.handled = none) (hl : h₀.IsList l vs.toArray) (F : Fr h₀ env.locals s.heap m₀) (N : News h₀ env.locals s.heap news₀) (hL : ∀ p ∈ Led c₀, p ∈ news₀) (hk : HasAll m₀ (ps c₀)) (hp : P 0 c₀)
    (turn : ∀ i v (c : σ) (u : Str → Option Value) h tk own, i < vs.length → vs[i]? = some v → P i c → OwnOff own ((Led c).map (·.1)) →
      Fr h₀ env.locals h (fun y => if y = x then some v else kstB u (ps c) y) → News h₀ env.locals h (Led c ++ own) →
      wpAny (model prog w) A (execs body env) (FoPost h₀ env.locals { s with heap := h, toks := tk } Led ps (P (i + 1)) own Q) E { s with heap := h, toks := tk })
    (done : ∀ (c : σ) (u : Str → Option Value) h tk, P vs.length c → Fr h₀ env.locals h (kstB u (ps c)) → News h₀ env.locals h (Led c) → Q .next { s with heap := h, toks := tk }) :
    wpAny (model prog w) A (pyIter (.ref l)) (fun it s₂ => LoopAtV prog w A h₀ env x body Q E it s₂) E s := by
  have hls : s.heap.IsList l vs.toArray := hl.at fun o e => F.keep l o e
  obtain ⟨ol, hol, _⟩ := id hl
  have hlt : l < h₀.objs.size := Heap.lt_size hol
  have hne : l ≠ s.heap.objs.size := Nat.ne_of_lt (Nat.lt_trans (Nat.lt_of_lt_of_le hlt F.above) F.ns.lt)
  have N' : News h₀ env.locals s.heap (Led c₀) := fun p hp => N p (hL p hp)
  refine wpAny_pyIter_list hls ?_
  have W := Walks.list (prog := prog) (w := w) hh s.heap.objs.size l hne vs.toArray
  have hlen : vs.toArray.size = vs.length := by simp
  rw [hlen] at W
  refine for_G Led ps P c₀ W ?_ ?_ ?_ ⟨⟨_, Heap.get?_push_size _ rfl, rfl, rfl⟩, hls.at fun o e => Heap.get?_push_of_some _ e⟩ (F.push _) (fun p hp => ⟨Heap.get?_push_of_some _ (N' p hp).1, (N' p hp).2⟩) ?_ hk hp ?_ ?_
  · intro hm
    rcases List.mem_cons.mp hm with e | hm
    · exact absurd F.ns.lt (e ▸ Nat.lt_irrefl _)
    · exact absurd (Nat.lt_of_lt_of_le hlt F.above) ((List.mem_singleton.mp hm) ▸ Nat.lt_irrefl _)
  · intro b hb
    rw [List.mem_singleton.mp hb]
    exact next_is_new F
  · rintro i h ⟨⟨o1, e1, _⟩, ⟨o2, e2, _⟩⟩ b hb
    rcases List.mem_cons.mp hb with rfl | hb
    · exact ⟨o1, e1⟩
    · rw [List.mem_singleton.mp hb]; exact ⟨o2, e2⟩
  · intro q hq hm
    rcases List.mem_cons.mp hm with e | hm
    · exact absurd (Heap.lt_size (N' q hq).1) (by rw [e]; exact Nat.lt_irrefl _)
    · have h3 := (N' q hq).2.2
      rw [List.mem_singleton.mp hm, hol] at h3
      cases h3
  · intro i v c u h tk own hi hv hp' hoff _ _ F₁ N₁
    exact turn i v c u h tk own hi (by simpa using hv) hp' hoff F₁ N₁
  · exact done

/-- a loop over a list of the ledger, which no turn changes -/
theorem for_listN {σ : Type} {x : Str} {body : List Stmt} {l : Addr} {vs : List Value} {nn : Nat} {m₀ : Str → Option Value} {news₀ : List (Addr × Obj)} (Led : σ → List (Addr × Obj)) (ps : σ → List (Str × Value)) (P : Nat → σ → Prop) (c₀ : σ)
    (hh : A.handled = none) (hl : (l, listOf vs.toArray nn) ∈ news₀) (hoffl : ∀ p ∈ Led c₀, p.1 ≠ l) (F : Fr h₀ env.locals s.heap m₀) (N : News h₀ env.locals s.heap news₀) (hL : ∀ p ∈ Led c₀, p ∈ news₀) (hk : HasAll m₀ (ps c₀)) (hp : P 0 c₀)
    (turn : ∀ i v (c : σ) (u : Str → Option Value) h tk own, i < vs.length → vs[i]? = some v → P i c → OwnOff own ((Led c).map (·.1)) → (l, listOf vs.toArray nn) ∈ own →
      Fr h₀ env.locals h (fun y => if y = x then some v else kstB u (ps c) y) → News h₀ env.locals h (Led c ++ own) →
      wpAny (model prog w) A (execs body env) (FoPost h₀ env.locals { s with heap := h, toks := tk } Led ps (fun c => P (i + 1) c) own Q) E { s with heap := h, toks := tk })
    (done : ∀ (c : σ) (u : Str → Option Value) h tk, P vs.length c → Fr h₀ env.locals h (kstB u (ps c)) → News h₀ env.locals h (Led c) → Q .next { s with heap := h, toks := tk }) :
    wpAny (model prog w) A (pyIter (.ref l)) (fun it s₂ => LoopAtV prog w A h₀ env x body Q E it s₂) E s := by
  have hln := N _ hl
  have hls : s.heap.IsList l vs.toArray := ⟨_, hln.1, rfl, nn, rfl⟩
  have hne : l ≠ s.heap.objs.size := Nat.ne_of_lt (Heap.lt_size hln.1)
  have N' : News h₀ env.locals s.heap (Led c₀) := fun p hp => N p (hL p hp)
  refine wpAny_pyIter_list hls ?_
  have W0 := Walks.list (prog := prog) (w := w) hh s.heap.objs.size l hne vs.toArray
  have W : Walks prog w A s.heap.objs.size [s.heap.objs.size, l] [s.heap.objs.size] vs.length (fun i v => vs.toArray[i]? = some v) (fun i h => (h.IsListIter s.heap.objs.size l i ∧ h.IsList l vs.toArray) ∧ h.get? l = some (listOf vs.toArray nn)) :=
    { sub := W0.sub
      frame := fun i h h' st hk => ⟨W0.frame i h h' st.1 hk, hk l (by simp) _ st.2⟩
      item := fun i s Q E hi st hQ => W0.item i s Q E (by simpa using hi) st.1 fun v h' tk hv st' hk => hQ v h' tk hv ⟨st', hk l _ (by simp; exact hne) st.2⟩ hk
      done := fun s Q E st hQ => W0.done s Q E (by simpa using st.1) hQ
      self := fun i s Q E st hQ => W0.self i s Q E st.1 hQ }
  refine for_G Led ps P c₀ W ?_ ?_ ?_ ⟨⟨⟨_, Heap.get?_push_size _ rfl, rfl, rfl⟩, hls.at fun o e => Heap.get?_push_of_some _ e⟩, Heap.get?_push_of_some _ hln.1⟩ (F.push _) (fun p hp => ⟨Heap.get?_push_of_some _ (N' p hp).1, (N' p hp).2⟩) ?_ hk hp ?_ ?_
  · intro hm
    rcases List.mem_cons.mp hm with e | hm
    · exact absurd F.ns.lt (e ▸ Nat.lt_irrefl _)
    · exact hln.2.1 (List.mem_singleton.mp hm).symm
  · intro b hb
    rw [List.mem_singleton.mp hb]
    exact next_is_new F
  · rintro i h ⟨⟨⟨o1, e1, _⟩, ⟨o2, e2, _⟩⟩, _⟩ b hb
    rcases List.mem_cons.mp hb with rfl | hb
    · exact ⟨o1, e1⟩
    · rw [List.mem_singleton.mp hb]; exact ⟨o2, e2⟩
  · intro q hq hm
    rcases List.mem_cons.mp hm with e | hm
    · exact absurd (Heap.lt_size (N' q hq).1) (by rw [e]; exact Nat.lt_irrefl _)
    · exact hoffl q hq (List.mem_singleton.mp hm)
  · intro i v c u h tk own hi hv hp' hoff hall hst F₁ N₁
    exact turn i v c u h tk own hi (by simpa using hv) hp' hoff (hall l (by simp) hln.2.2 _ hst.2) F₁ N₁
  · exact done

/-- a loop over bytes -/
theorem for_bytes {σ : Type} {x : Str} {body : List Stmt} {b : Array UInt8} {tb : Tok} {m₀ : Str → Option Value} {news₀ : List (Addr × Obj)} (Led : σ → List (Addr × Obj)) (ps : σ → List (Str × Value)) (P : Nat → σ → Prop) (c₀ : σ)
    (hh : A.handled = none) (F : Fr h₀ env.locals s.heap m₀) (N : News h₀ env.locals s.heap news₀) (hL : ∀ p ∈ Led c₀, p ∈ news₀) (hk : HasAll m₀ (ps c₀)) (hp : P 0 c₀)
    (turn : ∀ i k t (c : σ) (u : Str → Option Value) h tk own, i < b.size → b[i]? = some k → P i c → OwnOff own ((Led c).map (·.1)) →
      Fr h₀ env.locals h (fun y => if y = x then some (.int (k.toNat : Int) t) else kstB u (ps c) y) → News h₀ env.locals h (Led c ++ own) →
      wpAny (model prog w) A (execs body env) (FoPost h₀ env.locals { s with heap := h, toks := tk } Led ps (P (i + 1)) own Q) E { s with heap := h, toks := tk })
    (done : ∀ (c : σ) (u : Str → Option Value) h tk, P b.size c → Fr h₀ env.locals h (kstB u (ps c)) → News h₀ env.locals h (Led c) → Q .next { s with heap := h, toks := tk }) :
    wpAny (model prog w) A (pyIter (.bytes b tb)) (fun it s₂ => LoopAtV prog w A h₀ env x body Q E it s₂) E s := by
  refine KBw.pyIter_bytes ?_
  have W := KBw.walks (prog := prog) (w := w) hh s.heap.objs.size b tb
  have N' : News h₀ env.locals s.heap (Led c₀) := fun p hp => N p (hL p hp)
  refine for_G Led ps P c₀ W ?_ ?_ ?_ ⟨_, Heap.get?_push_size _ rfl, rfl, rfl⟩ (F.push _) (fun p hp => ⟨Heap.get?_push_of_some _ (N' p hp).1, (N' p hp).2⟩) ?_ hk hp ?_ ?_
  · intro hm
    exact absurd F.ns.lt ((List.mem_singleton.mp hm) ▸ Nat.lt_irrefl _)
  · intro b' hb
    rw [List.mem_singleton.mp hb]
    exact next_is_new F
  · rintro i h ⟨o, ho, _⟩ b' hb
    rw [List.mem_singleton.mp hb]; exact ⟨o, ho⟩
  · intro p hp hI
    exact absurd (Heap.lt_size (N' p hp).1) ((List.mem_singleton.mp hI) ▸ Nat.lt_irrefl _)
  · rintro i v c u h tk own hi ⟨k, t, hk', rfl⟩ hp' hoff _ _ F₁ N₁
    exact turn i k t c u h tk own hi hk' hp' hoff F₁ N₁
  · exact done

/-- a loop over a text -/
theorem for_str {σ : Type} {x : Str} {body : List Stmt} {xt : Str} {tx : Tok} {m₀ : Str → Option Value} {news₀ : List (Addr × Obj)} (Led : σ → List (Addr × Obj)) (ps : σ → List (Str × Value)) (P : Nat → σ → Prop) (c₀ : σ)
    (hh : A.handled = none) (F : Fr h₀ env.locals s.heap m₀) (N : News h₀ env.locals s.heap news₀) (hL : ∀ p ∈ Led c₀, p ∈ news₀) (hk : HasAll m₀ (ps c₀)) (hp : P 0 c₀)
    (turn : ∀ i k t (c : σ) (u : Str → Option Value) h tk own, i < xt.cps.size → xt.cps[i]? = some k → P i c → OwnOff own ((Led c).map (·.1)) →
      Fr h₀ env.locals h (fun y => if y = x then some (.str ⟨#[k]⟩ t) else kstB u (ps c) y) → News h₀ env.locals h (Led c ++ own) →
      wpAny (model prog w) A (execs body env) (FoPost h₀ env.locals { s with heap := h, toks := tk } Led ps (P (i + 1)) own Q) E { s with heap := h, toks := tk })
    (done : ∀ (c : σ) (u : Str → Option Value) h tk, P xt.cps.size c → Fr h₀ env.locals h (kstB u (ps c)) → News h₀ env.locals h (Led c) → Q .next { s with heap := h, toks := tk }) :
    wpAny (model prog w) A (pyIter (.str xt tx)) (fun it s₂ => LoopAtV prog w A h₀ env x body Q E it s₂) E s := by
  have N' : News h₀ env.locals s.heap (Led c₀) := fun p hp => N p (hL p hp)
  have main : ∀ (o : Obj) (T : String), Walks prog w A s.heap.objs.size [s.heap.objs.size] [s.heap.objs.size] xt.cps.size (SignAt xt) (fun i h => h.IsStrIter s.heap.objs.size T xt tx i) → (s.heap.push o).IsStrIter s.heap.objs.size T xt tx 0 →
      LoopAtV prog w A h₀ env x body Q E (.ref s.heap.objs.size) { s with heap := s.heap.push o } := by
    intro o T W hst
    refine for_G Led ps P c₀ W ?_ ?_ ?_ hst (F.push _) (fun p hp => ⟨Heap.get?_push_of_some _ (N' p hp).1, (N' p hp).2⟩) ?_ hk hp ?_ ?_
    · intro hm
      exact absurd F.ns.lt ((List.mem_singleton.mp hm) ▸ Nat.lt_irrefl _)
    · intro b' hb
      rw [List.mem_singleton.mp hb]
      exact next_is_new F
    · rintro i h ⟨o, ho, _⟩ b' hb
      rw [List.mem_singleton.mp hb]; exact ⟨_, ho⟩
    · intro p hp hI
      exact absurd (Heap.lt_size (N' p hp).1) ((List.mem_singleton.mp hI) ▸ Nat.lt_irrefl _)
    · rintro i v c u h tk own hi ⟨k, t, hk', rfl⟩ hp' hoff _ _ F₁ N₁
      exact turn i k t c u h tk own hi hk' hp' hoff F₁ N₁
    · exact done
  cases ha : xt.cps.all (· < 128)
  · exact wpAny_pyIter_wide ha (main _ _ (Walks.strWide hh _ xt tx) ⟨_, Heap.get?_push_size _ rfl, rfl, rfl⟩)
  · exact wpAny_pyIter_ascii ha (main _ _ (Walks.strAscii hh _ xt tx) ⟨_, Heap.get?_push_size _ rfl, rfl, rfl⟩)

/-- a loop over a range -/
theorem for_range {σ : Type} {x : Str} {body : List Stmt} {r : Addr} {a₀ b₀ c₀' : Int} {t₀ u₀ v₀ : Tok} (n : Nat) {m₀ : Str → Option Value} {news₀ : List (Addr × Obj)} (Led : σ → List (Addr × Obj)) (ps : σ → List (Str × Value)) (P : Nat → σ → Prop) (c₀ : σ)
    (hh : A.handled = none) (hr : IsRange s.heap r a₀ b₀ c₀' t₀ u₀ v₀) (hn : Builtin.Range.rangeSize a₀ b₀ c₀' = (n : Int))
    (F : Fr h₀ env.locals s.heap m₀) (N : News h₀ env.locals s.heap news₀) (hL : ∀ p ∈ Led c₀, p ∈ news₀) (hk : HasAll m₀ (ps c₀)) (hp : P 0 c₀)
    (turn : ∀ (i : Nat) t (c : σ) (u : Str → Option Value) h tk own, i < n → P i c → OwnOff own ((Led c).map (·.1)) →
      Fr h₀ env.locals h (fun y => if y = x then some (.int (a₀ + (i : Int) * c₀') t) else kstB u (ps c) y) → News h₀ env.locals h (Led c ++ own) →
      wpAny (model prog w) A (execs body env) (FoPost h₀ env.locals { s with heap := h, toks := tk } Led ps (P (i + 1)) own Q) E { s with heap := h, toks := tk })
    (done : ∀ (c : σ) (u : Str → Option Value) h tk, P n c → Fr h₀ env.locals h (kstB u (ps c)) → News h₀ env.locals h (Led c) → Q .next { s with heap := h, toks := tk }) :
    wpAny (model prog w) A (pyIter (.ref r)) (fun it s₂ => LoopAtV prog w A h₀ env x body Q E it s₂) E s := by
  have N' : News h₀ env.locals s.heap (Led c₀) := fun p hp => N p (hL p hp)
  have main : ∀ (o : Obj) (St : Nat → Heap → Prop), (∀ i h, St i h → ∃ o, h.get? s.heap.objs.size = some o) → Walks prog w A s.heap.objs.size [s.heap.objs.size] [s.heap.objs.size] n (fun i v => i < n ∧ ∃ t, v = .int (a₀ + i * c₀') t) St → St 0 (s.heap.push o) →
      LoopAtV prog w A h₀ env x body Q E (.ref s.heap.objs.size) { s with heap := s.heap.push o } := by
    intro o St hal W hst
    refine for_G Led ps P c₀ W ?_ ?_ ?_ hst (F.push _) (fun p hp => ⟨Heap.get?_push_of_some _ (N' p hp).1, (N' p hp).2⟩) ?_ hk hp ?_ ?_
    · intro hm
      exact absurd F.ns.lt ((List.mem_singleton.mp hm) ▸ Nat.lt_irrefl _)
    · intro b' hb
      rw [List.mem_singleton.mp hb]
      exact next_is_new F
    · intro i h ho b' hb
      rw [List.mem_singleton.mp hb]; exact hal i h ho
    · intro p hp hI
      exact absurd (Heap.lt_size (N' p hp).1) ((List.mem_singleton.mp hI) ▸ Nat.lt_irrefl _)
    · rintro i v c u h tk own hi ⟨_, t, rfl⟩ hp' hoff _ _ F₁ N₁
      exact turn i t c u h tk own hi hp' hoff F₁ N₁
    · exact done
  cases hsm : Builtin.Range.small a₀ b₀ c₀'
  · exact wpAny_pyIter_longrange hr hsm (main _ _ (fun i h st => ⟨_, st⟩) (Walks.longrange hh _ a₀ c₀' n).bound (by show IsLongIter _ _ _ _ _; rw [hn]; simpa using Heap.get?_push_size _ rfl))
  · exact wpAny_pyIter_range hr hsm (main _ _ (fun i h st => ⟨_, st⟩) (Walks.range hh _ a₀ c₀' n).bound (by show IsRangeIter _ _ _ _ _; rw [hn]; simpa using Heap.get?_push_size _ rfl))
end

/-- a call of a def of the text: what it asks, what it gives, what it raises -/
def Spec1 (prog : Program) (w : World) (K : Frag) (p : Program) (loose : List Str) (mean : ExcName → Option Value) (mg mb : Str → Option Value) (f : Addr) (pos : List Value) (kw : List (Str × Value)) (d u : Nat)
    (Pre : List (Addr × Obj) → Prop) (Out : List (Addr × Obj) → Value → Prop) (Bad : String → Prop) : Prop :=
  ∀ (dp un : Nat) (gd : Option (List Code)) (cn : Str) (cs : Scope) (a : Addr) (ccd : Value) (cl : List (Str × Addr)) (outer : List Env) (A₀ : Around) (base h₀ : Heap) (L : Addr) (m : Str → Option Value) (news : List (Addr × Obj)) (s : Shared)
    (Q E : Value → Shared → Prop),
    Below A₀ base outer h₀ → Fr h₀ L s.heap m → K.In h₀ → News h₀ L s.heap news → Top p loose mean mg mb h₀ → cs.kind = .function → dp + d < recursionLimit → un + u < cLine → Pre news →
    (∀ r tl h' tk', Fr h₀ L h' m → News h₀ L h' (tl ++ news) → (∀ q ∈ news, ∀ p ∈ tl, q.1 < p.1) → Out tl r → Q r { s with heap := h', toks := tk' }) →
    (∀ X e g h' tk', Bad X → Fr h₀ L g m → g.UpToSlots h' → RaisedN base (envX cn cs L a ccd cl :: outer) e (.type X) news h' → E (.ref e) { s with heap := h', toks := tk' }) →
    wpAny (model prog w) (ktrTop dp un gd cn cs L a ccd cl outer) (call (.ref f) pos kw) Q E s

end Mine
namespace Mine
def Halt (P : Prop) : Prop := P
theorem halt {P : Prop} (h : Halt P) : P := h
end Mine

namespace Mine
open PySem PySem.W PySem.Spec PySem.Calls PyProof.Rows

/-- the signs of base64, by their six bits -/
def sgn (k : Nat) : Nat := if k < 26 then k + 65 else if k < 52 then k + 71 else if k < 62 then k - 4 else if k = 62 then 43 else 47
def b64 : List UInt8 := [65, 66, 67, 68, 69, 70, 71, 72, 73, 74, 75, 76, 77, 78, 79, 80, 81, 82, 83, 84, 85, 86, 87, 88, 89, 90, 97, 98, 99, 100, 101, 102, 103, 104, 105, 106, 107, 108, 109, 110, 111, 112, 113, 114, 115, 116, 117, 118, 119, 120, 121, 122, 48, 49, 50, 51, 52, 53, 54, 55, 56, 57, 43, 47]
theorem b64_get : ∀ k : Fin 64, (b64.getD k.1 0).toNat = sgn k.1 := by decide +kernel

section
variable {prog : Program} {w : World} {A : Around} {E : Value → Shared → Prop} {s : Shared} {value slice : PySem.Expr} {Q : Value → Shared → Prop}
theorem item_b64 {t : Tok} {i : Int} {ui : Tok} (h0 : 0 ≤ i ∧ i < 64) (h : ∀ t' k, Q (.int (sgn i.toNat : Nat) t') { s with toks := k })
    (hs : subscripted slice false (.bytes b64.toArray t) (.int i ui) = operate [.bytes b64.toArray t, .int i ui] (getItem (.bytes b64.toArray t) (.int i ui)) := by with_unfolding_all rfl)
    (ht : ∀ r, letTemporaryGo value (.bytes b64.toArray t) r = pure () := by intro _; with_unfolding_all rfl) :
    wpAny (model prog w) A (subscriptTail value slice (.bytes b64.toArray t) (.int i ui)) Q E s := by
  refine KBy.item_N (x := b64) (by decide) h0.1 (by exact h0.2) ?_ hs ht
  have e := b64_get ⟨i.toNat, by omega⟩
  rw [show (b64.getD i.toNat 0).toNat = sgn i.toNat from e]
  exact h _ _
end

theorem and63 (x : Int) : 0 ≤ Builtin.bitAnd x 63 ∧ Builtin.bitAnd x 63 < 64 := by rw [bitAnd_m6]; omega
theorem bitOr_eq (x y : Int) : Builtin.bitOr x y = x + y - Builtin.bitAnd x y := by
  have h := bitXor_and x y
  unfold Builtin.bitXor at h
  omega
theorem bitAnd_shl (c k : Nat) (n : Nat) (h : k < 2 ^ n) : Builtin.bitAnd ((c : Int) * 2 ^ n) (k : Int) = 0 := by
  have e : ((c : Int) * 2 ^ n) = ((c * 2 ^ n : Nat) : Int) := by simp
  rw [e]
  have nn : ∀ a b : Nat, Builtin.bitAnd (a : Int) (b : Int) = ((a &&& b : Nat) : Int) := fun a b => by
    unfold Builtin.bitAnd
    rw [decide_eq_true (Int.natCast_nonneg a), decide_eq_true (Int.natCast_nonneg b)]
    rfl
  rw [nn]
  have : (c * 2 ^ n) &&& k = 0 := by
    apply Nat.eq_of_testBit_eq
    intro i
    simp only [Nat.testBit_and, Nat.zero_testBit, Nat.testBit_mul_two_pow]
    by_cases hi : n ≤ i
    · rw [Nat.testBit_lt_two_pow (Nat.lt_of_lt_of_le h (Nat.pow_le_pow_right (by decide) hi))]; simp
    · simp [hi]
  rw [this]; rfl
theorem bitOr_shl (c k : Nat) (n : Nat) (h : k < 2 ^ n) : Builtin.bitOr ((c : Int) * 2 ^ n) (k : Int) = (c : Int) * 2 ^ n + k := by
  rw [bitOr_eq, bitAnd_shl c k n h]; omega

/-- naturals as a list of ints; octets of bytes as naturals and back -/
def zs (l : List Nat) : List Int := l.map Int.ofNat
def octs (b : Array UInt8) : List Nat := b.toList.map (·.toNat)
def ofOcts (l : List Nat) : Array UInt8 := (l.map Nat.toUInt8).toArray
theorem zs_length (l : List Nat) : (zs l).length = l.length := by simp [zs]
theorem octs_length (b : Array UInt8) : (octs b).length = b.size := by simp [octs]
theorem octs_lt (b : Array UInt8) : ∀ k ∈ octs b, k < 256 := by
  intro k hk
  obtain ⟨x, _, rfl⟩ := List.mem_map.mp hk
  exact x.toNat_lt
theorem octs_get {b : Array UInt8} {i : Nat} {k : UInt8} (h : b[i]? = some k) : (octs b)[i]? = some k.toNat := by
  simp [octs, h]
theorem octs_take {b : Array UInt8} {i : Nat} {k : UInt8} (h : b[i]? = some k) : (octs b).take (i + 1) = (octs b).take i ++ [k.toNat] := by
  rw [List.take_add_one, octs_get h]; rfl
theorem octs_ofOcts {l : List Nat} (h : ∀ k ∈ l, k < 256) : octs (ofOcts l) = l := by
  unfold octs ofOcts
  simp only [List.map_map]
  refine (List.map_congr_left fun k hk => ?_).trans (List.map_id l)
  show (Nat.toUInt8 k).toNat = k
  have : (Nat.toUInt8 k).toNat = k % 256 := rfl
  rw [this]; exact Nat.mod_eq_of_lt (h k hk)
theorem ofOcts_size (l : List Nat) : (ofOcts l).size = l.length := by simp [ofOcts]
theorem ofOcts_octs (b : Array UInt8) : ofOcts (octs b) = b := by
  unfold octs ofOcts
  have : (b.toList.map (·.toNat)).map Nat.toUInt8 = b.toList := by
    rw [List.map_map]
    refine (List.map_congr_left fun k _ => ?_).trans (List.map_id _)
    show Nat.toUInt8 k.toNat = k
    exact UInt8.ofNat_toNat
  rw [this]
theorem zs_append (a b : List Nat) : zs (a ++ b) = zs a ++ zs b := by simp [zs]
theorem intsAre_snoc {vs : List Value} {l : List Nat} {k : Nat} {t : Tok} (h : IntsAre vs (zs l)) : IntsAre (vs ++ [.int (k : Int) t]) (zs (l ++ [k])) := by
  rw [zs_append]
  exact h.append (.cons _ _ .nil)
theorem snocE {vs : List Value} {l : List Nat} {k : Nat} {z : Int} {t : Tok} (h : IntsAre vs (zs l)) (e : z = (k : Int)) : IntsAre (vs ++ [.int z t]) (zs (l ++ [k])) := by
  subst e
  exact intsAre_snoc h

section
variable {prog : Program} {w : World} {A : Around} {E : Value → Shared → Prop} {s : Shared} {h₀ : Heap} {L : Addr} {m : Str → Option Value} {news : List (Addr × Obj)}
theorem bytes_Z {l : Addr} {vs : List Value} {nn : Nat} {ns : List Nat} {Q : Value → Shared → Prop} (F : Fr h₀ L s.heap m) (N : News h₀ L s.heap news) (hl : (l, listOf vs.toArray nn) ∈ news) (hi : IntsAre vs (zs ns)) (hr : ∀ n ∈ ns, n < 256) (hz : vs.length ≤ sizeLine) (hh : A.handled = none)
    (h : ∀ h' t k, Fr h₀ L h' m → News h₀ L h' news → Q (.bytes (ofOcts ns) t) { s with heap := h', toks := k }) : wpAny (model prog w) A (call (.type "bytes") [.ref l]) Q E s := by
  refine bytes_K F N ⟨_, (N _ hl).1, rfl, nn, rfl⟩ hi ?_ hz hh fun h' t k F' N' _ => ?_
  · intro n hn
    obtain ⟨x, hx, rfl⟩ := List.mem_map.mp hn
    have := hr x hx
    exact ⟨Int.natCast_nonneg x, by show ((x : Nat) : Int) < 256; omega⟩
  · have e : ((zs ns).map fun n => n.toNat.toUInt8) = ns.map Nat.toUInt8 := by
      unfold zs
      rw [List.map_map]
      rfl
    rw [e]
    exact h h' t k F' N'
end


section
variable {prog : Program} {w : World} {A : Around} {E : Value → Shared → Prop} {s : Shared} {h₀ : Heap} {L : Addr} {m : Str → Option Value} {news news' : List (Addr × Obj)}
theorem append_Z {D : Addr} {vs : List Value} {n : Nat} {x : Value} {Q : Value → Shared → Prop} (F : Fr h₀ L s.heap m) (N : News h₀ L s.heap news) (U : Upd D (listOf vs.toArray n) (listOf (vs ++ [x]).toArray (n + 1)) news news')
    (h : ∀ h', Fr h₀ L h' m → News h₀ L h' news' → Q .none { s with heap := h' }) (hsz : vs.length ≤ sizeLine) : wpAny (model prog w) A (call (.builtin "list.append") [.ref D, x]) Q E s := by
  have e : (vs ++ [x]).toArray = vs.toArray.push x := by simp
  rw [e] at U
  exact append_K F N U h (by rw [List.size_toArray]; exact hsz)
end

section
variable {prog : Program} {w : World} {A : Around} {E : Value → Shared → Prop} {s : Shared} {a b : Int} {t u : Tok} {Q : Value → Shared → Prop}
theorem band63 (h : ∀ t' k, Q (.int (a % 64) t') { s with toks := k }) : wpAny (model prog w) A (binaryOp .BitAnd (.int a t) (.int 63 u)) Q E s := and_int (by rw [bitAnd_m6]; exact h _ _)
theorem band65535 (h : ∀ t' k, Q (.int (a % 65536) t') { s with toks := k }) : wpAny (model prog w) A (binaryOp .BitAnd (.int a t) (.int 65535 u)) Q E s := and_int (by rw [bitAnd_m16]; exact h _ _)
theorem band15 (h : ∀ t' k, Q (.int (a % 16) t') { s with toks := k }) : wpAny (model prog w) A (binaryOp .BitAnd (.int a t) (.int 15 u)) Q E s := and_int (by rw [bitAnd_m4]; exact h _ _)
theorem band3 (h : ∀ t' k, Q (.int (a % 4) t') { s with toks := k }) : wpAny (model prog w) A (binaryOp .BitAnd (.int a t) (.int 3 u)) Q E s := and_int (by rw [bitAnd_m2]; exact h _ _)
theorem bor_sum {c : Int} (n : Nat) (d : Int) (ha : a = c * d) (hc : 0 ≤ c) (hb : 0 ≤ b ∧ b < d) (hd : d = 2 ^ n) (h : ∀ t' k, Q (.int (a + b) t') { s with toks := k }) : wpAny (model prog w) A (binaryOp .BitOr (.int a t) (.int b u)) Q E s := by
  have e : Builtin.bitOr a b = a + b := by
    obtain ⟨c, rfl⟩ := Int.eq_ofNat_of_zero_le hc
    obtain ⟨b, rfl⟩ := Int.eq_ofNat_of_zero_le hb.1
    rw [ha, hd]
    refine bitOr_shl c b n ?_
    have := hb.2
    rw [hd, ← kbt_cast] at this
    exact Int.ofNat_lt.mp this
  exact or_int (by rw [e]; exact h _ _)
theorem lsh_by {n : Int} (k : Nat) (d : Int) (hn : n = (k : Int)) (hd : (2 : Int) ^ k = d) (hk : k ≤ 1000) (ha : a.natAbs < 2 ^ 64) (h : ∀ t' k, Q (.int (a * d) t') { s with toks := k }) : wpAny (model prog w) A (binaryOp .LShift (.int a t) (.int n u)) Q E s := by
  subst hn
  refine lshift_int_small (Int.natCast_nonneg k) (by omega) ha ?_
  rw [Int.toNat_natCast, hd]
  exact h _ _
theorem rsh_by {n : Int} (k : Nat) (d : Int) (hn : n = (k : Int)) (hd : (2 : Int) ^ k = d) (h : ∀ t' k, Q (.int (a / d) t') { s with toks := k }) : wpAny (model prog w) A (binaryOp .RShift (.int a t) (.int n u)) Q E s := by
  subst hn
  refine rshift_int (Int.natCast_nonneg k) ?_
  rw [Int.toNat_natCast, Int.fdiv_eq_ediv_of_nonneg _ (Int.le_of_lt (kbt_pos k)), hd]
  exact h _ _
theorem addI (h : ∀ t' k, Q (.int (a + b) t') { s with toks := k }) : wpAny (model prog w) A (binaryOp .Add (.int a t) (.int b u)) Q E s := add_int (h _ _)
theorem subI (h : ∀ t' k, Q (.int (a - b) t') { s with toks := k }) : wpAny (model prog w) A (binaryOp .Sub (.int a t) (.int b u)) Q E s := sub_int (h _ _)
theorem modI (hb : 0 < b) (h : ∀ t' k, Q (.int (a % b) t') { s with toks := k }) : wpAny (model prog w) A (binaryOp .Mod (.int a t) (.int b u)) Q E s :=
  mod_int (by omega) (by rw [Int.fmod_eq_emod_of_nonneg _ (Int.le_of_lt hb)]; exact h _ _)
theorem divI (hb : 0 < b ∧ b < 1073741824) (h : ∀ t' k, Q (.int (a / b) t') { s with toks := k }) : wpAny (model prog w) A (binaryOp .FloorDiv (.int a t) (.int b u)) Q E s :=
  floordiv_int (by omega) (by rw [Int.fdiv_eq_ediv_of_nonneg _ (Int.le_of_lt hb.1)]; exact h _ _) (Or.inl (PyProof.noPylong_small (by omega)))
theorem mulI (hb : b.natAbs < 2 ^ 64 ∨ a.natAbs < 2 ^ 64) (h : ∀ t' k, Q (.int (a * b) t') { s with toks := k }) : wpAny (model prog w) A (binaryOp .Mult (.int a t) (.int b u)) Q E s :=
  mul_int (h _ _) (hb.elim (fun h => IntMulOk.of_right (intBits_le_iff.mpr h)) fun h => IntMulOk.of_left (intBits_le_iff.mpr h))
theorem constI {env : Env} {pos : Pos} {i : Int} {kk : Nat} (h : ∀ t' k, Q (.int i t') { s with toks := k }) : wpAny (model prog w) A (eval (.Constant (.int i) kk pos) env) Q E s := wpAny_Constant_int (h _ _)
end
theorem intE {z z' : Int} {t : Tok} (h : z = z') : Value.int z t = Value.int z' t := by rw [h]
theorem sgE {z : Int} {j : Nat} (h : z.toNat = j) : ((sgn z.toNat : Nat) : Int) = ((sgn j : Nat) : Int) := by rw [h]
theorem dropN {h₀ h : Heap} {L : Addr} {news news' : List (Addr × Obj)} (N : News h₀ L h news') (hs : ∀ p ∈ news, p ∈ news') : News h₀ L h news := fun p hp => N p (hs p hp)
theorem noneAbove {news : List (Addr × Obj)} : ∀ q ∈ news, ∀ p ∈ ([] : List (Addr × Obj)), q.1 < p.1 := fun _ _ _ h => nomatch h
theorem sgn_lt (k : Nat) (h : k < 64) : sgn k < 256 := (by decide : ∀ k : Fin 64, sgn k.1 < 256) ⟨k, h⟩

/-- the encoder's machine -/
def stepB (st : Nat × Nat × List Nat) (x : Nat) : Nat × Nat × List Nat :=
  if st.1 = 0 then (2, (st.2.1 * 256 + x) % 65536, st.2.2 ++ [sgn ((st.2.1 * 256 + x) % 65536 / 4 % 64)])
  else if st.1 = 2 then (4, (st.2.1 * 256 + x) % 65536, st.2.2 ++ [sgn ((st.2.1 * 256 + x) % 65536 / 16 % 64)])
  else (0, (st.2.1 * 256 + x) % 65536, st.2.2 ++ [sgn ((st.2.1 * 256 + x) % 65536 / 64 % 64)] ++ [sgn ((st.2.1 * 256 + x) % 65536 % 64)])
theorem stepB0 (lc : Nat) (out : List Nat) (x : Nat) : stepB (0, lc, out) x = (2, (lc * 256 + x) % 65536, out ++ [sgn ((lc * 256 + x) % 65536 / 4 % 64)]) := rfl
theorem stepB2 (lc : Nat) (out : List Nat) (x : Nat) : stepB (2, lc, out) x = (4, (lc * 256 + x) % 65536, out ++ [sgn ((lc * 256 + x) % 65536 / 16 % 64)]) := rfl
theorem stepB4 (lc : Nat) (out : List Nat) (x : Nat) : stepB (4, lc, out) x = (0, (lc * 256 + x) % 65536, out ++ [sgn ((lc * 256 + x) % 65536 / 64 % 64)] ++ [sgn ((lc * 256 + x) % 65536 % 64)]) := rfl
def runB (l : List Nat) : Nat × Nat × List Nat := l.foldl stepB (0, 0, [])
def endB (st : Nat × Nat × List Nat) : List Nat :=
  if st.1 = 0 then st.2.2 ++ [10] else if st.1 = 2 then st.2.2 ++ [sgn (st.2.1 % 4 * 16)] ++ [61] ++ [61] ++ [10] else st.2.2 ++ [sgn (st.2.1 % 16 * 4)] ++ [61] ++ [10]
def encB (l : List Nat) : List Nat := endB (runB l)
theorem encB_eq (l : List Nat) : encB l = endB (runB l) := rfl
theorem runB_snoc (l : List Nat) (x : Nat) : runB (l ++ [x]) = stepB (runB l) x := by simp [runB]
theorem runB_ok (l : List Nat) : ((runB l).1 = 0 ∨ (runB l).1 = 2 ∨ (runB l).1 = 4) ∧ (runB l).2.1 < 65536 ∧ (runB l).2.2.length ≤ 2 * l.length ∧ ∀ k ∈ (runB l).2.2, k < 256 := by
  have h : ∀ l : List Nat, let r := runB l.reverse; (r.1 = 0 ∨ r.1 = 2 ∨ r.1 = 4) ∧ r.2.1 < 65536 ∧ r.2.2.length ≤ 2 * l.length ∧ ∀ k ∈ r.2.2, k < 256 := by
    intro l
    induction l with
    | nil => simp [runB]
    | cons x l ih =>
      simp only [List.reverse_cons, runB_snoc]
      generalize runB l.reverse = r at ih
      obtain ⟨lb, lc, out⟩ := r
      obtain ⟨h1, h2, h3, h4⟩ := ih
      dsimp only at h1 h2 h3 h4
      rcases h1 with rfl | rfl | rfl <;> simp only [stepB0, stepB2, stepB4] <;> refine ⟨by simp, by omega, by simp; omega, ?_⟩ <;> intro k hk <;> simp at hk
      · rcases hk with hk | rfl
        · exact h4 k hk
        · exact sgn_lt _ (by omega)
      · rcases hk with hk | rfl
        · exact h4 k hk
        · exact sgn_lt _ (by omega)
      · rcases hk with hk | rfl | rfl
        · exact h4 k hk
        · exact sgn_lt _ (by omega)
        · exact sgn_lt _ (by omega)
  have := h l.reverse
  simpa using this
theorem encB_lt (l : List Nat) : ∀ k ∈ encB l, k < 256 := by
  obtain ⟨h1, h2, h3, h4⟩ := runB_ok l
  rw [encB_eq]
  generalize runB l = r at *
  obtain ⟨lb, lc, out⟩ := r
  dsimp only at *
  rcases h1 with rfl | rfl | rfl <;> intro k hk <;> simp [endB] at hk
  · rcases hk with hk | rfl
    · exact h4 k hk
    · decide
  · rcases hk with hk | rfl | rfl | rfl
    · exact h4 k hk
    · exact sgn_lt _ (by omega)
    · decide
    · decide
  · rcases hk with hk | rfl | rfl | rfl
    · exact h4 k hk
    · exact sgn_lt _ (by omega)
    · decide
    · decide
end Mine

namespace Mine
open PySem PySem.W PySem.Spec PySem.Calls PyProof.Rows
namespace BJ
open Builtin Builtin.Bytes
theorem slot_join : Slot "bytes" "join" "bytes.join" :=
  .of (owner := "bytes") (n := "join") (by rw [typeLookup_type, builtinLookup_eq_fast]; kernel_rfl) (by decide +kernel) (by decide +kernel) (by decide +kernel)
    (by first | exact .inl (by decide +kernel) | exact .inr (by decide +kernel)) (by rw [isSubtype_type]; kernel_rfl)
theorem type_join : typeOf (.builtin "bytes.join") = pure (.type "method_descriptor") := by show builtinType _ = _; rw [builtinType_eq_fast]; kernel_rfl
theorem entry_join : entryFor table "bytes.join" = some Builtin.«bytes.join» := entryFor_of_tree (by kernel_rfl)
theorem args_join (a b : Value) : argsOk "bytes.join" ⟨[a, b], []⟩ := by
  unfold argsOk; rw [signature?_of (id := "bytes.join") (n := ['n', 'i', 'o', 'j']) (o := ['s', 'e', 't', 'y', 'b']) (by kernel_rfl) FB.owner_bytes]; kernel_rfl
theorem take_eq {id : String} {b : Array UInt8} {t : Tok} : takeBufferQuiet? id (.bytes b t) 0 = pure (some (b, none)) := by
  unfold takeBufferQuiet? takeBuffer?
  rw [KBy.special_eq KBy.look_buffer, KBy.own_buffer]
  simp only [pure_bind]
  show ((buffer? id (.bytes b t) (full := (0 : Int) == fullReadOnly) >>= fun r => pure (r.map (·, none))).attempt >>= _) = _
  have e : ∀ full, buffer? id (.bytes b t) full = pure (some b) := by
    intro full
    unfold buffer?
    rw [KBy.special_eq KBy.look_buffer, KBy.own_buffer, KBy.own_release]
    kernel_rfl
  rw [e]
  rfl
end BJ
end Mine
namespace Mine
open PySem PySem.W PySem.Spec PySem.Calls PyProof.Rows
inductive BytesAre : List Value → List (Array UInt8) → Prop
  | nil : BytesAre [] []
  | cons (b : Array UInt8) (t : Tok) {vs : List Value} {bs : List (Array UInt8)} : BytesAre vs bs → BytesAre (.bytes b t :: vs) (b :: bs)
theorem BytesAre.snoc {vs : List Value} {bs : List (Array UInt8)} {b : Array UInt8} {t : Tok} (h : BytesAre vs bs) : BytesAre (vs ++ [.bytes b t]) (bs ++ [b]) := by
  induction h with
  | nil => exact .cons _ _ .nil
  | cons b t _ ih => exact .cons _ _ ih
theorem BytesAre.length {vs : List Value} {bs : List (Array UInt8)} (h : BytesAre vs bs) : vs.length = bs.length := by
  induction h with
  | nil => rfl
  | cons b t _ ih => simp [ih]
theorem BytesAre.get {vs : List Value} {bs : List (Array UInt8)} (h : BytesAre vs bs) : ∀ i, i < vs.length → ∃ b t, vs[i]? = some (.bytes b t) ∧ bs[i]? = some b := by
  induction h with
  | nil => intro i hi; exact absurd hi (Nat.not_lt_zero _)
  | cons b t _ ih =>
    intro i hi
    cases i with
    | zero => exact ⟨b, t, rfl, rfl⟩
    | succ i => simpa using ih i (by simpa using hi)
namespace BJ
open Builtin Builtin.Bytes
theorem tooLong_of {n : Nat} (h : n ≤ sizeLine) : tooLong n = false := by unfold tooLong; exact decide_eq_false (by omega)
theorem let_go {M : Model} {A : Around} {E : Value → Shared → Prop} {s : Shared} {Q : Unit → Shared → Prop} (h : Q () s) : ∀ (l keep : List Value), wpAny M A (letGo l keep) Q E s
  | [], _ => wpAny_pure h
  | _ :: r, keep => wpAny_bind (wpAny_holding (wpAny_point (let_go h r keep)))
theorem join_let_go {M : Model} {A : Around} {E : Value → Shared → Prop} {s : Shared} {Q : Unit → Shared → Prop} (h : Q () s) : ∀ (l : List (Value × Option Value)) (keep : List Value), (∀ p ∈ l, p.2 = none) → wpAny M A (joinLetGo l keep) Q E s
  | [], _, _ => wpAny_pure h
  | (x, w) :: r, keep, hn => by
    have : w = none := hn (x, w) (.head _)
    subst this
    exact wpAny_bind (let_go (join_let_go h r keep fun p hp => hn p (.tail _ hp)) _ _)

theorem joined_eq (l : List (Array UInt8)) : joined #[] l = ofOcts (l.flatMap octs) := by
  have h : ∀ (l : List (Array UInt8)) (j : Nat) (acc : Array UInt8), (l.zipIdx j).foldl (fun out (p, i) => (if i > 0 then out ++ #[] else out) ++ p) acc = acc ++ ofOcts (l.flatMap octs) := by
    intro l
    induction l with
    | nil => intro j acc; simp [ofOcts]
    | cons b l ih =>
      intro j acc
      rw [List.zipIdx_cons, List.foldl_cons, ih]
      have e : ofOcts ((b :: l).flatMap octs) = b ++ ofOcts (l.flatMap octs) := by
        rw [List.flatMap_cons]
        have := ofOcts_octs b
        unfold ofOcts at *
        rw [List.map_append, ← List.append_toArray, this]
      rw [e]
      simp [Array.append_assoc]
  unfold joined
  rw [h l 0 #[]]
  simp
theorem joined_size (l : List (Array UInt8)) : (joined #[] l).size = l.foldl (· + ·.size) 0 := by
  rw [joined_eq, ofOcts_size]
  have h : ∀ (l : List (Array UInt8)) (k : Nat), l.foldl (· + ·.size) k = k + (l.flatMap octs).length := by
    intro l
    induction l with
    | nil => intro k; simp
    | cons b l ih => intro k; rw [List.foldl_cons, ih, List.flatMap_cons, List.length_append, octs_length]; omega
  rw [h l 0]; omega

theorem meets_join {a : Addr} {bs : List (Array UInt8)} {vs : List Value} {t : Tok} (hv : BytesAre vs bs) :
    Meets («bytes.join» ⟨[.bytes #[] t, .ref a], []⟩) (fun _ R s => s.heap.IsList a vs.toArray ∧ (bs.foldl (· + ·.size) 0) ≤ sizeLine ∧ ∀ t' k, R (.ok (.ret (.bytes (joined #[] bs) t'))) { s with toks := k }) := by
  refine .of_wp fun prog w A R s hS => ?_
  obtain ⟨⟨o, ho, hc, n, hd⟩, hsz, h⟩ := hS
  have hT : s.TypeIs (.ref a) "list" := ⟨o, ho, hc⟩
  show wpAny _ _ (joinM .bytes ⟨[.bytes #[] t, .ref a], []⟩) _ _ s
  unfold joinM
  refine wpAny_bind (wpAny_of_eq (a := (.bytes #[] t, .ref a)) rfl ?_)
  dsimp only
  refine wpAny_bind ?_
  unfold joinItems
  refine wpAny_bind (wpAny_typeOf hT ?_)
  refine wpAny_ite (KBc.ite_yes rfl (wpAny_pure ?_))
  refine wpAny_bind (wpAny_seqItems ho hd ?_)
  dsimp only
  refine wpAny_ite (KBc.ite_yes rfl ?_)
  have one : ∀ x, vs = [x] → ∃ b tb, x = .bytes b tb ∧ bs = [b] := by
    rintro x rfl
    cases hv with
    | cons b tb h0 => cases h0; exact ⟨b, tb, rfl, rfl⟩
  have hsz2 : vs.toArray.size = vs.length := by simp
  have hget0 : ∀ j b tb, vs[j]? = some (.bytes b tb) → j < vs.length → vs.toArray.getD j .none = .bytes b tb := by
    intro j b tb hx hjl
    simp [Array.getD, hjl]; simpa [hjl] using hx
  rcases hvs : vs with _ | ⟨x, _ | ⟨y, r⟩⟩
  case cons.nil =>
    obtain ⟨b, tb, rfl, rfl⟩ := one x hvs
    refine wpAny_bind (wpAny_typeOf (typeIs_bytes _ b tb) ?_)
    refine wpAny_ite (KBc.ite_yes rfl ?_)
    refine wpAny_bind (wpAny_rule (wpAny_pure ⟨_, rfl, ?_⟩))
    have := h tb s.toks
    have e : joined #[] [b] = b := by simp [joined]
    rw [e] at this
    exact this
  all_goals
    refine wpAny_bind ?_
    rw [← hvs]
    rw [KPc.range_list, hsz2]
    refine wpAny_forIn_list _ (fun rest st s' => s' = s ∧ ∃ j, rest = List.range' j (vs.length - j) 1 ∧ j ≤ vs.length ∧ st.1.toList = bs.take j ∧ ∀ p ∈ st.2, p.2 = none ∧ p.1.onHeap = false) _ ?_ ?_ _ _ ⟨rfl, 0, by simp, by omega, by simp, by simp⟩
    · rintro x rest ⟨parts, taken⟩ s' ⟨rfl, j, hr, hj, hp, ht⟩
      have hjl : j < vs.length := by
        rcases Nat.lt_or_ge j vs.length with h | h
        · exact h
        · rw [show vs.length - j = 0 by omega] at hr; cases hr
      rw [show vs.length - j = (vs.length - (j + 1)) + 1 by omega, List.range'_succ] at hr
      obtain ⟨rfl, rfl⟩ := List.cons.inj hr
      obtain ⟨b, tb, hx, hb⟩ := hv.get x hjl
      have hget := hget0 _ _ _ hx hjl
      refine wpAny_bind (wpAny_seqItems ho hd ?_)
      dsimp only at *
      rw [hget]
      refine wpAny_ite (KBy.ite_no ?_ ?_)
      · simp only [Bool.not_eq_true, Bool.or_eq_false_iff, List.any_eq_false]
        exact ⟨rfl, fun p hp' => by simp [(ht p hp').2]⟩
      refine wpAny_bind (wpAny_holding (wpAny_of_eq BJ.take_eq ?_))
      dsimp only
      refine wpAny_bind (wpAny_seqItems ho hd ?_)
      dsimp only
      refine wpAny_ite (KBy.ite_no (by simp) (wpAny_pure ?_))
      refine ⟨rfl, x + 1, rfl, hjl, ?_, ?_⟩
      · simp [hp, List.take_add_one, hb]
      · intro p hp'
        rcases List.mem_append.mp hp' with hp' | hp'
        · exact ht p hp'
        · rw [List.mem_singleton.mp hp']; exact ⟨rfl, rfl⟩
    · rintro ⟨parts, taken⟩ s' ⟨rfl, j, hr, hj, hp, ht⟩
      have hjl : j = vs.length := by
        rcases Nat.lt_or_ge j vs.length with h | h
        · rw [show vs.length - j = (vs.length - (j + 1)) + 1 by omega, List.range'_succ] at hr; cases hr
        · omega
      have hparts : parts = bs.toArray := by
        rw [hjl, hv.length, List.take_length] at hp
        dsimp only at hp
        rw [← hp]
      subst hparts
      dsimp only at *
      refine wpAny_bind (wpAny_of_eq (a := #[]) rfl ?_)
      refine wpAny_ite (KBy.ite_no ?_ ?_)
      · rw [tooLong_of]
        · exact Bool.false_ne_true
        · simpa using hsz
      refine wpAny_bind (wpAny_mkBytes ?_ ?_)
      · refine wpAny_bind (wpAny_holding (wpAny_point ?_))
        refine wpAny_bind (join_let_go ?_ _ _ fun p hp' => (ht p hp').1)
        exact wpAny_pure ⟨_, rfl, by simpa using h _ _⟩
      · rw [joined_size]; exact hsz
end BJ
section
variable {prog : Program} {w : World} {A : Around} {E : Value → Shared → Prop} {s : Shared} {h₀ : Heap} {L : Addr} {m : Str → Option Value} {news news' : List (Addr × Obj)} {Q : Value → Shared → Prop}
theorem join_B {l : Addr} {vs : List Value} {nn : Nat} {bs : List (Array UInt8)} {t : Tok} (N : News h₀ L s.heap news) (hl : (l, listOf vs.toArray nn) ∈ news) (hv : BytesAre vs bs) (hz : (bs.flatMap octs).length ≤ sizeLine)
    (h : ∀ t' k, Q (.bytes (ofOcts (bs.flatMap octs)) t') { s with toks := k }) : wpAny (model prog w) A (call (.builtin "bytes.join") [.bytes #[] t, .ref l]) Q E s := by
  refine call_meets BJ.slot_join (typeIs_bytes _ _ _) BJ.entry_join (BJ.args_join _ _) (BJ.meets_join hv) ⟨⟨_, (N _ hl).1, rfl, nn, rfl⟩, ?_, fun t' k => ?_⟩
  · rw [← BJ.joined_size, BJ.joined_eq, ofOcts_size]; exact hz
  · rw [BJ.joined_eq]; exact h t' k
theorem join_meth {M : Model} {pl : Sem Bool} {b : Array UInt8} {t : Tok} {Q : Value × List Value → Shared → Prop} (h : Q (.builtin "bytes.join", [.bytes b t]) s) : wpAny M A (getMethod (.bytes b t) "join" pl) Q E s := by
  with_reducible exact KBd.method_of (.bytes b t) (typeIs_bytes _ _ _) BJ.slot_join BJ.type_join KBd.noRef h
end
end Mine
namespace Mine
open PySem PySem.W PySem.Spec PySem.Calls PyProof.Rows
section
variable {prog : Program} {w : World} {A : Around} {E : Value → Shared → Prop} {s : Shared} {h₀ h : Heap} {L D b : Addr} {m : Str → Option Value} {news news' : List (Addr × Obj)} {n n2 : Nat} {vs us : List Value} {Q : Value → Shared → Prop}
theorem extend_Z (F : Fr h₀ L s.heap m) (N : News h₀ L s.heap news) (hb : (b, listOf us.toArray n2) ∈ news) (hne : us ≠ [])
    (U : Upd D (listOf vs.toArray n) (listOf (vs ++ us).toArray (n + 1)) news news') (hz : vs.length + us.length ≤ 1000000)
    (h : ∀ h', Fr h₀ L h' m → News h₀ L h' news' → Q .none { s with heap := h' }) : wpAny (model prog w) A (call (.builtin "list.extend") [.ref D, .ref b]) Q E s := by
  obtain ⟨pre, post, rfl, rfl, a, c⟩ := U.split
  have z := N (D, listOf vs.toArray n) (List.mem_append.mpr (.inr (.head _)))
  have hz1 : vs.toArray.size = vs.length := by simp
  have hz2 : us.toArray.size = us.length := by simp
  have hd : ¬(!vs.toArray.isEmpty && Builtin.List.listTooLong (vs.toArray.size + us.toArray.size)) = true := by
    have : Builtin.List.listTooLong (vs.toArray.size + us.toArray.size) = false := by
      unfold Builtin.List.listTooLong
      rw [hz1, hz2]
      first
        | exact decide_eq_false (by rw [sizeLine_eq]; omega)
        | (simp; omega)
    rw [this]; simp
  have hs1 : vs.toArray.size ≤ sizeLine := by rw [hz1, sizeLine_eq]; omega
  have hs2 : vs.toArray.size + us.toArray.size ≤ sizeLine + 1 := by rw [hz1, hz2, sizeLine_eq]; omega
  refine call_meets PySem.F.slot_list_extend ⟨_, z.1, rfl⟩ PySem.F.entry_list_extend (PySem.F.args_list_extend_2 _ _) (PySem.AutoSeq1.list_extend_list_list_0 D vs.toArray n b us.toArray n2 hd hs1 hs2) ⟨z.1, (N _ hb).1, ?_⟩
  have e : Obj.mapSeq (fun x => x ++ us.toArray) (listOf vs.toArray n) = listOf (vs ++ us).toArray (n + 1) := by
    have hl : us.length ≠ 0 := fun e => hne (List.length_eq_zero_iff.mp e)
    simp [Obj.mapSeq, W.listOf, hl]
  obtain ⟨F', N'⟩ := news_upd (f := Obj.mapSeq fun x => x ++ us.toArray) F N a c e rfl
  exact h _ F' N'
end
end Mine
namespace Mine
open PySem PySem.W PySem.Spec PySem.Calls PyProof.Rows
namespace SE
open Builtin Builtin.Str Builtin._codecs
def enc (f : Nat → List UInt8) (x : Str) : Array UInt8 := (x.cps.toList.flatMap f).toArray
theorem fold_enc (f : Nat → List UInt8) : ∀ (l : List Nat) (acc : Array UInt8), l.foldl (fun acc y => acc ++ (f y).toArray) acc = acc ++ (l.flatMap f).toArray
  | [], acc => by simp
  | y :: l, acc => by
    rw [List.foldl_cons, fold_enc f l, List.flatMap_cons, ← List.append_toArray, Array.append_assoc]
theorem narrow_ok {M : Model} {A : Around} {E : Value → Shared → Prop} {s : Shared} {Q : Array UInt8 → Shared → Prop} (id : String) (c : TextCodec) (self : Value) (x : Str) (hg : ∀ k ∈ x.cps.toList, c.bad k = false) (hz : (enc c.bytesOf x).size ≤ sizeLine)
    (h : Q (enc c.bytesOf x) s) : wpAny M A (encodeNarrow id c none self x) Q E s := by
  have hnone : x.cps.findIdx? c.bad = none := by
    rw [Array.findIdx?_eq_none_iff]
    intro k hk
    exact hg k (Array.mem_toList_iff.mpr hk)
  unfold encodeNarrow
  dsimp only
  rw [KPc.range_list]
  refine wpAny_bind (wpAny_forIn_list _ (fun rest st s' => s' = s ∧ ((st.1 = 0 ∧ st.2.1 = #[] ∧ rest.length = x.length) ∨ (st.1 = x.cps.size ∧ st.2.1 = enc c.bytesOf x))) _ ?_ ?_ _ _ ⟨rfl, .inl ⟨rfl, rfl, by simp⟩⟩)
  · rintro y rest ⟨i, out, st⟩ s' ⟨rfl, hst⟩
    dsimp only at *
    have hout : out.size ≤ sizeLine := by
      rcases hst with ⟨_, rfl, _⟩ | ⟨_, rfl⟩
      · simp
      · exact hz
    refine wpAny_ite (KBy.ite_no (by omega) ?_)
    rcases hst with ⟨rfl, rfl, hl⟩ | ⟨rfl, rfl⟩
    · have hsz : 0 < x.cps.size := by
        have : rest.length + 1 = x.cps.size := hl
        omega
      have e1 : x.cps[0]? = some x.cps[0] := by simp [hsz]
      have hb0 : c.bad x.cps[0] = false := hg _ (by simp)
      rw [e1]
      dsimp only
      rw [hb0]
      have e2 : x.cps.extract 0 x.cps.size = x.cps := by simp
      rw [e2, hnone]
      refine wpAny_ite (KBc.ite_yes rfl (wpAny_pure ⟨rfl, .inr ⟨by simp, ?_⟩⟩))
      have := fold_enc c.bytesOf x.cps.toList #[]
      simpa [enc] using this
    · have e1 : x.cps[x.cps.size]? = none := by simp
      rw [e1]
      exact wpAny_pure (wpAny_pure h)
  · rintro ⟨i, out, st⟩ s' ⟨rfl, hst⟩
    dsimp only at *
    refine wpAny_pure ?_
    rcases hst with ⟨_, rfl, hl⟩ | ⟨_, rfl⟩
    · have e : x.cps = #[] := Array.size_eq_zero_iff.mp hl.symm
      simpa [enc, e] using h
    · exact h
theorem road_ascii (id : String) (self : Value) (x : Str) : encodeRoad id self x (Str.ofString "ascii") none = (encodeNarrow id asciiCodec none self x >>= fun b => mkBytes b) := by
  kernel_rfl
theorem entry_ascii (x : Str) (t t1 : Tok) : «str.encode» ⟨[.str x t, .str (Str.ofString "ascii") t1], []⟩ = (encodeRoad "str.encode" (.str x t) x (Str.ofString "ascii") none >>= fun v => ret v) := by kernel_rfl
theorem meets_ascii (x : Str) (t t1 : Tok) (hg : ∀ k ∈ x.cps.toList, k < 128) : Meets («str.encode» ⟨[.str x t, .str (Str.ofString "ascii") t1], []⟩) (fun _ R s => x.length ≤ sizeLine ∧ ∀ t' k, R (.ok (.ret (.bytes (ofOcts x.cps.toList) t'))) { s with toks := k }) := by
  refine .of_wp fun prog w A R s hS => ?_
  obtain ⟨hsz, h⟩ := hS
  have e : enc asciiCodec.bytesOf x = ofOcts x.cps.toList := by
    unfold enc ofOcts asciiCodec
    congr 1
    generalize x.cps.toList = l
    induction l with
    | nil => rfl
    | cons k l ih => rw [List.flatMap_cons, List.map_cons, ih]; rfl
  have hz : (enc asciiCodec.bytesOf x).size ≤ sizeLine := by rw [e, ofOcts_size]; simpa [Str.length] using hsz
  rw [entry_ascii, road_ascii]
  refine wpAny_bind (wpAny_bind (narrow_ok _ _ _ _ (fun k hk => decide_eq_false (by have := hg k hk; omega)) hz ?_))
  rw [e] at hz ⊢
  exact wpAny_mkBytes (wpAny_pure ⟨_, rfl, h _ _⟩) hz
theorem meets_utf8 (x : Str) (t : Tok) (hg : ∀ k ∈ x.cps.toList, Str.isSurrogate k = false) : Meets («str.encode» ⟨[.str x t], []⟩) (fun _ R s => (enc Str.utf8Of x).size ≤ sizeLine ∧ ∀ t' k, R (.ok (.ret (.bytes (enc Str.utf8Of x) t'))) { s with toks := k }) := by
  refine .of_wp fun prog w A R s hS => ?_
  obtain ⟨hz, h⟩ := hS
  rw [encode_tree, encodeRoad_utf8]
  refine wpAny_bind (wpAny_bind (narrow_ok _ utf8Codec _ _ hg hz ?_))
  exact wpAny_mkBytes (wpAny_pure ⟨_, rfl, h _ _⟩) hz
end SE
section
variable {prog : Program} {w : World} {A : Around} {E : Value → Shared → Prop} {s : Shared} {Q : Value → Shared → Prop} {x : Str} {t t1 : Tok}
theorem enc_ascii (hg : ∀ k ∈ x.cps.toList, k < 128) (hz : x.length ≤ sizeLine) (h : ∀ t' k, Q (.bytes (ofOcts x.cps.toList) t') { s with toks := k }) :
    wpAny (model prog w) A (call (.builtin "str.encode") [.str x t, .str (Str.ofString "ascii") t1]) Q E s :=
  call_meets F.slot_str_encode (typeIs_str _ _ _) F.entry_str_encode (F.args_str_encode_2 _ _) (SE.meets_ascii x t t1 hg) ⟨hz, h⟩
theorem enc_utf8 (hg : ∀ k ∈ x.cps.toList, Str.isSurrogate k = false) (hz : (SE.enc Str.utf8Of x).size ≤ sizeLine) (h : ∀ t' k, Q (.bytes (SE.enc Str.utf8Of x) t') { s with toks := k }) :
    wpAny (model prog w) A (call (.builtin "str.encode") [.str x t]) Q E s :=
  call_meets F.slot_str_encode (typeIs_str _ _ _) F.entry_str_encode (F.args_str_encode_1 _) (SE.meets_utf8 x t hg) ⟨hz, h⟩
theorem enc_meth {M : Model} {pl : Sem Bool} {Q : Value × List Value → Shared → Prop} (h : Q (.builtin "str.encode", [.str x t]) s) : wpAny M A (getMethod (.str x t) "encode" pl) Q E s := by
  with_reducible exact getMethod_builtin (typeIs_str _ _ _) F.plainAttrs_str F.slot_str_encode F.type_str_encode (fun _ e => nomatch e) h
end
end Mine
namespace Mine
open PySem PySem.W PySem.Spec PySem.Calls PyProof.Rows
open Builtin.Str in
theorem slice_ix (lo hi : Option Int) (n : Nat) : strSliceIndices lo hi 1 n = sliceRange ((lo.elim 0 (clipAt n) : Nat) : Int) ((hi.elim n (clipAt n) : Nat) : Int) 1 := by
  unfold strSliceIndices
  simp only [show (1 : Int) > 0 by decide, if_true]
  cases lo <;> cases hi <;> simp only [Option.elim, clipAt_cast] <;> rfl
theorem slice_list (x : Str) (lo hi : Option Int) : (Txt.slice x lo hi).cps.toList = (x.cps.toList.drop (lo.elim 0 (clipAt x.length))).take (hi.elim x.length (clipAt x.length) - lo.elim 0 (clipAt x.length)) := by
  have e : ((Builtin.Str.strSliceIndices lo hi 1 x.length).filterMap (x.cps[·]?)) = (x.cps.toList.drop (lo.elim 0 (clipAt x.length))).take (hi.elim x.length (clipAt x.length) - lo.elim 0 (clipAt x.length)) := by
    rw [slice_ix, sliceRange_one, pick_run]
  unfold Txt.slice
  split
  · rename_i h
    have hl : (Builtin.Str.strSliceIndices lo hi 1 x.length).length = x.length := by simpa using h
    rw [slice_ix, sliceRange_one, List.length_map, List.length_range] at hl
    have hb : hi.elim x.length (clipAt x.length) ≤ x.length := by
      cases hi with
      | none => exact Nat.le_refl _
      | some j =>
        have := clipAt_cast x.length j
        simp only [Option.elim]
        omega
    have hx : x.cps.toList.length = x.length := by simp [Str.length]
    rcases Nat.eq_zero_or_pos x.length with h0 | h0
    · rw [List.eq_nil_of_length_eq_zero (hx.trans h0)]; simp
    · have ha : lo.elim 0 (clipAt x.length) = 0 := by omega
      rw [ha] at hl ⊢
      rw [List.drop_zero, hl, List.take_of_length_le (by omega)]
  · exact e
end Mine
namespace Mine
open PySem PySem.W PySem.Spec PySem.Calls PyProof.Rows
/-- a row of signs cut into lines -/
def linesL (w : Nat) (l : List Nat) : List Nat := if l = [] ∨ w = 0 then [] else l.take w ++ 10 :: linesL w (l.drop w)
termination_by l.length
decreasing_by
  rename_i h
  simp only [not_or] at h
  have : l.length ≠ 0 := fun e => h.1 (List.length_eq_zero_iff.mp e)
  simp only [List.length_drop]; omega
theorem linesL_nil (w : Nat) : linesL w [] = [] := by rw [linesL]; simp
theorem linesL_cons (w : Nat) {l : List Nat} (h : l ≠ []) (hw : w ≠ 0) : linesL w l = l.take w ++ 10 :: linesL w (l.drop w) := by
  rw [linesL]; simp [h, hw]
theorem linesL_len (w : Nat) (l : List Nat) : (linesL w l).length ≤ 2 * l.length := by
  by_cases h : l = [] ∨ w = 0
  · rw [linesL, if_pos h]; simp
  · simp only [not_or] at h
    have hl : l.length ≠ 0 := fun e => h.1 (List.length_eq_zero_iff.mp e)
    rw [linesL_cons w h.1 h.2]
    have ih := linesL_len w (l.drop w)
    simp only [List.length_append, List.length_cons, List.length_take, List.length_drop] at *
    omega
termination_by l.length
decreasing_by simp only [List.length_drop]; omega
theorem linesL_all (p : Nat → Prop) (h10 : p 10) (w : Nat) (l : List Nat) (hl : ∀ k ∈ l, p k) : ∀ k ∈ linesL w l, p k := by
  by_cases h : l = [] ∨ w = 0
  · rw [linesL, if_pos h]; simp
  · simp only [not_or] at h
    have hl' : l.length ≠ 0 := fun e => h.1 (List.length_eq_zero_iff.mp e)
    rw [linesL_cons w h.1 h.2]
    have ih := linesL_all p h10 w (l.drop w) fun k hk => hl k (List.mem_of_mem_drop hk)
    intro k hk
    rcases List.mem_append.mp hk with hk | hk
    · exact hl k (List.mem_of_mem_take hk)
    · rcases List.mem_cons.mp hk with rfl | hk
      · exact h10
      · exact ih k hk
termination_by l.length
decreasing_by simp only [List.length_drop]; omega
theorem str_len (x : Str) : x.cps.toList.length = x.length := by simp [Str.length]
theorem str_cat (x y : Str) : (x ++ y).cps.toList = x.cps.toList ++ y.cps.toList := by rw [Str.cps_append, Array.toList_append]
theorem str_nil {x : Str} : x.cps.toList = [] ↔ x = Str.ofString "" := by
  have e : (Str.ofString "").cps = #[] := by decide
  constructor
  · intro h
    refine Str.ext' ?_
    rw [e]
    exact Array.toList_inj.mp h
  · rintro rfl
    rw [e]
theorem str_ne {x : Str} (h : (x != Str.ofString "") = true) : x.cps.toList ≠ [] := fun e => by
  rw [str_nil.mp e] at h
  exact absurd h (by decide)
theorem clip_pos (n : Nat) (i : Int) (h : 0 ≤ i) : clipAt n i = min i.toNat n := by
  obtain ⟨k, rfl⟩ := Int.eq_ofNat_of_zero_le h
  rw [clipAt_nat]; rfl
theorem slice_take (x : Str) (i : Int) (h : 0 ≤ i) : (Txt.slice x none (some i)).cps.toList = x.cps.toList.take i.toNat := by
  rw [slice_list]
  simp only [Option.elim, List.drop_zero, Nat.sub_zero]
  rw [clip_pos _ _ h]
  rcases Nat.le_total i.toNat x.length with h1 | h1
  · rw [Nat.min_eq_left h1]
  · rw [Nat.min_eq_right h1, List.take_of_length_le (by rw [str_len]; omega), List.take_of_length_le (by rw [str_len]; omega)]
theorem slice_drop (x : Str) (i : Int) (h : 0 ≤ i) : (Txt.slice x (some i) none).cps.toList = x.cps.toList.drop i.toNat := by
  rw [slice_list]
  simp only [Option.elim]
  rw [clip_pos _ _ h]
  rcases Nat.le_total i.toNat x.length with h1 | h1
  · rw [Nat.min_eq_left h1, List.take_of_length_le (by rw [List.length_drop, str_len]; omega)]
  · rw [Nat.min_eq_right h1, List.drop_of_length_le (by rw [str_len]; omega), List.drop_of_length_le (by rw [str_len]; omega)]; simp
end Mine

namespace Mine
open PySem PySem.W PySem.Spec PySem.Calls PyProof.Rows
section
variable {prog : Program} {w : World} {A : Around} {E : Value → Shared → Prop} {s : Shared} {value slice : PySem.Expr} {Q : Value → Shared → Prop}
/-- a text's sign at a known place -/
theorem item_S {x : Str} {t : Tok} {i : Int} {ui : Tok} {c : Nat} (h0 : 0 ≤ i ∧ i < 1000000) (hc : x.cps.toList[i.toNat]? = some c) (h : ∀ t' k, Q (.str ⟨#[c]⟩ t') { s with toks := k })
    (hs : subscripted slice false (.str x t) (.int i ui) = operate [.str x t, .int i ui] (getItem (.str x t) (.int i ui)) := by with_unfolding_all rfl)
    (ht : ∀ r, letTemporaryGo value (.str x t) r = pure () := by intro _; with_unfolding_all rfl) :
    wpAny (model prog w) A (subscriptTail value slice (.str x t) (.int i ui)) Q E s := by
  have hx : x.cps[i.toNat]? = some c := by rw [← Array.getElem?_toList]; exact hc
  have hlt : i.toNat < x.length := by
    rcases Nat.lt_or_ge i.toNat x.cps.size with h1 | h1
    · exact h1
    · rw [Array.getElem?_eq_none h1] at hx; cases hx
  have e : seqIndex? i x.length = some i.toNat := by
    have h1 : ¬ i < 0 := by omega
    have h2 : i < (x.length : Int) := by omega
    simp [seqIndex?, h1, h2, h0.1]
  exact tail_of_ItemOn ⟨"str", _, F.slot_str_getitem.lookup, typeIs_str _ _ _, P.getItem_str (c := c) (by simp; omega) (by rw [e]; exact hx) (h _ _)⟩ hs ht
/-- a text of one sign, some times over -/
theorem mul_one_S {x : Str} {c : Nat} {n : Int} {t u : Tok} (hx : x.cps = #[c]) (hn : 0 ≤ n ∧ n ≤ 1000) (h : ∀ y t' k, y.cps.toList = List.replicate n.toNat c → Q (.str y t') { s with toks := k }) :
    wpAny (model prog w) A (binaryOp .Mult (.str x t) (.int n u)) Q E s := by
  have hl : x.length = 1 := by show x.cps.size = 1; rw [hx]; rfl
  refine SB.mul ⟨?_, ?_, ?_⟩ fun t' k => h _ t' k ?_
  · simp; omega
  · intro h1 _ h2
    rw [hl] at h2
    have : (1 : Int) ≤ (2 ^ 63 - 1) / n := by
      refine (Int.le_ediv_iff_mul_le (by omega)).mpr ?_
      omega
    omega
  · intro _ _
    unfold Builtin.Str.tooLong
    rw [hl]
    first
      | exact decide_eq_false (by rw [sizeLine_eq]; omega)
      | (simp [sizeLine_eq]; omega)
  · obtain ⟨k, rfl⟩ := Int.eq_ofNat_of_zero_le hn.1
    unfold Txt.mul
    have rep : ∀ (k : Nat) (acc : Array Nat), ((List.replicate k x.cps).foldl (· ++ ·) acc).toList = acc.toList ++ List.replicate k c := by
      intro k
      induction k with
      | zero => intro acc; simp
      | succ k ih =>
        intro acc
        rw [List.replicate_succ, List.foldl_cons, ih, Array.toList_append, hx, List.replicate_succ]
        simp
    split
    · have : k = 0 := by omega
      subst this; rfl
    · split
      · rename_i h1
        have : k = 1 := by
          rw [hl] at h1
          simp at h1
          omega
        subst this
        rw [hx]; rfl
      · have := rep k #[]
        simpa using this
theorem pow256 {n : Int} {t u : Tok} (hn : 0 ≤ n ∧ n ≤ 2) (h : ∀ (z : Nat) t' k, z = 256 ^ n.toNat → 1 ≤ z → z ≤ 65536 → Q (.int (z : Int) t') { s with toks := k }) :
    wpAny (model prog w) A (binaryOp .Pow (.int 256 t) (.int n u)) Q E s := by
  refine pow_int_small hn.1 (by omega) (by decide) ?_
  obtain ⟨k, rfl⟩ := Int.eq_ofNat_of_zero_le hn.1
  have hk : k = 0 ∨ k = 1 ∨ k = 2 := by omega
  have e : ((256 : Int) ^ (Int.ofNat k).toNat) = ((256 ^ k : Nat) : Int) := by
    show (256 : Int) ^ k = _
    simp
  have := h (256 ^ k) s.toks (s.toks + 1) rfl (by rcases hk with rfl | rfl | rfl <;> decide) (by rcases hk with rfl | rfl | rfl <;> decide)
  rw [← e] at this
  exact this
end
def alpha : Str := Str.ofString "ABCDEFGHIJKLMNOPQRSTUVWXYZabcdefghijklmnopqrstuvwxyz0123456789+/"
theorem alpha_get (k : Nat) (h : k < 64) : alpha.cps.toList[k]? = some (sgn k) := (by decide +kernel : ∀ k : Fin 64, alpha.cps.toList[k.1]? = some (sgn k.1)) ⟨k, h⟩
/-- a row of octets as one number; its low digits to base 64, as signs -/
def numOf (l : List Nat) : Nat := l.foldl (fun n o => n * 256 + o) 0
theorem numOf_snoc (l : List Nat) (x : Nat) : numOf (l ++ [x]) = numOf l * 256 + x := by simp [numOf]
def lowS : Nat → Nat → List Nat
  | 0, _ => []
  | k + 1, n => sgn (n / 64 ^ k % 64) :: lowS k n
theorem lowS_length (k n : Nat) : (lowS k n).length = k := by induction k with | zero => rfl | succ k ih => simp [lowS, ih]
def lackOf (n : Nat) : Nat := (3 - n % 3) % 3
def sigL (l : List Nat) : List Nat := (lowS ((l.length + lackOf l.length) / 3 * 4) (numOf l * 256 ^ lackOf l.length)).take ((l.length + lackOf l.length) / 3 * 4 - lackOf l.length) ++ List.replicate (lackOf l.length) 61
end Mine
namespace Mine
open PySem PySem.W PySem.Spec PySem.Calls PyProof.Rows
theorem item_alpha {i : Int} (h : 0 ≤ i ∧ i < 64) : (Txt.item (Str.ofString "ABCDEFGHIJKLMNOPQRSTUVWXYZabcdefghijklmnopqrstuvwxyz0123456789+/") i).cps.toList = [sgn i.toNat] := by
  obtain ⟨k, rfl⟩ := Int.eq_ofNat_of_zero_le h.1
  have hk : k < 64 := by omega
  exact (by decide +kernel : ∀ k : Fin 64, (Txt.item (Str.ofString "ABCDEFGHIJKLMNOPQRSTUVWXYZabcdefghijklmnopqrstuvwxyz0123456789+/") ((k.1 : Nat) : Int)).cps.toList = [sgn k.1]) ⟨k, hk⟩
theorem mul_list {x : Str} {c n : Nat} (hx : x.cps = #[c]) : (Txt.mul x (n : Int)).cps.toList = List.replicate n c := by
  have hl : x.length = 1 := by show x.cps.size = 1; rw [hx]; rfl
  unfold Txt.mul
  have rep : ∀ (k : Nat) (acc : Array Nat), ((List.replicate k x.cps).foldl (· ++ ·) acc).toList = acc.toList ++ List.replicate k c := by
    intro k
    induction k with
    | zero => intro acc; simp
    | succ k ih =>
      intro acc
      rw [List.replicate_succ, List.foldl_cons, ih, Array.toList_append, hx, List.replicate_succ]
      simp
  split
  · have : n = 0 := by omega
    subst this; rfl
  · split
    · rename_i h1
      have : n = 1 := by
        rw [hl] at h1
        simp at h1
        omega
      subst this
      rw [hx]; rfl
    · have := rep n #[]
      simpa using this
end Mine

namespace Mine
open PySem PySem.W PySem.Spec PySem.Calls PyProof.Rows
theorem noPylong_left {x y : Int} (h : x.natAbs < 1073741824) : Builtin.divisionGoesByPylong x y = false := by
  have h1 : (if x == 0 then 0 else x.natAbs.log2 / 30 + 1) ≤ 1 := by
    by_cases h0 : (x == 0) = true
    · rw [if_pos h0]; exact Nat.zero_le _
    · rw [if_neg h0]
      have hx : x.natAbs ≠ 0 := by
        intro e
        have : x = 0 := by omega
        subst this; exact h0 rfl
      have h30 : x.natAbs.log2 < 30 := (Nat.log2_lt hx).mpr h
      omega
  show (decide ((if y == 0 then 0 else y.natAbs.log2 / 30 + 1) > 300) && decide ((if x == 0 then 0 else x.natAbs.log2 / 30 + 1) > (if y == 0 then 0 else y.natAbs.log2 / 30 + 1) + 150)) = false
  rw [decide_eq_false (p := (if x == 0 then 0 else x.natAbs.log2 / 30 + 1) > _) (by omega), Bool.and_false]
section
variable {prog : Program} {w : World} {A : Around} {E : Value → Shared → Prop} {s : Shared} {h₀ : Heap} {L : Addr} {m : Str → Option Value} {news : List (Addr × Obj)} {Q : Value → Shared → Prop}
theorem range_Z {a b c : Int} {t u v : Tok} (F : Fr h₀ L s.heap m) (N : News h₀ L s.heap news) (hc : c ≠ 0) (hs : (b - a).natAbs < 1073741824)
    (h : ∀ h' tk t₁ u₁ v₁, IsRange h' s.heap.objs.size a b c t₁ u₁ v₁ → Fr h₀ L h' m → News h₀ L h' news → (∀ b o, s.heap.get? b = some o → h'.get? b = some o) → Q (.ref s.heap.objs.size) { s with heap := h', toks := tk }) :
    wpAny (model prog w) A (call (.type "range") [.int a t, .int b u, .int c v]) Q E s := range3_rows F N hc h (.inl (noPylong_left hs))
theorem range_new_zero (a b : Int) (t u v : Tok) : Meets (Builtin.«range.__new__» ⟨[.type "range", .int a t, .int b u, .int 0 v], []⟩) (raisesNew "ValueError") := by
  intro prog w A R s hS
  have e : Builtin.«range.__new__» ⟨[.type "range", .int a t, .int b u, .int 0 v], []⟩ = (rule "range.new.step-zero" >>= fun _ => (raiseError "ValueError" "range() arg 3 must not be zero" : Sem PUnit) >>= fun _ => Builtin.roomForPylong (b - a) 0 >>= fun _ => newFields "range" [.int a t, .int b u, .int 0 v] >>= fun x => ret x) := by
    have hsub := F.called_range.sub
    show (isSubtype (.type "range") (.type "range") >>= fun r => _) = _
    rw [hsub]
    kernel_rfl
  rw [e]
  first
    | exact wpAny_bind (wpAny_rule (by exact_raiseError plainExc_ValueError hS.1 hS.2))
    | exact wpAny_bind (wpAny_rule (wpAny_bind (by exact_raiseError plainExc_ValueError hS.1 hS.2)))
theorem range_zero {a b c : Int} {t u v : Tok} (hc : c = 0) (hh : A.handled = none) (h : ∀ h' tk e, Heap.NewExc s.heap h' e "ValueError" → E (.ref e) { s with heap := h', toks := tk }) :
    wpAny (model prog w) A (call (.type "range") [.int a t, .int b u, .int c v]) Q E s := by
  subst hc
  exact callType_newIn F.called_range (by decide) (F.typeCall_range_3 _ _ _) (F.newCall_range_3 _ _ _) (fun obj => F.initArgs_range_3 obj _ _ _) F.entry_range_new
    (fun A R s h => range_new_zero a b t u v prog w A R s h) ⟨hh, fun h' tk e hx => h h' tk e hx⟩
end
/-- the encoder's pieces -/
def chunkE (m : Nat) (l : List Nat) : List Nat := if l = [] ∨ m = 0 then [] else encB (l.take m) ++ chunkE m (l.drop m)
termination_by l.length
decreasing_by
  rename_i h
  simp only [not_or] at h
  have : l.length ≠ 0 := fun e => h.1 (List.length_eq_zero_iff.mp e)
  simp only [List.length_drop]; omega
theorem chunkE_nil (m : Nat) : chunkE m [] = [] := by rw [chunkE]; simp
theorem chunkE_cons (m : Nat) {l : List Nat} (h : l ≠ []) (hm : m ≠ 0) : chunkE m l = encB (l.take m) ++ chunkE m (l.drop m) := by
  rw [chunkE]; simp [h, hm]
theorem encB_len (l : List Nat) : (encB l).length ≤ 2 * l.length + 4 := by
  obtain ⟨h1, h2, h3, h4⟩ := runB_ok l
  rw [encB_eq]
  generalize runB l = r at *
  obtain ⟨lb, lc, out⟩ := r
  dsimp only at *
  rcases h1 with rfl | rfl | rfl <;> simp [endB] <;> omega
theorem chunkE_len (m : Nat) (l : List Nat) : (chunkE m l).length ≤ 6 * l.length := by
  by_cases h : l = [] ∨ m = 0
  · rw [chunkE, if_pos h]; simp
  · simp only [not_or] at h
    have hl : l.length ≠ 0 := fun e => h.1 (List.length_eq_zero_iff.mp e)
    rw [chunkE_cons m h.1 h.2]
    have ih := chunkE_len m (l.drop m)
    have := encB_len (l.take m)
    simp only [List.length_append, List.length_take, List.length_drop] at *
    omega
termination_by l.length
decreasing_by simp only [List.length_drop]; omega
theorem octs_picked (b : Array UInt8) {lo hi : Int} (h0 : 0 ≤ lo) (h1 : lo ≤ hi) : octs (KBy.picked b (some lo) (some hi)) = ((octs b).drop lo.toNat).take (hi.toNat - lo.toNat) := by
  rw [KBc.picked_eq]
  unfold octs
  simp only [Option.elim, List.map_take, List.map_drop]
  rw [clip_pos _ _ h0, clip_pos _ _ (Int.le_trans h0 h1)]
  have hl : (b.toList.map (·.toNat)).length = b.size := by simp
  generalize b.toList.map (·.toNat) = l at *
  rw [← hl]
  rcases Nat.le_total lo.toNat l.length with h | h
  · rw [Nat.min_eq_left h]
    rcases Nat.le_total hi.toNat l.length with h2 | h2
    · rw [Nat.min_eq_left h2]
    · rw [Nat.min_eq_right h2, List.take_of_length_le (by rw [List.length_drop]; omega), List.take_of_length_le (by rw [List.length_drop]; omega)]
  · rw [Nat.min_eq_right h, List.drop_of_length_le (Nat.le_refl _), List.drop_of_length_le h]; simp
theorem rangeSize_ceil (n : Nat) (m : Int) (hm : 0 < m) : Builtin.Range.rangeSize 0 (n : Int) m = (((n + m.toNat - 1) / m.toNat : Nat) : Int) := by
  obtain ⟨k, rfl⟩ := Int.eq_ofNat_of_zero_le (Int.le_of_lt hm)
  have hk : 0 < k := by omega
  unfold Builtin.Range.rangeSize
  rw [if_pos (by omega)]
  simp only [Int.toNat_natCast]
  split
  · rename_i h
    have e1 : n + k - 1 = (n - 1) + k := by omega
    rw [e1, Nat.add_div_right _ hk]
    have : ((n : Int) - 0 - 1) = ((n - 1 : Nat) : Int) := by omega
    rw [this, ← Int.natCast_ediv]
    rfl
  · have : n = 0 := by omega
    subst this
    rw [Nat.div_eq_of_lt (by omega)]; rfl
section
variable {prog : Program} {w : World} {A : Around} {E : Value → Shared → Prop} {s : Shared} {value slice : PySem.Expr} {b : Array UInt8} {t tl th : Tok} {lo hi : Int} {h₀ : Heap} {L : Addr} {m : PySem.Str → Option Value} {news : List (Addr × Obj)} {Q : Value → Shared → Prop}
theorem slice_Z (F : Fr h₀ L s.heap m) (N : News h₀ L s.heap news) (hz : b.size ≤ 16777216) (h0 : 0 ≤ lo ∧ lo ≤ hi)
    (h : ∀ h' t' k y, Fr h₀ L h' m → News h₀ L h' news → octs y = ((octs b).drop lo.toNat).take (hi.toNat - lo.toNat) → Q (.bytes y t') { s with heap := h', toks := k })
    (hs : subscripted slice false (.bytes b t) (.ref s.heap.objs.size) = operate [.ref s.heap.objs.size, .bytes b t] (getItem (.bytes b t) (.ref s.heap.objs.size)) := by with_unfolding_all rfl)
    (ht : ∀ r, letTemporaryGo value (.bytes b t) r = pure () := by intro _; with_unfolding_all rfl) :
    wpAny (model prog w) A (subscriptTail value slice (.bytes b t) (.ref s.heap.objs.size)) Q E { s with heap := s.heap.push { cls := .type "slice", data := .fields #[.int lo tl, .int hi th, .none] } } :=
  KBc.slice_K F N rfl (.int lo tl) (.int hi th) (by rw [KBw.ints_length]; exact hz) (fun h' t' k F' N' _ => h h' t' k _ F' N' (octs_picked b h0.1 h0.2)) hs ht
end
end Mine
namespace Mine
open PySem PySem.W PySem.Spec PySem.Calls PyProof.Rows
theorem Spec1.use {prog : Program} {w : World} {K : Frag} {p : Program} {loose : List Str} {mean : ExcName → Option Value} {mg mb : Str → Option Value} {f : Addr} {pos : List Value} {kw : List (Str × Value)} {d u : Nat}
    {Pre : List (Addr × Obj) → Prop} {Out : List (Addr × Obj) → Value → Prop} {Bad : String → Prop} (C : Spec1 prog w K p loose mean mg mb f pos kw d u Pre Out Bad)
    {dp un : Nat} {gd : Option (List Code)} {cn : Str} {cs : Scope} {a : Addr} {ccd : Value} {cl : List (Str × Addr)} {outer : List Env} {A₀ : Around} {base h₀ : Heap} {L : Addr} {m : Str → Option Value} {news : List (Addr × Obj)} {s : Shared}
    {Q E : Value → Shared → Prop} (B : Below A₀ base outer h₀) (F : Fr h₀ L s.heap m) (X : K.In h₀) (N : News h₀ L s.heap news) (T : Top p loose mean mg mb h₀) (hk : cs.kind = .function) (hd : dp + d < recursionLimit) (hu : un + u < cLine) (hp : Pre news)
    (ret : ∀ r tl h' tk', Fr h₀ L h' m → News h₀ L h' (tl ++ news) → (∀ q ∈ news, ∀ p ∈ tl, q.1 < p.1) → Out tl r → Q r { s with heap := h', toks := tk' })
    (bad : ∀ X e g h' tk', Bad X → Fr h₀ L g m → g.UpToSlots h' → RaisedN base (envX cn cs L a ccd cl :: outer) e (.type X) news h' → E (.ref e) { s with heap := h', toks := tk' }) :
    wpAny (model prog w) (ktrTop dp un gd cn cs L a ccd cl outer) (call (.ref f) pos kw) Q E s :=
  C dp un gd cn cs a ccd cl outer A₀ base h₀ L m news s Q E B F X N T hk hd hu hp ret bad
end Mine
namespace Mine
theorem ceil_lt {n m i : Nat} (hm : 0 < m) (h : i < (n + m - 1) / m) : i * m < n := by
  have := (Nat.le_div_iff_mul_le hm).mp (show i + 1 ≤ (n + m - 1) / m from h)
  rw [Nat.add_mul] at this
  omega
theorem ceil_ge (n m : Nat) (hm : 0 < m) : n ≤ (n + m - 1) / m * m := by
  have h1 := Nat.div_add_mod (n + m - 1) m
  have h2 := Nat.mod_lt (n + m - 1) hm
  rw [Nat.mul_comm] at h1
  omega
end Mine
namespace Mine
open PySem PySem.W PySem.Spec PySem.Calls PyProof.Rows
theorem raisedN_sub {base : Heap} {l : List Env} {e : Addr} {cls : Value} {news news' : List (Addr × Obj)} {h : Heap} (R : RaisedN base l e cls news' h) (hs : ∀ p ∈ news, p ∈ news') : RaisedN base l e cls news h := by
  obtain ⟨B, a0, h1, h2, h3⟩ := R
  exact ⟨B, a0, h1, fun q hq => h2 q (hs q hq), h3⟩
end Mine

namespace Mine
open PySem PySem.W PySem.Spec PySem.Calls PyProof.Rows
namespace TN
open Builtin
theorem slot_type_ne : Slot "type" (cmpInfo .NotEq).2.1 "object.__ne__" :=
  .of (owner := "object") (n := "__ne__") (by rw [typeLookup_type, builtinLookup_eq_fast]; kernel_rfl) (by decide +kernel) (by decide +kernel) (by decide +kernel)
    (by first | exact .inl (by decide +kernel) | exact .inr (by decide +kernel)) (by rw [isSubtype_type]; kernel_rfl)
theorem meets_ne {X : String} (hX : ∀ s' : Shared, s'.TypeIs (.type X) "type") : Meets («object.__ne__» ⟨[.type X, .type X], []⟩) (fun _ R s => R (.ok (.ret (.bool false))) s) := by
  refine .of_wp fun prog w A R s hS => ?_
  unfold Builtin.«object.__ne__»
  refine wpAny_bind (wpAny_of_eq (a := (Value.type X, [Value.type X])) (by simp [slotArgs]) ?_)
  refine wpAny_bind (wpAny_cRoomFor_or (.inl rfl) ?_)
  refine wpAny_bind (wpAny_callSpecialIfBound?_slot (hX s) TypeEq.slot_type_eq (call_gives TypeEq.slot_type_eq (hX s) F.entry_object_eq (F.args_object_eq_2 _ _) (TypeEq.object_eq_same rfl (by simp)) ?_))
  show wpAny _ _ (truthy (.bool true) >>= fun b => ret (.bool (!b))) _ _ _
  refine wpAny_bind (wpAny_truthy_bool ?_)
  exact wpAny_pure ⟨_, rfl, hS⟩
end TN
section
variable {prog : Program} {w : World} {A : Around} {E : Value → Shared → Prop} {s : Shared} {Q : Value → Shared → Prop}
theorem ne_type_same {X : String} (hX : ∀ s' : Shared, s'.TypeIs (.type X) "type") (h : Q (.bool false) s) : wpAny (model prog w) A (compareOp .NotEq (.type X) (.type X)) Q E s := by
  show wpAny _ A (richCompare .NotEq _ _) Q E s
  exact wpAny_richCompare_same (T := "type") (hX s) (hX s) TN.slot_type_ne
    (call_meets TN.slot_type_ne (hX s) F.cmpEntry_ne (F.cmpArgs_ne _ _) (TN.meets_ne hX) ⟨(by intro e; cases e), h⟩)
end
end Mine

namespace Mine
open PySem PySem.W PySem.Spec PySem.Calls PyProof.Rows
/-- a call of a def of the text; what it raises is told by its class, as a value -/
def Spec2 (prog : Program) (w : World) (K : Frag) (p : Program) (loose : List Str) (mean : ExcName → Option Value) (mg mb : Str → Option Value) (f : Addr) (pos : List Value) (kw : List (Str × Value)) (d u : Nat)
    (Pre : List (Addr × Obj) → Prop) (Out : List (Addr × Obj) → Value → Prop) (Bad : Value → Prop) : Prop :=
  ∀ (dp un : Nat) (gd : Option (List Code)) (cn : Str) (cs : Scope) (a : Addr) (ccd : Value) (cl : List (Str × Addr)) (outer : List Env) (A₀ : Around) (base h₀ : Heap) (L : Addr) (m : Str → Option Value) (news : List (Addr × Obj)) (s : Shared)
    (Q E : Value → Shared → Prop),
    Below A₀ base outer h₀ → Fr h₀ L s.heap m → K.In h₀ → News h₀ L s.heap news → Top p loose mean mg mb h₀ → cs.kind = .function → dp + d < recursionLimit → un + u < cLine → Pre news →
    (∀ r tl h' tk', Fr h₀ L h' m → News h₀ L h' (tl ++ news) → (∀ q ∈ news, ∀ p ∈ tl, q.1 < p.1) → Out tl r → Q r { s with heap := h', toks := tk' }) →
    (∀ X e g h' tk', Bad X → Fr h₀ L g m → g.UpToSlots h' → RaisedN base (envX cn cs L a ccd cl :: outer) e X news h' → E (.ref e) { s with heap := h', toks := tk' }) →
    wpAny (model prog w) (ktrTop dp un gd cn cs L a ccd cl outer) (call (.ref f) pos kw) Q E s
theorem Spec2.use {prog : Program} {w : World} {K : Frag} {p : Program} {loose : List Str} {mean : ExcName → Option Value} {mg mb : Str → Option Value} {f : Addr} {pos : List Value} {kw : List (Str × Value)} {d u : Nat}
    {Pre : List (Addr × Obj) → Prop} {Out : List (Addr × Obj) → Value → Prop} {Bad : Value → Prop} (C : Spec2 prog w K p loose mean mg mb f pos kw d u Pre Out Bad)
    {dp un : Nat} {gd : Option (List Code)} {cn : Str} {cs : Scope} {a : Addr} {ccd : Value} {cl : List (Str × Addr)} {outer : List Env} {A₀ : Around} {base h₀ : Heap} {L : Addr} {m : Str → Option Value} {news : List (Addr × Obj)} {s : Shared}
    {Q E : Value → Shared → Prop} (B : Below A₀ base outer h₀) (F : Fr h₀ L s.heap m) (X : K.In h₀) (N : News h₀ L s.heap news) (T : Top p loose mean mg mb h₀) (hk : cs.kind = .function) (hd : dp + d < recursionLimit) (hu : un + u < cLine) (hp : Pre news)
    (ret : ∀ r tl h' tk', Fr h₀ L h' m → News h₀ L h' (tl ++ news) → (∀ q ∈ news, ∀ p ∈ tl, q.1 < p.1) → Out tl r → Q r { s with heap := h', toks := tk' })
    (bad : ∀ X e g h' tk', Bad X → Fr h₀ L g m → g.UpToSlots h' → RaisedN base (envX cn cs L a ccd cl :: outer) e X news h' → E (.ref e) { s with heap := h', toks := tk' }) :
    wpAny (model prog w) (ktrTop dp un gd cn cs L a ccd cl outer) (call (.ref f) pos kw) Q E s :=
  C dp un gd cn cs a ccd cl outer A₀ base h₀ L m news s Q E B F X N T hk hd hu hp ret bad
/-- what a character of base64 stands for; 64: none -/
def v64 (c : Nat) : Nat := if 65 ≤ c ∧ c ≤ 90 then c - 65 else if 97 ≤ c ∧ c ≤ 122 then c - 71 else if 48 ≤ c ∧ c ≤ 57 then c + 4 else if c = 43 then 62 else if c = 47 then 63 else 64
theorem v64_le (c : Nat) : v64 c ≤ 64 := by
  unfold v64
  repeat (first | omega | split)
end Mine
namespace Mine
/-- the decoder's machine: place in the four, bits left, = seen, octets -/
def stepA (st : Nat × Nat × Nat × List Nat) (x : Nat) : Nat × Nat × Nat × List Nat :=
  if x = 61 then (st.1, st.2.1, st.2.2.1 + 1, st.2.2.2)
  else if 64 ≤ v64 x then st
  else if st.1 = 0 then (1, v64 x, 0, st.2.2.2)
  else if st.1 = 1 then (2, v64 x % 16, 0, st.2.2.2 ++ [st.2.1 * 4 + v64 x / 16])
  else if st.1 = 2 then (3, v64 x % 4, 0, st.2.2.2 ++ [st.2.1 * 16 + v64 x / 4])
  else (0, 0, 0, st.2.2.2 ++ [st.2.1 * 64 + v64 x])
def runA (l : List Nat) : Nat × Nat × Nat × List Nat := l.foldl stepA (0, 0, 0, [])
theorem runA_snoc (l : List Nat) (x : Nat) : runA (l ++ [x]) = stepA (runA l) x := by simp [runA]
/-- what the machine's states are -/
def OkA (st : Nat × Nat × Nat × List Nat) : Prop :=
  (st.1 = 0 ∨ (st.1 = 1 ∧ st.2.1 < 64) ∨ (st.1 = 2 ∧ st.2.1 < 16) ∨ (st.1 = 3 ∧ st.2.1 < 4)) ∧ ∀ k ∈ st.2.2.2, k < 256
theorem OkA.step {st : Nat × Nat × Nat × List Nat} (h : OkA st) (x : Nat) : OkA (stepA st x) := by
  obtain ⟨qp, lc, pads, out⟩ := st
  obtain ⟨h1, h2⟩ := h
  dsimp only at h1 h2
  unfold stepA
  dsimp only
  split
  · exact ⟨h1, h2⟩
  · split
    · exact ⟨h1, h2⟩
    · rcases h1 with rfl | ⟨rfl, h1⟩ | ⟨rfl, h1⟩ | ⟨rfl, h1⟩
      · refine ⟨.inr (.inl ⟨rfl, ?_⟩), h2⟩
        show v64 x < 64; omega
      · refine ⟨.inr (.inr (.inl ⟨rfl, ?_⟩)), ?_⟩
        · show v64 x % 16 < 16; omega
        · intro k hk
          rcases List.mem_append.mp hk with hk | hk
          · exact h2 k hk
          · rw [List.mem_singleton.mp hk]; omega
      · refine ⟨.inr (.inr (.inr ⟨rfl, ?_⟩)), ?_⟩
        · show v64 x % 4 < 4; omega
        · intro k hk
          rcases List.mem_append.mp hk with hk | hk
          · exact h2 k hk
          · rw [List.mem_singleton.mp hk]; omega
      · refine ⟨.inl rfl, ?_⟩
        intro k hk
        rcases List.mem_append.mp hk with hk | hk
        · exact h2 k hk
        · rw [List.mem_singleton.mp hk]; omega
theorem runA_ok (l : List Nat) : OkA (runA l) := by
  have h : ∀ l : List Nat, OkA (runA l.reverse) := by
    intro l
    induction l with
    | nil => exact ⟨.inl rfl, fun _ h => nomatch h⟩
    | cons x l ih => rw [List.reverse_cons, runA_snoc]; exact ih.step x
  have := h l.reverse
  rwa [List.reverse_reverse] at this
theorem runA_len (l : List Nat) : (runA l).2.2.2.length ≤ l.length := by
  have h : ∀ l : List Nat, (runA l.reverse).2.2.2.length ≤ l.length := by
    intro l
    induction l with
    | nil => exact Nat.le_refl _
    | cons x l ih =>
      rw [List.reverse_cons, runA_snoc]
      have hs : ∀ st, (stepA st x).2.2.2.length ≤ st.2.2.2.length + 1 := by
        intro st
        unfold stepA
        split
        · show st.2.2.2.length ≤ _; omega
        · split
          · omega
          · split
            · show st.2.2.2.length ≤ _; omega
            · split
              · simp
              · split
                · simp
                · simp
      have := hs (runA l.reverse)
      simp only [List.length_cons]
      omega
  have := h l.reverse
  simpa using this
/-- does the decoder answer, and what -/
def goodA (l : List Nat) : Bool := (runA l).1 != 1 && ((runA l).1 == 0 || (runA l).1 + (runA l).2.2.1 ≥ 4)
end Mine
namespace Mine
section
variable {qp lc pd x : Nat} {out : List Nat}
theorem stepA_pad (h : x = 61) : stepA (qp, lc, pd, out) x = (qp, lc, pd + 1, out) := by unfold stepA; rw [if_pos h]
theorem stepA_skip (h : x ≠ 61 ∧ 64 ≤ v64 x) : stepA (qp, lc, pd, out) x = (qp, lc, pd, out) := by unfold stepA; rw [if_neg h.1, if_pos h.2]
theorem stepA_0 (h : x ≠ 61 ∧ ¬ 64 ≤ v64 x ∧ qp = 0) : stepA (qp, lc, pd, out) x = (1, v64 x, 0, out) := by unfold stepA; rw [if_neg h.1, if_neg h.2.1, if_pos h.2.2]
theorem stepA_1 (h : x ≠ 61 ∧ ¬ 64 ≤ v64 x ∧ qp = 1) : stepA (qp, lc, pd, out) x = (2, v64 x % 16, 0, out ++ [lc * 4 + v64 x / 16]) := by unfold stepA; rw [if_neg h.1, if_neg h.2.1, if_neg (by show ¬ qp = 0; omega), if_pos h.2.2]
theorem stepA_2 (h : x ≠ 61 ∧ ¬ 64 ≤ v64 x ∧ qp = 2) : stepA (qp, lc, pd, out) x = (3, v64 x % 4, 0, out ++ [lc * 16 + v64 x / 4]) := by unfold stepA; rw [if_neg h.1, if_neg h.2.1, if_neg (by show ¬ qp = 0; omega), if_neg (by show ¬ qp = 1; omega), if_pos h.2.2]
theorem stepA_3 (h : x ≠ 61 ∧ ¬ 64 ≤ v64 x ∧ qp ≠ 0 ∧ qp ≠ 1 ∧ qp ≠ 2) : stepA (qp, lc, pd, out) x = (0, 0, 0, out ++ [lc * 64 + v64 x]) := by unfold stepA; rw [if_neg h.1, if_neg h.2.1, if_neg h.2.2.1, if_neg h.2.2.2.1, if_neg h.2.2.2.2]
end
end Mine
namespace Mine
open PySem PySem.W PySem.Spec PySem.Calls PyProof.Rows
section
variable {prog : Program} {w : World} {A : Around} {E : Value → Shared → Prop} {s : Shared} {h₀ : Heap} {L : Addr} {m : Str → Option Value} {news : List (Addr × Obj)}
theorem len_Z {l : Addr} {vs : List Value} {nn : Nat} {Q : Value → Shared → Prop} (N : News h₀ L s.heap news) (hl : (l, listOf vs.toArray nn) ∈ news) (h : ∀ t' k, Q (.int (vs.length : Int) t') { s with toks := k }) (hz : vs.length ≤ 1000000) :
    wpAny (model prog w) A (call (.builtin "len") [.ref l]) Q E s := by
  have e : vs.toArray.size = vs.length := by simp
  refine call_len_list (l := l) (items := vs.toArray) ⟨_, (N _ hl).1, rfl, nn, rfl⟩ (by rw [e]; omega) ?_
  first
    | (rw [e]; exact h _ _)
    | (simp only [e]; exact h _ _)
end
end Mine
namespace Mine
open PySem PySem.W PySem.Spec PySem.Calls PyProof.Rows
/-- a call of a def of the text; Bad says how an exception stands that leaves it -/
def Spec3 (prog : Program) (w : World) (K : Frag) (p : Program) (loose : List Str) (mean : ExcName → Option Value) (mg mb : Str → Option Value) (f : Addr) (pos : List Value) (kw : List (Str × Value)) (d u : Nat)
    (Pre : List (Addr × Obj) → Prop) (Out : List (Addr × Obj) → Value → Prop) (Bad : Heap → Heap → List Env → Addr → List (Addr × Obj) → Heap → Prop) : Prop :=
  ∀ (dp un : Nat) (gd : Option (List Code)) (cn : Str) (cs : Scope) (a : Addr) (ccd : Value) (cl : List (Str × Addr)) (outer : List Env) (A₀ : Around) (base h₀ : Heap) (L : Addr) (m : Str → Option Value) (news : List (Addr × Obj)) (s : Shared)
    (Q E : Value → Shared → Prop),
    Below A₀ base outer h₀ → Fr h₀ L s.heap m → K.In h₀ → News h₀ L s.heap news → Top p loose mean mg mb h₀ → cs.kind = .function → dp + d < recursionLimit → un + u < cLine → Pre news →
    (∀ r tl h' tk', Fr h₀ L h' m → News h₀ L h' (tl ++ news) → (∀ q ∈ news, ∀ p ∈ tl, q.1 < p.1) → Out tl r → Q r { s with heap := h', toks := tk' }) →
    (∀ e g h' tk', Bad base g (envX cn cs L a ccd cl :: outer) e news h' → Fr h₀ L g m → g.UpToSlots h' → E (.ref e) { s with heap := h', toks := tk' }) →
    wpAny (model prog w) (ktrTop dp un gd cn cs L a ccd cl outer) (call (.ref f) pos kw) Q E s
theorem Spec3.use {prog : Program} {w : World} {K : Frag} {p : Program} {loose : List Str} {mean : ExcName → Option Value} {mg mb : Str → Option Value} {f : Addr} {pos : List Value} {kw : List (Str × Value)} {d u : Nat}
    {Pre : List (Addr × Obj) → Prop} {Out : List (Addr × Obj) → Value → Prop} {Bad : Heap → Heap → List Env → Addr → List (Addr × Obj) → Heap → Prop} (C : Spec3 prog w K p loose mean mg mb f pos kw d u Pre Out Bad)
    {dp un : Nat} {gd : Option (List Code)} {cn : Str} {cs : Scope} {a : Addr} {ccd : Value} {cl : List (Str × Addr)} {outer : List Env} {A₀ : Around} {base h₀ : Heap} {L : Addr} {m : Str → Option Value} {news : List (Addr × Obj)} {s : Shared}
    {Q E : Value → Shared → Prop} (B : Below A₀ base outer h₀) (F : Fr h₀ L s.heap m) (X : K.In h₀) (N : News h₀ L s.heap news) (T : Top p loose mean mg mb h₀) (hk : cs.kind = .function) (hd : dp + d < recursionLimit) (hu : un + u < cLine) (hp : Pre news)
    (ret : ∀ r tl h' tk', Fr h₀ L h' m → News h₀ L h' (tl ++ news) → (∀ q ∈ news, ∀ p ∈ tl, q.1 < p.1) → Out tl r → Q r { s with heap := h', toks := tk' })
    (bad : ∀ e g h' tk', Bad base g (envX cn cs L a ccd cl :: outer) e news h' → Fr h₀ L g m → g.UpToSlots h' → E (.ref e) { s with heap := h', toks := tk' }) :
    wpAny (model prog w) (ktrTop dp un gd cn cs L a ccd cl outer) (call (.ref f) pos kw) Q E s :=
  C dp un gd cn cs a ccd cl outer A₀ base h₀ L m news s Q E B F X N T hk hd hu hp ret bad
def BadO (c : Prop) (C : Addr) : Heap → Heap → List Env → Addr → List (Addr × Obj) → Heap → Prop := fun base G l e news h => c ∧ ∃ t vs, RaisedS base G l e (.ref C) t vs news h
def BadN (c : Prop) (X : String) : Heap → Heap → List Env → Addr → List (Addr × Obj) → Heap → Prop := fun base G l e news h => c ∧ RaisedSN base G l e (.type X) news h
theorem raisedS_sub {base G : Heap} {l : List Env} {e t : Addr} {cls : Value} {vs : List Value} {news news' : List (Addr × Obj)} {h : Heap} (R : RaisedS base G l e cls t vs news' h) (hs : ∀ p ∈ news, p ∈ news') : RaisedS base G l e cls t vs news h := by
  obtain ⟨⟨B, h1, h2, h3, h4⟩, h5⟩ := R
  exact ⟨⟨B, h1, h2, fun q hq => h3 q (hs q hq), h4⟩, h5⟩
theorem raisedSN_sub {base G : Heap} {l : List Env} {e : Addr} {cls : Value} {news news' : List (Addr × Obj)} {h : Heap} (R : RaisedSN base G l e cls news' h) (hs : ∀ p ∈ news, p ∈ news') : RaisedSN base G l e cls news h := by
  obtain ⟨B, a0, h1, h2, h3, h4⟩ := R
  exact ⟨B, a0, h1, h2, fun q hq => h3 q (hs q hq), h4⟩
end Mine
namespace Mine
open PySem PySem.W PySem.Spec PySem.Calls PyProof.Rows
namespace SE
open Builtin Builtin.Str Builtin._codecs
theorem road_utf8b (id : String) (self : Value) (x : Str) : encodeRoad id self x (Str.ofString "utf-8") none = (encodeNarrow id utf8Codec none self x >>= fun b => mkBytes b) := by
  kernel_rfl
theorem entry_utf8b (x : Str) (t t1 : Tok) : «str.encode» ⟨[.str x t, .str (Str.ofString "utf-8") t1], []⟩ = (encodeRoad "str.encode" (.str x t) x (Str.ofString "utf-8") none >>= fun v => ret v) := by kernel_rfl
theorem meets_utf8b (x : Str) (t t1 : Tok) (hg : ∀ k ∈ x.cps.toList, Str.isSurrogate k = false) : Meets («str.encode» ⟨[.str x t, .str (Str.ofString "utf-8") t1], []⟩) (fun _ R s => (enc Str.utf8Of x).size ≤ sizeLine ∧ ∀ t' k, R (.ok (.ret (.bytes (enc Str.utf8Of x) t'))) { s with toks := k }) := by
  refine .of_wp fun prog w A R s hS => ?_
  obtain ⟨hz, h⟩ := hS
  rw [entry_utf8b, road_utf8b]
  refine wpAny_bind (wpAny_bind (narrow_ok _ utf8Codec _ _ hg hz ?_))
  exact wpAny_mkBytes (wpAny_pure ⟨_, rfl, h _ _⟩) hz
end SE
section
variable {prog : Program} {w : World} {A : Around} {E : Value → Shared → Prop} {s : Shared} {Q : Value → Shared → Prop} {x : Str} {t t1 : Tok}
theorem enc_utf8b (hg : ∀ k ∈ x.cps.toList, Str.isSurrogate k = false) (hz : (SE.enc Str.utf8Of x).size ≤ sizeLine) (h : ∀ t' k, Q (.bytes (SE.enc Str.utf8Of x) t') { s with toks := k }) :
    wpAny (model prog w) A (call (.builtin "str.encode") [.str x t, .str (Str.ofString "utf-8") t1]) Q E s :=
  call_meets F.slot_str_encode (typeIs_str _ _ _) F.entry_str_encode (F.args_str_encode_2 _ _) (SE.meets_utf8b x t t1 hg) ⟨hz, h⟩
end
theorem utf8_len (c : Nat) : (Str.utf8Of c).length ≤ 4 := by
  unfold Str.utf8Of
  split
  · exact Nat.le_of_ble_eq_true rfl
  · split
    · exact Nat.le_of_ble_eq_true rfl
    · split
      · exact Nat.le_of_ble_eq_true rfl
      · exact Nat.le_of_ble_eq_true rfl
theorem enc_len (x : Str) : (SE.enc Str.utf8Of x).size ≤ 4 * x.length := by
  unfold SE.enc
  rw [List.size_toArray, ← str_len]
  generalize x.cps.toList = l
  induction l with
  | nil => simp
  | cons c l ih => have := utf8_len c; rw [List.flatMap_cons, List.length_append, List.length_cons]; omega
end Mine
namespace Mine
open PySem PySem.W PySem.Spec PySem.Calls PyProof.Rows
/-- a call out of the law's own frame, that raises nothing -/
def Spec4 (prog : Program) (w : World) (K : Frag) (p : Program) (loose : List Str) (mean : ExcName → Option Value) (mg mb : Str → Option Value) (f : Addr) (pos : List Value) (kw : List (Str × Value)) (d u : Nat)
    (Out : Value → Prop) : Prop :=
  ∀ (dp un : Nat) (gd : Option (List Code)) (cn : Str) (cs : Scope) (a : Addr) (ccd : Value) (A₀ : Around) (h₀ : Heap) (L : Addr) (m : Str → Option Value) (news : List (Addr × Obj)) (s : Shared)
    (Q E : Value → Shared → Prop),
    Below A₀ h₀ [] h₀ → Fr h₀ L s.heap m → K.In h₀ → News h₀ L s.heap news → Top p loose mean mg mb h₀ → cs.kind = .function → dp + d < recursionLimit → un + u < cLine →
    (∀ r h' tk', Fr h₀ L h' m → News h₀ L h' news → Out r → Q r { s with heap := h', toks := tk' }) →
    wpAny (model prog w) (ktrTop dp un gd cn cs L a ccd [] []) (call (.ref f) pos kw) Q E s
theorem Spec4.use {prog : Program} {w : World} {K : Frag} {p : Program} {loose : List Str} {mean : ExcName → Option Value} {mg mb : Str → Option Value} {f : Addr} {pos : List Value} {kw : List (Str × Value)} {d u : Nat}
    {Out : Value → Prop} (C : Spec4 prog w K p loose mean mg mb f pos kw d u Out)
    {dp un : Nat} {gd : Option (List Code)} {cn : Str} {cs : Scope} {a : Addr} {ccd : Value} {A₀ : Around} {h₀ : Heap} {L : Addr} {m : Str → Option Value} {news : List (Addr × Obj)} {s : Shared}
    {Q E : Value → Shared → Prop} (B : Below A₀ h₀ [] h₀) (F : Fr h₀ L s.heap m) (X : K.In h₀) (N : News h₀ L s.heap news) (T : Top p loose mean mg mb h₀) (hk : cs.kind = .function) (hd : dp + d < recursionLimit) (hu : un + u < cLine)
    (ret : ∀ r h' tk', Fr h₀ L h' m → News h₀ L h' news → Out r → Q r { s with heap := h', toks := tk' }) :
    wpAny (model prog w) (ktrTop dp un gd cn cs L a ccd [] []) (call (.ref f) pos kw) Q E s :=
  C dp un gd cn cs a ccd A₀ h₀ L m news s Q E B F X N T hk hd hu ret
end Mine

namespace Mine
open PySem PySem.W PySem.Spec PySem.Calls PyProof.Rows
section
variable {prog : Program} {w : World} {A : Around} {E : Value → Shared → Prop} {Q : Flow → Shared → Prop} {s : Shared} {env : Env} {h₀ : Heap} {L : Addr}
/-- a for's turn ends; some rows are kept as they are -/
def FkEnd {σ : Type} (h₀ : Heap) (L : Addr) (s : Shared) (keep : List (Addr × Obj)) (Led : σ → List (Addr × Obj)) (ps : σ → List (Str × Value)) (P : σ → Prop) (own : List (Addr × Obj)) (s₂ : Shared) : Prop :=
  ∃ (c' : σ) (h' : Heap) (tk : Nat) (m' : Str → Option Value) (news' : List (Addr × Obj)), s₂ = { s with heap := h', toks := tk } ∧ Fr h₀ L h' m' ∧ News h₀ L h' news' ∧ (∀ p ∈ Led c', p ∈ news') ∧ (∀ p ∈ keep, p ∈ news') ∧ (∀ p ∈ own, p ∈ news') ∧ OwnOff own ((Led c').map (·.1)) ∧ HasAll m' (ps c') ∧ P c'
def FkPost {σ : Type} (h₀ : Heap) (L : Addr) (s : Shared) (keep : List (Addr × Obj)) (Led : σ → List (Addr × Obj)) (ps : σ → List (Str × Value)) (P : σ → Prop) (own : List (Addr × Obj)) (Q : Flow → Shared → Prop) (f : Flow) (s₂ : Shared) : Prop :=
  match f with
  | .ret v => Q (.ret v) s₂
  | .brk => Q .next s₂
  | _ => FkEnd h₀ L s keep Led ps P own s₂
theorem fkEnd {σ : Type} {keep : List (Addr × Obj)} {Led : σ → List (Addr × Obj)} {ps : σ → List (Str × Value)} {P : σ → Prop} {own : List (Addr × Obj)} {h' : Heap} {tk : Nat} {m' : Str → Option Value} {news' : List (Addr × Obj)} (F : Fr h₀ L h' m') (N : News h₀ L h' news') (c' : σ)
    (hn : ∀ p ∈ Led c', p ∈ news') (hkp : ∀ p ∈ keep, p ∈ news') (ho : ∀ p ∈ own, p ∈ news') (ha : OwnOff own ((Led c').map (·.1))) (hk : HasAll m' (ps c')) (hp : P c') : FkEnd h₀ L s keep Led ps P own { s with heap := h', toks := tk } := ⟨c', h', tk, m', news', rfl, F, N, hn, hkp, ho, ha, hk, hp⟩
theorem for_K {σ : Type} {x : Str} {body : List Stmt} {I : Addr} {fp wr : List Addr} {n : Nat} {Pv : Nat → Value → Prop} {St : Nat → Heap → Prop} {m₀ : Str → Option Value} (keep : List (Addr × Obj)) (Led : σ → List (Addr × Obj)) (ps : σ → List (Str × Value)) (P : Nat → σ → Prop) (c₀ : σ)
    (W : Walks prog w A I fp wr n Pv St) (hLf : env.locals ∉ fp) (hwr : ∀ b ∈ wr, h₀.get? b = none) (hlive : ∀ i h, St i h → ∀ b ∈ fp, ∃ o, h.get? b = some o)
    (hst : St 0 s.heap) (F : Fr h₀ env.locals s.heap m₀) (N : News h₀ env.locals s.heap (Led c₀ ++ keep)) (hfp : ∀ q ∈ Led c₀, q.1 ∉ fp) (hkw : ∀ q ∈ keep, q.1 ∉ wr) (hk : HasAll m₀ (ps c₀)) (hp : P 0 c₀)
    (turn : ∀ i v (c : σ) (u : Str → Option Value) h tk own, i < n → Pv i v → P i c → OwnOff own ((Led c).map (·.1)) → (∀ b ∈ fp, h₀.get? b = none → ∀ o, h.get? b = some o → (b, o) ∈ own) → St (i + 1) h →
      Fr h₀ env.locals h (fun y => if y = x then some v else kstB u (ps c) y) → News h₀ env.locals h (Led c ++ (keep ++ own)) →
      wpAny (model prog w) A (execs body env) (FkPost h₀ env.locals { s with heap := h, toks := tk } keep Led ps (P (i + 1)) own Q) E { s with heap := h, toks := tk })
    (done : ∀ (c : σ) (u : Str → Option Value) h tk, P n c → Fr h₀ env.locals h (kstB u (ps c)) → News h₀ env.locals h (Led c ++ keep) → Q .next { s with heap := h, toks := tk }) :
    LoopAtV prog w A h₀ env x body Q E (.ref I) s := by
  refine ⟨I, fp, wr, n, Pv, St, m₀, Led c₀ ++ keep, fun i m nx => ∃ c : σ, nx = Led c ++ keep ∧ HasAll m (ps c) ∧ P i c ∧ ∀ q ∈ Led c, q.1 ∉ fp, rfl, W, hLf, hwr, fun p hp hm => (List.mem_append.mp hp).elim (fun h => hfp p h (W.sub _ hm)) (fun h => hkw p h hm), hst, F, N, ⟨c₀, rfl, hk, hp, hfp⟩, ?_, ?_⟩
  · rintro i v m₁ news₁ s₁ own ⟨hh', tk', rfl⟩ hin hP ⟨c, rfl, h1, hp', hoff'⟩ hoff hown hget hall hst' F₁ N₁
    have hsep : OwnOff own ((Led c).map (·.1)) := by
      intro p hp b hb e
      obtain ⟨q, hq, rfl⟩ := List.mem_map.mp hb
      exact hoff' q hq (e ▸ hown p hp)
    rw [hasAll_x h1] at F₁
    have N₂ : News h₀ env.locals hh' (Led c ++ (keep ++ own)) := fun p hp => N₁ p (by
      simp only [List.mem_append] at hp ⊢
      rcases hp with h | h | h
      · exact .inr (.inl h)
      · exact .inr (.inr h)
      · exact .inl h)
    refine wpAny_mono (turn i v c m₁ hh' tk' own hin hP hp' hsep hall hst' F₁ N₂) (fun f s₂ p => ?_) fun _ _ e => e
    have fin : FkEnd h₀ env.locals { s with heap := hh', toks := tk' } keep Led ps (P (i + 1)) own s₂ → LoopStepU h₀ env.locals wr own (fun m nx => ∃ c : σ, nx = Led c ++ keep ∧ HasAll m (ps c) ∧ P (i + 1) c ∧ ∀ q ∈ Led c, q.1 ∉ fp) { s with heap := hh', toks := tk' } .next s₂ := by
      rintro ⟨c', h', tk, m', news', e, F', N', hn, hkp, ho, ha, hk', hp''⟩
      have hfp' : ∀ q ∈ Led c', q.1 ∉ fp := by
        intro q hq hm
        obtain ⟨o, ho'⟩ := hlive _ _ hst' _ hm
        exact ha _ (hall _ hm (N' _ (hn q hq)).2.2 o ho') _ (List.mem_map_of_mem hq) rfl
      exact ⟨rfl, h', tk, m', Led c' ++ keep, e, F', fun p hp => N' p (by
        simp only [List.mem_append] at hp
        rcases hp with h | h | h
        · exact ho p h
        · exact hn p h
        · exact hkp p h), fun p hp hq => (List.mem_append.mp hp).elim (fun h => hfp' p h (W.sub _ hq)) (fun h => hkw p h hq), c', rfl, hk', hp'', hfp'⟩
    cases f with
    | ret v => exact .ret p
    | brk => exact .brk p
    | next => exact .next (fin p)
    | cont => exact .cont (fin p)
  · rintro h' tk m' news' F' N' _ ⟨c, rfl, h1, hp', _⟩
    rw [← hasAll_eq h1] at F'
    exact done c m' h' tk hp' F' N'
/-- a loop over a list of the ledger, which no turn changes and which stays on the ledger -/
theorem for_listK {σ : Type} {x : Str} {body : List Stmt} {l : Addr} {vs : List Value} {nn : Nat} {m₀ : Str → Option Value} {news₀ : List (Addr × Obj)} (keep : List (Addr × Obj)) (Led : σ → List (Addr × Obj)) (ps : σ → List (Str × Value)) (P : Nat → σ → Prop) (c₀ : σ)
    (hh : A.handled = none) (hl : (l, listOf vs.toArray nn) ∈ news₀) (hoffl : ∀ p ∈ Led c₀, p.1 ≠ l) (F : Fr h₀ env.locals s.heap m₀) (N : News h₀ env.locals s.heap news₀) (hL : ∀ p ∈ Led c₀, p ∈ news₀) (hkp : ∀ p ∈ keep, p ∈ news₀) (hk : HasAll m₀ (ps c₀)) (hp : P 0 c₀)
    (turn : ∀ i v (c : σ) (u : Str → Option Value) h tk own, i < vs.length → vs[i]? = some v → P i c → OwnOff own ((Led c).map (·.1)) → (l, listOf vs.toArray nn) ∈ own →
      Fr h₀ env.locals h (fun y => if y = x then some v else kstB u (ps c) y) → News h₀ env.locals h (Led c ++ (keep ++ own)) →
      wpAny (model prog w) A (execs body env) (FkPost h₀ env.locals { s with heap := h, toks := tk } keep Led ps (fun c => P (i + 1) c) own Q) E { s with heap := h, toks := tk })
    (done : ∀ (c : σ) (u : Str → Option Value) h tk, P vs.length c → Fr h₀ env.locals h (kstB u (ps c)) → News h₀ env.locals h (Led c ++ keep) → Q .next { s with heap := h, toks := tk }) :
    wpAny (model prog w) A (pyIter (.ref l)) (fun it s₂ => LoopAtV prog w A h₀ env x body Q E it s₂) E s := by
  have hln := N _ hl
  have hls : s.heap.IsList l vs.toArray := ⟨_, hln.1, rfl, nn, rfl⟩
  have hne : l ≠ s.heap.objs.size := Nat.ne_of_lt (Heap.lt_size hln.1)
  have N' : News h₀ env.locals s.heap (Led c₀ ++ keep) := fun p hp => N p ((List.mem_append.mp hp).elim (hL p) (hkp p))
  refine wpAny_pyIter_list hls ?_
  have W0 := Walks.list (prog := prog) (w := w) hh s.heap.objs.size l hne vs.toArray
  have W : Walks prog w A s.heap.objs.size [s.heap.objs.size, l] [s.heap.objs.size] vs.length (fun i v => vs.toArray[i]? = some v) (fun i h => (h.IsListIter s.heap.objs.size l i ∧ h.IsList l vs.toArray) ∧ h.get? l = some (listOf vs.toArray nn)) :=
    { sub := W0.sub
      frame := fun i h h' st hk => ⟨W0.frame i h h' st.1 hk, hk l (by simp) _ st.2⟩
      item := fun i s Q E hi st hQ => W0.item i s Q E (by simpa using hi) st.1 fun v h' tk hv st' hk => hQ v h' tk hv ⟨st', hk l _ (by simp; exact hne) st.2⟩ hk
      done := fun s Q E st hQ => W0.done s Q E (by simpa using st.1) hQ
      self := fun i s Q E st hQ => W0.self i s Q E st.1 hQ }
  refine for_K keep Led ps P c₀ W ?_ ?_ ?_ ⟨⟨⟨_, Heap.get?_push_size _ rfl, rfl, rfl⟩, hls.at fun o e => Heap.get?_push_of_some _ e⟩, Heap.get?_push_of_some _ hln.1⟩ (F.push _) (fun p hp => ⟨Heap.get?_push_of_some _ (N' p hp).1, (N' p hp).2⟩) ?_ ?_ hk hp ?_ ?_
  · intro hm
    rcases List.mem_cons.mp hm with e | hm
    · exact absurd F.ns.lt (e ▸ Nat.lt_irrefl _)
    · exact hln.2.1 (List.mem_singleton.mp hm).symm
  · intro b hb
    rw [List.mem_singleton.mp hb]
    exact next_is_new F
  · rintro i h ⟨⟨⟨o1, e1, _⟩, ⟨o2, e2, _⟩⟩, _⟩ b hb
    rcases List.mem_cons.mp hb with rfl | hb
    · exact ⟨o1, e1⟩
    · rw [List.mem_singleton.mp hb]; exact ⟨o2, e2⟩
  · intro q hq hm
    rcases List.mem_cons.mp hm with e | hm
    · exact absurd (Heap.lt_size (N' q (List.mem_append_left _ hq)).1) (by rw [e]; exact Nat.lt_irrefl _)
    · exact hoffl q hq (List.mem_singleton.mp hm)
  · intro q hq hm
    exact absurd (Heap.lt_size (N' q (List.mem_append_right _ hq)).1) (by rw [List.mem_singleton.mp hm]; exact Nat.lt_irrefl _)
  · intro i v c u h tk own hi hv hp' hoff hall hst F₁ N₁
    exact turn i v c u h tk own hi (by simpa using hv) hp' hoff (hall l (by simp) hln.2.2 _ hst.2) F₁ N₁
  · exact done
end
end Mine
namespace Mine
open PySem PySem.W PySem.Spec PySem.Calls PyProof.Rows
section
variable {prog : Program} {w : World} {A : Around} {E : Value → Shared → Prop} {s : Shared} {h₀ : Heap} {L D : Addr} {m : Str → Option Value} {news news' : List (Addr × Obj)} {n : Nat} {vs : List Value} {y : Value} {u : Tok} {Q : Value → Shared → Prop}
theorem insert0_Z (F : Fr h₀ L s.heap m) (N : News h₀ L s.heap news) (U : Upd D (listOf vs.toArray n) (listOf (y :: vs).toArray (n + 1)) news news') (hz : vs.length ≤ 1000000)
    (h : ∀ h', Fr h₀ L h' m → News h₀ L h' news' → Q .none { s with heap := h' }) : wpAny (model prog w) A (call (.builtin "list.insert") [.ref D, .int 0 u, y]) Q E s :=
  kl_insert F N rfl (l := y :: vs) (by unfold kl_ins; simp) U (by rw [sizeLine_eq]; simp; omega) h
end
/-- digits to base 64 as one number; its low octets, the highest first -/
def num64 (l : List Nat) : Nat := l.foldl (fun n v => n * 64 + v) 0
theorem num64_snoc (l : List Nat) (x : Nat) : num64 (l ++ [x]) = num64 l * 64 + x := by simp [num64]
def octL : Nat → Nat → List Nat
  | 0, _ => []
  | k + 1, n => n / 256 ^ k % 256 :: octL k n
theorem octL_length (k n : Nat) : (octL k n).length = k := by induction k with | zero => rfl | succ k ih => simp [octL, ih]
theorem octL_lt (k n : Nat) : ∀ x ∈ octL k n, x < 256 := by
  induction k with
  | zero => exact fun _ h => nomatch h
  | succ k ih =>
    intro x hx
    rcases List.mem_cons.mp hx with rfl | hx
    · omega
    · exact ih x hx
def dueL (V : List Nat) : List Nat := octL (V.length * 3 / 4) (num64 V / 2 ^ (6 * V.length - 8 * (V.length * 3 / 4)))
theorem consE {vs : List Value} {l : List Nat} {z : Int} {t : Tok} {k : Nat} (h : IntsAre vs (zs l)) (e : z = (k : Int)) : IntsAre (.int z t :: vs) (zs (k :: l)) := by
  subst e
  exact .cons _ _ h
end Mine

namespace Mine
open PySem PySem.W PySem.Spec PySem.Calls PyProof.Rows
section
variable {prog : Program} {w : World} {A : Around} {E : Value → Shared → Prop} {s : Shared} {Q : Value → Shared → Prop}
theorem pow2I {n : Int} {t u : Tok} (hn : 0 ≤ n ∧ n ≤ 6) (h : ∀ (z : Nat) t' k, z = 2 ^ n.toNat → 1 ≤ z → z ≤ 64 → Q (.int (z : Int) t') { s with toks := k }) :
    wpAny (model prog w) A (binaryOp .Pow (.int 2 t) (.int n u)) Q E s := by
  refine pow_int_small hn.1 (by omega) (by decide) ?_
  obtain ⟨k, rfl⟩ := Int.eq_ofNat_of_zero_le hn.1
  have hk : k = 0 ∨ k = 1 ∨ k = 2 ∨ k = 3 ∨ k = 4 ∨ k = 5 ∨ k = 6 := by omega
  have e : ((2 : Int) ^ (Int.ofNat k).toNat) = ((2 ^ k : Nat) : Int) := by
    show (2 : Int) ^ k = _
    simp
  have := h (2 ^ k) s.toks (s.toks + 1) rfl (by rcases hk with rfl | rfl | rfl | rfl | rfl | rfl | rfl <;> decide) (by rcases hk with rfl | rfl | rfl | rfl | rfl | rfl | rfl <;> decide)
  rw [← e] at this
  exact this
end
/-- the octets of a code point -/
def u8 (c : Nat) : List Nat := (Str.utf8Of c).map UInt8.toNat
theorem octs_enc (x : Str) : octs (SE.enc Str.utf8Of x) = x.cps.toList.flatMap u8 := by
  unfold octs SE.enc u8
  simp [List.map_flatMap]
/-- a code point that base64 has not -/
def alien (c : Nat) : Prop := c ≠ 61 ∧ 64 ≤ v64 c ∧ Str.isSurrogate c = false ∧ c < 1114112
theorem v64_big {o : Nat} (h : 128 ≤ o) : 64 ≤ v64 o := by
  unfold v64
  repeat (first | omega | split)
theorem u8_alien {c : Nat} (h : alien c) : ∀ o ∈ u8 c, o ≠ 61 ∧ 64 ≤ v64 o := by
  obtain ⟨h1, h2, h3, h4⟩ := h
  intro o ho
  unfold u8 Str.utf8Of at ho
  split at ho
  · simp only [List.map_cons, List.map_nil, List.mem_singleton] at ho
    subst ho
    rw [UInt8.toNat_ofNat', Nat.mod_eq_of_lt (by omega)]
    exact ⟨h1, h2⟩
  · have hb : 128 ≤ o := by
      split at ho
      · simp at ho
        omega
      · split at ho
        · simp at ho
          omega
        · simp at ho
          omega
    exact ⟨by omega, v64_big hb⟩
theorem u8_sgn {v : Nat} (h : v < 64) : u8 (sgn v) = [sgn v] := (by decide +kernel : ∀ k : Fin 64, u8 (sgn k.1) = [sgn k.1]) ⟨v, h⟩
theorem v64_sgn {v : Nat} (h : v < 64) : v64 (sgn v) = v := (by decide +kernel : ∀ k : Fin 64, v64 (sgn k.1) = k.1) ⟨v, h⟩
theorem sgn_ne61 {v : Nat} (h : v < 64) : sgn v ≠ 61 := (by decide +kernel : ∀ k : Fin 64, sgn k.1 ≠ 61) ⟨v, h⟩
theorem sgn_surr {v : Nat} (h : v < 64) : Str.isSurrogate (sgn v) = false := (by decide +kernel : ∀ k : Fin 64, Str.isSurrogate (sgn k.1) = false) ⟨v, h⟩
/-- a text and the values of its signs -/
inductive Sg : List Nat → List Nat → Prop
  | nil : Sg [] []
  | sign {T V : List Nat} {v : Nat} : Sg T V → v < 64 → Sg (T ++ [sgn v]) (V ++ [v])
  | alien {T V : List Nat} {c : Nat} : Sg T V → alien c → Sg (T ++ [c]) V
theorem Sg.lt {T V : List Nat} (h : Sg T V) : ∀ v ∈ V, v < 64 := by
  induction h with
  | nil => exact fun _ h => nomatch h
  | sign _ hv ih => intro v hm; rcases List.mem_append.mp hm with hm | hm; · exact ih v hm
                    · rw [List.mem_singleton.mp hm]; exact hv
  | alien _ _ ih => exact ih
theorem Sg.surr {T V : List Nat} (h : Sg T V) : ∀ v ∈ T, Str.isSurrogate v = false := by
  induction h with
  | nil => exact fun _ h => nomatch h
  | sign _ hv ih => intro v hm; rcases List.mem_append.mp hm with hm | hm; · exact ih v hm
                    · rw [List.mem_singleton.mp hm]; exact sgn_surr hv
  | alien _ ha ih => intro v hm; rcases List.mem_append.mp hm with hm | hm; · exact ih v hm
                     · rw [List.mem_singleton.mp hm]; exact ha.2.2.1
theorem fold_alien (st : Nat × Nat × Nat × List Nat) (l : List Nat) (h : ∀ o ∈ l, o ≠ 61 ∧ 64 ≤ v64 o) : l.foldl stepA st = st := by
  induction l with
  | nil => rfl
  | cons o l ih =>
    rw [List.foldl_cons]
    have : stepA st o = st := by obtain ⟨a, b, c, d⟩ := st; exact stepA_skip (h o (by simp))
    rw [this]
    exact ih fun o ho => h o (by simp [ho])
/-- the machine's state after signs alone -/
def runV (V : List Nat) : Nat × Nat × Nat × List Nat := (V.map sgn).foldl stepA (0, 0, 0, [])
theorem runV_snoc (V : List Nat) (v : Nat) : runV (V ++ [v]) = stepA (runV V) (sgn v) := by simp [runV]
theorem Sg.run {T V : List Nat} (h : Sg T V) : (T.flatMap u8).foldl stepA (0, 0, 0, []) = runV V := by
  induction h with
  | nil => rfl
  | sign _ hv ih => rw [List.flatMap_append, List.foldl_append, ih, runV_snoc]; simp [u8_sgn hv]
  | alien _ ha ih => rw [List.flatMap_append, List.foldl_append, ih]; simp only [List.flatMap_cons, List.flatMap_nil, List.append_nil]; exact fold_alien _ _ (u8_alien ha)
theorem octL_snoc (k n : Nat) : octL (k + 1) n = octL k (n / 256) ++ [n % 256] := by
  induction k with
  | zero => simp [octL]
  | succ k ih =>
    show n / 256 ^ (k + 1) % 256 :: octL (k + 1) n = (n / 256 / 256 ^ k % 256 :: octL k (n / 256)) ++ _
    rw [ih, Nat.pow_succ, Nat.mul_comm, ← Nat.div_div_eq_div_mul]
    rfl
theorem runV_state (V : List Nat) (hV : ∀ v ∈ V, v < 64) : runV V = (V.length % 4, num64 V % 2 ^ (6 * V.length - 8 * (V.length * 3 / 4)), 0, dueL V) := by
  have h : ∀ V : List Nat, (∀ v ∈ V, v < 64) → runV V.reverse = (V.length % 4, num64 V.reverse % 2 ^ (6 * V.length - 8 * (V.length * 3 / 4)), 0, octL (V.length * 3 / 4) (num64 V.reverse / 2 ^ (6 * V.length - 8 * (V.length * 3 / 4)))) := by
    intro V
    induction V with
    | nil => intro _; rfl
    | cons v V ih =>
      intro hV
      have ih := ih fun v hv => hV v (by simp [hv])
      have hv := hV v (by simp)
      rw [List.reverse_cons, runV_snoc, ih, num64_snoc, List.length_cons]
      generalize num64 V.reverse = n
      have hs := v64_sgn hv
      have h61 := sgn_ne61 hv
      obtain ⟨q, r, hq, hr⟩ : ∃ q r, V.length = 4 * q + r ∧ (r = 0 ∨ r = 1 ∨ r = 2 ∨ r = 3) := ⟨V.length / 4, V.length % 4, by omega, by omega⟩
      rw [hq]
      rcases hr with rfl | rfl | rfl | rfl
      · rw [show (4 * q + 0) % 4 = 0 by omega, show (4 * q + 0) * 3 / 4 = 3 * q by omega, show (4 * q + 0 + 1) * 3 / 4 = 3 * q by omega, show (4 * q + 0 + 1) % 4 = 1 by omega, show 6 * (4 * q + 0) - 8 * (3 * q) = 0 by omega, show 6 * (4 * q + 0 + 1) - 8 * (3 * q) = 6 by omega]
        rw [stepA_0 ⟨h61, by omega, rfl⟩, hs, show (n * 64 + v) % 2 ^ 6 = v by omega, show (n * 64 + v) / 2 ^ 6 = n / 2 ^ 0 by omega]
      · rw [show (4 * q + 1) % 4 = 1 by omega, show (4 * q + 1) * 3 / 4 = 3 * q by omega, show (4 * q + 1 + 1) * 3 / 4 = 3 * q + 1 by omega, show (4 * q + 1 + 1) % 4 = 2 by omega, show 6 * (4 * q + 1) - 8 * (3 * q) = 6 by omega, show 6 * (4 * q + 1 + 1) - 8 * (3 * q + 1) = 4 by omega]
        rw [stepA_1 ⟨h61, by omega, rfl⟩, hs, octL_snoc, show (n * 64 + v) % 2 ^ 4 = v % 16 by omega, show (n * 64 + v) / 2 ^ 4 / 256 = n / 2 ^ 6 by omega, show (n * 64 + v) / 2 ^ 4 % 256 = n % 2 ^ 6 * 4 + v / 16 by omega]
      · rw [show (4 * q + 2) % 4 = 2 by omega, show (4 * q + 2) * 3 / 4 = 3 * q + 1 by omega, show (4 * q + 2 + 1) * 3 / 4 = 3 * q + 1 + 1 by omega, show (4 * q + 2 + 1) % 4 = 3 by omega, show 6 * (4 * q + 2) - 8 * (3 * q + 1) = 4 by omega, show 6 * (4 * q + 2 + 1) - 8 * (3 * q + 1 + 1) = 2 by omega]
        rw [stepA_2 ⟨h61, by omega, rfl⟩, hs, octL_snoc (3 * q + 1), show (n * 64 + v) % 2 ^ 2 = v % 4 by omega, show (n * 64 + v) / 2 ^ 2 / 256 = n / 2 ^ 4 by omega, show (n * 64 + v) / 2 ^ 2 % 256 = n % 2 ^ 4 * 16 + v / 4 by omega]
      · rw [show (4 * q + 3) % 4 = 3 by omega, show (4 * q + 3) * 3 / 4 = 3 * q + 2 by omega, show (4 * q + 3 + 1) * 3 / 4 = 3 * q + 2 + 1 by omega, show (4 * q + 3 + 1) % 4 = 0 by omega, show 6 * (4 * q + 3) - 8 * (3 * q + 2) = 2 by omega, show 6 * (4 * q + 3 + 1) - 8 * (3 * q + 2 + 1) = 0 by omega]
        rw [stepA_3 ⟨h61, by omega, by omega, by omega, by omega⟩, hs, octL_snoc (3 * q + 2), show (n * 64 + v) % 2 ^ 0 = 0 by omega, show (n * 64 + v) / 2 ^ 0 / 256 = n / 2 ^ 2 by omega, show (n * 64 + v) / 2 ^ 0 % 256 = n % 2 ^ 2 * 64 + v by omega]
  have := h V.reverse fun v hv => hV v (by simpa using hv)
  simpa [dueL] using this
theorem v64_32 : v64 32 = 64 := by decide
theorem v64_10 : v64 10 = 64 := by decide
/-- k signs = with a blank behind each -/
def padL : Nat → List Nat
  | 0 => []
  | k + 1 => 61 :: 32 :: padL k
theorem padL_run (k qp lc pd : Nat) (out : List Nat) : ((padL k).flatMap u8).foldl stepA (qp, lc, pd, out) = (qp, lc, pd + k, out) := by
  induction k generalizing pd with
  | zero => rfl
  | succ k ih =>
    show (u8 61 ++ (u8 32 ++ (padL k).flatMap u8)).foldl stepA _ = _
    rw [show u8 61 = [61] by decide +kernel, show u8 32 = [32] by decide +kernel]
    simp only [List.foldl_append, List.foldl_cons, List.foldl_nil]
    rw [stepA_pad rfl, stepA_skip ⟨by decide, by decide⟩, ih]
    rw [show pd + 1 + k = pd + (k + 1) by omega]
theorem whole_run {T V : List Nat} (h : Sg T V) (k : Nat) : runA ((T ++ padL k ++ [10]).flatMap u8) = (V.length % 4, num64 V % 2 ^ (6 * V.length - 8 * (V.length * 3 / 4)), k, dueL V) := by
  unfold runA
  rw [List.flatMap_append, List.flatMap_append, List.foldl_append, List.foldl_append, h.run, runV_state V h.lt, padL_run]
  rw [show [10].flatMap u8 = [10] by decide +kernel]
  simp only [List.foldl_cons, List.foldl_nil]
  rw [stepA_skip ⟨by decide, by decide⟩, Nat.zero_add]
theorem whole_good {T V : List Nat} (h : Sg T V) (k : Nat) (h1 : V.length % 4 ≠ 1) (hk : (V.length + k) % 4 = 0) : goodA ((T ++ padL k ++ [10]).flatMap u8) = true ∧ (runA ((T ++ padL k ++ [10]).flatMap u8)).2.2.2 = dueL V := by
  unfold goodA
  rw [whole_run h]
  refine ⟨?_, rfl⟩
  simp
  omega
theorem broken_bad {T V : List Nat} (h : Sg T V) (k : Nat) (h1 : V.length % 4 ≠ 0) (hk : V.length % 4 + k = 3) : goodA ((T ++ padL k ++ [10]).flatMap u8) = false := by
  unfold goodA
  rw [whole_run h]
  simp
  omega
theorem broken_one {T V : List Nat} (h : Sg T V) (h1 : V.length % 4 = 0) : goodA ((T ++ [65] ++ [10]).flatMap u8) = false := by
  have h' : Sg (T ++ [sgn 0]) (V ++ [0]) := .sign h (by decide)
  have := whole_run h' 0
  rw [show sgn 0 = 65 by decide, show padL 0 = [] by rfl, List.append_nil, List.length_append] at this
  unfold goodA
  rw [this]
  simp
  omega
end Mine

namespace Mine
open PySem PySem.W PySem.Spec PySem.Calls PyProof.Rows
section
variable {prog : Program} {w : World} {A : Around} {E : Value → Shared → Prop} {Q : Flow → Shared → Prop} {s : Shared} {env : Env} {h₀ : Heap} {L : Addr}
/-- a loop with any target over a list of the ledger, which no turn changes -/
theorem for_turnsK {σ : Type} {target : Expr} {body : List Stmt} {l : Addr} {vs : List Value} {nn : Nat} {m₀ : Str → Option Value} {news₀ : List (Addr × Obj)} (keep : List (Addr × Obj)) (Led : σ → List (Addr × Obj)) (ps : σ → List (Str × Value)) (P : Nat → σ → Prop) (c₀ : σ)
    (hh : A.handled = none) (hl : (l, listOf vs.toArray nn) ∈ news₀) (hoffl : ∀ p ∈ Led c₀, p.1 ≠ l) (F : Fr h₀ env.locals s.heap m₀) (N : News h₀ env.locals s.heap news₀) (hL : ∀ p ∈ Led c₀, p ∈ news₀) (hkp : ∀ p ∈ keep, p ∈ news₀) (hk : HasAll m₀ (ps c₀)) (hp : P 0 c₀)
    (turn : ∀ i v (c : σ) (u : Str → Option Value) h tk own, i < vs.length → vs[i]? = some v → P i c → OwnOff own ((Led c).map (·.1)) → (l, listOf vs.toArray nn) ∈ own →
      Fr h₀ env.locals h (kstB u (ps c)) → News h₀ env.locals h (Led c ++ (keep ++ own)) →
      wpAny (model prog w) A (assign target env v) (fun _ s₃ => wpAny (model prog w) A (execs body env) (FkPost h₀ env.locals { s with heap := h, toks := tk } keep Led ps (fun c => P (i + 1) c) own Q) E s₃) E { s with heap := h, toks := tk })
    (done : ∀ (c : σ) (u : Str → Option Value) h tk, P vs.length c → Fr h₀ env.locals h (kstB u (ps c)) → News h₀ env.locals h (Led c ++ keep) → Q .next { s with heap := h, toks := tk }) :
    wpAny (model prog w) A (pyIter (.ref l)) (fun it s₂ => TurnsAt prog w A h₀ env target body Q E it s₂) E s := by
  have hln := N _ hl
  have hls : s.heap.IsList l vs.toArray := ⟨_, hln.1, rfl, nn, rfl⟩
  have hne : l ≠ s.heap.objs.size := Nat.ne_of_lt (Heap.lt_size hln.1)
  have N' : News h₀ env.locals s.heap (Led c₀ ++ keep) := fun p hp => N p ((List.mem_append.mp hp).elim (hL p) (hkp p))
  refine wpAny_pyIter_list hls ?_
  have W0 := Walks.list (prog := prog) (w := w) hh s.heap.objs.size l hne vs.toArray
  have W : Walks prog w A s.heap.objs.size [s.heap.objs.size, l] [s.heap.objs.size] vs.length (fun i v => vs.toArray[i]? = some v) (fun i h => (h.IsListIter s.heap.objs.size l i ∧ h.IsList l vs.toArray) ∧ h.get? l = some (listOf vs.toArray nn)) :=
    { sub := W0.sub
      frame := fun i h h' st hk => ⟨W0.frame i h h' st.1 hk, hk l (by simp) _ st.2⟩
      item := fun i s Q E hi st hQ => W0.item i s Q E (by simpa using hi) st.1 fun v h' tk hv st' hk => hQ v h' tk hv ⟨st', hk l _ (by simp; exact hne) st.2⟩ hk
      done := fun s Q E st hQ => W0.done s Q E (by simpa using st.1) hQ
      self := fun i s Q E st hQ => W0.self i s Q E st.1 hQ }
  have hfpL : ∀ q ∈ Led c₀, q.1 ∉ [s.heap.objs.size, l] := by
    intro q hq hm
    rcases List.mem_cons.mp hm with e | hm
    · exact absurd (Heap.lt_size (N' q (List.mem_append_left _ hq)).1) (by rw [e]; exact Nat.lt_irrefl _)
    · exact hoffl q hq (List.mem_singleton.mp hm)
  have hwrA : ∀ q ∈ Led c₀ ++ keep, q.1 ∉ [s.heap.objs.size] := by
    intro q hq hm
    exact absurd (Heap.lt_size (N' q hq).1) (by rw [List.mem_singleton.mp hm]; exact Nat.lt_irrefl _)
  have hLf : env.locals ∉ [s.heap.objs.size, l] := by
    intro hm
    rcases List.mem_cons.mp hm with e | hm
    · exact absurd F.ns.lt (e ▸ Nat.lt_irrefl _)
    · exact hln.2.1 (List.mem_singleton.mp hm).symm
  refine ⟨s.heap.objs.size, [s.heap.objs.size, l], [s.heap.objs.size], vs.length, _, _, _, m₀, Led c₀ ++ keep, fun i m nx => ∃ c : σ, nx = Led c ++ keep ∧ HasAll m (ps c) ∧ P i c ∧ ∀ q ∈ Led c, q.1 ∉ [s.heap.objs.size, l], rfl,
    KTurns.ofWalks W (fun i v s Q E st q => letGo_listiter st.1.1 q), hLf, ?_, hwrA, ⟨⟨⟨_, Heap.get?_push_size _ rfl, rfl, rfl⟩, hls.at fun o e => Heap.get?_push_of_some _ e⟩, Heap.get?_push_of_some _ hln.1⟩, F.push _, (fun p hp => ⟨Heap.get?_push_of_some _ (N' p hp).1, (N' p hp).2⟩), ⟨c₀, rfl, hk, hp, hfpL⟩, ?_, ?_⟩
  · intro b hb
    rw [List.mem_singleton.mp hb]
    exact next_is_new F
  · rintro i v m₁ news₁ hh' tk' own hin hP ⟨c, rfl, h1, hp', hoff'⟩ hnw hown hget hall hst' F₁ N₁
    have hsep : OwnOff own ((Led c).map (·.1)) := by
      intro p hp b hb e
      obtain ⟨q, hq, rfl⟩ := List.mem_map.mp hb
      exact hoff' q hq (e ▸ hown p hp)
    rw [← hasAll_eq h1] at F₁
    have N₂ : News h₀ env.locals hh' (Led c ++ (keep ++ own)) := fun p hp => N₁ p (by
      simp only [List.mem_append] at hp ⊢
      rcases hp with h | h | h
      · exact .inr (.inl h)
      · exact .inr (.inr h)
      · exact .inl h)
    have hlow : (l, listOf vs.toArray nn) ∈ own := hall l (by simp) hln.2.2 _ hst'.2
    refine wpAny_mono (turn i v c m₁ hh' tk' own hin (by simpa using hP) hp' hsep hlow F₁ N₂) (fun _ s₂ h₂ => wpAny_mono h₂ (fun f s₃ p => ?_) fun _ _ e => e) fun _ _ e => e
    have fin : FkEnd h₀ env.locals { s with heap := hh', toks := tk' } keep Led ps (P (i + 1)) own s₃ → LoopStepU h₀ env.locals [s.heap.objs.size] own (fun m nx => ∃ c : σ, nx = Led c ++ keep ∧ HasAll m (ps c) ∧ P (i + 1) c ∧ ∀ q ∈ Led c, q.1 ∉ [s.heap.objs.size, l]) { s with heap := hh', toks := tk' } .next s₃ := by
      rintro ⟨c', h', tk, m', news', e, F', N', hn, hkp, ho, ha, hk', hp''⟩
      have hfp' : ∀ q ∈ Led c', q.1 ∉ [s.heap.objs.size, l] := by
        intro q hq hm
        rcases List.mem_cons.mp hm with e | hm
        · obtain ⟨o, ho', _⟩ := hst'.1.1
          exact ha _ (hall _ (by simp) (next_is_new F) o ho') _ (List.mem_map_of_mem hq) e.symm
        · exact ha _ hlow _ (List.mem_map_of_mem hq) (List.mem_singleton.mp hm).symm
      exact ⟨rfl, h', tk, m', Led c' ++ keep, e, F', fun p hp => N' p (by
        simp only [List.mem_append] at hp
        rcases hp with h | h | h
        · exact ho p h
        · exact hn p h
        · exact hkp p h), fun p hp hq => (List.mem_append.mp hp).elim (fun h => hfp' p h (W.sub _ hq)) (fun h => absurd hq (hnw p (List.mem_append_right _ h))), c', rfl, hk', hp'', hfp'⟩
    cases f with
    | ret v => exact .ret p
    | brk => exact .brk p
    | next => exact .next (fin p)
    | cont => exact .cont (fin p)
  · rintro h' tk m' news' F' N' _ ⟨c, rfl, h1, hp', _⟩
    rw [← hasAll_eq h1] at F'
    exact done c m' h' tk hp' F' N'
def tupO (a : Array Value) : Obj := { cls := .type "tuple", data := .seq a }
/-- a turn of the loop over two (text, list) tuples ends -/
def TwoEnd (h₀ : Heap) (L : Addr) (s : Shared) (cur : Addr) (rest : List (Addr × Obj)) (ps : List (Str × Value)) (s₂ : Shared) : Prop :=
  ∃ (h' : Heap) (tk : Nat) (m' : Str → Option Value) (news' : List (Addr × Obj)) (o' : Obj), s₂ = { s with heap := h', toks := tk } ∧ Fr h₀ L h' m' ∧ News h₀ L h' news' ∧ (cur, o') ∈ news' ∧ (∀ p ∈ rest, p ∈ news') ∧ HasAll m' ps
def TwoPost (h₀ : Heap) (L : Addr) (s : Shared) (cur : Addr) (rest : List (Addr × Obj)) (ps : List (Str × Value)) (Q : Flow → Shared → Prop) (f : Flow) (s₂ : Shared) : Prop :=
  match f with
  | .ret v => Q (.ret v) s₂
  | .brk => Q .next s₂
  | _ => TwoEnd h₀ L s cur rest ps s₂
theorem twoEnd {cur : Addr} {rest : List (Addr × Obj)} {ps : List (Str × Value)} {h' : Heap} {tk : Nat} {m' : Str → Option Value} {news' : List (Addr × Obj)} (F : Fr h₀ L h' m') (N : News h₀ L h' news') (o' : Obj) (h1 : (cur, o') ∈ news') (h2 : ∀ p ∈ rest, p ∈ news') (hk : HasAll m' ps) :
    TwoEnd h₀ L s cur rest ps { s with heap := h', toks := tk } := ⟨h', tk, m', news', o', rfl, F, N, h1, h2, hk⟩
theorem for_two {target : Expr} {body : List Stmt} {lO T1 T2 lA lB : Addr} {x1 x2 : Str} {t1 t2 : Tok} {oA oB : Obj} {m₀ : Str → Option Value} (ps : List (Str × Value)) (G : Str → Obj → Prop)
    (hh : A.handled = none) (F : Fr h₀ env.locals s.heap m₀)
    (N : News h₀ env.locals s.heap [(lO, listOf #[.ref T1, .ref T2] 0), (T2, { cls := .type "tuple", data := .seq #[.str x2 t2, .ref lB] }), (lB, oB), (T1, { cls := .type "tuple", data := .seq #[.str x1 t1, .ref lA] }), (lA, oA)])
    (h1 : @LT.lt Nat _ lA T1) (h2 : @LT.lt Nat _ T1 lB) (h3 : @LT.lt Nat _ lB T2) (h4 : @LT.lt Nat _ T2 lO) (hk : HasAll m₀ ps) (g1 : G x1 oA) (g2 : G x2 oB)
    (turn : ∀ (T cur oth : Addr) (x : Str) (t : Tok) (oc oo : Obj) (own : List (Addr × Obj)) (u : Str → Option Value) h tk, G x oc → @Ne Nat T cur → @Ne Nat T oth → @Ne Nat oth cur → OwnOff own [cur] →
      Fr h₀ env.locals h (kstB u ps) → News h₀ env.locals h ((T, { cls := .type "tuple", data := .seq #[.str x t, .ref cur] }) :: (cur, oc) :: (oth, oo) :: own) →
      wpAny (model prog w) A (assign target env (.ref T)) (fun _ s₃ => wpAny (model prog w) A (execs body env) (TwoPost h₀ env.locals { s with heap := h, toks := tk } cur ((T, { cls := .type "tuple", data := .seq #[.str x t, .ref cur] }) :: (oth, oo) :: own) ps Q) E s₃) E { s with heap := h, toks := tk })
    (done : ∀ (u : Str → Option Value) h tk, Fr h₀ env.locals h (kstB u ps) → News h₀ env.locals h [] → Q .next { s with heap := h, toks := tk }) :
    wpAny (model prog w) A (pyIter (.ref lO)) (fun it s₂ => TurnsAt prog w A h₀ env target body Q E it s₂) E s := by
  refine for_turnsK (σ := Addr × Obj × Addr × Obj) (nn := 0) (vs := [.ref T1, .ref T2]) [(T2, { cls := .type "tuple", data := .seq #[.str x2 t2, .ref lB] }), (T1, { cls := .type "tuple", data := .seq #[.str x1 t1, .ref lA] })]
    (fun c => [(c.1, c.2.1), (c.2.2.1, c.2.2.2)]) (fun _ => ps) (fun i c => (i = 0 ∧ c = (lA, oA, lB, oB)) ∨ (i = 1 ∧ ∃ o, c = (lB, oB, lA, o)) ∨ 2 ≤ i) (lA, oA, lB, oB) hh (List.Mem.head _) ?_ F N ?_ ?_ hk (.inl ⟨rfl, rfl⟩) ?_ ?_
  · intro p hp
    simp only [List.mem_cons, List.not_mem_nil, or_false] at hp
    rcases hp with rfl | rfl
    · show lA ≠ lO; exact neN (by omega)
    · show lB ≠ lO; exact neN (by omega)
  · intro p hp
    simp only [List.mem_cons, List.not_mem_nil, or_false] at hp ⊢
    rcases hp with rfl | rfl <;> simp
  · intro p hp
    simp only [List.mem_cons, List.not_mem_nil, or_false] at hp ⊢
    rcases hp with rfl | rfl <;> simp
  · rintro i v ⟨cur, oc, oth, oo⟩ u h tk own hi hv hP hoff hown F' N'
    have key : ∀ (T cur oth : Addr) (x : Str) (t : Tok) (oc oo : Obj) (own' : List (Addr × Obj)), G x oc → @Ne Nat T cur → @Ne Nat T oth → @Ne Nat oth cur → OwnOff own' [cur] →
        (∀ p ∈ (T, ({ cls := .type "tuple", data := .seq #[.str x t, .ref cur] } : Obj)) :: (cur, oc) :: (oth, oo) :: own', p ∈ [(cur, oc), (oth, oo)] ++ ([(T2, { cls := .type "tuple", data := .seq #[.str x2 t2, .ref lB] }), (T1, { cls := .type "tuple", data := .seq #[.str x1 t1, .ref lA] })] ++ own)) →
        (∀ p ∈ [(T2, ({ cls := .type "tuple", data := .seq #[.str x2 t2, .ref lB] } : Obj)), (T1, { cls := .type "tuple", data := .seq #[.str x1 t1, .ref lA] })] ++ own, p ∈ (T, ({ cls := .type "tuple", data := .seq #[.str x t, .ref cur] } : Obj)) :: (oth, oo) :: own') →
        OwnOff own [cur, oth] → News h₀ env.locals h ([(cur, oc), (oth, oo)] ++ ([(T2, { cls := .type "tuple", data := .seq #[.str x2 t2, .ref lB] }), (T1, { cls := .type "tuple", data := .seq #[.str x1 t1, .ref lA] })] ++ own)) →
        (∀ o', ((i + 1 = 0 ∧ (oth, oo, cur, o') = (lA, oA, lB, oB)) ∨ (i + 1 = 1 ∧ ∃ o, (oth, oo, cur, o') = (lB, oB, lA, o)) ∨ 2 ≤ i + 1)) →
        wpAny (model prog w) A (assign target env (.ref T)) (fun _ s₃ => wpAny (model prog w) A (execs body env) (FkPost h₀ env.locals { s with heap := h, toks := tk } [(T2, { cls := .type "tuple", data := .seq #[.str x2 t2, .ref lB] }), (T1, { cls := .type "tuple", data := .seq #[.str x1 t1, .ref lA] })] (fun c : Addr × Obj × Addr × Obj => [(c.1, c.2.1), (c.2.2.1, c.2.2.2)]) (fun _ => ps) (fun c => (i + 1 = 0 ∧ c = (lA, oA, lB, oB)) ∨ (i + 1 = 1 ∧ ∃ o, c = (lB, oB, lA, o)) ∨ 2 ≤ i + 1) own Q) E s₃) E { s with heap := h, toks := tk } := by
      intro T cur oth x t oc oo own' hG n1 n2 n3 ho' hsub hsup hoff N' hPn
      refine wpAny_mono (turn T cur oth x t oc oo own' u h tk hG n1 n2 n3 ho' F' (fun p hp => N' p (hsub p hp))) (fun _ s₂ h₂ => wpAny_mono h₂ (fun f s₃ p => ?_) fun _ _ e => e) fun _ _ e => e
      have fin : TwoEnd h₀ env.locals { s with heap := h, toks := tk } cur ((T, { cls := .type "tuple", data := .seq #[.str x t, .ref cur] }) :: (oth, oo) :: own') ps s₃ → FkEnd h₀ env.locals { s with heap := h, toks := tk } [(T2, { cls := .type "tuple", data := .seq #[.str x2 t2, .ref lB] }), (T1, { cls := .type "tuple", data := .seq #[.str x1 t1, .ref lA] })] (fun c : Addr × Obj × Addr × Obj => [(c.1, c.2.1), (c.2.2.1, c.2.2.2)]) (fun _ => ps) (fun c => (i + 1 = 0 ∧ c = (lA, oA, lB, oB)) ∨ (i + 1 = 1 ∧ ∃ o, c = (lB, oB, lA, o)) ∨ 2 ≤ i + 1) own s₃ := by
        rintro ⟨h', tk', m', news', o', e, F2, N2, hm, hr, hk'⟩
        refine ⟨(oth, oo, cur, o'), h', tk', m', news', e, F2, N2, ?_, ?_, ?_, ?_, hk', hPn o'⟩
        · intro p hp
          simp only [List.mem_cons, List.not_mem_nil, or_false] at hp
          rcases hp with rfl | rfl
          · exact hr _ (List.mem_cons_of_mem _ (List.Mem.head _))
          · exact hm
        · exact fun p hp => hr p (hsup p (List.mem_append_left _ hp))
        · exact fun p hp => hr p (hsup p (List.mem_append_right _ hp))
        · intro p hp b hb
          simp only [List.map_cons, List.map_nil, List.mem_cons, List.not_mem_nil, or_false] at hb
          exact hoff p hp b (by rcases hb with rfl | rfl <;> simp)
      cases f with
      | ret v => exact p
      | brk => exact p
      | next => exact fin p
      | cont => exact fin p
    rcases hP with ⟨rfl, e⟩ | ⟨rfl, o, e⟩ | hP
    · obtain ⟨rfl, rfl, rfl, rfl⟩ : cur = lA ∧ oc = oA ∧ oth = lB ∧ oo = oB := by simpa using e
      obtain rfl : v = .ref T1 := by simpa using hv.symm
      refine key T1 cur oth x1 t1 oc oo ((T2, { cls := .type "tuple", data := .seq #[.str x2 t2, .ref oth] }) :: own) g1 (by omega) (by omega) (by omega) ?_ ?_ ?_ hoff N' (fun o' => .inr (.inl ⟨rfl, o', rfl⟩))
      · intro p hp b hb
        rw [List.mem_singleton.mp hb]
        rcases List.mem_cons.mp hp with rfl | hp
        · refine neN ?_; (try dsimp only); omega
        · exact hoff p hp _ (by simp)
      · intro p hp
        simp only [List.mem_cons, List.mem_append, List.not_mem_nil, or_false] at hp ⊢
        rcases hp with h | h | h | h | h <;> simp [h]
      · intro p hp
        simp only [List.mem_cons, List.mem_append, List.not_mem_nil, or_false] at hp ⊢
        rcases hp with (h | h) | h <;> simp [h]
    · obtain ⟨rfl, rfl, rfl, rfl⟩ : cur = lB ∧ oc = oB ∧ oth = lA ∧ oo = o := by simpa using e
      obtain rfl : v = .ref T2 := by simpa using hv.symm
      refine key T2 cur oth x2 t2 oc oo ((T1, { cls := .type "tuple", data := .seq #[.str x1 t1, .ref oth] }) :: own) g2 (by omega) (by omega) (by omega) ?_ ?_ ?_ hoff N' (fun o' => .inr (.inr (Nat.le_refl _)))
      · intro p hp b hb
        rw [List.mem_singleton.mp hb]
        rcases List.mem_cons.mp hp with rfl | hp
        · refine neN ?_; (try dsimp only); omega
        · exact hoff p hp _ (by simp)
      · intro p hp
        simp only [List.mem_cons, List.mem_append, List.not_mem_nil, or_false] at hp ⊢
        rcases hp with h | h | h | h | h <;> simp [h]
      · intro p hp
        simp only [List.mem_cons, List.mem_append, List.not_mem_nil, or_false] at hp ⊢
        rcases hp with (h | h) | h <;> simp [h]
    · have : i < 2 := hi
      omega
  · intro c u h tk _ F' N'
    exact done u h tk F' (fun _ h => nomatch h)
theorem swapM {α : Type} {a b p : α} {r : List α} (h : p ∈ b :: a :: r) : p ∈ a :: b :: r := by
  simp only [List.mem_cons] at h ⊢
  rcases h with h | h | h
  · exact .inr (.inl h)
  · exact .inl h
  · exact .inr (.inr h)
end
theorem tailM {α : Type} {a b p : α} {r r' : List α} (h : p ∈ a :: b :: r) : p ∈ a :: b :: (r ++ r') := by
  simp only [List.mem_cons, List.mem_append] at h ⊢
  rcases h with h | h | h
  · exact .inl h
  · exact .inr (.inl h)
  · exact .inr (.inr (.inl h))
theorem endM {α : Type} {c a b p : α} {r r' : List α} (h : p ∈ r') : p ∈ c :: a :: b :: (r ++ r') :=
  List.mem_cons_of_mem _ (List.mem_cons_of_mem _ (List.mem_cons_of_mem _ (List.mem_append_right _ h)))
def alphaE : Str := Str.ofString "ABCDEFGHIJKLMNOPQRSTUVWXYZabcdefghijklmnopqrstuvwxyz0123456789+/" ++ Str.ofString "="
theorem v64_small {c : Nat} (h : v64 c < 64) : c < 128 := by
  unfold v64 at h
  repeat (first | omega | split at h)
theorem in_alpha (c : Nat) (h : v64 c < 64 ∨ c = 61) : c ∈ alphaE.cps.toList := by
  have hc : c < 128 := by
    rcases h with h | rfl
    · exact v64_small h
    · decide
  exact (by decide +kernel : ∀ c : Fin 128, (v64 c.1 < 64 ∨ c.1 = 61) → c.1 ∈ alphaE.cps.toList) ⟨c, hc⟩ h
theorem alienE {z : Int} (hf : (Builtin.Str.occurrences (Str.ofString "ABCDEFGHIJKLMNOPQRSTUVWXYZabcdefghijklmnopqrstuvwxyz0123456789+/" ++ Str.ofString "=") ⟨#[z.toNat]⟩ 0 (Str.ofString "ABCDEFGHIJKLMNOPQRSTUVWXYZabcdefghijklmnopqrstuvwxyz0123456789+/" ++ Str.ofString "=").length 1).isEmpty = true) (h1 : ¬ (55296 ≤ z ∧ z ≤ 57343)) (h0 : 0 ≤ z ∧ z < 1114112) : alien z.toNat := by
  have h := StrLaws.found_one alphaE z.toNat
  have e : (!(Builtin.Str.occurrences alphaE ⟨#[z.toNat]⟩ 0 alphaE.length 1).isEmpty) = false := by
    show (!(Builtin.Str.occurrences (Str.ofString "ABCDEFGHIJKLMNOPQRSTUVWXYZabcdefghijklmnopqrstuvwxyz0123456789+/" ++ Str.ofString "=") ⟨#[z.toNat]⟩ 0 (Str.ofString "ABCDEFGHIJKLMNOPQRSTUVWXYZabcdefghijklmnopqrstuvwxyz0123456789+/" ++ Str.ofString "=").length 1).isEmpty) = false
    rw [hf]; rfl
  rw [e] at h
  have hn : z.toNat ∉ alphaE.cps.toList := of_decide_eq_false h.symm
  refine ⟨fun e => hn (in_alpha _ (.inr e)), ?_, ?_, by omega⟩
  · exact Nat.le_of_not_lt fun hl => hn (in_alpha _ (.inl hl))
  · unfold Str.isSurrogate
    rw [Bool.and_eq_false_iff, decide_eq_false_iff_not, decide_eq_false_iff_not]
    omega
def InvT (i : Nat) (c : Obj × Value) : Prop := ∃ us nn V x t, c.1 = W.listOf us.toArray nn ∧ c.2 = .str x t ∧ IntsAre us (zs V) ∧ Sg x.cps.toList V ∧ V.length ≤ 2 + i ∧ x.length ≤ 2 + i
section
variable {us : List Value} {V : List Nat} {x : Str} {i nn : Nat} {t u : Tok} {k : Int}
theorem str_catlen (x y : Str) : (x ++ y).length = x.length + y.length := by rw [← str_len, str_cat, List.length_append, str_len, str_len]
theorem inv_sign (hus : IntsAre us (zs V)) (hsg : Sg x.cps.toList V) (hV : V.length ≤ 2 + i) (hx : x.length ≤ 2 + i) (hk : 0 ≤ k ∧ k < 64) :
    InvT (i + 1) (W.listOf (us ++ [Value.int k t]).toArray nn, .str (x ++ Txt.item (Str.ofString "ABCDEFGHIJKLMNOPQRSTUVWXYZabcdefghijklmnopqrstuvwxyz0123456789+/") k) u) := by
  have e := item_alpha hk
  have e2 := congrArg List.length e
  rw [str_len] at e2
  refine ⟨_, _, V ++ [k.toNat], _, _, rfl, rfl, snocE hus (by omega), ?_, by simp; omega, by rw [str_catlen, e2]; simp; omega⟩
  rw [str_cat, e]
  exact .sign hsg (by omega)
theorem inv_ten (hus : IntsAre us (zs V)) (hsg : Sg x.cps.toList V) (hV : V.length ≤ 2 + i) (hx : x.length ≤ 2 + i) :
    InvT (i + 1) (W.listOf us.toArray nn, .str (x ++ Str.ofString "\n") u) := by
  refine ⟨_, _, V, _, _, rfl, rfl, hus, ?_, by omega, by rw [str_catlen, show (Str.ofString "\n").length = 1 by decide]; omega⟩
  rw [str_cat, show (Str.ofString "\n").cps.toList = [10] by decide]
  exact .alien hsg ⟨by decide, by decide, by decide, by decide⟩
theorem inv_code {z : Int} (hus : IntsAre us (zs V)) (hsg : Sg x.cps.toList V) (hV : V.length ≤ 2 + i) (hx : x.length ≤ 2 + i) (hf : (Builtin.Str.occurrences (Str.ofString "ABCDEFGHIJKLMNOPQRSTUVWXYZabcdefghijklmnopqrstuvwxyz0123456789+/" ++ Str.ofString "=") ⟨#[z.toNat]⟩ 0 (Str.ofString "ABCDEFGHIJKLMNOPQRSTUVWXYZabcdefghijklmnopqrstuvwxyz0123456789+/" ++ Str.ofString "=").length 1).isEmpty = true) (h1 : ¬ (55296 ≤ z ∧ z ≤ 57343)) (h0 : 0 ≤ z ∧ z < 1114112) :
    InvT (i + 1) (W.listOf us.toArray nn, .str (x ++ ⟨#[z.toNat]⟩) u) := by
  refine ⟨_, _, V, _, _, rfl, rfl, hus, ?_, by omega, by rw [str_catlen]; show _ + 1 ≤ _; omega⟩
  rw [str_cat]
  exact .alien hsg (alienE hf h1 h0)
end
theorem mul2_list {n : Int} (h : 0 ≤ n ∧ n ≤ 3) : (Txt.mul (Str.ofString "= ") n).cps.toList = padL n.toNat := by
  obtain ⟨k, rfl⟩ := Int.eq_ofNat_of_zero_le h.1
  exact (by decide +kernel : ∀ n : Fin 4, (Txt.mul (Str.ofString "= ") ((n.1 : Nat) : Int)).cps.toList = padL n.1) ⟨k, by omega⟩
theorem padL_len (n : Nat) : (padL n).length = 2 * n := by
  induction n with
  | zero => rfl
  | succ n ih => show (padL n).length + 1 + 1 = _; omega
theorem padL_surr (n : Nat) : ∀ k ∈ padL n, Str.isSurrogate k = false := by
  induction n with
  | zero => exact fun _ h => nomatch h
  | succ n ih =>
    intro k hk
    rcases List.mem_cons.mp hk with rfl | hk
    · decide
    · rcases List.mem_cons.mp hk with rfl | hk
      · decide
      · exact ih k hk
theorem enc_small {x : Str} (h : x.length ≤ 100) : (SE.enc Str.utf8Of x).size ≤ 400 := Nat.le_trans (enc_len x) (by omega)
section
variable {x : Str} {V : List Nat} {n : Int}
theorem pad_cps (hn : 0 ≤ n ∧ n ≤ 3) : (x ++ Txt.mul (Str.ofString "= ") n ++ Str.ofString "\n").cps.toList = x.cps.toList ++ padL n.toNat ++ [10] := by
  rw [str_cat, str_cat, mul2_list hn, show (Str.ofString "\n").cps.toList = [10] by decide]
theorem pad_surr (hsg : Sg x.cps.toList V) (hn : 0 ≤ n ∧ n ≤ 3) : ∀ k ∈ (x ++ Txt.mul (Str.ofString "= ") n ++ Str.ofString "\n").cps.toList, Str.isSurrogate k = false := by
  rw [pad_cps hn]
  intro k hk
  rcases List.mem_append.mp hk with hk | hk
  · rcases List.mem_append.mp hk with hk | hk
    · exact hsg.surr k hk
    · exact padL_surr _ k hk
  · rw [List.mem_singleton.mp hk]; decide
theorem pad_size (hx : x.length ≤ 90) (hn : 0 ≤ n ∧ n ≤ 3) : (SE.enc Str.utf8Of (x ++ Txt.mul (Str.ofString "= ") n ++ Str.ofString "\n")).size ≤ 400 := by
  refine enc_small ?_
  rw [← str_len, pad_cps hn, List.length_append, List.length_append, padL_len, str_len]
  show _ + _ + 1 ≤ _
  omega
theorem pad_good (hsg : Sg x.cps.toList V) (h1 : V.length % 4 ≠ 1) (hn : n = -(V.length : Int) % 4) :
    goodA (octs (SE.enc Str.utf8Of (x ++ Txt.mul (Str.ofString "= ") n ++ Str.ofString "\n"))) = true ∧ (runA (octs (SE.enc Str.utf8Of (x ++ Txt.mul (Str.ofString "= ") n ++ Str.ofString "\n")))).2.2.2 = dueL V := by
  rw [octs_enc, pad_cps (by omega)]
  exact whole_good hsg _ h1 (by omega)
theorem pad_bad (hsg : Sg x.cps.toList V) (h1 : V.length % 4 ≠ 1) (h0 : 0 < -(V.length : Int) % 4) (hn : n = -(V.length : Int) % 4 - 1) :
    goodA (octs (SE.enc Str.utf8Of (x ++ Txt.mul (Str.ofString "= ") n ++ Str.ofString "\n"))) = false := by
  rw [octs_enc, pad_cps (by omega)]
  exact broken_bad hsg _ (by omega) (by omega)
theorem one_cps : (x ++ Str.ofString "A\n").cps.toList = x.cps.toList ++ [65] ++ [10] := by
  rw [str_cat, show (Str.ofString "A\n").cps.toList = [65, 10] by decide, List.append_assoc]
  rfl
theorem one_surr (hsg : Sg x.cps.toList V) : ∀ k ∈ (x ++ Str.ofString "A\n").cps.toList, Str.isSurrogate k = false := by
  rw [one_cps]
  intro k hk
  rcases List.mem_append.mp hk with hk | hk
  · rcases List.mem_append.mp hk with hk | hk
    · exact hsg.surr k hk
    · rw [List.mem_singleton.mp hk]; decide
  · rw [List.mem_singleton.mp hk]; decide
theorem one_size (hx : x.length ≤ 90) : (SE.enc Str.utf8Of (x ++ Str.ofString "A\n")).size ≤ 400 := by
  refine enc_small ?_
  rw [← str_len, one_cps, List.length_append, List.length_append, str_len]
  show _ + 1 + 1 ≤ _
  omega
theorem one_bad (hsg : Sg x.cps.toList V) (h1 : ¬ 0 < -(V.length : Int) % 4) :
    goodA (octs (SE.enc Str.utf8Of (x ++ Str.ofString "A\n"))) = false := by
  rw [octs_enc, one_cps]
  exact broken_one hsg (by omega)
theorem sg_more {us : List Value} {t : Tok} (hus : IntsAre us (zs V)) (hsg : Sg x.cps.toList V) : IntsAre (us ++ [Value.int 0 t]) (zs (V ++ [0])) ∧ Sg (x ++ Str.ofString "A").cps.toList (V ++ [0]) :=
  ⟨snocE hus rfl, by
    rw [str_cat, show (Str.ofString "A").cps.toList = [sgn 0] by decide]
    exact .sign hsg (by decide)⟩
end
section
variable {prog : Program} {w : World} {A : Around} {E : Value → Shared → Prop} {s : Shared} {h₀ : Heap} {L : Addr} {m : Str → Option Value} {news : List (Addr × Obj)}
theorem len_Z1 {l : Addr} {us : List Value} {a : Value} {nn : Nat} {Q : Value → Shared → Prop} (N : News h₀ L s.heap news) (hl : (l, listOf (us ++ [a]).toArray nn) ∈ news) (h : ∀ t' k, Q (.int ((us.length + 1 : Nat) : Int) t') { s with toks := k }) (hz : us.length ≤ 900000) :
    wpAny (model prog w) A (call (.builtin "len") [.ref l]) Q E s := by
  refine len_Z N hl ?_ (by simp; omega)
  intro t' k
  have := h t' k
  simpa using this
end
theorem toldGood {o : List Nat} {r : Value} {V : List Nat} (hr : (goodA o = true ∧ ∃ t, r = .bytes (ofOcts (runA o).2.2.2) t) ∨ (goodA o = false ∧ ∃ t, r = .str (Str.ofString "ValueError") t)) (h : goodA o = true ∧ (runA o).2.2.2 = dueL V) : ∃ t, r = .bytes (ofOcts (dueL V)) t := by
  rcases hr with ⟨_, t, rfl⟩ | ⟨hb, _⟩
  · exact ⟨t, by rw [h.2]⟩
  · rw [h.1] at hb; cases hb
theorem toldBad {o : List Nat} {r : Value} (hr : (goodA o = true ∧ ∃ t, r = .bytes (ofOcts (runA o).2.2.2) t) ∨ (goodA o = false ∧ ∃ t, r = .str (Str.ofString "ValueError") t)) (h : goodA o = false) : ∃ t, r = .str (Str.ofString "ValueError") t := by
  rcases hr with ⟨hb, _⟩ | ⟨_, t, rfl⟩
  · rw [h] at hb; cases hb
  · exact ⟨t, rfl⟩
theorem sg_A {x : Str} {V : List Nat} (hsg : Sg x.cps.toList V) : Sg (x ++ Str.ofString "A").cps.toList (V ++ [0]) := by
  rw [str_cat, show (Str.ofString "A").cps.toList = [sgn 0] by decide]
  exact .sign hsg (by decide)
theorem two_same {b : Array UInt8} {t1 t2 : Tok} {i : Nat} {v : Value} (h : [Value.bytes b t1, Value.bytes b t2][i]? = some v) : ∃ t, v = .bytes b t := by
  have hm := List.mem_of_getElem? h
  simp only [List.mem_cons, List.not_mem_nil, or_false] at hm
  rcases hm with rfl | rfl
  · exact ⟨_, rfl⟩
  · exact ⟨_, rfl⟩
theorem two_sameS {b : Str} {t1 t2 : Tok} {i : Nat} {v : Value} (h : [Value.str b t1, Value.str b t2][i]? = some v) : ∃ t, v = .str b t := by
  have hm := List.mem_of_getElem? h
  simp only [List.mem_cons, List.not_mem_nil, or_false] at hm
  rcases hm with rfl | rfl
  · exact ⟨_, rfl⟩
  · exact ⟨_, rfl⟩
theorem tailM3 {α : Type} {a b c p : α} {r r' : List α} (h : p ∈ a :: b :: c :: r) : p ∈ a :: b :: c :: (r ++ r') := by
  rcases List.mem_cons.mp h with h | h
  · rw [h]; exact List.Mem.head _
  · exact List.mem_cons_of_mem _ (tailM h)
end Mine

local macro_rules | `(tactic| walk_at "WhPost") => `(tactic| dsimp only [Mine.WhPost])
local macro_rules | `(tactic| walk_at "FkPost") => `(tactic| dsimp only [Mine.FkPost])
local macro_rules | `(tactic| walk_at "FoPost") => `(tactic| dsimp only [Mine.FoPost])
local macro_rules | `(tactic| k_room) => `(tactic| ktr_room)
local macro_rules | `(tactic| k_units) => `(tactic| ktr_units)
local macro_rules | `(tactic| ktr_enter) => `(tactic| (refine' code_def ?k1 ?k2 ?k3 ?k4 ?k5 ?kA ?kF ?kK ?k6 ?k7 ?k8 ?k9 ?kB ?_ ?c2 ?c3 ?c4 ?c5; (case kA => exact rfl); (case kF => exact rfl); (case kK => first | exact rfl | assumption); (case k1 => k_asm); (case k2 => k_asm); (case k3 => k_asm); (case k4 => k_asm); (case k5 => k_asm); (case k6 => k_is); (case k7 => k_is); (case k8 => ktr_room); (case k9 => first | exact BindsTo.of_eq rfl | exact binds_K (by k_in) rfl (by k_is) rfl rfl rfl | (refine' kp_binds ?kx ?ke; (case kx => k_in); (case ke => exact fun _ => rfl))); (case c5 => decide); (case kB => exact locs rfl); (case c2 => exact rfl); (case c3 => exact rfl); (case c4 => exact rfl); k_whole; intro g' L' h' FG' F' N' B' X' T'; (try dsimp only); (try k_fold)))
local macro_rules | `(tactic| walk_at "call type:type") => `(tactic| ((with_reducible show wpAny _ _ (call _ [Value.bytes _ _]) _ _ _); refine call_type_of (Tx := "bytes") rfl (by decide +kernel) ?_))
local macro_rules | `(tactic| size_fits) => `(tactic| ((try simp only [List.size_toArray, Array.size_append, List.length_append, List.length_cons, List.length_nil, PySem.sizeLine_eq]); omega))
local macro_rules | `(tactic| k_all) => `(tactic| kst_allNe)
local macro_rules | `(tactic| k_all) => `(tactic| (refine List.forall_mem_append.mpr ⟨?_, ?_⟩ <;> k_all))
local macro_rules | `(tactic| walk_at "call builtin:list.append") => `(tactic| (k_here; (try dsimp only [List.cons_append, List.nil_append]); k_dflt (refine' Mine.append_Z ?k1 ?k2 ?k3 ?_ ?z; (case k1 => k_asm); (case k2 => k_asm); (case k3 => k_upd); (case z => size_fits); k_whole); intro h' F' N'; (try k_sweep)))
local macro_rules | `(tactic| walk_at "call type:bytes") => `(tactic| (k_here; (try dsimp only [List.cons_append, List.nil_append]); k_dflt (refine' Mine.bytes_Z ?F ?N ?l ?i ?r ?z ?h ?_; (case F => k_asm); (case N => k_asm); (case l => k_memK); (case i => assumption); (case r => assumption); (case z => size_fits); (case h => with_unfolding_all rfl); k_whole); intro h' t' k' F' N'; (try k_sweep)))
local macro_rules | `(tactic| walk_at "subscriptTail") => `(tactic| (k_here; (with_reducible show wpAny _ _ (subscriptTail _ _ (Value.bytes _ _) (Value.int _ _)) _ _ _); (with_unfolding_all refine' Mine.item_b64 ?k1 ?_); (case k1 => omega); intro t' k'))
local macro_rules | `(tactic| walk_at "binaryOp Add int int") => `(tactic| (k_here; refine Mine.addI ?_; intro t' k'))
local macro_rules | `(tactic| walk_at "binaryOp Sub int int") => `(tactic| (k_here; refine Mine.subI ?_; intro t' k'))
local macro_rules | `(tactic| walk_at "binaryOp Mod int int") => `(tactic| (k_here; refine' Mine.modI ?z ?_; (case z => omega); intro t' k'))
local macro_rules | `(tactic| walk_at "binaryOp FloorDiv int int") => `(tactic| (k_here; refine' Mine.divI ?z ?_; (case z => omega); intro t' k'))
local macro_rules | `(tactic| walk_at "binaryOp Mult int int") => `(tactic| (k_here; refine' Mine.mulI ?z ?_; (case z => omega); intro t' k'))
local macro_rules | `(tactic| walk_at "eval Constant int") => `(tactic| (k_here; refine Mine.constI ?_; intro t' k'))
local macro_rules | `(tactic| walk_at "binaryOp BitAnd int int") => `(tactic| (k_here; with_reducible (first | refine Mine.band63 ?_ | refine Mine.band65535 ?_ | refine Mine.band15 ?_ | refine Mine.band3 ?_); intro t' k'))
local macro_rules | `(tactic| walk_at "binaryOp RShift int int") => `(tactic| (k_here; (first | (with_reducible refine' Mine.rsh_by 4 16 ?e ?f ?_; (case e => decide); (case f => decide)) | (with_reducible refine' Mine.rsh_by 2 4 ?e ?f ?_; (case e => decide); (case f => decide)) | (with_reducible refine' Mine.rsh_by 6 64 ?e ?f ?_; (case e => decide); (case f => decide)) | (with_reducible refine' Mine.rsh_by 0 1 ?e ?f ?_; (case e => decide); (case f => decide))); intro t' k'))
local macro_rules | `(tactic| walk_at "binaryOp LShift int int") => `(tactic| (k_here; (first | (with_reducible refine' Mine.lsh_by 8 256 ?e ?f ?g ?z ?_; (case e => decide)) | (with_reducible refine' Mine.lsh_by 4 16 ?e ?f ?g ?z ?_; (case e => decide)) | (with_reducible refine' Mine.lsh_by 2 4 ?e ?f ?g ?z ?_; (case e => decide)) | (with_reducible refine' Mine.lsh_by 6 64 ?e ?f ?g ?z ?_; (case e => decide))); (case f => decide); (case g => decide); (case z => omega); intro t' k'))
local macro_rules | `(tactic| walk_at "binaryOp BitOr int int") => `(tactic| (k_here; (first | (with_reducible refine' Mine.bor_sum 8 256 ?a ?c ?z ?d ?_; (case a => with_reducible rfl)) | (with_reducible refine' Mine.bor_sum 4 16 ?a ?c ?z ?d ?_; (case a => with_reducible rfl)) | (with_reducible refine' Mine.bor_sum 2 4 ?a ?c ?z ?d ?_; (case a => with_reducible rfl)) | (with_reducible refine' Mine.bor_sum 6 64 ?a ?c ?z ?d ?_; (case a => with_reducible rfl))); (case c => omega); (case z => omega); (case d => decide); intro t' k'))
local macro_rules | `(tactic| walk_at "getMethod str") => `(tactic| (k_here; with_reducible refine Mine.enc_meth ?_))
local macro_rules | `(tactic| walk_at "getMethod bytes") => `(tactic| (k_here; with_reducible refine Mine.join_meth ?_))
local macro_rules | `(tactic| walk_at "binaryOp Pow int int") => `(tactic| (k_here; with_reducible refine' Mine.pow256 ?z ?_; (case z => omega); intro pz t' k' hpe hp1 hp2))
local macro_rules | `(tactic| walk_at "binaryOp Mult str int") => `(tactic| (k_here; with_reducible refine' Mine.mul_one_S (c := 61) ?e ?z ?_; (case e => rfl); (case z => omega); intro my t' k' hmy))
local macro_rules | `(tactic| walk_at "subscriptTail") => `(tactic| (k_here; (with_reducible show wpAny _ _ (subscriptTail _ _ (Value.str (Str.ofString "ABCDEFGHIJKLMNOPQRSTUVWXYZabcdefghijklmnopqrstuvwxyz0123456789+/") _) (Value.int _ _)) _ _ _); (with_unfolding_all refine' Mine.item_S (c := Mine.sgn _) ?k1 ?k2 ?_); (case k1 => omega); (case k2 => exact Mine.alpha_get _ (by omega)); intro t' k'))
local macro_rules | `(tactic| walk_at "call type:range") => `(tactic| (k_here; (with_reducible show wpAny _ _ (call _ [_, _, _]) _ _ _); k_dflt (refine' Mine.range_zero ?z ?hh ?_; (case z => omega); (case hh => exact rfl)); intro _ _ _ _))
local macro_rules | `(tactic| walk_at "call type:range") => `(tactic| (k_here; (with_reducible show wpAny _ _ (call _ [_, _, _]) _ _ _); k_dflt (refine' Mine.range_Z ?F ?N ?c ?z ?_; (case F => k_asm); (case N => k_asm); (case c => first | omega | with_reducible assumption); (case z => omega)); intro _ _ _ _ _ _ _ _ _))
local macro_rules | `(tactic| walk_at "subscriptTail") => `(tactic| (k_here; (with_reducible show wpAny _ _ (subscriptTail _ (Expr.Slice _ _ none _) (Value.bytes _ _) (Value.ref _)) _ _ _); (with_reducible rename Fr _ _ _ _ => F'); (with_reducible rename News _ _ _ _ => N'); (refine' Mine.slice_Z (s := ⟨_, _, _, _, _⟩) F' N' ?z ?b ?_; (case z => omega); (case b => omega)); intro _ _ _ _ _ _ kbcK))
local macro_rules | `(tactic| walk_at "call builtin:list.extend") => `(tactic| (k_here; (with_reducible show wpAny _ _ (call (Value.builtin _) [Value.ref _, Value.ref _]) _ _ _); (try dsimp only [List.cons_append, List.nil_append]); k_dflt (refine' Mine.extend_Z ?F ?N ?b ?ne ?U ?z ?_; (case F => k_asm); (case N => k_asm); (case b => k_memK); (case ne => simp); (case U => k_upd); (case z => (simp only [List.length_cons, List.length_nil]; omega)); k_whole); intro h' F' N'; (try k_sweep)))
local macro_rules | `(tactic| walk_at "compareOp NotEq") => `(tactic| (k_here; (with_reducible show wpAny _ _ (compareOp CmpOp.NotEq (Value.type "bytes") (Value.type "bytes")) _ _ _); (refine Mine.ne_type_same PySem.TypeEq.meta_bytes ?_)))
local macro_rules | `(tactic| walk_at "compareOp NotEq") => `(tactic| (k_here; (with_reducible show wpAny _ _ (compareOp CmpOp.NotEq (Value.type "str") (Value.type "str")) _ _ _); (refine Mine.ne_type_same PySem.TypeEq.meta_str ?_)))
local macro_rules | `(tactic| walk_at "call builtin:len") => `(tactic| (k_here; (try dsimp only [List.cons_append, List.nil_append]); (with_reducible show wpAny _ _ (call _ [Value.ref _]) _ _ _); k_dflt (refine' Mine.len_Z ?N ?l ?_ ?z; (case N => k_asm); (case l => first | with_reducible assumption | k_memK); (case z => first | omega | (simp only [List.length_append, List.length_cons, List.length_nil]; omega)); k_whole); intro t' k'))
local macro_rules | `(tactic| walk_at "call builtin:str.encode") => `(tactic| (k_here; (with_reducible show wpAny _ _ (call _ [Value.str _ _, Value.str (Str.ofString "utf-8") _]) _ _ _); k_dflt (refine' Mine.enc_utf8b ?g ?z ?_; (case g => with_reducible assumption); (case z => (rw [sizeLine_eq]; omega))); intro t' k'))
local macro_rules | `(tactic| walk_at "call builtin:list.insert") => `(tactic| (k_here; (try dsimp only [List.cons_append, List.nil_append]); (with_reducible show wpAny _ _ (call (Value.builtin _) [Value.ref _, Value.int 0 _, _]) _ _ _); k_dflt (refine' Mine.insert0_Z ?F ?N ?U ?z ?_; (case F => k_asm); (case N => k_asm); (case U => k_upd); (case z => omega); k_whole); intro h' F' N'; (try k_sweep)))
namespace Mine
open PySem PySem.W PySem.Spec PySem.Calls PyProof.Rows
set_option maxHeartbeats 2000000 in
theorem v64_spec (w : World) (loose : List Str) (mean : ExcName → Option Value) (mg mb : Str → Option Value) (c : Nat) (tc : Tok) :
    Spec2 PySem.Challenge.pw_ko0121_01 w (hd.heap_39 w.params) hd.view_39 loose mean mg mb 55 [.int (c : Int) tc] [] 2 20 (fun _ => True)
      (fun _ r => ∃ t, r = .int (v64 c : Int) t) (fun _ => False) := by
  unfold Spec2
  intro dp un gd cn cs a ccd cl outer A₀ base h₀ L m news s Q E B F X N T hk hdp hun hpre hret hbad
  have kq : (PySem.Challenge.rw_ko0121_01.foot = PySem.Challenge.rw_ko0121_01.foot ∧ hd.heap_39 = hd.heap_39) := by (k_fill; exact ⟨rfl, rfl⟩)
  clear kq
  w_on
  have hMk9 : KstMark := kstMark
  refine wpAny_call ?_
  k_dflt ktr_enter
  k_steps
  all_goals trace_state
  all_goals exact hret _ [] _ _ (by k_asm) (by k_asm) noneAbove ⟨_, intE (by unfold v64; repeat (first | omega | split))⟩
end Mine

namespace Mine
open PySem PySem.W PySem.Spec PySem.Calls PyProof.Rows
local macro_rules | `(tactic| walk_at "c55") => `(tactic| (k_here; (with_reducible show wpAny _ _ (call (Value.ref 55) [Value.int _ _] _) _ _ _); k_dflt (refine' Mine.Spec2.use (Mine.v64_spec _ _ _ _ _ _ _) ?B ?F ?X ?N ?T ?hk ?hd ?hu ?hp ?ret ?bad; (case B => k_asm); (case F => k_asm); (case X => k_asm); (case N => k_asm); (case T => k_asm); (case hk => exact rfl); (case hd => ktr_room); (case hu => ktr_units); (case hp => trivial); k_whole); (case bad => (intro _ _ _ _ _ hb; exact hb.elim)); intro r tl h' tk' F' N' hab hr; obtain ⟨tx9, er⟩ := hr; subst er; replace N' := Mine.dropN N' (fun p hp => List.mem_append.mpr (.inr hp))))
set_option maxHeartbeats 4000000 in
theorem a2b_spec (w : World) (loose : List Str) (mean : ExcName → Option Value) (mg mb : Str → Option Value) (b : Array UInt8) (tb : Tok) (hx : b.size ≤ 400) :
    Spec3 PySem.Challenge.pw_ko0121_01 w (hd.heap_39 w.params) hd.view_39 loose mean mg mb 63 [.bytes b tb] [] 5 30 (fun _ => True)
      (fun _ r => goodA (octs b) = true ∧ ∃ t, r = .bytes (ofOcts (runA (octs b)).2.2.2) t) (BadO (goodA (octs b) = false) 31) := by
  unfold Spec3
  intro dp un gd cn cs a ccd cl outer A₀ base h₀ L m news s Q E B F X N T hk hdp hun hpre hret hbad
  have kq : (PySem.Challenge.rw_ko0121_01.foot = PySem.Challenge.rw_ko0121_01.foot ∧ hd.heap_39 = hd.heap_39) := by (k_fill; exact ⟨rfl, rfl⟩)
  clear kq
  w_on
  have hMk9 : KstMark := kstMark
  have hKd9 : KtsDicts [] h₀ := ktsDicts_nil
  refine wpAny_call ?_
  k_dflt ktr_enter
  k_with "newList" => (refine halt ?_)
  k_with "pyIter bytes" => (refine halt ?_)
  k_steps
  unfold Halt
  k_dflt (refine' newList_K ?k1 ?k2 ?_; (case k1 => k_asm); (case k2 => k_asm))
  intro lo h' F' N' l1
  k_sweep
  k_steps
  k_with_none
  unfold Halt
  (rename Fr _ _ _ _ => lF; rename News _ _ _ _ => lN)
  refine for_bytes (σ := Value × Value × Value × Value × Obj) (fun c => (lo, c.2.2.2.2) :: news) (fun c => [("out", .ref lo), ("quad_pos", c.1), ("leftchar", c.2.1), ("pads", c.2.2.1), ("i", c.2.2.2.1), ("strict_mode", .bool false)])
    (fun i c => ∃ st t1 t2 t3 t4 ii vs nn, st = runA ((octs b).take i) ∧ c.1 = .int (st.1 : Int) t1 ∧ c.2.1 = .int (st.2.1 : Int) t2 ∧ c.2.2.1 = .int (st.2.2.1 : Int) t3 ∧ c.2.2.2.1 = .int ii t4 ∧ c.2.2.2.2 = W.listOf vs.toArray nn ∧ IntsAre vs (zs st.2.2.2)) (_, _, _, _, _) rfl lF lN (by kst_in) (by kst_all) (by exact ⟨(0,0,0,[]), _, _, _, _, _, [], _, rfl, rfl, rfl, rfl, rfl, rfl, .nil⟩) ?_ ?_
  · rintro i k t ⟨v1, v2, v3, v4, o⟩ u h tk own hi hk ⟨⟨qp, lc, pd, out⟩, t1, t2, t3, t4, ii, vs, nn, hst, rfl, rfl, rfl, rfl, rfl, hvs⟩ hoff F' N'
    have hok := runA_ok ((octs b).take i)
    have hnx := runA_snoc ((octs b).take i) k.toNat
    have hle := runA_len ((octs b).take i)
    rw [← octs_take hk] at hnx
    rw [← hst] at hok hnx hle
    obtain ⟨h1, h2⟩ := hok
    have hk8 := k.toNat_lt
    have hv9 := v64_le k.toNat
    dsimp only at *
    clear lF lN
    dsimp only [List.cons_append, List.nil_append] at N'
    have hlv : vs.length ≤ 400 := by rw [hvs.length]; simp only [zs_length, List.length_take, octs_length] at *; omega
    k_with "call ref" => (walk_at "c55")
    k_steps
    k_with_none
    all_goals
      (rename Fr _ _ _ _ => lF; rename News _ _ _ _ => lN)
      first | rw [stepA_pad (by omega)] at hnx | rw [stepA_skip (by omega)] at hnx | rw [stepA_0 (by omega)] at hnx | rw [stepA_1 (by omega)] at hnx | rw [stepA_2 (by omega)] at hnx | rw [stepA_3 (by omega)] at hnx
      refine foEnd lF lN (_, _, _, _, _) (List.forall_mem_cons.mpr ⟨List.Mem.head _, fun p hp => List.mem_cons_of_mem _ (List.mem_append_left _ hp)⟩) (fun p hp => List.mem_cons_of_mem _ (List.mem_append_right _ hp)) hoff (by kst_all) ?_
      first
        | exact ⟨(_, _, _, _), _, _, _, _, _, _, _, hnx.symm, intE (by (try dsimp only) <;> omega), intE (by (try dsimp only) <;> omega), intE (by (try dsimp only) <;> omega), rfl, rfl, hvs⟩
        | exact ⟨(_, _, _, _), _, _, _, _, _, _, _, hnx.symm, intE (by (try dsimp only) <;> omega), intE (by (try dsimp only) <;> omega), intE (by (try dsimp only) <;> omega), rfl, rfl, snocE hvs (by omega)⟩
  · rintro ⟨v1, v2, v3, v4, o⟩ u h tk ⟨⟨qp, lc, pd, out⟩, t1, t2, t3, t4, ii, vs, nn, hst, rfl, rfl, rfl, rfl, rfl, hvs⟩ F' N'
    rw [← octs_length, List.take_length] at hst
    have hok := runA_ok (octs b)
    have hle := runA_len (octs b)
    have hgd : goodA (octs b) = (qp != 1 && (qp == 0 || decide (qp + pd ≥ 4))) := by unfold goodA; rw [← hst]
    have hre : (runA (octs b)).2.2.2 = out := by rw [← hst]
    rw [← hst] at hok hle
    obtain ⟨h1, h2⟩ := hok
    dsimp only at *
    clear lF lN
    have hlv : vs.length ≤ 400 := by rw [hvs.length]; simp only [zs_length, List.length_take, octs_length] at *; omega
    k_steps
    · refine hbad _ _ _ _ ⟨by rw [hgd]; simp; omega, _, _, raisedS_sub (by k_asm) (by intro p hp; kst_mem)⟩ (by k_asm) (by k_asm)
    · refine hbad _ _ _ _ ⟨by rw [hgd]; simp; omega, _, _, raisedS_sub (by k_asm) (by intro p hp; kst_mem)⟩ (by k_asm) (by k_asm)
    · exact hret _ [] _ _ (by k_asm) (dropN (by k_asm) (by intro p hp; kst_mem)) noneAbove ⟨by rw [hgd]; simp; omega, _, by rw [hre]⟩
    · exact hret _ [] _ _ (by k_asm) (dropN (by k_asm) (by intro p hp; kst_mem)) noneAbove ⟨by rw [hgd]; simp; omega, _, by rw [hre]⟩
end Mine

namespace Mine
open PySem PySem.W PySem.Spec PySem.Calls PyProof.Rows
local macro_rules | `(tactic| walk_at "c63") => `(tactic| (k_here; (with_reducible show wpAny _ _ (call (Value.ref 63) [Value.bytes _ _] _) _ _ _); k_dflt (refine' Mine.Spec3.use (Mine.a2b_spec _ _ _ _ _ _ _ ?sz) ?B ?F ?X ?N ?T ?hk ?hd ?hu ?hp ?ret ?bad; (case sz => first | omega | with_reducible assumption); (case B => k_asm); (case F => k_asm); (case X => k_asm); (case N => k_asm); (case T => k_asm); (case hk => exact rfl); (case hd => ktr_room); (case hu => ktr_units); (case hp => trivial); k_whole)))
set_option maxHeartbeats 4000000 in
theorem dec_spec (w : World) (loose : List Str) (mean : ExcName → Option Value) (mg mb : Str → Option Value) (b : Array UInt8) (tb : Tok) (hx : b.size ≤ 400) :
    Spec3 PySem.Challenge.pw_ko0121_01 w (hd.heap_39 w.params) hd.view_39 loose mean mg mb 70 [.bytes b tb] [] 7 40 (fun _ => True)
      (fun _ r => goodA (octs b) = true ∧ ∃ t, r = .bytes (ofOcts (runA (octs b)).2.2.2) t) (BadO (goodA (octs b) = false) 31) := by
  unfold Spec3
  intro dp un gd cn cs a ccd cl outer A₀ base h₀ L m news s Q E B F X N T hk hdp hun hpre hret hbad
  have kq : (PySem.Challenge.rw_ko0121_01.foot = PySem.Challenge.rw_ko0121_01.foot ∧ hd.heap_39 = hd.heap_39) := by (k_fill; exact ⟨rfl, rfl⟩)
  clear kq
  w_on
  have hMk9 : KstMark := kstMark
  have hKd9 : KtsDicts [] h₀ := ktsDicts_nil
  refine wpAny_call ?_
  k_dflt ktr_enter
  k_with "call ref" => (walk_at "c63"; (all_goals refine halt ?_))
  k_steps
  k_with_none
  · unfold Halt
    intro r tl h' tk' F' N' hab hr
    replace N' := dropN N' (fun p hp => List.mem_append.mpr (.inr hp))
    obtain ⟨hgd9, t9, rfl⟩ := hr
    k_steps
    exact hret _ [] _ _ (by k_asm) (by k_asm) noneAbove ⟨hgd9, _, rfl⟩
  · unfold Halt
    intro e' g' h' tk' hB F' U'
    obtain ⟨hgd9, t9, vs9, R9⟩ := hB
    k_steps
    exact hbad _ _ _ _ ⟨hgd9, _, _, raisedS_sub (by k_asm) (by intro p hp; kst_mem)⟩ (by k_asm) (by k_asm)
set_option maxHeartbeats 4000000 in
theorem decS_spec (w : World) (loose : List Str) (mean : ExcName → Option Value) (mg mb : Str → Option Value) (x : Str) (tx : Tok) (hg : ∀ k ∈ x.cps.toList, Str.isSurrogate k = false) (hx : (SE.enc Str.utf8Of x).size ≤ 400) :
    Spec3 PySem.Challenge.pw_ko0121_01 w (hd.heap_39 w.params) hd.view_39 loose mean mg mb 70 [.str x tx] [] 7 40 (fun _ => True)
      (fun _ r => goodA (octs (SE.enc Str.utf8Of x)) = true ∧ ∃ t, r = .bytes (ofOcts (runA (octs (SE.enc Str.utf8Of x))).2.2.2) t) (BadO (goodA (octs (SE.enc Str.utf8Of x)) = false) 31) := by
  unfold Spec3
  intro dp un gd cn cs a ccd cl outer A₀ base h₀ L m news s Q E B F X N T hk hdp hun hpre hret hbad
  have kq : (PySem.Challenge.rw_ko0121_01.foot = PySem.Challenge.rw_ko0121_01.foot ∧ hd.heap_39 = hd.heap_39) := by (k_fill; exact ⟨rfl, rfl⟩)
  clear kq
  w_on
  have hMk9 : KstMark := kstMark
  have hKd9 : KtsDicts [] h₀ := ktsDicts_nil
  refine wpAny_call ?_
  k_dflt ktr_enter
  k_with "call ref" => (walk_at "c63"; (all_goals refine halt ?_))
  k_steps
  dsimp only
  refine Mine.enc_utf8b hg (by rw [sizeLine_eq]; omega) ?_
  intro t' k'
  k_steps
  k_with_none
  · unfold Halt
    intro r tl h' tk' F' N' hab hr
    replace N' := dropN N' (fun p hp => List.mem_append.mpr (.inr hp))
    obtain ⟨hgd9, t9, rfl⟩ := hr
    k_steps
    exact hret _ [] _ _ (by k_asm) (by k_asm) noneAbove ⟨hgd9, _, rfl⟩
  · unfold Halt
    intro e' g' h' tk' hB F' U'
    obtain ⟨hgd9, t9, vs9, R9⟩ := hB
    k_steps
    exact hbad _ _ _ _ ⟨hgd9, _, _, raisedS_sub (by k_asm) (by intro p hp; kst_mem)⟩ (by k_asm) (by k_asm)
end Mine

namespace Mine
open PySem PySem.W PySem.Spec PySem.Calls PyProof.Rows
local macro_rules | `(tactic| walk_at "c70") => `(tactic| (k_here; (with_reducible show wpAny _ _ (call (Value.ref 70) [Value.bytes _ _] _) _ _ _); k_dflt (refine' Mine.Spec3.use (Mine.dec_spec _ _ _ _ _ _ _ ?sz) ?B ?F ?X ?N ?T ?hk ?hd ?hu ?hp ?ret ?bad; (case sz => first | omega | with_reducible assumption); (case B => k_asm); (case F => k_asm); (case X => k_asm); (case N => k_asm); (case T => k_asm); (case hk => exact rfl); (case hd => ktr_room); (case hu => ktr_units); (case hp => trivial); k_whole)))
local macro_rules | `(tactic| walk_at "c70") => `(tactic| (k_here; (with_reducible show wpAny _ _ (call (Value.ref 70) [Value.str _ _] _) _ _ _); k_dflt (refine' Mine.Spec3.use (Mine.decS_spec _ _ _ _ _ _ _ ?sg ?sz) ?B ?F ?X ?N ?T ?hk ?hd ?hu ?hp ?ret ?bad; (case sg => with_reducible assumption); (case sz => first | omega | with_reducible assumption); (case B => k_asm); (case F => k_asm); (case X => k_asm); (case N => k_asm); (case T => k_asm); (case hk => exact rfl); (case hd => ktr_room); (case hu => ktr_units); (case hp => trivial); k_whole)))
set_option maxHeartbeats 4000000 in
theorem told_spec (w : World) (loose : List Str) (mean : ExcName → Option Value) (mg mb : Str → Option Value) (b : Array UInt8) (tb : Tok) (hx : b.size ≤ 400) :
    Spec4 PySem.Challenge.pw_ko0121_01 w (hd.heap_39 w.params) hd.view_39 loose mean mg mb 77 [.bytes b tb] [] 9 50
      (fun r => (goodA (octs b) = true ∧ ∃ t, r = .bytes (ofOcts (runA (octs b)).2.2.2) t) ∨ (goodA (octs b) = false ∧ ∃ t, r = .str (Str.ofString "ValueError") t)) := by
  unfold Spec4
  intro dp un gd cn cs a ccd A₀ h₀ L m news s Q E B F X N T hk hdp hun hret
  have kq : (PySem.Challenge.rw_ko0121_01.foot = PySem.Challenge.rw_ko0121_01.foot ∧ hd.heap_39 = hd.heap_39) := by (k_fill; exact ⟨rfl, rfl⟩)
  clear kq
  w_on
  have hMk9 : KstMark := kstMark
  refine wpAny_call ?_
  k_dflt (refine' code_defS0 ?k1 ?k2 ?k3 ?k4 ?k5 ?kA ?k6 ?k7 ?k8 ?k9 ?kB ?_ ?cK ?c2 ?c3 ?c4 ?c5; (case kA => exact rfl); (case k2 => k_asm); (case k1 => k_asm); (case k3 => k_asm); (case k4 => k_asm); (case k5 => k_asm); (case k6 => k_is); (case k7 => k_is); (case k8 => ktr_room); (case k9 => exact BindsTo.of_eq rfl); (case kB => exact locs rfl); (case cK => assumption); (case c2 => exact rfl); (case c3 => exact rfl); (case c4 => exact rfl); (case c5 => decide); k_whole; intro g' L' h' FG' F' N' B' X' T' D'; (try dsimp only); (try k_fold))
  k_with "call ref" => (walk_at "c70"; (all_goals refine halt ?_))
  k_steps
  k_with_none
  · unfold Halt
    intro r tl h' tk' F' N' hab hr
    replace N' := dropN N' (fun p hp => List.mem_append.mpr (.inr hp))
    obtain ⟨hgd9, t9, rfl⟩ := hr
    k_steps
    exact hret _ _ _ (by k_asm) (by k_asm) (.inl ⟨hgd9, _, rfl⟩)
  · unfold Halt
    intro e' g' h' tk' hB F' U'
    obtain ⟨hgd9, t9, vs9, R9⟩ := hB
    k_steps
    exact hret _ _ _ (by k_asm) (by k_asm) (.inr ⟨hgd9, _, rfl⟩)
set_option maxHeartbeats 4000000 in
theorem toldS_spec (w : World) (loose : List Str) (mean : ExcName → Option Value) (mg mb : Str → Option Value) (x : Str) (tx : Tok) (hg : ∀ k ∈ x.cps.toList, Str.isSurrogate k = false) (hx : (SE.enc Str.utf8Of x).size ≤ 400) :
    Spec4 PySem.Challenge.pw_ko0121_01 w (hd.heap_39 w.params) hd.view_39 loose mean mg mb 77 [.str x tx] [] 9 50
      (fun r => (goodA (octs (SE.enc Str.utf8Of x)) = true ∧ ∃ t, r = .bytes (ofOcts (runA (octs (SE.enc Str.utf8Of x))).2.2.2) t) ∨ (goodA (octs (SE.enc Str.utf8Of x)) = false ∧ ∃ t, r = .str (Str.ofString "ValueError") t)) := by
  unfold Spec4
  intro dp un gd cn cs a ccd A₀ h₀ L m news s Q E B F X N T hk hdp hun hret
  have kq : (PySem.Challenge.rw_ko0121_01.foot = PySem.Challenge.rw_ko0121_01.foot ∧ hd.heap_39 = hd.heap_39) := by (k_fill; exact ⟨rfl, rfl⟩)
  clear kq
  w_on
  have hMk9 : KstMark := kstMark
  refine wpAny_call ?_
  k_dflt (refine' code_defS0 ?k1 ?k2 ?k3 ?k4 ?k5 ?kA ?k6 ?k7 ?k8 ?k9 ?kB ?_ ?cK ?c2 ?c3 ?c4 ?c5; (case kA => exact rfl); (case k2 => k_asm); (case k1 => k_asm); (case k3 => k_asm); (case k4 => k_asm); (case k5 => k_asm); (case k6 => k_is); (case k7 => k_is); (case k8 => ktr_room); (case k9 => exact BindsTo.of_eq rfl); (case kB => exact locs rfl); (case cK => assumption); (case c2 => exact rfl); (case c3 => exact rfl); (case c4 => exact rfl); (case c5 => decide); k_whole; intro g' L' h' FG' F' N' B' X' T' D'; (try dsimp only); (try k_fold))
  k_with "call ref" => (walk_at "c70"; (all_goals refine halt ?_))
  k_steps
  k_with_none
  · unfold Halt
    intro r tl h' tk' F' N' hab hr
    replace N' := dropN N' (fun p hp => List.mem_append.mpr (.inr hp))
    obtain ⟨hgd9, t9, rfl⟩ := hr
    k_steps
    exact hret _ _ _ (by k_asm) (by k_asm) (.inl ⟨hgd9, _, rfl⟩)
  · unfold Halt
    intro e' g' h' tk' hB F' U'
    obtain ⟨hgd9, t9, vs9, R9⟩ := hB
    k_steps
    exact hret _ _ _ (by k_asm) (by k_asm) (.inr ⟨hgd9, _, rfl⟩)
end Mine

namespace Mine
open PySem PySem.W PySem.Spec PySem.Calls PyProof.Rows
local macro_rules | `(tactic| walk_at "binaryOp Pow int int") => `(tactic| (k_here; with_reducible refine' Mine.pow2I ?z ?_; (case z => omega); intro pz t' k' hpe hp1 hp2))
set_option maxHeartbeats 4000000 in
theorem due_spec (w : World) (loose : List Str) (mean : ExcName → Option Value) (mg mb : Str → Option Value) (l : Addr) (vs : List Value) (nn : Nat) (V : List Nat) (hV : IntsAre vs (zs V)) (hlen : V.length ≤ 100) :
    Spec3 PySem.Challenge.pw_ko0121_01 w (hd.heap_39 w.params) hd.view_39 loose mean mg mb 84 [.ref l] [] 3 30 (fun news => (l, W.listOf vs.toArray nn) ∈ news)
      (fun _ r => ∃ t, r = .bytes (ofOcts (dueL V)) t) (fun _ _ _ _ _ _ => False) := by
  unfold Spec3
  intro dp un gd cn cs a ccd cl outer A₀ base h₀ L m news s Q E B F X N T hk hdp hun hpre hret hbad
  have kq : (PySem.Challenge.rw_ko0121_01.foot = PySem.Challenge.rw_ko0121_01.foot ∧ hd.heap_39 = hd.heap_39) := by (k_fill; exact ⟨rfl, rfl⟩)
  clear kq
  w_on
  have hMk9 : KstMark := kstMark
  refine wpAny_call ?_
  k_dflt ktr_enter
  k_with "pyIter ref" => (refine halt ?_)
  k_with "call builtin:len" => (refine halt ?_)
  k_steps
  unfold Halt
  have hvl := hV.length
  rw [zs_length] at hvl
  (rename Fr _ _ _ _ => lF; rename News _ _ _ _ => lN)
  refine for_listK (σ := Value) news (fun c => []) (fun c => [("number", c), ("values", .ref l)])
    (fun i c => ∃ t, c = .int (num64 (V.take i) : Int) t) _ rfl hpre (by exact fun _ h => nomatch h) lF lN (by exact fun _ h => nomatch h) (by exact fun _ h => h) (by kst_all) (by exact ⟨_, rfl⟩) ?_ ?_
  · rintro i v c u h tk own hi hv ⟨t, rfl⟩ hoff hown F' N'
    obtain ⟨z, tz, rfl, hz⟩ := hV.at i v hv
    have hz2 : ∃ k : Nat, z = (k : Int) ∧ V[i]? = some k := by
      unfold zs at hz
      rw [List.getElem?_map] at hz
      cases hVi : V[i]? with
      | none => rw [hVi] at hz; cases hz
      | some k => rw [hVi] at hz; exact ⟨k, (Option.some.inj hz).symm, rfl⟩
    obtain ⟨k, rfl, hk2⟩ := hz2
    have hsn : num64 (V.take (i + 1)) = num64 (V.take i) * 64 + k := by rw [List.take_add_one, hk2]; exact num64_snoc _ _
    dsimp only at *
    clear lF lN
    dsimp only [List.cons_append, List.nil_append] at N'
    k_steps
    (rename Fr _ _ _ _ => lF; rename News _ _ _ _ => lN)
    exact fkEnd lF lN _ (by exact fun _ h => nomatch h) (by exact fun p hp => List.mem_append_left _ hp) (by exact fun p hp => List.mem_append_right _ hp) hoff (by kst_all) ⟨_, intE (by rw [hsn]; omega)⟩
  · rintro c u h tk ⟨t, rfl⟩ F' N'
    rw [hvl, List.take_length] at F'
    dsimp only at *
    clear lF lN
    dsimp only [List.nil_append] at N'
    k_with_none
    k_with "newList" => (refine halt ?_)
    k_steps
    unfold Halt
    k_dflt (refine' newList_K ?k1 ?k2 ?_; (case k1 => k_asm); (case k2 => k_asm))
    intro lo h' F' N' l1
    k_sweep
    k_with "pyIter ref" => (refine halt ?_)
    k_steps
    k_with_none
    unfold Halt
    (rename Fr _ _ _ _ => lF; rename News _ _ _ _ => lN; rename IsRange _ _ _ _ _ _ _ _ => lR; rename _ ≤ 64 => hp2; rename _ = 2 ^ _ => hpe; rename 1 ≤ _ => hp1)
    obtain ⟨NN, hNN⟩ : ∃ NN : Nat, NN = num64 V / 2 ^ (6 * V.length - 8 * (V.length * 3 / 4)) := ⟨_, rfl⟩
    refine for_range (σ := Obj × Value) (V.length * 3 / 4) (fun c => (lo, c.1) :: news) (fun c => [("number", c.2), ("octets", .ref lo)])
      (fun i c => ∃ us kk t, c.1 = W.listOf us.toArray kk ∧ c.2 = .int ((NN / 256 ^ i : Nat) : Int) t ∧ IntsAre us (zs (octL i NN))) (_, _) rfl lR (by rw [rangeSize_one]; split <;> omega) lF lN (by exact fun _ h => h) (by kst_all) ⟨[], 0, _, rfl, intE (by
        rw [hNN, hpe, hvl, Nat.pow_zero, Nat.div_one]
        have e : (6 * (V.length : Int) - 8 * ((V.length : Int) * 3 / 4)).toNat = 6 * V.length - 8 * (V.length * 3 / 4) := by omega
        rw [e]
        rfl), .nil⟩ ?_ ?_
    · rintro i t ⟨c1, c2⟩ u h tk own hi ⟨us, kk, t9, rfl, rfl, hus⟩ hoff F' N'
      have hul := hus.length
      rw [zs_length, octL_length] at hul
      dsimp only at *
      dsimp only [List.cons_append, List.nil_append] at N'
      clear lF lN
      k_steps
      (rename Fr _ _ _ _ => lF; rename News _ _ _ _ => lN)
      exact foEnd lF lN (_, _) (List.forall_mem_cons.mpr ⟨List.Mem.head _, fun p hp => List.mem_cons_of_mem _ (List.mem_append_left _ hp)⟩) (fun p hp => List.mem_cons_of_mem _ (List.mem_append_right _ hp)) hoff (by kst_all) ⟨_, _, _, rfl, intE (by rw [Nat.pow_succ, ← Nat.div_div_eq_div_mul]; omega), consE hus (by omega)⟩
    · rintro ⟨c1, c2⟩ u h tk ⟨us, kk, t9, rfl, rfl, hus⟩ F' N'
      have hul := hus.length
      rw [zs_length, octL_length] at hul
      have hoc := octL_lt (V.length * 3 / 4) NN
      dsimp only at *
      clear lF lN
      k_steps
      exact hret _ [] _ _ (by k_asm) (dropN (by k_asm) (by intro p hp; kst_mem)) noneAbove ⟨_, by rw [hNN]; rfl⟩
end Mine

open PySem PySem.W PySem.Spec PySem.Calls PyProof.Rows
local macro_rules | `(tactic| walk_at "TwoPost") => `(tactic| dsimp only [Mine.TwoPost])
local macro_rules | `(tactic| walk_at "call builtin:len") => `(tactic| (k_here; (try dsimp only [List.cons_append, List.nil_append]); (with_reducible show wpAny _ _ (call _ [Value.ref _]) _ _ _); k_dflt (refine' Mine.len_Z1 ?N ?l ?_ ?z; (case N => k_asm); (case l => k_memK); (case z => omega); k_whole); intro t' k'))
local macro_rules | `(tactic| walk_at "c77") => `(tactic| (k_here; (with_reducible show wpAny _ _ (call (Value.ref 77) [Value.str _ _] _) _ _ _); k_dflt (refine' Mine.Spec4.use (Mine.toldS_spec _ _ _ _ _ _ _ ?sg ?sz) ?B ?F ?X ?N ?T ?hk ?hd ?hu ?ret; (case sg => with_reducible assumption); (case sz => with_reducible assumption); (case B => k_asm); (case F => k_asm); (case X => k_asm); (case N => k_asm); (case T => k_asm); (case hk => exact rfl); (case hd => ktr_room); (case hu => ktr_units); k_whole); intro r h' tk' F' N' hr; (first | (obtain ⟨t9, er⟩ := Mine.toldGood hr (by with_reducible assumption); subst er; clear hr) | (obtain ⟨t9, er⟩ := Mine.toldBad hr (by with_reducible assumption); subst er; clear hr))))
local macro_rules | `(tactic| walk_at "c77") => `(tactic| (k_here; (with_reducible show wpAny _ _ (call (Value.ref 77) [Value.bytes _ _] _) _ _ _); k_dflt (refine' Mine.Spec4.use (Mine.told_spec _ _ _ _ _ _ _ ?sz) ?B ?F ?X ?N ?T ?hk ?hd ?hu ?ret; (case sz => with_reducible assumption); (case B => k_asm); (case F => k_asm); (case X => k_asm); (case N => k_asm); (case T => k_asm); (case hk => exact rfl); (case hd => ktr_room); (case hu => ktr_units); k_whole); intro r h' tk' F' N' hr; (first | (obtain ⟨t9, er⟩ := Mine.toldGood hr (by with_reducible assumption); subst er; clear hr) | (obtain ⟨t9, er⟩ := Mine.toldBad hr (by with_reducible assumption); subst er; clear hr))))
local macro_rules | `(tactic| walk_at "c84") => `(tactic| (k_here; (with_reducible show wpAny _ _ (call (Value.ref 84) [Value.ref _] _) _ _ _); k_dflt (refine' Mine.Spec3.use (Mine.due_spec _ _ _ _ _ _ _ _ _ ?hV ?hl) ?B ?F ?X ?N ?T ?hk ?hd ?hu ?hp ?ret ?bad; (case B => k_asm); (case F => k_asm); (case X => k_asm); (case N => k_asm); (case T => k_asm); (case hk => exact rfl); (case hd => ktr_room); (case hu => ktr_units); (case hp => k_memK); (case hV => first | with_reducible assumption | exact Mine.snocE (by with_reducible assumption) rfl); (case hl => first | omega | (simp only [List.length_append, List.length_cons, List.length_nil]; omega)); k_whole); (case bad => (intro _ _ _ _ hb; exact hb.elim)); intro r tl h' tk' F' N' hab hr; obtain ⟨t9, er⟩ := hr; subst er; replace N' := Mine.dropN N' (fun p hp => List.mem_append.mpr (.inr hp))))
set_option maxHeartbeats 8000000 in
theorem PySem.Challenge.cw_ko0121_01_holds : PySem.Challenge.rw_ko0121_01.Holds := by
  exact hd (by
  k_go0
  (all_goals try k_fold)
  k_with "pyIter ref" => (refine Mine.halt ?_)
  k_steps
  k_with_none
  unfold Mine.Halt
  (rename Fr _ _ _ _ => lF; rename News _ _ _ _ => lN; rename IntsAre _ _ => hI; rename ¬ (_ < (_ : Int)) => hlen; rename Heap.IsList _ _ _ => hL; rename List Value => vs; rename IntsAre vs _ => hI)
  have hlen2 := IntsAre.length hI
  rename List Int => ns
  refine Mine.for_two [("alphabet", .str (Str.ofString "ABCDEFGHIJKLMNOPQRSTUVWXYZabcdefghijklmnopqrstuvwxyz0123456789+/") _), ("script", .ref _)] (fun x o => ∃ us nn V, o = W.listOf us.toArray nn ∧ IntsAre us (Mine.zs V) ∧ Mine.Sg x.cps.toList V ∧ V.length ≤ 2 ∧ x.length ≤ 2)
    rfl lF lN (by omega) (by omega) (by omega) (by omega) (by kst_all) ?_ ?_ ?_ ?_
  · exact ⟨[], 0, [], rfl, .nil, by rw [show (Str.ofString "").cps.toList = [] by decide]; exact .nil, by decide, by decide⟩
  · exact ⟨_, _, [0, 16], rfl, .cons _ _ (.cons _ _ .nil), by
      rw [show (Str.ofString "AQ").cps.toList = ([] ++ [Mine.sgn 0]) ++ [Mine.sgn 16] by decide +kernel]
      exact .sign (V := [] ++ [0]) (.sign .nil (by decide)) (by decide), by decide, by decide⟩
  · rintro T cur oth x0 t0 oc oo own u h tk ⟨us0, nn0, V0, rfl, hus0, hsg0, hV0, hx0⟩ n1 n2 n3 hoff0 F' N'
    clear lF lN
    k_with "pyIter ref" => (refine Mine.halt ?_)
    k_steps
    k_with_none
    unfold Mine.Halt
    (rename Fr _ _ _ _ => lF; rename News _ _ _ _ => lN)
    refine Mine.for_list (σ := Obj × Value) (fun c => (cur, c.1) :: (T, { cls := Value.type "tuple", data := Data.seq #[Value.str x0 t0, Value.ref cur] }) :: (oth, oo) :: own) (fun c => [("text", c.2), ("values", .ref cur), ("alphabet", .str (Str.ofString "ABCDEFGHIJKLMNOPQRSTUVWXYZabcdefghijklmnopqrstuvwxyz0123456789+/") _), ("script", .ref _)])
      Mine.InvT (W.listOf us0.toArray nn0, .str x0 t0) rfl hL lF lN (fun p hp => Mine.swapM hp) (by kst_all) (by exact ⟨_, _, _, _, _, rfl, rfl, hus0, hsg0, hV0, hx0⟩) ?_ ?_
    · rintro i v ⟨c1, c2⟩ u h tk own2 hi hv ⟨us, nn, V, x, t, rfl, rfl, hus, hsg, hVl, hxl⟩ hoff F' N'
      obtain ⟨z, tz, rfl, hz⟩ := IntsAre.at hI i v hv
      have hul := hus.length
      rw [Mine.zs_length] at hul
      dsimp only at *
      dsimp only [List.cons_append, List.nil_append] at N'
      clear lF lN
      k_steps
      all_goals (
        (rename Fr _ _ _ _ => lF; rename News _ _ _ _ => lN)
        refine Mine.foEnd lF lN (_, _) (List.forall_mem_cons.mpr ⟨List.Mem.head _, fun p hp => List.mem_cons_of_mem _ (Mine.tailM hp)⟩) (fun p hp => Mine.endM hp) (by exact hoff) (by kst_all) ?_
        clear lF lN)
      all_goals first
        | exact Mine.inv_ten hus hsg hVl hxl
        | exact Mine.inv_sign hus hsg hVl hxl (by omega)
        | exact Mine.inv_code hus hsg hVl hxl (by assumption) (by omega) (by omega)
    · rintro ⟨c1, c2⟩ u h tk ⟨us, nn, V, x, t, rfl, rfl, hus, hsg, hVl, hxl⟩ F' N'
      have hul := hus.length
      rw [Mine.zs_length] at hul
      dsimp only at *
      clear lF lN
      k_with "call ref" => (refine Mine.halt ?_)
      k_steps
      k_with_none
      · unfold Mine.Halt
        rename _ = (1 : Int) => h1
        have hsA := Mine.sg_A hsg
        have hVA : (V ++ [0]).length = V.length + 1 := by simp
        have hxA : (x ++ Str.ofString "A").length = x.length + 1 := Mine.str_catlen _ _
        have hw1 := Mine.pad_surr (n := -((us.length + 1 : Nat) : Int) % 4) hsA (by omega)
        have hw2 := Mine.pad_size (x := x ++ Str.ofString "A") (n := -((us.length + 1 : Nat) : Int) % 4) (by omega) (by omega)
        have hw3 := Mine.pad_good (n := -((us.length + 1 : Nat) : Int) % 4) hsA (by omega) (by omega)
        have hb1 := Mine.pad_surr (n := -((us.length + 1 : Nat) : Int) % 4 - 1) hsA (by omega)
        have hb2 := Mine.pad_size (x := x ++ Str.ofString "A") (n := -((us.length + 1 : Nat) : Int) % 4 - 1) (by omega) (by omega)
        have hb3 := Mine.pad_bad (n := -((us.length + 1 : Nat) : Int) % 4 - 1) hsA (by omega) (by omega) (by omega)
        k_with_none
        walk_at "c77"
        k_with "call ref" => (walk_at "c84")
        k_with "call ref" => (walk_at "c77")
        k_with "pyIter ref" => (refine Mine.halt ?_)
        k_steps
        unfold Mine.Halt
        (rename Fr _ _ _ _ => lF; rename News _ _ _ _ => lN)
        refine Mine.for_listK (σ := Unit) _ (fun c => []) (fun c => [("values", .ref cur), ("broken", .str _ _), ("alphabet", .str (Str.ofString "ABCDEFGHIJKLMNOPQRSTUVWXYZabcdefghijklmnopqrstuvwxyz0123456789+/") _), ("script", .ref _)]) (fun i c => True) () rfl (List.Mem.head _) (fun _ h => nomatch h) lF lN (fun _ h => nomatch h) (fun p hp => List.mem_cons_of_mem _ hp) (by kst_all) trivial ?_ ?_
        · rintro i v _ u h tk own3 hi hv _ hoff3 hown3 F' N'
          obtain ⟨t9, rfl⟩ := Mine.two_same hv
          dsimp only [List.nil_append, List.cons_append] at N'
          clear lF lN
          k_steps
          (rename Fr _ _ _ _ => lF; rename News _ _ _ _ => lN)
          exact Mine.fkEnd lF lN () (fun _ h => nomatch h) (fun p hp => Mine.tailM3 hp) (fun p hp => Mine.endM hp) (by exact hoff3) (by kst_all) trivial
        · rintro _ u h tk _ F' N'
          dsimp only [List.nil_append, List.cons_append] at N'
          clear lF lN
          k_steps
          unfold Mine.Halt
          (rename Fr _ _ _ _ => lF; rename News _ _ _ _ => lN)
          refine Mine.for_listK (σ := Unit) _ (fun c => []) (fun c => [("alphabet", .str (Str.ofString "ABCDEFGHIJKLMNOPQRSTUVWXYZabcdefghijklmnopqrstuvwxyz0123456789+/") _), ("script", .ref _)]) (fun i c => True) () rfl (List.Mem.head _) (fun _ h => nomatch h) lF lN (fun _ h => nomatch h) (fun p hp => List.mem_cons_of_mem _ hp) (by kst_all) trivial ?_ ?_
          · rintro i v _ u h tk own3 hi hv _ hoff3 hown3 F' N'
            obtain ⟨t9, rfl⟩ := Mine.two_sameS hv
            dsimp only [List.nil_append, List.cons_append] at N'
            clear lF lN
            k_steps
            (rename Fr _ _ _ _ => lF; rename News _ _ _ _ => lN)
            exact Mine.fkEnd lF lN () (fun _ h => nomatch h) (fun p hp => Mine.tailM3 hp) (fun p hp => Mine.endM hp) (by exact hoff3) (by kst_all) trivial
          · rintro _ u h tk _ F' N'
            dsimp only [List.nil_append, List.cons_append] at N'
            clear lF lN
            k_steps
            (rename Fr _ _ _ _ => lF; rename News _ _ _ _ => lN)
            exact Mine.twoEnd lF lN _ (List.Mem.head _) (fun p hp => List.mem_cons_of_mem _ hp) (by kst_all)
      · unfold Mine.Halt
        rename ¬ _ = (1 : Int) => h1
        have hw1 := Mine.pad_surr (n := -(us.length : Int) % 4) hsg (by omega)
        have hw2 := Mine.pad_size (x := x) (n := -(us.length : Int) % 4) (by omega) (by omega)
        have hw3 := Mine.pad_good (n := -(us.length : Int) % 4) hsg (by omega) (by omega)
        have hb1 := Mine.pad_surr (n := -(us.length : Int) % 4 - 1) hsg (by omega)
        have hb2 := Mine.pad_size (x := x) (n := -(us.length : Int) % 4 - 1) (by omega) (by omega)
        have hb3 := Mine.pad_bad (n := -(us.length : Int) % 4 - 1) hsg (by omega) (by omega) (by omega)
        k_with_none
        walk_at "c77"
        k_with "call ref" => (walk_at "c84")
        k_with "call ref" => (walk_at "c77")
        k_with "pyIter ref" => (refine Mine.halt ?_)
        k_steps
        unfold Mine.Halt
        (rename Fr _ _ _ _ => lF; rename News _ _ _ _ => lN)
        refine Mine.for_listK (σ := Unit) _ (fun c => []) (fun c => [("values", .ref cur), ("broken", .str _ _), ("alphabet", .str (Str.ofString "ABCDEFGHIJKLMNOPQRSTUVWXYZabcdefghijklmnopqrstuvwxyz0123456789+/") _), ("script", .ref _)]) (fun i c => True) () rfl (List.Mem.head _) (fun _ h => nomatch h) lF lN (fun _ h => nomatch h) (fun p hp => List.mem_cons_of_mem _ hp) (by kst_all) trivial ?_ ?_
        · rintro i v _ u h tk own3 hi hv _ hoff3 hown3 F' N'
          obtain ⟨t9, rfl⟩ := Mine.two_same hv
          dsimp only [List.nil_append, List.cons_append] at N'
          clear lF lN
          k_steps
          (rename Fr _ _ _ _ => lF; rename News _ _ _ _ => lN)
          exact Mine.fkEnd lF lN () (fun _ h => nomatch h) (fun p hp => Mine.tailM3 hp) (fun p hp => Mine.endM hp) (by exact hoff3) (by kst_all) trivial
        · rintro _ u h tk _ F' N'
          dsimp only [List.nil_append, List.cons_append] at N'
          clear lF lN
          k_steps
          unfold Mine.Halt
          (rename Fr _ _ _ _ => lF; rename News _ _ _ _ => lN)
          refine Mine.for_listK (σ := Unit) _ (fun c => []) (fun c => [("alphabet", .str (Str.ofString "ABCDEFGHIJKLMNOPQRSTUVWXYZabcdefghijklmnopqrstuvwxyz0123456789+/") _), ("script", .ref _)]) (fun i c => True) () rfl (List.Mem.head _) (fun _ h => nomatch h) lF lN (fun _ h => nomatch h) (fun p hp => List.mem_cons_of_mem _ hp) (by kst_all) trivial ?_ ?_
          · rintro i v _ u h tk own3 hi hv _ hoff3 hown3 F' N'
            obtain ⟨t9, rfl⟩ := Mine.two_sameS hv
            dsimp only [List.nil_append, List.cons_append] at N'
            clear lF lN
            k_steps
            (rename Fr _ _ _ _ => lF; rename News _ _ _ _ => lN)
            exact Mine.fkEnd lF lN () (fun _ h => nomatch h) (fun p hp => Mine.tailM3 hp) (fun p hp => Mine.endM hp) (by exact hoff3) (by kst_all) trivial
          · rintro _ u h tk _ F' N'
            dsimp only [List.nil_append, List.cons_append] at N'
            clear lF lN
            k_steps
            (rename Fr _ _ _ _ => lF; rename News _ _ _ _ => lN)
            exact Mine.twoEnd lF lN _ (List.Mem.head _) (fun p hp => List.mem_cons_of_mem _ hp) (by kst_all)
      · unfold Mine.Halt
        rename ¬ _ = (1 : Int) => h1
        have hw1 := Mine.pad_surr (n := -(us.length : Int) % 4) hsg (by omega)
        have hw2 := Mine.pad_size (x := x) (n := -(us.length : Int) % 4) (by omega) (by omega)
        have hw3 := Mine.pad_good (n := -(us.length : Int) % 4) hsg (by omega) (by omega)
        have hb1 := Mine.one_surr hsg
        have hb2 := Mine.one_size (x := x) (by omega)
        have hb3 := Mine.one_bad hsg (by omega)
        k_with_none
        walk_at "c77"
        k_with "call ref" => (walk_at "c84")
        k_with "call ref" => (walk_at "c77")
        k_with "pyIter ref" => (refine Mine.halt ?_)
        k_steps
        unfold Mine.Halt
        (rename Fr _ _ _ _ => lF; rename News _ _ _ _ => lN)
        refine Mine.for_listK (σ := Unit) _ (fun c => []) (fun c => [("values", .ref cur), ("broken", .str _ _), ("alphabet", .str (Str.ofString "ABCDEFGHIJKLMNOPQRSTUVWXYZabcdefghijklmnopqrstuvwxyz0123456789+/") _), ("script", .ref _)]) (fun i c => True) () rfl (List.Mem.head _) (fun _ h => nomatch h) lF lN (fun _ h => nomatch h) (fun p hp => List.mem_cons_of_mem _ hp) (by kst_all) trivial ?_ ?_
        · rintro i v _ u h tk own3 hi hv _ hoff3 hown3 F' N'
          obtain ⟨t9, rfl⟩ := Mine.two_same hv
          dsimp only [List.nil_append, List.cons_append] at N'
          clear lF lN
          k_steps
          (rename Fr _ _ _ _ => lF; rename News _ _ _ _ => lN)
          exact Mine.fkEnd lF lN () (fun _ h => nomatch h) (fun p hp => Mine.tailM3 hp) (fun p hp => Mine.endM hp) (by exact hoff3) (by kst_all) trivial
        · rintro _ u h tk _ F' N'
          dsimp only [List.nil_append, List.cons_append] at N'
          clear lF lN
          k_steps
          unfold Mine.Halt
          (rename Fr _ _ _ _ => lF; rename News _ _ _ _ => lN)
          refine Mine.for_listK (σ := Unit) _ (fun c => []) (fun c => [("alphabet", .str (Str.ofString "ABCDEFGHIJKLMNOPQRSTUVWXYZabcdefghijklmnopqrstuvwxyz0123456789+/") _), ("script", .ref _)]) (fun i c => True) () rfl (List.Mem.head _) (fun _ h => nomatch h) lF lN (fun _ h => nomatch h) (fun p hp => List.mem_cons_of_mem _ hp) (by kst_all) trivial ?_ ?_
          · rintro i v _ u h tk own3 hi hv _ hoff3 hown3 F' N'
            obtain ⟨t9, rfl⟩ := Mine.two_sameS hv
            dsimp only [List.nil_append, List.cons_append] at N'
            clear lF lN
            k_steps
            (rename Fr _ _ _ _ => lF; rename News _ _ _ _ => lN)
            exact Mine.fkEnd lF lN () (fun _ h => nomatch h) (fun p hp => Mine.tailM3 hp) (fun p hp => Mine.endM hp) (by exact hoff3) (by kst_all) trivial
          · rintro _ u h tk _ F' N'
            dsimp only [List.nil_append, List.cons_append] at N'
            clear lF lN
            k_steps
            (rename Fr _ _ _ _ => lF; rename News _ _ _ _ => lN)
            exact Mine.twoEnd lF lN _ (List.Mem.head _) (fun p hp => List.mem_cons_of_mem _ hp) (by kst_all)
  · rintro u h tk F' N'
    clear lF lN
    k_steps
    )

