import PyProof.Rows.All
import Wide.All
import OpenK.AllK
import Wide.FinOn
import PySem.Challenge.RW_ko0121_09
set_option compiler.extract_closed false
set_option Elab.async false
set_option maxRecDepth 100000
open PySem PySem.W PySem.Spec PySem.Calls PyProof.Rows
namespace Mine
def keepAt (is : List Nat) (l : List PySem.Stmt) : List PySem.Stmt := is.filterMap fun i => l[i]?
def view : PySem.Program := { PySem.Challenge.pw_ko0121_09 with main := { (PySem.Challenge.pw_ko0121_09).main with body := keepAt [0, 2, 3, 4, 5, 8, 9, 11, 12] (PySem.Challenge.pw_ko0121_09).main.body } }
end Mine
local macro_rules | `(tactic| o_head $H) => do
  let hw := Lean.mkIdent `hw
  let hc := Lean.mkIdent `hc
  `(tactic| (refine holds_open (q := Mine.view) (loose := [PySem.Str.ofString "a2b_base64"]) (Xt := fun s => xlAt Mine.view [] s && recOk (RowW.records (OpenRow.toRowW (PySem.Challenge.rw_ko0121_09).row)) s) (XP := XL Mine.view []) (Yf := Hook.obs $H) (Ya := Hook.val $H) (YP := Hook.says $H) (N := 2722) ?hl (Hook.of $H) (Hook.keeps $H) (fun s e => xl_of s (Bool.and_eq_true_iff.mp e).1) XL.keeps (by rfl) (by rfl) (by rfl) (fun s e => recFacts_of (Bool.and_eq_true_iff.mp e).2) (by rfl) (by assumption) (by decide +kernel) ⟨rfl, rfl, rfl, rfl, rfl, by decide +kernel⟩ ?$hw ?$hc; (case hl => (intro w; kernel_rfl))))
set_option maxHeartbeats 8000000 in
open_top hd for PySem.Challenge.rw_ko0121_09
namespace Mine
open PySem PySem.W PyProof.Rows
theorem neS {x d : Nat} (h : d ≠ x) : x ≠ d := fun e => h e.symm
theorem nm {x d : Nat} (h : x < d) : x ≠ d := Nat.ne_of_lt h
theorem nl0 {x d : Nat} { q : Prop} (h : x < d ∧ q) : x ≠ d := Nat.ne_of_lt h.1
theorem nl1 {x d : Nat} {p0 q : Prop} (h : p0 ∧ x < d ∧ q) : x ≠ d := Nat.ne_of_lt h.2.1
theorem nl2 {x d : Nat} {p0 p1 q : Prop} (h : p0 ∧ p1 ∧ x < d ∧ q) : x ≠ d := Nat.ne_of_lt h.2.2.1
theorem nl3 {x d : Nat} {p0 p1 p2 q : Prop} (h : p0 ∧ p1 ∧ p2 ∧ x < d ∧ q) : x ≠ d := Nat.ne_of_lt h.2.2.2.1
theorem nl4 {x d : Nat} {p0 p1 p2 p3 q : Prop} (h : p0 ∧ p1 ∧ p2 ∧ p3 ∧ x < d ∧ q) : x ≠ d := Nat.ne_of_lt h.2.2.2.2.1
theorem nl5 {x d : Nat} {p0 p1 p2 p3 p4 q : Prop} (h : p0 ∧ p1 ∧ p2 ∧ p3 ∧ p4 ∧ x < d ∧ q) : x ≠ d := Nat.ne_of_lt h.2.2.2.2.2.1
theorem nl6 {x d : Nat} {p0 p1 p2 p3 p4 p5 q : Prop} (h : p0 ∧ p1 ∧ p2 ∧ p3 ∧ p4 ∧ p5 ∧ x < d ∧ q) : x ≠ d := Nat.ne_of_lt h.2.2.2.2.2.2.1
theorem nl7 {x d : Nat} {p0 p1 p2 p3 p4 p5 p6 q : Prop} (h : p0 ∧ p1 ∧ p2 ∧ p3 ∧ p4 ∧ p5 ∧ p6 ∧ x < d ∧ q) : x ≠ d := Nat.ne_of_lt h.2.2.2.2.2.2.2.1
theorem nl8 {x d : Nat} {p0 p1 p2 p3 p4 p5 p6 p7 q : Prop} (h : p0 ∧ p1 ∧ p2 ∧ p3 ∧ p4 ∧ p5 ∧ p6 ∧ p7 ∧ x < d ∧ q) : x ≠ d := Nat.ne_of_lt h.2.2.2.2.2.2.2.2.1
theorem nl9 {x d : Nat} {p0 p1 p2 p3 p4 p5 p6 p7 p8 q : Prop} (h : p0 ∧ p1 ∧ p2 ∧ p3 ∧ p4 ∧ p5 ∧ p6 ∧ p7 ∧ p8 ∧ x < d ∧ q) : x ≠ d := Nat.ne_of_lt h.2.2.2.2.2.2.2.2.2.1
theorem nl10 {x d : Nat} {p0 p1 p2 p3 p4 p5 p6 p7 p8 p9 q : Prop} (h : p0 ∧ p1 ∧ p2 ∧ p3 ∧ p4 ∧ p5 ∧ p6 ∧ p7 ∧ p8 ∧ p9 ∧ x < d ∧ q) : x ≠ d := Nat.ne_of_lt h.2.2.2.2.2.2.2.2.2.2.1
theorem nl11 {x d : Nat} {p0 p1 p2 p3 p4 p5 p6 p7 p8 p9 p10 q : Prop} (h : p0 ∧ p1 ∧ p2 ∧ p3 ∧ p4 ∧ p5 ∧ p6 ∧ p7 ∧ p8 ∧ p9 ∧ p10 ∧ x < d ∧ q) : x ≠ d := Nat.ne_of_lt h.2.2.2.2.2.2.2.2.2.2.2.1
theorem nl12 {x d : Nat} {p0 p1 p2 p3 p4 p5 p6 p7 p8 p9 p10 p11 q : Prop} (h : p0 ∧ p1 ∧ p2 ∧ p3 ∧ p4 ∧ p5 ∧ p6 ∧ p7 ∧ p8 ∧ p9 ∧ p10 ∧ p11 ∧ x < d ∧ q) : x ≠ d := Nat.ne_of_lt h.2.2.2.2.2.2.2.2.2.2.2.2.1
theorem nl13 {x d : Nat} {p0 p1 p2 p3 p4 p5 p6 p7 p8 p9 p10 p11 p12 q : Prop} (h : p0 ∧ p1 ∧ p2 ∧ p3 ∧ p4 ∧ p5 ∧ p6 ∧ p7 ∧ p8 ∧ p9 ∧ p10 ∧ p11 ∧ p12 ∧ x < d ∧ q) : x ≠ d := Nat.ne_of_lt h.2.2.2.2.2.2.2.2.2.2.2.2.2.1
theorem nl14 {x d : Nat} {p0 p1 p2 p3 p4 p5 p6 p7 p8 p9 p10 p11 p12 p13 q : Prop} (h : p0 ∧ p1 ∧ p2 ∧ p3 ∧ p4 ∧ p5 ∧ p6 ∧ p7 ∧ p8 ∧ p9 ∧ p10 ∧ p11 ∧ p12 ∧ p13 ∧ x < d ∧ q) : x ≠ d := Nat.ne_of_lt h.2.2.2.2.2.2.2.2.2.2.2.2.2.2.1
theorem nl15 {x d : Nat} {p0 p1 p2 p3 p4 p5 p6 p7 p8 p9 p10 p11 p12 p13 p14 q : Prop} (h : p0 ∧ p1 ∧ p2 ∧ p3 ∧ p4 ∧ p5 ∧ p6 ∧ p7 ∧ p8 ∧ p9 ∧ p10 ∧ p11 ∧ p12 ∧ p13 ∧ p14 ∧ x < d ∧ q) : x ≠ d := Nat.ne_of_lt h.2.2.2.2.2.2.2.2.2.2.2.2.2.2.2.1
theorem nl16 {x d : Nat} {p0 p1 p2 p3 p4 p5 p6 p7 p8 p9 p10 p11 p12 p13 p14 p15 q : Prop} (h : p0 ∧ p1 ∧ p2 ∧ p3 ∧ p4 ∧ p5 ∧ p6 ∧ p7 ∧ p8 ∧ p9 ∧ p10 ∧ p11 ∧ p12 ∧ p13 ∧ p14 ∧ p15 ∧ x < d ∧ q) : x ≠ d := Nat.ne_of_lt h.2.2.2.2.2.2.2.2.2.2.2.2.2.2.2.2.1
end Mine

namespace Mine
open PySem PySem.W PySem.Spec PySem.Calls PyProof.Rows

/-- what a frame says of some names -/
def HasAll (m : Str → Option Value) (ps : List (Str × Value)) : Prop := ∀ p ∈ ps, m p.1 = some p.2

theorem hasAll_eq {m : Str → Option Value} {ps : List (Str × Value)} (h : HasAll m ps) : kstB m ps = m := by
  funext y
  exact kstB_eq h fun _ => rfl

theorem hasAll_x {m : Str → Option Value} {ps : List (Str × Value)} {x : Str} {v : Value} (h : HasAll m ps) : (fun y => if y = x then some v else m y) = (fun y => if y = x then some v else kstB m ps y) := by
  rw [hasAll_eq h]

section
variable {prog : Program} {w : World} {A : Around} {E : Value → Shared → Prop} {Q : Flow → Shared → Prop} {s : Shared} {env : Env} {h₀ : Heap} {L : Addr}

/-- a for's turn ends -/
def FoEnd {σ : Type} (h₀ : Heap) (L : Addr) (s : Shared) (Led : σ → List (Addr × Obj)) (ps : σ → List (Str × Value)) (P : σ → Prop) (own : List (Addr × Obj)) (s₂ : Shared) : Prop :=
  ∃ (c' : σ) (h' : Heap) (tk : Nat) (m' : Str → Option Value) (news' : List (Addr × Obj)), s₂ = { s with heap := h', toks := tk } ∧ Fr h₀ L h' m' ∧ News h₀ L h' news' ∧ (∀ p ∈ Led c', p ∈ news') ∧ (∀ p ∈ own, p ∈ news') ∧ OwnOff own ((Led c').map (·.1)) ∧ HasAll m' (ps c') ∧ P c'
def FoPost {σ : Type} (h₀ : Heap) (L : Addr) (s : Shared) (Led : σ → List (Addr × Obj)) (ps : σ → List (Str × Value)) (P : σ → Prop) (own : List (Addr × Obj)) (Q : Flow → Shared → Prop) (f : Flow) (s₂ : Shared) : Prop :=
  match f with
  | .ret v => Q (.ret v) s₂
  | .brk => Q .next s₂
  | _ => FoEnd h₀ L s Led ps P own s₂
theorem foEnd {σ : Type} {Led : σ → List (Addr × Obj)} {ps : σ → List (Str × Value)} {P : σ → Prop} {own : List (Addr × Obj)} {h' : Heap} {tk : Nat} {m' : Str → Option Value} {news' : List (Addr × Obj)} (F : Fr h₀ L h' m') (N : News h₀ L h' news') (c' : σ)
    (hn : ∀ p ∈ Led c', p ∈ news') (ho : ∀ p ∈ own, p ∈ news') (ha : OwnOff own ((Led c').map (·.1))) (hk : HasAll m' (ps c')) (hp : P c') : FoEnd h₀ L s Led ps P own { s with heap := h', toks := tk } := ⟨c', h', tk, m', news', rfl, F, N, hn, ho, ha, hk, hp⟩

theorem for_G {σ : Type} {x : Str} {body : List Stmt} {I : Addr} {fp wr : List Addr} {n : Nat} {Pv : Nat → Value → Prop} {St : Nat → Heap → Prop} {m₀ : Str → Option Value} (Led : σ → List (Addr × Obj)) (ps : σ → List (Str × Value)) (P : Nat → σ → Prop) (c₀ : σ)
    (W : Walks prog w A I fp wr n Pv St) (hLf : env.locals ∉ fp) (hwr : ∀ b ∈ wr, h₀.get? b = none) (hlive : ∀ i h, St i h → ∀ b ∈ fp, ∃ o, h.get? b = some o)
    (hst : St 0 s.heap) (F : Fr h₀ env.locals s.heap m₀) (N : News h₀ env.locals s.heap (Led c₀)) (hfp : ∀ q ∈ Led c₀, q.1 ∉ fp) (hk : HasAll m₀ (ps c₀)) (hp : P 0 c₀)
    (turn : ∀ i v (c : σ) (u : Str → Option Value) h tk own, i < n → Pv i v → P i c → OwnOff own ((Led c).map (·.1)) → (∀ b ∈ fp, h₀.get? b = none → ∀ o, h.get? b = some o → (b, o) ∈ own) → St (i + 1) h →
      Fr h₀ env.locals h (fun y => if y = x then some v else kstB u (ps c) y) → News h₀ env.locals h (Led c ++ own) →
      wpAny (model prog w) A (execs body env) (FoPost h₀ env.locals { s with heap := h, toks := tk } Led ps (P (i + 1)) own Q) E { s with heap := h, toks := tk })
    (done : ∀ (c : σ) (u : Str → Option Value) h tk, P n c → Fr h₀ env.locals h (kstB u (ps c)) → News h₀ env.locals h (Led c) → Q .next { s with heap := h, toks := tk }) :
    LoopAtV prog w A h₀ env x body Q E (.ref I) s := by
  refine ⟨I, fp, wr, n, Pv, St, m₀, Led c₀, fun i m nx => ∃ c : σ, nx = Led c ∧ HasAll m (ps c) ∧ P i c ∧ ∀ q ∈ Led c, q.1 ∉ fp, rfl, W, hLf, hwr, fun p hp hm => hfp p hp (W.sub _ hm), hst, F, N, ⟨c₀, rfl, hk, hp, hfp⟩, ?_, ?_⟩
  · rintro i v m₁ news₁ s₁ own ⟨hh', tk', rfl⟩ hin hP ⟨c, rfl, h1, hp', hoff'⟩ hoff hown hget hall hst' F₁ N₁
    have hsep : OwnOff own ((Led c).map (·.1)) := by
      intro p hp b hb e
      obtain ⟨q, hq, rfl⟩ := List.mem_map.mp hb
      exact hoff' q hq (e ▸ hown p hp)
    rw [hasAll_x h1] at F₁
    have N₂ : News h₀ env.locals hh' (Led c ++ own) := fun p hp => N₁ p ((List.mem_append.mp hp).elim (fun h => List.mem_append.mpr (.inr h)) fun h => List.mem_append.mpr (.inl h))
    refine wpAny_mono (turn i v c m₁ hh' tk' own hin hP hp' hsep hall hst' F₁ N₂) (fun f s₂ p => ?_) fun _ _ e => e
    have fin : FoEnd h₀ env.locals { s with heap := hh', toks := tk' } Led ps (P (i + 1)) own s₂ → LoopStepU h₀ env.locals wr own (fun m nx => ∃ c : σ, nx = Led c ∧ HasAll m (ps c) ∧ P (i + 1) c ∧ ∀ q ∈ Led c, q.1 ∉ fp) { s with heap := hh', toks := tk' } .next s₂ := by
      rintro ⟨c', h', tk, m', news', e, F', N', hn, ho, ha, hk', hp''⟩
      have hfp' : ∀ q ∈ Led c', q.1 ∉ fp := by
        intro q hq hm
        obtain ⟨o, ho'⟩ := hlive _ _ hst' _ hm
        exact ha _ (hall _ hm (N' _ (hn q hq)).2.2 o ho') _ (List.mem_map_of_mem hq) rfl
      exact ⟨rfl, h', tk, m', Led c', e, F', fun p hp => N' p ((List.mem_append.mp hp).elim (ho p) (hn p)), fun p hp hq => hfp' p hp (W.sub _ hq), c', rfl, hk', hp'', hfp'⟩
    cases f with
    | ret v => exact .ret p
    | brk => exact .brk p
    | next => exact .next (fin p)
    | cont => exact .cont (fin p)
  · rintro h' tk m' news' F' N' _ ⟨c, rfl, h1, hp', _⟩
    rw [← hasAll_eq h1] at F'
    exact done c m' h' tk hp' F' N'

/-- a loop over bytes -/
theorem for_bytes {σ : Type} {x : Str} {body : List Stmt} {b : Array UInt8} {tb : Tok} {m₀ : Str → Option Value} {news₀ : List (Addr × Obj)} (Led : σ → List (Addr × Obj)) (ps : σ → List (Str × Value)) (P : Nat → σ → Prop) (c₀ : σ)
    (hh : A.handled = none) (F : Fr h₀ env.locals s.heap m₀) (N : News h₀ env.locals s.heap news₀) (hL : ∀ p ∈ Led c₀, p ∈ news₀) (hk : HasAll m₀ (ps c₀)) (hp : P 0 c₀)
    (turn : ∀ i k t (c : σ) (u : Str → Option Value) h tk own, i < b.size → b[i]? = some k → P i c → OwnOff own ((Led c).map (·.1)) →
      Fr h₀ env.locals h (fun y => if y = x then some (.int (k.toNat : Int) t) else kstB u (ps c) y) → News h₀ env.locals h (Led c ++ own) →
      wpAny (model prog w) A (execs body env) (FoPost h₀ env.locals { s with heap := h, toks := tk } Led ps (P (i + 1)) own Q) E { s with heap := h, toks := tk })
    (done : ∀ (c : σ) (u : Str → Option Value) h tk, P b.size c → Fr h₀ env.locals h (kstB u (ps c)) → News h₀ env.locals h (Led c) → Q .next { s with heap := h, toks := tk }) :
    wpAny (model prog w) A (pyIter (.bytes b tb)) (fun it s₂ => LoopAtV prog w A h₀ env x body Q E it s₂) E s := by
  refine KBw.pyIter_bytes ?_
  have W := KBw.walks (prog := prog) (w := w) hh s.heap.objs.size b tb
  have N' : News h₀ env.locals s.heap (Led c₀) := fun p hp => N p (hL p hp)
  refine for_G Led ps P c₀ W ?_ ?_ ?_ ⟨_, Heap.get?_push_size _ rfl, rfl, rfl⟩ (F.push _) (fun p hp => ⟨Heap.get?_push_of_some _ (N' p hp).1, (N' p hp).2⟩) ?_ hk hp ?_ ?_
  · intro hm
    exact absurd F.ns.lt ((List.mem_singleton.mp hm) ▸ Nat.lt_irrefl _)
  · intro b' hb
    rw [List.mem_singleton.mp hb]
    exact next_is_new F
  · rintro i h ⟨o, ho, _⟩ b' hb
    rw [List.mem_singleton.mp hb]; exact ⟨o, ho⟩
  · intro p hp hI
    exact absurd (Heap.lt_size (N' p hp).1) ((List.mem_singleton.mp hI) ▸ Nat.lt_irrefl _)
  · rintro i v c u h tk own hi ⟨k, t, hk', rfl⟩ hp' hoff _ _ F₁ N₁
    exact turn i k t c u h tk own hi hk' hp' hoff F₁ N₁
  · exact done

/-- a loop over a range -/
theorem for_range {σ : Type} {x : Str} {body : List Stmt} {r : Addr} {a₀ b₀ c₀' : Int} {t₀ u₀ v₀ : Tok} (n : Nat) {m₀ : Str → Option Value} {news₀ : List (Addr × Obj)} (Led : σ → List (Addr × Obj)) (ps : σ → List (Str × Value)) (P : Nat → σ → Prop) (c₀ : σ)
    (hh : A.handled = none) (hr : IsRange s.heap r a₀ b₀ c₀' t₀ u₀ v₀) (hn : Builtin.Range.rangeSize a₀ b₀ c₀' = (n : Int))
    (F : Fr h₀ env.locals s.heap m₀) (N : News h₀ env.locals s.heap news₀) (hL : ∀ p ∈ Led c₀, p ∈ news₀) (hk : HasAll m₀ (ps c₀)) (hp : P 0 c₀)
    (turn : ∀ (i : Nat) t (c : σ) (u : Str → Option Value) h tk own, i < n → P i c → OwnOff own ((Led c).map (·.1)) →
      Fr h₀ env.locals h (fun y => if y = x then some (.int (a₀ + (i : Int) * c₀') t) else kstB u (ps c) y) → News h₀ env.locals h (Led c ++ own) →
      wpAny (model prog w) A (execs body env) (FoPost h₀ env.locals { s with heap := h, toks := tk } Led ps (P (i + 1)) own Q) E { s with heap := h, toks := tk })
    (done : ∀ (c : σ) (u : Str → Option Value) h tk, P n c → Fr h₀ env.locals h (kstB u (ps c)) → News h₀ env.locals h (Led c) → Q .next { s with heap := h, toks := tk }) :
    wpAny (model prog w) A (pyIter (.ref r)) (fun it s₂ => LoopAtV prog w A h₀ env x body Q E it s₂) E s := by
  have N' : News h₀ env.locals s.heap (Led c₀) := fun p hp => N p (hL p hp)
  have main : ∀ (o : Obj) (St : Nat → Heap → Prop), (∀ i h, St i h → ∃ o, h.get? s.heap.objs.size = some o) → Walks prog w A s.heap.objs.size [s.heap.objs.size] [s.heap.objs.size] n (fun i v => i < n ∧ ∃ t, v = .int (a₀ + i * c₀') t) St → St 0 (s.heap.push o) →
      LoopAtV prog w A h₀ env x body Q E (.ref s.heap.objs.size) { s with heap := s.heap.push o } := by
    intro o St hal W hst
    refine for_G Led ps P c₀ W ?_ ?_ ?_ hst (F.push _) (fun p hp => ⟨Heap.get?_push_of_some _ (N' p hp).1, (N' p hp).2⟩) ?_ hk hp ?_ ?_
    · intro hm
      exact absurd F.ns.lt ((List.mem_singleton.mp hm) ▸ Nat.lt_irrefl _)
    · intro b' hb
      rw [List.mem_singleton.mp hb]
      exact next_is_new F
    · intro i h ho b' hb
      rw [List.mem_singleton.mp hb]; exact hal i h ho
    · intro p hp hI
      exact absurd (Heap.lt_size (N' p hp).1) ((List.mem_singleton.mp hI) ▸ Nat.lt_irrefl _)
    · rintro i v c u h tk own hi ⟨_, t, rfl⟩ hp' hoff _ _ F₁ N₁
      exact turn i t c u h tk own hi hp' hoff F₁ N₁
    · exact done
  cases hsm : Builtin.Range.small a₀ b₀ c₀'
  · exact wpAny_pyIter_longrange hr hsm (main _ _ (fun i h st => ⟨_, st⟩) (Walks.longrange hh _ a₀ c₀' n).bound (by show IsLongIter _ _ _ _ _; rw [hn]; simpa using Heap.get?_push_size _ rfl))
  · exact wpAny_pyIter_range hr hsm (main _ _ (fun i h st => ⟨_, st⟩) (Walks.range hh _ a₀ c₀' n).bound (by show IsRangeIter _ _ _ _ _; rw [hn]; simpa using Heap.get?_push_size _ rfl))
end

end Mine
namespace Mine
def Halt (P : Prop) : Prop := P
theorem halt {P : Prop} (h : Halt P) : P := h
end Mine

namespace Mine
open PySem PySem.W PySem.Spec PySem.Calls PyProof.Rows

/-- the signs of base64, by their six bits -/
def sgn (k : Nat) : Nat := if k < 26 then k + 65 else if k < 52 then k + 71 else if k < 62 then k - 4 else if k = 62 then 43 else 47
section
variable {prog : Program} {w : World} {A : Around} {E : Value → Shared → Prop} {s : Shared} {value slice : PySem.Expr} {Q : Value → Shared → Prop}
end

theorem bitOr_eq (x y : Int) : Builtin.bitOr x y = x + y - Builtin.bitAnd x y := by
  have h := bitXor_and x y
  unfold Builtin.bitXor at h
  omega
theorem bitAnd_shl (c k : Nat) (n : Nat) (h : k < 2 ^ n) : Builtin.bitAnd ((c : Int) * 2 ^ n) (k : Int) = 0 := by
  have e : ((c : Int) * 2 ^ n) = ((c * 2 ^ n : Nat) : Int) := by simp
  rw [e]
  have nn : ∀ a b : Nat, Builtin.bitAnd (a : Int) (b : Int) = ((a &&& b : Nat) : Int) := fun a b => by
    unfold Builtin.bitAnd
    rw [decide_eq_true (Int.natCast_nonneg a), decide_eq_true (Int.natCast_nonneg b)]
    rfl
  rw [nn]
  have : (c * 2 ^ n) &&& k = 0 := by
    apply Nat.eq_of_testBit_eq
    intro i
    simp only [Nat.testBit_and, Nat.zero_testBit, Nat.testBit_mul_two_pow]
    by_cases hi : n ≤ i
    · rw [Nat.testBit_lt_two_pow (Nat.lt_of_lt_of_le h (Nat.pow_le_pow_right (by decide) hi))]; simp
    · simp [hi]
  rw [this]; rfl
theorem bitOr_shl (c k : Nat) (n : Nat) (h : k < 2 ^ n) : Builtin.bitOr ((c : Int) * 2 ^ n) (k : Int) = (c : Int) * 2 ^ n + k := by
  rw [bitOr_eq, bitAnd_shl c k n h]; omega

/-- naturals as a list of ints; octets of bytes as naturals and back -/
def zs (l : List Nat) : List Int := l.map Int.ofNat
def octs (b : Array UInt8) : List Nat := b.toList.map (·.toNat)
def ofOcts (l : List Nat) : Array UInt8 := (l.map Nat.toUInt8).toArray
theorem zs_length (l : List Nat) : (zs l).length = l.length := by simp [zs]
theorem octs_length (b : Array UInt8) : (octs b).length = b.size := by simp [octs]
theorem octs_get {b : Array UInt8} {i : Nat} {k : UInt8} (h : b[i]? = some k) : (octs b)[i]? = some k.toNat := by
  simp [octs, h]
theorem octs_take {b : Array UInt8} {i : Nat} {k : UInt8} (h : b[i]? = some k) : (octs b).take (i + 1) = (octs b).take i ++ [k.toNat] := by
  rw [List.take_add_one, octs_get h]; rfl
theorem octs_ofOcts {l : List Nat} (h : ∀ k ∈ l, k < 256) : octs (ofOcts l) = l := by
  unfold octs ofOcts
  simp only [List.map_map]
  refine (List.map_congr_left fun k hk => ?_).trans (List.map_id l)
  show (Nat.toUInt8 k).toNat = k
  have : (Nat.toUInt8 k).toNat = k % 256 := rfl
  rw [this]; exact Nat.mod_eq_of_lt (h k hk)
theorem zs_append (a b : List Nat) : zs (a ++ b) = zs a ++ zs b := by simp [zs]
theorem intsAre_snoc {vs : List Value} {l : List Nat} {k : Nat} {t : Tok} (h : IntsAre vs (zs l)) : IntsAre (vs ++ [.int (k : Int) t]) (zs (l ++ [k])) := by
  rw [zs_append]
  exact h.append (.cons _ _ .nil)
theorem snocE {vs : List Value} {l : List Nat} {k : Nat} {z : Int} {t : Tok} (h : IntsAre vs (zs l)) (e : z = (k : Int)) : IntsAre (vs ++ [.int z t]) (zs (l ++ [k])) := by
  subst e
  exact intsAre_snoc h

section
variable {prog : Program} {w : World} {A : Around} {E : Value → Shared → Prop} {s : Shared} {h₀ : Heap} {L : Addr} {m : Str → Option Value} {news : List (Addr × Obj)}
theorem bytes_Z {l : Addr} {vs : List Value} {nn : Nat} {ns : List Nat} {Q : Value → Shared → Prop} (F : Fr h₀ L s.heap m) (N : News h₀ L s.heap news) (hl : (l, listOf vs.toArray nn) ∈ news) (hi : IntsAre vs (zs ns)) (hr : ∀ n ∈ ns, n < 256) (hz : vs.length ≤ sizeLine) (hh : A.handled = none)
    (h : ∀ h' t k, Fr h₀ L h' m → News h₀ L h' news → Q (.bytes (ofOcts ns) t) { s with heap := h', toks := k }) : wpAny (model prog w) A (call (.type "bytes") [.ref l]) Q E s := by
  refine bytes_K F N ⟨_, (N _ hl).1, rfl, nn, rfl⟩ hi ?_ hz hh fun h' t k F' N' _ => ?_
  · intro n hn
    obtain ⟨x, hx, rfl⟩ := List.mem_map.mp hn
    have := hr x hx
    exact ⟨Int.natCast_nonneg x, by show ((x : Nat) : Int) < 256; omega⟩
  · have e : ((zs ns).map fun n => n.toNat.toUInt8) = ns.map Nat.toUInt8 := by
      unfold zs
      rw [List.map_map]
      rfl
    rw [e]
    exact h h' t k F' N'
end


section
variable {prog : Program} {w : World} {A : Around} {E : Value → Shared → Prop} {s : Shared} {h₀ : Heap} {L : Addr} {m : Str → Option Value} {news news' : List (Addr × Obj)}
theorem append_Z {D : Addr} {vs : List Value} {n : Nat} {x : Value} {Q : Value → Shared → Prop} (F : Fr h₀ L s.heap m) (N : News h₀ L s.heap news) (U : Upd D (listOf vs.toArray n) (listOf (vs ++ [x]).toArray (n + 1)) news news')
    (h : ∀ h', Fr h₀ L h' m → News h₀ L h' news' → Q .none { s with heap := h' }) (hsz : vs.length ≤ sizeLine) : wpAny (model prog w) A (call (.builtin "list.append") [.ref D, x]) Q E s := by
  have e : (vs ++ [x]).toArray = vs.toArray.push x := by simp
  rw [e] at U
  exact append_K F N U h (by rw [List.size_toArray]; exact hsz)
end

section
variable {prog : Program} {w : World} {A : Around} {E : Value → Shared → Prop} {s : Shared} {a b : Int} {t u : Tok} {Q : Value → Shared → Prop}
theorem band15 (h : ∀ t' k, Q (.int (a % 16) t') { s with toks := k }) : wpAny (model prog w) A (binaryOp .BitAnd (.int a t) (.int 15 u)) Q E s := and_int (by rw [bitAnd_m4]; exact h _ _)
theorem band3 (h : ∀ t' k, Q (.int (a % 4) t') { s with toks := k }) : wpAny (model prog w) A (binaryOp .BitAnd (.int a t) (.int 3 u)) Q E s := and_int (by rw [bitAnd_m2]; exact h _ _)
theorem bor_sum {c : Int} (n : Nat) (d : Int) (ha : a = c * d) (hc : 0 ≤ c) (hb : 0 ≤ b ∧ b < d) (hd : d = 2 ^ n) (h : ∀ t' k, Q (.int (a + b) t') { s with toks := k }) : wpAny (model prog w) A (binaryOp .BitOr (.int a t) (.int b u)) Q E s := by
  have e : Builtin.bitOr a b = a + b := by
    obtain ⟨c, rfl⟩ := Int.eq_ofNat_of_zero_le hc
    obtain ⟨b, rfl⟩ := Int.eq_ofNat_of_zero_le hb.1
    rw [ha, hd]
    refine bitOr_shl c b n ?_
    have := hb.2
    rw [hd, ← kbt_cast] at this
    exact Int.ofNat_lt.mp this
  exact or_int (by rw [e]; exact h _ _)
theorem lsh_by {n : Int} (k : Nat) (d : Int) (hn : n = (k : Int)) (hd : (2 : Int) ^ k = d) (hk : k ≤ 1000) (ha : a.natAbs < 2 ^ 64) (h : ∀ t' k, Q (.int (a * d) t') { s with toks := k }) : wpAny (model prog w) A (binaryOp .LShift (.int a t) (.int n u)) Q E s := by
  subst hn
  refine lshift_int_small (Int.natCast_nonneg k) (by omega) ha ?_
  rw [Int.toNat_natCast, hd]
  exact h _ _
theorem rsh_by {n : Int} (k : Nat) (d : Int) (hn : n = (k : Int)) (hd : (2 : Int) ^ k = d) (h : ∀ t' k, Q (.int (a / d) t') { s with toks := k }) : wpAny (model prog w) A (binaryOp .RShift (.int a t) (.int n u)) Q E s := by
  subst hn
  refine rshift_int (Int.natCast_nonneg k) ?_
  rw [Int.toNat_natCast, Int.fdiv_eq_ediv_of_nonneg _ (Int.le_of_lt (kbt_pos k)), hd]
  exact h _ _
theorem addI (h : ∀ t' k, Q (.int (a + b) t') { s with toks := k }) : wpAny (model prog w) A (binaryOp .Add (.int a t) (.int b u)) Q E s := add_int (h _ _)
theorem subI (h : ∀ t' k, Q (.int (a - b) t') { s with toks := k }) : wpAny (model prog w) A (binaryOp .Sub (.int a t) (.int b u)) Q E s := sub_int (h _ _)
theorem modI (hb : 0 < b) (h : ∀ t' k, Q (.int (a % b) t') { s with toks := k }) : wpAny (model prog w) A (binaryOp .Mod (.int a t) (.int b u)) Q E s :=
  mod_int (by omega) (by rw [Int.fmod_eq_emod_of_nonneg _ (Int.le_of_lt hb)]; exact h _ _)
theorem divI (hb : 0 < b ∧ b < 1073741824) (h : ∀ t' k, Q (.int (a / b) t') { s with toks := k }) : wpAny (model prog w) A (binaryOp .FloorDiv (.int a t) (.int b u)) Q E s :=
  floordiv_int (by omega) (by rw [Int.fdiv_eq_ediv_of_nonneg _ (Int.le_of_lt hb.1)]; exact h _ _) (Or.inl (PyProof.noPylong_small (by omega)))
theorem mulI (hb : b.natAbs < 2 ^ 64 ∨ a.natAbs < 2 ^ 64) (h : ∀ t' k, Q (.int (a * b) t') { s with toks := k }) : wpAny (model prog w) A (binaryOp .Mult (.int a t) (.int b u)) Q E s :=
  mul_int (h _ _) (hb.elim (fun h => IntMulOk.of_right (intBits_le_iff.mpr h)) fun h => IntMulOk.of_left (intBits_le_iff.mpr h))
theorem constI {env : Env} {pos : Pos} {i : Int} {kk : Nat} (h : ∀ t' k, Q (.int i t') { s with toks := k }) : wpAny (model prog w) A (eval (.Constant (.int i) kk pos) env) Q E s := wpAny_Constant_int (h _ _)
end
theorem intE {z z' : Int} {t : Tok} (h : z = z') : Value.int z t = Value.int z' t := by rw [h]
theorem dropN {h₀ h : Heap} {L : Addr} {news news' : List (Addr × Obj)} (N : News h₀ L h news') (hs : ∀ p ∈ news, p ∈ news') : News h₀ L h news := fun p hp => N p (hs p hp)
theorem noneAbove {news : List (Addr × Obj)} : ∀ q ∈ news, ∀ p ∈ ([] : List (Addr × Obj)), q.1 < p.1 := fun _ _ _ h => nomatch h
end Mine

namespace Mine
open PySem PySem.W PySem.Spec PySem.Calls PyProof.Rows
namespace BJ
open Builtin Builtin.Bytes
end BJ
end Mine
namespace Mine
open PySem PySem.W PySem.Spec PySem.Calls PyProof.Rows
inductive BytesAre : List Value → List (Array UInt8) → Prop
  | nil : BytesAre [] []
  | cons (b : Array UInt8) (t : Tok) {vs : List Value} {bs : List (Array UInt8)} : BytesAre vs bs → BytesAre (.bytes b t :: vs) (b :: bs)
theorem BytesAre.snoc {vs : List Value} {bs : List (Array UInt8)} {b : Array UInt8} {t : Tok} (h : BytesAre vs bs) : BytesAre (vs ++ [.bytes b t]) (bs ++ [b]) := by
  induction h with
  | nil => exact .cons _ _ .nil
  | cons b t _ ih => exact .cons _ _ ih
theorem BytesAre.length {vs : List Value} {bs : List (Array UInt8)} (h : BytesAre vs bs) : vs.length = bs.length := by
  induction h with
  | nil => rfl
  | cons b t _ ih => simp [ih]
namespace BJ
open Builtin Builtin.Bytes
end BJ
section
variable {prog : Program} {w : World} {A : Around} {E : Value → Shared → Prop} {s : Shared} {h₀ : Heap} {L : Addr} {m : Str → Option Value} {news news' : List (Addr × Obj)} {Q : Value → Shared → Prop}
end
end Mine
namespace Mine
open PySem PySem.W PySem.Spec PySem.Calls PyProof.Rows
section
variable {prog : Program} {w : World} {A : Around} {E : Value → Shared → Prop} {s : Shared} {h₀ h : Heap} {L D b : Addr} {m : Str → Option Value} {news news' : List (Addr × Obj)} {n n2 : Nat} {vs us : List Value} {Q : Value → Shared → Prop}
end
end Mine
namespace Mine
open PySem PySem.W PySem.Spec PySem.Calls PyProof.Rows
namespace SE
open Builtin Builtin.Str Builtin._codecs
def enc (f : Nat → List UInt8) (x : Str) : Array UInt8 := (x.cps.toList.flatMap f).toArray
theorem fold_enc (f : Nat → List UInt8) : ∀ (l : List Nat) (acc : Array UInt8), l.foldl (fun acc y => acc ++ (f y).toArray) acc = acc ++ (l.flatMap f).toArray
  | [], acc => by simp
  | y :: l, acc => by
    rw [List.foldl_cons, fold_enc f l, List.flatMap_cons, ← List.append_toArray, Array.append_assoc]
theorem narrow_ok {M : Model} {A : Around} {E : Value → Shared → Prop} {s : Shared} {Q : Array UInt8 → Shared → Prop} (id : String) (c : TextCodec) (self : Value) (x : Str) (hg : ∀ k ∈ x.cps.toList, c.bad k = false) (hz : (enc c.bytesOf x).size ≤ sizeLine)
    (h : Q (enc c.bytesOf x) s) : wpAny M A (encodeNarrow id c none self x) Q E s := by
  have hnone : x.cps.findIdx? c.bad = none := by
    rw [Array.findIdx?_eq_none_iff]
    intro k hk
    exact hg k (Array.mem_toList_iff.mpr hk)
  unfold encodeNarrow
  dsimp only
  rw [KPc.range_list]
  refine wpAny_bind (wpAny_forIn_list _ (fun rest st s' => s' = s ∧ ((st.1 = 0 ∧ st.2.1 = #[] ∧ rest.length = x.length) ∨ (st.1 = x.cps.size ∧ st.2.1 = enc c.bytesOf x))) _ ?_ ?_ _ _ ⟨rfl, .inl ⟨rfl, rfl, by simp⟩⟩)
  · rintro y rest ⟨i, out, st⟩ s' ⟨rfl, hst⟩
    dsimp only at *
    have hout : out.size ≤ sizeLine := by
      rcases hst with ⟨_, rfl, _⟩ | ⟨_, rfl⟩
      · simp
      · exact hz
    refine wpAny_ite (KBy.ite_no (by omega) ?_)
    rcases hst with ⟨rfl, rfl, hl⟩ | ⟨rfl, rfl⟩
    · have hsz : 0 < x.cps.size := by
        have : rest.length + 1 = x.cps.size := hl
        omega
      have e1 : x.cps[0]? = some x.cps[0] := by simp [hsz]
      have hb0 : c.bad x.cps[0] = false := hg _ (by simp)
      rw [e1]
      dsimp only
      rw [hb0]
      have e2 : x.cps.extract 0 x.cps.size = x.cps := by simp
      rw [e2, hnone]
      refine wpAny_ite (KBc.ite_yes rfl (wpAny_pure ⟨rfl, .inr ⟨by simp, ?_⟩⟩))
      have := fold_enc c.bytesOf x.cps.toList #[]
      simpa [enc] using this
    · have e1 : x.cps[x.cps.size]? = none := by simp
      rw [e1]
      exact wpAny_pure (wpAny_pure h)
  · rintro ⟨i, out, st⟩ s' ⟨rfl, hst⟩
    dsimp only at *
    refine wpAny_pure ?_
    rcases hst with ⟨_, rfl, hl⟩ | ⟨_, rfl⟩
    · have e : x.cps = #[] := Array.size_eq_zero_iff.mp hl.symm
      simpa [enc, e] using h
    · exact h
end SE
section
variable {prog : Program} {w : World} {A : Around} {E : Value → Shared → Prop} {s : Shared} {Q : Value → Shared → Prop} {x : Str} {t t1 : Tok}
theorem enc_meth {M : Model} {pl : Sem Bool} {Q : Value × List Value → Shared → Prop} (h : Q (.builtin "str.encode", [.str x t]) s) : wpAny M A (getMethod (.str x t) "encode" pl) Q E s := by
  with_reducible exact getMethod_builtin (typeIs_str _ _ _) F.plainAttrs_str F.slot_str_encode F.type_str_encode (fun _ e => nomatch e) h
end
end Mine
namespace Mine
open PySem PySem.W PySem.Spec PySem.Calls PyProof.Rows
end Mine
namespace Mine
open PySem PySem.W PySem.Spec PySem.Calls PyProof.Rows
end Mine

namespace Mine
open PySem PySem.W PySem.Spec PySem.Calls PyProof.Rows
section
variable {prog : Program} {w : World} {A : Around} {E : Value → Shared → Prop} {s : Shared} {value slice : PySem.Expr} {Q : Value → Shared → Prop}
end
/-- a row of octets as one number; its low digits to base 64, as signs -/
def numOf (l : List Nat) : Nat := l.foldl (fun n o => n * 256 + o) 0
theorem numOf_snoc (l : List Nat) (x : Nat) : numOf (l ++ [x]) = numOf l * 256 + x := by simp [numOf]
def lowS : Nat → Nat → List Nat
  | 0, _ => []
  | k + 1, n => sgn (n / 64 ^ k % 64) :: lowS k n
theorem lowS_length (k n : Nat) : (lowS k n).length = k := by induction k with | zero => rfl | succ k ih => simp [lowS, ih]
def lackOf (n : Nat) : Nat := (3 - n % 3) % 3
def sigL (l : List Nat) : List Nat := (lowS ((l.length + lackOf l.length) / 3 * 4) (numOf l * 256 ^ lackOf l.length)).take ((l.length + lackOf l.length) / 3 * 4 - lackOf l.length) ++ List.replicate (lackOf l.length) 61
end Mine
namespace Mine
open PySem PySem.W PySem.Spec PySem.Calls PyProof.Rows
theorem item_alpha {i : Int} (h : 0 ≤ i ∧ i < 64) : (Txt.item (Str.ofString "ABCDEFGHIJKLMNOPQRSTUVWXYZabcdefghijklmnopqrstuvwxyz0123456789+/") i).cps.toList = [sgn i.toNat] := by
  obtain ⟨k, rfl⟩ := Int.eq_ofNat_of_zero_le h.1
  have hk : k < 64 := by omega
  exact (by decide +kernel : ∀ k : Fin 64, (Txt.item (Str.ofString "ABCDEFGHIJKLMNOPQRSTUVWXYZabcdefghijklmnopqrstuvwxyz0123456789+/") ((k.1 : Nat) : Int)).cps.toList = [sgn k.1]) ⟨k, hk⟩
end Mine

namespace Mine
open PySem PySem.W PySem.Spec PySem.Calls PyProof.Rows
section
variable {prog : Program} {w : World} {A : Around} {E : Value → Shared → Prop} {s : Shared} {h₀ : Heap} {L : Addr} {m : Str → Option Value} {news : List (Addr × Obj)} {Q : Value → Shared → Prop}
end
section
variable {prog : Program} {w : World} {A : Around} {E : Value → Shared → Prop} {s : Shared} {value slice : PySem.Expr} {b : Array UInt8} {t tl th : Tok} {lo hi : Int} {h₀ : Heap} {L : Addr} {m : PySem.Str → Option Value} {news : List (Addr × Obj)} {Q : Value → Shared → Prop}
end
end Mine
namespace Mine
open PySem PySem.W PySem.Spec PySem.Calls PyProof.Rows
end Mine
namespace Mine
end Mine
namespace Mine
open PySem PySem.W PySem.Spec PySem.Calls PyProof.Rows
end Mine

namespace Mine
open PySem PySem.W PySem.Spec PySem.Calls PyProof.Rows
namespace TN
open Builtin
theorem slot_type_ne : Slot "type" (cmpInfo .NotEq).2.1 "object.__ne__" :=
  .of (owner := "object") (n := "__ne__") (by rw [typeLookup_type, builtinLookup_eq_fast]; kernel_rfl) (by decide +kernel) (by decide +kernel) (by decide +kernel)
    (by first | exact .inl (by decide +kernel) | exact .inr (by decide +kernel)) (by rw [isSubtype_type]; kernel_rfl)
theorem meets_ne {X : String} (hX : ∀ s' : Shared, s'.TypeIs (.type X) "type") : Meets («object.__ne__» ⟨[.type X, .type X], []⟩) (fun _ R s => R (.ok (.ret (.bool false))) s) := by
  refine .of_wp fun prog w A R s hS => ?_
  unfold Builtin.«object.__ne__»
  refine wpAny_bind (wpAny_of_eq (a := (Value.type X, [Value.type X])) (by simp [slotArgs]) ?_)
  refine wpAny_bind (wpAny_cRoomFor_or (.inl rfl) ?_)
  refine wpAny_bind (wpAny_callSpecialIfBound?_slot (hX s) TypeEq.slot_type_eq (call_gives TypeEq.slot_type_eq (hX s) F.entry_object_eq (F.args_object_eq_2 _ _) (TypeEq.object_eq_same rfl (by simp)) ?_))
  show wpAny _ _ (truthy (.bool true) >>= fun b => ret (.bool (!b))) _ _ _
  refine wpAny_bind (wpAny_truthy_bool ?_)
  exact wpAny_pure ⟨_, rfl, hS⟩
end TN
section
variable {prog : Program} {w : World} {A : Around} {E : Value → Shared → Prop} {s : Shared} {Q : Value → Shared → Prop}
theorem ne_type_same {X : String} (hX : ∀ s' : Shared, s'.TypeIs (.type X) "type") (h : Q (.bool false) s) : wpAny (model prog w) A (compareOp .NotEq (.type X) (.type X)) Q E s := by
  show wpAny _ A (richCompare .NotEq _ _) Q E s
  exact wpAny_richCompare_same (T := "type") (hX s) (hX s) TN.slot_type_ne
    (call_meets TN.slot_type_ne (hX s) F.cmpEntry_ne (F.cmpArgs_ne _ _) (TN.meets_ne hX) ⟨(by intro e; cases e), h⟩)
end
end Mine

namespace Mine
open PySem PySem.W PySem.Spec PySem.Calls PyProof.Rows
/-- a call of a def of the text; what it raises is told by its class, as a value -/
def Spec2 (prog : Program) (w : World) (K : Frag) (p : Program) (loose : List Str) (mean : ExcName → Option Value) (mg mb : Str → Option Value) (f : Addr) (pos : List Value) (kw : List (Str × Value)) (d u : Nat)
    (Pre : List (Addr × Obj) → Prop) (Out : List (Addr × Obj) → Value → Prop) (Bad : Value → Prop) : Prop :=
  ∀ (dp un : Nat) (gd : Option (List Code)) (cn : Str) (cs : Scope) (a : Addr) (ccd : Value) (cl : List (Str × Addr)) (outer : List Env) (A₀ : Around) (base h₀ : Heap) (L : Addr) (m : Str → Option Value) (news : List (Addr × Obj)) (s : Shared)
    (Q E : Value → Shared → Prop),
    Below A₀ base outer h₀ → Fr h₀ L s.heap m → K.In h₀ → News h₀ L s.heap news → Top p loose mean mg mb h₀ → cs.kind = .function → dp + d < recursionLimit → un + u < cLine → Pre news →
    (∀ r tl h' tk', Fr h₀ L h' m → News h₀ L h' (tl ++ news) → (∀ q ∈ news, ∀ p ∈ tl, q.1 < p.1) → Out tl r → Q r { s with heap := h', toks := tk' }) →
    (∀ X e g h' tk', Bad X → Fr h₀ L g m → g.UpToSlots h' → RaisedN base (envX cn cs L a ccd cl :: outer) e X news h' → E (.ref e) { s with heap := h', toks := tk' }) →
    wpAny (model prog w) (ktrTop dp un gd cn cs L a ccd cl outer) (call (.ref f) pos kw) Q E s
theorem Spec2.use {prog : Program} {w : World} {K : Frag} {p : Program} {loose : List Str} {mean : ExcName → Option Value} {mg mb : Str → Option Value} {f : Addr} {pos : List Value} {kw : List (Str × Value)} {d u : Nat}
    {Pre : List (Addr × Obj) → Prop} {Out : List (Addr × Obj) → Value → Prop} {Bad : Value → Prop} (C : Spec2 prog w K p loose mean mg mb f pos kw d u Pre Out Bad)
    {dp un : Nat} {gd : Option (List Code)} {cn : Str} {cs : Scope} {a : Addr} {ccd : Value} {cl : List (Str × Addr)} {outer : List Env} {A₀ : Around} {base h₀ : Heap} {L : Addr} {m : Str → Option Value} {news : List (Addr × Obj)} {s : Shared}
    {Q E : Value → Shared → Prop} (B : Below A₀ base outer h₀) (F : Fr h₀ L s.heap m) (X : K.In h₀) (N : News h₀ L s.heap news) (T : Top p loose mean mg mb h₀) (hk : cs.kind = .function) (hd : dp + d < recursionLimit) (hu : un + u < cLine) (hp : Pre news)
    (ret : ∀ r tl h' tk', Fr h₀ L h' m → News h₀ L h' (tl ++ news) → (∀ q ∈ news, ∀ p ∈ tl, q.1 < p.1) → Out tl r → Q r { s with heap := h', toks := tk' })
    (bad : ∀ X e g h' tk', Bad X → Fr h₀ L g m → g.UpToSlots h' → RaisedN base (envX cn cs L a ccd cl :: outer) e X news h' → E (.ref e) { s with heap := h', toks := tk' }) :
    wpAny (model prog w) (ktrTop dp un gd cn cs L a ccd cl outer) (call (.ref f) pos kw) Q E s :=
  C dp un gd cn cs a ccd cl outer A₀ base h₀ L m news s Q E B F X N T hk hd hu hp ret bad
/-- what a character of base64 stands for; 64: none -/
def v64 (c : Nat) : Nat := if 65 ≤ c ∧ c ≤ 90 then c - 65 else if 97 ≤ c ∧ c ≤ 122 then c - 71 else if 48 ≤ c ∧ c ≤ 57 then c + 4 else if c = 43 then 62 else if c = 47 then 63 else 64
theorem v64_le (c : Nat) : v64 c ≤ 64 := by
  unfold v64
  repeat (first | omega | split)
end Mine
namespace Mine
/-- the decoder's machine: place in the four, bits left, = seen, octets -/
def stepA (st : Nat × Nat × Nat × List Nat) (x : Nat) : Nat × Nat × Nat × List Nat :=
  if x = 61 then (st.1, st.2.1, st.2.2.1 + 1, st.2.2.2)
  else if 64 ≤ v64 x then st
  else if st.1 = 0 then (1, v64 x, 0, st.2.2.2)
  else if st.1 = 1 then (2, v64 x % 16, 0, st.2.2.2 ++ [st.2.1 * 4 + v64 x / 16])
  else if st.1 = 2 then (3, v64 x % 4, 0, st.2.2.2 ++ [st.2.1 * 16 + v64 x / 4])
  else (0, 0, 0, st.2.2.2 ++ [st.2.1 * 64 + v64 x])
def runA (l : List Nat) : Nat × Nat × Nat × List Nat := l.foldl stepA (0, 0, 0, [])
theorem runA_snoc (l : List Nat) (x : Nat) : runA (l ++ [x]) = stepA (runA l) x := by simp [runA]
/-- what the machine's states are -/
def OkA (st : Nat × Nat × Nat × List Nat) : Prop :=
  (st.1 = 0 ∨ (st.1 = 1 ∧ st.2.1 < 64) ∨ (st.1 = 2 ∧ st.2.1 < 16) ∨ (st.1 = 3 ∧ st.2.1 < 4)) ∧ ∀ k ∈ st.2.2.2, k < 256
theorem OkA.step {st : Nat × Nat × Nat × List Nat} (h : OkA st) (x : Nat) : OkA (stepA st x) := by
  obtain ⟨qp, lc, pads, out⟩ := st
  obtain ⟨h1, h2⟩ := h
  dsimp only at h1 h2
  unfold stepA
  dsimp only
  split
  · exact ⟨h1, h2⟩
  · split
    · exact ⟨h1, h2⟩
    · rcases h1 with rfl | ⟨rfl, h1⟩ | ⟨rfl, h1⟩ | ⟨rfl, h1⟩
      · refine ⟨.inr (.inl ⟨rfl, ?_⟩), h2⟩
        show v64 x < 64; omega
      · refine ⟨.inr (.inr (.inl ⟨rfl, ?_⟩)), ?_⟩
        · show v64 x % 16 < 16; omega
        · intro k hk
          rcases List.mem_append.mp hk with hk | hk
          · exact h2 k hk
          · rw [List.mem_singleton.mp hk]; omega
      · refine ⟨.inr (.inr (.inr ⟨rfl, ?_⟩)), ?_⟩
        · show v64 x % 4 < 4; omega
        · intro k hk
          rcases List.mem_append.mp hk with hk | hk
          · exact h2 k hk
          · rw [List.mem_singleton.mp hk]; omega
      · refine ⟨.inl rfl, ?_⟩
        intro k hk
        rcases List.mem_append.mp hk with hk | hk
        · exact h2 k hk
        · rw [List.mem_singleton.mp hk]; omega
theorem runA_ok (l : List Nat) : OkA (runA l) := by
  have h : ∀ l : List Nat, OkA (runA l.reverse) := by
    intro l
    induction l with
    | nil => exact ⟨.inl rfl, fun _ h => nomatch h⟩
    | cons x l ih => rw [List.reverse_cons, runA_snoc]; exact ih.step x
  have := h l.reverse
  rwa [List.reverse_reverse] at this
theorem runA_len (l : List Nat) : (runA l).2.2.2.length ≤ l.length := by
  have h : ∀ l : List Nat, (runA l.reverse).2.2.2.length ≤ l.length := by
    intro l
    induction l with
    | nil => exact Nat.le_refl _
    | cons x l ih =>
      rw [List.reverse_cons, runA_snoc]
      have hs : ∀ st, (stepA st x).2.2.2.length ≤ st.2.2.2.length + 1 := by
        intro st
        unfold stepA
        split
        · show st.2.2.2.length ≤ _; omega
        · split
          · omega
          · split
            · show st.2.2.2.length ≤ _; omega
            · split
              · simp
              · split
                · simp
                · simp
      have := hs (runA l.reverse)
      simp only [List.length_cons]
      omega
  have := h l.reverse
  simpa using this
/-- does the decoder answer, and what -/
def goodA (l : List Nat) : Bool := (runA l).1 != 1 && ((runA l).1 == 0 || (runA l).1 + (runA l).2.2.1 ≥ 4)
end Mine
namespace Mine
section
variable {qp lc pd x : Nat} {out : List Nat}
theorem stepA_pad (h : x = 61) : stepA (qp, lc, pd, out) x = (qp, lc, pd + 1, out) := by unfold stepA; rw [if_pos h]
theorem stepA_skip (h : x ≠ 61 ∧ 64 ≤ v64 x) : stepA (qp, lc, pd, out) x = (qp, lc, pd, out) := by unfold stepA; rw [if_neg h.1, if_pos h.2]
theorem stepA_0 (h : x ≠ 61 ∧ ¬ 64 ≤ v64 x ∧ qp = 0) : stepA (qp, lc, pd, out) x = (1, v64 x, 0, out) := by unfold stepA; rw [if_neg h.1, if_neg h.2.1, if_pos h.2.2]
theorem stepA_1 (h : x ≠ 61 ∧ ¬ 64 ≤ v64 x ∧ qp = 1) : stepA (qp, lc, pd, out) x = (2, v64 x % 16, 0, out ++ [lc * 4 + v64 x / 16]) := by unfold stepA; rw [if_neg h.1, if_neg h.2.1, if_neg (by show ¬ qp = 0; omega), if_pos h.2.2]
theorem stepA_2 (h : x ≠ 61 ∧ ¬ 64 ≤ v64 x ∧ qp = 2) : stepA (qp, lc, pd, out) x = (3, v64 x % 4, 0, out ++ [lc * 16 + v64 x / 4]) := by unfold stepA; rw [if_neg h.1, if_neg h.2.1, if_neg (by show ¬ qp = 0; omega), if_neg (by show ¬ qp = 1; omega), if_pos h.2.2]
theorem stepA_3 (h : x ≠ 61 ∧ ¬ 64 ≤ v64 x ∧ qp ≠ 0 ∧ qp ≠ 1 ∧ qp ≠ 2) : stepA (qp, lc, pd, out) x = (0, 0, 0, out ++ [lc * 64 + v64 x]) := by unfold stepA; rw [if_neg h.1, if_neg h.2.1, if_neg h.2.2.1, if_neg h.2.2.2.1, if_neg h.2.2.2.2]
end
end Mine
namespace Mine
open PySem PySem.W PySem.Spec PySem.Calls PyProof.Rows
section
variable {prog : Program} {w : World} {A : Around} {E : Value → Shared → Prop} {s : Shared} {h₀ : Heap} {L : Addr} {m : Str → Option Value} {news : List (Addr × Obj)}
theorem len_Z {l : Addr} {vs : List Value} {nn : Nat} {Q : Value → Shared → Prop} (N : News h₀ L s.heap news) (hl : (l, listOf vs.toArray nn) ∈ news) (h : ∀ t' k, Q (.int (vs.length : Int) t') { s with toks := k }) (hz : vs.length ≤ 1000000) :
    wpAny (model prog w) A (call (.builtin "len") [.ref l]) Q E s := by
  have e : vs.toArray.size = vs.length := by simp
  refine call_len_list (l := l) (items := vs.toArray) ⟨_, (N _ hl).1, rfl, nn, rfl⟩ (by rw [e]; omega) ?_
  first
    | (rw [e]; exact h _ _)
    | (simp only [e]; exact h _ _)
end
end Mine
namespace Mine
open PySem PySem.W PySem.Spec PySem.Calls PyProof.Rows
/-- a call of a def of the text; Bad says how an exception stands that leaves it -/
def Spec3 (prog : Program) (w : World) (K : Frag) (p : Program) (loose : List Str) (mean : ExcName → Option Value) (mg mb : Str → Option Value) (f : Addr) (pos : List Value) (kw : List (Str × Value)) (d u : Nat)
    (Pre : List (Addr × Obj) → Prop) (Out : List (Addr × Obj) → Value → Prop) (Bad : Heap → Heap → List Env → Addr → List (Addr × Obj) → Heap → Prop) : Prop :=
  ∀ (dp un : Nat) (gd : Option (List Code)) (cn : Str) (cs : Scope) (a : Addr) (ccd : Value) (cl : List (Str × Addr)) (outer : List Env) (A₀ : Around) (base h₀ : Heap) (L : Addr) (m : Str → Option Value) (news : List (Addr × Obj)) (s : Shared)
    (Q E : Value → Shared → Prop),
    Below A₀ base outer h₀ → Fr h₀ L s.heap m → K.In h₀ → News h₀ L s.heap news → Top p loose mean mg mb h₀ → cs.kind = .function → dp + d < recursionLimit → un + u < cLine → Pre news →
    (∀ r tl h' tk', Fr h₀ L h' m → News h₀ L h' (tl ++ news) → (∀ q ∈ news, ∀ p ∈ tl, q.1 < p.1) → Out tl r → Q r { s with heap := h', toks := tk' }) →
    (∀ e g h' tk', Bad base g (envX cn cs L a ccd cl :: outer) e news h' → Fr h₀ L g m → g.UpToSlots h' → E (.ref e) { s with heap := h', toks := tk' }) →
    wpAny (model prog w) (ktrTop dp un gd cn cs L a ccd cl outer) (call (.ref f) pos kw) Q E s
theorem Spec3.use {prog : Program} {w : World} {K : Frag} {p : Program} {loose : List Str} {mean : ExcName → Option Value} {mg mb : Str → Option Value} {f : Addr} {pos : List Value} {kw : List (Str × Value)} {d u : Nat}
    {Pre : List (Addr × Obj) → Prop} {Out : List (Addr × Obj) → Value → Prop} {Bad : Heap → Heap → List Env → Addr → List (Addr × Obj) → Heap → Prop} (C : Spec3 prog w K p loose mean mg mb f pos kw d u Pre Out Bad)
    {dp un : Nat} {gd : Option (List Code)} {cn : Str} {cs : Scope} {a : Addr} {ccd : Value} {cl : List (Str × Addr)} {outer : List Env} {A₀ : Around} {base h₀ : Heap} {L : Addr} {m : Str → Option Value} {news : List (Addr × Obj)} {s : Shared}
    {Q E : Value → Shared → Prop} (B : Below A₀ base outer h₀) (F : Fr h₀ L s.heap m) (X : K.In h₀) (N : News h₀ L s.heap news) (T : Top p loose mean mg mb h₀) (hk : cs.kind = .function) (hd : dp + d < recursionLimit) (hu : un + u < cLine) (hp : Pre news)
    (ret : ∀ r tl h' tk', Fr h₀ L h' m → News h₀ L h' (tl ++ news) → (∀ q ∈ news, ∀ p ∈ tl, q.1 < p.1) → Out tl r → Q r { s with heap := h', toks := tk' })
    (bad : ∀ e g h' tk', Bad base g (envX cn cs L a ccd cl :: outer) e news h' → Fr h₀ L g m → g.UpToSlots h' → E (.ref e) { s with heap := h', toks := tk' }) :
    wpAny (model prog w) (ktrTop dp un gd cn cs L a ccd cl outer) (call (.ref f) pos kw) Q E s :=
  C dp un gd cn cs a ccd cl outer A₀ base h₀ L m news s Q E B F X N T hk hd hu hp ret bad
def BadO (c : Prop) (C : Addr) : Heap → Heap → List Env → Addr → List (Addr × Obj) → Heap → Prop := fun base G l e news h => c ∧ ∃ t vs, RaisedS base G l e (.ref C) t vs news h
theorem raisedS_sub {base G : Heap} {l : List Env} {e t : Addr} {cls : Value} {vs : List Value} {news news' : List (Addr × Obj)} {h : Heap} (R : RaisedS base G l e cls t vs news' h) (hs : ∀ p ∈ news, p ∈ news') : RaisedS base G l e cls t vs news h := by
  obtain ⟨⟨B, h1, h2, h3, h4⟩, h5⟩ := R
  exact ⟨⟨B, h1, h2, fun q hq => h3 q (hs q hq), h4⟩, h5⟩
end Mine
namespace Mine
open PySem PySem.W PySem.Spec PySem.Calls PyProof.Rows
namespace SE
open Builtin Builtin.Str Builtin._codecs
theorem road_utf8b (id : String) (self : Value) (x : Str) : encodeRoad id self x (Str.ofString "utf-8") none = (encodeNarrow id utf8Codec none self x >>= fun b => mkBytes b) := by
  kernel_rfl
theorem entry_utf8b (x : Str) (t t1 : Tok) : «str.encode» ⟨[.str x t, .str (Str.ofString "utf-8") t1], []⟩ = (encodeRoad "str.encode" (.str x t) x (Str.ofString "utf-8") none >>= fun v => ret v) := by kernel_rfl
theorem meets_utf8b (x : Str) (t t1 : Tok) (hg : ∀ k ∈ x.cps.toList, Str.isSurrogate k = false) : Meets («str.encode» ⟨[.str x t, .str (Str.ofString "utf-8") t1], []⟩) (fun _ R s => (enc Str.utf8Of x).size ≤ sizeLine ∧ ∀ t' k, R (.ok (.ret (.bytes (enc Str.utf8Of x) t'))) { s with toks := k }) := by
  refine .of_wp fun prog w A R s hS => ?_
  obtain ⟨hz, h⟩ := hS
  rw [entry_utf8b, road_utf8b]
  refine wpAny_bind (wpAny_bind (narrow_ok _ utf8Codec _ _ hg hz ?_))
  exact wpAny_mkBytes (wpAny_pure ⟨_, rfl, h _ _⟩) hz
end SE
section
variable {prog : Program} {w : World} {A : Around} {E : Value → Shared → Prop} {s : Shared} {Q : Value → Shared → Prop} {x : Str} {t t1 : Tok}
theorem enc_utf8b (hg : ∀ k ∈ x.cps.toList, Str.isSurrogate k = false) (hz : (SE.enc Str.utf8Of x).size ≤ sizeLine) (h : ∀ t' k, Q (.bytes (SE.enc Str.utf8Of x) t') { s with toks := k }) :
    wpAny (model prog w) A (call (.builtin "str.encode") [.str x t, .str (Str.ofString "utf-8") t1]) Q E s :=
  call_meets F.slot_str_encode (typeIs_str _ _ _) F.entry_str_encode (F.args_str_encode_2 _ _) (SE.meets_utf8b x t t1 hg) ⟨hz, h⟩
end
end Mine
namespace Mine
open PySem PySem.W PySem.Spec PySem.Calls PyProof.Rows
end Mine

namespace Mine
open PySem PySem.W PySem.Spec PySem.Calls PyProof.Rows
section
variable {prog : Program} {w : World} {A : Around} {E : Value → Shared → Prop} {Q : Flow → Shared → Prop} {s : Shared} {env : Env} {h₀ : Heap} {L : Addr}
/-- a for's turn ends; some rows are kept as they are -/
def FkEnd {σ : Type} (h₀ : Heap) (L : Addr) (s : Shared) (keep : List (Addr × Obj)) (Led : σ → List (Addr × Obj)) (ps : σ → List (Str × Value)) (P : σ → Prop) (own : List (Addr × Obj)) (s₂ : Shared) : Prop :=
  ∃ (c' : σ) (h' : Heap) (tk : Nat) (m' : Str → Option Value) (news' : List (Addr × Obj)), s₂ = { s with heap := h', toks := tk } ∧ Fr h₀ L h' m' ∧ News h₀ L h' news' ∧ (∀ p ∈ Led c', p ∈ news') ∧ (∀ p ∈ keep, p ∈ news') ∧ (∀ p ∈ own, p ∈ news') ∧ OwnOff own ((Led c').map (·.1)) ∧ HasAll m' (ps c') ∧ P c'
def FkPost {σ : Type} (h₀ : Heap) (L : Addr) (s : Shared) (keep : List (Addr × Obj)) (Led : σ → List (Addr × Obj)) (ps : σ → List (Str × Value)) (P : σ → Prop) (own : List (Addr × Obj)) (Q : Flow → Shared → Prop) (f : Flow) (s₂ : Shared) : Prop :=
  match f with
  | .ret v => Q (.ret v) s₂
  | .brk => Q .next s₂
  | _ => FkEnd h₀ L s keep Led ps P own s₂
theorem fkEnd {σ : Type} {keep : List (Addr × Obj)} {Led : σ → List (Addr × Obj)} {ps : σ → List (Str × Value)} {P : σ → Prop} {own : List (Addr × Obj)} {h' : Heap} {tk : Nat} {m' : Str → Option Value} {news' : List (Addr × Obj)} (F : Fr h₀ L h' m') (N : News h₀ L h' news') (c' : σ)
    (hn : ∀ p ∈ Led c', p ∈ news') (hkp : ∀ p ∈ keep, p ∈ news') (ho : ∀ p ∈ own, p ∈ news') (ha : OwnOff own ((Led c').map (·.1))) (hk : HasAll m' (ps c')) (hp : P c') : FkEnd h₀ L s keep Led ps P own { s with heap := h', toks := tk } := ⟨c', h', tk, m', news', rfl, F, N, hn, hkp, ho, ha, hk, hp⟩
theorem for_K {σ : Type} {x : Str} {body : List Stmt} {I : Addr} {fp wr : List Addr} {n : Nat} {Pv : Nat → Value → Prop} {St : Nat → Heap → Prop} {m₀ : Str → Option Value} (keep : List (Addr × Obj)) (Led : σ → List (Addr × Obj)) (ps : σ → List (Str × Value)) (P : Nat → σ → Prop) (c₀ : σ)
    (W : Walks prog w A I fp wr n Pv St) (hLf : env.locals ∉ fp) (hwr : ∀ b ∈ wr, h₀.get? b = none) (hlive : ∀ i h, St i h → ∀ b ∈ fp, ∃ o, h.get? b = some o)
    (hst : St 0 s.heap) (F : Fr h₀ env.locals s.heap m₀) (N : News h₀ env.locals s.heap (Led c₀ ++ keep)) (hfp : ∀ q ∈ Led c₀, q.1 ∉ fp) (hkw : ∀ q ∈ keep, q.1 ∉ wr) (hk : HasAll m₀ (ps c₀)) (hp : P 0 c₀)
    (turn : ∀ i v (c : σ) (u : Str → Option Value) h tk own, i < n → Pv i v → P i c → OwnOff own ((Led c).map (·.1)) → (∀ b ∈ fp, h₀.get? b = none → ∀ o, h.get? b = some o → (b, o) ∈ own) → St (i + 1) h →
      Fr h₀ env.locals h (fun y => if y = x then some v else kstB u (ps c) y) → News h₀ env.locals h (Led c ++ (keep ++ own)) →
      wpAny (model prog w) A (execs body env) (FkPost h₀ env.locals { s with heap := h, toks := tk } keep Led ps (P (i + 1)) own Q) E { s with heap := h, toks := tk })
    (done : ∀ (c : σ) (u : Str → Option Value) h tk, P n c → Fr h₀ env.locals h (kstB u (ps c)) → News h₀ env.locals h (Led c ++ keep) → Q .next { s with heap := h, toks := tk }) :
    LoopAtV prog w A h₀ env x body Q E (.ref I) s := by
  refine ⟨I, fp, wr, n, Pv, St, m₀, Led c₀ ++ keep, fun i m nx => ∃ c : σ, nx = Led c ++ keep ∧ HasAll m (ps c) ∧ P i c ∧ ∀ q ∈ Led c, q.1 ∉ fp, rfl, W, hLf, hwr, fun p hp hm => (List.mem_append.mp hp).elim (fun h => hfp p h (W.sub _ hm)) (fun h => hkw p h hm), hst, F, N, ⟨c₀, rfl, hk, hp, hfp⟩, ?_, ?_⟩
  · rintro i v m₁ news₁ s₁ own ⟨hh', tk', rfl⟩ hin hP ⟨c, rfl, h1, hp', hoff'⟩ hoff hown hget hall hst' F₁ N₁
    have hsep : OwnOff own ((Led c).map (·.1)) := by
      intro p hp b hb e
      obtain ⟨q, hq, rfl⟩ := List.mem_map.mp hb
      exact hoff' q hq (e ▸ hown p hp)
    rw [hasAll_x h1] at F₁
    have N₂ : News h₀ env.locals hh' (Led c ++ (keep ++ own)) := fun p hp => N₁ p (by
      simp only [List.mem_append] at hp ⊢
      rcases hp with h | h | h
      · exact .inr (.inl h)
      · exact .inr (.inr h)
      · exact .inl h)
    refine wpAny_mono (turn i v c m₁ hh' tk' own hin hP hp' hsep hall hst' F₁ N₂) (fun f s₂ p => ?_) fun _ _ e => e
    have fin : FkEnd h₀ env.locals { s with heap := hh', toks := tk' } keep Led ps (P (i + 1)) own s₂ → LoopStepU h₀ env.locals wr own (fun m nx => ∃ c : σ, nx = Led c ++ keep ∧ HasAll m (ps c) ∧ P (i + 1) c ∧ ∀ q ∈ Led c, q.1 ∉ fp) { s with heap := hh', toks := tk' } .next s₂ := by
      rintro ⟨c', h', tk, m', news', e, F', N', hn, hkp, ho, ha, hk', hp''⟩
      have hfp' : ∀ q ∈ Led c', q.1 ∉ fp := by
        intro q hq hm
        obtain ⟨o, ho'⟩ := hlive _ _ hst' _ hm
        exact ha _ (hall _ hm (N' _ (hn q hq)).2.2 o ho') _ (List.mem_map_of_mem hq) rfl
      exact ⟨rfl, h', tk, m', Led c' ++ keep, e, F', fun p hp => N' p (by
        simp only [List.mem_append] at hp
        rcases hp with h | h | h
        · exact ho p h
        · exact hn p h
        · exact hkp p h), fun p hp hq => (List.mem_append.mp hp).elim (fun h => hfp' p h (W.sub _ hq)) (fun h => hkw p h hq), c', rfl, hk', hp'', hfp'⟩
    cases f with
    | ret v => exact .ret p
    | brk => exact .brk p
    | next => exact .next (fin p)
    | cont => exact .cont (fin p)
  · rintro h' tk m' news' F' N' _ ⟨c, rfl, h1, hp', _⟩
    rw [← hasAll_eq h1] at F'
    exact done c m' h' tk hp' F' N'
/-- a loop over a list of the ledger, which no turn changes and which stays on the ledger -/
theorem for_listK {σ : Type} {x : Str} {body : List Stmt} {l : Addr} {vs : List Value} {nn : Nat} {m₀ : Str → Option Value} {news₀ : List (Addr × Obj)} (keep : List (Addr × Obj)) (Led : σ → List (Addr × Obj)) (ps : σ → List (Str × Value)) (P : Nat → σ → Prop) (c₀ : σ)
    (hh : A.handled = none) (hl : (l, listOf vs.toArray nn) ∈ news₀) (hoffl : ∀ p ∈ Led c₀, p.1 ≠ l) (F : Fr h₀ env.locals s.heap m₀) (N : News h₀ env.locals s.heap news₀) (hL : ∀ p ∈ Led c₀, p ∈ news₀) (hkp : ∀ p ∈ keep, p ∈ news₀) (hk : HasAll m₀ (ps c₀)) (hp : P 0 c₀)
    (turn : ∀ i v (c : σ) (u : Str → Option Value) h tk own, i < vs.length → vs[i]? = some v → P i c → OwnOff own ((Led c).map (·.1)) → (l, listOf vs.toArray nn) ∈ own →
      Fr h₀ env.locals h (fun y => if y = x then some v else kstB u (ps c) y) → News h₀ env.locals h (Led c ++ (keep ++ own)) →
      wpAny (model prog w) A (execs body env) (FkPost h₀ env.locals { s with heap := h, toks := tk } keep Led ps (fun c => P (i + 1) c) own Q) E { s with heap := h, toks := tk })
    (done : ∀ (c : σ) (u : Str → Option Value) h tk, P vs.length c → Fr h₀ env.locals h (kstB u (ps c)) → News h₀ env.locals h (Led c ++ keep) → Q .next { s with heap := h, toks := tk }) :
    wpAny (model prog w) A (pyIter (.ref l)) (fun it s₂ => LoopAtV prog w A h₀ env x body Q E it s₂) E s := by
  have hln := N _ hl
  have hls : s.heap.IsList l vs.toArray := ⟨_, hln.1, rfl, nn, rfl⟩
  have hne : l ≠ s.heap.objs.size := Nat.ne_of_lt (Heap.lt_size hln.1)
  have N' : News h₀ env.locals s.heap (Led c₀ ++ keep) := fun p hp => N p ((List.mem_append.mp hp).elim (hL p) (hkp p))
  refine wpAny_pyIter_list hls ?_
  have W0 := Walks.list (prog := prog) (w := w) hh s.heap.objs.size l hne vs.toArray
  have W : Walks prog w A s.heap.objs.size [s.heap.objs.size, l] [s.heap.objs.size] vs.length (fun i v => vs.toArray[i]? = some v) (fun i h => (h.IsListIter s.heap.objs.size l i ∧ h.IsList l vs.toArray) ∧ h.get? l = some (listOf vs.toArray nn)) :=
    { sub := W0.sub
      frame := fun i h h' st hk => ⟨W0.frame i h h' st.1 hk, hk l (by simp) _ st.2⟩
      item := fun i s Q E hi st hQ => W0.item i s Q E (by simpa using hi) st.1 fun v h' tk hv st' hk => hQ v h' tk hv ⟨st', hk l _ (by simp; exact hne) st.2⟩ hk
      done := fun s Q E st hQ => W0.done s Q E (by simpa using st.1) hQ
      self := fun i s Q E st hQ => W0.self i s Q E st.1 hQ }
  refine for_K keep Led ps P c₀ W ?_ ?_ ?_ ⟨⟨⟨_, Heap.get?_push_size _ rfl, rfl, rfl⟩, hls.at fun o e => Heap.get?_push_of_some _ e⟩, Heap.get?_push_of_some _ hln.1⟩ (F.push _) (fun p hp => ⟨Heap.get?_push_of_some _ (N' p hp).1, (N' p hp).2⟩) ?_ ?_ hk hp ?_ ?_
  · intro hm
    rcases List.mem_cons.mp hm with e | hm
    · exact absurd F.ns.lt (e ▸ Nat.lt_irrefl _)
    · exact hln.2.1 (List.mem_singleton.mp hm).symm
  · intro b hb
    rw [List.mem_singleton.mp hb]
    exact next_is_new F
  · rintro i h ⟨⟨⟨o1, e1, _⟩, ⟨o2, e2, _⟩⟩, _⟩ b hb
    rcases List.mem_cons.mp hb with rfl | hb
    · exact ⟨o1, e1⟩
    · rw [List.mem_singleton.mp hb]; exact ⟨o2, e2⟩
  · intro q hq hm
    rcases List.mem_cons.mp hm with e | hm
    · exact absurd (Heap.lt_size (N' q (List.mem_append_left _ hq)).1) (by rw [e]; exact Nat.lt_irrefl _)
    · exact hoffl q hq (List.mem_singleton.mp hm)
  · intro q hq hm
    exact absurd (Heap.lt_size (N' q (List.mem_append_right _ hq)).1) (by rw [List.mem_singleton.mp hm]; exact Nat.lt_irrefl _)
  · intro i v c u h tk own hi hv hp' hoff hall hst F₁ N₁
    exact turn i v c u h tk own hi (by simpa using hv) hp' hoff (hall l (by simp) hln.2.2 _ hst.2) F₁ N₁
  · exact done
end
end Mine
namespace Mine
open PySem PySem.W PySem.Spec PySem.Calls PyProof.Rows
section
variable {prog : Program} {w : World} {A : Around} {E : Value → Shared → Prop} {s : Shared} {h₀ : Heap} {L D : Addr} {m : Str → Option Value} {news news' : List (Addr × Obj)} {n : Nat} {vs : List Value} {y : Value} {u : Tok} {Q : Value → Shared → Prop}
theorem insert0_Z (F : Fr h₀ L s.heap m) (N : News h₀ L s.heap news) (U : Upd D (listOf vs.toArray n) (listOf (y :: vs).toArray (n + 1)) news news') (hz : vs.length ≤ 1000000)
    (h : ∀ h', Fr h₀ L h' m → News h₀ L h' news' → Q .none { s with heap := h' }) : wpAny (model prog w) A (call (.builtin "list.insert") [.ref D, .int 0 u, y]) Q E s :=
  kl_insert F N rfl (l := y :: vs) (by unfold kl_ins; simp) U (by rw [sizeLine_eq]; simp; omega) h
end
/-- digits to base 64 as one number; its low octets, the highest first -/
def num64 (l : List Nat) : Nat := l.foldl (fun n v => n * 64 + v) 0
theorem num64_snoc (l : List Nat) (x : Nat) : num64 (l ++ [x]) = num64 l * 64 + x := by simp [num64]
def octL : Nat → Nat → List Nat
  | 0, _ => []
  | k + 1, n => n / 256 ^ k % 256 :: octL k n
def dueL (V : List Nat) : List Nat := octL (V.length * 3 / 4) (num64 V / 2 ^ (6 * V.length - 8 * (V.length * 3 / 4)))
end Mine

namespace Mine
open PySem PySem.W PySem.Spec PySem.Calls PyProof.Rows
section
variable {prog : Program} {w : World} {A : Around} {E : Value → Shared → Prop} {s : Shared} {Q : Value → Shared → Prop}
end
/-- the octets of a code point -/
def u8 (c : Nat) : List Nat := (Str.utf8Of c).map UInt8.toNat
theorem octs_enc (x : Str) : octs (SE.enc Str.utf8Of x) = x.cps.toList.flatMap u8 := by
  unfold octs SE.enc u8
  simp [List.map_flatMap]
/-- a code point that base64 has not -/
def alien (c : Nat) : Prop := c ≠ 61 ∧ 64 ≤ v64 c ∧ Str.isSurrogate c = false ∧ c < 1114112
theorem v64_big {o : Nat} (h : 128 ≤ o) : 64 ≤ v64 o := by
  unfold v64
  repeat (first | omega | split)
theorem u8_alien {c : Nat} (h : alien c) : ∀ o ∈ u8 c, o ≠ 61 ∧ 64 ≤ v64 o := by
  obtain ⟨h1, h2, h3, h4⟩ := h
  intro o ho
  unfold u8 Str.utf8Of at ho
  split at ho
  · simp only [List.map_cons, List.map_nil, List.mem_singleton] at ho
    subst ho
    rw [UInt8.toNat_ofNat', Nat.mod_eq_of_lt (by omega)]
    exact ⟨h1, h2⟩
  · have hb : 128 ≤ o := by
      split at ho
      · simp at ho
        omega
      · split at ho
        · simp at ho
          omega
        · simp at ho
          omega
    exact ⟨by omega, v64_big hb⟩
theorem v64_sgn {v : Nat} (h : v < 64) : v64 (sgn v) = v := (by decide +kernel : ∀ k : Fin 64, v64 (sgn k.1) = k.1) ⟨v, h⟩
theorem sgn_ne61 {v : Nat} (h : v < 64) : sgn v ≠ 61 := (by decide +kernel : ∀ k : Fin 64, sgn k.1 ≠ 61) ⟨v, h⟩
theorem fold_alien (st : Nat × Nat × Nat × List Nat) (l : List Nat) (h : ∀ o ∈ l, o ≠ 61 ∧ 64 ≤ v64 o) : l.foldl stepA st = st := by
  induction l with
  | nil => rfl
  | cons o l ih =>
    rw [List.foldl_cons]
    have : stepA st o = st := by obtain ⟨a, b, c, d⟩ := st; exact stepA_skip (h o (by simp))
    rw [this]
    exact ih fun o ho => h o (by simp [ho])
/-- the machine's state after signs alone -/
def runV (V : List Nat) : Nat × Nat × Nat × List Nat := (V.map sgn).foldl stepA (0, 0, 0, [])
theorem runV_snoc (V : List Nat) (v : Nat) : runV (V ++ [v]) = stepA (runV V) (sgn v) := by simp [runV]
theorem octL_snoc (k n : Nat) : octL (k + 1) n = octL k (n / 256) ++ [n % 256] := by
  induction k with
  | zero => simp [octL]
  | succ k ih =>
    show n / 256 ^ (k + 1) % 256 :: octL (k + 1) n = (n / 256 / 256 ^ k % 256 :: octL k (n / 256)) ++ _
    rw [ih, Nat.pow_succ, Nat.mul_comm, ← Nat.div_div_eq_div_mul]
    rfl
theorem runV_state (V : List Nat) (hV : ∀ v ∈ V, v < 64) : runV V = (V.length % 4, num64 V % 2 ^ (6 * V.length - 8 * (V.length * 3 / 4)), 0, dueL V) := by
  have h : ∀ V : List Nat, (∀ v ∈ V, v < 64) → runV V.reverse = (V.length % 4, num64 V.reverse % 2 ^ (6 * V.length - 8 * (V.length * 3 / 4)), 0, octL (V.length * 3 / 4) (num64 V.reverse / 2 ^ (6 * V.length - 8 * (V.length * 3 / 4)))) := by
    intro V
    induction V with
    | nil => intro _; rfl
    | cons v V ih =>
      intro hV
      have ih := ih fun v hv => hV v (by simp [hv])
      have hv := hV v (by simp)
      rw [List.reverse_cons, runV_snoc, ih, num64_snoc, List.length_cons]
      generalize num64 V.reverse = n
      have hs := v64_sgn hv
      have h61 := sgn_ne61 hv
      obtain ⟨q, r, hq, hr⟩ : ∃ q r, V.length = 4 * q + r ∧ (r = 0 ∨ r = 1 ∨ r = 2 ∨ r = 3) := ⟨V.length / 4, V.length % 4, by omega, by omega⟩
      rw [hq]
      rcases hr with rfl | rfl | rfl | rfl
      · rw [show (4 * q + 0) % 4 = 0 by omega, show (4 * q + 0) * 3 / 4 = 3 * q by omega, show (4 * q + 0 + 1) * 3 / 4 = 3 * q by omega, show (4 * q + 0 + 1) % 4 = 1 by omega, show 6 * (4 * q + 0) - 8 * (3 * q) = 0 by omega, show 6 * (4 * q + 0 + 1) - 8 * (3 * q) = 6 by omega]
        rw [stepA_0 ⟨h61, by omega, rfl⟩, hs, show (n * 64 + v) % 2 ^ 6 = v by omega, show (n * 64 + v) / 2 ^ 6 = n / 2 ^ 0 by omega]
      · rw [show (4 * q + 1) % 4 = 1 by omega, show (4 * q + 1) * 3 / 4 = 3 * q by omega, show (4 * q + 1 + 1) * 3 / 4 = 3 * q + 1 by omega, show (4 * q + 1 + 1) % 4 = 2 by omega, show 6 * (4 * q + 1) - 8 * (3 * q) = 6 by omega, show 6 * (4 * q + 1 + 1) - 8 * (3 * q + 1) = 4 by omega]
        rw [stepA_1 ⟨h61, by omega, rfl⟩, hs, octL_snoc, show (n * 64 + v) % 2 ^ 4 = v % 16 by omega, show (n * 64 + v) / 2 ^ 4 / 256 = n / 2 ^ 6 by omega, show (n * 64 + v) / 2 ^ 4 % 256 = n % 2 ^ 6 * 4 + v / 16 by omega]
      · rw [show (4 * q + 2) % 4 = 2 by omega, show (4 * q + 2) * 3 / 4 = 3 * q + 1 by omega, show (4 * q + 2 + 1) * 3 / 4 = 3 * q + 1 + 1 by omega, show (4 * q + 2 + 1) % 4 = 3 by omega, show 6 * (4 * q + 2) - 8 * (3 * q + 1) = 4 by omega, show 6 * (4 * q + 2 + 1) - 8 * (3 * q + 1 + 1) = 2 by omega]
        rw [stepA_2 ⟨h61, by omega, rfl⟩, hs, octL_snoc (3 * q + 1), show (n * 64 + v) % 2 ^ 2 = v % 4 by omega, show (n * 64 + v) / 2 ^ 2 / 256 = n / 2 ^ 4 by omega, show (n * 64 + v) / 2 ^ 2 % 256 = n % 2 ^ 4 * 16 + v / 4 by omega]
      · rw [show (4 * q + 3) % 4 = 3 by omega, show (4 * q + 3) * 3 / 4 = 3 * q + 2 by omega, show (4 * q + 3 + 1) * 3 / 4 = 3 * q + 2 + 1 by omega, show (4 * q + 3 + 1) % 4 = 0 by omega, show 6 * (4 * q + 3) - 8 * (3 * q + 2) = 2 by omega, show 6 * (4 * q + 3 + 1) - 8 * (3 * q + 2 + 1) = 0 by omega]
        rw [stepA_3 ⟨h61, by omega, by omega, by omega, by omega⟩, hs, octL_snoc (3 * q + 2), show (n * 64 + v) % 2 ^ 0 = 0 by omega, show (n * 64 + v) / 2 ^ 0 / 256 = n / 2 ^ 2 by omega, show (n * 64 + v) / 2 ^ 0 % 256 = n % 2 ^ 2 * 64 + v by omega]
  have := h V.reverse fun v hv => hV v (by simpa using hv)
  simpa [dueL] using this
end Mine

namespace Mine
open PySem PySem.W PySem.Spec PySem.Calls PyProof.Rows
section
variable {prog : Program} {w : World} {A : Around} {E : Value → Shared → Prop} {Q : Flow → Shared → Prop} {s : Shared} {env : Env} {h₀ : Heap} {L : Addr}
/-- a loop with any target over a list of the ledger, which no turn changes -/
theorem for_turnsK {σ : Type} {target : Expr} {body : List Stmt} {l : Addr} {vs : List Value} {nn : Nat} {m₀ : Str → Option Value} {news₀ : List (Addr × Obj)} (keep : List (Addr × Obj)) (Led : σ → List (Addr × Obj)) (ps : σ → List (Str × Value)) (P : Nat → σ → Prop) (c₀ : σ)
    (hh : A.handled = none) (hl : (l, listOf vs.toArray nn) ∈ news₀) (hoffl : ∀ p ∈ Led c₀, p.1 ≠ l) (F : Fr h₀ env.locals s.heap m₀) (N : News h₀ env.locals s.heap news₀) (hL : ∀ p ∈ Led c₀, p ∈ news₀) (hkp : ∀ p ∈ keep, p ∈ news₀) (hk : HasAll m₀ (ps c₀)) (hp : P 0 c₀)
    (turn : ∀ i v (c : σ) (u : Str → Option Value) h tk own, i < vs.length → vs[i]? = some v → P i c → OwnOff own ((Led c).map (·.1)) → (l, listOf vs.toArray nn) ∈ own →
      Fr h₀ env.locals h (kstB u (ps c)) → News h₀ env.locals h (Led c ++ (keep ++ own)) →
      wpAny (model prog w) A (assign target env v) (fun _ s₃ => wpAny (model prog w) A (execs body env) (FkPost h₀ env.locals { s with heap := h, toks := tk } keep Led ps (fun c => P (i + 1) c) own Q) E s₃) E { s with heap := h, toks := tk })
    (done : ∀ (c : σ) (u : Str → Option Value) h tk, P vs.length c → Fr h₀ env.locals h (kstB u (ps c)) → News h₀ env.locals h (Led c ++ keep) → Q .next { s with heap := h, toks := tk }) :
    wpAny (model prog w) A (pyIter (.ref l)) (fun it s₂ => TurnsAt prog w A h₀ env target body Q E it s₂) E s := by
  have hln := N _ hl
  have hls : s.heap.IsList l vs.toArray := ⟨_, hln.1, rfl, nn, rfl⟩
  have hne : l ≠ s.heap.objs.size := Nat.ne_of_lt (Heap.lt_size hln.1)
  have N' : News h₀ env.locals s.heap (Led c₀ ++ keep) := fun p hp => N p ((List.mem_append.mp hp).elim (hL p) (hkp p))
  refine wpAny_pyIter_list hls ?_
  have W0 := Walks.list (prog := prog) (w := w) hh s.heap.objs.size l hne vs.toArray
  have W : Walks prog w A s.heap.objs.size [s.heap.objs.size, l] [s.heap.objs.size] vs.length (fun i v => vs.toArray[i]? = some v) (fun i h => (h.IsListIter s.heap.objs.size l i ∧ h.IsList l vs.toArray) ∧ h.get? l = some (listOf vs.toArray nn)) :=
    { sub := W0.sub
      frame := fun i h h' st hk => ⟨W0.frame i h h' st.1 hk, hk l (by simp) _ st.2⟩
      item := fun i s Q E hi st hQ => W0.item i s Q E (by simpa using hi) st.1 fun v h' tk hv st' hk => hQ v h' tk hv ⟨st', hk l _ (by simp; exact hne) st.2⟩ hk
      done := fun s Q E st hQ => W0.done s Q E (by simpa using st.1) hQ
      self := fun i s Q E st hQ => W0.self i s Q E st.1 hQ }
  have hfpL : ∀ q ∈ Led c₀, q.1 ∉ [s.heap.objs.size, l] := by
    intro q hq hm
    rcases List.mem_cons.mp hm with e | hm
    · exact absurd (Heap.lt_size (N' q (List.mem_append_left _ hq)).1) (by rw [e]; exact Nat.lt_irrefl _)
    · exact hoffl q hq (List.mem_singleton.mp hm)
  have hwrA : ∀ q ∈ Led c₀ ++ keep, q.1 ∉ [s.heap.objs.size] := by
    intro q hq hm
    exact absurd (Heap.lt_size (N' q hq).1) (by rw [List.mem_singleton.mp hm]; exact Nat.lt_irrefl _)
  have hLf : env.locals ∉ [s.heap.objs.size, l] := by
    intro hm
    rcases List.mem_cons.mp hm with e | hm
    · exact absurd F.ns.lt (e ▸ Nat.lt_irrefl _)
    · exact hln.2.1 (List.mem_singleton.mp hm).symm
  refine ⟨s.heap.objs.size, [s.heap.objs.size, l], [s.heap.objs.size], vs.length, _, _, _, m₀, Led c₀ ++ keep, fun i m nx => ∃ c : σ, nx = Led c ++ keep ∧ HasAll m (ps c) ∧ P i c ∧ ∀ q ∈ Led c, q.1 ∉ [s.heap.objs.size, l], rfl,
    KTurns.ofWalks W (fun i v s Q E st q => letGo_listiter st.1.1 q), hLf, ?_, hwrA, ⟨⟨⟨_, Heap.get?_push_size _ rfl, rfl, rfl⟩, hls.at fun o e => Heap.get?_push_of_some _ e⟩, Heap.get?_push_of_some _ hln.1⟩, F.push _, (fun p hp => ⟨Heap.get?_push_of_some _ (N' p hp).1, (N' p hp).2⟩), ⟨c₀, rfl, hk, hp, hfpL⟩, ?_, ?_⟩
  · intro b hb
    rw [List.mem_singleton.mp hb]
    exact next_is_new F
  · rintro i v m₁ news₁ hh' tk' own hin hP ⟨c, rfl, h1, hp', hoff'⟩ hnw hown hget hall hst' F₁ N₁
    have hsep : OwnOff own ((Led c).map (·.1)) := by
      intro p hp b hb e
      obtain ⟨q, hq, rfl⟩ := List.mem_map.mp hb
      exact hoff' q hq (e ▸ hown p hp)
    rw [← hasAll_eq h1] at F₁
    have N₂ : News h₀ env.locals hh' (Led c ++ (keep ++ own)) := fun p hp => N₁ p (by
      simp only [List.mem_append] at hp ⊢
      rcases hp with h | h | h
      · exact .inr (.inl h)
      · exact .inr (.inr h)
      · exact .inl h)
    have hlow : (l, listOf vs.toArray nn) ∈ own := hall l (by simp) hln.2.2 _ hst'.2
    refine wpAny_mono (turn i v c m₁ hh' tk' own hin (by simpa using hP) hp' hsep hlow F₁ N₂) (fun _ s₂ h₂ => wpAny_mono h₂ (fun f s₃ p => ?_) fun _ _ e => e) fun _ _ e => e
    have fin : FkEnd h₀ env.locals { s with heap := hh', toks := tk' } keep Led ps (P (i + 1)) own s₃ → LoopStepU h₀ env.locals [s.heap.objs.size] own (fun m nx => ∃ c : σ, nx = Led c ++ keep ∧ HasAll m (ps c) ∧ P (i + 1) c ∧ ∀ q ∈ Led c, q.1 ∉ [s.heap.objs.size, l]) { s with heap := hh', toks := tk' } .next s₃ := by
      rintro ⟨c', h', tk, m', news', e, F', N', hn, hkp, ho, ha, hk', hp''⟩
      have hfp' : ∀ q ∈ Led c', q.1 ∉ [s.heap.objs.size, l] := by
        intro q hq hm
        rcases List.mem_cons.mp hm with e | hm
        · obtain ⟨o, ho', _⟩ := hst'.1.1
          exact ha _ (hall _ (by simp) (next_is_new F) o ho') _ (List.mem_map_of_mem hq) e.symm
        · exact ha _ hlow _ (List.mem_map_of_mem hq) (List.mem_singleton.mp hm).symm
      exact ⟨rfl, h', tk, m', Led c' ++ keep, e, F', fun p hp => N' p (by
        simp only [List.mem_append] at hp
        rcases hp with h | h | h
        · exact ho p h
        · exact hn p h
        · exact hkp p h), fun p hp hq => (List.mem_append.mp hp).elim (fun h => hfp' p h (W.sub _ hq)) (fun h => absurd hq (hnw p (List.mem_append_right _ h))), c', rfl, hk', hp'', hfp'⟩
    cases f with
    | ret v => exact .ret p
    | brk => exact .brk p
    | next => exact .next (fin p)
    | cont => exact .cont (fin p)
  · rintro h' tk m' news' F' N' _ ⟨c, rfl, h1, hp', _⟩
    rw [← hasAll_eq h1] at F'
    exact done c m' h' tk hp' F' N'
end
section
variable {us : List Value} {V : List Nat} {x : Str} {i nn : Nat} {t u : Tok} {k : Int}
end
section
variable {x : Str} {V : List Nat} {n : Int}
end
section
variable {prog : Program} {w : World} {A : Around} {E : Value → Shared → Prop} {s : Shared} {h₀ : Heap} {L : Addr} {m : Str → Option Value} {news : List (Addr × Obj)}
end
end Mine

namespace Mine
open PySem PySem.W PySem.Spec PySem.Calls PyProof.Rows
end Mine

namespace Mine
open PySem PySem.W PySem.Spec PySem.Calls PyProof.Rows LCg
section
variable {prog : Program} {w : World} {A : Around} {E : Value → Shared → Prop} {s : Shared} {h₀ : Heap} {L : Addr} {m : Str → Option Value} {env : Env} {news : List (Addr × Obj)}
def Kept (h₀ : Heap) (L : Addr) (m : Str → Option Value) (s : Shared) (news : List (Addr × Obj)) (s' : Shared) : Prop := ∃ h' tk', s' = { s with heap := h', toks := tk' } ∧ Fr h₀ L h' m ∧ News h₀ L h' news
/-- the test of a comprehension has been taken -/
def Tested (h₀ : Heap) (L : Addr) (m : Str → Option Value) (s : Shared) (news : List (Addr × Obj)) (b : Bool) (ok : Bool) (s' : Shared) : Prop := ok = b ∧ Kept h₀ L m s news s'
theorem tested {b ok : Bool} {h' : Heap} {tk' : Nat} (F : Fr h₀ L h' m) (N : News h₀ L h' news) (e : ok = b) : Tested h₀ L m s news b ok { s with heap := h', toks := tk' } := ⟨e, h', tk', rfl, F, N⟩
theorem compRest_all {ct : Expr} {x : Str} {px : Pos} {scope : Scope} {cl : List (Str × Addr)} {s₂ : Shared} {S : List (Addr × Obj) → Prop} {P : Nat → Value → Prop} {Fin : List Value → List (Addr × Obj) → Prop} {n : Nat} (test : Nat → Bool)
    (hkk : ∀ C, (compEnvC scope cl C env).scope.kind = .function) (hl : ∀ C, (compEnvC scope cl C env).kindOf x = some .local) (hd : (x == ("__debug__" : Str)) = false)
    (Acc : Nat → List Value → Prop) (yes : ∀ i v ys, i < n → P i v → test i = true → Acc i ys → Acc (i + 1) (ys ++ [v])) (no : ∀ i v ys, i < n → P i v → test i = false → Acc i ys → Acc (i + 1) ys) (hS : S news)
    (turn : ∀ i v I oI C oC D ys m₂ h tk (E' : Value → Shared → Prop), i < n → P i v → NsObj oC m₂ → m₂ x = some v → Fr h₀ L h m → News h₀ L h ((I, oI) :: (C, oC) :: (D, lst ys) :: news) → Off3 I C D news → ((@Ne Nat I C) ∧ (@Ne Nat I D) ∧ (@Ne Nat C D)) →
      wpAny (model prog w) A (isTrue ct (compEnvC scope cl C env) (eval ct (compEnvC scope cl C env))) (Tested h₀ L m { s₂ with heap := h, toks := tk } ((I, oI) :: (C, oC) :: (D, lst ys) :: news) (test i)) E' { s₂ with heap := h, toks := tk })
    (fin : ∀ ys, Acc n ys → Fin ys news) : ∀ k i ys, i + k = n → Acc i ys → LCt.CompRestT prog w A h₀ L m env ct (.Name x px) x scope cl s₂ S P Fin k i ys news := by
  intro k
  induction k with
  | zero => intro i ys hi ha; exact LCt.CompRestT.zero (fin ys (by have : i = n := by omega
                                                                   rw [this] at ha; exact ha))
  | succ k ih =>
    intro i ys hi ha
    refine LCt.CompRestT.succ ?_
    intro v I oI C oC D m₂ h tk E' hP hC hm F N off hne
    refine wpAny_mono (turn i v I oI C oC D ys m₂ h tk E' (by omega) hP hC hm F N off hne) ?_ (fun _ _ e => e)
    rintro ok s' ⟨rfl, h', tk', rfl, F', N'⟩
    cases ht : test i with
    | true =>
      simp only [if_true]
      refine LCgL.ld_own N' (List.mem_cons_of_mem _ (List.Mem.head _)) hC hm ?_ (hkk C) (hl C) hd
      exact ⟨h', tk', news, rfl, F', N', off, hS, ih (i + 1) (ys ++ [v]) (by omega) (yes i v ys (by omega) hP ht ha)⟩
    | false =>
      simp only [Bool.false_eq_true, if_false]
      exact ⟨h', tk', news, rfl, F', N', off, hS, ih (i + 1) ys (by omega) (no i v ys (by omega) hP ht ha)⟩
theorem off1_mem {D : Addr} : ∀ {l : List (Addr × Obj)}, Off1 D l → ∀ p ∈ l, p.1 ≠ D
  | [], _, _, h => nomatch h
  | _ :: _, x, p, hp => by
    rcases List.mem_cons.mp hp with rfl | hp
    · exact x.1
    · exact off1_mem x.2 p hp
def sing (k : Nat) : Str := ⟨#[k]⟩
theorem strs_snoc {vs : List Value} {ys : List Str} {y : Str} {t : Tok} (h : StrsAre vs ys) : StrsAre (vs ++ [.str y t]) (ys ++ [y]) := by
  induction h with
  | nil => exact .cons _ _ .nil
  | cons z u _ ih => exact .cons z u ih
/-- a comprehension over a list of the ledger, of which no item passes the test -/
theorem comp_none {ct iter : Expr} {x : Str} {px px' : Pos} {scope : Scope} {cl : List (Str × Addr)} {pos : Pos} {Q : Value → Shared → Prop} {ax : Addr} {vs : List Value} {kk : Nat} (F₀ : Fr h₀ L s.heap m)
    (hclos : closureFor scope env = pure cl) (hcell : ∀ y ∈ scope.names, y.2 ≠ .cell) (hkind : scope.kind = .function)
    (hnames : ∀ y ∈ scope.names, y.2 = .local → scope.names.lookup y.1 = some .local) (hx : scope.names.lookup x = some .local)
    (hkk : ∀ C, (compEnvC scope cl C env).scope.kind = .function) (hl : ∀ C, (compEnvC scope cl C env).kindOf x = some .local) (hd : (x == ("__debug__" : Str)) = false)
    (hh : A.handled = none) (N₀ : News h₀ L s.heap news) (hm : (ax, listOf vs.toArray kk) ∈ news) (hsz : vs.length ≤ sizeLine)
    (hit : ∀ Q' : Value → Shared → Prop, (∀ h' tk', Fr h₀ L h' m → News h₀ L h' news → Q' (.ref ax) { s with heap := h', toks := tk' }) → wpAny (model prog w) A (eval iter env) Q' E s)
    (turn : ∀ (i : Nat) v I oI C oC D ys m₂ h tk (E' : Value → Shared → Prop), vs[i]? = some v → NsObj oC m₂ → m₂ x = some v → Fr h₀ L h m → News h₀ L h ((I, oI) :: (C, oC) :: (D, lst ys) :: news) → Off3 I C D news → ((@Ne Nat I C) ∧ (@Ne Nat I D) ∧ (@Ne Nat C D)) →
      wpAny (model prog w) A (isTrue ct (compEnvC scope cl C env) (eval ct (compEnvC scope cl C env))) (Tested h₀ L m { s with heap := h, toks := tk } ((I, oI) :: (C, oC) :: (D, lst ys) :: news) false) E' { s with heap := h, toks := tk })
    (fin : ∀ D h tk, Fr h₀ L h m → News h₀ L h ((D, listOf #[] 0) :: news) → (∀ p ∈ news, p.1 ≠ D) → Q (.ref D) { s with heap := h, toks := tk })
    (hs : ∀ x, foldedSetIterable iter env x = pure x := by intro _; rfl) :
    wpAny (model prog w) A (eval (.ListComp (.Name x px') [⟨.Name x px, iter, [ct], 0⟩] scope pos) env) Q E s := by
  refine LCt.ListComp_T F₀ hclos hcell hkind hnames hx (hit _ fun h' tk' F' N' => ?_) hs
  refine LCt.CompSrcT.ledger hh F' N' hm (by simpa using hsz) fun g => ?_
  refine compRest_all (fun _ => false) hkk hl hd (fun _ ys => ys = []) (fun i v ys _ _ ht => by cases ht) (fun i v ys _ _ _ ha => ha) (.inr ⟨_, hm, rfl, _, rfl⟩) ?_ ?_ _ 0 [] (Nat.zero_add _) rfl
  · intro i v I oI C oC D ys m₂ h tk E' hi hv hC hmm F2 N2 off hne
    exact turn i v I oI C oC D ys m₂ h tk E' (by simpa using hv) hC hmm F2 N2 off hne
  · rintro ys rfl D h tk F2 N2 o1
    exact fin D h tk F2 N2 (off1_mem o1)
theorem datAll_strs {vs : List Value} {ys : List Str} (h : StrsAre vs ys) : DatAll [] vs (ys.map Dat.str) := by
  induction h with
  | nil => exact .nil
  | cons y t _ ih => exact .cons (.str y t) ih
theorem ne_nil_strs {a b : Addr} {vs : List Value} {ys : List Str} {ka kb : Nat} {Q : Value → Shared → Prop} (N : News h₀ L s.heap news) (ma : (a, listOf vs.toArray ka) ∈ news) (hv : StrsAre vs ys) (mb : (b, listOf #[] kb) ∈ news)
    (ok : ∀ y ∈ ys, PyData.strOk y = true) (hu : A.units + 64 < cLine) (h : Q (.bool (!ys.isEmpty)) s) : wpAny (model prog w) A (compareOp .NotEq (.ref a) (.ref b)) Q E s := by
  refine kqd_ne N ma rfl rfl (datAll_strs hv) (fun _ h => nomatch h) mb rfl (xs := vs) (ys := []) (n₂ := []) rfl (es := []) .nil (fun _ h => nomatch h) ?_ (fun _ h => nomatch h) hu ?_
  · intro d hd
    obtain ⟨y, hy, rfl⟩ := List.mem_map.mp hd
    exact ok y hy
  · have e : ∀ inst : Decidable (ys.map Dat.str = []), @decide _ inst = ys.isEmpty := by
      intro inst
      cases ys <;> simp
    rw [e]
    exact h
theorem ne_nil_no {a b : Addr} {vs : List Value} {ys : List Str} {ka kb : Nat} {Q : Value → Shared → Prop} (N : News h₀ L s.heap news) (ma : (a, listOf vs.toArray ka) ∈ news) (hv : StrsAre vs ys) (mb : (b, listOf #[] kb) ∈ news)
    (e : ys = []) (hu : A.units + 64 < cLine) (h : Q (.bool false) s) : wpAny (model prog w) A (compareOp .NotEq (.ref a) (.ref b)) Q E s :=
  ne_nil_strs N ma hv mb (by subst e; exact fun _ h => nomatch h) hu (by subst e; exact h)
theorem ne_nil_yes {a b : Addr} {vs : List Value} {ys : List Str} {ka kb : Nat} {Q : Value → Shared → Prop} (N : News h₀ L s.heap news) (ma : (a, listOf vs.toArray ka) ∈ news) (hv : StrsAre vs ys) (mb : (b, listOf #[] kb) ∈ news)
    (e : ys ≠ []) (ok : ∀ y ∈ ys, PyData.strOk y = true) (hu : A.units + 64 < cLine) (h : Q (.bool true) s) : wpAny (model prog w) A (compareOp .NotEq (.ref a) (.ref b)) Q E s :=
  ne_nil_strs N ma hv mb ok hu (by
    cases ys with
    | nil => exact absurd rfl e
    | cons y ys => exact h)
end
section
variable {prog : Program} {w : World} {A : Around} {E : Value → Shared → Prop} {Q : Flow → Shared → Prop} {s : Shared} {env : Env} {h₀ : Heap}
end
section
variable {prog : Program} {w : World} {A : Around} {E : Value → Shared → Prop} {s : Shared}
end
section
variable {x : Str}
end
end Mine

namespace Mine
open PySem PySem.W PySem.Spec PySem.Calls PyProof.Rows
section
variable {prog : Program} {w : World} {A : Around} {E : Value → Shared → Prop} {s : Shared} {h₀ : Heap} {L : Addr} {m : Str → Option Value} {news news' : List (Addr × Obj)}
theorem strsAre_length {vs : List Value} {ys : List Str} (h : StrsAre vs ys) : vs.length = ys.length := by
  induction h with
  | nil => rfl
  | cons _ _ _ ih => simp [ih]
theorem strsAre_append {vs us : List Value} {ys zs : List Str} (h : StrsAre vs ys) (h2 : StrsAre us zs) : StrsAre (vs ++ us) (ys ++ zs) := by
  induction h with
  | nil => exact h2
  | cons z u _ ih => exact .cons z u ih
theorem strsAre_at {vs : List Value} {ys : List Str} (h : StrsAre vs ys) : ∀ (i : Nat) v, vs[i]? = some v → ∃ y t, v = .str y t ∧ ys[i]? = some y := by
  induction h with
  | nil => intro i v hv; simp at hv
  | cons z u _ ih =>
    intro i v hv
    cases i with
    | zero => simp at hv; exact ⟨z, u, hv.symm, rfl⟩
    | succ i => simp at hv; obtain ⟨y, t, e, hy⟩ := ih i v hv; exact ⟨y, t, e, by simpa using hy⟩
/-- list * n and list + list, for rows of the ledger -/
theorem mulL_Z {l : Addr} {vs : List Value} {n : Nat} {x : Int} {u : Tok} {Q : Value → Shared → Prop} (F : Fr h₀ L s.heap m) (N : News h₀ L s.heap news) (hl : (l, listOf vs.toArray n) ∈ news) (hx : 0 ≤ x ∧ x ≤ 4) (hz : vs.length ≤ 60)
    (h : ∀ D h', Fr h₀ L h' m → News h₀ L h' ((D, listOf (List.replicate x.toNat vs).flatten.toArray 0) :: news) → (∀ p ∈ news, p.1 < D) → Q (.ref D) { s with heap := h' }) : wpAny (model prog w) A (binaryOp .Mult (.ref l) (.int x u)) Q E s :=
  KMa.mul F N ⟨_, (N _ hl).1, rfl, n, rfl⟩ (by omega) (by omega) (by
    have h1 : x.toNat ≤ 4 := by omega
    have := Nat.mul_le_mul hz h1
    omega) rfl h
theorem addL_Z {a b : Addr} {vs us : List Value} {n k : Nat} {Q : Value → Shared → Prop} (F : Fr h₀ L s.heap m) (N : News h₀ L s.heap news) (ha : (a, listOf vs.toArray n) ∈ news) (hb : (b, listOf us.toArray k) ∈ news) (hz : vs.length + us.length ≤ 1000000)
    (h : ∀ D h', Fr h₀ L h' m → News h₀ L h' ((D, listOf (vs ++ us).toArray 0) :: news) → (∀ p ∈ news, p.1 < D) → Q (.ref D) { s with heap := h' }) : wpAny (model prog w) A (binaryOp .Add (.ref a) (.ref b)) Q E s :=
  kmk_add_lit F N ⟨_, (N _ ha).1, rfl, n, rfl⟩ ⟨_, (N _ hb).1, rfl, k, rfl⟩ (by simp) h (by rw [sizeLine_eq]; simp; omega)
end
section
variable {prog : Program} {w : World} {A : Around} {E : Value → Shared → Prop} {s : Shared} {h₀ : Heap} {L : Addr} {m : Str → Option Value} {news : List (Addr × Obj)} {value slice : Expr} {u : Tok} {Q : Value → Shared → Prop}
theorem itemAt_Z {l : Addr} {vs : List Value} {v : Value} {n : Nat} {k : Int} (N : News h₀ L s.heap news) (hl : (l, listOf vs.toArray n) ∈ news) (h0 : 0 ≤ k ∧ k < 1000000) (hx : vs[k.toNat]? = some v) (h : Q v s)
    (hs : subscripted slice false (.ref l) (.int k u) = operate [.ref l, .int k u] (getItem (.ref l) (.int k u)) := by with_unfolding_all rfl) (hg : ∀ r, letTemporaryGo value (.ref l) r = pure () := by intro _; with_unfolding_all rfl) :
    wpAny (model prog w) A (subscriptTail value slice (.ref l) (.int k u)) Q E s :=
  kim_list N hl rfl rfl h0.1 (by omega) hx h hs hg
theorem itemStr_Z {l : Addr} {vs : List Value} {ys : List Str} {n : Nat} {k : Int} (N : News h₀ L s.heap news) (hl : (l, listOf vs.toArray n) ∈ news) (hv : StrsAre vs ys) (h0 : 0 ≤ k ∧ k < ys.length ∧ k < 1000000) (h : ∀ y t, y ∈ ys → Q (.str y t) s)
    (hs : subscripted slice false (.ref l) (.int k u) = operate [.ref l, .int k u] (getItem (.ref l) (.int k u)) := by with_unfolding_all rfl) (hg : ∀ r, letTemporaryGo value (.ref l) r = pure () := by intro _; with_unfolding_all rfl) :
    wpAny (model prog w) A (subscriptTail value slice (.ref l) (.int k u)) Q E s := by
  have hlen := strsAre_length hv
  have hk : k.toNat < vs.length := by omega
  obtain ⟨y, t, e, hy⟩ := strsAre_at hv k.toNat _ (List.getElem?_eq_getElem hk)
  exact itemAt_Z N hl ⟨h0.1, h0.2.2⟩ ((List.getElem?_eq_getElem hk).trans (by rw [e])) (h y t (List.mem_of_getElem? hy)) hs hg
/-- sep.join(list) -/
theorem join_S {l : Addr} {vs : List Value} {ys : List Str} {n : Nat} {x : Str} {t : Tok} (N : News h₀ L s.heap news) (hl : (l, listOf vs.toArray n) ∈ news) (hv : StrsAre vs ys) (hx : x.length ≤ 16) (hz : (ys.map (·.length)).sum + ys.length ≤ 1048576) (h : ∀ t' k, Q (.str (Txt.join x ys) t') { s with toks := k }) :
    wpAny (model prog w) A (call (.builtin "str.join") [.str x t, .ref l]) Q E s :=
  join_listW ⟨_, (N _ hl).1, rfl, n, rfl⟩ (by simpa using hv) hx hz h
end
section
variable {TX PC la l' : Addr} {i nr nr' nl nl' : Nat} {refs lvs : List Value} {lss : List Str} {rows own : List (Addr × Obj)} {y : Str} {t : Tok}
end
section
variable {α : Type} {a b c d p : α} {r r' : List α}
end
end Mine

namespace Mine
open PySem PySem.W PySem.Spec PySem.Calls PyProof.Rows
section
variable {prog : Program} {w : World} {A : Around} {E : Value → Shared → Prop} {Q : Flow → Shared → Prop} {s : Shared} {env : Env} {h₀ : Heap}
end
end Mine

namespace Mine
open PySem PySem.W PySem.Spec PySem.Calls PyProof.Rows
section
variable {prog : Program} {w : World} {A : Around} {E : Value → Shared → Prop} {s : Shared} {h₀ : Heap} {L : Addr} {m : Str → Option Value} {news news' : List (Addr × Obj)}
theorem mkGrown {n : Nat} {Q : Value → Shared → Prop} (hn : n < 2 ^ 1000) (h : Q (.int (n : Int) s.toks) { s with toks := s.toks + 1 }) : wpAny (model prog w) A (mkIntGrown (n : Int)) Q E s := by
  have hl : ¬ ((n : Int).natAbs.log2 ≥ bitsLine) := by
    rw [Int.natAbs_natCast, show bitsLine = 134217728 by decide]
    by_cases hz : n = 0
    · subst hz; decide
    · have := (Nat.log2_lt hz).mpr hn
      omega
  show wpAny _ A (if (n : Int).natAbs.log2 ≥ bitsLine then _ else _) Q E s
  rw [if_neg hl]
  exact wpAny_mkInt h
theorem foldNat (l : List UInt8) (a : Nat) : l.foldl (fun (acc : Nat) (b : UInt8) => acc * 256 + b.toNat) a = (l.map UInt8.toNat).foldl (fun n o => n * 256 + o) a := by
  induction l generalizing a with
  | nil => rfl
  | cons c l ih => exact ih _
theorem numOf_lt (l : List Nat) (h : ∀ x ∈ l, x < 256) : numOf l < 256 ^ l.length := by
  have : ∀ (l : List Nat) (a : Nat), (∀ x ∈ l, x < 256) → l.foldl (fun n o => n * 256 + o) a < (a + 1) * 256 ^ l.length := by
    intro l
    induction l with
    | nil => intro a _; simp
    | cons c r ih =>
      intro a h
      have h1 := ih (a * 256 + c) fun x hx => h x (by simp [hx])
      have hc := h c (by simp)
      have h2 : (a * 256 + c + 1) * 256 ^ r.length ≤ ((a + 1) * 256) * 256 ^ r.length := Nat.mul_le_mul_right _ (by omega)
      show r.foldl (fun n o => n * 256 + o) (a * 256 + c) < (a + 1) * 256 ^ (r.length + 1)
      rw [Nat.pow_succ, Nat.mul_comm (256 ^ r.length) 256, ← Nat.mul_assoc]
      exact Nat.lt_of_lt_of_le h1 h2
  have := this l 0 h
  simpa [numOf] using this
theorem fromBytes_Z {x : Addr} {b : Array UInt8} {t u : Tok} {Q : Value → Shared → Prop} (N : News h₀ L s.heap news) (hm : (x, KFB.bound) ∈ news) (hl : b.size ≤ 100) (h : ∀ t' k, Q (.int ((numOf (octs b) : Nat) : Int) t') { s with toks := k }) :
    wpAny (model prog w) A (call (.ref x) [.bytes b t, .str (Str.ofString "big") u]) Q E s := by
  refine KFB.call_of (z := ((numOf (octs b) : Nat) : Int)) (KFB.at_of N hm) ?_ (h _ _)
  intro P E' A' hP
  have ho : octs b = b.toList.map UInt8.toNat := rfl
  have hn : b.toList.foldl (fun (acc : Nat) (b : UInt8) => acc * 256 + b.toNat) 0 = numOf (octs b) := by rw [foldNat, ho]; rfl
  have hlt : numOf (octs b) < 2 ^ 1000 := by
    have h1 := numOf_lt (octs b) (fun x hx => by
      rw [ho] at hx
      obtain ⟨c, _, rfl⟩ := List.mem_map.mp hx
      exact c.toNat_lt)
    have h2 : 256 ^ (octs b).length ≤ 256 ^ 100 := Nat.pow_le_pow_right (by decide) (by rw [octs_length]; exact hl)
    have h3 : (256 : Nat) ^ 100 < 2 ^ 1000 := by decide +kernel
    omega
  unfold Builtin.«int.from_bytes»
  refine wpAny_bind (wpAny_of_eq (a := true) KFB.type_int (KFB.if_not rfl ?_))
  refine wpAny_bind (wpAny_of_eq (a := true) F.conv_sub_int (KFB.if_not rfl ?_))
  refine wpAny_bind (wpAny_of_eq (a := [some (.bytes b t), some (.str (Str.ofString "big") u), none]) (by kernel_rfl) ?_)
  refine wpAny_bind (wpAny_of_eq (a := Str.ofString "big") (by kernel_rfl) ?_)
  refine wpAny_bind (wpAny_of_eq (a := false) rfl (wpAny_bind (wpAny_of_eq (a := false) (by kernel_rfl) (wpAny_bind (wpAny_of_eq (a := b) rfl ?_)))))
  show wpAny _ _ (mkIntGrown (b.toList.foldl (fun (acc : Int) (b : UInt8) => acc * 256 + (b.toNat : Int)) ((0 : Nat) : Int)) >>= fun v => _) _ _ _
  rw [KFB.foldI_eq, hn]
  refine wpAny_bind (mkGrown hlt ?_)
  exact KFB.if_so (by decide +kernel) (wpAny_bind (wpAny_pure (wpAny_pure hP)))
theorem idivI {a b : Int} {t u : Tok} {Q : Value → Shared → Prop} (hb : 0 < b ∧ b < 1073741824) (h : ∀ t' k, Q (.int (a / b) t') { s with toks := k }) : wpAny (model prog w) A (inplaceOp .FloorDiv (.int a t) (.int b u)) Q E s :=
  ifloordiv_int (by omega) (by rw [Int.fdiv_eq_ediv_of_nonneg _ (Int.le_of_lt hb.1)]; exact h _ _) (Or.inl (PyProof.noPylong_small (by omega)))
theorem setL_some : ∀ (l : List Value) (k : Nat) (v : Value), k < l.length → ki_setL l k v = some (l.set k v)
  | [], _, _, h => by simp at h
  | x :: r, 0, v, _ => rfl
  | x :: r, k + 1, v, h => by
    unfold ki_setL
    rw [setL_some r k v (by simpa using h)]
    rfl
theorem setNeg_Z {D : Addr} {vs : List Value} {n : Nat} {k : Int} {t : Tok} {v : Value} {Q : Unit → Shared → Prop} (F : Fr h₀ L s.heap m) (N : News h₀ L s.heap news) (h0 : k < 0) (h1 : -(vs.length : Int) ≤ k) (hz : vs.length ≤ 1000000)
    (U : Upd D (listOf vs.toArray n) (listOf (vs.set (k + (vs.length : Int)).toNat v).toArray n) news news')
    (h : ∀ h', Fr h₀ L h' m → News h₀ L h' news' → Q () { s with heap := h' }) : wpAny (model prog w) A (setItem (.ref D) (.int k t) v) Q E s := by
  have hj : (k + (vs.length : Int)).toNat < vs.length := by omega
  refine ki_setNeg F N h0 (by omega) (j := (k + (vs.length : Int)).toNat) (q := vs.set (k + (vs.length : Int)).toNat v) ?_ (by simpa using setL_some vs _ v hj) (by simpa using U) h
  have h2 : 0 ≤ k + (vs.length : Int) ∧ k + (vs.length : Int) < (vs.length : Int) := by omega
  unfold seqIndex?
  simp only [List.size_toArray, if_pos h0]
  rw [if_pos]
  simp [h2]
theorem strsAre_set {vs : List Value} {ys : List Str} {y : Str} {t : Tok} (h : StrsAre vs ys) : ∀ j : Nat, StrsAre (vs.set j (.str y t)) (ys.set j y) := by
  induction h with
  | nil => intro j; exact .nil
  | cons z u hh ih =>
    intro j
    cases j with
    | zero => exact .cons _ _ hh
    | succ j => exact .cons _ _ (ih j)
end
theorem set_tail {α : Type} {L : List α} {c : α} {i : Nat} (h : i < L.length) : (L.take (L.length - i) ++ List.replicate i c).set (L.length - 1 - i) c = L.take (L.length - (i + 1)) ++ List.replicate (i + 1) c := by
  have e : L.length - i = (L.length - (i + 1)) + 1 := by omega
  rw [e, List.take_add_one]
  have hx : L[L.length - (i + 1)]? = some (L[L.length - (i + 1)]'(by omega)) := List.getElem?_eq_getElem (by omega)
  rw [hx]
  simp only [Option.toList, List.append_assoc]
  rw [List.set_append_right _ _ (by simp; omega)]
  have e2 : L.length - 1 - i - (L.take (L.length - (i + 1))).length = 0 := by simp; omega
  rw [e2]
  rfl
theorem numOf_zeros (l : List Nat) (k : Nat) : numOf (l ++ List.replicate k 0) = numOf l * 256 ^ k := by
  induction k with
  | zero => simp
  | succ k ih =>
    rw [List.replicate_succ', ← List.append_assoc, numOf_snoc, ih, Nat.pow_succ, Nat.mul_assoc]
    rfl
theorem octs_zeros (n : Nat) : octs (List.replicate n ([0] : List UInt8)).flatten.toArray = List.replicate n 0 := by
  unfold octs
  induction n with
  | zero => rfl
  | succ n ih =>
    have ih' : (List.replicate n ([0] : List UInt8)).flatten.map UInt8.toNat = List.replicate n 0 := by simpa using ih
    simp [List.replicate_succ, ih']
theorem octs_app (a b : Array UInt8) : octs (a ++ b) = octs a ++ octs b := by simp [octs]
theorem sing_of {x : Str} {c : Nat} (h : x.cps.toList = [c]) : x = sing c := by
  cases x with
  | mk cps =>
    have : cps = #[c] := Array.toList_inj.mp (by rw [show cps.toList = [c] from h])
    rw [this]; rfl
theorem item_sing {k : Int} (h : 0 ≤ k ∧ k < 64) : Txt.item (Str.ofString "ABCDEFGHIJKLMNOPQRSTUVWXYZabcdefghijklmnopqrstuvwxyz0123456789+/") k = sing (sgn k.toNat) := sing_of (item_alpha h)
open PySem.SeqAt in
/-- two lists whose items are equal one by one -/
theorem eqAt_bytes {A : Around} {s : Shared} (b : Array UInt8) (t u : Tok) : EqAt A s (.bytes b t) (.bytes b u) true := fun prog w E Q h => by
  unfold eqBool
  refine wpAny_holding ?_
  refine wpAny_ite_split (fun hab => ?_) (fun hab => ?_)
  · exact wpAny_bind (wpAny_rule (wpAny_pure h))
  · refine wpAny_bind ?_
    show wpAny _ A (compareOp .Eq (.bytes b t) (.bytes b u)) _ E s
    refine eq_bytes ?_
    rw [show (b.toList == b.toList) = true from beq_self_eq_true _]
    exact wpAny_truthy_bool h
section
variable {prog : Program} {w : World} {A : Around} {E : Value → Shared → Prop} {s : Shared} {h₀ : Heap} {L : Addr} {news : List (Addr × Obj)}
open PySem.SeqAt in
theorem ne_same_Z {a b : Addr} {vs us : List Value} {n k : Nat} {Q : Value → Shared → Prop} (N : News h₀ L s.heap news) (ha : (a, W.listOf vs.toArray n) ∈ news) (hb : (b, W.listOf us.toArray k) ∈ news) (hl : vs.length = us.length)
    (he : ∀ (i : Nat) v u, vs[i]? = some v → us[i]? = some u → EqAt A.in1 s v u true) (hu : A.units < cLine) (h : Q (.bool false) s) : wpAny (model prog w) A (compareOp .NotEq (.ref a) (.ref b)) Q E s := by
  refine RcNeAt.lists (e := fun _ => true) ⟨_, (N _ ha).1, rfl, n, rfl⟩ ⟨_, (N _ hb).1, rfl, k, rfl⟩ (by simpa using hl) hu (fun j h1 h2 => ?_) prog w E Q ?_
  · refine he j _ _ ?_ ?_
    · simp at h1 ⊢
    · simp at h2 ⊢
  · rw [show (!(List.range vs.toArray.size).all fun _ => true) = false by simp]
    exact h
end
end Mine

namespace Mine
open PySem PySem.W PySem.Spec PySem.Calls PyProof.Rows
/-- the digits to base 64 of a number, the highest first -/
def lowV : Nat → Nat → List Nat
  | 0, _ => []
  | k + 1, n => n / 64 ^ k % 64 :: lowV k n
theorem lowV_length (k n : Nat) : (lowV k n).length = k := by induction k with | zero => rfl | succ k ih => simp [lowV, ih]
theorem lowS_V (k n : Nat) : lowS k n = (lowV k n).map sgn := by induction k with | zero => rfl | succ k ih => simp [lowS, lowV, ih]
theorem lowV_lt (k n : Nat) : ∀ v ∈ lowV k n, v < 64 := by
  induction k with
  | zero => exact fun _ h => nomatch h
  | succ k ih =>
    intro v hv
    rcases List.mem_cons.mp hv with rfl | hv
    · omega
    · exact ih v hv
theorem lowV_snoc (k n : Nat) : lowV (k + 1) n = lowV k (n / 64) ++ [n % 64] := by
  induction k with
  | zero => simp [lowV]
  | succ k ih =>
    show n / 64 ^ (k + 1) % 64 :: lowV (k + 1) n = (n / 64 / 64 ^ k % 64 :: lowV k (n / 64)) ++ _
    rw [ih, Nat.pow_succ, Nat.mul_comm, ← Nat.div_div_eq_div_mul]
    rfl
theorem lowV_take (k j n : Nat) : (lowV (k + j) n).take k = lowV k (n / 64 ^ j) := by
  induction j generalizing n with
  | zero => simp; rw [List.take_of_length_le (by rw [lowV_length]; exact Nat.le_refl _)]
  | succ j ih =>
    rw [← Nat.add_assoc, lowV_snoc, List.take_append_of_le_length (by rw [lowV_length]; omega), ih, Nat.div_div_eq_div_mul, ← Nat.pow_succ', ]
theorem num64_lowV (k n : Nat) : num64 (lowV k n) = n % 64 ^ k := by
  induction k generalizing n with
  | zero => simp [lowV, num64, Nat.mod_one]
  | succ k ih =>
    rw [lowV_snoc, num64_snoc, ih, Nat.pow_succ, Nat.mul_comm (64 ^ k) 64, Nat.mod_mul]
    omega
theorem octL_numOf (l : List Nat) (h : ∀ x ∈ l, x < 256) : octL l.length (numOf l) = l := by
  have : ∀ l : List Nat, (∀ x ∈ l, x < 256) → octL l.reverse.length (numOf l.reverse) = l.reverse := by
    intro l
    induction l with
    | nil => intro _; rfl
    | cons x l ih =>
      intro h
      have hx := h x (by simp)
      rw [List.reverse_cons, List.length_append, numOf_snoc]
      show octL (l.reverse.length + 1) _ = _
      rw [octL_snoc, show (numOf l.reverse * 256 + x) / 256 = numOf l.reverse by omega, show (numOf l.reverse * 256 + x) % 256 = x by omega, ih fun y hy => h y (by simp [hy])]
  have := this l.reverse fun x hx => h x (by simpa using hx)
  simpa using this
/-- the values of the law's signs, and how many = follow them -/
def sigV (l : List Nat) : List Nat := lowV ((l.length + lackOf l.length) / 3 * 4 - lackOf l.length) (numOf l * 256 ^ lackOf l.length / 64 ^ lackOf l.length)
theorem sigL_V (l : List Nat) : sigL l = (sigV l).map sgn ++ List.replicate (lackOf l.length) 61 := by
  unfold sigL sigV
  have hk : lackOf l.length ≤ (l.length + lackOf l.length) / 3 * 4 := by unfold lackOf; omega
  have e : (l.length + lackOf l.length) / 3 * 4 = ((l.length + lackOf l.length) / 3 * 4 - lackOf l.length) + lackOf l.length := by omega
  congr 1
  conv => lhs; arg 2; rw [e]
  rw [lowS_V, ← List.map_take, lowV_take]
theorem sigV_due (l : List Nat) (h : ∀ x ∈ l, x < 256) : dueL (sigV l) = l := by
  unfold dueL
  have hlt := numOf_lt l h
  have hl : (sigV l).length = (l.length + lackOf l.length) / 3 * 4 - lackOf l.length := lowV_length _ _
  obtain ⟨q, r, hq, hr⟩ : ∃ q r, l.length = 3 * q + r ∧ (r = 0 ∨ r = 1 ∨ r = 2) := ⟨l.length / 3, l.length % 3, by omega, by omega⟩
  have hn : num64 (sigV l) = numOf l * 256 ^ lackOf l.length / 64 ^ lackOf l.length := by
    unfold sigV
    rw [num64_lowV, Nat.mod_eq_of_lt]
    refine (Nat.div_lt_iff_lt_mul (Nat.pow_pos (by decide))).mpr ?_
    rw [← Nat.pow_add]
    have e : (l.length + lackOf l.length) / 3 * 4 - lackOf l.length + lackOf l.length = (l.length + lackOf l.length) / 3 * 4 := by unfold lackOf; omega
    rw [e]
    have e2 : 64 ^ ((l.length + lackOf l.length) / 3 * 4) = 256 ^ (l.length + lackOf l.length) := by
      have e3 : l.length + lackOf l.length = 3 * ((l.length + lackOf l.length) / 3) := by unfold lackOf; omega
      conv => rhs; rw [e3]
      rw [Nat.mul_comm _ 4, Nat.pow_mul, Nat.pow_mul]
    rw [e2, Nat.pow_add]
    exact Nat.mul_lt_mul_of_pos_right hlt (Nat.pow_pos (by decide))
  rw [hn, hl]
  have ho := octL_numOf l h
  rcases hr with rfl | rfl | rfl
  · have h0 : lackOf l.length = 0 := by unfold lackOf; omega
    rw [h0, show ((l.length + 0) / 3 * 4 - 0) * 3 / 4 = l.length by omega, show 6 * ((l.length + 0) / 3 * 4 - 0) - 8 * l.length = 0 by omega]
    simpa using ho
  · have h0 : lackOf l.length = 2 := by unfold lackOf; omega
    rw [h0, show ((l.length + 2) / 3 * 4 - 2) * 3 / 4 = l.length by omega, show 6 * ((l.length + 2) / 3 * 4 - 2) - 8 * l.length = 4 by omega]
    rw [show numOf l * 256 ^ 2 / 64 ^ 2 / 2 ^ 4 = numOf l by omega]
    exact ho
  · have h0 : lackOf l.length = 1 := by unfold lackOf; omega
    rw [h0, show ((l.length + 1) / 3 * 4 - 1) * 3 / 4 = l.length by omega, show 6 * ((l.length + 1) / 3 * 4 - 1) - 8 * l.length = 2 by omega]
    rw [show numOf l * 256 ^ 1 / 64 ^ 1 / 2 ^ 2 = numOf l by omega]
    exact ho
theorem run_parts (V : List Nat) (hV : ∀ v ∈ V, v < 64) (p : Nat) : runA (V.map sgn ++ List.replicate p 61) = (V.length % 4, num64 V % 2 ^ (6 * V.length - 8 * (V.length * 3 / 4)), p, dueL V) := by
  have h1 := runV_state V hV
  unfold runV at h1
  unfold runA
  rw [List.foldl_append, h1]
  have : ∀ (p a : Nat) (x y : Nat) (o : List Nat), (List.replicate p 61).foldl stepA (x, y, a, o) = (x, y, a + p, o) := by
    intro p
    induction p with
    | zero => intro a x y o; rfl
    | succ p ih => intro a x y o; rw [List.replicate_succ, List.foldl_cons, stepA_pad rfl, ih]; rw [show a + 1 + p = a + (p + 1) by omega]
  rw [this, Nat.zero_add]
theorem sigV_lt (l : List Nat) : ∀ v ∈ sigV l, v < 64 := lowV_lt _ _
theorem sigV_len (l : List Nat) : (sigV l).length = (l.length + lackOf l.length) / 3 * 4 - lackOf l.length := lowV_length _ _
theorem sig_good (l : List Nat) (h : ∀ x ∈ l, x < 256) : goodA (sigL l) = true ∧ (runA (sigL l)).2.2.2 = l := by
  have hr := run_parts (sigV l) (sigV_lt l) (lackOf l.length)
  rw [← sigL_V, sigV_due l h] at hr
  unfold goodA
  rw [hr]
  refine ⟨?_, rfl⟩
  have hl := sigV_len l
  simp
  unfold lackOf at hl ⊢
  omega
theorem sig_more (l : List Nat) (h : ∀ x ∈ l, x < 256) (h0 : l.length % 3 = 0) : goodA (sigL l ++ [61]) = true ∧ (runA (sigL l ++ [61])).2.2.2 = l := by
  have h1 : lackOf l.length = 0 := by unfold lackOf; omega
  have hr := run_parts (sigV l) (sigV_lt l) 1
  have e : sigL l = (sigV l).map sgn := by rw [sigL_V, h1]; simp
  rw [sigV_due l h, show List.replicate 1 61 = [61] by rfl, ← e] at hr
  unfold goodA
  rw [hr]
  refine ⟨?_, rfl⟩
  have hl := sigV_len l
  simp
  omega
theorem sig_cut (l : List Nat) (c : Nat) (hc : 1 ≤ c ∧ c ≤ 3) (hne : l ≠ []) : goodA ((sigL l).take ((sigL l).length - c)) = false := by
  have hl := sigV_len l
  have hp : 0 < l.length := List.length_pos_iff.mpr hne
  have hlen : (sigL l).length = (l.length + lackOf l.length) / 3 * 4 := by
    rw [sigL_V, List.length_append, List.length_map, List.length_replicate, hl]
    unfold lackOf; omega
  have e : (sigL l).take ((sigL l).length - c) = ((sigV l).take ((sigL l).length - c)).map sgn ++ List.replicate (lackOf l.length - c) 61 := by
    conv => lhs; arg 2; rw [sigL_V]
    rw [List.take_append, List.map_take, List.take_replicate, List.length_map, hlen, hl]
    congr 2
    unfold lackOf; omega
  rw [e]
  unfold goodA
  rw [run_parts _ (fun v hv => sigV_lt l v (List.mem_of_mem_take hv))]
  rw [List.length_take, hlen, hl]
  simp
  unfold lackOf
  omega
theorem numOf_cons0 (l : List Nat) : numOf (0 :: l) = numOf l := by
  unfold numOf
  simp
theorem lowV_zero (k n : Nat) (h : n < 64 ^ k) : lowV (k + 1) n = 0 :: lowV k n := by
  show n / 64 ^ k % 64 :: _ = _
  rw [Nat.div_eq_of_lt h]
theorem sig_front (l : List Nat) (h : ∀ x ∈ l, x < 256) : sigL ([0, 0, 0] ++ l) = [65, 65, 65, 65] ++ sigL l := by
  have hlt := numOf_lt l h
  have hk : lackOf ([0, 0, 0] ++ l).length = lackOf l.length := by
    rw [List.length_append]
    show lackOf (3 + l.length) = _
    unfold lackOf; omega
  have hn : numOf ([0, 0, 0] ++ l) = numOf l := by
    show numOf (0 :: 0 :: 0 :: l) = _
    rw [numOf_cons0, numOf_cons0, numOf_cons0]
  have hN : numOf l * 256 ^ lackOf l.length / 64 ^ lackOf l.length < 64 ^ ((l.length + lackOf l.length) / 3 * 4 - lackOf l.length) := by
    refine (Nat.div_lt_iff_lt_mul (Nat.pow_pos (by decide))).mpr ?_
    rw [← Nat.pow_add]
    have e : (l.length + lackOf l.length) / 3 * 4 - lackOf l.length + lackOf l.length = (l.length + lackOf l.length) / 3 * 4 := by unfold lackOf; omega
    have e2 : 64 ^ ((l.length + lackOf l.length) / 3 * 4) = 256 ^ (l.length + lackOf l.length) := by
      have e3 : l.length + lackOf l.length = 3 * ((l.length + lackOf l.length) / 3) := by unfold lackOf; omega
      conv => rhs; rw [e3]
      rw [Nat.mul_comm _ 4, Nat.pow_mul, Nat.pow_mul]
    rw [e, e2, Nat.pow_add]
    exact Nat.mul_lt_mul_of_pos_right hlt (Nat.pow_pos (by decide))
  have hV : sigV ([0, 0, 0] ++ l) = [0, 0, 0, 0] ++ sigV l := by
    unfold sigV
    rw [hk, hn]
    have e : (([0, 0, 0] ++ l).length + lackOf l.length) / 3 * 4 - lackOf l.length = (l.length + lackOf l.length) / 3 * 4 - lackOf l.length + 1 + 1 + 1 + 1 := by
      rw [List.length_append]
      show (3 + l.length + _) / 3 * 4 - _ = _
      unfold lackOf; omega
    rw [e]
    generalize numOf l * 256 ^ lackOf l.length / 64 ^ lackOf l.length = n at hN
    generalize (l.length + lackOf l.length) / 3 * 4 - lackOf l.length = k at hN
    have up : ∀ j, n < 64 ^ (k + j) := fun j => Nat.lt_of_lt_of_le hN (Nat.pow_le_pow_right (by decide) (by omega))
    rw [lowV_zero _ _ (up 3), lowV_zero _ _ (up 2), lowV_zero _ _ (up 1), lowV_zero _ _ (up 0)]
    rfl
  rw [sigL_V, sigL_V, hV, hk, List.map_append, List.append_assoc]
  rfl
theorem sig_back (l : List Nat) (h0 : l.length % 3 = 0) : sigL (l ++ [0, 0, 0]) = sigL l ++ [65, 65, 65, 65] := by
  have h1 : lackOf l.length = 0 := by unfold lackOf; omega
  have hl3 : (l ++ [0, 0, 0]).length = l.length + 3 := by simp
  have h2 : lackOf (l ++ [0, 0, 0]).length = 0 := by rw [hl3]; unfold lackOf; omega
  have hV : sigV (l ++ [0, 0, 0]) = sigV l ++ [0, 0, 0, 0] := by
    unfold sigV
    rw [h1, h2, hl3, show l ++ [0, 0, 0] = l ++ List.replicate 3 0 by rfl, numOf_zeros]
    have e : (l.length + 3 + 0) / 3 * 4 - 0 = ((l.length + 0) / 3 * 4 - 0) + 1 + 1 + 1 + 1 := by omega
    rw [e]
    simp only [Nat.pow_zero, Nat.mul_one, Nat.div_one]
    generalize numOf l = n
    generalize (l.length + 0) / 3 * 4 - 0 = k
    rw [lowV_snoc, lowV_snoc, lowV_snoc, lowV_snoc]
    rw [show n * 256 ^ 3 / 64 / 64 / 64 / 64 = n by omega, show n * 256 ^ 3 % 64 = 0 by omega, show n * 256 ^ 3 / 64 % 64 = 0 by omega, show n * 256 ^ 3 / 64 / 64 % 64 = 0 by omega, show n * 256 ^ 3 / 64 / 64 / 64 % 64 = 0 by omega]
    simp
  rw [sigL_V, sigL_V, hV, h1, h2, List.map_append]
  simp [show sgn 0 = 65 by decide]
/-- a text told to the parser, and the signs in it -/
inductive Noisy : List Nat → List Nat → Prop
  | nil : Noisy [] []
  | char {T C : List Nat} {c : Nat} : Noisy T C → c < 128 → Noisy (T ++ [c]) (C ++ [c])
  | noise {T C as : List Nat} : Noisy T C → (∀ a ∈ as, alien a) → Noisy (T ++ as) C
theorem u8_small {c : Nat} (h : c < 128) : u8 c = [c] := by
  unfold u8 Str.utf8Of
  rw [if_pos h]
  show [c % 256] = [c]
  rw [Nat.mod_eq_of_lt (by omega)]
theorem Noisy.run {T C : List Nat} (h : Noisy T C) : runA (T.flatMap u8) = runA C := by
  unfold runA
  induction h with
  | nil => rfl
  | char _ hc ih => rw [List.flatMap_append, List.foldl_append, ih, List.foldl_append]; simp [u8_small hc]
  | noise _ ha ih =>
    rw [List.flatMap_append, List.foldl_append, ih]
    refine fold_alien _ _ fun o ho => ?_
    obtain ⟨a, ham, hao⟩ := List.mem_flatMap.mp ho
    exact u8_alien (ha a ham) o hao
theorem Noisy.good {T C : List Nat} (h : Noisy T C) : goodA (T.flatMap u8) = goodA C := by unfold goodA; rw [h.run]
theorem Noisy.surr {T C : List Nat} (h : Noisy T C) : ∀ k ∈ T, Str.isSurrogate k = false := by
  induction h with
  | nil => exact fun _ h => nomatch h
  | char _ hc ih =>
    intro k hk
    rcases List.mem_append.mp hk with hk | hk
    · exact ih k hk
    · rw [List.mem_singleton.mp hk]
      unfold Str.isSurrogate
      rw [Bool.and_eq_false_iff, decide_eq_false_iff_not, decide_eq_false_iff_not]
      omega
  | noise _ ha ih =>
    intro k hk
    rcases List.mem_append.mp hk with hk | hk
    · exact ih k hk
    · exact (ha k hk).2.2.1
theorem noise_ok : ∀ x ∈ [Str.ofString "", Str.ofString " ", Str.ofString "\n\t", Str.ofString "-_", Str.ofString "é", Str.ofString "€", Str.ofString ""], x.length ≤ 2 ∧ ∀ a ∈ x.cps.toList, alien a := by
  unfold alien
  decide +kernel
/-- a row of signs and what is wanted of it -/
def Tell (chars : List Nat) (wv : Value) : Prop :=
  chars.length ≤ 92 ∧ (∀ c ∈ chars, c < 128) ∧ ((∃ W t, wv = .bytes W t ∧ goodA chars = true ∧ ofOcts (runA chars).2.2.2 = W) ∨ (wv = .none ∧ goodA chars = false))
def InTell (rows : List (Addr × Obj)) (v : Value) : Prop :=
  ∃ P B ss wv n1 n2 chars, v = .ref P ∧ (P, W.listOf #[.ref B, wv] n1) ∈ rows ∧ (B, W.listOf ss.toArray n2) ∈ rows ∧ StrsAre ss (chars.map sing) ∧ Tell chars wv
theorem InTell.mono {rows rows' : List (Addr × Obj)} (hs : ∀ p ∈ rows, p ∈ rows') {v : Value} (h : InTell rows v) : InTell rows' v := by
  obtain ⟨P, B, ss, wv, n1, n2, chars, e, h1, h2, h3, h4⟩ := h
  exact ⟨P, B, ss, wv, n1, n2, chars, e, hs _ h1, hs _ h2, h3, h4⟩
theorem sgn_small {k : Nat} (h : k < 64) : sgn k < 128 := (by decide +kernel : ∀ k : Fin 64, sgn k.1 < 128) ⟨k, h⟩
theorem sigL_small (l : List Nat) : ∀ c ∈ sigL l, c < 128 := by
  rw [sigL_V]
  intro c hc
  rcases List.mem_append.mp hc with hc | hc
  · obtain ⟨v, hv, rfl⟩ := List.mem_map.mp hc
    exact sgn_small (sigV_lt l v hv)
  · rw [(List.mem_replicate.mp hc).2]; decide
theorem sigL_len (l : List Nat) : (sigL l).length = (l.length + 2) / 3 * 4 := by
  rw [sigL_V, List.length_append, List.length_map, List.length_replicate, sigV_len]
  unfold lackOf; omega
theorem octs_lt9 (b : Array UInt8) : ∀ x ∈ octs b, x < 256 := by
  intro x hx
  obtain ⟨c, _, rfl⟩ := List.mem_map.mp hx
  exact c.toNat_lt
section
variable {b : Array UInt8} {t : Tok}
theorem ofOcts_octs9 (b : Array UInt8) : ofOcts (octs b) = b := by
  have h := octs_ofOcts (l := octs b) (octs_lt9 b)
  have : ∀ a c : Array UInt8, octs a = octs c → a = c := by
    intro a c hac
    have h2 : a.toList.map UInt8.toNat = c.toList.map UInt8.toNat := hac
    have h3 : a.toList = c.toList := by
      have inj : Function.Injective UInt8.toNat := fun x y hxy => UInt8.toNat_inj.mp hxy
      exact (List.map_inj_right (fun _ _ h => inj h)).mp h2
    exact Array.toList_inj.mp h3
  exact this _ _ h
theorem tell_whole (hb : b.size ≤ 63) : Tell (sigL (octs b)) (.bytes b t) := by
  obtain ⟨h1, h2⟩ := sig_good (octs b) (octs_lt9 b)
  refine ⟨by rw [sigL_len, octs_length]; omega, sigL_small _, .inl ⟨b, t, rfl, h1, by rw [h2, ofOcts_octs9]⟩⟩
theorem tell_front (hb : b.size ≤ 63) : Tell ([65, 65, 65, 65] ++ sigL (octs b)) (.bytes (#[0, 0, 0] ++ b) t) := by
  have e : octs (#[0, 0, 0] ++ b) = [0, 0, 0] ++ octs b := by rw [octs_app]; rfl
  rw [← sig_front _ (octs_lt9 b), ← e]
  obtain ⟨h1, h2⟩ := sig_good (octs (#[0, 0, 0] ++ b)) (octs_lt9 _)
  refine ⟨by rw [sigL_len, octs_length, Array.size_append]; simp; omega, sigL_small _, .inl ⟨_, t, rfl, h1, by rw [h2, ofOcts_octs9]⟩⟩
theorem tell_back (hb : b.size ≤ 63) (h0 : b.size % 3 = 0) : Tell (sigL (octs b) ++ [65, 65, 65, 65]) (.bytes (b ++ #[0, 0, 0]) t) := by
  have e : octs (b ++ #[0, 0, 0]) = octs b ++ [0, 0, 0] := by rw [octs_app]; rfl
  rw [← sig_back _ (by rw [octs_length]; exact h0), ← e]
  obtain ⟨h1, h2⟩ := sig_good (octs (b ++ #[0, 0, 0])) (octs_lt9 _)
  refine ⟨by rw [sigL_len, octs_length, Array.size_append]; simp; omega, sigL_small _, .inl ⟨_, t, rfl, h1, by rw [h2, ofOcts_octs9]⟩⟩
theorem tell_more (hb : b.size ≤ 63) (h0 : b.size % 3 = 0) : Tell (sigL (octs b) ++ [61]) (.bytes b t) := by
  obtain ⟨h1, h2⟩ := sig_more (octs b) (octs_lt9 b) (by rw [octs_length]; exact h0)
  refine ⟨by rw [List.length_append, sigL_len, octs_length]; simp; omega, ?_, .inl ⟨b, t, rfl, h1, by rw [h2, ofOcts_octs9]⟩⟩
  intro c hc
  rcases List.mem_append.mp hc with hc | hc
  · exact sigL_small _ c hc
  · rw [List.mem_singleton.mp hc]; decide
theorem tell_cut (hb : b.size ≤ 63) (c : Nat) (hc : 1 ≤ c ∧ c ≤ 3) (hne : 0 < b.size) : Tell ((sigL (octs b)).take ((sigL (octs b)).length - c)) .none := by
  refine ⟨by rw [List.length_take, sigL_len, octs_length]; omega, fun x hx => sigL_small _ x (List.mem_of_mem_take hx), .inr ⟨rfl, sig_cut _ c hc (fun e => ?_)⟩⟩
  have h0 : (octs b).length = 0 := by rw [e]; rfl
  rw [octs_length] at h0
  omega
end
def JoinT (g : Heap) (L TL SG : Addr) (oSG : Obj) (b : Array UInt8) (tb : Tok) (scr : Value) (s : Shared) (f : Flow) (s' : Shared) : Prop :=
  ∃ (h' : Heap) (tk : Nat) (u : Str → Option Value) (tv : List Value) (kt : Nat) (rows : List (Addr × Obj)), f = .next ∧ s' = { s with heap := h', toks := tk } ∧ Fr g L h' (kstB u [("tellings", .ref TL), ("signs", .ref SG), ("data", .bytes b tb), ("script", scr)]) ∧
    News g L h' ((TL, W.listOf tv.toArray kt) :: (SG, oSG) :: rows) ∧ OwnOff rows [TL, SG] ∧ (∀ v ∈ tv, InTell ((SG, oSG) :: rows) v) ∧ tv.length ≤ 4
theorem joinT {g : Heap} {L TL SG : Addr} {oSG : Obj} {b : Array UInt8} {tb : Tok} {scr : Value} {s : Shared} {h' : Heap} {tk : Nat} {m : Str → Option Value} {tv : List Value} {kt : Nat} {all rows : List (Addr × Obj)} (F : Fr g L h' m) (N : News g L h' all) (hk : HasAll m [("tellings", .ref TL), ("signs", .ref SG), ("data", .bytes b tb), ("script", scr)])
    (hs : ∀ p ∈ (TL, W.listOf tv.toArray kt) :: (SG, oSG) :: rows, p ∈ all) (ho : OwnOff rows [TL, SG]) (hv : ∀ v ∈ tv, InTell ((SG, oSG) :: rows) v) (hl : tv.length ≤ 4) :
    JoinT g L TL SG oSG b tb scr s .next { s with heap := h', toks := tk } :=
  ⟨h', tk, m, tv, kt, rows, rfl, rfl, by rw [hasAll_eq hk]; exact F, fun p hp => N p (hs p hp), ho, hv, hl⟩
theorem mono_joinT {M : Model} {A : Around} {E : Value → Shared → Prop} {Q : Flow → Shared → Prop} {t : Sem Flow} {g : Heap} {L TL SG : Addr} {oSG : Obj} {b : Array UInt8} {tb : Tok} {scr : Value} {s : Shared} {m : Str → Option Value} (_F : Fr g L s.heap m) (_hk : HasAll m [("data", .bytes b tb), ("script", scr)])
    (h : wpAny M A t (JoinT g L TL SG oSG b tb scr s) E s) (h2 : ∀ f s', JoinT g L TL SG oSG b tb scr s f s' → Q f s') : wpAny M A t Q E s := wpAny_mono h h2 (fun _ _ e => e)
theorem off2 {rows : List (Addr × Obj)} {TL SG : Addr} (h : ∀ p ∈ rows, @Ne Nat p.1 TL ∧ @Ne Nat p.1 SG) : OwnOff rows [TL, SG] := by
  intro p hp b hb
  simp only [List.mem_cons, List.not_mem_nil, or_false] at hb
  rcases hb with rfl | rfl
  · exact (h p hp).1
  · exact (h p hp).2
theorem front4 (t : Tok) : StrsAre ((List.replicate (Int.toNat 4) [Value.str (Str.ofString "A") t]).flatten) ([65, 65, 65, 65].map sing) := by
  rw [show ([65, 65, 65, 65] : List Nat).map sing = [Str.ofString "A", Str.ofString "A", Str.ofString "A", Str.ofString "A"] from by decide]
  exact .cons _ _ (.cons _ _ (.cons _ _ (.cons _ _ .nil)))
theorem eq1 (t : Tok) : StrsAre [Value.str (Str.ofString "=") t] ([61].map sing) := by
  rw [show ([61] : List Nat).map sing = [Str.ofString "="] from by decide]
  exact .cons _ _ .nil
section
variable {rows : List (Addr × Obj)} {P B : Addr} {sv : List Value} {b : Array UInt8} {t t2 : Tok} {n1 n2 : Nat}
theorem in_whole (hsv : StrsAre sv ((sigL (octs b)).map sing)) (hb : b.size ≤ 63) (h1 : (P, W.listOf #[.ref B, .bytes b t] n1) ∈ rows) (h2 : (B, W.listOf sv.toArray n2) ∈ rows) : InTell rows (.ref P) :=
  ⟨P, B, sv, _, n1, n2, _, rfl, h1, h2, hsv, tell_whole hb⟩
theorem in_front (hsv : StrsAre sv ((sigL (octs b)).map sing)) (hb : b.size ≤ 63) (h1 : (P, W.listOf #[.ref B, .bytes (#[0, 0, 0] ++ b) t] n1) ∈ rows) (h2 : (B, W.listOf ((List.replicate (Int.toNat 4) [Value.str (Str.ofString "A") t2]).flatten ++ sv).toArray n2) ∈ rows) : InTell rows (.ref P) :=
  ⟨P, B, _, _, n1, n2, _, rfl, h1, h2, by rw [List.map_append]; exact strsAre_append (front4 t2) hsv, tell_front hb⟩
theorem in_more (hsv : StrsAre sv ((sigL (octs b)).map sing)) (hb : b.size ≤ 63) (h0 : b.size % 3 = 0) (h1 : (P, W.listOf #[.ref B, .bytes b t] n1) ∈ rows) (h2 : (B, W.listOf (sv ++ [Value.str (Str.ofString "=") t2]).toArray n2) ∈ rows) : InTell rows (.ref P) :=
  ⟨P, B, _, _, n1, n2, _, rfl, h1, h2, by rw [List.map_append]; exact strsAre_append hsv (eq1 t2), tell_more hb h0⟩
theorem in_back (hsv : StrsAre sv ((sigL (octs b)).map sing)) (hb : b.size ≤ 63) (h0 : b.size % 3 = 0) (h1 : (P, W.listOf #[.ref B, .bytes (b ++ #[0, 0, 0]) t] n1) ∈ rows) (h2 : (B, W.listOf (sv ++ (List.replicate (Int.toNat 4) [Value.str (Str.ofString "A") t2]).flatten).toArray n2) ∈ rows) : InTell rows (.ref P) :=
  ⟨P, B, _, _, n1, n2, _, rfl, h1, h2, by rw [List.map_append]; exact strsAre_append hsv (front4 t2), tell_back hb h0⟩
end
def CutInv (TL SG : Addr) (oSG : Obj) (i : Nat) (c : Obj × List (Addr × Obj)) : Prop :=
  ∃ (tv : List Value) (kt : Nat), c.1 = W.listOf tv.toArray kt ∧ OwnOff c.2 [TL, SG] ∧ (∀ v ∈ tv, InTell ((SG, oSG) :: c.2) v) ∧ tv.length ≤ 4 + i
theorem memCut {α : Type} {a b p : α} {r r' : List α} (h : p ∈ a :: b :: (r ++ r')) : p ∈ a :: r ++ ([b] ++ r') := by
  simp only [List.mem_cons, List.mem_append, List.not_mem_nil, or_false] at h ⊢
  rcases h with h | h | h | h <;> simp [h]
section
variable {prog : Program} {w : World} {A : Around} {E : Value → Shared → Prop} {s : Shared} {h₀ : Heap} {L l : Addr} {m : Str → Option Value} {news : List (Addr × Obj)} {value slice : Expr} {Q : Value → Shared → Prop}
theorem pick_neg (vs : List Value) {c : Int} (hc : 0 < c) : (slicePick vs.toArray none (some (-c)) none).toList = vs.take (vs.length - c.toNat) := by
  have e : sliceBounds none (some (-c)) none vs.toArray.size = (((0 : Nat) : Int), ((vs.length - c.toNat : Nat) : Int), 1) := by
    simp only [sliceBounds, Option.getD_none, show (1 : Int) > 0 by decide, if_true, if_pos (show -c < 0 by omega), List.size_toArray]
    congr 1
    congr 1
    omega
  rw [kmk_pick_nat _ e]
  simp
theorem sliceNeg_Z {vs : List Value} {n : Nat} {c : Int} {tc : Tok} (F : Fr h₀ L s.heap m) (N : News h₀ L s.heap news) (hl : (l, W.listOf vs.toArray n) ∈ news) (hc : 0 < c) (hz : vs.length ≤ 1000000)
    (h : ∀ D h', Fr h₀ L h' m → News h₀ L h' ((D, W.listOf (vs.take (vs.length - c.toNat)).toArray 0) :: news) → (∀ p ∈ news, p.1 < D) → Q (.ref D) { s with heap := h' })
    (hs : subscripted slice false (.ref l) (.ref s.heap.objs.size) = operate [.ref s.heap.objs.size, .ref l] (getItem (.ref l) (.ref s.heap.objs.size))) (ht : ∀ r, letTemporaryGo value (.ref l) r = pure ()) :
    wpAny (model prog w) A (subscriptTail value slice (.ref l) (.ref s.heap.objs.size)) Q E { s with heap := s.heap.push { cls := .type "slice", data := .fields #[.none, .int (-c) tc, .none] } } :=
  kmk_slice_lit F N ⟨_, (N _ hl).1, rfl, n, rfl⟩ .none (.int _ _) (pick_neg vs hc) h hs ht (by rw [List.size_toArray, sizeLine_eq]; omega)
end
theorem strsAre_take {vs : List Value} {ys : List Str} (h : StrsAre vs ys) : ∀ j : Nat, StrsAre (vs.take j) (ys.take j) := by
  induction h with
  | nil => intro j; simp; exact .nil
  | cons z u _ ih =>
    intro j
    cases j with
    | zero => exact .nil
    | succ j => exact .cons _ _ (ih j)
theorem sig_strOk (l : List Nat) : ∀ y ∈ (sigL l).map sing, PyData.strOk y = true := by
  intro y hy
  obtain ⟨c, hc, rfl⟩ := List.mem_map.mp hy
  have := sigL_small l c hc
  simp [PyData.strOk, sing]
  omega
theorem in_cut {rows : List (Addr × Obj)} {P B : Addr} {sv : List Value} {b : Array UInt8} {n1 n2 : Nat} {c : Int} (hsv : StrsAre sv ((sigL (octs b)).map sing)) (hb : b.size ≤ 63) (hb0 : b.size ≠ 0) (hc : c = 1 ∨ c = 2 ∨ c = 3)
    (h1 : (P, W.listOf #[.ref B, .none] n1) ∈ rows) (h2 : (B, W.listOf (sv.take (sv.length - c.toNat)).toArray n2) ∈ rows) : InTell rows (.ref P) := by
  have hl := strsAre_length hsv
  rw [List.length_map] at hl
  refine ⟨P, B, _, _, n1, n2, (sigL (octs b)).take ((sigL (octs b)).length - c.toNat), rfl, h1, h2, ?_, tell_cut hb _ (by omega) (by omega)⟩
  rw [List.map_take, ← hl]
  exact strsAre_take hsv _
theorem CutInv.add {TL SG P B : Addr} {oSG : Obj} {i kt' : Nat} {tv : List Value} {rows : List (Addr × Obj)} {sv : List Value} {b : Array UInt8} {n1 n2 : Nat} {c : Int} (hoff : OwnOff rows [TL, SG]) (hall : ∀ v ∈ tv, InTell ((SG, oSG) :: rows) v) (hl : tv.length ≤ 4 + i)
    (hsv : StrsAre sv ((sigL (octs b)).map sing)) (hb : b.size ≤ 63) (hb0 : b.size ≠ 0) (hc : c = 1 ∨ c = 2 ∨ c = 3) (n3 : @Ne Nat P TL ∧ @Ne Nat P SG ∧ @Ne Nat B TL ∧ @Ne Nat B SG) :
    CutInv TL SG oSG (i + 1) (W.listOf (tv ++ [Value.ref P]).toArray kt', (P, W.listOf #[.ref B, .none] n1) :: (B, W.listOf (sv.take (sv.length - c.toNat)).toArray n2) :: rows) := by
  refine ⟨tv ++ [Value.ref P], kt', rfl, ?_, ?_, by simp; omega⟩
  · refine off2 ?_
    intro p hp
    rcases List.mem_cons.mp hp with rfl | hp
    · exact ⟨n3.1, n3.2.1⟩
    · rcases List.mem_cons.mp hp with rfl | hp
      · exact ⟨n3.2.2.1, n3.2.2.2⟩
      · exact ⟨hoff p hp _ (by simp), hoff p hp _ (by simp)⟩
  · intro v hv
    rcases List.mem_append.mp hv with hv | hv
    · refine (hall v hv).mono fun p hp => ?_
      rcases List.mem_cons.mp hp with rfl | hp
      · exact .head _
      · exact .tail _ (.tail _ (.tail _ hp))
    · rw [List.mem_singleton.mp hv]
      exact in_cut hsv hb hb0 hc (.tail _ (.head _)) (.tail _ (.tail _ (.head _)))
theorem memDA2 {α : Type} {a b p : α} {r r' : List α} (h : p ∈ a :: r) : p ∈ a :: b :: (r ++ r') := by
  simp only [List.mem_cons, List.mem_append] at h ⊢
  rcases h with h | h <;> simp [h]
theorem memE {α : Type} {a b c d e p : α} {r r' : List α} (h : p ∈ d :: a :: b :: r) : p ∈ a :: b :: c :: d :: e :: (r ++ r') := by
  simp only [List.mem_cons, List.mem_append] at h ⊢
  rcases h with h | h | h | h <;> simp [h]
theorem own_cut {own rows : List (Addr × Obj)} {TL P B : Addr} (hoff : OwnOff own (TL :: rows.map (·.1))) (h1 : AllLt P (rows ++ own)) (h2 : AllLt B (rows ++ own)) : OwnOff own (TL :: P :: B :: rows.map (·.1)) := by
  intro p hp b hb
  rcases List.mem_cons.mp hb with rfl | hb
  · exact hoff p hp _ (by simp)
  · rcases List.mem_cons.mp hb with rfl | hb
    · exact Nat.ne_of_lt (kst_ltOf h1 p (List.mem_append_right _ hp))
    · rcases List.mem_cons.mp hb with rfl | hb
      · exact Nat.ne_of_lt (kst_ltOf h2 p (List.mem_append_right _ hp))
      · exact hoff p hp _ (List.mem_cons_of_mem _ hb)
theorem memF {α : Type} {a b p : α} {r : List α} (h : p ∈ a :: b :: r) : p ∈ a :: r ++ [b] := by
  simp only [List.mem_cons, List.mem_append, List.not_mem_nil, or_false] at h ⊢
  rcases h with h | h | h <;> simp [h]
end Mine

namespace Mine
open PySem PySem.W PySem.Spec PySem.Calls PyProof.Rows
def End09 (ps : List (Str × Value)) (h₀ : Heap) (L : Addr) (s : Shared) (DU RT ST X DD : Addr) (oST oX : Obj) (mk : Addr → Obj) (own : List (Addr × Obj)) (i : Nat) (s₂ : Shared) : Prop :=
  ∃ (h' : Heap) (tk : Nat) (m' : Str → Option Value) (news' : List (Addr × Obj)) (DA : Addr) (rv dv : List Value) (rn dn : Nat) (zs : List (Array UInt8)), s₂ = { s with heap := h', toks := tk } ∧ Fr h₀ L h' m' ∧ News h₀ L h' news' ∧
    (∀ p ∈ (DU, W.listOf dv.toArray dn) :: (DA, W.listOf #[] 0) :: (RT, W.listOf rv.toArray rn) :: (ST, oST) :: (X, oX) :: (DD, mk DA) :: own, p ∈ news') ∧ BytesAre rv zs ∧ BytesAre dv zs ∧ zs.length ≤ i + 1 ∧
    (@Ne Nat DA DU ∧ @Ne Nat DA RT ∧ @Ne Nat DA ST ∧ @Ne Nat DA X ∧ @Ne Nat DA DD) ∧ (∀ p ∈ own, p.1 ≠ DA) ∧ HasAll m' (("due", .ref DU) :: ("parser", .ref X) :: ps)
def Post09 (ps : List (Str × Value)) (h₀ : Heap) (L : Addr) (s : Shared) (DU RT ST X DD : Addr) (oST oX : Obj) (mk : Addr → Obj) (own : List (Addr × Obj)) (i : Nat) (Q : Flow → Shared → Prop) (f : Flow) (s₂ : Shared) : Prop :=
  match f with
  | .ret v => Q (.ret v) s₂
  | .brk => Q .next s₂
  | _ => End09 ps h₀ L s DU RT ST X DD oST oX mk own i s₂
theorem end09 {ps : List (Str × Value)} {h₀ : Heap} {L : Addr} {s : Shared} {DU RT ST X DD DA : Addr} {oST oX : Obj} {mk : Addr → Obj} {own news' : List (Addr × Obj)} {i : Nat} {h' : Heap} {tk : Nat} {m' : Str → Option Value} {rv dv : List Value} {rn dn : Nat} {zs : List (Array UInt8)} (F : Fr h₀ L h' m') (N : News h₀ L h' news')
    (hs : ∀ p ∈ (DU, W.listOf dv.toArray dn) :: (DA, W.listOf #[] 0) :: (RT, W.listOf rv.toArray rn) :: (ST, oST) :: (X, oX) :: (DD, mk DA) :: own, p ∈ news') (h1 : BytesAre rv zs) (h2 : BytesAre dv zs) (hz : zs.length ≤ i + 1)
    (ne : @Ne Nat DA DU ∧ @Ne Nat DA RT ∧ @Ne Nat DA ST ∧ @Ne Nat DA X ∧ @Ne Nat DA DD) (ho : ∀ p ∈ own, p.1 ≠ DA) (hk : HasAll m' (("due", .ref DU) :: ("parser", .ref X) :: ps)) :
    End09 ps h₀ L s DU RT ST X DD oST oX mk own i { s with heap := h', toks := tk } := ⟨h', tk, m', news', DA, rv, dv, rn, dn, zs, rfl, F, N, hs, h1, h2, hz, ne, ho, hk⟩
section
variable {prog : Program} {w : World} {A : Around} {E : Value → Shared → Prop} {Q : Flow → Shared → Prop} {s : Shared} {env : Env} {h₀ : Heap}
theorem loop09 (ps : List (Str × Value)) {target : Expr} {body : List Stmt} {DU DA0 RT ST X DD d1 TX : Addr} {o1 oST oX : Obj} {mk : Addr → Obj} {RF : List Value} {nr : Nat} {RW : List (Addr × Obj)} {m₀ : Str → Option Value}
    (hh : A.handled = none) (F : Fr h₀ env.locals s.heap m₀) (hk : HasAll m₀ (("due", .ref DU) :: ("parser", .ref X) :: ps))
    (N : News h₀ env.locals s.heap ((DU, W.listOf #[] 0) :: (DA0, W.listOf #[] 0) :: (RT, W.listOf #[] 0) :: (d1, o1) :: (ST, oST) :: (X, oX) :: (DD, mk DA0) :: (TX, W.listOf RF.toArray nr) :: RW))
    (l1 : @LT.lt Nat _ TX DD) (l2 : @LT.lt Nat _ DD X) (l3 : @LT.lt Nat _ X ST) (l4 : @LT.lt Nat _ ST RT) (l5 : @LT.lt Nat _ RT DA0) (l6 : @LT.lt Nat _ DA0 DU)
    (o1' : ∀ p ∈ RW, p.1 ≠ DU) (o2 : ∀ p ∈ RW, p.1 ≠ DA0) (o3 : ∀ p ∈ RW, p.1 ≠ RT) (o4 : ∀ p ∈ RW, p.1 ≠ ST) (o6 : AllLt DD RW)
    (hall : ∀ v ∈ RF, InTell RW v)
    (turn : ∀ i a B vs wv n n' ss DA rv rn dv dn zs own (u : Str → Option Value) h tk, i < RF.length → (a, W.listOf #[.ref B, wv] n') ∈ own → (B, W.listOf vs.toArray n) ∈ own → StrsAre vs (ss.map sing) → Tell ss wv → BytesAre rv zs → BytesAre dv zs → zs.length ≤ i →
      @Ne Nat DA DU → @Ne Nat DA RT → @Ne Nat DA ST → @Ne Nat DA X → @Ne Nat DA DD → OwnOff own [DU, DA, RT, ST, X, DD] →
      Fr h₀ env.locals h (kstB u (("due", .ref DU) :: ("parser", .ref X) :: ps)) →
      News h₀ env.locals h ((DU, W.listOf dv.toArray dn) :: (DA, W.listOf #[] 0) :: (RT, W.listOf rv.toArray rn) :: (ST, oST) :: (X, oX) :: (DD, mk DA) :: own) →
      wpAny (model prog w) A (assign target env (.ref a)) (fun _ s₃ => wpAny (model prog w) A (execs body env) (Post09 ps h₀ env.locals { s with heap := h, toks := tk } DU RT ST X DD oST oX mk own i Q) E s₃) E { s with heap := h, toks := tk })
    (done : ∀ DA rv rn zs (u : Str → Option Value) h tk, BytesAre rv zs → zs.length ≤ RF.length → @Ne Nat DA DU → @Ne Nat DA RT → @Ne Nat DA ST → @Ne Nat DA X → @Ne Nat DA DD → 
      Fr h₀ env.locals h (kstB u (("due", .ref DU) :: ("parser", .ref X) :: ps)) → News h₀ env.locals h ((DA, W.listOf #[] 0) :: (RT, W.listOf rv.toArray rn) :: (ST, oST) :: (X, oX) :: (DD, mk DA) :: RW) → Q .next { s with heap := h, toks := tk }) :
    wpAny (model prog w) A (pyIter (.ref TX)) (fun it s₂ => TurnsAt prog w A h₀ env target body Q E it s₂) E s := by
  refine for_turnsK (σ := Obj × Addr × Obj) (nn := nr) (vs := RF) RW (fun c => [(DU, c.1), (c.2.1, W.listOf #[] 0), (RT, c.2.2), (ST, oST), (X, oX), (DD, mk c.2.1)]) (fun _ => (("due", .ref DU) :: ("parser", .ref X) :: ps))
    (fun i c => ∃ dv dn rv rn zs, c.1 = W.listOf dv.toArray dn ∧ c.2.2 = W.listOf rv.toArray rn ∧ BytesAre rv zs ∧ BytesAre dv zs ∧ zs.length ≤ i ∧ (@Ne Nat c.2.1 DU ∧ @Ne Nat c.2.1 RT ∧ @Ne Nat c.2.1 ST ∧ @Ne Nat c.2.1 X ∧ @Ne Nat c.2.1 DD) ∧ ∀ p ∈ RW, p.1 ≠ c.2.1)
    (W.listOf #[] 0, DA0, W.listOf #[] 0) hh (by simp) ?_ F N ?_ ?_ hk ?_ ?_ ?_
  · intro p hp
    simp only [List.mem_cons, List.not_mem_nil, or_false] at hp
    rcases hp with rfl | rfl | rfl | rfl | rfl | rfl <;> (refine neN ?_; (try dsimp only); omega)
  · intro p hp
    simp only [List.mem_cons, List.not_mem_nil, or_false] at hp ⊢
    rcases hp with rfl | rfl | rfl | rfl | rfl | rfl <;> simp
  · intro p hp
    simp [hp]
  · exact ⟨[], 0, [], 0, [], rfl, rfl, .nil, .nil, Nat.le_refl _, ⟨by (try dsimp only) <;> omega, by (try dsimp only) <;> omega, by (try dsimp only) <;> omega, by (try dsimp only) <;> omega, by (try dsimp only) <;> omega⟩, o2⟩
  · rintro i v ⟨c1, DA, c3⟩ u h tk own hi hv ⟨dv, dn, rv, rn, zs, h1, h2, hr, hd, hz, ⟨n1, n2, n3, n4, n5⟩, o7⟩ hoff hown F' N'
    dsimp only at h1 h2 n1 n2 n3 n4 n5 o7
    subst h1; subst h2
    obtain ⟨a, B, vs, wv, n', n, ss, rfl, hm, hm2, hss, hg⟩ := hall v (List.mem_of_getElem? hv)
    have hoff' : OwnOff own [DU, DA, RT, ST, X, DD] := hoff
    refine wpAny_mono (turn i a B vs wv n n' ss DA rv rn dv dn zs (RW ++ own) u h tk hi (List.mem_append_left _ hm) (List.mem_append_left _ hm2) hss hg hr hd hz n1 n2 n3 n4 n5 ?_ F' N') (fun _ s₃ h₃ => wpAny_mono h₃ (fun f s₂ hpost => ?_) (fun _ _ e => e)) (fun _ _ e => e)
    · intro p hp b hb
      rcases List.mem_append.mp hp with hp | hp
      · simp only [List.mem_cons, List.not_mem_nil, or_false] at hb
        rcases hb with rfl | rfl | rfl | rfl | rfl | rfl
        · exact o1' p hp
        · exact o7 p hp
        · exact o3 p hp
        · exact o4 p hp
        · exact Nat.ne_of_lt (Nat.lt_trans (kst_ltOf o6 p hp) l2)
        · exact Nat.ne_of_lt (kst_ltOf o6 p hp)
      · exact hoff' p hp b hb
    · have fin : End09 ps h₀ env.locals { s with heap := h, toks := tk } DU RT ST X DD oST oX mk (RW ++ own) i s₂ → FkEnd h₀ env.locals { s with heap := h, toks := tk } RW (fun c : Obj × Addr × Obj => [(DU, c.1), (c.2.1, W.listOf #[] 0), (RT, c.2.2), (ST, oST), (X, oX), (DD, mk c.2.1)]) (fun _ => (("due", .ref DU) :: ("parser", .ref X) :: ps))
          (fun c => ∃ dv dn rv rn zs, c.1 = W.listOf dv.toArray dn ∧ c.2.2 = W.listOf rv.toArray rn ∧ BytesAre rv zs ∧ BytesAre dv zs ∧ zs.length ≤ i + 1 ∧ (@Ne Nat c.2.1 DU ∧ @Ne Nat c.2.1 RT ∧ @Ne Nat c.2.1 ST ∧ @Ne Nat c.2.1 X ∧ @Ne Nat c.2.1 DD) ∧ ∀ p ∈ RW, p.1 ≠ c.2.1) own s₂ := by
        rintro ⟨h', tk', m', news', DA', rv', dv', rn', dn', zs', e, F2, N2, hs, a1, a2, a3, a4, a5, a6⟩
        refine ⟨(W.listOf dv'.toArray dn', DA', W.listOf rv'.toArray rn'), h', tk', m', news', e, F2, N2, ?_, ?_, ?_, ?_, a6, ⟨dv', dn', rv', rn', zs', rfl, rfl, a1, a2, a3, a4, fun p hp => a5 p (List.mem_append_left _ hp)⟩⟩
        · intro p hp
          refine hs p ?_
          simp only [List.mem_cons, List.not_mem_nil, or_false] at hp ⊢
          rcases hp with rfl | rfl | rfl | rfl | rfl | rfl <;> simp
        · intro p hp
          exact hs p (by simp [hp])
        · intro p hp
          exact hs p (by simp [hp])
        · intro p hp b hb
          simp only [List.map_cons, List.map_nil, List.mem_cons, List.not_mem_nil, or_false] at hb
          rcases hb with rfl | rfl | rfl | rfl | rfl | rfl
          · exact hoff' p hp _ (by simp)
          · exact a5 p (List.mem_append_right _ hp)
          · exact hoff' p hp _ (by simp)
          · exact hoff' p hp _ (by simp)
          · exact hoff' p hp _ (by simp)
          · exact hoff' p hp _ (by simp)
      cases f with
      | ret v => exact hpost
      | brk => exact hpost
      | next => exact fin hpost
      | cont => exact fin hpost
  · rintro ⟨c1, DA, c3⟩ u h tk ⟨dv, dn, rv, rn, zs, h1, h2, hr, hd, hz, ⟨n1, n2, n3, n4, n5⟩, o7⟩ F' N'
    dsimp only at h1 h2 n1 n2 n3 n4 n5
    subst h1; subst h2
    refine done DA rv rn zs u h tk hr hz n1 n2 n3 n4 n5 F' (fun p hp => N' p ?_)
    simp only [List.mem_cons, List.mem_append, List.not_mem_nil, or_false] at hp ⊢
    rcases hp with rfl | rfl | rfl | rfl | rfl | hp
    · simp
    · simp
    · simp
    · simp
    · simp
    · simp [hp]
end
end Mine

namespace Mine
open PySem PySem.W PySem.Spec PySem.Calls PyProof.Rows
section
variable {prog : Program} {w : World} {A : Around} {E : Value → Shared → Prop} {Q : Flow → Shared → Prop} {s : Shared} {env : Env} {h₀ : Heap}
/-- a loop over a range; rows are kept -/
theorem for_rangeK {σ : Type} {x : Str} {body : List Stmt} {r : Addr} {a₀ b₀ c₀' : Int} {t₀ u₀ v₀ : Tok} (n : Nat) {m₀ : Str → Option Value} {news₀ : List (Addr × Obj)} (keep : List (Addr × Obj)) (Led : σ → List (Addr × Obj)) (ps : σ → List (Str × Value)) (P : Nat → σ → Prop) (c₀ : σ)
    (hh : A.handled = none) (hr : IsRange s.heap r a₀ b₀ c₀' t₀ u₀ v₀) (hn : Builtin.Range.rangeSize a₀ b₀ c₀' = (n : Int))
    (F : Fr h₀ env.locals s.heap m₀) (N : News h₀ env.locals s.heap news₀) (hL : ∀ p ∈ Led c₀, p ∈ news₀) (hkp : ∀ p ∈ keep, p ∈ news₀) (hk : HasAll m₀ (ps c₀)) (hp : P 0 c₀)
    (turn : ∀ (i : Nat) t (c : σ) (u : Str → Option Value) h tk own, i < n → P i c → OwnOff own ((Led c).map (·.1)) →
      Fr h₀ env.locals h (fun y => if y = x then some (.int (a₀ + (i : Int) * c₀') t) else kstB u (ps c) y) → News h₀ env.locals h (Led c ++ (keep ++ own)) →
      wpAny (model prog w) A (execs body env) (FkPost h₀ env.locals { s with heap := h, toks := tk } keep Led ps (fun c => P (i + 1) c) own Q) E { s with heap := h, toks := tk })
    (done : ∀ (c : σ) (u : Str → Option Value) h tk, P n c → Fr h₀ env.locals h (kstB u (ps c)) → News h₀ env.locals h (Led c ++ keep) → Q .next { s with heap := h, toks := tk }) :
    wpAny (model prog w) A (pyIter (.ref r)) (fun it s₂ => LoopAtV prog w A h₀ env x body Q E it s₂) E s := by
  have N' : News h₀ env.locals s.heap (Led c₀ ++ keep) := fun p hp => N p ((List.mem_append.mp hp).elim (hL p) (hkp p))
  have main : ∀ (o : Obj) (St : Nat → Heap → Prop), (∀ i h, St i h → ∃ o, h.get? s.heap.objs.size = some o) → Walks prog w A s.heap.objs.size [s.heap.objs.size] [s.heap.objs.size] n (fun i v => i < n ∧ ∃ t, v = .int (a₀ + i * c₀') t) St → St 0 (s.heap.push o) →
      LoopAtV prog w A h₀ env x body Q E (.ref s.heap.objs.size) { s with heap := s.heap.push o } := by
    intro o St hal W hst
    refine for_K keep Led ps P c₀ W ?_ ?_ ?_ hst (F.push _) (fun p hp => ⟨Heap.get?_push_of_some _ (N' p hp).1, (N' p hp).2⟩) ?_ ?_ hk hp ?_ ?_
    · intro hm
      exact absurd F.ns.lt ((List.mem_singleton.mp hm) ▸ Nat.lt_irrefl _)
    · intro b' hb
      rw [List.mem_singleton.mp hb]
      exact next_is_new F
    · intro i h ho b' hb
      rw [List.mem_singleton.mp hb]; exact hal i h ho
    · intro p hp hI
      exact absurd (Heap.lt_size (N' p (List.mem_append_left _ hp)).1) ((List.mem_singleton.mp hI) ▸ Nat.lt_irrefl _)
    · intro p hp hI
      exact absurd (Heap.lt_size (N' p (List.mem_append_right _ hp)).1) ((List.mem_singleton.mp hI) ▸ Nat.lt_irrefl _)
    · rintro i v c u h tk own hi ⟨_, t, rfl⟩ hp' hoff _ _ F₁ N₁
      exact turn i t c u h tk own hi hp' hoff F₁ N₁
    · exact done
  cases hsm : Builtin.Range.small a₀ b₀ c₀'
  · exact wpAny_pyIter_longrange hr hsm (main _ _ (fun i h st => ⟨_, st⟩) (Walks.longrange hh _ a₀ c₀' n).bound (by show IsLongIter _ _ _ _ _; rw [hn]; simpa using Heap.get?_push_size _ rfl))
  · exact wpAny_pyIter_range hr hsm (main _ _ (fun i h st => ⟨_, st⟩) (Walks.range hh _ a₀ c₀' n).bound (by show IsRangeIter _ _ _ _ _; rw [hn]; simpa using Heap.get?_push_size _ rfl))
end
theorem news6 {h₀ h : Heap} {L : Addr} {r1 r2 r3 r4 r5 r6 a b : Addr × Obj} {own : List (Addr × Obj)} (N : News h₀ L h (r1 :: r2 :: r3 :: r4 :: r5 :: r6 :: own)) (ha : a ∈ own) (hb : b ∈ own) :
    News h₀ L h (r1 :: r2 :: r3 :: r4 :: r5 :: r6 :: a :: b :: own) := by
  refine dropN N fun p hp => ?_
  simp only [List.mem_cons] at hp ⊢
  rcases hp with h | h | h | h | h | h | h | h | h
  · exact .inl h
  · exact .inr (.inl h)
  · exact .inr (.inr (.inl h))
  · exact .inr (.inr (.inr (.inl h)))
  · exact .inr (.inr (.inr (.inr (.inl h))))
  · exact .inr (.inr (.inr (.inr (.inr (.inl h)))))
  · exact .inr (.inr (.inr (.inr (.inr (.inr (h ▸ ha))))))
  · exact .inr (.inr (.inr (.inr (.inr (.inr (h ▸ hb))))))
  · exact .inr (.inr (.inr (.inr (.inr (.inr h)))))
def charsOf (ys : List Str) : List Nat := ys.flatMap fun y => y.cps.toList
theorem join_chars (ys : List Str) : (Txt.join (Str.ofString "") ys).cps.toList = charsOf ys := by
  show (Builtin.Str.glued (Str.ofString "") ys).cps.toList = charsOf ys
  rw [StrLaws.glued_eq_join]
  induction ys with
  | nil => rfl
  | cons a r ih =>
    cases r with
    | nil => simp [Str.join, charsOf]
    | cons b r =>
      show (a ++ Str.ofString "" ++ Str.join (Str.ofString "") (b :: r)).cps.toList = _
      have e : ∀ x y : Str, (x ++ y).cps.toList = x.cps.toList ++ y.cps.toList := fun x y => by show (x.cps ++ y.cps).toList = _; simp
      rw [e, e, ih]
      have e2 : (Str.ofString "").cps.toList = [] := by decide
      rw [e2]
      simp [charsOf]
/-- what the parser's data list holds after i signs -/
def DataInv (ss : List Nat) (i : Nat) (c : Obj) : Prop :=
  ∃ us nn ys, c = W.listOf us.toArray nn ∧ StrsAre us ys ∧ Noisy (charsOf ys) (ss.take i) ∧ (ys.map (·.length)).sum ≤ 3 * i ∧ us.length ≤ 2 * i ∧ ((charsOf ys).flatMap u8).length ≤ 4 * i
def noises : List Str := [Str.ofString "", Str.ofString " ", Str.ofString "\n\t", Str.ofString "-_", Str.ofString "é", Str.ofString "€", Str.ofString ""]
theorem noise_u8 : ∀ x ∈ noises, (x.cps.toList.flatMap u8).length ≤ 3 := by decide +kernel
section
variable {us : List Value} {ys : List Str} {ss : List Nat} {i nn nn' : Nat} {y : Str} {c : Nat} {t t' : Tok}
theorem DataInv.zero : DataInv ss 0 (W.listOf #[] 0) := ⟨[], 0, [], rfl, .nil, .nil, Nat.le_refl _, Nat.le_refl _, Nat.le_refl _⟩
theorem DataInv.one (h : StrsAre us ys) (hn : Noisy (charsOf ys) (ss.take i)) (hl : (ys.map (·.length)).sum ≤ 3 * i) (hu : us.length ≤ 2 * i) (h8 : ((charsOf ys).flatMap u8).length ≤ 4 * i) (hc : ss[i]? = some c) (h128 : ∀ c ∈ ss, c < 128) :
    DataInv ss (i + 1) (W.listOf (us ++ [Value.str (sing c) t']).toArray nn') := by
  refine ⟨_, nn', ys ++ [sing c], rfl, strs_snoc h, ?_, ?_, by simp; omega, ?_⟩
  · rw [List.take_add_one, hc]
    show Noisy (charsOf (ys ++ [sing c])) (ss.take i ++ [c])
    have e : charsOf (ys ++ [sing c]) = charsOf ys ++ [c] := by simp [charsOf, sing]
    rw [e]
    exact .char hn (h128 c (List.mem_of_getElem? hc))
  · simp [sing, Str.length] at hl ⊢; omega
  · have e : charsOf (ys ++ [sing c]) = charsOf ys ++ [c] := by simp [charsOf, sing]
    rw [e, List.flatMap_append, List.length_append, List.flatMap_singleton, u8_small (h128 c (List.mem_of_getElem? hc)), List.length_singleton]; omega
theorem DataInv.two (h : StrsAre us ys) (hn : Noisy (charsOf ys) (ss.take i)) (hl : (ys.map (·.length)).sum ≤ 3 * i) (hu : us.length ≤ 2 * i) (h8 : ((charsOf ys).flatMap u8).length ≤ 4 * i) (hc : ss[i]? = some c) (h128 : ∀ c ∈ ss, c < 128) (hy : y ∈ noises) :
    DataInv ss (i + 1) (W.listOf (us ++ [Value.str y t] ++ [Value.str (sing c) t']).toArray nn') := by
  obtain ⟨hy1, hy2⟩ := noise_ok y hy
  refine ⟨_, nn', ys ++ [y] ++ [sing c], rfl, strs_snoc (strs_snoc h), ?_, ?_, by simp; omega, ?_⟩
  · rw [List.take_add_one, hc]
    show Noisy (charsOf (ys ++ [y] ++ [sing c])) (ss.take i ++ [c])
    have e : charsOf (ys ++ [y] ++ [sing c]) = (charsOf ys ++ y.cps.toList) ++ [c] := by simp [charsOf, sing]
    rw [e]
    exact .char (.noise hn hy2) (h128 c (List.mem_of_getElem? hc))
  · simp [sing, Str.length] at hl hy1 ⊢; omega
  · have e : charsOf (ys ++ [y] ++ [sing c]) = charsOf ys ++ y.cps.toList ++ [c] := by simp [charsOf, sing]
    have h3 := noise_u8 y hy
    rw [e, List.flatMap_append, List.flatMap_append, List.length_append, List.length_append, List.flatMap_singleton, u8_small (h128 c (List.mem_of_getElem? hc)), List.length_singleton]; omega
end
section
variable {prog : Program} {w : World} {A : Around} {E : Value → Shared → Prop} {s : Shared} {h₀ : Heap} {L : Addr} {m : Str → Option Value} {news : List (Addr × Obj)} {value slice : Expr} {u : Tok} {Q : Value → Shared → Prop}
end
section
variable {prog : Program} {w : World} {A : Around} {E : Value → Shared → Prop} {Q : Flow → Shared → Prop} {s : Shared} {env : Env} {h₀ : Heap}
/-- a loop over a range, the ledger's second row turns, the others are kept -/
theorem for_range2 {x : Str} {body : List Stmt} {r : Addr} {a₀ b₀ c₀' : Int} {t₀ u₀ v₀ : Tok} (n : Nat) {m₀ : Str → Option Value} {r1 : Addr × Obj} {DA : Addr} {c₀ : Obj} {rest : List (Addr × Obj)} (ps : List (Str × Value)) (P : Nat → Obj → Prop)
    (hh : A.handled = none) (hr : IsRange s.heap r a₀ b₀ c₀' t₀ u₀ v₀) (hn : Builtin.Range.rangeSize a₀ b₀ c₀' = (n : Int))
    (F : Fr h₀ env.locals s.heap m₀) (N : News h₀ env.locals s.heap (r1 :: (DA, c₀) :: rest)) (hk : HasAll m₀ ps) (hp : P 0 c₀)
    (turn : ∀ (i : Nat) t (c : Obj) (u : Str → Option Value) h tk own, i < n → P i c → OwnOff own [DA] →
      Fr h₀ env.locals h (fun y => if y = x then some (.int (a₀ + (i : Int) * c₀') t) else kstB u ps y) → News h₀ env.locals h (r1 :: (DA, c) :: (rest ++ own)) →
      wpAny (model prog w) A (execs body env) (FkPost h₀ env.locals { s with heap := h, toks := tk } (r1 :: rest) (fun c => [(DA, c)]) (fun _ => ps) (fun c => P (i + 1) c) own Q) E { s with heap := h, toks := tk })
    (done : ∀ (c : Obj) (u : Str → Option Value) h tk, P n c → Fr h₀ env.locals h (kstB u ps) → News h₀ env.locals h (r1 :: (DA, c) :: rest) → Q .next { s with heap := h, toks := tk }) :
    wpAny (model prog w) A (pyIter (.ref r)) (fun it s₂ => LoopAtV prog w A h₀ env x body Q E it s₂) E s := by
  refine for_rangeK n (r1 :: rest) (fun c => [(DA, c)]) (fun _ => ps) P c₀ hh hr hn F N ?_ ?_ hk hp ?_ ?_
  · exact fun p hp => (List.mem_singleton.mp hp) ▸ .tail _ (.head _)
  · intro p hp
    rcases List.mem_cons.mp hp with h | h
    · exact h ▸ .head _
    · exact .tail _ (.tail _ h)
  · intro i t c u h tk own hi hc hoff F' N'
    refine turn i t c u h tk own hi hc hoff F' (dropN N' fun p hp => ?_)
    simp only [List.mem_cons, List.mem_append, List.not_mem_nil, or_false] at hp ⊢
    rcases hp with h | h | h | h <;> simp [h]
  · intro c u h tk hc F' N'
    refine done c u h tk hc F' (dropN N' fun p hp => ?_)
    simp only [List.mem_cons, List.mem_append, List.not_mem_nil, or_false] at hp ⊢
    rcases hp with h | h | h <;> simp [h]
end
theorem told_at {ss : List Nat} {i : Nat} (hi : i < ss.length) : ∃ c, ss[i]? = some c ∧ (ss.map sing).getD (0 + (i : Int) * 1).toNat Str.empty = sing c := by
  refine ⟨ss[i], List.getElem?_eq_getElem hi, ?_⟩
  rw [show (0 + (i : Int) * 1).toNat = i by omega, List.getD_eq_getElem?_getD, List.getElem?_map, List.getElem?_eq_getElem hi]
  rfl
theorem noises_len : noises.length = 7 := rfl
theorem noises_are (t1 t2 t3 t4 t5 t6 t7 : Tok) : StrsAre [.str (Str.ofString "") t1, .str (Str.ofString " ") t2, .str (Str.ofString "\n\t") t3, .str (Str.ofString "-_") t4, .str (Str.ofString "é") t5, .str (Str.ofString "€") t6, .str (Str.ofString "") t7] noises :=
  .cons _ _ (.cons _ _ (.cons _ _ (.cons _ _ (.cons _ _ (.cons _ _ (.cons _ _ .nil))))))
section
variable {α : Type} {a t t' x p : α} {r r' : List α}
theorem mem_t1 (h : p ∈ a :: r) : p ∈ t :: a :: x :: (r ++ r') := by
  rcases List.mem_cons.mp h with h | h
  · exact h ▸ .tail _ (.head _)
  · exact .tail _ (.tail _ (.tail _ (List.mem_append_left _ h)))
theorem mem_t2 (h : p ∈ a :: r) : p ∈ t' :: t :: a :: x :: (r ++ r') := .tail _ (mem_t1 h)
end
/-- the text that the parser joins, and its octets -/
theorem DataInv.text {ss : List Nat} {ys : List Str} (hn : Noisy (charsOf ys) ss) (h8 : ((charsOf ys).flatMap u8).length ≤ 4 * ss.length) (hs : ss.length ≤ 92) :
    (∀ k ∈ (Txt.join (Str.ofString "") ys).cps.toList, Str.isSurrogate k = false) ∧ (SE.enc Str.utf8Of (Txt.join (Str.ofString "") ys)).size ≤ 400 ∧
    goodA (octs (SE.enc Str.utf8Of (Txt.join (Str.ofString "") ys))) = goodA ss ∧ runA (octs (SE.enc Str.utf8Of (Txt.join (Str.ofString "") ys))) = runA ss := by
  have e := join_chars ys
  have e2 := octs_enc (Txt.join (Str.ofString "") ys)
  rw [e] at e2
  refine ⟨by rw [e]; exact hn.surr, ?_, by rw [e2]; exact hn.good, by rw [e2]; exact hn.run⟩
  rw [← octs_length, e2]
  omega
theorem BytesAre.at {vs : List Value} {zs : List (Array UInt8)} (h : BytesAre vs zs) : ∀ (i : Nat) v, vs[i]? = some v → ∃ b t, v = .bytes b t ∧ zs[i]? = some b := by
  induction h with
  | nil => intro i v h; simp at h
  | cons b t _ ih =>
    intro i v h
    cases i with
    | zero => exact ⟨b, t, by simpa using h.symm, rfl⟩
    | succ i => exact ih i v (by simpa using h)
section
variable {prog : Program} {w : World} {A : Around} {E : Value → Shared → Prop} {s : Shared} {h₀ : Heap} {L : Addr} {news : List (Addr × Obj)}
open PySem.SeqAt in
theorem ne_bytes_Z {a b : Addr} {vs us : List Value} {zs : List (Array UInt8)} {n k : Nat} {Q : Value → Shared → Prop} (N : News h₀ L s.heap news) (ha : (a, W.listOf vs.toArray n) ∈ news) (hb : (b, W.listOf us.toArray k) ∈ news) (hv : BytesAre vs zs) (hu' : BytesAre us zs)
    (hu : A.units < cLine) (h : Q (.bool false) s) : wpAny (model prog w) A (compareOp .NotEq (.ref a) (.ref b)) Q E s := by
  refine ne_same_Z N ha hb (by rw [hv.length, hu'.length]) ?_ hu h
  intro i v u h1 h2
  obtain ⟨x, t, rfl, hx⟩ := hv.at i v h1
  obtain ⟨y, t', rfl, hy⟩ := hu'.at i u h2
  rw [hx] at hy
  cases hy
  exact eqAt_bytes x t t'
end
theorem mem9 {α : Type} {u d r s x dd t o a b p : α} {own : List α} (h : p ∈ u :: d :: r :: s :: x :: dd :: own) : p ∈ t :: d :: u :: o :: r :: s :: x :: dd :: a :: b :: own := by
  simp only [List.mem_cons] at h ⊢
  rcases h with h | h | h | h | h | h | h <;> simp [h]
theorem dict_new0 : checkTypeCall "dict" ⟨[], []⟩ = pure () := by kernel_rfl
theorem dict_new1 : checkBuiltinCall "dict.__new__" ⟨[.type "dict"], []⟩ = pure () := by kernel_rfl
section
variable {prog : Program} {w : World} {A : Around} {E : Value → Shared → Prop} {s : Shared} {h₀ : Heap} {L : Addr} {m : Str → Option Value} {news : List (Addr × Obj)}
theorem dict_code {Q₁ : Value → Shared → Prop} (h : Q₁ (.ref s.heap.objs.size) { s with heap := s.heap.push { cls := .type "dict", data := .dict #[] } }) :
    codeAny (model prog w) A (.call (.builtin "dict.__new__") ⟨[.type "dict"], []⟩) (wants Q₁ E) s := by
  refine codeAny_call_builtin F.kt_plain_dict_new F.kt_entry_dict_new (wpAny_of_eq dict_new1 ?_)
  have hsub := F.kt_sub_dict
  have hmro := F.kt_mro_dict
  obtain ⟨hp, g, d, tk, os⟩ := s
  unfold Builtin.«dict.__new__»
  wp_walk
  exact h
theorem dict0_call {Q : Value → Shared → Prop} (h : Q (.ref s.heap.objs.size) { s with heap := s.heap.push { cls := .type "dict", data := .dict #[] } }) :
    wpAny (model prog w) A (call (.type "dict") []) Q E s := by
  refine callType_codes (Q₁ := fun obj s₁ => obj = .ref s.heap.objs.size ∧ s₁ = { s with heap := s.heap.push { cls := .type "dict", data := .dict #[] } }) F.kt_called_dict dict_new0 F.entry_dict_init (dict_code ⟨rfl, rfl⟩) ?_
  rintro obj s₁ ⟨rfl, rfl⟩
  have hnew : (s.heap.push { cls := .type "dict", data := .dict #[] }).DictOf (strKind prog w) s.heap.objs.size [] := Heap.DictOf.new s.heap
  refine ⟨hnew.typeIs, F.args_dict_init_1 _, ?_⟩
  unfold Builtin.«dict.__init__»
  refine wpAny_bind ?_
  unfold Builtin.Dict.selfAndRest
  refine wpAny_bind (wpAny_notOrdered_dict hnew.typeIs ?_)
  show wpAny _ _ (pure (s.heap.objs.size, ([] : List Value))) _ _ _
  refine wpAny_pure ?_
  show wpAny _ _ (Builtin.Dict.addKeywords s.heap.objs.size [] >>= _) _ _ _
  exact wpAny_bind (wpAny_pure (wpAny_pure ⟨rfl, h⟩))
/-- dict() -/
theorem dict0_Z {Q : Value → Shared → Prop} (F : Fr h₀ L s.heap m) (N : News h₀ L s.heap news) (hbig : h₀.NoLimit)
    (k : ∀ d h' o, Fr h₀ L h' m → News h₀ L h' ((d, o) :: news) → (∀ p ∈ news, p.1 < d) → (d == sysModules) = false → o.IsDictOf (strKind prog w) [] → PyProof.V.FlatPairs PyData.str [] [] →
      o.IsDictOf (intKind prog w) [] → PyProof.V.FlatPairs PyData.int [] [] → Q (.ref d) { s with heap := h' }) : wpAny (model prog w) A (call (.type "dict") []) Q E s := by
  refine dict0_call (k _ _ _ (F.push _) (News.push F N _) (fun p hp => Heap.lt_size (N p hp).1) (F.notModules (modules_low hbig)) ?_ .nil ?_ .nil)
  · obtain ⟨o, ho, hd⟩ := Heap.dictOf_iff.mp (Heap.DictOf.new (knd := strKind prog w) s.heap)
    rw [Heap.get?_push_size _ rfl] at ho
    exact (Option.some.inj ho) ▸ hd
  · obtain ⟨o, ho, hd⟩ := Heap.dictOf_iff.mp (Heap.DictOf.new (knd := intKind prog w) s.heap)
    rw [Heap.get?_push_size _ rfl] at ho
    exact (Option.some.inj ho) ▸ hd
end
theorem chars_sing (l : List Nat) : charsOf (l.map sing) = l := by
  unfold charsOf
  induction l with
  | nil => rfl
  | cons c l ih => rw [List.map_cons, List.flatMap_cons, ih]; rfl
theorem flat_small (l : List Nat) (h : ∀ c ∈ l, c < 128) : l.flatMap u8 = l := by
  induction l with
  | nil => rfl
  | cons c l ih => rw [List.flatMap_cons, u8_small (h c (by simp)), ih fun x hx => h x (by simp [hx])]; rfl
/-- the text of the law's signs, and its octets -/
theorem sig_text {b : Array UInt8} (hb : b.size ≤ 63) :
    (∀ k ∈ (Txt.join (Str.ofString "") ((sigL (octs b)).map sing)).cps.toList, Str.isSurrogate k = false) ∧ (SE.enc Str.utf8Of (Txt.join (Str.ofString "") ((sigL (octs b)).map sing))).size ≤ 400 ∧
    goodA (octs (SE.enc Str.utf8Of (Txt.join (Str.ofString "") ((sigL (octs b)).map sing)))) = true ∧ ofOcts (runA (octs (SE.enc Str.utf8Of (Txt.join (Str.ofString "") ((sigL (octs b)).map sing))))).2.2.2 = b ∧
    (((sigL (octs b)).map sing).map (·.length)).sum ≤ 200 := by
  have e := join_chars ((sigL (octs b)).map sing)
  rw [chars_sing] at e
  have e2 := octs_enc (Txt.join (Str.ofString "") ((sigL (octs b)).map sing))
  rw [e, flat_small _ (sigL_small _)] at e2
  obtain ⟨h1, h2⟩ := sig_good (octs b) (octs_lt9 b)
  refine ⟨?_, ?_, by rw [e2]; exact h1, by rw [e2, h2, ofOcts_octs9], ?_⟩
  · rw [e]
    intro k hk
    have := sigL_small _ k hk
    unfold Str.isSurrogate
    rw [Bool.and_eq_false_iff, decide_eq_false_iff_not, decide_eq_false_iff_not]
    omega
  · rw [← octs_length, e2, sigL_len, octs_length]; omega
  · have h3 : ((sigL (octs b)).map sing).map (·.length) = List.replicate (sigL (octs b)).length 1 := by
      rw [List.map_map]
      exact List.map_eq_replicate_iff.mpr fun c _ => rfl
    rw [h3, List.sum_replicate_nat, sigL_len, octs_length]; omega
theorem news5 {h₀ h : Heap} {L : Addr} {r1 r2 r3 r4 r5 a : Addr × Obj} {own : List (Addr × Obj)} (N : News h₀ L h (r1 :: r2 :: r3 :: r4 :: r5 :: own)) (ha : a ∈ own) :
    News h₀ L h [r1, r2, r3, r4, r5, a] := by
  refine dropN N fun p hp => ?_
  simp only [List.mem_cons, List.not_mem_nil, or_false] at hp ⊢
  rcases hp with h | h | h | h | h | h
  · exact .inl h
  · exact .inr (.inl h)
  · exact .inr (.inr (.inl h))
  · exact .inr (.inr (.inr (.inl h)))
  · exact .inr (.inr (.inr (.inr (.inl h))))
  · exact .inr (.inr (.inr (.inr (.inr (h ▸ ha)))))
theorem dropMid9 {h₀ h : Heap} {L : Addr} {r1 r2 r3 r4 r5 r6 m1 m2 m3 m4 m5 m6 m7 m8 m9 : Addr × Obj} {rest : List (Addr × Obj)} (N : News h₀ L h (r1 :: r2 :: r3 :: r4 :: r5 :: r6 :: m1 :: m2 :: m3 :: m4 :: m5 :: m6 :: m7 :: m8 :: m9 :: rest)) :
    News h₀ L h (r1 :: r2 :: r3 :: r4 :: r5 :: r6 :: rest) := by
  refine dropN N fun p hp => ?_
  simp only [List.mem_cons] at hp ⊢
  rcases hp with h | h | h | h | h | h | h <;> simp [h]
/-- a mark in the context: at its key the walk halts, and the mark is gone -/
def StopAt (_ : Nat) : Prop := True
theorem stopAt (n : Nat) : StopAt n := trivial
end Mine

local macro_rules | `(tactic| walk_at "FkPost") => `(tactic| dsimp only [Mine.FkPost])
local macro_rules | `(tactic| walk_at "FoPost") => `(tactic| dsimp only [Mine.FoPost])
local macro_rules | `(tactic| k_room) => `(tactic| ktr_room)
local macro_rules | `(tactic| k_units) => `(tactic| ktr_units)
local macro_rules | `(tactic| ktr_enter) => `(tactic| (refine' code_def ?k1 ?k2 ?k3 ?k4 ?k5 ?kA ?kF ?kK ?k6 ?k7 ?k8 ?k9 ?kB ?_ ?c2 ?c3 ?c4 ?c5; (case kA => exact rfl); (case kF => exact rfl); (case kK => first | exact rfl | assumption); (case k1 => k_asm); (case k2 => k_asm); (case k3 => k_asm); (case k4 => k_asm); (case k5 => k_asm); (case k6 => k_is); (case k7 => k_is); (case k8 => ktr_room); (case k9 => first | exact BindsTo.of_eq rfl | exact binds_K (by k_in) rfl (by k_is) rfl rfl rfl | (refine' kp_binds ?kx ?ke; (case kx => k_in); (case ke => exact fun _ => rfl))); (case c5 => decide); (case kB => exact locs rfl); (case c2 => exact rfl); (case c3 => exact rfl); (case c4 => exact rfl); k_whole; intro g' L' h' FG' F' N' B' X' T'; (try dsimp only); (try k_fold)))
local macro_rules | `(tactic| walk_at "call type:type") => `(tactic| ((with_reducible show wpAny _ _ (call _ [Value.bytes _ _]) _ _ _); refine call_type_of (Tx := "bytes") rfl (by decide +kernel) ?_))
local macro_rules | `(tactic| size_fits) => `(tactic| first | decide | ((try simp only [List.size_toArray, Array.size_append, List.length_append, List.length_cons, List.length_nil, PySem.sizeLine_eq]); omega))
local macro_rules | `(tactic| k_all) => `(tactic| kst_allNe)
local macro_rules | `(tactic| k_all) => `(tactic| (refine List.forall_mem_append.mpr ⟨?_, ?_⟩ <;> k_all))
local macro_rules | `(tactic| walk_at "call builtin:list.append") => `(tactic| (k_here; (try dsimp only [List.cons_append, List.nil_append]); k_dflt (refine' Mine.append_Z ?k1 ?k2 ?k3 ?_ ?z; (case k1 => k_asm); (case k2 => k_asm); (case k3 => k_upd); (case z => size_fits); k_whole); intro h' F' N'; (try k_sweep)))
local macro_rules | `(tactic| walk_at "call type:bytes") => `(tactic| (k_here; (try dsimp only [List.cons_append, List.nil_append]); k_dflt (refine' Mine.bytes_Z ?F ?N ?l ?i ?r ?z ?h ?_; (case F => k_asm); (case N => k_asm); (case l => k_memK); (case i => assumption); (case r => assumption); (case z => size_fits); (case h => with_unfolding_all rfl); k_whole); intro h' t' k' F' N'; (try k_sweep)))
local macro_rules | `(tactic| walk_at "binaryOp Add int int") => `(tactic| (k_here; refine Mine.addI ?_; intro t' k'))
local macro_rules | `(tactic| walk_at "binaryOp Sub int int") => `(tactic| (k_here; refine Mine.subI ?_; intro t' k'))
local macro_rules | `(tactic| walk_at "binaryOp Mod int int") => `(tactic| (k_here; refine' Mine.modI ?z ?_; (case z => first | decide | omega); intro t' k'))
local macro_rules | `(tactic| walk_at "binaryOp FloorDiv int int") => `(tactic| (k_here; refine' Mine.divI ?z ?_; (case z => first | decide | omega); intro t' k'))
local macro_rules | `(tactic| walk_at "binaryOp Mult int int") => `(tactic| (k_here; refine' Mine.mulI ?z ?_; (case z => first | decide | omega); intro t' k'))
local macro_rules | `(tactic| walk_at "eval Constant int") => `(tactic| (k_here; refine Mine.constI ?_; intro t' k'))
local macro_rules | `(tactic| walk_at "binaryOp BitAnd int int") => `(tactic| (k_here; with_reducible (first | refine Mine.band63 ?_ | refine Mine.band65535 ?_ | refine Mine.band15 ?_ | refine Mine.band3 ?_); intro t' k'))
local macro_rules | `(tactic| walk_at "binaryOp RShift int int") => `(tactic| (k_here; (first | (with_reducible refine' Mine.rsh_by 4 16 ?e ?f ?_; (case e => decide); (case f => decide)) | (with_reducible refine' Mine.rsh_by 2 4 ?e ?f ?_; (case e => decide); (case f => decide)) | (with_reducible refine' Mine.rsh_by 6 64 ?e ?f ?_; (case e => decide); (case f => decide)) | (with_reducible refine' Mine.rsh_by 0 1 ?e ?f ?_; (case e => decide); (case f => decide))); intro t' k'))
local macro_rules | `(tactic| walk_at "binaryOp LShift int int") => `(tactic| (k_here; (first | (with_reducible refine' Mine.lsh_by 8 256 ?e ?f ?g ?z ?_; (case e => decide)) | (with_reducible refine' Mine.lsh_by 4 16 ?e ?f ?g ?z ?_; (case e => decide)) | (with_reducible refine' Mine.lsh_by 2 4 ?e ?f ?g ?z ?_; (case e => decide)) | (with_reducible refine' Mine.lsh_by 6 64 ?e ?f ?g ?z ?_; (case e => decide))); (case f => decide); (case g => decide); (case z => first | decide | omega); intro t' k'))
local macro_rules | `(tactic| walk_at "binaryOp BitOr int int") => `(tactic| (k_here; (first | (with_reducible refine' Mine.bor_sum 8 256 ?a ?c ?z ?d ?_; (case a => with_reducible rfl)) | (with_reducible refine' Mine.bor_sum 4 16 ?a ?c ?z ?d ?_; (case a => with_reducible rfl)) | (with_reducible refine' Mine.bor_sum 2 4 ?a ?c ?z ?d ?_; (case a => with_reducible rfl)) | (with_reducible refine' Mine.bor_sum 6 64 ?a ?c ?z ?d ?_; (case a => with_reducible rfl))); (case c => first | decide | omega); (case z => first | decide | omega); (case d => decide); intro t' k'))
local macro_rules | `(tactic| walk_at "getMethod str") => `(tactic| (k_here; with_reducible refine Mine.enc_meth ?_))
local macro_rules | `(tactic| walk_at "subscriptTail") => `(tactic| (k_here; (with_reducible show wpAny _ _ (subscriptTail _ _ (Value.str (Str.ofString "ABCDEFGHIJKLMNOPQRSTUVWXYZabcdefghijklmnopqrstuvwxyz0123456789+/") _) (Value.int _ _)) _ _ _); (with_unfolding_all refine' Mine.item_S (c := Mine.sgn _) ?k1 ?k2 ?_); (case k1 => first | decide | omega); (case k2 => exact Mine.alpha_get _ (by omega)); intro t' k'))
local macro_rules | `(tactic| walk_at "compareOp NotEq") => `(tactic| (k_here; (with_reducible show wpAny _ _ (compareOp CmpOp.NotEq (Value.type "bytes") (Value.type "bytes")) _ _ _); (refine Mine.ne_type_same PySem.TypeEq.meta_bytes ?_)))
local macro_rules | `(tactic| walk_at "compareOp NotEq") => `(tactic| (k_here; (with_reducible show wpAny _ _ (compareOp CmpOp.NotEq (Value.type "str") (Value.type "str")) _ _ _); (refine Mine.ne_type_same PySem.TypeEq.meta_str ?_)))
local macro_rules | `(tactic| walk_at "call builtin:len") => `(tactic| (k_here; (try dsimp only [List.cons_append, List.nil_append]); (with_reducible show wpAny _ _ (call _ [Value.ref _]) _ _ _); k_dflt (refine' Mine.len_Z ?N ?l ?_ ?z; (case N => k_asm); (case l => first | with_reducible assumption | k_memK); (case z => first | omega | (simp only [List.length_append, List.length_cons, List.length_nil]; omega)); k_whole); intro t' k'))
local macro_rules | `(tactic| walk_at "call builtin:str.encode") => `(tactic| (k_here; (with_reducible show wpAny _ _ (call _ [Value.str _ _, Value.str (Str.ofString "utf-8") _]) _ _ _); k_dflt (refine' Mine.enc_utf8b ?g ?z ?_; (case g => with_reducible assumption); (case z => (rw [sizeLine_eq]; omega))); intro t' k'))
local macro_rules | `(tactic| walk_at "call builtin:list.insert") => `(tactic| (k_here; (try dsimp only [List.cons_append, List.nil_append]); (with_reducible show wpAny _ _ (call (Value.builtin _) [Value.ref _, Value.int 0 _, _]) _ _ _); k_dflt (refine' Mine.insert0_Z ?F ?N ?U ?z ?_; (case F => k_asm); (case N => k_asm); (case U => k_upd); (case z => first | decide | omega); k_whole); intro h' F' N'; (try k_sweep)))
local macro_rules | `(tactic| walk_at "eval Dict nil nil") => `(tactic| (k_here; k_dflt (refine' newDict_K ?k1 ?k2 (Glob.nolimit (by assumption)) ?_; (case k1 => k_asm); (case k2 => k_asm); k_whole); intro d' h' o' F' N' l1 lo' hs' fs' hi' fi'; (try k_lt l1); (try k_sweep)))
local macro_rules | `(tactic| walk_at "neUp") => `(tactic| first | exact Mine.nm (by with_reducible assumption) | exact Mine.nl0 (by with_reducible assumption) | exact Mine.nl1 (by with_reducible assumption) | exact Mine.nl2 (by with_reducible assumption) | exact Mine.nl3 (by with_reducible assumption) | exact Mine.nl4 (by with_reducible assumption) | exact Mine.nl5 (by with_reducible assumption) | exact Mine.nl6 (by with_reducible assumption) | exact Mine.nl7 (by with_reducible assumption) | exact Mine.nl8 (by with_reducible assumption) | exact Mine.nl9 (by with_reducible assumption) | exact Mine.nl10 (by with_reducible assumption) | exact Mine.nl11 (by with_reducible assumption) | exact Mine.nl12 (by with_reducible assumption) | exact Mine.nl13 (by with_reducible assumption) | exact Mine.nl14 (by with_reducible assumption) | exact Mine.nl15 (by with_reducible assumption) | exact Mine.nl16 (by with_reducible assumption) | exact Mine.nl17 (by with_reducible assumption))
local macro_rules | `(tactic| k_ne) => `(tactic| (refine neN ?_; (try dsimp only); first | with_reducible assumption | (refine Mine.neS ?_; with_reducible assumption) | (first | (walk_at "neUp") | (refine Mine.neS ?_; walk_at "neUp")) | omega))
local macro_rules | `(tactic| k_lt $h:ident) => `(tactic| (replace $h := allLt_of $h; dsimp only [AllLt] at $h:ident))
local macro_rules | `(tactic| ktr_room) => `(tactic| first | decide | ((try simp only [depth_under_make, depth_under_kw, depth_in1, depth_deeper, depth_caller]); decide))
namespace Mine
open PySem PySem.W PySem.Spec PySem.Calls PyProof.Rows
set_option maxHeartbeats 2000000 in
theorem v64_spec (w : World) (loose : List Str) (mean : ExcName → Option Value) (mg mb : Str → Option Value) (c : Nat) (tc : Tok) :
    Spec2 PySem.Challenge.pw_ko0121_09 w (hd.heap_39 w.params) Mine.view loose mean mg mb 55 [.int (c : Int) tc] [] 2 20 (fun _ => True)
      (fun _ r => ∃ t, r = .int (v64 c : Int) t) (fun _ => False) := by
  unfold Spec2
  intro dp un gd cn cs a ccd cl outer A₀ base h₀ L m news s Q E B F X N T hk hdp hun hpre hret hbad
  have kq : (PySem.Challenge.rw_ko0121_09.foot = PySem.Challenge.rw_ko0121_09.foot ∧ hd.heap_39 = hd.heap_39) := by (k_fill; exact ⟨rfl, rfl⟩)
  clear kq
  w_on
  have hMk9 : KstMark := kstMark
  refine wpAny_call ?_
  k_dflt ktr_enter
  k_steps

  all_goals exact hret _ [] _ _ (by k_asm) (by k_asm) noneAbove ⟨_, intE (by unfold v64; repeat (first | omega | split))⟩
end Mine

namespace Mine
open PySem PySem.W PySem.Spec PySem.Calls PyProof.Rows
local macro_rules | `(tactic| walk_at "c55") => `(tactic| (k_here; (with_reducible show wpAny _ _ (call (Value.ref 55) [Value.int _ _] _) _ _ _); k_dflt (refine' Mine.Spec2.use (Mine.v64_spec _ _ _ _ _ _ _) ?B ?F ?X ?N ?T ?hk ?hd ?hu ?hp ?ret ?bad; (case B => k_asm); (case F => k_asm); (case X => k_asm); (case N => k_asm); (case T => k_asm); (case hk => exact rfl); (case hd => ktr_room); (case hu => ktr_units); (case hp => trivial); k_whole); (case bad => (intro _ _ _ _ _ hb; exact hb.elim)); intro r tl h' tk' F' N' hab hr; obtain ⟨tx9, er⟩ := hr; subst er; replace N' := Mine.dropN N' (fun p hp => List.mem_append.mpr (.inr hp))))
set_option maxHeartbeats 4000000 in
theorem a2b_spec (w : World) (loose : List Str) (mean : ExcName → Option Value) (mg mb : Str → Option Value) (b : Array UInt8) (tb : Tok) (hx : b.size ≤ 400) :
    Spec3 PySem.Challenge.pw_ko0121_09 w (hd.heap_39 w.params) Mine.view loose mean mg mb 63 [.bytes b tb] [] 5 30 (fun _ => True)
      (fun _ r => goodA (octs b) = true ∧ ∃ t, r = .bytes (ofOcts (runA (octs b)).2.2.2) t) (BadO (goodA (octs b) = false) 31) := by
  unfold Spec3
  intro dp un gd cn cs a ccd cl outer A₀ base h₀ L m news s Q E B F X N T hk hdp hun hpre hret hbad
  have kq : (PySem.Challenge.rw_ko0121_09.foot = PySem.Challenge.rw_ko0121_09.foot ∧ hd.heap_39 = hd.heap_39) := by (k_fill; exact ⟨rfl, rfl⟩)
  clear kq
  w_on
  have hMk9 : KstMark := kstMark
  have hKd9 : KtsDicts [] h₀ := ktsDicts_nil
  refine wpAny_call ?_
  k_dflt ktr_enter
  k_with "newList" => (refine halt ?_)
  k_with "pyIter bytes" => (refine halt ?_)
  k_steps
  unfold Halt
  k_dflt (refine' newList_K ?k1 ?k2 ?_; (case k1 => k_asm); (case k2 => k_asm))
  intro lo h' F' N' l1
  k_sweep
  k_steps
  k_with_none
  unfold Halt
  (rename Fr _ _ _ _ => lF; rename News _ _ _ _ => lN)
  refine for_bytes (σ := Value × Value × Value × Value × Obj) (fun c => (lo, c.2.2.2.2) :: news) (fun c => [("out", .ref lo), ("quad_pos", c.1), ("leftchar", c.2.1), ("pads", c.2.2.1), ("i", c.2.2.2.1), ("strict_mode", .bool false)])
    (fun i c => ∃ st t1 t2 t3 t4 ii vs nn, st = runA ((octs b).take i) ∧ c.1 = .int (st.1 : Int) t1 ∧ c.2.1 = .int (st.2.1 : Int) t2 ∧ c.2.2.1 = .int (st.2.2.1 : Int) t3 ∧ c.2.2.2.1 = .int ii t4 ∧ c.2.2.2.2 = W.listOf vs.toArray nn ∧ IntsAre vs (zs st.2.2.2)) (_, _, _, _, _) rfl lF lN (by kst_in) (by kst_all) (by exact ⟨(0,0,0,[]), _, _, _, _, _, [], _, rfl, rfl, rfl, rfl, rfl, rfl, .nil⟩) ?_ ?_
  · rintro i k t ⟨v1, v2, v3, v4, o⟩ u h tk own hi hk ⟨⟨qp, lc, pd, out⟩, t1, t2, t3, t4, ii, vs, nn, hst, rfl, rfl, rfl, rfl, rfl, hvs⟩ hoff F' N'
    have hok := runA_ok ((octs b).take i)
    have hnx := runA_snoc ((octs b).take i) k.toNat
    have hle := runA_len ((octs b).take i)
    rw [← octs_take hk] at hnx
    rw [← hst] at hok hnx hle
    obtain ⟨h1, h2⟩ := hok
    have hk8 := k.toNat_lt
    have hv9 := v64_le k.toNat
    dsimp only at *
    clear lF lN
    dsimp only [List.cons_append, List.nil_append] at N'
    have hlv : vs.length ≤ 400 := by rw [hvs.length]; simp only [zs_length, List.length_take, octs_length] at *; omega
    k_with "call ref" => (walk_at "c55")
    k_steps
    k_with_none
    all_goals
      (rename Fr _ _ _ _ => lF; rename News _ _ _ _ => lN)
      first | rw [stepA_pad (by omega)] at hnx | rw [stepA_skip (by omega)] at hnx | rw [stepA_0 (by omega)] at hnx | rw [stepA_1 (by omega)] at hnx | rw [stepA_2 (by omega)] at hnx | rw [stepA_3 (by omega)] at hnx
      refine foEnd lF lN (_, _, _, _, _) (List.forall_mem_cons.mpr ⟨List.Mem.head _, fun p hp => List.mem_cons_of_mem _ (List.mem_append_left _ hp)⟩) (fun p hp => List.mem_cons_of_mem _ (List.mem_append_right _ hp)) hoff (by kst_all) ?_
      first
        | exact ⟨(_, _, _, _), _, _, _, _, _, _, _, hnx.symm, intE (by (try dsimp only) <;> omega), intE (by (try dsimp only) <;> omega), intE (by (try dsimp only) <;> omega), rfl, rfl, hvs⟩
        | exact ⟨(_, _, _, _), _, _, _, _, _, _, _, hnx.symm, intE (by (try dsimp only) <;> omega), intE (by (try dsimp only) <;> omega), intE (by (try dsimp only) <;> omega), rfl, rfl, snocE hvs (by omega)⟩
  · rintro ⟨v1, v2, v3, v4, o⟩ u h tk ⟨⟨qp, lc, pd, out⟩, t1, t2, t3, t4, ii, vs, nn, hst, rfl, rfl, rfl, rfl, rfl, hvs⟩ F' N'
    rw [← octs_length, List.take_length] at hst
    have hok := runA_ok (octs b)
    have hle := runA_len (octs b)
    have hgd : goodA (octs b) = (qp != 1 && (qp == 0 || decide (qp + pd ≥ 4))) := by unfold goodA; rw [← hst]
    have hre : (runA (octs b)).2.2.2 = out := by rw [← hst]
    rw [← hst] at hok hle
    obtain ⟨h1, h2⟩ := hok
    dsimp only at *
    clear lF lN
    have hlv : vs.length ≤ 400 := by rw [hvs.length]; simp only [zs_length, List.length_take, octs_length] at *; omega
    k_steps
    · refine hbad _ _ _ _ ⟨by rw [hgd]; simp; omega, _, _, raisedS_sub (by k_asm) (by intro p hp; kst_mem)⟩ (by k_asm) (by k_asm)
    · refine hbad _ _ _ _ ⟨by rw [hgd]; simp; omega, _, _, raisedS_sub (by k_asm) (by intro p hp; kst_mem)⟩ (by k_asm) (by k_asm)
    · exact hret _ [] _ _ (by k_asm) (dropN (by k_asm) (by intro p hp; kst_mem)) noneAbove ⟨by rw [hgd]; simp; omega, _, by rw [hre]⟩
    · exact hret _ [] _ _ (by k_asm) (dropN (by k_asm) (by intro p hp; kst_mem)) noneAbove ⟨by rw [hgd]; simp; omega, _, by rw [hre]⟩
end Mine

namespace Mine
open PySem PySem.W PySem.Spec PySem.Calls PyProof.Rows
local macro_rules | `(tactic| walk_at "c63") => `(tactic| (k_here; (with_reducible show wpAny _ _ (call (Value.ref 63) [Value.bytes _ _] _) _ _ _); k_dflt (refine' Mine.Spec3.use (Mine.a2b_spec _ _ _ _ _ _ _ ?sz) ?B ?F ?X ?N ?T ?hk ?hd ?hu ?hp ?ret ?bad; (case sz => first | omega | with_reducible assumption); (case B => k_asm); (case F => k_asm); (case X => k_asm); (case N => k_asm); (case T => k_asm); (case hk => exact rfl); (case hd => ktr_room); (case hu => ktr_units); (case hp => trivial); k_whole)))
set_option maxHeartbeats 4000000 in
theorem decS_spec (w : World) (loose : List Str) (mean : ExcName → Option Value) (mg mb : Str → Option Value) (x : Str) (tx : Tok) (hg : ∀ k ∈ x.cps.toList, Str.isSurrogate k = false) (hx : (SE.enc Str.utf8Of x).size ≤ 400) :
    Spec3 PySem.Challenge.pw_ko0121_09 w (hd.heap_39 w.params) Mine.view loose mean mg mb 70 [.str x tx] [] 7 40 (fun _ => True)
      (fun _ r => goodA (octs (SE.enc Str.utf8Of x)) = true ∧ ∃ t, r = .bytes (ofOcts (runA (octs (SE.enc Str.utf8Of x))).2.2.2) t) (BadO (goodA (octs (SE.enc Str.utf8Of x)) = false) 31) := by
  unfold Spec3
  intro dp un gd cn cs a ccd cl outer A₀ base h₀ L m news s Q E B F X N T hk hdp hun hpre hret hbad
  have kq : (PySem.Challenge.rw_ko0121_09.foot = PySem.Challenge.rw_ko0121_09.foot ∧ hd.heap_39 = hd.heap_39) := by (k_fill; exact ⟨rfl, rfl⟩)
  clear kq
  w_on
  have hMk9 : KstMark := kstMark
  have hKd9 : KtsDicts [] h₀ := ktsDicts_nil
  refine wpAny_call ?_
  k_dflt ktr_enter
  k_with "call ref" => (walk_at "c63"; (all_goals refine halt ?_))
  k_steps
  dsimp only
  refine Mine.enc_utf8b hg (by rw [sizeLine_eq]; omega) ?_
  intro t' k'
  k_steps
  k_with_none
  · unfold Halt
    intro r tl h' tk' F' N' hab hr
    replace N' := dropN N' (fun p hp => List.mem_append.mpr (.inr hp))
    obtain ⟨hgd9, t9, rfl⟩ := hr
    k_steps
    exact hret _ [] _ _ (by k_asm) (by k_asm) noneAbove ⟨hgd9, _, rfl⟩
  · unfold Halt
    intro e' g' h' tk' hB F' U'
    obtain ⟨hgd9, t9, vs9, R9⟩ := hB
    k_steps
    exact hbad _ _ _ _ ⟨hgd9, _, _, raisedS_sub (by k_asm) (by intro p hp; kst_mem)⟩ (by k_asm) (by k_asm)
end Mine

namespace Mine
open PySem PySem.W PySem.Spec PySem.Calls PyProof.Rows
local macro_rules | `(tactic| walk_at "binaryOp Add bytes bytes") => `(tactic| (k_here; (with_reducible show wpAny _ _ (binaryOp Operator.Add (Value.bytes _ _) (Value.bytes _ _)) _ _ _); refine Mine.halt ?_))
local macro_rules | `(tactic| walk_at "inplaceOp FloorDiv int int") => `(tactic| (k_here; refine' Mine.idivI ?z ?_; (case z => first | decide | omega); intro t' k'))
set_option maxHeartbeats 4000000 in
theorem sgns_spec (w : World) (loose : List Str) (mean : ExcName → Option Value) (mg mb : Str → Option Value) (b : Array UInt8) (tb : Tok) (hx : b.size ≤ 70) :
    Spec3 PySem.Challenge.pw_ko0121_09 w (hd.heap_39 w.params) Mine.view loose mean mg mb 232 [.bytes b tb] [] 3 60 (fun _ => True)
      (fun tl r => ∃ D vs n, r = .ref D ∧ (D, W.listOf vs.toArray n) ∈ tl ∧ StrsAre vs ((sigL (octs b)).map sing)) (fun _ _ _ _ _ _ => False) := by
  unfold Spec3
  intro dp un gd cn cs a ccd cl outer A₀ base h₀ L m news s Q E B F X N T hk hdp hun hpre hret hbad
  have kq : (PySem.Challenge.rw_ko0121_09.foot = PySem.Challenge.rw_ko0121_09.foot ∧ hd.heap_39 = hd.heap_39) := by (k_fill; exact ⟨rfl, rfl⟩)
  clear kq
  w_on
  have hMk9 : KstMark := kstMark
  refine wpAny_call ?_
  k_dflt ktr_enter
  k_steps
  unfold Halt
  have hsh : (-(b.size : Int) % 3).toNat = lackOf b.size := by unfold lackOf; omega
  generalize hZ : (List.replicate (-(b.size : Int) % 3).toNat ([0] : List UInt8)).flatten.toArray = Z
  have hZs : Z.size = lackOf b.size := by rw [← hZ, ← hsh]; simp
  have hl3 : lackOf b.size ≤ 2 := by unfold lackOf; omega
  refine KBy.add_bytes (by omega) ?_
  intro t' k'
  k_with "call ref" => (refine halt ?_)
  k_steps
  k_with_none
  unfold Halt
  (rename Fr _ _ _ _ => lF; rename News _ _ _ _ => lN)
  refine fromBytes_Z lN (.head _) (by rw [Array.size_append]; omega) ?_
  intro t' k'
  have hNN : numOf (octs (b ++ Z)) = numOf (octs b) * 256 ^ lackOf b.size := by rw [octs_app, ← hZ, octs_zeros, numOf_zeros, hsh]
  rw [hNN]
  generalize hN2 : numOf (octs b) * 256 ^ lackOf b.size = NN
  k_with "newList" => (refine halt ?_)
  k_steps
  unfold Halt
  k_dflt (refine' newList_K ?k1 ?k2 ?_; (case k1 => k_asm); (case k2 => k_asm))
  intro lo h' F' N' l1
  k_sweep
  k_with "pyIter ref" => (refine halt ?_)
  k_steps
  k_with_none
  unfold Halt
  (rename Fr _ _ _ _ => lF; rename News _ _ _ _ => lN; rename IsRange _ _ _ _ _ _ _ _ => lR)
  have hlo : ∀ p ∈ news, p.1 < lo := fun p hp => l1 p (.tail _ hp)
  refine for_range (σ := Obj × Value) ((b.size + lackOf b.size) / 3 * 4) (fun c => (lo, c.1) :: news) (fun c => [("number", c.2), ("signs", .ref lo), ("table", .str (Str.ofString "ABCDEFGHIJKLMNOPQRSTUVWXYZabcdefghijklmnopqrstuvwxyz0123456789+/") _), ("short", .int (-(b.size : Int) % 3) _)])
    (fun i c => ∃ us kk t, c.1 = W.listOf us.toArray kk ∧ c.2 = .int ((NN / 64 ^ i : Nat) : Int) t ∧ StrsAre us ((lowS i NN).map sing)) (_, _) rfl lR (by rw [rangeSize_one]; split <;> omega) lF lN (List.forall_mem_cons.mpr ⟨.head _, fun p hp => .tail _ (.tail _ hp)⟩) (by kst_all) ⟨[], 0, _, rfl, intE (by rw [Nat.pow_zero, Nat.div_one]), .nil⟩ ?_ ?_
  · rintro i t ⟨c1, c2⟩ u h tk own hi ⟨us, kk, t9, rfl, rfl, hus⟩ hoff F' N'
    have hul := strsAre_length hus
    rw [List.length_map, lowS_length] at hul
    dsimp only at *
    dsimp only [List.cons_append, List.nil_append] at N'
    clear lF lN
    k_steps
    (rename Fr _ _ _ _ => lF; rename News _ _ _ _ => lN)
    refine foEnd lF lN (_, _) (by exact List.forall_mem_cons.mpr ⟨List.Mem.head _, fun p hp => List.mem_cons_of_mem _ (List.mem_append_left _ hp)⟩) (by exact fun p hp => List.mem_cons_of_mem _ (List.mem_append_right _ hp)) (by exact hoff) (by kst_all) (by
      refine ⟨_, _, _, rfl, intE (by rw [Nat.pow_succ, ← Nat.div_div_eq_div_mul]; omega), ?_⟩
      rw [item_sing (by omega), show (((NN / 64 ^ i : Nat) : Int) % 64).toNat = NN / 64 ^ i % 64 by omega]
      exact .cons _ _ hus)
  · rintro ⟨c1, c2⟩ u h tk ⟨us, kk, t9, rfl, rfl, hus⟩ F' N'
    have hul := strsAre_length hus
    rw [List.length_map, lowS_length] at hul
    dsimp only at *
    clear lF lN lR
    k_with "pyIter ref" => (refine halt ?_)
    k_steps
    k_with_none
    unfold Halt
    (rename Fr _ _ _ _ => lF; rename News _ _ _ _ => lN; rename IsRange _ _ _ _ _ _ _ _ => lR)
    have hLl : ((lowS ((b.size + lackOf b.size) / 3 * 4) NN).map sing).length = (b.size + lackOf b.size) / 3 * 4 := by rw [List.length_map, lowS_length]
    generalize hLL : (lowS ((b.size + lackOf b.size) / 3 * 4) NN).map sing = LL at hus hLl
    refine for_range (σ := Obj) (lackOf b.size) (fun c => (lo, c) :: news) (fun c => [("signs", .ref lo)])
      (fun i c => ∃ us kk, c = W.listOf us.toArray kk ∧ StrsAre us (LL.take (LL.length - i) ++ List.replicate i (sing 61))) _ rfl lR (by rw [rangeSize_one]; split <;> omega) lF lN (fun _ h => h) (by kst_all) (by exact ⟨_, _, rfl, by simpa using hus⟩) ?_ ?_
    · rintro i t c u h tk own hi ⟨us, kk, rfl, hus⟩ hoff F' N'
      have hul := strsAre_length hus
      rw [List.length_append, List.length_take, List.length_replicate] at hul
      have hbig : 4 ≤ LL.length := by rw [hLl]; unfold lackOf at hi ⊢; omega
      have hul2 : us.length = LL.length := by omega
      dsimp only at *
      dsimp only [List.cons_append, List.nil_append] at N'
      clear lF lN
      k_with "setItem ref int" => (refine halt ?_)
      k_steps
      k_with_none
      unfold Halt
      (rename Fr _ _ _ _ => lF; rename News _ _ _ _ => lN)
      refine setNeg_Z lF lN (by omega) (by omega) (by omega) (.head ?_) ?_
      · k_all
      intro h' F' N'
      k_steps
      (rename Fr _ _ _ _ => lF; rename News _ _ _ _ => lN)
      refine foEnd lF lN _ (by exact List.forall_mem_cons.mpr ⟨List.Mem.head _, fun p hp => List.mem_cons_of_mem _ (List.mem_append_left _ hp)⟩) (by exact fun p hp => List.mem_cons_of_mem _ (List.mem_append_right _ hp)) (by exact hoff) (by kst_all) (by
        refine ⟨_, _, rfl, ?_⟩
        rw [← set_tail (L := LL) (c := sing 61) (i := i) (by omega)]
        rw [hul2]
        rw [show (-1 - (0 + (i : Int) * 1) + (LL.length : Int)).toNat = LL.length - 1 - i by omega]
        exact strsAre_set hus _)
    · rintro c u h tk ⟨us, kk, rfl, hus⟩ F' N'
      dsimp only at *
      clear lF lN
      k_steps
      refine hret _ [(lo, W.listOf us.toArray kk)] _ _ (by k_asm) (by k_asm) ?_ ⟨lo, us, kk, rfl, .head _, ?_⟩
      · intro q hq p hp
        rw [List.mem_singleton.mp hp]
        exact hlo q hq
      · have e : (sigL (octs b)).map sing = LL.take (LL.length - lackOf b.size) ++ List.replicate (lackOf b.size) (sing 61) := by
          unfold sigL
          rw [octs_length, hN2, List.map_append, List.map_take, List.map_replicate, hLL, hLl]
        rw [e]
        exact hus
end Mine

open PySem PySem.W PySem.Spec PySem.Calls PyProof.Rows
local macro_rules | `(tactic| walk_at "Post09") => `(tactic| dsimp only [Mine.Post09])
local macro_rules | `(tactic| walk_at "c232") => `(tactic| (k_here; (with_reducible show wpAny _ _ (call (Value.ref 232) [Value.bytes _ _] _) _ _ _); k_dflt (refine' Mine.Spec3.use (Mine.sgns_spec _ _ _ _ _ _ _ ?sz) ?B ?F ?X ?N ?T ?hk ?hd ?hu ?hp ?ret ?bad; (case sz => first | omega | with_reducible assumption); (case B => k_asm); (case F => k_asm); (case X => k_asm); (case N => k_asm); (case T => k_asm); (case hk => exact rfl); (case hd => ktr_room); (case hu => ktr_units); (case hp => trivial); k_whole); (case bad => (intro _ _ _ _ hb; exact hb.elim)); intro r9 tl h' tk' F' N' hab hr9; obtain ⟨SG, sv, kk, er, hm, hsv⟩ := hr9; subst er; have N2 := Mine.dropN (news := [(SG, W.listOf sv.toArray kk)]) N' (fun p hp => (List.mem_singleton.mp hp) ▸ List.mem_append_left _ hm); clear N' hab hm))
local macro_rules | `(tactic| walk_at "binaryOp Mult ref int") => `(tactic| (k_here; (with_reducible show wpAny _ _ (binaryOp _ (Value.ref _) (Value.int _ _)) _ _ _); k_dflt (refine' Mine.mulL_Z ?F ?N ?l ?x ?z ?_; (case F => k_asm); (case N => k_asm); (case l => k_memK); (case x => first | decide | omega); (case z => (simp only [List.length_cons, List.length_nil]; omega)); k_whole); intro D' h' F' N' l1; (try k_lt l1); (try k_sweep)))
local macro_rules | `(tactic| walk_at "binaryOp Add ref ref") => `(tactic| (k_here; (with_reducible show wpAny _ _ (binaryOp _ (Value.ref _) (Value.ref _)) _ _ _); k_dflt (refine' Mine.addL_Z ?F ?N ?l ?l2 ?z ?_; (case F => k_asm); (case N => k_asm); (case l => k_memK); (case l2 => k_memK); (case z => (first | omega | (simp only [Int.reduceToNat, List.replicate_succ, List.replicate_zero, List.flatten_cons, List.flatten_nil, List.length_append, List.length_cons, List.length_nil]; omega))); k_whole); intro D' h' F' N' l1; (try k_lt l1); (try k_sweep)))
local macro_rules | `(tactic| walk_at "binaryOp Add bytes bytes") => `(tactic| (k_here; (with_reducible show wpAny _ _ (binaryOp Operator.Add (Value.bytes _ _) (Value.bytes _ _)) _ _ _); refine' KBy.add_bytes ?z ?_; (case z => (first | omega | (simp only [List.size_toArray, List.length_cons, List.length_nil]; omega))); intro t' k'))
local macro_rules | `(tactic| walk_at "subscriptTail Name Slice ref ref") => `(tactic| (k_here; (with_reducible show wpAny _ _ (subscriptTail _ (PySem.Expr.Slice _ _ none _) (Value.ref _) (Value.ref _)) _ _ _); k_dflt (refine' Mine.sliceNeg_Z ?F ?N ?l ?c ?z ?_ ?s ?t; (case F => k_asm); (case N => k_asm); (case l => k_memK); (case c => first | decide | omega); (case z => first | decide | omega); (case s => with_unfolding_all rfl); (case t => kmk_pure)); intro D' h' F' N' l1; (try k_lt l1); (try k_sweep)))
local macro_rules | `(tactic| walk_at "compareOp NotEq") => `(tactic| ((with_reducible rename Mine.StopAt 1 => stp9); clear stp9; refine Mine.halt ?_))
local macro_rules | `(tactic| walk_at "compareOp NotEq ref ref") => `(tactic| ((with_reducible rename Mine.StopAt 1 => stp9); clear stp9; refine Mine.halt ?_))
inductive Mine.Key9 where | k
set_option maxHeartbeats 8000000 in
noncomputable def Mine.part1 : (P1 : Prop) ×' (P2 : Prop) ×' ((Mine.Key9 → P1) → (Mine.Key9 → P2) → PySem.Challenge.rw_ko0121_09.Holds) := by
  refine' ⟨_, _, fun hP1 hP2 => _⟩
  rotate_left 2
  exact hd (by
  k_go0
  (all_goals try k_fold)
  k_with "call ref" => (refine Mine.halt ?_)
  k_steps
  k_with_none
  unfold Mine.Halt
  (rename Fr _ _ _ _ => lF; rename News _ _ _ _ => lN; rename IntsAre _ _ => hI; rename ¬ (_ < (_ : Int)) => hlen; rename Heap.IsList _ _ _ => hL; rename List Int => ns)
  obtain ⟨b, hb⟩ : ∃ b, b = byteArr (List.map (fun a => a % 256) (List.filter (fun a => true) ns)) := ⟨_, rfl⟩
  rw [← hb] at lF ⊢
  have hbs : b.size = ns.length := by rw [hb]; simp [byteArr]
  have hbz : b.size ≤ 63 := by omega
  k_dflt (refine' Mine.Spec3.use (Mine.sgns_spec _ _ _ _ _ _ _ (by omega)) ?B ?F ?X ?N ?T ?hk ?hd ?hu ?hp ?ret ?bad; (case B => k_asm); (case F => k_asm); (case X => k_asm); (case N => k_asm); (case T => k_asm); (case hk => exact rfl); (case hd => ktr_room); (case hu => ktr_units); (case hp => trivial); (case bad => (intro _ _ _ _ hb; exact hb.elim)))
  intro r9 tl h' tk' F' N' hab hr9
  obtain ⟨SG, sv, kk, rfl, hm, hsv⟩ := hr9
  have N2 := Mine.dropN (news := [(SG, W.listOf sv.toArray kk)]) N' (fun p hp => (List.mem_singleton.mp hp) ▸ List.mem_append_left _ hm)
  clear N' hab hm lF lN
  have hsl := Mine.strsAre_length hsv
  rw [List.length_map, Mine.sigL_len, Mine.octs_length] at hsl
  k_with "exec If" => (refine Mine.halt ?_)
  k_steps
  k_with_none
  unfold Mine.Halt
  (rename Fr _ _ _ _ => lF; rename News _ _ _ _ => lN)
  rename_i tA P1 _ q1 LA _ q2 _ _ D1 _ q3 D0 _ q4 _ _ _ _ t3 _ P2 _ q5 TL _ q6 _
  have hTS : @Ne Nat TL SG := by omega
  refine Mine.mono_joinT (TL := TL) (SG := SG) (oSG := W.listOf sv.toArray kk) (b := b) lF (by kst_all) ?_ ?_
  · k_steps
    · (rename Fr _ _ _ _ => lF2; rename News _ _ _ _ => lN2)
      rename_i a0 L3 _ _ B3 _ _ P3 _ _ _ tB L1 _ _ _ _ D5 _ _ B4 _ _ _ _ _ _ t4 _ P4 _ _ _
      have h0 : b.size % 3 = 0 := by omega
      refine Mine.joinT (tv := [.ref P1, .ref P2] ++ [.ref P3] ++ [.ref P4]) (rows := [(P4, W.listOf #[Value.ref B4, Value.bytes (b ++ #[0, 0, 0]) t4] 0), (B4, W.listOf (sv ++ (List.replicate (Int.toNat 4) [Value.str (Str.ofString "A") tB]).flatten).toArray 0), (P3, W.listOf #[Value.ref B3, Value.bytes b _] 0), (B3, W.listOf (sv ++ [Value.str (Str.ofString "=") _]).toArray 0), (P2, W.listOf #[Value.ref D0, Value.bytes (#[0, 0, 0] ++ b) t3] 0), (D0, W.listOf ((List.replicate (Int.toNat 4) [Value.str (Str.ofString "A") tA]).flatten ++ sv).toArray 0), (P1, W.listOf #[Value.ref SG, Value.bytes b _] 0)]) lF2 lN2 (by kst_all) (by k_allIn) ?_ ?_ (Nat.le_refl _)
      · refine Mine.off2 ?_
        intro p hp
        simp only [List.mem_cons, List.not_mem_nil, or_false] at hp
        rcases hp with rfl | rfl | rfl | rfl | rfl | rfl | rfl <;> (constructor <;> ((try dsimp only) <;> omega))
      · intro v hv
        simp only [List.cons_append, List.nil_append, List.mem_cons, List.not_mem_nil, or_false] at hv
        rcases hv with rfl | rfl | rfl | rfl
        · exact Mine.in_whole hsv hbz (by k_memK) (by k_memK)
        · exact Mine.in_front hsv hbz (by k_memK) (by k_memK)
        · exact Mine.in_more hsv hbz h0 (by k_memK) (by k_memK)
        · exact Mine.in_back hsv hbz h0 (by k_memK) (by k_memK)
    · (rename Fr _ _ _ _ => lF2; rename News _ _ _ _ => lN2)
      refine Mine.joinT (tv := [.ref P1, .ref P2]) (rows := [(P2, W.listOf #[Value.ref D0, Value.bytes (#[0, 0, 0] ++ b) t3] 0), (D0, W.listOf ((List.replicate (Int.toNat 4) [Value.str (Str.ofString "A") tA]).flatten ++ sv).toArray 0), (P1, W.listOf #[Value.ref SG, Value.bytes b _] 0)]) lF2 lN2 (by kst_all) (by k_allIn) ?_ ?_ (by simp)
      · refine Mine.off2 ?_
        intro p hp
        simp only [List.mem_cons, List.not_mem_nil, or_false] at hp
        rcases hp with rfl | rfl | rfl <;> (constructor <;> ((try dsimp only) <;> omega))
      · intro v hv
        simp only [List.mem_cons, List.not_mem_nil, or_false] at hv
        rcases hv with rfl | rfl
        · exact Mine.in_whole hsv hbz (by k_memK) (by k_memK)
        · exact Mine.in_front hsv hbz (by k_memK) (by k_memK)
  · rintro f s' ⟨h', tk, u, tv, kt, rows, rfl, rfl, F', N', hoffT, hall, htl⟩
    clear lF lN q1 q2 q3 q4 q5 q6
    k_with "pyIter ref" => (refine Mine.halt ?_)
    k_steps
    k_with_none
    unfold Mine.Halt
    (rename Fr _ _ _ _ => lF; rename News _ _ _ _ => lN)
    rename _ ∧ _ ∧ AllLt _ rows => hq
    obtain ⟨hq1, hq2, hq3⟩ := hq
    refine Mine.for_listK (σ := Obj × List (Addr × Obj)) [(SG, W.listOf sv.toArray kk)] (fun c => (TL, c.1) :: c.2) (fun c => [("tellings", .ref TL), ("signs", .ref SG), ("data", .bytes b _), ("script", .ref _)]) (fun i c => Mine.CutInv TL SG (W.listOf sv.toArray kk) i c) (W.listOf tv.toArray kt, rows) rfl (List.Mem.head _) ?_ lF lN ?_ ?_ (by kst_all) ⟨tv, kt, rfl, hoffT, hall, htl⟩ ?_ ?_
    · intro p hp
      rcases List.mem_cons.mp hp with rfl | hp
      · exact Nat.ne_of_lt hq1
      · exact Nat.ne_of_lt (kst_ltOf hq3 p hp)
    · intro p hp
      rcases List.mem_cons.mp hp with rfl | hp
      · exact .tail _ (.head _)
      · exact .tail _ (.tail _ (.tail _ hp))
    · intro p hp
      rw [List.mem_singleton.mp hp]
      exact .tail _ (.tail _ (.head _))
    · rintro i v ⟨o, rows2⟩ u h tk own hi hv hP hoff hown F' N'
      unfold Mine.CutInv at hP
      dsimp only at hP
      obtain ⟨tv2, kt2, rfl, hoff2, hall2, htl2⟩ := hP
      obtain ⟨c, tc, rfl, hc⟩ : ∃ c t, v = .int c t ∧ (c = 1 ∨ c = 2 ∨ c = 3) := by
        have hm := List.mem_of_getElem? hv
        simp only [List.mem_cons, List.not_mem_nil, or_false] at hm
        rcases hm with rfl | rfl | rfl
        · exact ⟨1, _, rfl, .inl rfl⟩
        · exact ⟨2, _, rfl, .inr (.inl rfl)⟩
        · exact ⟨3, _, rfl, .inr (.inr rfl)⟩
      have N2 := Mine.dropN (news := (TL, _) :: (SG, W.listOf sv.toArray kk) :: (rows2 ++ own)) N' (fun p hp => Mine.memCut hp)
      dsimp only at *
      clear lF lN N'
      have stp1 := Mine.stopAt 1
      k_steps
      unfold Mine.Halt
      (rename Fr _ _ _ _ => lF; rename News _ _ _ _ => lN)
      by_cases hb0 : b.size = 0
      · refine Mine.ne_nil_no lN (.tail _ (.tail _ (.head _))) hsv (.head _) (List.length_eq_zero_iff.mp (by rw [List.length_map, Mine.sigL_len, Mine.octs_length]; omega)) ?hu9 ?_
        case hu9 => ktr_units
        k_steps
        (rename Fr _ _ _ _ => lF; rename News _ _ _ _ => lN)
        refine Mine.fkEnd lF lN (_, rows2) (by exact fun p hp => .tail _ (Mine.memDA2 hp)) (by intro p hp; rw [List.mem_singleton.mp hp]; exact .tail _ (.tail _ (.head _))) (by exact fun p hp => .tail _ (.tail _ (.tail _ (List.mem_append_right _ hp)))) (by exact hoff) (by kst_all) ⟨tv2, kt2, rfl, hoff2, hall2, by omega⟩
      · refine Mine.ne_nil_yes lN (.tail _ (.tail _ (.head _))) hsv (.head _) (by intro e; have := congrArg List.length e; rw [List.length_map, Mine.sigL_len, Mine.octs_length] at this; simp at this; omega) (Mine.sig_strOk _) ?hu8 ?_
        case hu8 => ktr_units
        k_steps
        (rename Fr _ _ _ _ => lF; rename News _ _ _ _ => lN)
        rename_i D9 _ r1 L9 _ r2 _
        have r1' : AllLt D9 (rows2 ++ own) := by first | exact r1.2.2.2 | exact r1.2.2 | exact r1.2
        have r2' : AllLt L9 (rows2 ++ own) := by first | exact r2.2.2.2.2 | exact r2.2.2.2 | exact r2.2.2
        refine Mine.fkEnd lF lN (_, (L9, W.listOf #[Value.ref D9, Value.none] 0) :: (D9, W.listOf (sv.take (sv.length - c.toNat)).toArray 0) :: rows2) (by exact fun p hp => Mine.memE hp) (by intro p hp; rw [List.mem_singleton.mp hp]; exact .tail _ (.tail _ (.tail _ (.tail _ (.head _))))) (by exact fun p hp => .tail _ (.tail _ (.tail _ (.tail _ (.tail _ (List.mem_append_right _ hp)))))) (by exact Mine.own_cut hoff r2' r1') (by kst_all) (Mine.CutInv.add (kt' := kt2 + 1) hoff2 hall2 htl2 hsv hbz hb0 hc (by refine ⟨?_, ?_, ?_, ?_⟩ <;> omega))
    · rintro ⟨o, rows2⟩ u h tk hP F' N'
      unfold Mine.CutInv at hP
      dsimp only at hP
      obtain ⟨tv2, kt2, rfl, hoff2, hall2, htl2⟩ := hP
      dsimp only at *
      clear lF lN
      have N2 := Mine.dropN (news := (TL, _) :: (SG, W.listOf sv.toArray kk) :: rows2) N' (fun p hp => Mine.memF hp)
      have hSG : (SG, W.listOf sv.toArray kk) ∈ (SG, W.listOf sv.toArray kk) :: rows2 := .head _
      have hoffR : OwnOff ((SG, W.listOf sv.toArray kk) :: rows2) [TL] := by
        intro p hp b9 hb9
        rw [List.mem_singleton.mp hb9]
        rcases List.mem_cons.mp hp with rfl | hp
        · exact Ne.symm hTS
        · exact hoff2 p hp _ (by simp)
      generalize (SG, W.listOf sv.toArray kk) :: rows2 = RW at N2 hall2 hSG hoffR
      clear N' hoff2 hoffT hall hq1 hq2 hq3
      k_with "exec For Tuple Name cons nil" => (refine Mine.halt ?_)
      k_steps
      k_with_none
      unfold Mine.Halt
      (rename Fr _ _ _ _ => lF)
      refine For_turns lF ?_
      k_with "pyIter ref" => (refine Mine.halt ?_)
      k_steps
      k_with_none
      unfold Mine.Halt
      (rename News _ _ _ _ => lN)
      dsimp only
      clear hoffR
      refine Mine.loop09 [("tellings", .ref TL), ("signs", .ref SG), ("data", .bytes b _), ("script", .ref _)] (mk := fun a => dictOf [_, _, _, _, _, { hash := _, key := _, val := Value.ref a }] 6) rfl lF (by kst_all) lN (by omega) (by omega) (by omega) (by omega) (by omega) (by omega) (by k_all) (by k_all) (by k_all) (by k_all) (by rename _ < _ ∧ AllLt _ RW => hq9; exact hq9.2) hall2 ?_ ?_
      · rename_i xa1 xa2 xa3 xa4 xa5 xa6 xa7 xa8 xa9 xa10 xa11 xa12 xa13 xa14 xa15 xa16 xa17 xa18 xa19 xa20 xa21 xa22 xa23 xa24 xa25 xa26 xa27 xa28 xa29 xa30 xa31 xa32 xa33 xa34 xa35 xa36 xa37 xa38 xa39 xa40 xa41 xa42 xa43 xa44 xa45 xa46 xa47 xa48 xa49 xa50 xa51 xa52 xa53 xa54 xa55 xa56 xa57 xa58 xa59 xa60 xa61 xa62 xa63 xa64 xa65 xa66 xa67 xa68 xa69 xa70 xa71 xa72 xa73 xa74 xa75 xa76 xa77 xa78 xa79 xa80 xa81 xa82 xa83 xa84 xa85 xa86 xa87 xa88 xa89 xa90 xa91 xa92 xa93 xa94 xa95 xa96 xa97 xa98 xa99 xa100 xa101 xa102 xa103 xa104 xa105 xa106 xa107 xa108 xa109 xa110 xa111 xa112 xa113 xa114 xa115 xa116 xa117 xa118 xa119 xa120 xa121 xa122 xa123 xa124 xa125 xa126 xa127 xa128 xa129 xa130 xa131 xa132 xa133 xa134 xa135 xa136 xa137 xa138 xa139 xa140 xa141 xa142 xa143 xa144 xa145 xa146 xa147 xa148 xa149 xa150 xa151 xa152 xa153 xa154 xa155 xa156 xa157 xa158 xa159 xa160 xa161 xa162 xa163 xa164 xa165 xa166 xa167 xa168 xa169 xa170 xa171 xa172 xa173 xa174 xa175 xa176 xa177 xa178 xa179 xa180 xa181 xa182 xa183 xa184
        revert xa1 xa2 xa3 xa4 xa5 xa6 xa7 xa8 xa9 xa10 xa11 xa12 xa13 xa14 xa15 xa16 xa17 xa18 xa19 xa20 xa21 xa22 xa23 xa24 xa25 xa26 xa27 xa28 ns xa29 xa30 xa31 xa32 xa33 xa34 xa35 xa36 xa37 xa38 xa39 xa40 xa41 xa42 hI xa43 hlen xa44 xa45 xa46 xa47 xa48 xa49 xa50 xa51 xa52 hL xa53 xa54 xa55 xa56 xa57 xa58 xa59 xa60 xa61 b hb hbs hbz tl xa62 tk' SG sv kk hsv hsl xa63 tA P1 xa64 LA xa65 xa66 xa67 D1 xa68 D0 xa69 xa70 xa71 xa72 xa73 t3 xa74 P2 xa75 TL xa76 xa77 xa78 hTS h' xa79 xa80 tv kt rows htl xa81 xa82 xa83 xa84 xa85 xa86 xa87 xa88 rows2 u h xa89 tv2 kt2 htl2 RW hall2 hSG xa90 xa91 xa92 xa93 xa94 xa95 xa96 xa97 xa98 xa99 xa100 xa101 xa102 xa103 xa104 xa105 xa106 xa107 xa108 xa109 xa110 xa111 xa112 xa113 xa114 xa115 xa116 xa117 xa118 xa119 xa120 xa121 xa122 xa123 xa124 xa125 xa126 xa127 xa128 xa129 xa130 xa131 xa132 xa133 xa134 xa135 xa136 xa137 xa138 xa139 xa140 xa141 xa142 xa143 xa144 xa145 xa146 xa147 xa148 xa149 xa150 xa151 xa152 xa153 xa154 xa155 xa156 xa157 xa158 xa159 xa160 xa161 xa162 lifted qk ek xa163 xa164 xa165 xa166 xa167 xa168 xa169 xa170 xa171 xa172 xa173 xa174 xa175 xa176 xa177 xa178 xa179 xa180 xa181 xa182 xa183 xa184 lF lN tk
        exact hP1 .k
      · rename_i xb1 xb2 xb3 xb4 xb5 xb6 xb7 xb8 xb9 xb10 xb11 xb12 xb13 xb14 xb15 xb16 xb17 xb18 xb19 xb20 xb21 xb22 xb23 xb24 xb25 xb26 xb27 xb28 xb29 xb30 xb31 xb32 xb33 xb34 xb35 xb36 xb37 xb38 xb39 xb40 xb41 xb42 xb43 xb44 xb45 xb46 xb47 xb48 xb49 xb50 xb51 xb52 xb53 xb54 xb55 xb56 xb57 xb58 xb59 xb60 xb61 xb62 xb63 xb64 xb65 xb66 xb67 xb68 xb69 xb70 xb71 xb72 xb73 xb74 xb75 xb76 xb77 xb78 xb79 xb80 xb81 xb82 xb83 xb84 xb85 xb86 xb87 xb88 xb89 xb90 xb91 xb92 xb93 xb94 xb95 xb96 xb97 xb98 xb99 xb100 xb101 xb102 xb103 xb104 xb105 xb106 xb107 xb108 xb109 xb110 xb111 xb112 xb113 xb114 xb115 xb116 xb117 xb118 xb119 xb120 xb121 xb122 xb123 xb124 xb125 xb126 xb127 xb128 xb129 xb130 xb131 xb132 xb133 xb134 xb135 xb136 xb137 xb138 xb139 xb140 xb141 xb142 xb143 xb144 xb145 xb146 xb147 xb148 xb149 xb150 xb151 xb152 xb153 xb154 xb155 xb156 xb157 xb158 xb159 xb160 xb161 xb162 xb163 xb164 xb165 xb166 xb167 xb168 xb169 xb170 xb171 xb172 xb173 xb174 xb175 xb176 xb177 xb178 xb179 xb180 xb181 xb182 xb183 xb184
        revert xb1 xb2 xb3 xb4 xb5 xb6 xb7 xb8 xb9 xb10 xb11 xb12 xb13 xb14 xb15 xb16 xb17 xb18 xb19 xb20 xb21 xb22 xb23 xb24 xb25 xb26 xb27 xb28 ns xb29 xb30 xb31 xb32 xb33 xb34 xb35 xb36 xb37 xb38 xb39 xb40 xb41 xb42 hI xb43 hlen xb44 xb45 xb46 xb47 xb48 xb49 xb50 xb51 xb52 hL xb53 xb54 xb55 xb56 xb57 xb58 xb59 xb60 xb61 b hb hbs hbz tl xb62 tk' SG sv kk hsv hsl xb63 tA P1 xb64 LA xb65 xb66 xb67 D1 xb68 D0 xb69 xb70 xb71 xb72 xb73 t3 xb74 P2 xb75 TL xb76 xb77 xb78 hTS h' xb79 xb80 tv kt rows htl xb81 xb82 xb83 xb84 xb85 xb86 xb87 xb88 rows2 u h xb89 tv2 kt2 htl2 RW hall2 hSG xb90 xb91 xb92 xb93 xb94 xb95 xb96 xb97 xb98 xb99 xb100 xb101 xb102 xb103 xb104 xb105 xb106 xb107 xb108 xb109 xb110 xb111 xb112 xb113 xb114 xb115 xb116 xb117 xb118 xb119 xb120 xb121 xb122 xb123 xb124 xb125 xb126 xb127 xb128 xb129 xb130 xb131 xb132 xb133 xb134 xb135 xb136 xb137 xb138 xb139 xb140 xb141 xb142 xb143 xb144 xb145 xb146 xb147 xb148 xb149 xb150 xb151 xb152 xb153 xb154 xb155 xb156 xb157 xb158 xb159 xb160 xb161 xb162 lifted qk ek xb163 xb164 xb165 xb166 xb167 xb168 xb169 xb170 xb171 xb172 xb173 xb174 xb175 xb176 xb177 xb178 xb179 xb180 xb181 xb182 xb183 xb184 lF lN tk
        exact hP2 .k)

open PySem PySem.W PySem.Spec PySem.Calls PyProof.Rows
local macro_rules | `(tactic| walk_at "subscriptTail") => `(tactic| (k_here; (with_reducible show wpAny _ _ (subscriptTail _ _ (Value.ref _) (Value.int (_ % 7) _)) _ _ _); k_dflt (refine' Mine.itemStr_Z (ys := Mine.noises) ?N ?l ?v ?h ?_; (case N => k_asm); (case l => k_memK); (case v => exact Mine.noises_are _ _ _ _ _ _ _); (case h => (rw [Mine.noises_len]; omega)); k_whole); intro yN tN hyN))
local macro_rules | `(tactic| walk_at "call builtin:str.join") => `(tactic| (k_here; k_dflt (refine' Mine.join_S ?N ?l ?v ?x ?z ?_; (case N => k_asm); (case l => k_memK); (case v => with_reducible assumption); (case x => decide); (case z => first | decide | omega); k_whole); intro t' k'))
local macro_rules | `(tactic| walk_at "c70") => `(tactic| (k_here; (with_reducible show wpAny _ _ (call (Value.ref 70) [Value.str _ _] _) _ _ _); k_dflt (refine' Mine.Spec3.use (Mine.decS_spec _ _ _ _ _ _ _ ?sg ?sz) ?B ?F ?X ?N ?T ?hk ?hd ?hu ?hp ?ret ?bad; (case sg => with_reducible assumption); (case sz => first | omega | with_reducible assumption); (case B => k_asm); (case F => k_asm); (case X => k_asm); (case N => k_asm); (case T => k_asm); (case hk => exact rfl); (case hd => ktr_room); (case hu => ktr_units); (case hp => trivial); k_whole)))
local macro_rules | `(tactic| walk_at "compareOp NotEq") => `(tactic| ((with_reducible rename Mine.StopAt 1 => stp9); clear stp9; refine Mine.halt ?_))
local macro_rules | `(tactic| walk_at "compareOp NotEq ref ref") => `(tactic| ((with_reducible rename Mine.StopAt 1 => stp9); clear stp9; refine Mine.halt ?_))
set_option maxHeartbeats 8000000 in
theorem Mine.turn09 : Mine.part1.1 := by
  have kq : (PySem.Challenge.rw_ko0121_09.foot = PySem.Challenge.rw_ko0121_09.foot ∧ hd.heap_39 = hd.heap_39) := by (k_fill; exact ⟨rfl, rfl⟩)
  clear kq
  intro xa1 xa2 xa3 xa4 xa5 xa6 xa7 xa8 xa9 xa10 xa11 xa12 xa13 xa14 xa15 xa16 xa17 xa18 xa19 xa20 xa21 xa22 xa23 xa24 xa25 xa26 xa27 xa28 ns xa29 xa30 xa31 xa32 xa33 xa34 xa35 xa36 xa37 xa38 xa39 xa40 xa41 xa42 hI xa43 hlen xa44 xa45 xa46 xa47 xa48 xa49 xa50 xa51 xa52 hL xa53 xa54 xa55 xa56 xa57 xa58 xa59 xa60 xa61 b hb hbs hbz tl xa62 tk' SG sv kk hsv hsl xa63 tA P1 xa64 LA xa65 xa66 xa67 D1 xa68 D0 xa69 xa70 xa71 xa72 xa73 t3 xa74 P2 xa75 TL xa76 xa77 xa78 hTS h' xa79 xa80 tv kt rows htl xa81 xa82 xa83 xa84 xa85 xa86 xa87 xa88 rows2 u h xa89 tv2 kt2 htl2 RW hall2 hSG xa90 xa91 xa92 xa93 xa94 xa95 xa96 xa97 xa98 xa99 xa100 xa101 xa102 xa103 xa104 xa105 xa106 xa107 xa108 xa109 xa110 xa111 xa112 xa113 xa114 xa115 xa116 xa117 xa118 xa119 xa120 xa121 xa122 xa123 xa124 xa125 xa126 xa127 xa128 xa129 xa130 xa131 xa132 xa133 xa134 xa135 xa136 xa137 xa138 xa139 xa140 xa141 xa142 xa143 xa144 xa145 xa146 xa147 xa148 xa149 xa150 xa151 xa152 xa153 xa154 xa155 xa156 xa157 xa158 xa159 xa160 xa161 xa162 lifted qk ek xa163 xa164 xa165 xa166 xa167 xa168 xa169 xa170 xa171 xa172 xa173 xa174 xa175 xa176 xa177 xa178 xa179 xa180 xa181 xa182 xa183 xa184 lF lN tk
  w_on
  clear lF lN
  repeat (rename News _ _ _ _ => zN; clear zN)
  repeat (rename Fr _ _ _ _ => zN; clear zN)
  intro i a B vs wv n n' ss DA rv rn dv dn zs own u h tk hi ha hB hvs htell hrv hdv hz e1 e2 e3 e4 e5 hoff F' N'
  have hsl9 := Mine.strsAre_length hvs
  rw [List.length_map] at hsl9
  have hs92 := htell.1
  have na := hoff _ ha
  have nb := hoff _ hB
  simp only [List.mem_cons, List.not_mem_nil, or_false, forall_eq_or_imp, forall_eq] at na nb
  obtain ⟨na1, na2, na3, na4, na5, na6⟩ := na
  obtain ⟨nb1, nb2, nb3, nb4, nb5, nb6⟩ := nb
  have N2 := Mine.news6 N' ha hB
  clear N'
  refine kun_list F' N2 (items := #[.ref B, wv]) ⟨_, (N2 _ (.tail _ (.tail _ (.tail _ (.tail _ (.tail _ (.tail _ (.head _)))))))).1, rfl, n', rfl⟩ rfl rfl rfl ?_
  clear F' N2
  intro h' F' N'
  k_with "pyIter ref" => (refine Mine.halt ?_)
  k_steps
  k_with_none
  unfold Mine.Halt
  (rename IsRange _ _ _ _ _ _ _ _ => hR; rename Fr _ _ _ _ => lF; rename News _ _ _ _ => lN)
  refine Mine.for_range2 ss.length [("wanted", wv), ("told", .ref B), ("due", .ref _), ("parser", .ref _), ("tellings", .ref TL), ("signs", .ref SG), ("data", .bytes b _), ("script", .ref _)] (fun i c => Mine.DataInv ss i c) rfl hR ?hn lF lN (by kst_all) .zero ?_ ?_
  case hn => rw [rangeSize_one]; split <;> omega
  · clear lF lN hR
    intro i9 t9 c9 u9 h9 tk9 own9 hi9 ⟨us, nu, ys, hc9, hus, hno, hyl, hul, hu8⟩ hoff9 F' N'
    subst hc9
    obtain ⟨h92, h128, htl9⟩ := htell
    dsimp only [List.cons_append, List.nil_append] at N'
    obtain ⟨cc, hcc, hce⟩ := Mine.told_at hi9
    k_with "exec Expr" => (refine Mine.halt ?_)
    k_steps
    k_with_none
    · unfold Mine.Halt
      k_steps
      (rename Fr _ _ _ _ => lF; rename News _ _ _ _ => lN)
      refine Mine.fkEnd lF lN (W.listOf (us ++ [_]).toArray (nu + 1)) (by exact fun p hp => (List.mem_singleton.mp hp) ▸ .tail _ (.tail _ (.head _))) (by exact fun p hp => Mine.mem_t1 hp) (by exact fun p hp => .tail _ (.tail _ (.tail _ (.tail _ (.tail _ (.tail _ (.tail _ (.tail _ (.tail _ (List.mem_append_right _ hp)))))))))) hoff9 (by kst_all) ?_
      rw [hce]
      exact .one hus hno hyl hul hu8 hcc h128
    · unfold Mine.Halt
      have hpos : 0 < ns.length := by
        rename decide (ns = []) = false => hq
        exact List.length_pos_iff.mpr (by simpa using hq)
      have hm0 : 0 ≤ (0 + (i9 : Int) * 1) % (ns.length : Int) := Int.emod_nonneg _ (by omega)
      have hm1 : (0 + (i9 : Int) * 1) % (ns.length : Int) < (ns.length : Int) := Int.emod_lt_of_pos _ (by omega)
      k_steps
      (rename Fr _ _ _ _ => lF; rename News _ _ _ _ => lN)
      refine Mine.fkEnd lF lN (W.listOf (us ++ [_] ++ [_]).toArray (nu + 1 + 1)) (by exact fun p hp => (List.mem_singleton.mp hp) ▸ .tail _ (.tail _ (.tail _ (.head _)))) (by exact fun p hp => Mine.mem_t2 hp) (by exact fun p hp => .tail _ (.tail _ (.tail _ (.tail _ (.tail _ (.tail _ (.tail _ (.tail _ (.tail _ (.tail _ (List.mem_append_right _ hp))))))))))) hoff9 (by kst_all) ?_
      rw [hce]
      exact .two hus hno hyl hul hu8 hcc h128 (by assumption)
  · clear lF lN hR
    intro c9 u9 h9 tk9 ⟨us, nu, ys, hc9, hus, hno, hyl, hul, hu8⟩ F' N'
    subst hc9
    rw [List.take_length] at hno
    obtain ⟨h92, h128, htl9⟩ := htell
    dsimp only [List.cons_append, List.nil_append] at N'
    have hul9 := Mine.strsAre_length hus
    have hrl9 := hrv.length
    have hdl9 := hdv.length
    have htv9 : tv2.length ≤ 7 := htl2
    obtain ⟨hsg, hsz, hgd, hrn⟩ := Mine.DataInv.text hno hu8 h92
    k_with "call ref" => (walk_at "c70"; (all_goals refine Mine.halt ?_))
    k_steps
    k_with_none
    · unfold Mine.Halt
      intro r tl h' tk' F' N' hab hr
      replace N' := Mine.dropN N' (fun p hp => List.mem_append.mpr (.inr hp))
      obtain ⟨hgd9, t9, rfl⟩ := hr
      rw [hgd] at hgd9
      rw [hrn]
      rcases htl9 with ⟨W9, tw, rfl, _, hW9⟩ | ⟨rfl, hno9⟩
      · rw [hW9]
        have stp1 := Mine.stopAt 1
        k_steps
        unfold Mine.Halt
        (rename Fr _ _ _ _ => lF; rename News _ _ _ _ => lN)
        dsimp only
        refine Mine.ne_bytes_Z lN (by k_memK) (by k_memK) hrv.snoc hdv.snoc ?huA ?_
        case huA => ktr_units
        k_with_none
        k_steps
        (rename Fr _ _ _ _ => lF; rename News _ _ _ _ => lN)
        try dsimp only [Mine.Post09]
        refine Mine.end09 lF lN (by exact fun p hp => Mine.mem9 hp) hrv.snoc hdv.snoc (by rw [List.length_append, List.length_singleton]; omega) (by refine ⟨?_, ?_, ?_, ?_, ?_⟩ <;> omega) (by k_all) (by kst_all)
      · exact absurd hgd9 (by rw [hno9]; decide)
    · unfold Mine.Halt
      intro e' g' h' tk' hB F' U'
      obtain ⟨hgd9, t9, vs9, R9⟩ := hB
      have RK9 := R9.toK
      clear R9
      rw [hgd] at hgd9
      rcases htl9 with ⟨W9, tw, rfl, hno9, hW9⟩ | ⟨rfl, hno9⟩
      · exact absurd hgd9 (by rw [hno9]; decide)
      · have stp1 := Mine.stopAt 1
        k_steps
        unfold Mine.Halt
        (rename Fr _ _ _ _ => lF; rename News _ _ _ _ => lN)
        dsimp only
        refine Mine.ne_bytes_Z lN (by k_memK) (by k_memK) hrv hdv ?huB ?_
        case huB => ktr_units
        k_with_none
        k_steps
        (rename Fr _ _ _ _ => lF; rename News _ _ _ _ => lN)
        try dsimp only [Mine.Post09]
        refine Mine.end09 lF lN (by exact fun p hp => Mine.mem9 hp) hrv hdv (by omega) (by refine ⟨?_, ?_, ?_, ?_, ?_⟩ <;> omega) (by k_all) (by kst_all)

open PySem PySem.W PySem.Spec PySem.Calls PyProof.Rows
local macro_rules | `(tactic| walk_at "call builtin:str.join") => `(tactic| (k_here; k_dflt (refine' Mine.join_S ?N ?l ?v ?x ?z ?_; (case N => k_asm); (case l => k_memK); (case v => with_reducible assumption); (case x => decide); (case z => first | decide | omega); k_whole); intro t' k'))
local macro_rules | `(tactic| walk_at "call type:dict") => `(tactic| (k_here; (with_reducible show wpAny _ _ (call (Value.type "dict") []) _ _ _); k_dflt (refine' Mine.dict0_Z ?k1 ?k2 (Glob.nolimit (by assumption)) ?_; (case k1 => k_asm); (case k2 => k_asm); k_whole); intro d' h' o' F' N' l1 lo' hs' fs' hi' fi'; (try k_lt l1); (try k_sweep)))
local macro_rules | `(tactic| walk_at "c70") => `(tactic| (k_here; (with_reducible show wpAny _ _ (call (Value.ref 70) [Value.str _ _] _) _ _ _); k_dflt (refine' Mine.Spec3.use (Mine.decS_spec _ _ _ _ _ _ _ ?sg ?sz) ?B ?F ?X ?N ?T ?hk ?hd ?hu ?hp ?ret ?bad; (case sg => with_reducible assumption); (case sz => first | omega | with_reducible assumption); (case B => k_asm); (case F => k_asm); (case X => k_asm); (case N => k_asm); (case T => k_asm); (case hk => exact rfl); (case hd => ktr_room); (case hu => ktr_units); (case hp => trivial); k_whole)))
local macro_rules | `(tactic| walk_at "setItem ref str") => `(tactic| (k_here; (with_reducible show wpAny _ _ (setItem (Value.ref _) (Value.str _ _) (Value.bytes _ _)) _ _ _); k_dflt (refine' kda_set (knd := PySem.strKind _ _) ?F ?N ?U ?d (strKind_is _ _ _ _) ?z ?_; (case F => k_asm); (case N => k_asm); (case U => k_updF); (case d => k_asm); (case z => kob_size)); intro h' o' F' N' hd'; (try kob_lit); (try dsimp only at N')))
local macro_rules | `(tactic| walk_at "eval Dict") => `(tactic| (k_here; (with_reducible show wpAny _ _ (eval (Expr.Dict [some (Expr.Name _ _)] [Expr.Name _ _] _) _) _ _ _); k_dflt (refine' kdn_eval (knd := PySem.strKind _ _) ?F ?N ?b ?a ?l ?e ?n ?_; (case F => k_asm); (case N => k_asm); (case b => exact Glob.nolimit (by assumption)); (case a => rfl); (case l => rfl); (case e => exact List.cons_ne_nil _ _); (case n => exact Nat.le_of_ble_eq_true rfl)); intro d' h' o' F' N' l1 lo' hd'; (try k_lt l1)))
local macro_rules | `(tactic| walk_at "compareOp NotEq ref ref") => `(tactic| (k_here; (refine' kne_pairs (knd := PySem.strKind _ _) (r := true && true) ?N ?pa ?pb ?da ?db ?la ?lb ?hl ?hu ?hits ?_; (case N => k_asm); (case pa => k_mem); (case pb => k_mem); (case da => assumption); (case db => assumption); (case la => assumption); (case lb => assumption); (case hl => with_unfolding_all rfl); (case hu => ktr_units); (case hits => exact .hit (by with_unfolding_all rfl) (Mine.eqAt_bytes _ _ _) .nil))))
set_option maxHeartbeats 8000000 in
noncomputable def Mine.part2 : (P1 : Prop) ×' ((Mine.Key9 → P1) → Mine.part1.2.1) := by
  refine' ⟨_, fun hP1 => _⟩
  rotate_left
  have kq : (PySem.Challenge.rw_ko0121_09.foot = PySem.Challenge.rw_ko0121_09.foot ∧ hd.heap_39 = hd.heap_39) := by (k_fill; exact ⟨rfl, rfl⟩)
  clear kq
  intro xb1 xb2 xb3 xb4 xb5 xb6 xb7 xb8 xb9 xb10 xb11 xb12 xb13 xb14 xb15 xb16 xb17 xb18 xb19 xb20 xb21 xb22 xb23 xb24 xb25 xb26 xb27 xb28 ns xb29 xb30 xb31 xb32 xb33 xb34 xb35 xb36 xb37 xb38 xb39 xb40 xb41 xb42 hI xb43 hlen xb44 xb45 xb46 xb47 xb48 xb49 xb50 xb51 xb52 hL xb53 xb54 xb55 xb56 xb57 xb58 xb59 xb60 xb61 b hb hbs hbz tl xb62 tk' SG sv kk hsv hsl xb63 tA P1 xb64 LA xb65 xb66 xb67 D1 xb68 D0 xb69 xb70 xb71 xb72 xb73 t3 xb74 P2 xb75 TL xb76 xb77 xb78 hTS h' xb79 xb80 tv kt rows htl xb81 xb82 xb83 xb84 xb85 xb86 xb87 xb88 rows2 u h xb89 tv2 kt2 htl2 RW hall2 hSG xb90 xb91 xb92 xb93 xb94 xb95 xb96 xb97 xb98 xb99 xb100 xb101 xb102 xb103 xb104 xb105 xb106 xb107 xb108 xb109 xb110 xb111 xb112 xb113 xb114 xb115 xb116 xb117 xb118 xb119 xb120 xb121 xb122 xb123 xb124 xb125 xb126 xb127 xb128 xb129 xb130 xb131 xb132 xb133 xb134 xb135 xb136 xb137 xb138 xb139 xb140 xb141 xb142 xb143 xb144 xb145 xb146 xb147 xb148 xb149 xb150 xb151 xb152 xb153 xb154 xb155 xb156 xb157 xb158 xb159 xb160 xb161 xb162 lifted qk ek xb163 xb164 xb165 xb166 xb167 xb168 xb169 xb170 xb171 xb172 xb173 xb174 xb175 xb176 xb177 xb178 xb179 xb180 xb181 xb182 xb183 xb184 lF lN tk
  w_on
  clear lF lN
  repeat (rename News _ _ _ _ => zN; clear zN)
  repeat (rename Fr _ _ _ _ => zN; clear zN)
  intro DA rv rn zs u h tk hrv hz n1 n2 n3 n4 n5 F' N'
  dsimp only
  obtain ⟨hsg, hsz, hgd, hof, hsum⟩ := Mine.sig_text hbz
  have hsl8 := Mine.strsAre_length hsv
  have hT := Mine.news5 N' hSG
  clear N'
  k_with "call ref" => (walk_at "c70"; (all_goals refine Mine.halt ?_))
  k_steps
  k_with_none
  · unfold Mine.Halt
    intro r tl h' tk' F' N' hab hr
    replace N' := Mine.dropN N' (fun p hp => List.mem_append.mpr (.inr hp))
    obtain ⟨_, t9, rfl⟩ := hr
    rw [hof]
    k_with "call ref" => (walk_at "c70"; (all_goals refine Mine.halt ?_))
    k_steps
    k_with_none
    · rename_i xc1 xc2 xc3 xc4 xc5 xc6 xc7 xc8 xc9 xc10 xc11 xc12 xc13 xc14 xc15 xc16 xc17 xc18 xc19 xc20 xc21 xc22 xc23 xc24 xc25 xc26 xc27 xc28 xc29 xc30 xc31 xc32 xc33 xc34 xc35 xc36 xc37 xc38 xc39 xc40 xc41 xc42 xc43 xc44 xc45 xc46 xc47 xc48 xc49 xc50 xc51 xc52 xc53 xc54 xc55 xc56 xc57 xc58 xc59 xc60 xc61 xc62 xc63 xc64 xc65 xc66 xc67 xc68 xc69 xc70 xc71 xc72 xc73 xc74 xc75 xc76 xc77 xc78 xc79 xc80 xc81 xc82 xc83 xc84 xc85 xc86 xc87 xc88 xc89 xc90 xc91 xc92 xc93 xc94 xc95 xc96 xc97 xc98 xc99 xc100 xc101 xc102 xc103 xc104 xc105 xc106 xc107 xc108 xc109 xc110 xc111 xc112 xc113 xc114 xc115 xc116 xc117 xc118 xc119 xc120 xc121 xc122 xc123 xc124 xc125 xc126 xc127 xc128 xc129 xc130 xc131 xc132 xc133 xc134 xc135 xc136 xc137 xc138 xc139 xc140 xc141 xc142 xc143 xc144 xc145 xc146 xc147 xc148 xc149 xc150 xc151 xc152 xc153 xc154 xc155 xc156 xc157 xc158 xc159 xc160 xc161 xc162 xc163 xc164 xc165 xc166 xc167 xc168 xc169 xc170 xc171 xc172 xc173 xc174 xc175 xc176 xc177 xc178 xc179 xc180 xc181 xc182 xc183 xc184 xc185 xc186 xc187 xc188 xc189 xc190 xc191 xc192 xc193 xc194 xc195 xc196 xc197 xc198 xc199 xc200 xc201 xc202 xc203 xc204 xc205 xc206 xc207 xc208 xc209 xc210 xc211 xc212 xc213 xc214 xc215 xc216 xc217 xc218 xc219 xc220 xc221 xc222 xc223 xc224 xc225 xc226 xc227 xc228 xc229 xc230 xc231 xc232 xc233 xc234 xc235 xc236 xc237 xc238 xc239 xc240 xc241 xc242 xc243 xc244 xc245 xc246 xc247 xc248 xc249 xc250 xc251 xc252 xc253 xc254 xc255 xc256 xc257 xc258 xc259 xc260 xc261 xc262 xc263 xc264 xc265 xc266 xc267 xc268 xc269 xc270 xc271 xc272 xc273 xc274 xc275 xc276 xc277 xc278 xc279 xc280 xc281 xc282 xc283 xc284 xc285 xc286 xc287 xc288 xc289 xc290 xc291 xc292 xc293 xc294 xc295 xc296 xc297 xc298 xc299 xc300 xc301 xc302 xc303 xc304 xc305 xc306 xc307 xc308 xc309 xc310 xc311 xc312 xc313 xc314 xc315 xc316 xc317 xc318 xc319 xc320 xc321 xc322 xc323 xc324
      revert xb1 xb2 xb3 xb4 xb5 xb6 xb7 xb8 xb9 xb10 xb11 xb12 xb13 xb14 xb15 xb16 xb17 xb18 xb19 xb20 xb21 xb22 xb23 xb24 xb25 xb26 xb27 xb28 ns xb29 xb30 xb31 xb32 xb33 xb34 xb35 xb36 xb37 xb38 xb39 xb40 xb41 xb42 hI xb43 hlen xb44 xb45 xb46 xb47 xb48 xb49 xb50 xb51 xb52 hL xb53 xb54 xb55 xb56 xb57 xb58 xb59 xb60 xb61 b hb hbs hbz xc1 xb62 xc2 SG sv kk hsv hsl xb63 tA P1 xb64 LA xb65 xb66 xb67 D1 xb68 D0 xb69 xb70 xb71 xb72 xb73 t3 xb74 P2 xb75 TL xb76 xb77 xb78 hTS xc3 xb79 xb80 tv kt rows htl xb81 xb82 xb83 xb84 xb85 xb86 xb87 xb88 rows2 xc4 xc5 xb89 tv2 kt2 htl2 RW hall2 hSG xb90 xb91 xb92 xb95 xb96 xb97 xb98 xb99 xb100 xb101 xb102 xb103 xb104 xb105 xb106 xb107 xb108 xb109 xb110 xb111 xb112 xb113 xb114 xb115 xb116 xb117 xb118 xb121 xb122 xb123 xb124 xb125 xb126 xb127 xb128 xb129 xb130 xb131 xb132 xb133 xb134 xb135 xb136 xb137 xb138 xb139 xb140 xb141 xb142 xb143 xb144 xb145 xb146 xb147 xb148 xb149 xb150 xb151 xb152 xb153 xb154 xb155 xb156 xb157 xb158 xb159 xb160 xb161 xb162 xc6 xc7 xc8 xb163 xb164 xb165 xb166 xb169 xb170 xb171 xb174 xb175 xb176 xb177 xb178 xb179 xb180 xb181 xb182 xb183 xb184 xc9 DA rv rn zs u h xc10 hrv hz n1 n2 n3 n4 n5 hsg hsz hgd hof hsum hsl8 xc11 xc12 xc13 xc14 xc15 xc16 xc17 xc18 xc19 xc20 xc21 xc22 xc23 xc24 xc25 xc26 xc27 xc28 xc29 xc30 xc31 xc32 xc33 xc34 xc35 xc36 xc37 xc38 xc39 xc40 xc41 xc42 xc43 xc44 xc45 xc46 xc47 xc48 xc49 xc50 xc51 xc52 xc53 xc54 xc55 xc56 xc57 xc58 xc59 xc60 xc61 xc62 xc63 xc64 xc65 xc66 xc67 xc68 xc69 xc70 xc71 xc72 xc73 xc74 xc75 xc76 xc77 xc78 xc79 xc80 xc81 xc82 xc83 xc84 xc85 xc86 xc87 xc88 xc89 xc90 xc91 xc92 xc93 xc94 xc95 xc96 xc97 xc98 xc99 xc100 xc101 xc102 xc103 xc104 xc105 xc106 xc107 xc108 xc109 xc110 xc111 xc112 xc113 xc114 xc115 xc116 xc117 xc118 xc119 xc120 xc121 xc122 xc123 xc124 xc125 xc126 xc127 xc128 xc129 xc130 xc131 xc132 xc133 xc134 xc135 xc136 xc137 xc138 xc139 xc140 xc141 xc142 xc143 xc144 xc145 xc146 xc147 xc148 xc149 xc150 xc151 xc152 xc153 xc154 xc155 xc156 xc157 xc158 xc159 xc160 xc161 xc162 xc163 xc164 xc165 xc166 xc167 xc168 xc169 xc170 xc171 xc172 xc173 tl h' tk' F' hab N' xc174 t9 xc175 xc176 xc177 xc178 xc179 xc180 xc181 xc182 xc183 xc184 xc185 xc186 xc187 xc188 xc189 xc190 xc191 xc192 xc193 xc194 xc195 xc196 xc197 xc198 xc199 xc200 xc201 xc202 xc203 xc204 xc205 xc206 xc207 xc208 xc209 xc210 xc211 xc212 xc213 xc214 xc215 xc216 xc217 xc218 xc219 xc220 xc221 xc222 xc223 xc224 xc225 xc226 xc227 xc228 xc229 xc230 xc231 xc232 xc233 xc234 xc235 xc236 xc237 xc238 xc239 xc240 xc241 xc242 xc243 xc244 xc245 xc246 xc247 xc248 xc249 xc250 xc251 xc252 xc253 xc254 xc255 xc256 xc257 xc258 xc259 xc260 xc261 xc262 xc263 xc264 xc265 xc266 xc267 xc268 xc269 xc270 xc271 xc272 xc273 xc274 xc275 xc276 xc277 xc278 xc279 xc280 xc281 xc282 xc283 xc284 xc285 xc286 xc287 xc288 xc289 xc290 xc291 xc292 xc293 xc294 xc295 xc296 xc297 xc298 xc299 xc300 xc301 xc302 xc303 xc304 xc305 xc306 xc307 xc308 xc309 xc310 xc311 lifted qk ek tk xc312 xc313 xc314 xc315 xc316 xc317 xc318 xc319 xc320 xc321 xc322 xc323 xc324
      exact hP1 .k
    · unfold Mine.Halt
      intro e' g' h' tk' hB F' U'
      exact absurd hgd (by rw [hB.1]; decide)
  · unfold Mine.Halt
    intro e' g' h' tk' hB F' U'
    exact absurd hgd (by rw [hB.1]; decide)

open PySem PySem.W PySem.Spec PySem.Calls PyProof.Rows
local macro_rules | `(tactic| walk_at "call builtin:str.join") => `(tactic| (k_here; k_dflt (refine' Mine.join_S ?N ?l ?v ?x ?z ?_; (case N => k_asm); (case l => k_memK); (case v => with_reducible assumption); (case x => decide); (case z => first | decide | omega); k_whole); intro t' k'))
local macro_rules | `(tactic| walk_at "call type:dict") => `(tactic| (k_here; (with_reducible show wpAny _ _ (call (Value.type "dict") []) _ _ _); k_dflt (refine' Mine.dict0_Z ?k1 ?k2 (Glob.nolimit (by assumption)) ?_; (case k1 => k_asm); (case k2 => k_asm); k_whole); intro d' h' o' F' N' l1 lo' hs' fs' hi' fi'; (try k_lt l1); (try k_sweep)))
local macro_rules | `(tactic| walk_at "c70") => `(tactic| (k_here; (with_reducible show wpAny _ _ (call (Value.ref 70) [Value.str _ _] _) _ _ _); k_dflt (refine' Mine.Spec3.use (Mine.decS_spec _ _ _ _ _ _ _ ?sg ?sz) ?B ?F ?X ?N ?T ?hk ?hd ?hu ?hp ?ret ?bad; (case sg => with_reducible assumption); (case sz => first | omega | with_reducible assumption); (case B => k_asm); (case F => k_asm); (case X => k_asm); (case N => k_asm); (case T => k_asm); (case hk => exact rfl); (case hd => ktr_room); (case hu => ktr_units); (case hp => trivial); k_whole)))
local macro_rules | `(tactic| walk_at "setItem ref str") => `(tactic| (k_here; (with_reducible show wpAny _ _ (setItem (Value.ref _) (Value.str _ _) (Value.bytes _ _)) _ _ _); k_dflt (refine' kda_set (knd := PySem.strKind _ _) ?F ?N ?U ?d (strKind_is _ _ _ _) ?z ?_; (case F => k_asm); (case N => k_asm); (case U => k_updF); (case d => k_asm); (case z => kob_size)); intro h' o' F' N' hd'; (try kob_lit); (try dsimp only at N')))
local macro_rules | `(tactic| walk_at "eval Dict") => `(tactic| (k_here; (with_reducible show wpAny _ _ (eval (Expr.Dict [some (Expr.Name _ _)] [Expr.Name _ _] _) _) _ _ _); k_dflt (refine' kdn_eval (knd := PySem.strKind _ _) ?F ?N ?b ?a ?l ?e ?n ?_; (case F => k_asm); (case N => k_asm); (case b => exact Glob.nolimit (by assumption)); (case a => rfl); (case l => rfl); (case e => exact List.cons_ne_nil _ _); (case n => exact Nat.le_of_ble_eq_true rfl)); intro d' h' o' F' N' l1 lo' hd'; (try k_lt l1)))
local macro_rules | `(tactic| walk_at "compareOp NotEq ref ref") => `(tactic| (k_here; (refine' kne_pairs (knd := PySem.strKind _ _) (r := true && true) ?N ?pa ?pb ?da ?db ?la ?lb ?hl ?hu ?hits ?_; (case N => k_asm); (case pa => k_mem); (case pb => k_mem); (case da => assumption); (case db => assumption); (case la => assumption); (case lb => assumption); (case hl => with_unfolding_all rfl); (case hu => ktr_units); (case hits => exact .hit (by with_unfolding_all rfl) (Mine.eqAt_bytes _ _ _) .nil))))
local macro_rules | `(tactic| walk_at "eval ListComp") => `(tactic| (refine Mine.halt ?_))
set_option maxHeartbeats 8000000 in
theorem Mine.two09 : Mine.part2.1 := by
  have kq : (PySem.Challenge.rw_ko0121_09.foot = PySem.Challenge.rw_ko0121_09.foot ∧ hd.heap_39 = hd.heap_39) := by (k_fill; exact ⟨rfl, rfl⟩)
  clear kq
  intro xb1 xb2 xb3 xb4 xb5 xb6 xb7 xb8 xb9 xb10 xb11 xb12 xb13 xb14 xb15 xb16 xb17 xb18 xb19 xb20 xb21 xb22 xb23 xb24 xb25 xb26 xb27 xb28 ns xb29 xb30 xb31 xb32 xb33 xb34 xb35 xb36 xb37 xb38 xb39 xb40 xb41 xb42 hI xb43 hlen xb44 xb45 xb46 xb47 xb48 xb49 xb50 xb51 xb52 hL xb53 xb54 xb55 xb56 xb57 xb58 xb59 xb60 xb61 b hb hbs hbz xc1 xb62 xc2 SG sv kk hsv hsl xb63 tA P1 xb64 LA xb65 xb66 xb67 D1 xb68 D0 xb69 xb70 xb71 xb72 xb73 t3 xb74 P2 xb75 TL xb76 xb77 xb78 hTS xc3 xb79 xb80 tv kt rows htl xb81 xb82 xb83 xb84 xb85 xb86 xb87 xb88 rows2 xc4 xc5 xb89 tv2 kt2 htl2 RW hall2 hSG xb90 xb91 xb92 xb95 xb96 xb97 xb98 xb99 xb100 xb101 xb102 xb103 xb104 xb105 xb106 xb107 xb108 xb109 xb110 xb111 xb112 xb113 xb114 xb115 xb116 xb117 xb118 xb121 xb122 xb123 xb124 xb125 xb126 xb127 xb128 xb129 xb130 xb131 xb132 xb133 xb134 xb135 xb136 xb137 xb138 xb139 xb140 xb141 xb142 xb143 xb144 xb145 xb146 xb147 xb148 xb149 xb150 xb151 xb152 xb153 xb154 xb155 xb156 xb157 xb158 xb159 xb160 xb161 xb162 xc6 xc7 xc8 xb163 xb164 xb165 xb166 xb169 xb170 xb171 xb174 xb175 xb176 xb177 xb178 xb179 xb180 xb181 xb182 xb183 xb184 xc9 DA rv rn zs u h xc10 hrv hz n1 n2 n3 n4 n5 hsg hsz hgd hof hsum hsl8 xc11 xc12 xc13 xc14 xc15 xc16 xc17 xc18 xc19 xc20 xc21 xc22 xc23 xc24 xc25 xc26 xc27 xc28 xc29 xc30 xc31 xc32 xc33 xc34 xc35 xc36 xc37 xc38 xc39 xc40 xc41 xc42 xc43 xc44 xc45 xc46 xc47 xc48 xc49 xc50 xc51 xc52 xc53 xc54 xc55 xc56 xc57 xc58 xc59 xc60 xc61 xc62 xc63 xc64 xc65 xc66 xc67 xc68 xc69 xc70 xc71 xc72 xc73 xc74 xc75 xc76 xc77 xc78 xc79 xc80 xc81 xc82 xc83 xc84 xc85 xc86 xc87 xc88 xc89 xc90 xc91 xc92 xc93 xc94 xc95 xc96 xc97 xc98 xc99 xc100 xc101 xc102 xc103 xc104 xc105 xc106 xc107 xc108 xc109 xc110 xc111 xc112 xc113 xc114 xc115 xc116 xc117 xc118 xc119 xc120 xc121 xc122 xc123 xc124 xc125 xc126 xc127 xc128 xc129 xc130 xc131 xc132 xc133 xc134 xc135 xc136 xc137 xc138 xc139 xc140 xc141 xc142 xc143 xc144 xc145 xc146 xc147 xc148 xc149 xc150 xc151 xc152 xc153 xc154 xc155 xc156 xc157 xc158 xc159 xc160 xc161 xc162 xc163 xc164 xc165 xc166 xc167 xc168 xc169 xc170 xc171 xc172 xc173 tl h' tk' F' hab N' xc174 t9 xc175 xc176 xc177 xc178 xc179 xc180 xc181 xc182 xc183 xc184 xc185 xc186 xc187 xc188 xc189 xc190 xc191 xc192 xc193 xc194 xc195 xc196 xc197 xc198 xc199 xc200 xc201 xc202 xc203 xc204 xc205 xc206 xc207 xc208 xc209 xc210 xc211 xc212 xc213 xc214 xc215 xc216 xc217 xc218 xc219 xc220 xc221 xc222 xc223 xc224 xc225 xc226 xc227 xc228 xc229 xc230 xc231 xc232 xc233 xc234 xc235 xc236 xc237 xc238 xc239 xc240 xc241 xc242 xc243 xc244 xc245 xc246 xc247 xc248 xc249 xc250 xc251 xc252 xc253 xc254 xc255 xc256 xc257 xc258 xc259 xc260 xc261 xc262 xc263 xc264 xc265 xc266 xc267 xc268 xc269 xc270 xc271 xc272 xc273 xc274 xc275 xc276 xc277 xc278 xc279 xc280 xc281 xc282 xc283 xc284 xc285 xc286 xc287 xc288 xc289 xc290 xc291 xc292 xc293 xc294 xc295 xc296 xc297 xc298 xc299 xc300 xc301 xc302 xc303 xc304 xc305 xc306 xc307 xc308 xc309 xc310 xc311 lifted qk ek tk xc312 xc313 xc314 xc315 xc316 xc317 xc318 xc319 xc320 xc321 xc322 xc323 xc324
  w_on
  unfold Mine.Halt
  intro r tl h' tk' F' N' hab hr
  replace N' := Mine.dropN N' (fun p hp => List.mem_append.mpr (.inr hp))
  obtain ⟨_, t9, rfl⟩ := hr
  rw [hof]
  replace N' := Mine.dropMid9 N'
  k_steps
  k_with_none
  unfold Mine.Halt
  (rename Fr _ _ _ _ => lF; rename News _ _ _ _ => lN)
  refine Mine.comp_none (vs := rv) lF (by with_unfolding_all rfl) (by decide) (by rfl) (by decide) (by rfl) (fun _ => rfl) (fun _ => rfl) (by decide) rfl lN (by k_memK) ?hsz ?hit ?turn ?fin
  case hsz => (have htv9 : tv2.length ≤ 7 := htl2); rw [sizeLine_eq, hrv.length]; omega
  case hit =>
    intro Q' hq
    k_steps
    exact hq _ _ (by k_asm) (by k_asm)
  case turn =>
    intro k v I oI C oC D ys m₂ h9 tk9 E' hk hC hm F' N' off hne
    obtain ⟨bb, tt, rfl, _⟩ := hrv.at k v hk
    k_steps
    exact Mine.tested (by k_asm) (by k_asm) rfl
  case fin =>
    intro D h9 tk9 F' N' hD
    clear lF lN
    k_steps

theorem PySem.Challenge.cw_ko0121_09_holds : PySem.Challenge.rw_ko0121_09.Holds := by
  exact Mine.part1.2.2 (fun _ => Mine.turn09) (fun _ => Mine.part2.2 (fun _ => Mine.two09))

