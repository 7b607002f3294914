import PyProof.Rows.All
import Wide.All
import OpenK.AllK
import Wide.FinOn
import PySem.Challenge.RW_ko0121_08
set_option compiler.extract_closed false
set_option Elab.async false
set_option maxRecDepth 100000
open PySem PySem.W PySem.Spec PySem.Calls PyProof.Rows
namespace Mine
open PySem PySem.W PyProof.Rows
theorem neS {x d : Nat} (h : d ≠ x) : x ≠ d := fun e => h e.symm
theorem nm {x d : Nat} (h : x < d) : x ≠ d := Nat.ne_of_lt h
theorem nl0 {x d : Nat} { q : Prop} (h : x < d ∧ q) : x ≠ d := Nat.ne_of_lt h.1
theorem nl1 {x d : Nat} {p0 q : Prop} (h : p0 ∧ x < d ∧ q) : x ≠ d := Nat.ne_of_lt h.2.1
theorem nl2 {x d : Nat} {p0 p1 q : Prop} (h : p0 ∧ p1 ∧ x < d ∧ q) : x ≠ d := Nat.ne_of_lt h.2.2.1
theorem nl3 {x d : Nat} {p0 p1 p2 q : Prop} (h : p0 ∧ p1 ∧ p2 ∧ x < d ∧ q) : x ≠ d := Nat.ne_of_lt h.2.2.2.1
theorem nl4 {x d : Nat} {p0 p1 p2 p3 q : Prop} (h : p0 ∧ p1 ∧ p2 ∧ p3 ∧ x < d ∧ q) : x ≠ d := Nat.ne_of_lt h.2.2.2.2.1
theorem nl5 {x d : Nat} {p0 p1 p2 p3 p4 q : Prop} (h : p0 ∧ p1 ∧ p2 ∧ p3 ∧ p4 ∧ x < d ∧ q) : x ≠ d := Nat.ne_of_lt h.2.2.2.2.2.1
theorem nl6 {x d : Nat} {p0 p1 p2 p3 p4 p5 q : Prop} (h : p0 ∧ p1 ∧ p2 ∧ p3 ∧ p4 ∧ p5 ∧ x < d ∧ q) : x ≠ d := Nat.ne_of_lt h.2.2.2.2.2.2.1
theorem nl7 {x d : Nat} {p0 p1 p2 p3 p4 p5 p6 q : Prop} (h : p0 ∧ p1 ∧ p2 ∧ p3 ∧ p4 ∧ p5 ∧ p6 ∧ x < d ∧ q) : x ≠ d := Nat.ne_of_lt h.2.2.2.2.2.2.2.1
end Mine

namespace Mine
open PySem PySem.W PySem.Spec PySem.Calls PyProof.Rows

/-- what a frame says of some names -/
def HasAll (m : Str → Option Value) (ps : List (Str × Value)) : Prop := ∀ p ∈ ps, m p.1 = some p.2

theorem hasAll_eq {m : Str → Option Value} {ps : List (Str × Value)} (h : HasAll m ps) : kstB m ps = m := by
  funext y
  exact kstB_eq h fun _ => rfl

theorem hasAll_x {m : Str → Option Value} {ps : List (Str × Value)} {x : Str} {v : Value} (h : HasAll m ps) : (fun y => if y = x then some v else m y) = (fun y => if y = x then some v else kstB m ps y) := by
  rw [hasAll_eq h]

section
variable {prog : Program} {w : World} {A : Around} {E : Value → Shared → Prop} {Q : Flow → Shared → Prop} {s : Shared} {env : Env} {h₀ : Heap} {L : Addr}

end

end Mine
namespace Mine
def Halt (P : Prop) : Prop := P
theorem halt {P : Prop} (h : Halt P) : P := h
end Mine

namespace Mine
open PySem PySem.W PySem.Spec PySem.Calls PyProof.Rows

section
variable {prog : Program} {w : World} {A : Around} {E : Value → Shared → Prop} {s : Shared} {value slice : PySem.Expr} {Q : Value → Shared → Prop}
end

section
variable {prog : Program} {w : World} {A : Around} {E : Value → Shared → Prop} {s : Shared} {h₀ : Heap} {L : Addr} {m : Str → Option Value} {news : List (Addr × Obj)}
end


section
variable {prog : Program} {w : World} {A : Around} {E : Value → Shared → Prop} {s : Shared} {h₀ : Heap} {L : Addr} {m : Str → Option Value} {news news' : List (Addr × Obj)}
theorem append_Z {D : Addr} {vs : List Value} {n : Nat} {x : Value} {Q : Value → Shared → Prop} (F : Fr h₀ L s.heap m) (N : News h₀ L s.heap news) (U : Upd D (listOf vs.toArray n) (listOf (vs ++ [x]).toArray (n + 1)) news news')
    (h : ∀ h', Fr h₀ L h' m → News h₀ L h' news' → Q .none { s with heap := h' }) (hsz : vs.length ≤ sizeLine) : wpAny (model prog w) A (call (.builtin "list.append") [.ref D, x]) Q E s := by
  have e : (vs ++ [x]).toArray = vs.toArray.push x := by simp
  rw [e] at U
  exact append_K F N U h (by rw [List.size_toArray]; exact hsz)
end

section
variable {prog : Program} {w : World} {A : Around} {E : Value → Shared → Prop} {s : Shared} {a b : Int} {t u : Tok} {Q : Value → Shared → Prop}
theorem addI (h : ∀ t' k, Q (.int (a + b) t') { s with toks := k }) : wpAny (model prog w) A (binaryOp .Add (.int a t) (.int b u)) Q E s := add_int (h _ _)
theorem modI (hb : 0 < b) (h : ∀ t' k, Q (.int (a % b) t') { s with toks := k }) : wpAny (model prog w) A (binaryOp .Mod (.int a t) (.int b u)) Q E s :=
  mod_int (by omega) (by rw [Int.fmod_eq_emod_of_nonneg _ (Int.le_of_lt hb)]; exact h _ _)
theorem mulI (hb : b.natAbs < 2 ^ 64 ∨ a.natAbs < 2 ^ 64) (h : ∀ t' k, Q (.int (a * b) t') { s with toks := k }) : wpAny (model prog w) A (binaryOp .Mult (.int a t) (.int b u)) Q E s :=
  mul_int (h _ _) (hb.elim (fun h => IntMulOk.of_right (intBits_le_iff.mpr h)) fun h => IntMulOk.of_left (intBits_le_iff.mpr h))
theorem constI {env : Env} {pos : Pos} {i : Int} {kk : Nat} (h : ∀ t' k, Q (.int i t') { s with toks := k }) : wpAny (model prog w) A (eval (.Constant (.int i) kk pos) env) Q E s := wpAny_Constant_int (h _ _)
end
theorem intE {z z' : Int} {t : Tok} (h : z = z') : Value.int z t = Value.int z' t := by rw [h]
theorem dropN {h₀ h : Heap} {L : Addr} {news news' : List (Addr × Obj)} (N : News h₀ L h news') (hs : ∀ p ∈ news, p ∈ news') : News h₀ L h news := fun p hp => N p (hs p hp)
theorem noneAbove {news : List (Addr × Obj)} : ∀ q ∈ news, ∀ p ∈ ([] : List (Addr × Obj)), q.1 < p.1 := fun _ _ _ h => nomatch h
end Mine

namespace Mine
open PySem PySem.W PySem.Spec PySem.Calls PyProof.Rows
namespace BJ
open Builtin Builtin.Bytes
end BJ
end Mine
namespace Mine
open PySem PySem.W PySem.Spec PySem.Calls PyProof.Rows
namespace BJ
open Builtin Builtin.Bytes
end BJ
section
variable {prog : Program} {w : World} {A : Around} {E : Value → Shared → Prop} {s : Shared} {h₀ : Heap} {L : Addr} {m : Str → Option Value} {news news' : List (Addr × Obj)} {Q : Value → Shared → Prop}
end
end Mine
namespace Mine
open PySem PySem.W PySem.Spec PySem.Calls PyProof.Rows
section
variable {prog : Program} {w : World} {A : Around} {E : Value → Shared → Prop} {s : Shared} {h₀ h : Heap} {L D b : Addr} {m : Str → Option Value} {news news' : List (Addr × Obj)} {n n2 : Nat} {vs us : List Value} {Q : Value → Shared → Prop}
end
end Mine
namespace Mine
open PySem PySem.W PySem.Spec PySem.Calls PyProof.Rows
namespace SE
open Builtin Builtin.Str Builtin._codecs
end SE
section
variable {prog : Program} {w : World} {A : Around} {E : Value → Shared → Prop} {s : Shared} {Q : Value → Shared → Prop} {x : Str} {t t1 : Tok}
end
end Mine
namespace Mine
open PySem PySem.W PySem.Spec PySem.Calls PyProof.Rows
open Builtin.Str in
theorem slice_ix (lo hi : Option Int) (n : Nat) : strSliceIndices lo hi 1 n = sliceRange ((lo.elim 0 (clipAt n) : Nat) : Int) ((hi.elim n (clipAt n) : Nat) : Int) 1 := by
  unfold strSliceIndices
  simp only [show (1 : Int) > 0 by decide, if_true]
  cases lo <;> cases hi <;> simp only [Option.elim, clipAt_cast] <;> rfl
theorem slice_list (x : Str) (lo hi : Option Int) : (Txt.slice x lo hi).cps.toList = (x.cps.toList.drop (lo.elim 0 (clipAt x.length))).take (hi.elim x.length (clipAt x.length) - lo.elim 0 (clipAt x.length)) := by
  have e : ((Builtin.Str.strSliceIndices lo hi 1 x.length).filterMap (x.cps[·]?)) = (x.cps.toList.drop (lo.elim 0 (clipAt x.length))).take (hi.elim x.length (clipAt x.length) - lo.elim 0 (clipAt x.length)) := by
    rw [slice_ix, sliceRange_one, pick_run]
  unfold Txt.slice
  split
  · rename_i h
    have hl : (Builtin.Str.strSliceIndices lo hi 1 x.length).length = x.length := by simpa using h
    rw [slice_ix, sliceRange_one, List.length_map, List.length_range] at hl
    have hb : hi.elim x.length (clipAt x.length) ≤ x.length := by
      cases hi with
      | none => exact Nat.le_refl _
      | some j =>
        have := clipAt_cast x.length j
        simp only [Option.elim]
        omega
    have hx : x.cps.toList.length = x.length := by simp [Str.length]
    rcases Nat.eq_zero_or_pos x.length with h0 | h0
    · rw [List.eq_nil_of_length_eq_zero (hx.trans h0)]; simp
    · have ha : lo.elim 0 (clipAt x.length) = 0 := by omega
      rw [ha] at hl ⊢
      rw [List.drop_zero, hl, List.take_of_length_le (by omega)]
  · exact e
end Mine
namespace Mine
open PySem PySem.W PySem.Spec PySem.Calls PyProof.Rows
theorem str_len (x : Str) : x.cps.toList.length = x.length := by simp [Str.length]
theorem str_nil {x : Str} : x.cps.toList = [] ↔ x = Str.ofString "" := by
  have e : (Str.ofString "").cps = #[] := by decide
  constructor
  · intro h
    refine Str.ext' ?_
    rw [e]
    exact Array.toList_inj.mp h
  · rintro rfl
    rw [e]
theorem clip_pos (n : Nat) (i : Int) (h : 0 ≤ i) : clipAt n i = min i.toNat n := by
  obtain ⟨k, rfl⟩ := Int.eq_ofNat_of_zero_le h
  rw [clipAt_nat]; rfl
theorem slice_take (x : Str) (i : Int) (h : 0 ≤ i) : (Txt.slice x none (some i)).cps.toList = x.cps.toList.take i.toNat := by
  rw [slice_list]
  simp only [Option.elim, List.drop_zero, Nat.sub_zero]
  rw [clip_pos _ _ h]
  rcases Nat.le_total i.toNat x.length with h1 | h1
  · rw [Nat.min_eq_left h1]
  · rw [Nat.min_eq_right h1, List.take_of_length_le (by rw [str_len]; omega), List.take_of_length_le (by rw [str_len]; omega)]
theorem slice_drop (x : Str) (i : Int) (h : 0 ≤ i) : (Txt.slice x (some i) none).cps.toList = x.cps.toList.drop i.toNat := by
  rw [slice_list]
  simp only [Option.elim]
  rw [clip_pos _ _ h]
  rcases Nat.le_total i.toNat x.length with h1 | h1
  · rw [Nat.min_eq_left h1, List.take_of_length_le (by rw [List.length_drop, str_len]; omega)]
  · rw [Nat.min_eq_right h1, List.drop_of_length_le (by rw [str_len]; omega), List.drop_of_length_le (by rw [str_len]; omega)]; simp
end Mine

namespace Mine
open PySem PySem.W PySem.Spec PySem.Calls PyProof.Rows
section
variable {prog : Program} {w : World} {A : Around} {E : Value → Shared → Prop} {s : Shared} {value slice : PySem.Expr} {Q : Value → Shared → Prop}
/-- a text's sign at a known place -/
theorem item_S {x : Str} {t : Tok} {i : Int} {ui : Tok} {c : Nat} (h0 : 0 ≤ i ∧ i < 1000000) (hc : x.cps.toList[i.toNat]? = some c) (h : ∀ t' k, Q (.str ⟨#[c]⟩ t') { s with toks := k })
    (hs : subscripted slice false (.str x t) (.int i ui) = operate [.str x t, .int i ui] (getItem (.str x t) (.int i ui)) := by with_unfolding_all rfl)
    (ht : ∀ r, letTemporaryGo value (.str x t) r = pure () := by intro _; with_unfolding_all rfl) :
    wpAny (model prog w) A (subscriptTail value slice (.str x t) (.int i ui)) Q E s := by
  have hx : x.cps[i.toNat]? = some c := by rw [← Array.getElem?_toList]; exact hc
  have hlt : i.toNat < x.length := by
    rcases Nat.lt_or_ge i.toNat x.cps.size with h1 | h1
    · exact h1
    · rw [Array.getElem?_eq_none h1] at hx; cases hx
  have e : seqIndex? i x.length = some i.toNat := by
    have h1 : ¬ i < 0 := by omega
    have h2 : i < (x.length : Int) := by omega
    simp [seqIndex?, h1, h2, h0.1]
  exact tail_of_ItemOn ⟨"str", _, F.slot_str_getitem.lookup, typeIs_str _ _ _, P.getItem_str (c := c) (by simp; omega) (by rw [e]; exact hx) (h _ _)⟩ hs ht
end
end Mine
namespace Mine
open PySem PySem.W PySem.Spec PySem.Calls PyProof.Rows
end Mine

namespace Mine
open PySem PySem.W PySem.Spec PySem.Calls PyProof.Rows
section
variable {prog : Program} {w : World} {A : Around} {E : Value → Shared → Prop} {s : Shared} {h₀ : Heap} {L : Addr} {m : Str → Option Value} {news : List (Addr × Obj)} {Q : Value → Shared → Prop}
end
section
variable {prog : Program} {w : World} {A : Around} {E : Value → Shared → Prop} {s : Shared} {value slice : PySem.Expr} {b : Array UInt8} {t tl th : Tok} {lo hi : Int} {h₀ : Heap} {L : Addr} {m : PySem.Str → Option Value} {news : List (Addr × Obj)} {Q : Value → Shared → Prop}
end
end Mine
namespace Mine
open PySem PySem.W PySem.Spec PySem.Calls PyProof.Rows
end Mine
namespace Mine
end Mine
namespace Mine
open PySem PySem.W PySem.Spec PySem.Calls PyProof.Rows
end Mine

namespace Mine
open PySem PySem.W PySem.Spec PySem.Calls PyProof.Rows
namespace TN
open Builtin
theorem slot_type_ne : Slot "type" (cmpInfo .NotEq).2.1 "object.__ne__" :=
  .of (owner := "object") (n := "__ne__") (by rw [typeLookup_type, builtinLookup_eq_fast]; kernel_rfl) (by decide +kernel) (by decide +kernel) (by decide +kernel)
    (by first | exact .inl (by decide +kernel) | exact .inr (by decide +kernel)) (by rw [isSubtype_type]; kernel_rfl)
theorem meets_ne {X : String} (hX : ∀ s' : Shared, s'.TypeIs (.type X) "type") : Meets («object.__ne__» ⟨[.type X, .type X], []⟩) (fun _ R s => R (.ok (.ret (.bool false))) s) := by
  refine .of_wp fun prog w A R s hS => ?_
  unfold Builtin.«object.__ne__»
  refine wpAny_bind (wpAny_of_eq (a := (Value.type X, [Value.type X])) (by simp [slotArgs]) ?_)
  refine wpAny_bind (wpAny_cRoomFor_or (.inl rfl) ?_)
  refine wpAny_bind (wpAny_callSpecialIfBound?_slot (hX s) TypeEq.slot_type_eq (call_gives TypeEq.slot_type_eq (hX s) F.entry_object_eq (F.args_object_eq_2 _ _) (TypeEq.object_eq_same rfl (by simp)) ?_))
  show wpAny _ _ (truthy (.bool true) >>= fun b => ret (.bool (!b))) _ _ _
  refine wpAny_bind (wpAny_truthy_bool ?_)
  exact wpAny_pure ⟨_, rfl, hS⟩
end TN
section
variable {prog : Program} {w : World} {A : Around} {E : Value → Shared → Prop} {s : Shared} {Q : Value → Shared → Prop}
theorem ne_type_same {X : String} (hX : ∀ s' : Shared, s'.TypeIs (.type X) "type") (h : Q (.bool false) s) : wpAny (model prog w) A (compareOp .NotEq (.type X) (.type X)) Q E s := by
  show wpAny _ A (richCompare .NotEq _ _) Q E s
  exact wpAny_richCompare_same (T := "type") (hX s) (hX s) TN.slot_type_ne
    (call_meets TN.slot_type_ne (hX s) F.cmpEntry_ne (F.cmpArgs_ne _ _) (TN.meets_ne hX) ⟨(by intro e; cases e), h⟩)
end
end Mine

namespace Mine
open PySem PySem.W PySem.Spec PySem.Calls PyProof.Rows
end Mine
namespace Mine
end Mine
namespace Mine
section
variable {qp lc pd x : Nat} {out : List Nat}
end
end Mine
namespace Mine
open PySem PySem.W PySem.Spec PySem.Calls PyProof.Rows
section
variable {prog : Program} {w : World} {A : Around} {E : Value → Shared → Prop} {s : Shared} {h₀ : Heap} {L : Addr} {m : Str → Option Value} {news : List (Addr × Obj)}
theorem len_Z {l : Addr} {vs : List Value} {nn : Nat} {Q : Value → Shared → Prop} (N : News h₀ L s.heap news) (hl : (l, listOf vs.toArray nn) ∈ news) (h : ∀ t' k, Q (.int (vs.length : Int) t') { s with toks := k }) (hz : vs.length ≤ 1000000) :
    wpAny (model prog w) A (call (.builtin "len") [.ref l]) Q E s := by
  have e : vs.toArray.size = vs.length := by simp
  refine call_len_list (l := l) (items := vs.toArray) ⟨_, (N _ hl).1, rfl, nn, rfl⟩ (by rw [e]; omega) ?_
  first
    | (rw [e]; exact h _ _)
    | (simp only [e]; exact h _ _)
end
end Mine
namespace Mine
open PySem PySem.W PySem.Spec PySem.Calls PyProof.Rows
/-- a call of a def of the text; Bad says how an exception stands that leaves it -/
def Spec3 (prog : Program) (w : World) (K : Frag) (p : Program) (loose : List Str) (mean : ExcName → Option Value) (mg mb : Str → Option Value) (f : Addr) (pos : List Value) (kw : List (Str × Value)) (d u : Nat)
    (Pre : List (Addr × Obj) → Prop) (Out : List (Addr × Obj) → Value → Prop) (Bad : Heap → Heap → List Env → Addr → List (Addr × Obj) → Heap → Prop) : Prop :=
  ∀ (dp un : Nat) (gd : Option (List Code)) (cn : Str) (cs : Scope) (a : Addr) (ccd : Value) (cl : List (Str × Addr)) (outer : List Env) (A₀ : Around) (base h₀ : Heap) (L : Addr) (m : Str → Option Value) (news : List (Addr × Obj)) (s : Shared)
    (Q E : Value → Shared → Prop),
    Below A₀ base outer h₀ → Fr h₀ L s.heap m → K.In h₀ → News h₀ L s.heap news → Top p loose mean mg mb h₀ → cs.kind = .function → dp + d < recursionLimit → un + u < cLine → Pre news →
    (∀ r tl h' tk', Fr h₀ L h' m → News h₀ L h' (tl ++ news) → (∀ q ∈ news, ∀ p ∈ tl, q.1 < p.1) → Out tl r → Q r { s with heap := h', toks := tk' }) →
    (∀ e g h' tk', Bad base g (envX cn cs L a ccd cl :: outer) e news h' → Fr h₀ L g m → g.UpToSlots h' → E (.ref e) { s with heap := h', toks := tk' }) →
    wpAny (model prog w) (ktrTop dp un gd cn cs L a ccd cl outer) (call (.ref f) pos kw) Q E s
theorem Spec3.use {prog : Program} {w : World} {K : Frag} {p : Program} {loose : List Str} {mean : ExcName → Option Value} {mg mb : Str → Option Value} {f : Addr} {pos : List Value} {kw : List (Str × Value)} {d u : Nat}
    {Pre : List (Addr × Obj) → Prop} {Out : List (Addr × Obj) → Value → Prop} {Bad : Heap → Heap → List Env → Addr → List (Addr × Obj) → Heap → Prop} (C : Spec3 prog w K p loose mean mg mb f pos kw d u Pre Out Bad)
    {dp un : Nat} {gd : Option (List Code)} {cn : Str} {cs : Scope} {a : Addr} {ccd : Value} {cl : List (Str × Addr)} {outer : List Env} {A₀ : Around} {base h₀ : Heap} {L : Addr} {m : Str → Option Value} {news : List (Addr × Obj)} {s : Shared}
    {Q E : Value → Shared → Prop} (B : Below A₀ base outer h₀) (F : Fr h₀ L s.heap m) (X : K.In h₀) (N : News h₀ L s.heap news) (T : Top p loose mean mg mb h₀) (hk : cs.kind = .function) (hd : dp + d < recursionLimit) (hu : un + u < cLine) (hp : Pre news)
    (ret : ∀ r tl h' tk', Fr h₀ L h' m → News h₀ L h' (tl ++ news) → (∀ q ∈ news, ∀ p ∈ tl, q.1 < p.1) → Out tl r → Q r { s with heap := h', toks := tk' })
    (bad : ∀ e g h' tk', Bad base g (envX cn cs L a ccd cl :: outer) e news h' → Fr h₀ L g m → g.UpToSlots h' → E (.ref e) { s with heap := h', toks := tk' }) :
    wpAny (model prog w) (ktrTop dp un gd cn cs L a ccd cl outer) (call (.ref f) pos kw) Q E s :=
  C dp un gd cn cs a ccd cl outer A₀ base h₀ L m news s Q E B F X N T hk hd hu hp ret bad
end Mine
namespace Mine
open PySem PySem.W PySem.Spec PySem.Calls PyProof.Rows
namespace SE
open Builtin Builtin.Str Builtin._codecs
end SE
section
variable {prog : Program} {w : World} {A : Around} {E : Value → Shared → Prop} {s : Shared} {Q : Value → Shared → Prop} {x : Str} {t t1 : Tok}
end
end Mine
namespace Mine
open PySem PySem.W PySem.Spec PySem.Calls PyProof.Rows
end Mine

namespace Mine
open PySem PySem.W PySem.Spec PySem.Calls PyProof.Rows
section
variable {prog : Program} {w : World} {A : Around} {E : Value → Shared → Prop} {Q : Flow → Shared → Prop} {s : Shared} {env : Env} {h₀ : Heap} {L : Addr}
/-- a for's turn ends; some rows are kept as they are -/
def FkEnd {σ : Type} (h₀ : Heap) (L : Addr) (s : Shared) (keep : List (Addr × Obj)) (Led : σ → List (Addr × Obj)) (ps : σ → List (Str × Value)) (P : σ → Prop) (own : List (Addr × Obj)) (s₂ : Shared) : Prop :=
  ∃ (c' : σ) (h' : Heap) (tk : Nat) (m' : Str → Option Value) (news' : List (Addr × Obj)), s₂ = { s with heap := h', toks := tk } ∧ Fr h₀ L h' m' ∧ News h₀ L h' news' ∧ (∀ p ∈ Led c', p ∈ news') ∧ (∀ p ∈ keep, p ∈ news') ∧ (∀ p ∈ own, p ∈ news') ∧ OwnOff own ((Led c').map (·.1)) ∧ HasAll m' (ps c') ∧ P c'
def FkPost {σ : Type} (h₀ : Heap) (L : Addr) (s : Shared) (keep : List (Addr × Obj)) (Led : σ → List (Addr × Obj)) (ps : σ → List (Str × Value)) (P : σ → Prop) (own : List (Addr × Obj)) (Q : Flow → Shared → Prop) (f : Flow) (s₂ : Shared) : Prop :=
  match f with
  | .ret v => Q (.ret v) s₂
  | .brk => Q .next s₂
  | _ => FkEnd h₀ L s keep Led ps P own s₂
theorem fkEnd {σ : Type} {keep : List (Addr × Obj)} {Led : σ → List (Addr × Obj)} {ps : σ → List (Str × Value)} {P : σ → Prop} {own : List (Addr × Obj)} {h' : Heap} {tk : Nat} {m' : Str → Option Value} {news' : List (Addr × Obj)} (F : Fr h₀ L h' m') (N : News h₀ L h' news') (c' : σ)
    (hn : ∀ p ∈ Led c', p ∈ news') (hkp : ∀ p ∈ keep, p ∈ news') (ho : ∀ p ∈ own, p ∈ news') (ha : OwnOff own ((Led c').map (·.1))) (hk : HasAll m' (ps c')) (hp : P c') : FkEnd h₀ L s keep Led ps P own { s with heap := h', toks := tk } := ⟨c', h', tk, m', news', rfl, F, N, hn, hkp, ho, ha, hk, hp⟩
theorem for_K {σ : Type} {x : Str} {body : List Stmt} {I : Addr} {fp wr : List Addr} {n : Nat} {Pv : Nat → Value → Prop} {St : Nat → Heap → Prop} {m₀ : Str → Option Value} (keep : List (Addr × Obj)) (Led : σ → List (Addr × Obj)) (ps : σ → List (Str × Value)) (P : Nat → σ → Prop) (c₀ : σ)
    (W : Walks prog w A I fp wr n Pv St) (hLf : env.locals ∉ fp) (hwr : ∀ b ∈ wr, h₀.get? b = none) (hlive : ∀ i h, St i h → ∀ b ∈ fp, ∃ o, h.get? b = some o)
    (hst : St 0 s.heap) (F : Fr h₀ env.locals s.heap m₀) (N : News h₀ env.locals s.heap (Led c₀ ++ keep)) (hfp : ∀ q ∈ Led c₀, q.1 ∉ fp) (hkw : ∀ q ∈ keep, q.1 ∉ wr) (hk : HasAll m₀ (ps c₀)) (hp : P 0 c₀)
    (turn : ∀ i v (c : σ) (u : Str → Option Value) h tk own, i < n → Pv i v → P i c → OwnOff own ((Led c).map (·.1)) → (∀ b ∈ fp, h₀.get? b = none → ∀ o, h.get? b = some o → (b, o) ∈ own) → St (i + 1) h →
      Fr h₀ env.locals h (fun y => if y = x then some v else kstB u (ps c) y) → News h₀ env.locals h (Led c ++ (keep ++ own)) →
      wpAny (model prog w) A (execs body env) (FkPost h₀ env.locals { s with heap := h, toks := tk } keep Led ps (P (i + 1)) own Q) E { s with heap := h, toks := tk })
    (done : ∀ (c : σ) (u : Str → Option Value) h tk, P n c → Fr h₀ env.locals h (kstB u (ps c)) → News h₀ env.locals h (Led c ++ keep) → Q .next { s with heap := h, toks := tk }) :
    LoopAtV prog w A h₀ env x body Q E (.ref I) s := by
  refine ⟨I, fp, wr, n, Pv, St, m₀, Led c₀ ++ keep, fun i m nx => ∃ c : σ, nx = Led c ++ keep ∧ HasAll m (ps c) ∧ P i c ∧ ∀ q ∈ Led c, q.1 ∉ fp, rfl, W, hLf, hwr, fun p hp hm => (List.mem_append.mp hp).elim (fun h => hfp p h (W.sub _ hm)) (fun h => hkw p h hm), hst, F, N, ⟨c₀, rfl, hk, hp, hfp⟩, ?_, ?_⟩
  · rintro i v m₁ news₁ s₁ own ⟨hh', tk', rfl⟩ hin hP ⟨c, rfl, h1, hp', hoff'⟩ hoff hown hget hall hst' F₁ N₁
    have hsep : OwnOff own ((Led c).map (·.1)) := by
      intro p hp b hb e
      obtain ⟨q, hq, rfl⟩ := List.mem_map.mp hb
      exact hoff' q hq (e ▸ hown p hp)
    rw [hasAll_x h1] at F₁
    have N₂ : News h₀ env.locals hh' (Led c ++ (keep ++ own)) := fun p hp => N₁ p (by
      simp only [List.mem_append] at hp ⊢
      rcases hp with h | h | h
      · exact .inr (.inl h)
      · exact .inr (.inr h)
      · exact .inl h)
    refine wpAny_mono (turn i v c m₁ hh' tk' own hin hP hp' hsep hall hst' F₁ N₂) (fun f s₂ p => ?_) fun _ _ e => e
    have fin : FkEnd h₀ env.locals { s with heap := hh', toks := tk' } keep Led ps (P (i + 1)) own s₂ → LoopStepU h₀ env.locals wr own (fun m nx => ∃ c : σ, nx = Led c ++ keep ∧ HasAll m (ps c) ∧ P (i + 1) c ∧ ∀ q ∈ Led c, q.1 ∉ fp) { s with heap := hh', toks := tk' } .next s₂ := by
      rintro ⟨c', h', tk, m', news', e, F', N', hn, hkp, ho, ha, hk', hp''⟩
      have hfp' : ∀ q ∈ Led c', q.1 ∉ fp := by
        intro q hq hm
        obtain ⟨o, ho'⟩ := hlive _ _ hst' _ hm
        exact ha _ (hall _ hm (N' _ (hn q hq)).2.2 o ho') _ (List.mem_map_of_mem hq) rfl
      exact ⟨rfl, h', tk, m', Led c' ++ keep, e, F', fun p hp => N' p (by
        simp only [List.mem_append] at hp
        rcases hp with h | h | h
        · exact ho p h
        · exact hn p h
        · exact hkp p h), fun p hp hq => (List.mem_append.mp hp).elim (fun h => hfp' p h (W.sub _ hq)) (fun h => hkw p h hq), c', rfl, hk', hp'', hfp'⟩
    cases f with
    | ret v => exact .ret p
    | brk => exact .brk p
    | next => exact .next (fin p)
    | cont => exact .cont (fin p)
  · rintro h' tk m' news' F' N' _ ⟨c, rfl, h1, hp', _⟩
    rw [← hasAll_eq h1] at F'
    exact done c m' h' tk hp' F' N'
/-- a loop over a list of the ledger, which no turn changes and which stays on the ledger -/
theorem for_listK {σ : Type} {x : Str} {body : List Stmt} {l : Addr} {vs : List Value} {nn : Nat} {m₀ : Str → Option Value} {news₀ : List (Addr × Obj)} (keep : List (Addr × Obj)) (Led : σ → List (Addr × Obj)) (ps : σ → List (Str × Value)) (P : Nat → σ → Prop) (c₀ : σ)
    (hh : A.handled = none) (hl : (l, listOf vs.toArray nn) ∈ news₀) (hoffl : ∀ p ∈ Led c₀, p.1 ≠ l) (F : Fr h₀ env.locals s.heap m₀) (N : News h₀ env.locals s.heap news₀) (hL : ∀ p ∈ Led c₀, p ∈ news₀) (hkp : ∀ p ∈ keep, p ∈ news₀) (hk : HasAll m₀ (ps c₀)) (hp : P 0 c₀)
    (turn : ∀ i v (c : σ) (u : Str → Option Value) h tk own, i < vs.length → vs[i]? = some v → P i c → OwnOff own ((Led c).map (·.1)) → (l, listOf vs.toArray nn) ∈ own →
      Fr h₀ env.locals h (fun y => if y = x then some v else kstB u (ps c) y) → News h₀ env.locals h (Led c ++ (keep ++ own)) →
      wpAny (model prog w) A (execs body env) (FkPost h₀ env.locals { s with heap := h, toks := tk } keep Led ps (fun c => P (i + 1) c) own Q) E { s with heap := h, toks := tk })
    (done : ∀ (c : σ) (u : Str → Option Value) h tk, P vs.length c → Fr h₀ env.locals h (kstB u (ps c)) → News h₀ env.locals h (Led c ++ keep) → Q .next { s with heap := h, toks := tk }) :
    wpAny (model prog w) A (pyIter (.ref l)) (fun it s₂ => LoopAtV prog w A h₀ env x body Q E it s₂) E s := by
  have hln := N _ hl
  have hls : s.heap.IsList l vs.toArray := ⟨_, hln.1, rfl, nn, rfl⟩
  have hne : l ≠ s.heap.objs.size := Nat.ne_of_lt (Heap.lt_size hln.1)
  have N' : News h₀ env.locals s.heap (Led c₀ ++ keep) := fun p hp => N p ((List.mem_append.mp hp).elim (hL p) (hkp p))
  refine wpAny_pyIter_list hls ?_
  have W0 := Walks.list (prog := prog) (w := w) hh s.heap.objs.size l hne vs.toArray
  have W : Walks prog w A s.heap.objs.size [s.heap.objs.size, l] [s.heap.objs.size] vs.length (fun i v => vs.toArray[i]? = some v) (fun i h => (h.IsListIter s.heap.objs.size l i ∧ h.IsList l vs.toArray) ∧ h.get? l = some (listOf vs.toArray nn)) :=
    { sub := W0.sub
      frame := fun i h h' st hk => ⟨W0.frame i h h' st.1 hk, hk l (by simp) _ st.2⟩
      item := fun i s Q E hi st hQ => W0.item i s Q E (by simpa using hi) st.1 fun v h' tk hv st' hk => hQ v h' tk hv ⟨st', hk l _ (by simp; exact hne) st.2⟩ hk
      done := fun s Q E st hQ => W0.done s Q E (by simpa using st.1) hQ
      self := fun i s Q E st hQ => W0.self i s Q E st.1 hQ }
  refine for_K keep Led ps P c₀ W ?_ ?_ ?_ ⟨⟨⟨_, Heap.get?_push_size _ rfl, rfl, rfl⟩, hls.at fun o e => Heap.get?_push_of_some _ e⟩, Heap.get?_push_of_some _ hln.1⟩ (F.push _) (fun p hp => ⟨Heap.get?_push_of_some _ (N' p hp).1, (N' p hp).2⟩) ?_ ?_ hk hp ?_ ?_
  · intro hm
    rcases List.mem_cons.mp hm with e | hm
    · exact absurd F.ns.lt (e ▸ Nat.lt_irrefl _)
    · exact hln.2.1 (List.mem_singleton.mp hm).symm
  · intro b hb
    rw [List.mem_singleton.mp hb]
    exact next_is_new F
  · rintro i h ⟨⟨⟨o1, e1, _⟩, ⟨o2, e2, _⟩⟩, _⟩ b hb
    rcases List.mem_cons.mp hb with rfl | hb
    · exact ⟨o1, e1⟩
    · rw [List.mem_singleton.mp hb]; exact ⟨o2, e2⟩
  · intro q hq hm
    rcases List.mem_cons.mp hm with e | hm
    · exact absurd (Heap.lt_size (N' q (List.mem_append_left _ hq)).1) (by rw [e]; exact Nat.lt_irrefl _)
    · exact hoffl q hq (List.mem_singleton.mp hm)
  · intro q hq hm
    exact absurd (Heap.lt_size (N' q (List.mem_append_right _ hq)).1) (by rw [List.mem_singleton.mp hm]; exact Nat.lt_irrefl _)
  · intro i v c u h tk own hi hv hp' hoff hall hst F₁ N₁
    exact turn i v c u h tk own hi (by simpa using hv) hp' hoff (hall l (by simp) hln.2.2 _ hst.2) F₁ N₁
  · exact done
end
end Mine
namespace Mine
open PySem PySem.W PySem.Spec PySem.Calls PyProof.Rows
section
variable {prog : Program} {w : World} {A : Around} {E : Value → Shared → Prop} {s : Shared} {h₀ : Heap} {L D : Addr} {m : Str → Option Value} {news news' : List (Addr × Obj)} {n : Nat} {vs : List Value} {y : Value} {u : Tok} {Q : Value → Shared → Prop}
end
end Mine

namespace Mine
open PySem PySem.W PySem.Spec PySem.Calls PyProof.Rows
section
variable {prog : Program} {w : World} {A : Around} {E : Value → Shared → Prop} {s : Shared} {Q : Value → Shared → Prop}
end
end Mine

namespace Mine
open PySem PySem.W PySem.Spec PySem.Calls PyProof.Rows
section
variable {prog : Program} {w : World} {A : Around} {E : Value → Shared → Prop} {Q : Flow → Shared → Prop} {s : Shared} {env : Env} {h₀ : Heap} {L : Addr}
end
section
variable {us : List Value} {V : List Nat} {x : Str} {i nn : Nat} {t u : Tok} {k : Int}
end
section
variable {x : Str} {V : List Nat} {n : Int}
end
section
variable {prog : Program} {w : World} {A : Around} {E : Value → Shared → Prop} {s : Shared} {h₀ : Heap} {L : Addr} {m : Str → Option Value} {news : List (Addr × Obj)}
end
end Mine

namespace Mine
open PySem PySem.W PySem.Spec PySem.Calls PyProof.Rows
/-- what a sign stands for among the figures -/
def figV (fig : List Nat) (c : Nat) : Nat := fig.findIdx (· == c)
/-- the law's reading of the groups -/
def grpF (fig : List Nat) : Option Nat → List Nat → Option Nat
  | none, _ => none
  | some n, g => if g = [] ∨ ∃ c ∈ g, c ∉ fig then none else some (g.foldl (fun n c => n * fig.length + figV fig c) n)
def lawF (fig : List Nat) (gs : List (List Nat)) : Option Nat := gs.foldl (grpF fig) (some 0)
end Mine

namespace Mine
open PySem PySem.W PySem.Spec PySem.Calls PyProof.Rows LCg
section
variable {prog : Program} {w : World} {A : Around} {E : Value → Shared → Prop} {s : Shared} {h₀ : Heap} {L : Addr} {m : Str → Option Value} {env : Env} {news : List (Addr × Obj)}
def Kept (h₀ : Heap) (L : Addr) (m : Str → Option Value) (s : Shared) (news : List (Addr × Obj)) (s' : Shared) : Prop := ∃ h' tk', s' = { s with heap := h', toks := tk' } ∧ Fr h₀ L h' m ∧ News h₀ L h' news
/-- the test of a comprehension has been taken -/
def Tested (h₀ : Heap) (L : Addr) (m : Str → Option Value) (s : Shared) (news : List (Addr × Obj)) (b : Bool) (ok : Bool) (s' : Shared) : Prop := ok = b ∧ Kept h₀ L m s news s'
theorem tested {b ok : Bool} {h' : Heap} {tk' : Nat} (F : Fr h₀ L h' m) (N : News h₀ L h' news) (e : ok = b) : Tested h₀ L m s news b ok { s with heap := h', toks := tk' } := ⟨e, h', tk', rfl, F, N⟩
theorem compRest_all {ct : Expr} {x : Str} {px : Pos} {scope : Scope} {cl : List (Str × Addr)} {s₂ : Shared} {S : List (Addr × Obj) → Prop} {P : Nat → Value → Prop} {Fin : List Value → List (Addr × Obj) → Prop} {n : Nat} (test : Nat → Bool)
    (hkk : ∀ C, (compEnvC scope cl C env).scope.kind = .function) (hl : ∀ C, (compEnvC scope cl C env).kindOf x = some .local) (hd : (x == ("__debug__" : Str)) = false)
    (Acc : Nat → List Value → Prop) (yes : ∀ i v ys, i < n → P i v → test i = true → Acc i ys → Acc (i + 1) (ys ++ [v])) (no : ∀ i v ys, i < n → P i v → test i = false → Acc i ys → Acc (i + 1) ys) (hS : S news)
    (turn : ∀ i v I oI C oC D ys m₂ h tk (E' : Value → Shared → Prop), i < n → P i v → NsObj oC m₂ → m₂ x = some v → Fr h₀ L h m → News h₀ L h ((I, oI) :: (C, oC) :: (D, lst ys) :: news) → Off3 I C D news → ((@Ne Nat I C) ∧ (@Ne Nat I D) ∧ (@Ne Nat C D)) →
      wpAny (model prog w) A (isTrue ct (compEnvC scope cl C env) (eval ct (compEnvC scope cl C env))) (Tested h₀ L m { s₂ with heap := h, toks := tk } ((I, oI) :: (C, oC) :: (D, lst ys) :: news) (test i)) E' { s₂ with heap := h, toks := tk })
    (fin : ∀ ys, Acc n ys → Fin ys news) : ∀ k i ys, i + k = n → Acc i ys → LCt.CompRestT prog w A h₀ L m env ct (.Name x px) x scope cl s₂ S P Fin k i ys news := by
  intro k
  induction k with
  | zero => intro i ys hi ha; exact LCt.CompRestT.zero (fin ys (by have : i = n := by omega
                                                                   rw [this] at ha; exact ha))
  | succ k ih =>
    intro i ys hi ha
    refine LCt.CompRestT.succ ?_
    intro v I oI C oC D m₂ h tk E' hP hC hm F N off hne
    refine wpAny_mono (turn i v I oI C oC D ys m₂ h tk E' (by omega) hP hC hm F N off hne) ?_ (fun _ _ e => e)
    rintro ok s' ⟨rfl, h', tk', rfl, F', N'⟩
    cases ht : test i with
    | true =>
      simp only [if_true]
      refine LCgL.ld_own N' (List.mem_cons_of_mem _ (List.Mem.head _)) hC hm ?_ (hkk C) (hl C) hd
      exact ⟨h', tk', news, rfl, F', N', off, hS, ih (i + 1) (ys ++ [v]) (by omega) (yes i v ys (by omega) hP ht ha)⟩
    | false =>
      simp only [Bool.false_eq_true, if_false]
      exact ⟨h', tk', news, rfl, F', N', off, hS, ih (i + 1) ys (by omega) (no i v ys (by omega) hP ht ha)⟩
theorem comp_post {Fin : List Value → List (Addr × Obj) → Prop} {Q : Value → Shared → Prop} {s₂ : Shared} (hF : ∀ ys news', Fin ys news' → LCg.FinE h₀ L m s₂ Q ys news') :
    ∀ D C h tk m' ys news', Fr h₀ L h m → News h₀ L h ((D, lst ys) :: news') → Off1 D news' → h.Ns C m' → h₀.get? C = none → h₀.get? D = none → C ≠ L → D ≠ L → C ≠ D → (∀ p ∈ news', p.1 ≠ C) → Fin ys news' →
      compPost (model prog w) A E none Q (.ref D) C (.ok .next) { s₂ with heap := h, toks := tk } := by
  intro D C h tk m' ys news' F' N' o1 hn hC₀ hD₀ hCL hDL hCD offC fin
  refine ⟨m', hn, fun h'' hs'' => hF _ _ fin D h'' tk (F'.change hs'' hCL hC₀) (fun p hp => ?_) o1⟩
  refine ⟨hs''.extBut _ _ ?_ (N' p hp).1, (N' p hp).2⟩
  rcases List.mem_cons.mp hp with rfl | hp
  · exact Ne.symm hCD
  · exact offC p hp
theorem off1_mem {D : Addr} : ∀ {l : List (Addr × Obj)}, Off1 D l → ∀ p ∈ l, p.1 ≠ D
  | [], _, _, h => nomatch h
  | _ :: _, x, p, hp => by
    rcases List.mem_cons.mp hp with rfl | hp
    · exact x.1
    · exact off1_mem x.2 p hp
def sing (k : Nat) : Str := ⟨#[k]⟩
theorem strs_snoc {vs : List Value} {ys : List Str} {y : Str} {t : Tok} (h : StrsAre vs ys) : StrsAre (vs ++ [.str y t]) (ys ++ [y]) := by
  induction h with
  | nil => exact .cons _ _ .nil
  | cons z u _ ih => exact .cons z u ih
/-- a comprehension over a text, that keeps the signs which pass a test -/
theorem comp_str {ct iter : Expr} {x : Str} {px px' : Pos} {scope : Scope} {cl : List (Str × Addr)} {pos : Pos} {Q : Value → Shared → Prop} {xt : Str} {tx : Tok} (test : Nat → Bool) (F₀ : Fr h₀ L s.heap m)
    (hclos : closureFor scope env = pure cl) (hcell : ∀ y ∈ scope.names, y.2 ≠ .cell) (hkind : scope.kind = .function)
    (hnames : ∀ y ∈ scope.names, y.2 = .local → scope.names.lookup y.1 = some .local) (hx : scope.names.lookup x = some .local)
    (hkk : ∀ C, (compEnvC scope cl C env).scope.kind = .function) (hl : ∀ C, (compEnvC scope cl C env).kindOf x = some .local) (hd : (x == ("__debug__" : Str)) = false)
    (hh : A.handled = none) (N₀ : News h₀ L s.heap news) (hsz : xt.length ≤ sizeLine)
    (hit : ∀ Q' : Value → Shared → Prop, Q' (.str xt tx) s → wpAny (model prog w) A (eval iter env) Q' E s)
    (turn : ∀ k t I oI C oC D ys m₂ h tk (E' : Value → Shared → Prop), k ∈ xt.cps.toList → NsObj oC m₂ → m₂ x = some (.str ⟨#[k]⟩ t) → Fr h₀ L h m → News h₀ L h ((I, oI) :: (C, oC) :: (D, lst ys) :: news) → Off3 I C D news → ((@Ne Nat I C) ∧ (@Ne Nat I D) ∧ (@Ne Nat C D)) →
      wpAny (model prog w) A (isTrue ct (compEnvC scope cl C env) (eval ct (compEnvC scope cl C env))) (Tested h₀ L m { s with heap := h, toks := tk } ((I, oI) :: (C, oC) :: (D, lst ys) :: news) (test k)) E' { s with heap := h, toks := tk })
    (fin : ∀ D ys h tk, StrsAre ys ((xt.cps.toList.filter test).map sing) → Fr h₀ L h m → News h₀ L h ((D, listOf ys.toArray ys.length) :: news) → (∀ p ∈ news, p.1 ≠ D) → Q (.ref D) { s with heap := h, toks := tk })
    (hs : ∀ x, foldedSetIterable iter env x = pure x := by intro _; rfl) :
    wpAny (model prog w) A (eval (.ListComp (.Name x px') [⟨.Name x px, iter, [ct], 0⟩] scope pos) env) Q E s := by
  rw [eval_ListComp]
  refine wpAny_comprehension_free (use := none) rfl hs hclos hkind hnames (hit _ ?_)
  have main : ∀ (o : Obj) (T : String), Walks prog w A s.heap.objs.size [s.heap.objs.size] [s.heap.objs.size] xt.cps.size (SignAt xt) (fun i h => h.IsStrIter s.heap.objs.size T xt tx i) → (s.heap.push o).IsStrIter s.heap.objs.size T xt tx 0 →
      wpAny (model prog w) A (newList []) (fun acc s₃ => wpAny (model prog w) A (newFunctionEnv scope env.globals cl [] env.qual none .none (some env)) (fun cenv s₄ =>
      codeAny (model prog w) A (.compStart (.ListComp (.Name x px') [⟨.Name x px, iter, [ct], 0⟩] scope pos) 0 (.ref s.heap.objs.size) acc { cenv with scope := relabel scope env }) (compPost (model prog w) A E none Q acc cenv.locals) s₄) E s₃) E { s with heap := s.heap.push o } := by
    intro o T W hst
    have hsz' : xt.cps.size ≤ sizeLine := hsz
    refine LCt.block_T (S := fun _ => True) (Fin := fun ys news' => news' = news ∧ StrsAre ys ((xt.cps.toList.filter test).map sing)) W hsz' (fun i h st => ⟨_, st.choose_spec.1⟩) ?_ hcell hkind hx hst ?_ (F₀.push _) (fun p hp => ⟨Heap.get?_push_of_some _ (N₀ p hp).1, (N₀ p hp).2⟩)
      (Nat.ne_of_lt F₀.ns.lt) (next_is_new F₀) (fun p hp => Nat.ne_of_lt (Heap.lt_size (N₀ p hp).1)) trivial ?_ ?_
    · rintro i h h' o' nw ⟨o2, e, r⟩ e1 e2 _ _ _
      rw [e1] at e; cases e
      exact ⟨_, e2, r⟩
    · intro b hb
      rw [List.mem_singleton.mp hb]
      show s.heap.objs.size < (s.heap.push _).objs.size
      rw [Heap.size_push]; exact Nat.lt_succ_self _
    · refine compRest_all (fun i => match xt.cps.toList[i]? with | some k => test k | none => false) hkk hl hd (fun i ys => StrsAre ys (((xt.cps.toList.take i).filter test).map sing)) ?_ ?_ trivial ?_ ?_ _ 0 [] (Nat.zero_add _) .nil
      · rintro i v ys hi ⟨k, t, hk, rfl⟩ ht ha
        have hk2 : xt.cps.toList[i]? = some k := by rw [Array.getElem?_toList]; exact hk
        simp only [hk2] at ht
        rw [List.take_add_one, hk2, List.filter_append, List.map_append]
        simp only [Option.toList, List.filter_cons, ht, if_true, List.filter_nil, List.map_cons, List.map_nil]
        exact strs_snoc ha
      · rintro i v ys hi ⟨k, t, hk, rfl⟩ ht ha
        have hk2 : xt.cps.toList[i]? = some k := by rw [Array.getElem?_toList]; exact hk
        simp only [hk2] at ht
        rw [List.take_add_one, hk2, List.filter_append, List.map_append]
        simp only [Option.toList, List.filter_cons, ht, Bool.false_eq_true, if_false, List.filter_nil, List.map_nil, List.append_nil]
        exact ha
      · rintro i v I oI C oC D ys m₂ h tk E' hi ⟨k, t, hk, rfl⟩ hC hm F' N' off hne
        have hk2 : xt.cps.toList[i]? = some k := by rw [Array.getElem?_toList]; exact hk
        simp only [hk2]
        exact turn k t I oI C oC D ys m₂ h tk E' (List.mem_of_getElem? hk2) hC hm F' N' off hne
      · intro ys ha
        rw [List.take_of_length_le (by simp)] at ha
        exact ⟨rfl, ha⟩
    · refine comp_post (s₂ := { s with heap := s.heap.push o }) ?_
      rintro ys news' ⟨rfl, ha⟩ D h tk F' N' o1
      refine fin D ys h tk ha F' N' ?_
      exact off1_mem o1
  cases ha : xt.cps.all (· < 128)
  · exact wpAny_pyIter_wide ha (main _ _ (Walks.strWide hh _ xt tx) ⟨_, Heap.get?_push_size _ rfl, rfl, rfl⟩)
  · exact wpAny_pyIter_ascii ha (main _ _ (Walks.strAscii hh _ xt tx) ⟨_, Heap.get?_push_size _ rfl, rfl, rfl⟩)
/-- a comprehension over a list of the ledger, of which no item passes the test -/
theorem comp_none {ct iter : Expr} {x : Str} {px px' : Pos} {scope : Scope} {cl : List (Str × Addr)} {pos : Pos} {Q : Value → Shared → Prop} {ax : Addr} {vs : List Value} {kk : Nat} (F₀ : Fr h₀ L s.heap m)
    (hclos : closureFor scope env = pure cl) (hcell : ∀ y ∈ scope.names, y.2 ≠ .cell) (hkind : scope.kind = .function)
    (hnames : ∀ y ∈ scope.names, y.2 = .local → scope.names.lookup y.1 = some .local) (hx : scope.names.lookup x = some .local)
    (hkk : ∀ C, (compEnvC scope cl C env).scope.kind = .function) (hl : ∀ C, (compEnvC scope cl C env).kindOf x = some .local) (hd : (x == ("__debug__" : Str)) = false)
    (hh : A.handled = none) (N₀ : News h₀ L s.heap news) (hm : (ax, listOf vs.toArray kk) ∈ news) (hsz : vs.length ≤ sizeLine)
    (hit : ∀ Q' : Value → Shared → Prop, (∀ h' tk', Fr h₀ L h' m → News h₀ L h' news → Q' (.ref ax) { s with heap := h', toks := tk' }) → wpAny (model prog w) A (eval iter env) Q' E s)
    (turn : ∀ (i : Nat) v I oI C oC D ys m₂ h tk (E' : Value → Shared → Prop), vs[i]? = some v → NsObj oC m₂ → m₂ x = some v → Fr h₀ L h m → News h₀ L h ((I, oI) :: (C, oC) :: (D, lst ys) :: news) → Off3 I C D news → ((@Ne Nat I C) ∧ (@Ne Nat I D) ∧ (@Ne Nat C D)) →
      wpAny (model prog w) A (isTrue ct (compEnvC scope cl C env) (eval ct (compEnvC scope cl C env))) (Tested h₀ L m { s with heap := h, toks := tk } ((I, oI) :: (C, oC) :: (D, lst ys) :: news) false) E' { s with heap := h, toks := tk })
    (fin : ∀ D h tk, Fr h₀ L h m → News h₀ L h ((D, listOf #[] 0) :: news) → (∀ p ∈ news, p.1 ≠ D) → Q (.ref D) { s with heap := h, toks := tk })
    (hs : ∀ x, foldedSetIterable iter env x = pure x := by intro _; rfl) :
    wpAny (model prog w) A (eval (.ListComp (.Name x px') [⟨.Name x px, iter, [ct], 0⟩] scope pos) env) Q E s := by
  refine LCt.ListComp_T F₀ hclos hcell hkind hnames hx (hit _ fun h' tk' F' N' => ?_) hs
  refine LCt.CompSrcT.ledger hh F' N' hm (by simpa using hsz) fun g => ?_
  refine compRest_all (fun _ => false) hkk hl hd (fun _ ys => ys = []) (fun i v ys _ _ ht => by cases ht) (fun i v ys _ _ _ ha => ha) (.inr ⟨_, hm, rfl, _, rfl⟩) ?_ ?_ _ 0 [] (Nat.zero_add _) rfl
  · intro i v I oI C oC D ys m₂ h tk E' hi hv hC hmm F2 N2 off hne
    exact turn i v I oI C oC D ys m₂ h tk E' (by simpa using hv) hC hmm F2 N2 off hne
  · rintro ys rfl D h tk F2 N2 o1
    exact fin D h tk F2 N2 (off1_mem o1)
theorem datAll_strs {vs : List Value} {ys : List Str} (h : StrsAre vs ys) : DatAll [] vs (ys.map Dat.str) := by
  induction h with
  | nil => exact .nil
  | cons y t _ ih => exact .cons (.str y t) ih
theorem ne_nil_strs {a b : Addr} {vs : List Value} {ys : List Str} {ka kb : Nat} {Q : Value → Shared → Prop} (N : News h₀ L s.heap news) (ma : (a, listOf vs.toArray ka) ∈ news) (hv : StrsAre vs ys) (mb : (b, listOf #[] kb) ∈ news)
    (ok : ∀ y ∈ ys, PyData.strOk y = true) (hu : A.units + 64 < cLine) (h : Q (.bool (!ys.isEmpty)) s) : wpAny (model prog w) A (compareOp .NotEq (.ref a) (.ref b)) Q E s := by
  refine kqd_ne N ma rfl rfl (datAll_strs hv) (fun _ h => nomatch h) mb rfl (xs := vs) (ys := []) (n₂ := []) rfl (es := []) .nil (fun _ h => nomatch h) ?_ (fun _ h => nomatch h) hu ?_
  · intro d hd
    obtain ⟨y, hy, rfl⟩ := List.mem_map.mp hd
    exact ok y hy
  · have e : ∀ inst : Decidable (ys.map Dat.str = []), @decide _ inst = ys.isEmpty := by
      intro inst
      cases ys <;> simp
    rw [e]
    exact h
theorem ne_nil_no {a b : Addr} {vs : List Value} {ys : List Str} {ka kb : Nat} {Q : Value → Shared → Prop} (N : News h₀ L s.heap news) (ma : (a, listOf vs.toArray ka) ∈ news) (hv : StrsAre vs ys) (mb : (b, listOf #[] kb) ∈ news)
    (e : ys = []) (hu : A.units + 64 < cLine) (h : Q (.bool false) s) : wpAny (model prog w) A (compareOp .NotEq (.ref a) (.ref b)) Q E s :=
  ne_nil_strs N ma hv mb (by subst e; exact fun _ h => nomatch h) hu (by subst e; exact h)
theorem ne_nil_yes {a b : Addr} {vs : List Value} {ys : List Str} {ka kb : Nat} {Q : Value → Shared → Prop} (N : News h₀ L s.heap news) (ma : (a, listOf vs.toArray ka) ∈ news) (hv : StrsAre vs ys) (mb : (b, listOf #[] kb) ∈ news)
    (e : ys ≠ []) (ok : ∀ y ∈ ys, PyData.strOk y = true) (hu : A.units + 64 < cLine) (h : Q (.bool true) s) : wpAny (model prog w) A (compareOp .NotEq (.ref a) (.ref b)) Q E s :=
  ne_nil_strs N ma hv mb ok hu (by
    cases ys with
    | nil => exact absurd rfl e
    | cons y ys => exact h)
theorem test_ok (f : Str) (k : Nat) : (!(!(Builtin.Str.occurrences f ⟨#[k]⟩ 0 f.length 1).isEmpty)) = decide (k ∉ f.cps.toList) := by
  rw [StrLaws.found_one]
  simp
theorem index_in {f : Str} {c : Nat} {t u : Tok} {Q : Value → Shared → Prop} (hh : A.handled = none) (h0 : Builtin.Str.occurrences f ⟨#[c]⟩ 0 f.length 1 = [figV f.cps.toList c]) (h : ∀ t' k, Q (.int (figV f.cps.toList c : Nat) t') { s with toks := k }) :
    wpAny (model prog w) A (call (.builtin "str.index") [.str f t, .str ⟨#[c]⟩ u]) Q E s := by
  refine index_or hh (fun _ he => ?_) (fun _ _ => ?_)
  · rw [h0] at he; cases he
  · have e : Txt.find f ⟨#[c]⟩ = ((figV f.cps.toList c : Nat) : Int) := by simp [Txt.find, h0]
    rw [e]
    exact h _ _
end
def fig10 : Str := Str.ofString "0123456789"
def fig16 : Str := Str.ofString "0123456789abcdef"
theorem occ10 {c : Nat} (h : c ∈ fig10.cps.toList) : Builtin.Str.occurrences fig10 ⟨#[c]⟩ 0 fig10.length 1 = [figV fig10.cps.toList c] :=
  of_decide_eq_true (List.all_eq_true.mp (by decide +kernel : fig10.cps.toList.all (fun c => decide (Builtin.Str.occurrences fig10 ⟨#[c]⟩ 0 fig10.length 1 = [figV fig10.cps.toList c])) = true) c h)
theorem occ16 {c : Nat} (h : c ∈ fig16.cps.toList) : Builtin.Str.occurrences fig16 ⟨#[c]⟩ 0 fig16.length 1 = [figV fig16.cps.toList c] :=
  of_decide_eq_true (List.all_eq_true.mp (by decide +kernel : fig16.cps.toList.all (fun c => decide (Builtin.Str.occurrences fig16 ⟨#[c]⟩ 0 fig16.length 1 = [figV fig16.cps.toList c])) = true) c h)
theorem lawF_snoc (fig : List Nat) (gs : List (List Nat)) (g : List Nat) : lawF fig (gs ++ [g]) = grpF fig (lawF fig gs) g := by simp [lawF]
theorem grpF_ok {fig g : List Nat} {n : Nat} (h1 : g ≠ []) (h2 : g.filter (fun c => decide (c ∉ fig)) = []) : grpF fig (some n) g = some (g.foldl (fun n c => n * fig.length + figV fig c) n) := by
  show (if g = [] ∨ ∃ c ∈ g, c ∉ fig then none else some (g.foldl (fun n c => n * fig.length + figV fig c) n)) = _
  rw [if_neg]
  rintro (h | ⟨c, hc, h⟩)
  · exact h1 h
  · have := List.filter_eq_nil_iff.mp h2 c hc
    simp at this
    exact h this
theorem grpF_no {fig g : List Nat} {n : Nat} (h : g = [] ∨ g.filter (fun c => decide (c ∉ fig)) ≠ []) : grpF fig (some n) g = none := by
  show (if g = [] ∨ ∃ c ∈ g, c ∉ fig then none else some (g.foldl (fun n c => n * fig.length + figV fig c) n)) = _
  rw [if_pos]
  rcases h with h | h
  · exact .inl h
  · obtain ⟨c, hc⟩ := List.exists_mem_of_ne_nil _ h
    have := List.mem_filter.mp hc
    exact .inr ⟨c, this.1, of_decide_eq_true this.2⟩
theorem grpF_none (fig : List Nat) (gs : List (List Nat)) : gs.foldl (grpF fig) none = none := by
  induction gs with
  | nil => rfl
  | cons g gs ih => exact ih
theorem lawF_none {fig : List Nat} {gs : List (List Nat)} {i : Nat} {g : List Nat} {n : Nat} (hn : lawF fig (gs.take i) = some n) (hg : gs[i]? = some g) (h : grpF fig (some n) g = none) : lawF fig gs = none := by
  obtain ⟨hi, hg'⟩ := List.getElem?_eq_some_iff.mp hg
  have e : gs = gs.take i ++ g :: gs.drop (i + 1) := by
    rw [← hg', ← List.drop_eq_getElem_cons hi, List.take_append_drop]
  have e2 : lawF fig gs = (gs.drop (i + 1)).foldl (grpF fig) (grpF fig (lawF fig (gs.take i)) g) := by
    conv => lhs; rw [e]
    unfold lawF
    rw [List.foldl_append, List.foldl_cons]
  rw [e2, hn, h, grpF_none]
theorem strVals_at {gl : List (Str × Tok)} {i : Nat} {v : Value} (h : (strValues gl)[i]? = some v) : ∃ y ty, v = .str y ty ∧ (gl.map (·.1))[i]? = some y := by
  unfold strValues at h
  rw [List.getElem?_map] at h
  cases hg : gl[i]? with
  | none => rw [hg] at h; cases h
  | some p => rw [hg] at h; exact ⟨p.1, p.2, (Option.some.inj h).symm, by rw [List.getElem?_map, hg]; rfl⟩
section
variable {prog : Program} {w : World} {A : Around} {E : Value → Shared → Prop} {Q : Flow → Shared → Prop} {s : Shared} {env : Env} {h₀ : Heap}
/-- a loop over a text; rows are kept -/
theorem for_strK {σ : Type} {x : Str} {body : List Stmt} {xt : Str} {tx : Tok} {m₀ : Str → Option Value} {news₀ : List (Addr × Obj)} (keep : List (Addr × Obj)) (ps : σ → List (Str × Value)) (P : Nat → σ → Prop) (c₀ : σ)
    (hh : A.handled = none) (F : Fr h₀ env.locals s.heap m₀) (N : News h₀ env.locals s.heap news₀) (hkp : ∀ p ∈ keep, p ∈ news₀) (hk : HasAll m₀ (ps c₀)) (hp : P 0 c₀)
    (turn : ∀ (i : Nat) k t (c : σ) (u : Str → Option Value) h tk own, i < xt.cps.size → xt.cps.toList[i]? = some k → P i c →
      Fr h₀ env.locals h (fun y => if y = x then some (.str ⟨#[k]⟩ t) else kstB u (ps c) y) → News h₀ env.locals h (keep ++ own) →
      wpAny (model prog w) A (execs body env) (FkPost h₀ env.locals { s with heap := h, toks := tk } keep (fun _ => []) ps (fun c => P (i + 1) c) own Q) E { s with heap := h, toks := tk })
    (done : ∀ (c : σ) (u : Str → Option Value) h tk, P xt.cps.size c → Fr h₀ env.locals h (kstB u (ps c)) → News h₀ env.locals h keep → Q .next { s with heap := h, toks := tk }) :
    wpAny (model prog w) A (pyIter (.str xt tx)) (fun it s₂ => LoopAtV prog w A h₀ env x body Q E it s₂) E s := by
  have N' : News h₀ env.locals s.heap keep := fun p hp => N p (hkp p hp)
  have main : ∀ (o : Obj) (T : String), Walks prog w A s.heap.objs.size [s.heap.objs.size] [s.heap.objs.size] xt.cps.size (SignAt xt) (fun i h => h.IsStrIter s.heap.objs.size T xt tx i) → (s.heap.push o).IsStrIter s.heap.objs.size T xt tx 0 →
      LoopAtV prog w A h₀ env x body Q E (.ref s.heap.objs.size) { s with heap := s.heap.push o } := by
    intro o T W hst
    refine for_K keep (fun _ => []) ps P c₀ W ?_ ?_ ?_ hst (F.push _) (fun p hp => ⟨Heap.get?_push_of_some _ (N' p hp).1, (N' p hp).2⟩) (fun _ h => nomatch h) ?_ hk hp ?_ ?_
    · intro hm
      exact absurd F.ns.lt ((List.mem_singleton.mp hm) ▸ Nat.lt_irrefl _)
    · intro b' hb
      rw [List.mem_singleton.mp hb]
      exact next_is_new F
    · rintro i h ⟨o, ho, _⟩ b' hb
      rw [List.mem_singleton.mp hb]; exact ⟨_, ho⟩
    · intro q hq hI
      exact absurd (Heap.lt_size (N' q hq).1) ((List.mem_singleton.mp hI) ▸ Nat.lt_irrefl _)
    · rintro i v c u h tk own hi ⟨k, t, hk', rfl⟩ hp' hoff _ _ F₁ N₁
      exact turn i k t c u h tk own hi (by rw [Array.getElem?_toList]; exact hk') hp' F₁ N₁
    · exact done
  cases ha : xt.cps.all (· < 128)
  · exact wpAny_pyIter_wide ha (main _ _ (Walks.strWide hh _ xt tx) ⟨_, Heap.get?_push_size _ rfl, rfl, rfl⟩)
  · exact wpAny_pyIter_ascii ha (main _ _ (Walks.strAscii hh _ xt tx) ⟨_, Heap.get?_push_size _ rfl, rfl, rfl⟩)
end
/-- how the law reads a text: its figures, its body, its sign -/
def NumParse (x Fig B : Str) (b : Bool) : Prop :=
  (((Txt.slice x none (some 2) == Str.ofString "0x") = true ∨ (Txt.slice x none (some 2) == Str.ofString "0X") = true) ∧ Fig = Str.ofString "0123456789abcdef" ∧ b = false ∧
    (((Txt.rstripChars (Txt.slice x (some 2) none) (Str.ofString " \n\t\r") != Str.ofString "") = true ∧ B = Str.ofString "0" ++ Txt.rstripChars (Txt.slice x (some 2) none) (Str.ofString " \n\t\r")) ∨
     ((Txt.rstripChars (Txt.slice x (some 2) none) (Str.ofString " \n\t\r") != Str.ofString "") = false ∧ B = Txt.rstripChars (Txt.slice x (some 2) none) (Str.ofString " \n\t\r")))) ∨
  (((Txt.slice x none (some 2) == Str.ofString "0x") = false ∧ (Txt.slice x none (some 2) == Str.ofString "0X") = false) ∧ Fig = Str.ofString "0123456789" ∧
    (((Txt.slice (Txt.stripChars x (Str.ofString " \n\t\r")) none (some 1) == Str.ofString "+") = true ∧ b = (Str.ofString "+" == Str.ofString "-") ∧ B = Txt.slice (Txt.stripChars x (Str.ofString " \n\t\r")) (some 1) none) ∨
     ((Txt.slice (Txt.stripChars x (Str.ofString " \n\t\r")) none (some 1) == Str.ofString "-") = true ∧ b = (Str.ofString "-" == Str.ofString "-") ∧ B = Txt.slice (Txt.stripChars x (Str.ofString " \n\t\r")) (some 1) none) ∨
     ((Txt.slice (Txt.stripChars x (Str.ofString " \n\t\r")) none (some 1) == Str.ofString "+") = false ∧ (Txt.slice (Txt.stripChars x (Str.ofString " \n\t\r")) none (some 1) == Str.ofString "-") = false ∧ b = false ∧ B = Txt.stripChars x (Str.ofString " \n\t\r"))))
def JoinN (g : Heap) (L c : Addr) (news : List (Addr × Obj)) (s : Shared) (x : Str) (f : Flow) (s' : Shared) : Prop :=
  ∃ (h' : Heap) (tk : Nat) (u : Str → Option Value) (o' : Obj) (Fig B : Str) (b : Bool) (tF tB : Tok), f = .next ∧ s' = { s with heap := h', toks := tk } ∧ Fr g L h' (kstB u [("body", .str B tB), ("less", .bool b)]) ∧ o'.data = .cell (some (.str Fig tF)) ∧ News g L h' ((c, o') :: news) ∧ NumParse x Fig B b ∧ B.length ≤ x.length + 1
theorem joinN {g : Heap} {L c : Addr} {news all : List (Addr × Obj)} {s : Shared} {x : Str} {h' : Heap} {tk : Nat} {m : Str → Option Value} {o' : Obj} {Fig B : Str} {b : Bool} {tF tB : Tok} (F : Fr g L h' m) (N : News g L h' all) (hk : HasAll m [("body", .str B tB), ("less", .bool b)]) (hd : o'.data = .cell (some (.str Fig tF))) (hs : ∀ p ∈ (c, o') :: news, p ∈ all) (hp : NumParse x Fig B b) (hb : B.length ≤ x.length + 1) :
    JoinN g L c news s x .next { s with heap := h', toks := tk } :=
  ⟨h', tk, m, o', Fig, B, b, tF, tB, rfl, rfl, by rw [hasAll_eq hk]; exact F, hd, fun p hp => N p (hs p hp), hp, hb⟩
section
variable {prog : Program} {w : World} {A : Around} {E : Value → Shared → Prop} {s : Shared}
theorem item_0 {x y : Str} {value slice : Expr} {t ui : Tok} {Q : Value → Shared → Prop} (h0 : (Txt.slice x none (some 1) == y) = true) (hy : y.length = 1) (h : ∀ t' k, Q (.str y t') { s with toks := k })
    (hs : subscripted slice false (.str x t) (.int 0 ui) = operate [.str x t, .int 0 ui] (getItem (.str x t) (.int 0 ui)) := by with_unfolding_all rfl)
    (ht : ∀ r, letTemporaryGo value (.str x t) r = pure () := by intro _; with_unfolding_all rfl) :
    wpAny (model prog w) A (subscriptTail value slice (.str x t) (.int 0 ui)) Q E s := by
  have e : Txt.slice x none (some 1) = y := eq_of_beq h0
  have e2 := slice_take x 1 (by decide)
  rw [e] at e2
  obtain ⟨c, hc⟩ : ∃ c, y.cps.toList = [c] := by
    have := str_len y
    rw [hy] at this
    exact List.length_eq_one_iff.mp this
  have hx : x.cps.toList[Int.toNat 0]? = some c := by
    rw [hc] at e2
    cases hl : x.cps.toList with
    | nil => rw [hl] at e2; cases e2
    | cons a r => rw [hl] at e2; simp at e2; rw [e2]; rfl
  have hyc : y = ⟨#[c]⟩ := by
    cases y with
    | mk cps =>
      have : cps = #[c] := by
        have h2 : cps.toList = [c] := hc
        exact Array.toList_inj.mp (by rw [h2])
      rw [this]
  rw [hyc] at h
  exact item_S ⟨by decide, by decide⟩ hx h hs ht
end
theorem occF {Fig : Str} (hF : Fig = Str.ofString "0123456789" ∨ Fig = Str.ofString "0123456789abcdef") {c : Nat} (h : c ∈ Fig.cps.toList) : Builtin.Str.occurrences Fig ⟨#[c]⟩ 0 Fig.length 1 = [figV Fig.cps.toList c] := by
  rcases hF with rfl | rfl
  · exact occ10 h
  · exact occ16 h
theorem lenF {Fig : Str} (hF : Fig = Str.ofString "0123456789" ∨ Fig = Str.ofString "0123456789abcdef") : Fig.length ≤ 16 := by
  rcases hF with rfl | rfl <;> decide
theorem NumParse.fig {x Fig B : Str} {b : Bool} (h : NumParse x Fig B b) : Fig = Str.ofString "0123456789" ∨ Fig = Str.ofString "0123456789abcdef" := by
  rcases h with ⟨_, h, _⟩ | ⟨_, h, _⟩
  · exact .inr h
  · exact .inl h
/-- what the law's reading gives -/
def NumOut (x : Str) (r : Value) : Prop := ∃ Fig B b, NumParse x Fig B b ∧
  ((lawF Fig.cps.toList ((Txt.split (Txt.lower B) (Str.ofString "_")).map (·.cps.toList)) = none ∧ r = .none) ∨
   ∃ n t, lawF Fig.cps.toList ((Txt.split (Txt.lower B) (Str.ofString "_")).map (·.cps.toList)) = some n ∧ r = .int (if b then -(n : Int) else (n : Int)) t)
section
variable {x : Str}
theorem np1 (h : (Txt.slice x none (some 2) == Str.ofString "0x") = true) (h2 : (Txt.rstripChars (Txt.slice x (some 2) none) (Str.ofString " \n\t\r") != Str.ofString "") = true) : NumParse x (Str.ofString "0123456789abcdef") (Str.ofString "0" ++ Txt.rstripChars (Txt.slice x (some 2) none) (Str.ofString " \n\t\r")) false := .inl ⟨.inl h, rfl, rfl, .inl ⟨h2, rfl⟩⟩
theorem np2 (h : (Txt.slice x none (some 2) == Str.ofString "0x") = true) (h2 : (Txt.rstripChars (Txt.slice x (some 2) none) (Str.ofString " \n\t\r") != Str.ofString "") = false) : NumParse x (Str.ofString "0123456789abcdef") (Txt.rstripChars (Txt.slice x (some 2) none) (Str.ofString " \n\t\r")) false := .inl ⟨.inl h, rfl, rfl, .inr ⟨h2, rfl⟩⟩
theorem np3 (h : (Txt.slice x none (some 2) == Str.ofString "0X") = true) (h2 : (Txt.rstripChars (Txt.slice x (some 2) none) (Str.ofString " \n\t\r") != Str.ofString "") = true) : NumParse x (Str.ofString "0123456789abcdef") (Str.ofString "0" ++ Txt.rstripChars (Txt.slice x (some 2) none) (Str.ofString " \n\t\r")) false := .inl ⟨.inr h, rfl, rfl, .inl ⟨h2, rfl⟩⟩
theorem np4 (h : (Txt.slice x none (some 2) == Str.ofString "0X") = true) (h2 : (Txt.rstripChars (Txt.slice x (some 2) none) (Str.ofString " \n\t\r") != Str.ofString "") = false) : NumParse x (Str.ofString "0123456789abcdef") (Txt.rstripChars (Txt.slice x (some 2) none) (Str.ofString " \n\t\r")) false := .inl ⟨.inr h, rfl, rfl, .inr ⟨h2, rfl⟩⟩
theorem np5 (h : (Txt.slice x none (some 2) == Str.ofString "0x") = false) (h2 : (Txt.slice x none (some 2) == Str.ofString "0X") = false) (h3 : (Txt.slice (Txt.stripChars x (Str.ofString " \n\t\r")) none (some 1) == Str.ofString "+") = true) : NumParse x (Str.ofString "0123456789") (Txt.slice (Txt.stripChars x (Str.ofString " \n\t\r")) (some 1) none) (Str.ofString "+" == Str.ofString "-") := .inr ⟨⟨h, h2⟩, rfl, .inl ⟨h3, rfl, rfl⟩⟩
theorem np6 (h : (Txt.slice x none (some 2) == Str.ofString "0x") = false) (h2 : (Txt.slice x none (some 2) == Str.ofString "0X") = false) (h3 : (Txt.slice (Txt.stripChars x (Str.ofString " \n\t\r")) none (some 1) == Str.ofString "-") = true) : NumParse x (Str.ofString "0123456789") (Txt.slice (Txt.stripChars x (Str.ofString " \n\t\r")) (some 1) none) (Str.ofString "-" == Str.ofString "-") := .inr ⟨⟨h, h2⟩, rfl, .inr (.inl ⟨h3, rfl, rfl⟩)⟩
theorem np7 (h : (Txt.slice x none (some 2) == Str.ofString "0x") = false) (h2 : (Txt.slice x none (some 2) == Str.ofString "0X") = false) (h3 : (Txt.slice (Txt.stripChars x (Str.ofString " \n\t\r")) none (some 1) == Str.ofString "+") = false) (h4 : (Txt.slice (Txt.stripChars x (Str.ofString " \n\t\r")) none (some 1) == Str.ofString "-") = false) : NumParse x (Str.ofString "0123456789") (Txt.stripChars x (Str.ofString " \n\t\r")) false := .inr ⟨⟨h, h2⟩, rfl, .inr (.inr ⟨h3, h4, rfl, rfl⟩)⟩
end
theorem tailM1 {α : Type} {a p : α} {r r' : List α} (h : p ∈ a :: r) : p ∈ a :: (r ++ r') := by
  rcases List.mem_cons.mp h with h | h
  · rw [h]; exact List.Mem.head _
  · exact List.mem_cons_of_mem _ (List.mem_append_left _ h)
end Mine

namespace Mine
open PySem PySem.W PySem.Spec PySem.Calls PyProof.Rows
section
variable {prog : Program} {w : World} {A : Around} {E : Value → Shared → Prop} {s : Shared} {h₀ : Heap} {L : Addr} {m : Str → Option Value} {news news' : List (Addr × Obj)}
theorem inplace_list {a b : Value} {Q : Value → Shared → Prop} (ha : s.TypeIs a "list") (hb : s.TypeIs b "list") (hc : wpAny (model prog w) A (call (.builtin "list.__iadd__") [a, b]) Q E s) : wpAny (model prog w) A (inplaceOp .Add a b) Q E s := by
  unfold inplaceOp
  refine wpAny_holding ?_
  have hl : typeLookup (.type "list") (dunderI "add") = pure (some (.builtin "list.__iadd__")) := PySem.F.slot_list_iadd.lookup
  have hs : isSeqSlot (some (.builtin "list.__iadd__")) = true := by decide +kernel
  have hfi : fillsInplaceSlot (.type "list") "add" (Operator.Add == .Add) = pure false := by
    unfold fillsInplaceSlot
    show (typeLookup (.type "list") (dunderI "add") >>= fun fi => pure (fi.isSome && !isSeqSlot fi)) = pure false
    rw [hl]
    simp only [pure_bind, hs]
    rfl
  have hfill : fillsNumberSlot (.type "list") "add" = pure false := PySem.fillsNumberSlot_seq (id := "list.__add__") PySem.F.slot_list_add.lookup (by decide +kernel) (r := none) (by rw [typeLookup_type, builtinLookup_eq_fast]; kernel_rfl) rfl
  refine wpAny_bind (wpAny_typeOf ha (wpAny_bind (wpAny_of_eq hfi ?_)))
  show wpAny _ A (if false = true then _ else _) Q E s
  rw [if_neg Bool.false_ne_true]
  refine wpAny_bind (wpAny_binaryOp1_none (nm := "add") ha hb hfill ?_)
  refine wpAny_bind (wpAny_of_eq (PySem.seqSlot_of hl hs) ?_)
  exact wpAny_bind (wpAny_rule hc)
theorem iaddS_Z {D b : Addr} {vs us : List Value} {ys zs : List Str} {n n2 : Nat} {g : Obj → List (Addr × Obj)} {Q : Value → Shared → Prop} (F : Fr h₀ L s.heap m) (N : News h₀ L s.heap news) (hb : (b, listOf us.toArray n2) ∈ news) (hv : StrsAre vs ys) (hu : StrsAre us zs) (hne : us ≠ [])
    (U : UpdF D (listOf vs.toArray n) news g) (hz : vs.length + us.length ≤ 1000000)
    (h : ∀ h' ps k, StrsAre ps (ys ++ zs) → Fr h₀ L h' m → News h₀ L h' (g (listOf ps.toArray k)) → Q (.ref D) { s with heap := h' }) : wpAny (model prog w) A (inplaceOp .Add (.ref D) (.ref b)) Q E s := by
  have hs : StrsAre (vs ++ us) (ys ++ zs) := by
    clear hne hb hz N U h
    induction hv with
    | nil => exact hu
    | cons z u _ ih => exact .cons z u ih
  obtain ⟨pre, post, rfl, hg, a, c⟩ := U.split
  have z := N (D, listOf vs.toArray n) (List.mem_append.mpr (.inr (.head _)))
  have hz1 : vs.toArray.size = vs.length := by simp
  have hz2 : us.toArray.size = us.length := by simp
  have hd : ¬(!vs.toArray.isEmpty && Builtin.List.listTooLong (vs.toArray.size + us.toArray.size)) = true := by
    have : Builtin.List.listTooLong (vs.toArray.size + us.toArray.size) = false := by
      unfold Builtin.List.listTooLong
      rw [hz1, hz2]
      first
        | exact decide_eq_false (by rw [sizeLine_eq]; omega)
        | (simp; omega)
    rw [this]; simp
  have hs1 : vs.toArray.size ≤ sizeLine := by rw [hz1, sizeLine_eq]; omega
  have hs2 : vs.toArray.size + us.toArray.size ≤ sizeLine + 1 := by rw [hz1, hz2, sizeLine_eq]; omega
  refine inplace_list ⟨_, z.1, rfl⟩ ⟨_, (N _ hb).1, rfl⟩ ?_
  refine call_meets PySem.F.slot_list_iadd ⟨_, z.1, rfl⟩ PySem.F.entry_list_iadd (PySem.F.args_list_iadd_2 _ _) (PySem.AutoSeq1.list___iadd___list_list_0 D vs.toArray n b us.toArray n2 hd hs1 hs2) ⟨z.1, (N _ hb).1, ?_⟩
  have e : Obj.mapSeq (fun x => x ++ us.toArray) (listOf vs.toArray n) = listOf (vs ++ us).toArray (n + 1) := by
    have hl : us.length ≠ 0 := fun e => hne (List.length_eq_zero_iff.mp e)
    simp [Obj.mapSeq, W.listOf, hl]
  obtain ⟨F', N'⟩ := news_upd (f := Obj.mapSeq fun x => x ++ us.toArray) F N a c e rfl
  exact h _ (vs ++ us) (n + 1) hs F' (by rw [hg]; exact N')
/-- list(text) -/
theorem listStr_Z {x : Str} {t : Tok} {Q : Value → Shared → Prop} (hh : A.handled = none) (F : Fr h₀ L s.heap m) (N : News h₀ L s.heap news) (hz : x.length ≤ 1000000)
    (h : ∀ D h' tk ys n, Fr h₀ L h' m → News h₀ L h' ((D, listOf ys.toArray n) :: news) → (∀ p ∈ news, p.1 < D) → StrsAre ys (x.cps.toList.map sing) → Q (.ref D) { s with heap := h', toks := tk }) :
    wpAny (model prog w) A (call (.type "list") [.str x t]) Q E s := by
  refine call_list_str hh x t (hn := by rw [sizeLine_eq]; exact Nat.le_trans hz (by omega)) fun h' tk acc' c' hk hS' hacc => ?_
  have hc : CarriedAll acc'.toList ((signs x).map .str) := carriedAll_of_get _ _ (by simp [hacc.1, signs]) fun j v hv => by
    obtain ⟨c, u, hc, rfl⟩ := hacc.2 j v (by simpa using hv)
    exact ⟨.str ⟨#[c]⟩, by simp [signs, hc], .str _ _⟩
  refine h _ h' tk acc'.toList c' (F.keeps hk) (fun p hp => ?_) (fun p hp => Heap.lt_size (N p hp).1) (StrsAre.ofCarried hc)
  rcases List.mem_cons.mp hp with rfl | hp
  · exact ⟨by simpa [W.listOf] using hS', Nat.ne_of_gt F.ns.lt, next_is_new F⟩
  · exact ⟨hk _ _ (N p hp).1, (N p hp).2⟩
theorem strsAre_length {vs : List Value} {ys : List Str} (h : StrsAre vs ys) : vs.length = ys.length := by
  induction h with
  | nil => rfl
  | cons _ _ _ ih => simp [ih]
theorem strsAre_append {vs us : List Value} {ys zs : List Str} (h : StrsAre vs ys) (h2 : StrsAre us zs) : StrsAre (vs ++ us) (ys ++ zs) := by
  induction h with
  | nil => exact h2
  | cons z u _ ih => exact .cons z u ih
theorem strsAre_at {vs : List Value} {ys : List Str} (h : StrsAre vs ys) : ∀ (i : Nat) v, vs[i]? = some v → ∃ y t, v = .str y t ∧ ys[i]? = some y := by
  induction h with
  | nil => intro i v hv; simp at hv
  | cons z u _ ih =>
    intro i v hv
    cases i with
    | zero => simp at hv; exact ⟨z, u, hv.symm, rfl⟩
    | succ i => simp at hv; obtain ⟨y, t, e, hy⟩ := ih i v hv; exact ⟨y, t, e, by simpa using hy⟩
/-- list * n and list + list, for rows of the ledger -/
theorem mulL_Z {l : Addr} {vs : List Value} {n : Nat} {x : Int} {u : Tok} {Q : Value → Shared → Prop} (F : Fr h₀ L s.heap m) (N : News h₀ L s.heap news) (hl : (l, listOf vs.toArray n) ∈ news) (hx : 0 ≤ x ∧ x ≤ 4) (hz : vs.length ≤ 60)
    (h : ∀ D h', Fr h₀ L h' m → News h₀ L h' ((D, listOf (List.replicate x.toNat vs).flatten.toArray 0) :: news) → (∀ p ∈ news, p.1 < D) → Q (.ref D) { s with heap := h' }) : wpAny (model prog w) A (binaryOp .Mult (.ref l) (.int x u)) Q E s :=
  KMa.mul F N ⟨_, (N _ hl).1, rfl, n, rfl⟩ (by omega) (by omega) (by
    have h1 : x.toNat ≤ 4 := by omega
    have := Nat.mul_le_mul hz h1
    omega) rfl h
theorem addL_Z {a b : Addr} {vs us : List Value} {n k : Nat} {Q : Value → Shared → Prop} (F : Fr h₀ L s.heap m) (N : News h₀ L s.heap news) (ha : (a, listOf vs.toArray n) ∈ news) (hb : (b, listOf us.toArray k) ∈ news) (hz : vs.length + us.length ≤ 1000000)
    (h : ∀ D h', Fr h₀ L h' m → News h₀ L h' ((D, listOf (vs ++ us).toArray 0) :: news) → (∀ p ∈ news, p.1 < D) → Q (.ref D) { s with heap := h' }) : wpAny (model prog w) A (binaryOp .Add (.ref a) (.ref b)) Q E s :=
  kmk_add_lit F N ⟨_, (N _ ha).1, rfl, n, rfl⟩ ⟨_, (N _ hb).1, rfl, k, rfl⟩ (by simp) h (by rw [sizeLine_eq]; simp; omega)
end
def pieceL : List Str := ((List.replicate 2 ((Str.ofString "0123456789").cps.toList.map sing)).flatten ++ (Str.ofString "abcdefABCDEF").cps.toList.map sing) ++ [Str.ofString "0x", Str.ofString "0x", Str.ofString "0X", Str.ofString "_", Str.ofString "_", Str.ofString "-", Str.ofString "+", Str.ofString " ", Str.ofString "\n", Str.ofString "g", Str.ofString "x", Str.ofString "0", Str.ofString ".", Str.ofString ",", Str.ofString "o", Str.ofString "\t", Str.ofString "\r"]
theorem pieceL_len : pieceL.length = 49 := by decide
section
variable {prog : Program} {w : World} {A : Around} {E : Value → Shared → Prop} {s : Shared} {h₀ : Heap} {L : Addr} {m : Str → Option Value} {news : List (Addr × Obj)} {value slice : Expr} {u : Tok} {Q : Value → Shared → Prop}
theorem itemLast_Z {l : Addr} {vs : List Value} {v : Value} {n : Nat} (N : News h₀ L s.heap news) (hl : (l, listOf (vs ++ [v]).toArray n) ∈ news) (hz : vs.length ≤ 1000000) (h : Q v s)
    (hs : subscripted slice false (.ref l) (.int (-1) u) = operate [.ref l, .int (-1) u] (getItem (.ref l) (.int (-1) u)) := by with_unfolding_all rfl) (hg : ∀ r, letTemporaryGo value (.ref l) r = pure () := by intro _; with_unfolding_all rfl) :
    wpAny (model prog w) A (subscriptTail value slice (.ref l) (.int (-1) u)) Q E s :=
  kim_back N hl rfl rfl (by decide) (by simp; omega) (by decide) (by simp; rw [show (-1 + ((vs.length : Int) + 1)).toNat = vs.length by omega]; simp) h hs hg
theorem itemAt_Z {l : Addr} {vs : List Value} {v : Value} {n : Nat} {k : Int} (N : News h₀ L s.heap news) (hl : (l, listOf vs.toArray n) ∈ news) (h0 : 0 ≤ k ∧ k < 1000000) (hx : vs[k.toNat]? = some v) (h : Q v s)
    (hs : subscripted slice false (.ref l) (.int k u) = operate [.ref l, .int k u] (getItem (.ref l) (.int k u)) := by with_unfolding_all rfl) (hg : ∀ r, letTemporaryGo value (.ref l) r = pure () := by intro _; with_unfolding_all rfl) :
    wpAny (model prog w) A (subscriptTail value slice (.ref l) (.int k u)) Q E s :=
  kim_list N hl rfl rfl h0.1 (by omega) hx h hs hg
theorem itemStr_Z {l : Addr} {vs : List Value} {ys : List Str} {n : Nat} {k : Int} (N : News h₀ L s.heap news) (hl : (l, listOf vs.toArray n) ∈ news) (hv : StrsAre vs ys) (h0 : 0 ≤ k ∧ k < ys.length ∧ k < 1000000) (h : ∀ y t, y ∈ ys → Q (.str y t) s)
    (hs : subscripted slice false (.ref l) (.int k u) = operate [.ref l, .int k u] (getItem (.ref l) (.int k u)) := by with_unfolding_all rfl) (hg : ∀ r, letTemporaryGo value (.ref l) r = pure () := by intro _; with_unfolding_all rfl) :
    wpAny (model prog w) A (subscriptTail value slice (.ref l) (.int k u)) Q E s := by
  have hlen := strsAre_length hv
  have hk : k.toNat < vs.length := by omega
  obtain ⟨y, t, e, hy⟩ := strsAre_at hv k.toNat _ (List.getElem?_eq_getElem hk)
  exact itemAt_Z N hl ⟨h0.1, h0.2.2⟩ ((List.getElem?_eq_getElem hk).trans (by rw [e])) (h y t (List.mem_of_getElem? hy)) hs hg
/-- sep.join(list) -/
theorem join_S {l : Addr} {vs : List Value} {ys : List Str} {n : Nat} {x : Str} {t : Tok} (N : News h₀ L s.heap news) (hl : (l, listOf vs.toArray n) ∈ news) (hv : StrsAre vs ys) (hx : x.length ≤ 16) (hz : (ys.map (·.length)).sum + ys.length ≤ 1048576) (h : ∀ t' k, Q (.str (Txt.join x ys) t') { s with toks := k }) :
    wpAny (model prog w) A (call (.builtin "str.join") [.str x t, .ref l]) Q E s :=
  join_listW ⟨_, (N _ hl).1, rfl, n, rfl⟩ (by simpa using hv) hx hz h
end
/-- the texts of law 08 -/
def Good (N : Nat) (ss : List Str) : Prop := (∀ p ∈ ss, p ∈ pieceL) ∧ ss.length ≤ N
def InRow (rows : List (Addr × Obj)) (v : Value) : Prop := ∃ a vs n ss, v = .ref a ∧ (a, W.listOf vs.toArray n) ∈ rows ∧ StrsAre vs ss ∧ Good 64 ss
theorem InRow.mono {rows rows' : List (Addr × Obj)} (hs : ∀ p ∈ rows, p ∈ rows') {v : Value} (h : InRow rows v) : InRow rows' v := by
  obtain ⟨a, vs, n, ss, e, hm, h1, h2⟩ := h
  exact ⟨a, vs, n, ss, e, hs _ hm, h1, h2⟩
def TextsInv (TX PC : Addr) (i : Nat) (c : Obj × Addr × Obj × List (Addr × Obj)) : Prop :=
  ∃ refs nr lvs nl lss, c.1 = W.listOf (refs ++ [Value.ref c.2.1]).toArray nr ∧ c.2.2.1 = W.listOf lvs.toArray nl ∧ StrsAre lvs lss ∧ Good i lss ∧ (∀ v ∈ refs, InRow c.2.2.2 v) ∧ refs.length ≤ i + 1 ∧
    @Ne Nat c.2.1 TX ∧ @Ne Nat c.2.1 PC ∧ OwnOff c.2.2.2 [TX, PC, c.2.1]
theorem Good.snoc {N : Nat} {ss : List Str} {p : Str} (h : Good N ss) (hp : p ∈ pieceL) : Good (N + 1) (ss ++ [p]) := by
  refine ⟨fun q hq => ?_, by simp; exact h.2⟩
  rcases List.mem_append.mp hq with hq | hq
  · exact h.1 q hq
  · rw [List.mem_singleton.mp hq]; exact hp
theorem Good.le {N M : Nat} {ss : List Str} (h : Good N ss) (hM : N ≤ M) : Good M ss := ⟨h.1, Nat.le_trans h.2 hM⟩
section
variable {TX PC la l' : Addr} {i nr nr' nl nl' : Nat} {refs lvs : List Value} {lss : List Str} {rows own : List (Addr × Obj)} {y : Str} {t : Tok}
theorem TextsInv.add (hlvs : StrsAre lvs lss) (hgood : Good i lss) (hrefs : ∀ v ∈ refs, InRow rows v) (hrl : refs.length ≤ i + 1) (n1 : @Ne Nat la TX) (n2 : @Ne Nat la PC) (hoff : OwnOff rows [TX, PC, la]) (hy : y ∈ pieceL) :
    TextsInv TX PC (i + 1) (W.listOf (refs ++ [Value.ref la]).toArray nr, la, W.listOf (lvs ++ [Value.str y t]).toArray nl', rows) :=
  ⟨refs, nr, _, nl', _, rfl, rfl, strs_snoc hlvs, hgood.snoc hy, hrefs, by omega, n1, n2, hoff⟩
theorem TextsInv.new (hlvs : StrsAre lvs lss) (hgood : Good i lss) (hrefs : ∀ v ∈ refs, InRow rows v) (hrl : refs.length ≤ i + 1) (n1 : @Ne Nat la TX) (n2 : @Ne Nat la PC) (hoff : OwnOff rows [TX, PC, la]) (hi : i ≤ 63)
    (l1 : @LT.lt Nat _ TX l') (l2 : @LT.lt Nat _ PC l') (l3 : @LT.lt Nat _ la l') (l4 : AllLt l' (rows ++ own)) :
    TextsInv TX PC (i + 1) (W.listOf ((refs ++ [Value.ref la]) ++ [Value.ref l']).toArray nr', l', W.listOf #[] 0, (la, W.listOf lvs.toArray nl) :: rows) := by
  refine ⟨refs ++ [Value.ref la], nr', [], 0, [], rfl, rfl, .nil, ⟨fun _ h => (nomatch h), by simp⟩, ?_, by simp; omega, ?_, ?_, ?_⟩
  · intro v hv
    rcases List.mem_append.mp hv with hv | hv
    · exact (hrefs v hv).mono fun p hp => List.mem_cons_of_mem _ hp
    · rw [List.mem_singleton.mp hv]
      exact ⟨la, lvs, nl, lss, rfl, List.Mem.head _, hlvs, hgood.le (by omega)⟩
  · exact Nat.ne_of_gt l1
  · exact Nat.ne_of_gt l2
  · intro p hp b hb
    have hlt := kst_ltOf l4
    replace hp : p ∈ (la, W.listOf lvs.toArray nl) :: rows := hp
    simp only [List.mem_cons, List.not_mem_nil, or_false] at hb
    rcases List.mem_cons.mp hp with rfl | hp
    · rcases hb with rfl | rfl | rfl
      · exact n1
      · exact n2
      · exact Nat.ne_of_lt l3
    · rcases hb with rfl | rfl | rfl
      · exact hoff p hp _ (by simp)
      · exact hoff p hp _ (by simp)
      · exact Nat.ne_of_lt (hlt p (List.mem_append_left _ hp))
theorem own_new (hoff : OwnOff own ((TX :: la :: rows.map (·.1)))) (l4 : AllLt l' (rows ++ own)) : OwnOff own (TX :: l' :: la :: rows.map (·.1)) := by
  intro p hp b hb
  rcases List.mem_cons.mp hb with rfl | hb
  · exact hoff p hp _ (by simp)
  · rcases List.mem_cons.mp hb with rfl | hb
    · exact Nat.ne_of_lt (kst_ltOf l4 p (List.mem_append_right _ hp))
    · exact hoff p hp _ (List.mem_cons_of_mem _ hb)
end
section
variable {α : Type} {a b c d p : α} {r r' : List α}
theorem memA (h : p ∈ a :: b :: r) : p ∈ a :: b :: c :: (r ++ r') := by
  simp only [List.mem_cons, List.mem_append] at h ⊢
  rcases h with h | h | h <;> simp [h]
theorem memC (h : p ∈ a :: b :: c :: (r ++ r')) : p ∈ a :: b :: (r ++ ([c] ++ r')) := by
  simp only [List.mem_cons, List.mem_append, List.not_mem_nil, or_false] at h ⊢
  rcases h with h | h | h | h | h <;> simp [h]
theorem memD (h : p ∈ a :: b :: d :: r) : p ∈ b :: a :: d :: c :: (r ++ r') := by
  simp only [List.mem_cons, List.mem_append] at h ⊢
  rcases h with h | h | h | h <;> simp [h]
end
end Mine

namespace Mine
open PySem PySem.W PySem.Spec PySem.Calls PyProof.Rows
def End08 (h₀ : Heap) (L : Addr) (s : Shared) (DU RT ST X DD : Addr) (oST oX : Obj) (mk : Addr → Obj) (own : List (Addr × Obj)) (i : Nat) (s₂ : Shared) : Prop :=
  ∃ (h' : Heap) (tk : Nat) (m' : Str → Option Value) (news' : List (Addr × Obj)) (DA : Addr) (rv dv : List Value) (rn dn : Nat) (zs : List Int), s₂ = { s with heap := h', toks := tk } ∧ Fr h₀ L h' m' ∧ News h₀ L h' news' ∧
    (∀ p ∈ (DU, W.listOf dv.toArray dn) :: (DA, W.listOf #[] 0) :: (RT, W.listOf rv.toArray rn) :: (ST, oST) :: (X, oX) :: (DD, mk DA) :: own, p ∈ news') ∧ IntsAre rv zs ∧ IntsAre dv zs ∧ zs.length ≤ i + 1 ∧
    (@Ne Nat DA DU ∧ @Ne Nat DA RT ∧ @Ne Nat DA ST ∧ @Ne Nat DA X ∧ @Ne Nat DA DD) ∧ (∀ p ∈ own, p.1 ≠ DA) ∧ HasAll m' [("due", .ref DU), ("parser", .ref X)]
theorem end08 {h₀ : Heap} {L : Addr} {s : Shared} {DU RT ST X DD DA : Addr} {oST oX : Obj} {mk : Addr → Obj} {own news' : List (Addr × Obj)} {i : Nat} {h' : Heap} {tk : Nat} {m' : Str → Option Value} {rv dv : List Value} {rn dn : Nat} {zs : List Int} (F : Fr h₀ L h' m') (N : News h₀ L h' news')
    (hs : ∀ p ∈ (DU, W.listOf dv.toArray dn) :: (DA, W.listOf #[] 0) :: (RT, W.listOf rv.toArray rn) :: (ST, oST) :: (X, oX) :: (DD, mk DA) :: own, p ∈ news') (h1 : IntsAre rv zs) (h2 : IntsAre dv zs) (hz : zs.length ≤ i + 1)
    (ne : @Ne Nat DA DU ∧ @Ne Nat DA RT ∧ @Ne Nat DA ST ∧ @Ne Nat DA X ∧ @Ne Nat DA DD) (ho : ∀ p ∈ own, p.1 ≠ DA) (hk : HasAll m' [("due", .ref DU), ("parser", .ref X)]) :
    End08 h₀ L s DU RT ST X DD oST oX mk own i { s with heap := h', toks := tk } := ⟨h', tk, m', news', DA, rv, dv, rn, dn, zs, rfl, F, N, hs, h1, h2, hz, ne, ho, hk⟩
section
variable {prog : Program} {w : World} {A : Around} {E : Value → Shared → Prop} {Q : Flow → Shared → Prop} {s : Shared} {env : Env} {h₀ : Heap}
end
theorem memDA {α : Type} {a b p : α} {r : List α} (h : p ∈ a :: r) : p ∈ a :: b :: r := by
  rcases List.mem_cons.mp h with h | h
  · rw [h]; exact .head _
  · exact .tail _ (.tail _ h)
theorem memK5 {α : Type} {a b c d e p : α} {r r' : List α} (h : p ∈ a :: b :: c :: d :: e :: r) : p ∈ a :: b :: c :: d :: e :: (r ++ r') := by
  simp only [List.mem_cons, List.mem_append] at h ⊢
  rcases h with h | h | h | h | h | h <;> simp [h]
theorem memK5' {α : Type} {a b c d e p : α} {r r' : List α} (h : p ∈ r') : p ∈ a :: b :: c :: d :: e :: (r ++ r') := by
  simp only [List.mem_cons, List.mem_append]
  simp [h]
end Mine

namespace Mine
open PySem PySem.W PySem.Spec PySem.Calls PyProof.Rows
section
variable {prog : Program} {w : World} {A : Around} {E : Value → Shared → Prop} {s : Shared} {h₀ : Heap} {L : Addr} {m : Str → Option Value} {news news' : List (Addr × Obj)}
end
section
variable {prog : Program} {w : World} {A : Around} {E : Value → Shared → Prop} {s : Shared} {h₀ : Heap} {L : Addr} {news : List (Addr × Obj)}
end
end Mine

namespace Mine
open PySem PySem.W PySem.Spec PySem.Calls PyProof.Rows
section
variable {b : Array UInt8} {t : Tok}
end
section
variable {rows : List (Addr × Obj)} {P B : Addr} {sv : List Value} {b : Array UInt8} {t t2 : Tok} {n1 n2 : Nat}
end
section
variable {prog : Program} {w : World} {A : Around} {E : Value → Shared → Prop} {s : Shared} {h₀ : Heap} {L l : Addr} {m : Str → Option Value} {news : List (Addr × Obj)} {value slice : Expr} {Q : Value → Shared → Prop}
end
end Mine

namespace Mine
open PySem PySem.W PySem.Spec PySem.Calls PyProof.Rows
section
variable {prog : Program} {w : World} {A : Around} {E : Value → Shared → Prop} {Q : Flow → Shared → Prop} {s : Shared} {env : Env} {h₀ : Heap}
end
end Mine

namespace Mine
open PySem PySem.W PySem.Spec PySem.Calls PyProof.Rows
section
variable {prog : Program} {w : World} {A : Around} {E : Value → Shared → Prop} {Q : Flow → Shared → Prop} {s : Shared} {env : Env} {h₀ : Heap}
end
def charsOf (ys : List Str) : List Nat := ys.flatMap fun y => y.cps.toList
theorem join_chars (ys : List Str) : (Txt.join (Str.ofString "") ys).cps.toList = charsOf ys := by
  show (Builtin.Str.glued (Str.ofString "") ys).cps.toList = charsOf ys
  rw [StrLaws.glued_eq_join]
  induction ys with
  | nil => rfl
  | cons a r ih =>
    cases r with
    | nil => simp [Str.join, charsOf]
    | cons b r =>
      show (a ++ Str.ofString "" ++ Str.join (Str.ofString "") (b :: r)).cps.toList = _
      have e : ∀ x y : Str, (x ++ y).cps.toList = x.cps.toList ++ y.cps.toList := fun x y => by show (x.cps ++ y.cps).toList = _; simp
      rw [e, e, ih]
      have e2 : (Str.ofString "").cps.toList = [] := by decide
      rw [e2]
      simp [charsOf]
section
variable {us : List Value} {ys : List Str} {ss : List Nat} {i nn nn' : Nat} {y : Str} {c : Nat} {t t' : Tok}
end
section
variable {prog : Program} {w : World} {A : Around} {E : Value → Shared → Prop} {s : Shared} {h₀ : Heap} {L : Addr} {m : Str → Option Value} {news : List (Addr × Obj)} {value slice : Expr} {u : Tok} {Q : Value → Shared → Prop}
end
section
variable {prog : Program} {w : World} {A : Around} {E : Value → Shared → Prop} {Q : Flow → Shared → Prop} {s : Shared} {env : Env} {h₀ : Heap}
end
section
variable {α : Type} {a t t' x p : α} {r r' : List α}
end
section
variable {prog : Program} {w : World} {A : Around} {E : Value → Shared → Prop} {s : Shared} {h₀ : Heap} {L : Addr} {news : List (Addr × Obj)}
end
section
variable {prog : Program} {w : World} {A : Around} {E : Value → Shared → Prop} {s : Shared} {h₀ : Heap} {L : Addr} {m : Str → Option Value} {news : List (Addr × Obj)}
end
end Mine

namespace Mine
open PySem PySem.W PySem.Spec PySem.Calls PyProof.Rows
/-- a numeral's machine: the number so far, and whether a figure stands right before -/
def numS (fig : List Nat) (p : Option (Nat × Bool)) (c : Nat) : Option (Nat × Bool) := p.bind fun q =>
  if c = 95 then (if q.2 then some (q.1, false) else none) else if c ∈ fig then some (q.1 * fig.length + figV fig c, true) else none
def numE (p : Option (Nat × Bool)) : Option Nat := p.bind fun q => if q.2 then some q.1 else none
theorem numS_none (fig l : List Nat) : l.foldl (numS fig) none = none := by
  induction l with
  | nil => rfl
  | cons c l ih => exact ih
theorem num_group (fig : List Nat) : ∀ (g : List Nat) (n : Nat) (b : Bool), 95 ∉ g → g ≠ [] →
    g.foldl (numS fig) (some (n, b)) = if ∃ c ∈ g, c ∉ fig then none else some (g.foldl (fun n c => n * fig.length + figV fig c) n, true) := by
  intro g
  induction g with
  | nil => intro n b _ h; exact absurd rfl h
  | cons c g ih =>
    intro n b hg _
    have hc : c ≠ 95 := fun e => hg (e ▸ .head _)
    have hg' : 95 ∉ g := fun h => hg (.tail _ h)
    rw [List.foldl_cons]
    by_cases hm : c ∈ fig
    · have e : numS fig (some (n, b)) c = some (n * fig.length + figV fig c, true) := by
        show (if c = 95 then _ else if c ∈ fig then _ else _) = _
        rw [if_neg hc, if_pos hm]
      rw [e]
      cases g with
      | nil =>
        have : ¬ ∃ c' ∈ [c], c' ∉ fig := by
          rintro ⟨c', h1, h2⟩
          rw [List.mem_singleton.mp h1] at h2
          exact h2 hm
        rw [if_neg this]; rfl
      | cons d g =>
        rw [ih _ _ hg' (by simp)]
        have e2 : (∃ c' ∈ c :: d :: g, c' ∉ fig) ↔ ∃ c' ∈ d :: g, c' ∉ fig := by
          constructor
          · rintro ⟨c', h1, h2⟩
            rcases List.mem_cons.mp h1 with rfl | h1
            · exact absurd hm h2
            · exact ⟨c', h1, h2⟩
          · rintro ⟨c', h1, h2⟩
            exact ⟨c', .tail _ h1, h2⟩
        by_cases hh : ∃ c' ∈ d :: g, c' ∉ fig
        · rw [if_pos hh, if_pos (e2.mpr hh)]
        · rw [if_neg hh, if_neg (fun z => hh (e2.mp z))]; rfl
    · have e : numS fig (some (n, b)) c = none := by
        show (if c = 95 then _ else if c ∈ fig then _ else _) = _
        rw [if_neg hc, if_neg hm]
      rw [e, numS_none, if_pos ⟨c, .head _, hm⟩]
def joinL : List (List Nat) → List Nat
  | [] => []
  | [g] => g
  | g :: gs => g ++ 95 :: joinL gs
theorem grpF_none' (fig : List Nat) (gs : List (List Nat)) : gs.foldl (grpF fig) none = none := by
  induction gs with
  | nil => rfl
  | cons g gs ih => exact ih
theorem grpF_some (fig g : List Nat) (n : Nat) : grpF fig (some n) g = if g = [] ∨ ∃ c ∈ g, c ∉ fig then none else some (g.foldl (fun n c => n * fig.length + figV fig c) n) := rfl
/-- the machine reads what the law reads group by group -/
theorem num_groups (fig : List Nat) : ∀ (gs : List (List Nat)) (n : Nat), gs ≠ [] → (∀ g ∈ gs, 95 ∉ g) → numE ((joinL gs).foldl (numS fig) (some (n, false))) = gs.foldl (grpF fig) (some n) := by
  intro gs
  induction gs with
  | nil => intro n h; exact absurd rfl h
  | cons g gs ih =>
    intro n _ hg
    have h1 := hg g (.head _)
    have hgs := fun g' h => hg g' (List.mem_cons_of_mem g h)
    rw [List.foldl_cons]
    cases gs with
    | nil =>
      show numE (g.foldl (numS fig) (some (n, false))) = grpF fig (some n) g
      rw [grpF_some]
      by_cases hn : g = []
      · subst hn; rw [if_pos (.inl rfl)]; rfl
      · rw [num_group fig g n false h1 hn]
        by_cases hh : ∃ c ∈ g, c ∉ fig
        · rw [if_pos hh, if_pos (.inr hh)]; rfl
        · rw [if_neg hh, if_neg (fun z => z.elim hn hh)]; rfl
    | cons d gs =>
      show numE ((g ++ 95 :: joinL (d :: gs)).foldl (numS fig) (some (n, false))) = _
      rw [List.foldl_append, List.foldl_cons]
      by_cases hn : g = []
      · subst hn
        have e : grpF fig (some n) [] = none := by rw [grpF_some, if_pos (.inl rfl)]
        rw [e, grpF_none']
        show numE ((joinL (d :: gs)).foldl (numS fig) none) = none
        rw [numS_none]; rfl
      · rw [num_group fig g n false h1 hn]
        by_cases hh : ∃ c ∈ g, c ∉ fig
        · have e : grpF fig (some n) g = none := by rw [grpF_some, if_pos (.inr hh)]
          rw [if_pos hh, e, grpF_none']
          show numE ((joinL (d :: gs)).foldl (numS fig) none) = none
          rw [numS_none]; rfl
        · have e : grpF fig (some n) g = some (g.foldl (fun n c => n * fig.length + figV fig c) n) := by
            rw [grpF_some, if_neg (fun z => z.elim hn hh)]
          rw [if_neg hh, e]
          exact ih _ (by simp) hgs
def lowA (c : Nat) : Nat := if 65 ≤ c ∧ c ≤ 90 then c + 32 else c
def figs (base : Nat) : List Nat := if base = 16 then (Str.ofString "0123456789abcdef").cps.toList else (Str.ofString "0123456789").cps.toList
theorem figs_16 : ∀ c : Fin 128, (NumText.digit? c.1 = none ∨ ∃ d, NumText.digit? c.1 = some d ∧ 16 ≤ d) ∧ lowA c.1 ∉ figs 16 ∨ ∃ d, NumText.digit? c.1 = some d ∧ d < 16 ∧ lowA c.1 ∈ figs 16 ∧ figV (figs 16) (lowA c.1) = d := by
  intro c
  have h : ∀ c : Fin 128, (match NumText.digit? c.1 with | none => decide (lowA c.1 ∉ figs 16) | some d => if d < 16 then decide (lowA c.1 ∈ figs 16) && decide (figV (figs 16) (lowA c.1) = d) else decide (lowA c.1 ∉ figs 16)) = true := by decide +kernel
  have hc := h c
  cases e : NumText.digit? c.1 with
  | none => rw [e] at hc; exact .inl ⟨.inl rfl, of_decide_eq_true hc⟩
  | some d =>
    rw [e] at hc
    dsimp only at hc
    by_cases hd : d < 16
    · rw [if_pos hd, Bool.and_eq_true] at hc
      exact .inr ⟨d, rfl, hd, of_decide_eq_true hc.1, of_decide_eq_true hc.2⟩
    · rw [if_neg hd] at hc
      exact .inl ⟨.inr ⟨d, rfl, by omega⟩, of_decide_eq_true hc⟩
theorem figs_10 : ∀ c : Fin 128, (NumText.digit? c.1 = none ∨ ∃ d, NumText.digit? c.1 = some d ∧ 10 ≤ d) ∧ lowA c.1 ∉ figs 10 ∨ ∃ d, NumText.digit? c.1 = some d ∧ d < 10 ∧ lowA c.1 ∈ figs 10 ∧ figV (figs 10) (lowA c.1) = d := by
  intro c
  have h : ∀ c : Fin 128, (match NumText.digit? c.1 with | none => decide (lowA c.1 ∉ figs 10) | some d => if d < 10 then decide (lowA c.1 ∈ figs 10) && decide (figV (figs 10) (lowA c.1) = d) else decide (lowA c.1 ∉ figs 10)) = true := by decide +kernel
  have hc := h c
  cases e : NumText.digit? c.1 with
  | none => rw [e] at hc; exact .inl ⟨.inl rfl, of_decide_eq_true hc⟩
  | some d =>
    rw [e] at hc
    dsimp only at hc
    by_cases hd : d < 10
    · rw [if_pos hd, Bool.and_eq_true] at hc
      exact .inr ⟨d, rfl, hd, of_decide_eq_true hc.1, of_decide_eq_true hc.2⟩
    · rw [if_neg hd] at hc
      exact .inl ⟨.inr ⟨d, rfl, by omega⟩, of_decide_eq_true hc⟩
def valN (base : Nat) (ds : List Nat) : Nat := ds.foldl (fun acc d => acc * base + d) 0
/-- the model's state beside the machine's -/
def Same (base : Nat) : Option (Array Nat × Bool) → Option (Nat × Bool) → Prop
  | none, none => True
  | some p, some q => q = (valN base p.1.toList, p.2)
  | _, _ => False
theorem step_same {base : Nat} (hb : base = 10 ∨ base = 16) {p : Array Nat × Bool} {c : Nat} (hc : c < 128) : Same base (NumText.step base p c) (numS (figs base) (some (valN base p.1.toList, p.2)) (lowA c)) := by
  have hlen : (figs base).length = base := by rcases hb with rfl | rfl <;> decide
  have hlow : lowA c = 95 ↔ c = 95 := by unfold lowA; split <;> omega
  have hfig : ((NumText.digit? c = none ∨ ∃ d, NumText.digit? c = some d ∧ base ≤ d) ∧ lowA c ∉ figs base) ∨ ∃ d, NumText.digit? c = some d ∧ d < base ∧ lowA c ∈ figs base ∧ figV (figs base) (lowA c) = d := by
    rcases hb with rfl | rfl
    · exact figs_10 ⟨c, hc⟩
    · exact figs_16 ⟨c, hc⟩
  show Same base (NumText.step base p c) (if lowA c = 95 then (if p.2 then some (valN base p.1.toList, false) else none) else if lowA c ∈ figs base then some (valN base p.1.toList * (figs base).length + figV (figs base) (lowA c), true) else none)
  unfold NumText.step
  by_cases h95 : c = 95
  · rw [if_pos (hlow.mpr h95), if_pos (by simpa using h95)]
    cases hp : p.2
    · simp only [Bool.false_eq_true, if_false]; trivial
    · simp only [if_true]; rfl
  · rw [if_neg (fun z => h95 (hlow.mp z)), if_neg (by simpa using h95)]
    rcases hfig with ⟨hd, hn⟩ | ⟨d, hd, hlt, hm, hv⟩
    · rw [if_neg hn]
      rcases hd with hd | ⟨d, hd, hge⟩
      · rw [hd]; trivial
      · rw [hd]
        dsimp only
        rw [if_neg (by omega)]
        trivial
    · rw [if_pos hm, hd]
      dsimp only
      rw [if_pos hlt, hlen, hv]
      show _ = (valN base (p.1.push d).toList, true)
      rw [Array.toList_push]
      unfold valN
      rw [List.foldl_append]
      rfl
theorem fold_same {base : Nat} (hb : base = 10 ∨ base = 16) : ∀ (cs : List Nat) (p : Array Nat × Bool), (∀ c ∈ cs, c < 128) → Same base (cs.foldlM (NumText.step base) p) ((cs.map lowA).foldl (numS (figs base)) (some (valN base p.1.toList, p.2))) := by
  intro cs
  induction cs with
  | nil => intro p _; rfl
  | cons c cs ih =>
    intro p hc
    have h1 := step_same hb (p := p) (hc c (.head _))
    rw [List.foldlM_cons, List.map_cons, List.foldl_cons]
    cases hs : NumText.step base p c with
    | none =>
      rw [hs] at h1
      cases hq : numS (figs base) (some (valN base p.1.toList, p.2)) (lowA c) with
      | none => rw [numS_none]; trivial
      | some q => rw [hq] at h1; exact h1.elim
    | some p' =>
      rw [hs] at h1
      cases hq : numS (figs base) (some (valN base p.1.toList, p.2)) (lowA c) with
      | none => rw [hq] at h1; exact h1.elim
      | some q =>
        rw [hq] at h1
        have e : q = (valN base p'.1.toList, p'.2) := h1
        rw [e]
        exact ih p' fun c' h => hc c' (.tail _ h)
/-- the model's figures of a text, as a number, are what the machine reads of the text in small letters -/
theorem digits_num {base : Nat} (hb : base = 10 ∨ base = 16) (cs : List Nat) (hc : ∀ c ∈ cs, c < 128) : (NumText.digits? base cs).map (fun ds => valN base ds.toList) = numE ((cs.map lowA).foldl (numS (figs base)) (some (0, false))) := by
  have h := fold_same hb cs (#[], false) hc
  unfold NumText.digits?
  cases hs : cs.foldlM (NumText.step base) ((#[] : Array Nat), false) with
  | none =>
    rw [hs] at h
    cases hq : (cs.map lowA).foldl (numS (figs base)) (some (0, false)) with
    | none => rfl
    | some q => rw [show (cs.map lowA).foldl (numS (figs base)) (some (valN base (#[] : Array Nat).toList, false)) = some q from hq] at h; exact h.elim
  | some p =>
    rw [hs] at h
    cases hq : (cs.map lowA).foldl (numS (figs base)) (some (0, false)) with
    | none => rw [show (cs.map lowA).foldl (numS (figs base)) (some (valN base (#[] : Array Nat).toList, false)) = none from hq] at h; exact h.elim
    | some q =>
      rw [show (cs.map lowA).foldl (numS (figs base)) (some (valN base (#[] : Array Nat).toList, false)) = some q from hq] at h
      have e : q = (valN base p.1.toList, p.2) := h
      subst e
      show Option.map _ (if p.2 = true then some p.1 else none) = (if p.2 = true then some (valN base p.1.toList) else none)
      cases p.2 <;> rfl
end Mine

namespace Mine
open PySem PySem.W PySem.Spec PySem.Calls PyProof.Rows
section
variable {o oc : Obj} {g h : Heap} {L : Addr} {m : Str → Option Value} {news : List (Addr × Obj)}
end
section
variable {M : Model} {A : Around} {E : Value → Shared → Prop} {s : Shared}
end
end Mine

namespace Mine
open PySem PySem.W PySem.Spec PySem.Calls PyProof.Rows
section
variable {o oc : Obj} {base g h : Heap} {outer : List Env} {A : Around}
end
section
variable {p : Program} {loose : List Str} {mean : ExcName → Option Value} {mg mb : Str → Option Value} {h h' : Heap}
end
end Mine

namespace Mine
open PySem PySem.W PySem.Spec PySem.Calls PySem.NumText PyProof.Rows
section
variable {prog : Program} {w : World} {A : Around} {E : Value → Shared → Prop} {s : Shared} {Q : Value → Shared → Prop} {x : Str} {u : Tok} {text : List Nat} {base : Nat}
end
end Mine

namespace Mine
open PySem PySem.W PySem.Calls PySem.NumText PyProof.Rows
structure Hid8 (p : Prop) : Prop where
  out : p
theorem wp_good {M : Model} {A : Around} {E : Value → Shared → Prop} {s : Shared} {Q : Value → Shared → Prop} {v : Value} {text : List Nat} {n : Int} {base : Nat}
    (hs : (text.takeWhile (· != 0)).length ≤ 640) (hr : (int_private% "readNumeral") 0 base (text.takeWhile (· != 0)) = (int_private% "Numeral.value") n)
    (ha : ((text.takeWhile (· != 0)).length == text.length) = true) (h : Q (.int n s.toks) { s with toks := s.toks + 1 }) :
    wpAny M A ((int_private% "intFromText") v text base) Q E s := by
  obtain ⟨hp, g, d, tk, os⟩ := s
  repeat (any_goals (first
    | assumption
    | (with_reducible refine wpAny_ite_true (decide_eq_true hs) ?_)
    | wp_step))
  all_goals (try rw [hr])
  all_goals (try dsimp only)
  repeat (any_goals (first
    | assumption
    | (with_reducible refine wpAny_ite_true (decide_eq_true ha) ?_)
    | wp_step))
set_option maxHeartbeats 4000000 in
theorem gives_good2 {x : Str} {u v : Tok} {n : Int} (hs : (numSeenOf x).length ≤ 640) (hr : (int_private% "readNumeral") 0 16 (numSeenOf x) = (int_private% "Numeral.value") n) (ha : ((numSeenOf x).length == (numTextOf x).length) = true) :
    Gives (Builtin.«int.__new__» ⟨[.type "int", .str x u, .int 16 v], []⟩) (.int n) :=
  .of_wp fun M A E s Q h => by
    obtain ⟨hp, g, d, tk, os⟩ := s
    have f1 := F.conv_sub_int
    have f2 := F.madeHere_int
    have f6 : typeOf (.str x u) = pure (.type "str") := rfl
    have hk := Hid8.mk (And.intro hs (And.intro hr ha))
    clear hs hr ha
    repeat (any_goals (first
      | assumption
      | ((with_reducible show wpAny _ _ ((int_private% "intFromText") _ _ _) _ _ _); refine wp_good hk.out.1 hk.out.2.1 hk.out.2.2 ?_)
      | wp_step))
    all_goals first | exact ⟨_, rfl, h⟩ | skip
theorem newCall_int_2 (a b : Value) : checkBuiltinCall "int.__new__" ⟨[.type "int", a, b], []⟩ = pure () := by kernel_rfl
theorem typeCall_int_2 (a b : Value) : checkTypeCall "int" ⟨[a, b], []⟩ = pure () := by kernel_rfl
theorem args_object_init_3 (o a b : Value) : argsOk "object.__init__" ⟨[o, a, b], []⟩ := by unfold argsOk; kernel_rfl
section
variable {prog : Program} {w : World} {A : Around} {E : Value → Shared → Prop} {s : Shared} {Q : Value → Shared → Prop} {x : Str} {t u : Tok} {n : Int}
theorem call_int_2 {y z : Value} {S : PySem.Spec} (g : PySem.Meets (Builtin.«int.__new__» ⟨[.type "int", y, z], []⟩) S) (h : S A.in1 (wants (fun obj s₁ => s₁.TypeIs obj "int" ∧ Q obj s₁) E) s) :
    wpAny (model prog w) A (call (.type "int") [y, z]) Q E s :=
  callType_new F.called_int F.newNe_int (typeCall_int_2 y z) (newCall_int_2 y z) (fun obj => args_object_init_3 obj y z) F.entry_int_new g h
theorem int_good2 (hl : x.length ≤ 640) (hr : (int_private% "readNumeral") 0 16 (numSeenOf x) = (int_private% "Numeral.value") n) (ha : ((numSeenOf x).length == (numTextOf x).length) = true) (h : Q (.int n s.toks) { s with toks := s.toks + 1 }) :
    wpAny (model prog w) A (call (.type "int") [.str x t, .int 16 u]) Q E s :=
  call_int_2 (gives_good2 (Nat.le_trans (seen_length x) hl) hr ha).meets (show (Made.int n).post _ s from ⟨rfl, h⟩)
end
end Mine

namespace Mine
open PySem PySem.W PySem.Calls PySem.NumText PyProof.Rows
def wsB (c : Nat) : Bool := c == 32 || c == 10 || c == 9 || c == 13
def rstripL (l : List Nat) : List Nat := (l.reverse.dropWhile wsB).reverse
/-- the signs that may stand in a text of the law -/
def okC (c : Nat) : Prop := c < 128 ∧ c ≠ 0 ∧ c ≠ 11 ∧ c ≠ 12
theorem blank_ws {c : Nat} (h : okC c) : blank c = wsB c := by
  obtain ⟨h1, h2, h3, h4⟩ := h
  unfold blank wsB
  rw [Bool.eq_iff_iff]
  simp
  omega
theorem dropWhile_blank {l : List Nat} (h : ∀ c ∈ l, okC c) : l.dropWhile blank = l.dropWhile wsB := by
  induction l with
  | nil => rfl
  | cons c l ih =>
    rw [List.dropWhile_cons, List.dropWhile_cons, blank_ws (h c (.head _)), ih fun c' h' => h c' (.tail _ h')]
theorem rstrip_blank {l : List Nat} (h : ∀ c ∈ l, okC c) : (l.reverse.dropWhile blank).reverse = rstripL l := by
  unfold rstripL
  rw [dropWhile_blank fun c hc => h c (List.mem_reverse.mp hc)]
theorem rstrip_sub {l : List Nat} {c : Nat} (h : c ∈ rstripL l) : c ∈ l := by
  unfold rstripL at h
  have := (List.dropWhile_sublist wsB).subset (List.mem_reverse.mp h)
  exact List.mem_reverse.mp this
theorem rstrip_cons {c : Nat} {l : List Nat} (hc : wsB c = false) : rstripL (c :: l) = c :: rstripL l := by
  unfold rstripL
  rw [List.reverse_cons]
  have : ∀ (m : List Nat), (m ++ [c]).dropWhile wsB = m.dropWhile wsB ++ [c] := by
    intro m
    induction m with
    | nil => simp [List.dropWhile_cons, hc]
    | cons d m ih =>
      rw [List.cons_append, List.dropWhile_cons, List.dropWhile_cons]
      split
      · exact ih
      · rfl
  rw [this, List.reverse_append]
  rfl
/-- what the machine reads of a list, in small letters -/
def readL (base : Nat) (l : List Nat) : Option Nat := numE ((l.map lowA).foldl (numS (figs base)) (some (0, false)))
def numOut (neg : Bool) (r : Option Nat) : int_private% "Numeral" := match r with
  | some n => (int_private% "Numeral.value") (if neg then -(n : Int) else (n : Int))
  | none => int_private% "Numeral.invalid"
theorem judge_16 (ds? : Option (Array Nat)) : judge 0 false 16 false ds? = numOut false (ds?.map fun ds => valN 16 ds.toList) := by
  cases ds? with
  | none => rfl
  | some ds =>
    unfold judge
    dsimp only
    rw [if_neg (by simp), if_neg (by simp), if_neg (by simp)]
    unfold numOut valN
    dsimp only [Option.map_some]
    rw [← Array.foldl_toList]
theorem judge_10 (neg : Bool) (ds? : Option (Array Nat)) (h : ∀ ds, ds? = some ds → ds.size ≤ 6000) : judge 0 neg 10 false ds? = numOut neg (ds?.map fun ds => valN 10 ds.toList) := by
  cases ds? with
  | none => rfl
  | some ds =>
    have hs := h ds rfl
    unfold judge
    dsimp only
    rw [if_neg (by simp), if_neg (by simp; omega), if_neg (by simp)]
    unfold numOut valN
    dsimp only [Option.map_some]
    rw [← Array.foldl_toList]
def drop95 : List Nat → List Nat
  | 95 :: r => r
  | r => r
theorem drop95_ne {d : Nat} {r : List Nat} (h : d ≠ 95) : drop95 (d :: r) = d :: r := by
  unfold drop95
  split
  · rename_i e; cases e; exact absurd rfl h
  · rfl
theorem based_16 {t : List Nat} (h : prefix? t = some 16) : based 16 t = (16, false, drop95 (t.drop 2)) := by
  unfold based
  rw [h]
  show (16, false, _) = (16, false, _)
  congr 2
/-- a first sign that is no underscore does not ask what stands before it -/
theorem numS_first (fig : List Nat) {c : Nat} (hc : c ≠ 95) (n : Nat) (b b' : Bool) : numS fig (some (n, b)) c = numS fig (some (n, b')) c := by
  show (if c = 95 then _ else _) = (if c = 95 then _ else _)
  rw [if_neg hc, if_neg hc]
theorem hex_read {c : Nat} {r : List Nat} (hc : c = 120 ∨ c = 88) (hr : ∀ d ∈ r, okC d) :
    (int_private% "readNumeral") 0 16 (48 :: c :: r) = numOut false (readL 16 (if rstripL r = [] then [] else 48 :: rstripL r)) := by
  rw [readNumeral_eq]
  have e1 : (48 :: c :: r).dropWhile blank = 48 :: c :: r := by rw [List.dropWhile_cons]; rfl
  have e2 : sign (48 :: c :: r) = (false, 48 :: c :: r) := rfl
  have e3 : prefix? (48 :: c :: r) = some 16 := by
    show (if (c == 120 || c == 88) = true then _ else _) = _
    rw [if_pos (by simpa using hc)]
  have e4 : based 16 (48 :: c :: r) = (16, false, drop95 r) := based_16 e3
  rw [e1, e2]
  dsimp only
  rw [e4]
  dsimp only
  rw [judge_16]
  congr 1
  have hd : ∀ (q : List Nat), (∀ d ∈ q, okC d) → (digits? 16 ((q.reverse.dropWhile blank).reverse)).map (fun ds => valN 16 ds.toList) = readL 16 (rstripL q) := by
    intro q hq
    rw [rstrip_blank hq, digits_num (.inr rfl) _ fun c' h' => (hq c' (rstrip_sub h')).1]
    rfl
  cases r with
  | nil => rfl
  | cons d r =>
    by_cases h95 : d = 95
    · subst h95
      show Option.map _ (digits? 16 ((r.reverse.dropWhile blank).reverse)) = _
      rw [hd r fun d hd' => hr d (.tail _ hd')]
      rw [rstrip_cons (by rfl), if_neg (by simp)]
      rfl
    · rw [drop95_ne h95, hd (d :: r) hr]
      by_cases hz : rstripL (d :: r) = []
      · rw [if_pos hz, hz]
      · rw [if_neg hz]
        have hws : ∃ q, rstripL (d :: r) = d :: q := by
          cases hw : wsB d with
          | false => exact ⟨_, rstrip_cons hw⟩
          | true =>
            -- a blank stands first: it stays where something follows
            have : ∀ (m : List Nat), (m ++ [d]).dropWhile wsB = [] ∨ ∃ m', (m ++ [d]).dropWhile wsB = m' ++ [d] := by
              intro m
              induction m with
              | nil => left; simp [List.dropWhile_cons, hw]
              | cons e m ih =>
                rw [List.cons_append, List.dropWhile_cons]
                split
                · exact ih
                · exact .inr ⟨e :: m, rfl⟩
            rcases this r.reverse with h | ⟨m', h⟩
            · exfalso; apply hz; unfold rstripL; rw [List.reverse_cons, h]; rfl
            · exact ⟨m'.reverse, by unfold rstripL; rw [List.reverse_cons, h, List.reverse_append]; rfl⟩
        obtain ⟨q, hq⟩ := hws
        rw [hq]
        have hl : lowA d ≠ 95 := by unfold lowA; split <;> omega
        unfold readL
        rw [List.map_cons, List.map_cons, List.map_cons, List.foldl_cons, List.foldl_cons, List.foldl_cons]
        have e6 : numS (figs 16) (some (0, false)) (lowA 48) = some (0, true) := by decide +kernel
        rw [e6, numS_first _ hl 0 false true]
theorem sign_strip {t : List Nat} (ht : ∀ d ∈ t, okC d) : (sign (t.dropWhile blank)).1 = (sign (rstripL (t.dropWhile wsB))).1 ∧ core t = (sign (rstripL (t.dropWhile wsB))).2 := by
  have e0 := dropWhile_blank ht
  unfold core
  rw [e0]
  have hsub : ∀ d ∈ t.dropWhile wsB, okC d := fun d hd => ht d ((List.dropWhile_sublist wsB).subset hd)
  have hhead : ∀ c r, t.dropWhile wsB = c :: r → wsB c = false := by
    intro c r h
    have := List.head?_dropWhile_not wsB t
    rw [h] at this
    simpa using this
  generalize t.dropWhile wsB = q at *
  cases q with
  | nil => exact ⟨rfl, rfl⟩
  | cons c r =>
    have hw := hhead c r rfl
    have hr : ∀ d ∈ r, okC d := fun d hd => hsub d (.tail _ hd)
    rw [rstrip_cons hw]
    by_cases h1 : c = 45
    · subst h1
      exact ⟨rfl, rstrip_blank hr⟩
    · by_cases h2 : c = 43
      · subst h2
        exact ⟨rfl, rstrip_blank hr⟩
      · have e : ∀ m : List Nat, sign (c :: m) = (false, c :: m) := by
          intro m
          unfold sign
          split
          · rename_i h; cases h; exact absurd rfl h1
          · rename_i h; cases h; exact absurd rfl h2
          · rfl
        rw [e, e]
        refine ⟨rfl, ?_⟩
        dsimp only
        rw [rstrip_blank hsub, rstrip_cons hw]
theorem dec_read {t : List Nat} (ht : ∀ d ∈ t, okC d) (hl : t.length ≤ 6000) :
    (int_private% "readNumeral") 0 10 t = numOut (sign (rstripL (t.dropWhile wsB))).1 (readL 10 (sign (rstripL (t.dropWhile wsB))).2) := by
  obtain ⟨e1, e2⟩ := sign_strip ht
  have hsub : ∀ d ∈ core t, d ∈ t := by
    intro d hd
    unfold core at hd
    have h1 := (List.dropWhile_sublist blank).subset (List.mem_reverse.mp hd)
    have h2 := List.mem_reverse.mp h1
    have h3 : d ∈ t.dropWhile blank := by
      unfold sign at h2
      split at h2
      · rename_i h; rw [h]; exact .tail _ h2
      · rename_i h; rw [h]; exact .tail _ h2
      · exact h2
    exact (List.dropWhile_sublist blank).subset h3
  rw [readNumeral_ten, judge_10]
  · rw [digits_num (.inl rfl) _ fun c hc => (ht c (hsub c hc)).1, e1, e2]
    rfl
  · intro ds hds
    refine Nat.le_trans (digits_size hds) (Nat.le_trans ?_ hl)
    unfold core
    rw [List.length_reverse]
    refine Nat.le_trans (len_dropWhile _ _) ?_
    rw [List.length_reverse]
    exact Nat.le_trans (sign_length _) (len_dropWhile _ _)
end Mine

namespace Mine
open PySem PySem.W PySem.Calls PySem.NumText PyProof.Rows PySem.Builtin PySem.Builtin.Str
theorem join_cps (l : List Str) : (Str.join (Str.ofString "_") l).cps.toList = joinL (l.map (·.cps.toList)) := by
  induction l with
  | nil => rfl
  | cons x r ih =>
    cases r with
    | nil => rfl
    | cons y r =>
      show (x ++ Str.ofString "_" ++ Str.join (Str.ofString "_") (y :: r)).cps.toList = x.cps.toList ++ 95 :: joinL ((y :: r).map (·.cps.toList))
      rw [← ih]
      show ((x.cps ++ (Str.ofString "_").cps) ++ (Str.join (Str.ofString "_") (y :: r)).cps).toList = _
      rw [Array.toList_append, Array.toList_append]
      show (x.cps.toList ++ [95]) ++ _ = _
      simp
/-- what the law reads of the groups is what the machine reads of the text -/
theorem law_split (fig : List Nat) (y : Str) : lawF fig ((Txt.split y (Str.ofString "_")).map (·.cps.toList)) = numE (y.cps.toList.foldl (numS fig) (some (0, false))) := by
  have e0 : Str.ofString "_" = ⟨#[95]⟩ := by decide
  have e1 := StrLaws.join_split y (Str.ofString "_")
  have e2 : joinL ((Txt.split y (Str.ofString "_")).map (·.cps.toList)) = y.cps.toList := by rw [← join_cps, e1]
  unfold lawF
  rw [← num_groups fig, e2]
  · intro e
    have := split_pos y (Str.ofString "_")
    have h0 := List.map_eq_nil_iff.mp e
    rw [h0] at this
    exact absurd this (by decide)
  · intro g hg
    obtain ⟨p, hp, rfl⟩ := List.mem_map.mp hg
    rw [e0] at hp
    exact StrLaws.split_free y 95 p hp
theorem lower_one : ∀ c : Fin 128, Unicode.lowerOf c.1 = [lowA c.1] := by decide +kernel
theorem lower_cps (x : Str) (h : ∀ c ∈ x.cps.toList, c < 128) : (Txt.lower x).cps.toList = x.cps.toList.map lowA := by
  show ((x.cps.mapIdx fun i c => (Unicode.lowerAt x.cps i).toArray).flatten).toList = _
  have e : (x.cps.mapIdx fun i c => (Unicode.lowerAt x.cps i).toArray) = x.cps.map fun c => #[lowA c] := by
    apply Array.ext
    · simp
    · intro i h1 h2
      have hi : i < x.cps.size := by simpa using h1
      simp only [Array.getElem_mapIdx, Array.getElem_map]
      have hc : x.cps[i] < 128 := h _ (by simp)
      unfold Unicode.lowerAt
      rw [Array.getElem?_eq_getElem hi]
      dsimp only
      rw [if_neg (by simp; intro hh; omega), lower_one ⟨_, hc⟩]
  rw [e]
  simp
  induction x.cps.toList with
  | nil => rfl
  | cons c l ih => simp [ih]
theorem drop_takeWhile (p : Nat → Bool) (l : List Nat) : l.drop (l.takeWhile p).length = l.dropWhile p := by
  induction l with
  | nil => rfl
  | cons c l ih =>
    rw [List.takeWhile_cons, List.dropWhile_cons]
    split
    · exact ih
    · rfl
theorem ws_has (c : Nat) : (Str.ofString " \n\t\r").cps.contains c = wsB c := by
  have e : (Str.ofString " \n\t\r").cps = #[32, 10, 9, 13] := by decide
  rw [e]
  unfold wsB
  rw [Bool.eq_iff_iff]
  simp [or_assoc]
theorem take_rev (l : List Nat) : l.take (l.length - (l.reverse.takeWhile wsB).length) = rstripL l := by
  unfold rstripL
  rw [← drop_takeWhile wsB l.reverse, List.reverse_drop, List.reverse_reverse, List.length_reverse]
theorem strip_cps (x : Str) : (Txt.stripChars x (Str.ofString " \n\t\r")).cps.toList = rstripL (x.cps.toList.dropWhile wsB) := by
  unfold Txt.stripChars
  rw [PyProof.Rows.stripBy_eq]
  have hw : (Str.ofString " \n\t\r").cps.contains = wsB := funext ws_has
  rw [hw]
  show (x.cps.extract (stripLo wsB true x) (stripHi wsB true x (stripLo wsB true x))).toList = _
  unfold stripHi stripLo
  simp only [if_true]
  rw [Array.toList_extract, List.extract_eq_take_drop, drop_takeWhile]
  rw [← take_rev]
  congr 1
  have h1 : x.length = x.cps.toList.length := by simp [Str.length]
  have h2 : (x.cps.toList.dropWhile wsB).length + (x.cps.toList.takeWhile wsB).length = x.cps.toList.length := by
    have := congrArg List.length (List.takeWhile_append_dropWhile (p := wsB) (l := x.cps.toList))
    rw [List.length_append] at this
    omega
  omega
theorem rstrip_cps (x : Str) : (Txt.rstripChars x (Str.ofString " \n\t\r")).cps.toList = rstripL x.cps.toList := by
  unfold Txt.rstripChars
  rw [PyProof.Rows.stripBy_eq]
  have hw : (Str.ofString " \n\t\r").cps.contains = wsB := funext ws_has
  rw [hw]
  show (x.cps.extract (stripLo wsB false x) (stripHi wsB true x (stripLo wsB false x))).toList = _
  unfold stripHi stripLo
  simp only [if_true, Bool.false_eq_true, if_false]
  rw [Array.toList_extract, List.extract_eq_take_drop]
  simp only [List.drop_zero, Nat.sub_zero]
  rw [← take_rev]
  first | rfl | (congr 1; simp [Str.length])
end Mine

namespace Mine
open PySem PySem.W PySem.Calls PySem.NumText PyProof.Rows PySem.Builtin PySem.Builtin.Str
theorem seen_ok {x : Str} (h : ∀ c ∈ x.cps.toList, okC c) : numTextOf x = x.cps.toList ∧ numSeenOf x = x.cps.toList := by
  have e1 : numTextOf x = x.cps.toList := by
    unfold numTextOf
    rw [if_pos]
    rw [Array.all_eq_true]
    intro i hi
    exact decide_eq_true (h _ (by simp)).1
  refine ⟨e1, ?_⟩
  unfold numSeenOf
  rw [e1]
  have : ∀ l : List Nat, (∀ c ∈ l, okC c) → l.takeWhile (· != 0) = l := by
    intro l
    induction l with
    | nil => intro _; rfl
    | cons c l ih =>
      intro hl
      rw [List.takeWhile_cons, if_pos (by simpa using (hl c (.head _)).2.1), ih fun c' h' => hl c' (.tail _ h')]
  exact this _ h
theorem law_read {base : Nat} {Fig B : Str} (hF : Fig.cps.toList = figs base) (hB : ∀ c ∈ B.cps.toList, c < 128) : lawF Fig.cps.toList ((Txt.split (Txt.lower B) (Str.ofString "_")).map (·.cps.toList)) = readL base B.cps.toList := by
  rw [law_split, lower_cps B hB, hF]
  rfl
/-- how the law's reading stands beside the model's -/
def Reads8 (base : Nat) (x : Str) (r : Value) : Prop := (r = .none ∧ (int_private% "readNumeral") 0 base (numSeenOf x) = int_private% "Numeral.invalid") ∨ ∃ n t, r = .int n t ∧ (int_private% "readNumeral") 0 base (numSeenOf x) = (int_private% "Numeral.value") n
theorem reads_of {base : Nat} {x : Str} {r : Value} {b : Bool} {o : Option Nat} (h : (o = none ∧ r = .none) ∨ ∃ n t, o = some n ∧ r = .int (if b then -(n : Int) else (n : Int)) t) (hr : (int_private% "readNumeral") 0 base (numSeenOf x) = numOut b o) : Reads8 base x r := by
  rcases h with ⟨rfl, h2⟩ | ⟨n, t, rfl, h2⟩
  · exact .inl ⟨h2, hr⟩
  · exact .inr ⟨_, t, h2, hr⟩
theorem two_of {x y : Str} (h : (Txt.slice x none (some 2) == y) = true) : x.cps.toList.take 2 = y.cps.toList := by
  have := slice_take x 2 (by decide)
  rw [eq_of_beq h] at this
  exact this.symm
theorem hex_law {x : Str} {r : Value} (hok : ∀ c ∈ x.cps.toList, okC c) (hx : (Txt.slice x none (some 2) == Str.ofString "0x") = true ∨ (Txt.slice x none (some 2) == Str.ofString "0X") = true) (h : NumOut x r) : Reads8 16 x r := by
  obtain ⟨Fig, B, b, hp, hv⟩ := h
  have ht : ∃ c q, (c = 120 ∨ c = 88) ∧ x.cps.toList = 48 :: c :: q := by
    have key : ∀ c, x.cps.toList.take 2 = [48, c] → x.cps.toList = 48 :: c :: x.cps.toList.drop 2 := by
      intro c e
      have := List.take_append_drop 2 x.cps.toList
      rw [e] at this
      exact this.symm
    rcases hx with h | h
    · exact ⟨120, _, .inl rfl, key _ (two_of h)⟩
    · exact ⟨88, _, .inr rfl, key _ (two_of h)⟩
  obtain ⟨c, q, hc, ht⟩ := ht
  have hq : ∀ d ∈ q, okC d := fun d hd => hok d (by rw [ht]; exact .tail _ (.tail _ hd))
  rcases hp with ⟨_, hF, hb, hB⟩ | ⟨⟨h1, h2⟩, _⟩
  · subst hb
    have hz : (Txt.rstripChars (Txt.slice x (some 2) none) (Str.ofString " \n\t\r")).cps.toList = rstripL q := by
      rw [rstrip_cps, slice_drop x 2 (by decide), ht]
      rfl
    have hBc : B.cps.toList = if rstripL q = [] then [] else 48 :: rstripL q := by
      rcases hB with ⟨hne, rfl⟩ | ⟨he, rfl⟩
      · have : rstripL q ≠ [] := by
          intro e
          rw [e] at hz
          have hz2 : Txt.rstripChars (Txt.slice x (some 2) none) (Str.ofString " \n\t\r") = Str.ofString "" := (by cases hc9 : Txt.rstripChars (Txt.slice x (some 2) none) (Str.ofString " \n\t\r") with | mk cp => rw [hc9] at hz; exact congrArg Str.mk (Array.toList_inj.mp hz))
          rw [hz2] at hne
          exact absurd hne (by decide)
        rw [if_neg this, ← hz]
        show ((Str.ofString "0").cps ++ _).toList = _
        rw [Array.toList_append]
        rfl
      · have hz2 : Txt.rstripChars (Txt.slice x (some 2) none) (Str.ofString " \n\t\r") = Str.ofString "" := by
          have := bne_eq_false_iff_eq.mp he
          exact this
        rw [hz2] at hz ⊢
        have : rstripL q = [] := by rw [← hz]; rfl
        rw [if_pos this]; rfl
    have hB8 : ∀ c ∈ B.cps.toList, c < 128 := by
      intro d hd
      rw [hBc] at hd
      split at hd
      · cases hd
      · rcases List.mem_cons.mp hd with rfl | hd
        · decide
        · exact (hq d (rstrip_sub hd)).1
    rw [law_read (base := 16) (by rw [hF]; rfl) hB8, hBc] at hv
    refine reads_of hv ?_
    rw [(seen_ok hok).2, ht, hex_read hc hq]
  · rcases hx with h | h
    · rw [h1] at h; cases h
    · rw [h2] at h; cases h
theorem one_of {x y : Str} (h : (Txt.slice x none (some 1) == y) = true) : x.cps.toList.take 1 = y.cps.toList := by
  have := slice_take x 1 (by decide)
  rw [eq_of_beq h] at this
  exact this.symm
theorem one_not {x y : Str} (h : (Txt.slice x none (some 1) == y) = false) : x.cps.toList.take 1 ≠ y.cps.toList := by
  intro e
  have e2 := slice_take x 1 (by decide)
  have e3 : (Txt.slice x none (some 1)).cps.toList = y.cps.toList := e2.trans e
  have e4 : Txt.slice x none (some 1) = y := by
    cases hc : Txt.slice x none (some 1) with
    | mk cp => rw [hc] at e3; cases y; exact congrArg Str.mk (Array.toList_inj.mp e3)
  rw [e4] at h
  exact absurd h (by simp)
theorem dec_law {x : Str} {r : Value} (hok : ∀ c ∈ x.cps.toList, okC c) (hl : x.length ≤ 640) (h1 : (Txt.slice x none (some 2) == Str.ofString "0x") = false) (h2 : (Txt.slice x none (some 2) == Str.ofString "0X") = false) (h : NumOut x r) : Reads8 10 x r := by
  obtain ⟨Fig, B, b, hp, hv⟩ := h
  have hlen : x.cps.toList.length ≤ 6000 := by
    have : x.cps.toList.length = x.length := Array.length_toList
    omega
  have hS := strip_cps x
  rcases hp with ⟨h | h, _⟩ | ⟨_, hF, hB⟩
  · rw [h1] at h; cases h
  · rw [h2] at h; cases h
  · have key : b = (sign (rstripL (x.cps.toList.dropWhile wsB))).1 ∧ B.cps.toList = (sign (rstripL (x.cps.toList.dropWhile wsB))).2 := by
      rw [← hS]
      generalize Txt.stripChars x (Str.ofString " \n\t\r") = S at hB
      rcases hB with ⟨hs, hb, rfl⟩ | ⟨hs, hb, rfl⟩ | ⟨hs1, hs2, hb, rfl⟩
      · have e := one_of hs
        rw [slice_drop S 1 (by decide)]
        cases hq : S.cps.toList with
        | nil => rw [hq] at e; cases e
        | cons c q =>
          rw [hq] at e
          have : c = 43 := by cases e; rfl
          subst this
          exact ⟨by rw [hb]; rfl, rfl⟩
      · have e := one_of hs
        rw [slice_drop S 1 (by decide)]
        cases hq : S.cps.toList with
        | nil => rw [hq] at e; cases e
        | cons c q =>
          rw [hq] at e
          have : c = 45 := by cases e; rfl
          subst this
          exact ⟨by rw [hb]; rfl, rfl⟩
      · have e1 := one_not hs1
        have e2 := one_not hs2
        cases hq : B.cps.toList with
        | nil => exact ⟨hb, rfl⟩
        | cons c q =>
          rw [hq] at e1 e2
          have h1 : c ≠ 43 := fun z => e1 (by rw [z]; rfl)
          have h2 : c ≠ 45 := fun z => e2 (by rw [z]; rfl)
          have e : sign (c :: q) = (false, c :: q) := by
            unfold sign
            split
            · rename_i h; cases h; exact absurd rfl h2
            · rename_i h; cases h; exact absurd rfl h1
            · rfl
          rw [e]
          exact ⟨hb, rfl⟩
    obtain ⟨k1, k2⟩ := key
    have hB8 : ∀ c ∈ B.cps.toList, c < 128 := by
      intro d hd
      rw [k2] at hd
      have h3 : d ∈ rstripL (x.cps.toList.dropWhile wsB) := by
        unfold sign at hd
        split at hd
        · rename_i h; rw [h]; exact .tail _ hd
        · rename_i h; rw [h]; exact .tail _ hd
        · exact hd
      exact (hok d ((List.dropWhile_sublist wsB).subset (rstrip_sub h3))).1
    rw [law_read (base := 10) (by rw [hF]; rfl) hB8] at hv
    refine reads_of hv ?_
    rw [(seen_ok hok).2, dec_read hok hlen, k1, k2]
end Mine

namespace Mine
open PySem PySem.W PySem.Calls PySem.NumText PyProof.Rows PySem.Builtin PySem.Builtin.Str
theorem piece_okC : ∀ p ∈ pieceL, p.length ≤ 2 ∧ (∀ c ∈ p.cps.toList, c < 128 ∧ c ≠ 0 ∧ c ≠ 11 ∧ c ≠ 12) := by decide +kernel
section
variable {N : Nat} {ss : List Str}
theorem Good.sum (h : Good N ss) : (ss.map (·.length)).sum ≤ 2 * ss.length := by
  obtain ⟨h, hz⟩ := h
  clear hz
  induction ss with
  | nil => exact Nat.le_refl _
  | cons p r ih =>
    have h1 := (piece_okC p (h p (.head _))).1
    have h2 := ih fun q hq => h q (.tail _ hq)
    simp only [List.map_cons, List.sum_cons, List.length_cons]
    omega
theorem Good.jsum (h : Good 64 ss) : (ss.map (·.length)).sum + ss.length ≤ 1048576 := by
  have h1 := h.sum
  have h2 := h.2
  omega
theorem chars_len (ss : List Str) : (charsOf ss).length = (ss.map (·.length)).sum := by
  induction ss with
  | nil => rfl
  | cons p r ih =>
    show (p.cps.toList ++ charsOf r).length = _
    rw [List.length_append, ih]
    simp only [List.map_cons, List.sum_cons]
    rw [Array.length_toList]
    rfl
theorem Good.len (h : Good 64 ss) : (Txt.join (Str.ofString "") ss).length ≤ 200 := by
  have h1 := h.sum
  have h2 := h.2
  have h3 : (Txt.join (Str.ofString "") ss).cps.toList.length = (Txt.join (Str.ofString "") ss).length := Array.length_toList
  rw [← h3, join_chars, chars_len]
  omega
theorem Good.okC (h : Good N ss) : ∀ c ∈ (Txt.join (Str.ofString "") ss).cps.toList, okC c := by
  intro c hc
  rw [join_chars] at hc
  obtain ⟨p, hp, hc⟩ := List.mem_flatMap.mp hc
  exact (piece_okC p (h.1 p hp)).2 c hc
end
theorem parse_sub {x Fig B : Str} {b : Bool} (hx : ∀ c ∈ x.cps.toList, c < 128) (h : NumParse x Fig B b) : ∀ c ∈ B.cps.toList, c < 128 := by
  have hS : ∀ c ∈ (Txt.stripChars x (Str.ofString " \n\t\r")).cps.toList, c < 128 := by
    intro c hc
    rw [strip_cps] at hc
    exact hx c ((List.dropWhile_sublist wsB).subset (rstrip_sub hc))
  have hR : ∀ c ∈ (Txt.rstripChars (Txt.slice x (some 2) none) (Str.ofString " \n\t\r")).cps.toList, c < 128 := by
    intro c hc
    rw [rstrip_cps, slice_drop x 2 (by decide)] at hc
    exact hx c ((List.drop_sublist _ _).subset (rstrip_sub hc))
  intro c hc
  rcases h with ⟨_, _, _, ⟨_, rfl⟩ | ⟨_, rfl⟩⟩ | ⟨_, _, ⟨_, _, rfl⟩ | ⟨_, _, rfl⟩ | ⟨_, _, _, rfl⟩⟩
  · have e : (Str.ofString "0" ++ Txt.rstripChars (Txt.slice x (some 2) none) (Str.ofString " \n\t\r")).cps.toList = 48 :: (Txt.rstripChars (Txt.slice x (some 2) none) (Str.ofString " \n\t\r")).cps.toList := by
      show ((Str.ofString "0").cps ++ _).toList = _
      rw [Array.toList_append]; rfl
    rw [e] at hc
    rcases List.mem_cons.mp hc with rfl | hc
    · decide
    · exact hR c hc
  · exact hR c hc
  · rw [slice_drop _ 1 (by decide)] at hc
    exact hS c ((List.drop_sublist _ _).subset hc)
  · rw [slice_drop _ 1 (by decide)] at hc
    exact hS c ((List.drop_sublist _ _).subset hc)
  · exact hS c hc
theorem joinL_mem {c : Nat} : ∀ {l : List (List Nat)} {g : List Nat}, g ∈ l → c ∈ g → c ∈ joinL l
  | [g], _, h, hc => by
    rw [List.mem_singleton.mp h] at hc
    exact hc
  | a :: b :: r, g, h, hc => by
    show c ∈ a ++ 95 :: joinL (b :: r)
    rcases List.mem_cons.mp h with rfl | h
    · exact List.mem_append_left _ hc
    · exact List.mem_append_right _ (.tail _ (joinL_mem h hc))
theorem split_sub {y p : Str} (hp : p ∈ Txt.split y (Str.ofString "_")) {c : Nat} (hc : c ∈ p.cps.toList) : c ∈ y.cps.toList := by
  have e1 := StrLaws.join_split y (Str.ofString "_")
  have e2 : joinL ((Txt.split y (Str.ofString "_")).map (·.cps.toList)) = y.cps.toList := by rw [← join_cps, e1]
  rw [← e2]
  exact joinL_mem (List.mem_map.mpr ⟨p, hp, rfl⟩) hc
theorem lowA_lt : ∀ c : Fin 128, lowA c.1 < 128 := by decide +kernel
theorem split_ok {x : Str} (hx : ∀ c ∈ x.cps.toList, c < 128) : ∀ Fig B b, NumParse x Fig B b → ∀ y ∈ Txt.split (Txt.lower B) (Str.ofString "_"), PyData.strOk y = true := by
  intro Fig B b h y hy
  have hB := parse_sub hx h
  unfold PyData.strOk
  rw [Array.all_eq_true']
  intro c hc
  have h1 := split_sub hy (Array.mem_toList_iff.mpr hc)
  rw [lower_cps B hB] at h1
  obtain ⟨d, hd, rfl⟩ := List.mem_map.mp h1
  have := lowA_lt ⟨d, hB d hd⟩
  simp only [decide_eq_true_eq]
  exact Nat.lt_trans this (by decide)
theorem repr_fits {x : Str} (hl : x.length ≤ 200) (hx : ∀ c ∈ x.cps.toList, c < 128) : (reprText x).length + 40 ≤ sizeLine := by
  have := StrLaws.reprText_len x fun c hc => Nat.lt_trans (hx c hc) (by decide)
  rw [sizeLine_eq]
  omega
end Mine

namespace Mine
open PySem PySem.W PySem.Spec PySem.Calls PyProof.Rows
/-- the claim's caller stands somewhere on the stack -/
def HC (Γ : PySem.Ctx) : Prop := Γ.code.isCaller = true ∨ (Γ.below.any fun x => x.1.isCaller) = true
def HB (Γ : PySem.Ctx) : Prop := (Γ.below.any fun x => x.1.isCaller) = true
theorem HC.enter {Γ : PySem.Ctx} (h : HC Γ) (c : Code) (d : Option Value) (p : Pos) : HB (Γ.enter c d p) := by
  show (Γ.code.isCaller || Γ.below.any fun x => x.1.isCaller) = true
  rcases h with h | h
  · rw [h]; rfl
  · rw [h]; exact Bool.or_true _
def wpC {α : Type} (M : Model) (A : Around) (t : Sem α) (Q : α → Shared → Prop) (E : Value → Shared → Prop) (s : Shared) : Prop :=
  ∀ Γ p, Γ.In A → HC Γ → Sem.wp M Γ t (fun a _ s' => Q a s') (fun e _ s' => E e s') p s
def codeC (M : Model) (A : Around) (c : Code) (R : Result → Shared → Prop) (s : Shared) : Prop :=
  ∀ Γ p, Γ.code = c → Γ.Below A → HB Γ → wpCode M Γ R p s
section
variable {α β : Type} {M : Model} {A : Around} {E : Value → Shared → Prop} {s : Shared}
theorem wpC_any {t : Sem α} {Q : α → Shared → Prop} (h : wpAny M A t Q E s) : wpC M A t Q E s := fun Γ p hΓ _ => h Γ p hΓ
theorem codeC_any {c : Code} {R : Result → Shared → Prop} (h : codeAny M A c R s) : codeC M A c R s := fun Γ p hc hΓ _ => h Γ p hc hΓ
theorem wpC_mono {t : Sem α} {Q Q' : α → Shared → Prop} {E' : Value → Shared → Prop} (h : wpC M A t Q E s) (hQ : ∀ a s, Q a s → Q' a s) (hE : ∀ e s, E e s → E' e s) : wpC M A t Q' E' s :=
  fun Γ p hΓ hc => Sem.wp_mono M Γ t (fun a _ s => hQ a s) (fun e _ s => hE e s) p s (h Γ p hΓ hc)
theorem codeC_mono {c : Code} {R R' : Result → Shared → Prop} (h : codeC M A c R s) (hR : ∀ r s, R r s → R' r s) : codeC M A c R' s :=
  fun Γ p hc hΓ hb => wpCode_mono hR (h Γ p hc hΓ hb)
theorem wpC_bind {m : Sem α} {f : α → Sem β} {Q : β → Shared → Prop} (h : wpC M A m (fun a s' => wpC M A (f a) Q E s') E s) : wpC M A (m >>= f) Q E s := by
  intro Γ p hΓ hc
  rw [Sem.wp_bind']
  exact Sem.wp_mono M Γ m (fun a p' s' k => k Γ p' hΓ hc) (fun _ _ _ k => k) p s (h Γ p hΓ hc)
theorem wpC_bind_any {m : Sem α} {f : α → Sem β} {Q : β → Shared → Prop} (h : wpAny M A m (fun a s' => wpC M A (f a) Q E s') E s) : wpC M A (m >>= f) Q E s := wpC_bind (wpC_any h)
theorem wpC_holding {vs : List Value} {m : Sem α} {Q : α → Shared → Prop} (h : wpC M A m Q E s) : wpC M A (holding vs m) Q E s := by
  intro Γ p hΓ hc
  rw [Sem.wp_holding]
  exact h Γ p hΓ hc
theorem wpC_onRaise {m : Sem α} {k : Value → Sem Unit} {Q : α → Shared → Prop} (h : wpC M A m Q (fun e s' => wpC M A (k e) (fun _ s'' => E e s'') E s') s) : wpC M A (m.onRaise k) Q E s := by
  intro Γ p hΓ hc
  rw [Sem.wp_onRaise]
  exact Sem.wp_mono M Γ m (fun _ _ _ z => z) (fun e p' s' z => z Γ p' hΓ hc) p s (h Γ p hΓ hc)
theorem wpC_attempt {m : Sem α} {Q : Except Value α → Shared → Prop} (h : wpC M A m (fun a => Q (.ok a)) (fun e => Q (.error e)) s) : wpC M A m.attempt Q E s := by
  intro Γ p hΓ hc
  rw [Sem.wp_attempt]
  exact h Γ p hΓ hc
theorem wpC_ite_true {c : Prop} [Decidable c] {a b : Sem α} {Q : α → Shared → Prop} (hc : c) (h : wpC M A a Q E s) : wpC M A (if c then a else b) Q E s := by rw [if_pos hc]; exact h
theorem wpC_ite_false {c : Prop} [Decidable c] {a b : Sem α} {Q : α → Shared → Prop} (hc : ¬c) (h : wpC M A b Q E s) : wpC M A (if c then a else b) Q E s := by rw [if_neg hc]; exact h
theorem wpC_eq {t t' : Sem α} {Q : α → Shared → Prop} (e : t = t') (h : wpC M A t' Q E s) : wpC M A t Q E s := e ▸ h
theorem wpC_run {c : Code} {h : Option Value} {Q : Flow → Shared → Prop} (k : codeC M (A.mark h) c (fun r s' => match r with | .ok f => Q f s' | .error e => E e s') s) (hnb : h ≠ some byPass := by intro x; cases x) : wpC M A (run c h) Q E s := by
  intro Γ p hΓ hc
  rw [Sem.wp_run]
  exact k _ p rfl (hΓ.enter c h p hnb) (hc.enter c h p)
theorem wpC_runValue {c : Code} {Q : Value → Shared → Prop} (k : codeC M A c (fun r s' => match r with | .ok (.ret v) => Q v s' | .ok _ => False | .error e => E e s') s) : wpC M A (runValue c) Q E s := by
  intro Γ p hΓ hc
  rw [Sem.wp_runValue]
  exact k _ p rfl (hΓ.enter c none p (by intro x; cases x)) (hc.enter c none p)
theorem wpC_call {f : Value} {pos : List Value} {kw : List (Str × Value)} {Q : Value → Shared → Prop} (k : codeC M A (.call f ⟨pos, kw⟩) (fun r s' => match r with | .ok (.ret v) => Q v s' | .ok _ => False | .error e => E e s') s) :
    wpC M A (call f pos kw) Q E s := wpC_runValue k
theorem codeC_of_tree {c : Code} {R : Result → Shared → Prop} (h : wpC M (A.under c) (M.den c) (fun fin s' => match fin with | .done f => R (.ok f) s' | .again c' => c'.quiet = true ∧ codeC M A c' R s') (fun e s' => R (.error e) s') s) : codeC M A c R s := by
  intro Γ p hc hΓ hb
  rw [wpCode_iff_wp, hc]
  refine Sem.wp_mono M Γ _ (fun fin p' s' k => ?_) (fun _ _ _ k => k) p s (h Γ p (hc ▸ hΓ.in) (.inr hb))
  cases fin with
  | done f => exact k
  | again c' => exact ⟨k.1, k.2 (Γ.goto c') p' rfl (hΓ.goto c') hb⟩
end
section
variable {M : Model} {A : Around} {E : Value → Shared → Prop} {s : Shared} {env : Env}
theorem execsC_cons {st : Stmt} {rest : List Stmt} {Q : Flow → Shared → Prop} (h : wpC M A (exec st env) (fun f s' => match f with | .next => wpC M A (execs rest env) Q E s' | f => Q f s') E s) : wpC M A (execs (st :: rest) env) Q E s := by
  rw [execs_cons]
  refine wpC_bind (wpC_mono h (fun f s' k => ?_) fun _ _ k => k)
  cases f with
  | next => exact k
  | _ => exact wpC_any (wpAny_pure k)
theorem ifC {test : Expr} {body orelse : List Stmt} {pos : Pos} {Q : Flow → Shared → Prop} (h : wpAny M A (isTrue test env (eval test env)) (fun b s₂ => if b then wpC M A (execs body env) Q E s₂ else wpC M A (execs orelse env) Q E s₂) E s) :
    wpC M A (exec (.If test body orelse pos) env) Q E s := by
  rw [exec_If]
  refine wpC_bind_any (wpAny_standAt (wpC_bind_any (wpAny_mono h (fun b s₂ k => ?_) fun _ _ k => k)))
  cases b with
  | true => exact wpC_ite_true rfl k
  | false => exact wpC_ite_false (by decide) k
theorem methodC {o : Expr} {name : Str} {apos pos : Pos} {args : List Expr} {pl : Sem Bool} {Q : Value → Shared → Prop}
    (h : wpAny M A (eval o env) (fun ov s₁ => wpAny M A (getMethod ov name pl) (fun fx s₂ => wpC M A (callWith pos fx.1 fx.2 (backTo pos (starEach args env)) []) Q E s₂) E s₁) E s)
    (he : eval (.Call (.Attribute o name apos) args [] pos) env = (eval o env >>= fun ov => standAt apos.atName >>= fun _ => holding [ov] (getMethod ov name pl) >>= fun fx => callWith pos fx.1 fx.2 (backTo pos (starEach args env)) []) := by rfl) :
    wpC M A (eval (.Call (.Attribute o name apos) args [] pos) env) Q E s := by
  rw [he]
  refine wpC_bind_any (wpAny_mono h (fun ov s₁ k => ?_) fun _ _ k => k)
  exact wpC_bind_any (wpAny_standAt (wpC_bind_any (wpAny_holding k)))
theorem callNameC {func : Expr} {args : List Expr} {pos : Pos} {Q : Value → Shared → Prop} (h : wpAny M A (eval func env) (fun f s₁ => wpC M A (callWith pos f [] (backTo pos (starEach args env)) []) Q E s₁) E s)
    (he : eval (.Call func args [] pos) env = (eval func env >>= fun f => callWith pos f [] (backTo pos (starEach args env)) (backToKw pos (keywordEach [] env))) := by rfl) :
    wpC M A (eval (.Call func args [] pos) env) Q E s := by
  rw [he]; exact wpC_bind_any h
theorem splicedC_cons {x : Sem Value} {rest : List (Bool × Sem Value)} {Q : List Value → Shared → Prop} (h : wpC M A x (fun v s₁ => wpAny M A (spliced rest) (fun vs s₂ => Q (v :: vs) s₂) E s₁) E s) : wpC M A (spliced ((false, x) :: rest)) Q E s := by
  rw [spliced]
  refine wpC_bind (wpC_mono h (fun v s₁ k => ?_) fun _ _ k => k)
  refine wpC_any ?_
  simp only [Bool.false_eq_true, if_false]
  exact wpAny_bind (wpAny_pure (wpAny_bind (wpAny_holding (wpAny_mono k (fun vs s₂ k2 => wpAny_pure k2) fun _ _ k => k))))
theorem evalArgsC {f : Value} {x : Sem Value} {rest : List (Bool × Sem Value)} {Q : Args → Shared → Prop} (h : wpC M A (spliced ((false, x) :: rest)) (fun vs s' => Q ⟨vs, []⟩ s') E s) : wpC M A (evalArgs f true ((false, x) :: rest) []) Q E s := by
  unfold evalArgs
  show wpC M A (spliced ((false, x) :: rest) >>= _) Q E s
  refine wpC_bind (wpC_mono h (fun vs s' k => ?_) fun _ _ k => k)
  refine wpC_any (wpAny_holding ?_)
  exact wpAny_bind (wpAny_pure (wpAny_bind (wpAny_pure (wpAny_pure k))))
theorem callWithC {P : Heap → Prop} {pos : Pos} {f : Value} {first : List Value} {args : List (Bool × Sem Value)} {Q : Value → Shared → Prop} (hplain : args.any (·.1) = false)
    (hk : ∀ h, P h → ∃ k, (k = Keeper.frame ∨ k = Keeper.machine ∨ k = Keeper.boundFrame) ∧ Looks M h (keeperOf f) k)
    (h : wpC M A (evalArgs f true args []) (fun a s₁ => P s₁.heap ∧ wpC M A (call f (first ++ a.pos) a.kw) Q E s₁) E s) : wpC M A (callWith pos f first args []) Q E s := by
  unfold callWith
  refine wpC_bind (wpC_holding (wpC_mono h (fun a s₁ k => ?_) fun _ _ k => k))
  refine wpC_bind_any (wpAny_standAt ?_)
  obtain ⟨kp, hk', L⟩ := hk _ k.1
  have hpl : (args.any (·.1) || ([] : List (Option Str × Sem Value)).any (·.1.isNone)) = false := by rw [hplain]; rfl
  simp only [hpl]
  refine wpC_bind_any (L.here ?_)
  have tail : ∀ {t : Sem Value}, wpC M A t Q E s₁ → wpC M A (t >>= fun r => holding [r] point >>= fun _ => pure r) Q E s₁ :=
    fun ht => wpC_bind (wpC_mono ht (fun r s₂ hr => wpC_any (wpAny_bind (wpAny_holding (wpAny_point (wpAny_pure hr))))) fun _ _ z => z)
  have marked (mk : Value) : wpC M A (callMarked mk f (first ++ a.pos) a.kw) Q E s₁ := by
    unfold callMarked
    intro Γ p hΓ hc
    rw [Sem.wp_keep]
    exact k.2 Γ p hΓ hc
  rcases hk' with rfl | rfl | rfl <;> dsimp only <;> first | exact tail k.2 | (split <;> first | exact tail k.2 | exact tail (marked _))
end
end Mine

namespace Mine
open PySem PySem.W PySem.Spec PySem.Calls PyProof.Rows
section
variable {prog : Program} {w : World} {A : Around} {E : Value → Shared → Prop} {s : Shared} {env : Env} {R : Result → Shared → Prop}
theorem exprC {e : Expr} {pos : Pos} {Q : Flow → Shared → Prop} (h : wpC (model prog w) A (eval e env) (fun _ => Q .next) E s) (hi : interactive env = false := by rfl) (hs : swapsWith e none pos.line env = pure false := by rfl) :
    wpC (model prog w) A (exec (.Expr e pos) env) Q E s := by
  rw [exec_Expr env e pos hi hs]
  exact wpC_bind_any (wpAny_standAt (wpC_bind (wpC_mono h (fun v s' k => wpC_any (wpAny_dropValue k)) fun _ _ k => k)))
theorem tryC {body orelse : List Stmt} {hd : ExceptHandler} {hs : List ExceptHandler} {pos : Pos} {Q : Flow → Shared → Prop}
    (h : wpC (model prog w) A (execs body env) (fun f s₁ => match f with | .next => wpAny (model prog w) A (execs orelse env) Q E s₁ | f => Q f s₁)
      (fun e s₁ => wpAny (model prog w) A (noteFrame e env) (fun _ s₂ => wpAny (model prog w) A (setFlight e none) (fun _ s₃ => wpAny (model prog w) A (handleBy e env (hd :: hs)) Q E s₃) E s₂) E s₁) s) :
    wpC (model prog w) A (exec (.Try body (hd :: hs) orelse [] pos) env) Q E s := by
  rw [arm_exec_Try]
  refine wpC_bind_any (wpAny_standAt ?_)
  unfold tryStmt
  simp only [List.isEmpty_nil, if_true, List.isEmpty_cons, Bool.false_and, Bool.false_eq_true, if_false]
  refine wpC_bind (wpC_attempt (wpC_mono h (fun f s₁ k => wpC_any ?_) fun e s₁ k => wpC_any ?_))
  · cases f <;> first | exact k | exact wpAny_pure k
  · exact wpAny_bind (wpAny_mono k (fun _ _ k2 => wpAny_bind k2) fun _ _ z => z)
theorem codeC_func {body : List Stmt} (h : wpC (model prog w) (A.deeper env) (execs body env) (fun f s' => R (.ok (.ret (match f with | .ret v => v | _ => .none))) s')
      (fun e s' => wpAny (model prog w) (A.deeper env) (leaving env e) (fun _ s'' => R (.error e) s'') (fun e' s'' => R (.error e') s'') s') s) : codeC (model prog w) A (.func body env) R s := by
  refine codeC_of_tree ?_
  show wpC _ (A.deeper env) (do point; match ← (execs body env).onRaise (leaving env) with | .ret v => ret v | _ => ret .none) _ _ s
  refine wpC_bind_any (wpAny_point (wpC_bind (wpC_onRaise (wpC_mono h (fun f s' k => ?_) fun _ _ k => wpC_any k))))
  cases f <;> exact wpC_any (wpAny_pure k)
theorem codeC_call_def {a : Addr} {o : Obj} {fd : FuncData} {body : List Stmt} {args : Args} {binds : List (Str × Value)}
    (hroom : A.depth < recursionLimit) (ho : s.heap.get? a = some o) (hdata : o.data = .func fd) (hlim : s.heap.NoLimit) (hcd : s.heap.CodeRec fd.code fd.qualname)
    (hbody : fd.body = .stmts body) (hbind : BindsTo s fd args binds) (hcell : ∀ x ∈ fd.scope.names, x.2 ≠ .cell) (hloc : ∀ x ∈ binds, fd.scope.names.lookup x.1 = some .local)
    (h : ∀ h₀, h₀.Ns s.heap.objs.size (fun x => binds.reverse.lookup x) → (∀ b o, s.heap.get? b = some o → h₀.get? b = some o) →
      wpC (model prog w) (A.deeper (callEnv fd s.heap.objs.size a)) (execs body (callEnv fd s.heap.objs.size a)) (fun f s' => R (.ok (.ret (match f with | .ret v => v | _ => .none))) s')
        (fun e s' => wpAny (model prog w) (A.deeper (callEnv fd s.heap.objs.size a)) (leaving (callEnv fd s.heap.objs.size a) e) (fun _ s'' => R (.error e) s'') (fun e' s'' => R (.error e') s'') s')
        { s with heap := h₀, toks := s.toks + binds.length })
    (hco : fd.scope.isCoroutine = false) (hgen : fd.scope.isGenerator = false) (hk : fd.scope.kind = .function) : codeC (model prog w) A (.call (.ref a) args) R s := by
  refine codeC_of_tree ?_
  show wpC _ A.in1 (callAny (.ref a) args) _ _ s
  simp only [callAny]
  refine wpC_bind_any (wpAny_load ho ?_)
  obtain ⟨c, oc, vs, tq, hc, hoc, hdc, hq⟩ := hcd
  simp only [hdata, callFunction, hco, hgen, hbody, hc]
  refine wpC_bind_any (m := field (.ref c) 1) (wpAny_field hoc hdc hq (wpC_bind_any (wpAny_pure ?_)))
  refine wpC_bind_any (hbind _ _ _ _ ?_)
  refine wpC_bind_any (wpAny_newFunctionEnv hcell hloc (fun h₀ hns hsb => ?_) hk)
  refine wpC_bind_any (wpAny_enterFrame (hlim.fresh _ hsb) hroom (wpC_any (wpAny_pure ⟨rfl, ?_⟩)))
  have he : newEnv fd.scope s.heap.objs.size fd.globals fd.closure (fd.qualname ++ ".<locals>.") (some a) fd.code none fd.builtins = callEnv fd s.heap.objs.size a := rfl
  rw [hc] at he
  rw [he]
  exact codeC_func (h h₀ hns fun b o e => hsb.extBut b o (Nat.ne_of_lt (Heap.lt_size e)) (Heap.get?_push_of_some _ e))
end
section
variable {prog : Program} {w : World} {A A₀ : Around} {s : Shared} {env : Env} {outer : List Env} {base h₀ : Heap} {L : Addr} {m : Str → Option Value} {news : List (Addr × Obj)} {K : Frag} {p : Program} {loose : List Str} {mean : ExcName → Option Value} {mg mb : Str → Option Value}
  {R : Result → Shared → Prop} {name qual : Str} {params : Arguments} {body : List Stmt} {scope : Scope} {dV kV doc pm cdv ct oc : Value} {an od : Option Addr} {osl : Array (Option Value)} {f : Addr} {args : Args} {binds : List (Str × Value)}
/-- a def of the written part is called -/
theorem codeC_def (B : Below A₀ base outer h₀) (F : Fr h₀ L s.heap m) (X₀ : K.In h₀) (N : News h₀ L s.heap news) (T : Top p loose mean mg mb h₀) (hA : A.frames = some (env :: outer)) (hf : env.frame = some L) (hke : env.scope.kind = .function)
    (ho : K.lookup f = some ⟨oc, od, .func (fnOf name qual params body scope dV kV doc pm an cdv ct), osl⟩) (hcd : codeIn K cdv qual = true) (hroom : A.depth < recursionLimit)
    (hbind : BindsTo s (fnOf name qual params body scope dV kV doc pm an cdv ct) args binds) (hloc : ∀ y ∈ binds, scope.names.lookup y.1 = some .local)
    (h : ∀ g L' h₁, Fr h₀ L g m → Fr g L' h₁ (fun y => binds.reverse.lookup y) → News g L' h₁ news → Below A base (env :: outer) g → K.In g → Top p loose mean mg mb g →
      wpC (model prog w) (A.deeper (envOf qual scope L' f cdv)) (execs body (envOf qual scope L' f cdv))
        (fun fl s' => LeaveK h₀ L m g R (match fl with | .ret v => v | _ => .none) s')
        (fun e s' => wpAny (model prog w) (A.deeper (envOf qual scope L' f cdv)) (leaving (envOf qual scope L' f cdv) e) (fun _ s'' => R (.error e) s'') (fun e' s'' => R (.error e') s'') s')
        { s with heap := h₁, toks := s.toks + binds.length })
    (hco : scope.isCoroutine = false) (hgen : scope.isGenerator = false) (hk : scope.kind = .function) (hcell : ∀ x ∈ scope.names, x.2 ≠ .cell) : codeC (model prog w) A (.call (.ref f) args) R s := by
  obtain ⟨FG, BG, st, lv⟩ := groundX (R := R) B F N hA hf hke
  refine codeC_call_def (fd := fnOf name qual params body scope dV kV doc pm an cdv ct) (body := body) (binds := binds) hroom ((X₀.keeps F.keep) _ _ ho) rfl (T.nolimit.keeps F.keep) (codeRec_of (X₀.keeps F.keep) hcd) rfl hbind hcell hloc (fun h₁ hns hk₁ => ?_) hco hgen hk
  refine wpC_mono (h _ s.heap.objs.size h₁ FG ⟨hns, fun b o e => hk₁ b o (of_hideAll _ e), Nat.le_of_eq (hideAll_size _ _)⟩ (fun q hq => ⟨hk₁ _ _ (N q hq).1, Nat.ne_of_lt (Heap.lt_size (N q hq).1), hideAll_none _ (List.mem_map_of_mem hq)⟩) BG (X₀.keeps st) (T.keeps st)) (fun fl s' hl => lv _ _ hl) fun _ _ y => y
/-- the law itself is called -/
theorem codeC_law {doc' : Value} {a : Addr} {o : Obj} {cd : Value} (hroom : A.depth < recursionLimit) (ho : s.heap.get? a = some o) (hdata : o.data = .func { docDef name params body scope pm cd doc' with defaults := dV, kwdefaults := kV }) (hlim : s.heap.NoLimit) (hcd : s.heap.CodeRec cd name)
    (hbind : BindsTo s { docDef name params body scope pm cd doc' with defaults := dV, kwdefaults := kV } args binds) (hloc : ∀ x ∈ binds, scope.names.lookup x.1 = some .local)
    (h : ∀ h₁, Fr s.heap s.heap.objs.size h₁ (fun x => binds.reverse.lookup x) → wpC (model prog w) (A.deeper (envOf name scope s.heap.objs.size a cd)) (execs body (envOf name scope s.heap.objs.size a cd))
        (fun f s' => R (.ok (.ret (match f with | .ret v => v | _ => .none))) s') (fun _ _ => False) { s with heap := h₁, toks := s.toks + binds.length })
    (hco : scope.isCoroutine = false) (hgen : scope.isGenerator = false) (hk : scope.kind = .function) (hcell : ∀ x ∈ scope.names, x.2 ≠ .cell) : codeC (model prog w) A (.call (.ref a) args) R s :=
  codeC_call_def (fd := { docDef name params body scope pm cd doc' with defaults := dV, kwdefaults := kV }) (body := body) hroom ho hdata hlim hcd rfl hbind hcell hloc (fun h₁ hns hk₁ => wpC_mono (h h₁ ⟨hns, hk₁, Nat.le_refl _⟩) (fun _ _ k => k) fun _ _ k => k.elim) hco hgen hk
end
section
variable {prog : Program} {w : World} {A : Around} {s : Shared} {env : Env} {h₀ : Heap}
theorem codeC_forLoop {R : Result → Shared → Prop} {target : Expr} {it : Value} {body orelse : List Stmt} (I : Nat → Shared → Prop)
    (turn : ∀ n s, I n s → wpAny (model prog w) A (pyNext it) (fun r s₁ => match r with
      | none => wpAny (model prog w) A (execs orelse env) (fun f s₃ => R (.ok f) s₃) (fun _ _ => False) s₁
      | some v => wpAny (model prog w) A (assign target env v) (fun _ s₂ => wpC (model prog w) A (execs body env) (fun f s₃ => match f with
          | .next | .cont => ∃ m, m < n ∧ I m s₃
          | .brk => R (.ok .next) s₃
          | .ret v => R (.ok (.ret v)) s₃) (fun _ _ => False) s₂) (fun _ _ => False) s₁) (fun _ _ => False) s)
    (n : Nat) (h : I n s) (ht : ∀ v, letOwnedTupleGo target it v = pure () := by intro _; rfl) : codeC (model prog w) A (.forLoop target it body orelse env) R s := by
  induction n using Nat.strongRecOn generalizing s with
  | ind n ih =>
    refine codeC_of_tree ?_
    show wpC _ _ ((forTurn target it body orelse env).onRaise (fun x => do noteFrame x env; theTreesLotGoes x)) _ _ s
    refine wpC_onRaise (wpC_mono (E := fun _ _ => False) ?_ (fun _ _ q => q) fun _ _ k => k.elim)
    simp only [forTurn]
    refine wpC_bind_any (wpAny_standAt (wpC_bind_any (wpAny_onRaise (wpAny_mono (turn n s h) (fun r s₁ k => ?_) fun _ _ k => k.elim))))
    cases r with
    | none => exact wpC_any (wpAny_pure ⟨rfl, codeC_any (codeAny_block (wpAny_mono k (fun _ _ z => z) fun _ _ z => z.elim))⟩)
    | some v =>
      refine wpC_bind_any (wpAny_of_eq (ht v) ?_)
      refine wpC_bind_any (wpAny_mono k (fun _ s₂ k2 => wpC_bind (wpC_mono k2 (fun f s₃ k3 => ?_) fun _ _ z => z)) fun _ _ z => z)
      cases f with
      | next => obtain ⟨m, hm, hI⟩ := k3; exact wpC_any (wpAny_pure ⟨rfl, ih m hm hI⟩)
      | cont => obtain ⟨m, hm, hI⟩ := k3; exact wpC_any (wpAny_pure ⟨rfl, ih m hm hI⟩)
      | brk => exact wpC_any (wpAny_pure k3)
      | ret v => exact wpC_any (wpAny_pure k3)
end
end Mine

namespace Mine
open PySem PySem.W PySem.Spec PySem.Calls PyProof.Rows
section
variable {prog : Program} {w : World} {A : Around} {s : Shared} {env : Env} {h₀ : Heap} {L : Addr} {Q : Flow → Shared → Prop}
def LoopAtC (prog : Program) (w : World) (A : Around) (h₀ : Heap) (env : Env) (x : Str) (body : List Stmt) (Q : Flow → Shared → Prop) (it : Value) (s₂ : Shared) : Prop :=
  ∃ (I : Addr) (fp wr : List Addr) (n : Nat) (P : Nat → Value → Prop) (St : Nat → Heap → Prop) (m : Str → Option Value) (news : List (Addr × Obj)) (J : Nat → (Str → Option Value) → List (Addr × Obj) → Prop),
    it = .ref I ∧ Walks prog w A I fp wr n P St ∧ env.locals ∉ fp ∧ (∀ b ∈ wr, h₀.get? b = none) ∧ (∀ p ∈ news, p.1 ∉ wr) ∧ St 0 s₂.heap ∧ Fr h₀ env.locals s₂.heap m ∧ News h₀ env.locals s₂.heap news ∧ J 0 m news ∧
    (∀ i v m₁ news₁ h tk own, i < n → P i v → J i m₁ news₁ → (∀ p ∈ own, p.1 ∈ fp) → (∀ b ∈ fp, h₀.get? b = none → ∀ o, h.get? b = some o → (b, o) ∈ own) → St (i + 1) h →
      Fr h₀ env.locals h (fun y => if y = x then some v else m₁ y) → News h₀ env.locals h (own ++ news₁) →
      wpC (model prog w) A (execs body env) (LoopStepV h₀ env.locals wr own (J (i + 1)) { s₂ with heap := h, toks := tk } (fun v s' => Q (.ret v) s') fun s' => Q .next s') (fun _ _ => False) { s₂ with heap := h, toks := tk }) ∧
    ∀ h' tk m' news', Fr h₀ env.locals h' m' → News h₀ env.locals h' news' → (∀ p ∈ news', p.1 ∉ wr) → J n m' news' → Q .next { s₂ with heap := h', toks := tk }
theorem codeC_for {R : Result → Shared → Prop} {x : Str} {px : Pos} {body : List Stmt} {it : Value} (hx : env.kindOf x = some .local) (hp : (env.scope.kind == .class || (env.scope.kind == .module && env.locals != env.globals)) = false)
    (H : LoopAtC prog w A h₀ env x body (fun f s' => R (.ok f) s') it s) : codeC (model prog w) A (.forLoop (.Name x px) it body [] env) R s := by
  obtain ⟨I, fp, wr, n, P, St, m, news, J, rfl, W, hLf, hwr, hnw, hst, F, N, h0, step, hR⟩ := H
  have hLw : env.locals ∉ wr := fun h => hLf (W.sub _ h)
  have old : ∀ b o, h₀.get? b = some o → b ∉ wr := fun b o e hb => by rw [hwr b hb] at e; cases e
  refine codeC_forLoop (fun k s' => ∃ h' tk m' news' i, s' = { s with heap := h', toks := tk } ∧ St i h' ∧ Fr h₀ env.locals h' m' ∧ News h₀ env.locals h' news' ∧ (∀ p ∈ news', p.1 ∉ wr) ∧ J i m' news' ∧ i ≤ n ∧ k = n + 1 - i) ?_ (n + 1)
    ⟨s.heap, s.toks, m, news, 0, rfl, hst, F, N, hnw, h0, Nat.zero_le _, rfl⟩
  rintro k s' ⟨h', tk, m', news', i, rfl, hst', F', N', hnw', hJ, hi, rfl⟩
  have keepF : ∀ h₁ : Heap, (∀ b o, b ∉ wr → h'.get? b = some o → h₁.get? b = some o) → Fr h₀ env.locals h₁ m' ∧ News h₀ env.locals h₁ news' := fun h₁ hk₁ =>
    ⟨⟨F'.ns.at' fun o e => hk₁ _ o hLw e, fun b o e => hk₁ b o (old b o e) (F'.keep b o e), F'.above⟩, fun p hp => ⟨hk₁ _ _ (hnw' p hp) (N' p hp).1, (N' p hp).2⟩⟩
  by_cases hlt : i < n
  · refine W.item i _ _ _ hlt hst' fun v h₁ tk₁ hP hst₁ hk₁ => ?_
    obtain ⟨F₁, N₁⟩ := keepF h₁ hk₁
    refine wpAny_assign_Name (wpAny_storeName_local hx F₁.ns (fun h₂ hn₂ hs₂ => ?_) hp)
    have F₂ := F₁.set hn₂ hs₂
    have Nown : News h₀ env.locals h₂ (ownOf h₀ fp h₂) := news_ownOf hLf
    have hst₂ : St (i + 1) h₂ := W.frame _ _ _ hst₁ fun b hb o e => (hs₂.2 b fun q => hLf (q ▸ hb)).trans e
    refine wpC_mono (step i v m' news' h₂ _ (ownOf h₀ fp h₂) hlt hP hJ ownOf_sub (fun b hb hn o e => mem_ownOf hb hn e) hst₂ F₂ (Nown.append (N₁.set hs₂))) (fun f s₃ h₃ => ?_) fun _ _ e => e
    have fin : LoopStepU h₀ env.locals wr (ownOf h₀ fp h₂) (J (i + 1)) { s with heap := h₂, toks := tk₁ } .next s₃ → ∃ j, j < n + 1 - i ∧ ∃ h' tk m' news' i, s₃ = { s with heap := h', toks := tk } ∧ St i h' ∧ Fr h₀ env.locals h' m' ∧ News h₀ env.locals h' news' ∧ (∀ p ∈ news', p.1 ∉ wr) ∧ J i m' news' ∧ i ≤ n ∧ j = n + 1 - i := by
      rintro ⟨_, h₃', tk₃, m₂, news₂, rfl, F₃, N₃, ha₃, hJ₃⟩
      refine ⟨n + 1 - (i + 1), by omega, h₃', tk₃, m₂, news₂, i + 1, rfl, ?_, F₃, N₃.right, ha₃, hJ₃, hlt, rfl⟩
      refine W.frame _ _ _ hst₁ fun b hb o e => ?_
      have e₂ : h₂.get? b = some o := (hs₂.2 b fun q => hLf (q ▸ hb)).trans e
      cases hn : h₀.get? b with
      | some o₀ =>
        have e₃ := F₂.keep b o₀ hn
        rw [e₂] at e₃
        rw [Option.some.inj e₃]
        exact F₃.keep b o₀ hn
      | none => exact (N₃ _ (List.mem_append_left _ (mem_ownOf hb hn e₂))).1
    cases f with
    | ret v => exact h₃
    | brk => exact h₃
    | cont => exact fin h₃
    | next => exact fin h₃
  · obtain rfl : i = n := by omega
    refine W.done _ _ _ hst' fun h₁ tk₁ hk₁ => wpAny_execs_nil ?_
    obtain ⟨F₁, N₁⟩ := keepF h₁ hk₁
    exact hR h₁ tk₁ m' news' F₁ N₁ hnw' hJ
theorem forC {x : Str} {px pos : Pos} {iter : Expr} {body : List Stmt} (h₀ : Heap) (hx : env.kindOf x = some .local) (hp : (env.scope.kind == .class || (env.scope.kind == .module && env.locals != env.globals)) = false)
    (h : wpAny (model prog w) A (eval iter env) (fun xv s₁ => wpAny (model prog w) A (pyIter xv) (fun it s₂ => LoopAtC prog w A h₀ env x body Q it s₂) (fun _ _ => False) s₁) (fun _ _ => False) s)
    (hs : ∀ x, foldedSetIterable iter env x = pure x := by intro _; rfl) : wpC (model prog w) A (exec (.For (.Name x px) iter body [] pos) env) Q (fun _ _ => False) s := by
  rw [exec_For]
  refine wpC_bind_any (wpAny_standAt (wpC_bind_any (wpAny_mono h (fun xv s₁ k => ?_) fun _ _ z => z)))
  refine wpC_bind_any (wpAny_of_eq (hs xv) (wpC_bind_any (wpAny_standAt (wpC_bind_any (wpAny_holding (wpAny_mono k (fun it s₂ k2 => ?_) fun _ _ z => z))))))
  unfold runOwn
  refine wpC_onRaise (wpC_mono (E := fun _ _ => False) (wpC_run (codeC_for (R := fun r s' => match r with | .ok f => Q f s' | .error _ => False) hx hp k2)) (fun _ _ z => z) fun _ _ z => z.elim)
theorem forC_K {σ : Type} {x : Str} {body : List Stmt} {I : Addr} {fp wr : List Addr} {n : Nat} {Pv : Nat → Value → Prop} {St : Nat → Heap → Prop} {m₀ : Str → Option Value} (keep : List (Addr × Obj)) (Led : σ → List (Addr × Obj)) (ps : σ → List (Str × Value)) (P : Nat → σ → Prop) (c₀ : σ)
    (W : Walks prog w A I fp wr n Pv St) (hLf : env.locals ∉ fp) (hwr : ∀ b ∈ wr, h₀.get? b = none) (hlive : ∀ i h, St i h → ∀ b ∈ fp, ∃ o, h.get? b = some o)
    (hst : St 0 s.heap) (F : Fr h₀ env.locals s.heap m₀) (N : News h₀ env.locals s.heap (Led c₀ ++ keep)) (hfp : ∀ q ∈ Led c₀, q.1 ∉ fp) (hkw : ∀ q ∈ keep, q.1 ∉ wr) (hk : HasAll m₀ (ps c₀)) (hp : P 0 c₀)
    (turn : ∀ i v (c : σ) (u : Str → Option Value) h tk own, i < n → Pv i v → P i c → OwnOff own ((Led c).map (·.1)) → (∀ b ∈ fp, h₀.get? b = none → ∀ o, h.get? b = some o → (b, o) ∈ own) → St (i + 1) h →
      Fr h₀ env.locals h (fun y => if y = x then some v else kstB u (ps c) y) → News h₀ env.locals h (Led c ++ (keep ++ own)) →
      wpC (model prog w) A (execs body env) (FkPost h₀ env.locals { s with heap := h, toks := tk } keep Led ps (P (i + 1)) own Q) (fun _ _ => False) { s with heap := h, toks := tk })
    (done : ∀ (c : σ) (u : Str → Option Value) h tk, P n c → Fr h₀ env.locals h (kstB u (ps c)) → News h₀ env.locals h (Led c ++ keep) → Q .next { s with heap := h, toks := tk }) :
    LoopAtC prog w A h₀ env x body Q (.ref I) s := by
  refine ⟨I, fp, wr, n, Pv, St, m₀, Led c₀ ++ keep, fun i m nx => ∃ c : σ, nx = Led c ++ keep ∧ HasAll m (ps c) ∧ P i c ∧ ∀ q ∈ Led c, q.1 ∉ fp, rfl, W, hLf, hwr, fun p hp hm => (List.mem_append.mp hp).elim (fun h => hfp p h (W.sub _ hm)) (fun h => hkw p h hm), hst, F, N, ⟨c₀, rfl, hk, hp, hfp⟩, ?_, ?_⟩
  · rintro i v m₁ news₁ hh' tk' own hin hP ⟨c, rfl, h1, hp', hoff'⟩ hown hall hst' F₁ N₁
    have hsep : OwnOff own ((Led c).map (·.1)) := by
      intro p hp b hb e
      obtain ⟨q, hq, rfl⟩ := List.mem_map.mp hb
      exact hoff' q hq (e ▸ hown p hp)
    rw [hasAll_x h1] at F₁
    have N₂ : News h₀ env.locals hh' (Led c ++ (keep ++ own)) := fun p hp => N₁ p (by
      simp only [List.mem_append] at hp ⊢
      rcases hp with h | h | h
      · exact .inr (.inl h)
      · exact .inr (.inr h)
      · exact .inl h)
    refine wpC_mono (turn i v c m₁ hh' tk' own hin hP hp' hsep hall hst' F₁ N₂) (fun f s₂ p => ?_) fun _ _ e => e
    have fin : FkEnd h₀ env.locals { s with heap := hh', toks := tk' } keep Led ps (P (i + 1)) own s₂ → LoopStepU h₀ env.locals wr own (fun m nx => ∃ c : σ, nx = Led c ++ keep ∧ HasAll m (ps c) ∧ P (i + 1) c ∧ ∀ q ∈ Led c, q.1 ∉ fp) { s with heap := hh', toks := tk' } .next s₂ := by
      rintro ⟨c', h', tk, m', news', e, F', N', hn, hkp, ho, ha, hk', hp''⟩
      have hfp' : ∀ q ∈ Led c', q.1 ∉ fp := by
        intro q hq hm
        obtain ⟨o, ho'⟩ := hlive _ _ hst' _ hm
        exact ha _ (hall _ hm (N' _ (hn q hq)).2.2 o ho') _ (List.mem_map_of_mem hq) rfl
      exact ⟨rfl, h', tk, m', Led c' ++ keep, e, F', fun p hp => N' p (by
        simp only [List.mem_append] at hp
        rcases hp with h | h | h
        · exact ho p h
        · exact hn p h
        · exact hkp p h), fun p hp hq => (List.mem_append.mp hp).elim (fun h => hfp' p h (W.sub _ hq)) (fun h => hkw p h hq), c', rfl, hk', hp'', hfp'⟩
    cases f with
    | ret v => exact .ret p
    | brk => exact .brk p
    | next => exact .next (fin p)
    | cont => exact .cont (fin p)
  · rintro h' tk m' news' F' N' _ ⟨c, rfl, h1, hp', _⟩
    rw [← hasAll_eq h1] at F'
    exact done c m' h' tk hp' F' N'
theorem forC_list {σ : Type} {x : Str} {body : List Stmt} {l : Addr} {vs : List Value} {nn : Nat} {m₀ : Str → Option Value} {news₀ : List (Addr × Obj)} (keep : List (Addr × Obj)) (Led : σ → List (Addr × Obj)) (ps : σ → List (Str × Value)) (P : Nat → σ → Prop) (c₀ : σ)
    (hh : A.handled = none) (hl : (l, listOf vs.toArray nn) ∈ news₀) (hoffl : ∀ p ∈ Led c₀, p.1 ≠ l) (F : Fr h₀ env.locals s.heap m₀) (N : News h₀ env.locals s.heap news₀) (hL : ∀ p ∈ Led c₀, p ∈ news₀) (hkp : ∀ p ∈ keep, p ∈ news₀) (hk : HasAll m₀ (ps c₀)) (hp : P 0 c₀)
    (turn : ∀ i v (c : σ) (u : Str → Option Value) h tk own, i < vs.length → vs[i]? = some v → P i c → OwnOff own ((Led c).map (·.1)) → (l, listOf vs.toArray nn) ∈ own →
      Fr h₀ env.locals h (fun y => if y = x then some v else kstB u (ps c) y) → News h₀ env.locals h (Led c ++ (keep ++ own)) →
      wpC (model prog w) A (execs body env) (FkPost h₀ env.locals { s with heap := h, toks := tk } keep Led ps (fun c => P (i + 1) c) own Q) (fun _ _ => False) { s with heap := h, toks := tk })
    (done : ∀ (c : σ) (u : Str → Option Value) h tk, P vs.length c → Fr h₀ env.locals h (kstB u (ps c)) → News h₀ env.locals h (Led c ++ keep) → Q .next { s with heap := h, toks := tk }) :
    wpAny (model prog w) A (pyIter (.ref l)) (fun it s₂ => LoopAtC prog w A h₀ env x body Q it s₂) (fun _ _ => False) s := by
  have hln := N _ hl
  have hls : s.heap.IsList l vs.toArray := ⟨_, hln.1, rfl, nn, rfl⟩
  have hne : l ≠ s.heap.objs.size := Nat.ne_of_lt (Heap.lt_size hln.1)
  have N' : News h₀ env.locals s.heap (Led c₀ ++ keep) := fun p hp => N p ((List.mem_append.mp hp).elim (hL p) (hkp p))
  refine wpAny_pyIter_list hls ?_
  have W0 := Walks.list (prog := prog) (w := w) hh s.heap.objs.size l hne vs.toArray
  have W : Walks prog w A s.heap.objs.size [s.heap.objs.size, l] [s.heap.objs.size] vs.length (fun i v => vs.toArray[i]? = some v) (fun i h => (h.IsListIter s.heap.objs.size l i ∧ h.IsList l vs.toArray) ∧ h.get? l = some (listOf vs.toArray nn)) :=
    { sub := W0.sub
      frame := fun i h h' st hk => ⟨W0.frame i h h' st.1 hk, hk l (by simp) _ st.2⟩
      item := fun i s Q E hi st hQ => W0.item i s Q E (by simpa using hi) st.1 fun v h' tk hv st' hk => hQ v h' tk hv ⟨st', hk l _ (by simp; exact hne) st.2⟩ hk
      done := fun s Q E st hQ => W0.done s Q E (by simpa using st.1) hQ
      self := fun i s Q E st hQ => W0.self i s Q E st.1 hQ }
  refine forC_K keep Led ps P c₀ W ?_ ?_ ?_ ⟨⟨⟨_, Heap.get?_push_size _ rfl, rfl, rfl⟩, hls.at fun o e => Heap.get?_push_of_some _ e⟩, Heap.get?_push_of_some _ hln.1⟩ (F.push _) (fun p hp => ⟨Heap.get?_push_of_some _ (N' p hp).1, (N' p hp).2⟩) ?_ ?_ hk hp ?_ ?_
  · intro hm
    rcases List.mem_cons.mp hm with e | hm
    · exact absurd F.ns.lt (e ▸ Nat.lt_irrefl _)
    · exact hln.2.1 (List.mem_singleton.mp hm).symm
  · intro b hb
    rw [List.mem_singleton.mp hb]
    exact next_is_new F
  · rintro i h ⟨⟨⟨o1, e1, _⟩, ⟨o2, e2, _⟩⟩, _⟩ b hb
    rcases List.mem_cons.mp hb with rfl | hb
    · exact ⟨o1, e1⟩
    · rw [List.mem_singleton.mp hb]; exact ⟨o2, e2⟩
  · intro q hq hm
    rcases List.mem_cons.mp hm with e | hm
    · exact absurd (Heap.lt_size (N' q (List.mem_append_left _ hq)).1) (by rw [e]; exact Nat.lt_irrefl _)
    · exact hoffl q hq (List.mem_singleton.mp hm)
  · intro q hq hm
    exact absurd (Heap.lt_size (N' q (List.mem_append_right _ hq)).1) (by rw [List.mem_singleton.mp hm]; exact Nat.lt_irrefl _)
  · intro i v c u h tk own hi hv hp' hoff hall hst F₁ N₁
    exact turn i v c u h tk own hi (by simpa using hv) hp' hoff (hall l (by simp) hln.2.2 _ hst.2) F₁ N₁
  · exact done
end
end Mine

namespace Mine
open PySem PySem.W PySem.Spec PySem.Calls PyProof.Rows
/-- a turn over a text ends -/
def Post8c (h₀ : Heap) (L : Addr) (s : Shared) (DU RT ST X DD : Addr) (oST oX : Obj) (mk : Addr → Obj) (own : List (Addr × Obj)) (i : Nat) (f : Flow) (s₂ : Shared) : Prop :=
  match f with
  | .ret _ => False
  | .brk => False
  | _ => End08 h₀ L s DU RT ST X DD oST oX mk own i s₂
section
variable {prog : Program} {w : World} {A : Around} {Q : Flow → Shared → Prop} {s : Shared} {env : Env} {h₀ : Heap}
theorem loop08c {x : Str} {body : List Stmt} {DU DA0 RT ST X DD d1 TX : Addr} {o1 oST oX : Obj} {mk : Addr → Obj} {RF : List Value} {nr : Nat} {RW : List (Addr × Obj)} {m₀ : Str → Option Value}
    (hh : A.handled = none) (F : Fr h₀ env.locals s.heap m₀) (hk : HasAll m₀ [("due", .ref DU), ("parser", .ref X)])
    (N : News h₀ env.locals s.heap ((DU, W.listOf #[] 0) :: (DA0, W.listOf #[] 0) :: (RT, W.listOf #[] 0) :: (d1, o1) :: (ST, oST) :: (X, oX) :: (DD, mk DA0) :: (TX, W.listOf RF.toArray nr) :: RW))
    (l1 : @LT.lt Nat _ TX DD) (l2 : @LT.lt Nat _ DD X) (l3 : @LT.lt Nat _ X ST) (l4 : @LT.lt Nat _ ST RT) (l5 : @LT.lt Nat _ RT DA0) (l6 : @LT.lt Nat _ DA0 DU)
    (o1' : ∀ p ∈ RW, p.1 ≠ DU) (o2 : ∀ p ∈ RW, p.1 ≠ DA0) (o3 : ∀ p ∈ RW, p.1 ≠ RT) (o4 : ∀ p ∈ RW, p.1 ≠ ST) (o6 : AllLt DD RW)
    (hall : ∀ v ∈ RF, InRow RW v) (hRF : RF.length ≤ 66)
    (turn : ∀ i a vs n ss DA rv rn dv dn zs own (u : Str → Option Value) h tk, i < RF.length → RF.length ≤ 66 → (a, W.listOf vs.toArray n) ∈ own → StrsAre vs ss → Good 64 ss → IntsAre rv zs → IntsAre dv zs → zs.length ≤ i →
      @Ne Nat DA DU → @Ne Nat DA RT → @Ne Nat DA ST → @Ne Nat DA X → @Ne Nat DA DD → @LT.lt Nat _ DD X → @LT.lt Nat _ X ST → @LT.lt Nat _ ST RT → @LT.lt Nat _ RT DU → OwnOff own [DU, DA, RT, ST, X, DD] →
      Fr h₀ env.locals h (fun y => if y = x then some (.ref a) else kstB u [("due", .ref DU), ("parser", .ref X)] y) →
      News h₀ env.locals h ((DU, W.listOf dv.toArray dn) :: (DA, W.listOf #[] 0) :: (RT, W.listOf rv.toArray rn) :: (ST, oST) :: (X, oX) :: (DD, mk DA) :: own) →
      wpC (model prog w) A (execs body env) (Post8c h₀ env.locals { s with heap := h, toks := tk } DU RT ST X DD oST oX mk own i) (fun _ _ => False) { s with heap := h, toks := tk })
    (done : ∀ DA rv rn zs (u : Str → Option Value) h tk, IntsAre rv zs → zs.length ≤ 66 → @Ne Nat DA DU → @Ne Nat DA RT → @Ne Nat DA ST → @Ne Nat DA X → @Ne Nat DA DD → @LT.lt Nat _ DD X → @LT.lt Nat _ X ST → @LT.lt Nat _ ST RT → @LT.lt Nat _ RT DU → 
      Fr h₀ env.locals h (kstB u [("due", .ref DU), ("parser", .ref X)]) → News h₀ env.locals h [(DA, W.listOf #[] 0), (RT, W.listOf rv.toArray rn), (ST, oST), (X, oX), (DD, mk DA)] → Q .next { s with heap := h, toks := tk }) :
    wpAny (model prog w) A (pyIter (.ref TX)) (fun it s₂ => LoopAtC prog w A h₀ env x body Q it s₂) (fun _ _ => False) s := by
  refine forC_list (σ := Obj × Addr × Obj) (nn := nr) (vs := RF) RW (fun c => [(DU, c.1), (c.2.1, W.listOf #[] 0), (RT, c.2.2), (ST, oST), (X, oX), (DD, mk c.2.1)]) (fun _ => [("due", .ref DU), ("parser", .ref X)])
    (fun i c => ∃ dv dn rv rn zs, c.1 = W.listOf dv.toArray dn ∧ c.2.2 = W.listOf rv.toArray rn ∧ IntsAre rv zs ∧ IntsAre dv zs ∧ zs.length ≤ i ∧ (@Ne Nat c.2.1 DU ∧ @Ne Nat c.2.1 RT ∧ @Ne Nat c.2.1 ST ∧ @Ne Nat c.2.1 X ∧ @Ne Nat c.2.1 DD) ∧ ∀ p ∈ RW, p.1 ≠ c.2.1)
    (W.listOf #[] 0, DA0, W.listOf #[] 0) hh (by simp) ?_ F N ?_ ?_ hk ?_ ?_ ?_
  · intro p hp
    simp only [List.mem_cons, List.not_mem_nil, or_false] at hp
    rcases hp with rfl | rfl | rfl | rfl | rfl | rfl <;> (refine neN ?_; (try dsimp only); omega)
  · intro p hp
    simp only [List.mem_cons, List.not_mem_nil, or_false] at hp ⊢
    rcases hp with rfl | rfl | rfl | rfl | rfl | rfl <;> simp
  · intro p hp
    simp [hp]
  · exact ⟨[], 0, [], 0, [], rfl, rfl, .nil, .nil, Nat.le_refl _, ⟨by (try dsimp only) <;> omega, by (try dsimp only) <;> omega, by (try dsimp only) <;> omega, by (try dsimp only) <;> omega, by (try dsimp only) <;> omega⟩, o2⟩
  · rintro i v ⟨c1, DA, c3⟩ u h tk own hi hv ⟨dv, dn, rv, rn, zs, h1, h2, hr, hd, hz, ⟨n1, n2, n3, n4, n5⟩, o7⟩ hoff hown F' N'
    dsimp only at h1 h2 n1 n2 n3 n4 n5 o7
    subst h1; subst h2
    obtain ⟨a, vs, n, ss, rfl, hm, hss, hg⟩ := hall v (List.mem_of_getElem? hv)
    have hoff' : OwnOff own [DU, DA, RT, ST, X, DD] := hoff
    refine wpC_mono (turn i a vs n ss DA rv rn dv dn zs (RW ++ own) u h tk hi hRF (List.mem_append_left _ hm) hss hg hr hd hz n1 n2 n3 n4 n5 l2 l3 l4 (Nat.lt_trans l5 l6) ?_ F' N') (fun f s₂ hpost => ?_) (fun _ _ e => e)
    · intro p hp b hb
      rcases List.mem_append.mp hp with hp | hp
      · simp only [List.mem_cons, List.not_mem_nil, or_false] at hb
        rcases hb with rfl | rfl | rfl | rfl | rfl | rfl
        · exact o1' p hp
        · exact o7 p hp
        · exact o3 p hp
        · exact o4 p hp
        · exact Nat.ne_of_lt (Nat.lt_trans (kst_ltOf o6 p hp) l2)
        · exact Nat.ne_of_lt (kst_ltOf o6 p hp)
      · exact hoff' p hp b hb
    · have fin : End08 h₀ env.locals { s with heap := h, toks := tk } DU RT ST X DD oST oX mk (RW ++ own) i s₂ → FkEnd h₀ env.locals { s with heap := h, toks := tk } RW (fun c : Obj × Addr × Obj => [(DU, c.1), (c.2.1, W.listOf #[] 0), (RT, c.2.2), (ST, oST), (X, oX), (DD, mk c.2.1)]) (fun _ => [("due", .ref DU), ("parser", .ref X)])
          (fun c => ∃ dv dn rv rn zs, c.1 = W.listOf dv.toArray dn ∧ c.2.2 = W.listOf rv.toArray rn ∧ IntsAre rv zs ∧ IntsAre dv zs ∧ zs.length ≤ i + 1 ∧ (@Ne Nat c.2.1 DU ∧ @Ne Nat c.2.1 RT ∧ @Ne Nat c.2.1 ST ∧ @Ne Nat c.2.1 X ∧ @Ne Nat c.2.1 DD) ∧ ∀ p ∈ RW, p.1 ≠ c.2.1) own s₂ := by
        rintro ⟨h', tk', m', news', DA', rv', dv', rn', dn', zs', e, F2, N2, hs, a1, a2, a3, a4, a5, a6⟩
        refine ⟨(W.listOf dv'.toArray dn', DA', W.listOf rv'.toArray rn'), h', tk', m', news', e, F2, N2, ?_, ?_, ?_, ?_, a6, ⟨dv', dn', rv', rn', zs', rfl, rfl, a1, a2, a3, a4, fun p hp => a5 p (List.mem_append_left _ hp)⟩⟩
        · intro p hp
          refine hs p ?_
          simp only [List.mem_cons, List.not_mem_nil, or_false] at hp ⊢
          rcases hp with rfl | rfl | rfl | rfl | rfl | rfl <;> simp
        · intro p hp
          exact hs p (by simp [hp])
        · intro p hp
          exact hs p (by simp [hp])
        · intro p hp b hb
          simp only [List.map_cons, List.map_nil, List.mem_cons, List.not_mem_nil, or_false] at hb
          rcases hb with rfl | rfl | rfl | rfl | rfl | rfl
          · exact hoff' p hp _ (by simp)
          · exact a5 p (List.mem_append_right _ hp)
          · exact hoff' p hp _ (by simp)
          · exact hoff' p hp _ (by simp)
          · exact hoff' p hp _ (by simp)
          · exact hoff' p hp _ (by simp)
      cases f with
      | ret v => exact hpost.elim
      | brk => exact hpost.elim
      | next => exact fin hpost
      | cont => exact fin hpost
  · rintro ⟨c1, DA, c3⟩ u h tk ⟨dv, dn, rv, rn, zs, h1, h2, hr, hd, hz, ⟨n1, n2, n3, n4, n5⟩, o7⟩ F' N'
    dsimp only at h1 h2 n1 n2 n3 n4 n5
    subst h1; subst h2
    refine done DA rv rn zs u h tk hr (Nat.le_trans hz hRF) n1 n2 n3 n4 n5 l2 l3 l4 (Nat.lt_trans l5 l6) F' (fun p hp => N' p ?_)
    simp only [List.mem_cons, List.not_mem_nil, or_false] at hp
    rcases hp with rfl | rfl | rfl | rfl | rfl <;> simp
end
end Mine

namespace Mine
open PySem PySem.W PySem.Spec PySem.Calls PySem.NumText PyProof.Rows
section
variable {prog : Program} {w : World} {A : Around} {E : Value → Shared → Prop} {s : Shared} {Q : Value → Shared → Prop} {x : Str} {u : Tok} {text : List Nat} {base : Nat}
/-- what int leaves when it refuses a text under the claim's caller -/
def RefusedC (s : Shared) (E : Value → Shared → Prop) : Prop := ∀ h' tk e, Heap.NewExc s.heap h' e "ValueError" → E (.ref e) { s with heap := h', toks := tk }
theorem markC {M : Model} {own : List String} {e : Value} {Q : Unit → Shared → Prop} (h : Q () s) : wpC M A (markTheRefusal own e) Q E s := by
  intro Γ p hΓ hc
  unfold markTheRefusal
  rw [Sem.wp_bind']
  show Sem.wp M Γ (if pythonCodeMadeTheCall own (((Γ.code, p) :: Γ.below).map (·.1)) then _ else pure ()) _ _ p s
  have e0 : pythonCodeMadeTheCall own (((Γ.code, p) :: Γ.below).map (·.1)) = false := by
    have key : ∀ f : Code → Bool, (∀ c, f c = c.isCaller) → (((Γ.code, p) :: Γ.below).map (·.1)).any f = true := by
      intro f hf
      rw [List.map_cons, List.any_cons, hf]
      rcases hc with h | h
      · rw [h]; rfl
      · rw [List.any_eq_true] at h
        obtain ⟨y, hy, hy2⟩ := h
        rw [Bool.or_eq_true]
        exact .inr (List.any_eq_true.mpr ⟨y.1, List.mem_map.mpr ⟨y, hy, rfl⟩, by rw [hf]; exact hy2⟩)
    unfold pythonCodeMadeTheCall
    refine Bool.and_eq_false_iff.mpr (.inl (Bool.and_eq_false_iff.mpr (.inl ?_)))
    rw [Bool.not_eq_false']
    exact key _ fun c => rfl
  rw [e0]
  exact h
theorem eq_via {α : Type} {t t' : Sem α} (_ : wpAny (model prog w) A t' (fun _ _ => True) (fun _ _ => True) s → wpAny (model prog w) A t (fun _ _ => True) (fun _ _ => True) s) (e : t = t') : t = t' := e
set_option maxHeartbeats 4000000 in
theorem wp_badC (hb : base = 10 ∨ base = 16) (hA : A.handled = none) (hs : (text.takeWhile (· != 0)).length ≤ 640) (hr : (int_private% "readNumeral") 0 base (text.takeWhile (· != 0)) = int_private% "Numeral.invalid") (hx : (reprText x).length + 40 ≤ sizeLine)
    (h : RefusedC s E) : wpC (model prog w) A ((int_private% "intFromText") (.str x u) text base) Q E s := by
  obtain ⟨hp, g, d, tk, os⟩ := s
  refine' wpC_eq (t' := _) _ _
  rotate_left 1
  · refine eq_via (prog := prog) (w := w) (A := A) (s := ⟨hp, g, d, tk, os⟩) ?_ ?_
    · intro H; wp_delta; exact H
    · kernel_rfl
  refine wpC_ite_true hs ?_
  refine wpC_bind_any (wpAny_pure ?_)
  try dsimp only
  rw [hr]
  try dsimp only
  repeat (any_goals (first
    | (with_reducible refine wpC_bind_any ?_)
    | ((with_reducible show wpAny _ _ (pyRepr _) _ _ _); refine wpAny_pyRepr_str ?_ (by omega))
    | ((with_reducible show wpC _ _ (if _ then _ else _) _ _ _); refine wpC_ite_false (by simp) ?_)
    | ((fail_if_success (with_reducible show wpAny _ _ (newExc _ _) _ _ _)); (fail_if_success (with_reducible show wpAny _ _ (markTheRefusal _ _) _ _ _)); wp_step)))
  generalize hmsg : Str.ofString (toString "invalid literal for int() with base " ++ toString base ++ toString ": ") ++ ({ cps := (reprText x).cps.extract 0 200 } : Str) = msg
  have hml : ¬ msg.length > sizeLine := by
    rw [← hmsg, PySem.Str.length_append]
    have h1 : (Str.ofString (toString "invalid literal for int() with base " ++ toString base ++ toString ": ")).length ≤ 100 := by
      rcases hb with rfl | rfl <;> decide +kernel
    have h2 : ({ cps := (reprText x).cps.extract 0 200 } : Str).length ≤ 200 := by
      show ((reprText x).cps.extract 0 200).size ≤ 200
      rw [Array.size_extract]; omega
    rw [sizeLine_eq]; omega
  rw [if_neg hml]
  clear hmsg
  refine wpAny_bind (wpAny_fresh (wpAny_pure ?_))
  refine wpC_bind_any (wpAny_newExc_plain plainExc_ValueError fun h1 e hm => ?_)
  refine wpC_bind (markC ?_)
  exact wpC_any (wpAny_raiseNew_none hA (h h1 _ e hm.newExc))
end
section
variable {prog : Program} {w : World} {A : Around} {E : Value → Shared → Prop} {s : Shared} {Q : Value → Shared → Prop} {x : Str} {u v : Tok} {R : Result → Shared → Prop}
/-- int.__new__ refuses a text -/
theorem newC_10 {A₂ : Around} (hA : A.handled = none) (hs : (numSeenOf x).length ≤ 640) (hr : (int_private% "readNumeral") 0 10 (numSeenOf x) = int_private% "Numeral.invalid") (hx : (reprText x).length + 40 ≤ sizeLine) (h : RefusedC s (fun e s' => R (.error e) s')) :
    wpC (model prog w) A (Builtin.«int.__new__» ⟨[.type "int", .str x u], []⟩) (fun fin s' => match fin with | .done f => R (.ok f) s' | .again c' => c'.quiet = true ∧ codeC (model prog w) A₂ c' R s') (fun e s' => R (.error e) s') s := by
  obtain ⟨hp, g, d, tk, os⟩ := s
  have f1 := F.conv_sub_int
  have f2 := F.madeHere_int
  have f3 := KIN.str_int
  have f4 := KIN.str_idx
  have f5 := KIN.str_trunc
  have f6 : typeOf (.str x u) = pure (.type "str") := rfl
  have hk := Hid8.mk (And.intro hs (And.intro hr (And.intro hx (And.intro hA h))))
  clear hs hr hx hA h
  refine' wpC_eq (t' := _) _ _
  rotate_left 1
  · refine eq_via (prog := prog) (w := w) (A := A) (s := ⟨hp, g, d, tk, os⟩) ?_ ?_
    · intro H; wp_delta; exact H
    · kernel_rfl
  try dsimp only
  repeat (any_goals (first
    | ((with_reducible show wpC _ _ ((int_private% "intFromText") _ _ _) _ _ _); exact wp_badC (.inl rfl) hk.out.2.2.2.1 hk.out.1 hk.out.2.1 hk.out.2.2.1 hk.out.2.2.2.2)
    | ((with_reducible show wpC _ _ ((int_private% "intFromText") _ _ _ >>= _) _ _ _); refine wpC_bind ?_)
    | ((with_reducible show wpC _ _ ((int_private% "intFromObject") _ >>= _) _ _ _); refine wpC_bind ?_)
    | (with_reducible refine wpC_bind_any ?_)
    | ((with_reducible show wpC _ _ (if _ then _ else _) _ _ _); (first | refine wpC_ite_false (by first | decide | simp) ?_ | refine wpC_ite_true (by first | decide | simp) ?_))
    | ((with_reducible show wpC _ _ _ _ _ _); refine' wpC_eq (t' := _) _ _; rotate_left 1; (refine eq_via (prog := prog) (w := w) (A := A) (s := ⟨hp, g, d, tk, os⟩) ?_ ?_; (· intro H; wp_delta; exact H); kernel_rfl))
    | wp_step))
theorem newC_16 {A₂ : Around} (hA : A.handled = none) (hs : (numSeenOf x).length ≤ 640) (hr : (int_private% "readNumeral") 0 16 (numSeenOf x) = int_private% "Numeral.invalid") (hx : (reprText x).length + 40 ≤ sizeLine) (h : RefusedC s (fun e s' => R (.error e) s')) :
    wpC (model prog w) A (Builtin.«int.__new__» ⟨[.type "int", .str x u, .int 16 v], []⟩) (fun fin s' => match fin with | .done f => R (.ok f) s' | .again c' => c'.quiet = true ∧ codeC (model prog w) A₂ c' R s') (fun e s' => R (.error e) s') s := by
  obtain ⟨hp, g, d, tk, os⟩ := s
  have f1 := F.conv_sub_int
  have f2 := F.madeHere_int
  have f6 : typeOf (.str x u) = pure (.type "str") := rfl
  have hk := Hid8.mk (And.intro hs (And.intro hr (And.intro hx (And.intro hA h))))
  clear hs hr hx hA h
  refine' wpC_eq (t' := _) _ _
  rotate_left 1
  · refine eq_via (prog := prog) (w := w) (A := A) (s := ⟨hp, g, d, tk, os⟩) ?_ ?_
    · intro H; wp_delta; exact H
    · kernel_rfl
  try dsimp only
  repeat (any_goals (first
    | ((with_reducible show wpC _ _ ((int_private% "intFromText") _ _ _) _ _ _); exact wp_badC (.inr rfl) hk.out.2.2.2.1 hk.out.1 hk.out.2.1 hk.out.2.2.1 hk.out.2.2.2.2)
    | ((with_reducible show wpC _ _ ((int_private% "intFromText") _ _ _ >>= _) _ _ _); refine wpC_bind ?_)
    | ((with_reducible show wpC _ _ ((int_private% "intFromObject") _ >>= _) _ _ _); refine wpC_bind ?_)
    | (with_reducible refine wpC_bind_any ?_)
    | ((with_reducible show wpC _ _ (if _ then _ else _) _ _ _); (first | refine wpC_ite_false (by first | decide | simp) ?_ | refine wpC_ite_true (by first | decide | simp) ?_))
    | ((with_reducible show wpC _ _ _ _ _ _); refine' wpC_eq (t' := _) _ _; rotate_left 1; (refine eq_via (prog := prog) (w := w) (A := A) (s := ⟨hp, g, d, tk, os⟩) ?_ ?_; (· intro H; wp_delta; exact H); kernel_rfl))
    | wp_step))
end
end Mine

namespace Mine
open PySem PySem.W PySem.Calls PySem.NumText PyProof.Rows PySem.Builtin PySem.Builtin.Str
theorem str_eq_iff {x y : Str} : (x == y) = true ↔ x.cps.toList = y.cps.toList := by
  constructor
  · intro h; rw [eq_of_beq h]
  · intro h
    have : x = y := by cases x; cases y; exact congrArg Str.mk (Array.toList_inj.mp h)
    rw [this]; exact beq_self_eq_true _
theorem starts_slice (x y : Str) (hy : y.length = 2) : Txt.startswith x y = (Txt.slice x none (some 2) == y) := by
  rw [Bool.eq_iff_iff, str_eq_iff, slice_take x 2 (by decide)]
  unfold Txt.startswith
  rw [StrLaws.subAt_eq, hy, Bool.and_eq_true, decide_eq_true_eq, beq_iff_eq]
  have h1 : x.cps.toList.length = x.length := Array.length_toList
  have h2 : y.cps.toList.length = y.length := Array.length_toList
  constructor
  · exact fun h => h.2
  · intro h
    refine ⟨?_, h⟩
    have := congrArg List.length h
    rw [List.length_take] at this
    have e : Int.toNat 2 = 2 := rfl
    omega
set_option maxHeartbeats 4000000 in
theorem gives_good1 {x : Str} {u : Tok} {n : Int} (hs : (numSeenOf x).length ≤ 640) (hr : (int_private% "readNumeral") 0 10 (numSeenOf x) = (int_private% "Numeral.value") n) (ha : ((numSeenOf x).length == (numTextOf x).length) = true) :
    Gives (Builtin.«int.__new__» ⟨[.type "int", .str x u], []⟩) (.int n) :=
  .of_wp fun M A E s Q h => by
    obtain ⟨hp, g, d, tk, os⟩ := s
    have f1 := F.conv_sub_int
    have f2 := F.madeHere_int
    have f3 := KIN.str_int
    have f4 := KIN.str_idx
    have f5 := KIN.str_trunc
    have f6 : typeOf (.str x u) = pure (.type "str") := rfl
    have hk := Hid8.mk (And.intro hs (And.intro hr ha))
    clear hs hr ha
    repeat (any_goals (first
      | assumption
      | ((with_reducible show wpAny _ _ ((int_private% "intFromText") _ _ _) _ _ _); refine wp_good hk.out.1 hk.out.2.1 hk.out.2.2 ?_)
      | wp_step))
    all_goals first | exact ⟨_, rfl, h⟩ | skip
section
variable {prog : Program} {w : World} {A : Around} {E : Value → Shared → Prop} {s : Shared} {Q : Value → Shared → Prop} {x : Str} {t u : Tok} {n : Int} {r : Value}
theorem int_good1 (hl : x.length ≤ 640) (hr : (int_private% "readNumeral") 0 10 (numSeenOf x) = (int_private% "Numeral.value") n) (ha : ((numSeenOf x).length == (numTextOf x).length) = true) (h : Q (.int n s.toks) { s with toks := s.toks + 1 }) :
    wpAny (model prog w) A (call (.type "int") [.str x t]) Q E s :=
  call_int_1 (gives_good1 (Nat.le_trans (seen_length x) hl) hr ha).meets (show (Made.int n).post _ s from ⟨rfl, h⟩)
theorem seen_all (hok : ∀ c ∈ x.cps.toList, okC c) : ((numSeenOf x).length == (numTextOf x).length) = true := by
  rw [(seen_ok hok).1, (seen_ok hok).2]; exact beq_self_eq_true _
end
/-- end_integer's if ends well: a number, appended to the root -/
def JoinI (g : Heap) (L : Addr) (s : Shared) (r : Value) (zs : List Int) (p1 p2 p3 : Addr × Obj) (RT : Addr) (rest : List (Addr × Obj)) (f : Flow) (s' : Shared) : Prop :=
  ∃ (n : Int) (t : Tok) (h' : Heap) (tk : Nat) (m' : Str → Option Value) (rv' : List Value) (rn' : Nat), f = .next ∧ r = .int n t ∧ s' = { s with heap := h', toks := tk } ∧ Fr g L h' m' ∧ IntsAre rv' (zs ++ [n]) ∧ News g L h' (p1 :: p2 :: p3 :: (RT, W.listOf rv'.toArray rn') :: rest)
/-- it is refused: int's exception -/
def JoinE (s : Shared) (r : Value) (e : Value) (s' : Shared) : Prop :=
  ∃ (h' : Heap) (tk : Nat) (a : Addr), r = .none ∧ e = .ref a ∧ s' = { s with heap := h', toks := tk } ∧ Heap.NewExc s.heap h' a "ValueError"
theorem joinE {s s' : Shared} {r : Value} (h : s' = { s with toks := s'.toks }) (hr : r = .none) : RefusedC s' (JoinE s r) := by
  intro h' tk e X
  rw [h] at X
  exact ⟨h', tk, e, hr, rfl, by rw [h], X⟩
section
variable {M : Model} {A : Around} {E : Value → Shared → Prop} {s : Shared} {Q : Flow → Shared → Prop} {c : Sem Flow} {g : Heap} {L : Addr} {zs : List Int} {p1 p2 p3 : Addr × Obj} {RT : Addr} {rest : List (Addr × Obj)} {m : Str → Option Value} {o : Obj} {r : Value}
theorem joinI {n : Int} {t tv : Tok} {h' : Heap} {tk : Nat} {m' : Str → Option Value} {rv : List Value} {rn : Nat} (F : Fr g L h' m') (hI : IntsAre rv zs) (N : News g L h' (p1 :: p2 :: p3 :: (RT, W.listOf (rv ++ [Value.int n tv]).toArray rn) :: rest)) :
    JoinI g L s (.int n t) zs p1 p2 p3 RT rest .next { s with heap := h', toks := tk } :=
  ⟨n, t, h', tk, m', _, rn, rfl, rfl, rfl, F, intsAre_append hI (.cons _ _ .nil), N⟩
theorem join_if {x : Str} (_ : NumOut x r) (_ : News g L s.heap (p1 :: p2 :: p3 :: (RT, o) :: rest)) (step : wpC M A c (JoinI g L s r zs p1 p2 p3 RT rest) (JoinE s r) s)
    (good : ∀ n t h' tk m' rv' rn', r = .int n t → Fr g L h' m' → IntsAre rv' (zs ++ [n]) → News g L h' (p1 :: p2 :: p3 :: (RT, W.listOf rv'.toArray rn') :: rest) → Q .next { s with heap := h', toks := tk })
    (bad : ∀ h' tk a, r = .none → Heap.NewExc s.heap h' a "ValueError" → E (.ref a) { s with heap := h', toks := tk }) : wpC M A c Q E s := by
  refine wpC_mono step (fun f s' h => ?_) (fun e s' h => ?_)
  · obtain ⟨n, t, h', tk, m', rv', rn', rfl, hr, rfl, F', hI, N'⟩ := h
    exact good n t h' tk m' rv' rn' hr F' hI N'
  · obtain ⟨h', tk, a, hr, rfl, rfl, X⟩ := h
    exact bad h' tk a hr X
end
section
variable {g : Heap} {L : Addr} {s s₂ : Shared} {DU RT ST X DD DA : Addr} {oST oX : Obj} {mk : Addr → Obj} {own news : List (Addr × Obj)} {i : Nat} {m' : Str → Option Value} {rv dv : List Value} {rn dn : Nat} {zs : List Int}
/-- a turn's end: either way -/
theorem end8c (hs : s₂ = { s with heap := s₂.heap, toks := s₂.toks }) (F : Fr g L s₂.heap m') (N : News g L s₂.heap news)
    (sub : ∀ q ∈ (DU, W.listOf dv.toArray dn) :: (DA, W.listOf #[] 0) :: (RT, W.listOf rv.toArray rn) :: (ST, oST) :: (X, oX) :: (DD, mk DA) :: own, q ∈ news) (h1 : IntsAre rv zs) (h2 : IntsAre dv zs) (hz : zs.length ≤ i + 1)
    (a1 : @LT.lt Nat _ DU DA) (a2 : @LT.lt Nat _ RT DA) (a3 : @LT.lt Nat _ ST DA) (a4 : @LT.lt Nat _ X DA) (a5 : @LT.lt Nat _ DD DA) (ho : AllLt DA own) (hk : HasAll m' [("due", .ref DU), ("parser", .ref X)]) :
    Post8c g L s DU RT ST X DD oST oX mk own i .next s₂ := by
  show End08 g L s DU RT ST X DD oST oX mk own i s₂
  rw [hs]
  exact end08 F N sub h1 h2 hz ⟨Ne.symm (Nat.ne_of_lt a1), Ne.symm (Nat.ne_of_lt a2), Ne.symm (Nat.ne_of_lt a3), Ne.symm (Nat.ne_of_lt a4), Ne.symm (Nat.ne_of_lt a5)⟩ (fun q hq => Nat.ne_of_lt (kst_ltOf ho q hq)) hk
end
theorem mem8 {α : Type} {e1 e3 b c d e f g q : α} {r : List α} (h : q ∈ b :: c :: d :: e :: f :: g :: r) : q ∈ e1 :: c :: e3 :: b :: d :: e :: f :: g :: r := by
  simp only [List.mem_cons] at h ⊢
  rcases h with h | h | h | h | h | h | h
  · exact .inr (.inr (.inr (.inl h)))
  · exact .inr (.inl h)
  · exact .inr (.inr (.inr (.inr (.inl h))))
  · exact .inr (.inr (.inr (.inr (.inr (.inl h)))))
  · exact .inr (.inr (.inr (.inr (.inr (.inr (.inl h))))))
  · exact .inr (.inr (.inr (.inr (.inr (.inr (.inr (.inl h)))))))
  · exact .inr (.inr (.inr (.inr (.inr (.inr (.inr (.inr h)))))))
end Mine

namespace Mine
open PySem PySem.W PySem.Spec PySem.Calls PySem.NumText PyProof.Rows
section
variable {prog : Program} {w : World} {A : Around} {E : Value → Shared → Prop} {s : Shared} {Q : Value → Shared → Prop} {x : Str} {u v : Tok} {R : Result → Shared → Prop} {args : List Value}
def OnlyE (E : Value → Shared → Prop) : Result → Shared → Prop := fun r s' => match r with | .error e => E e s' | .ok _ => False
theorem codeC_builtin {id : String} {a : Args} {b : Builtin} (hb : entryFor table id = some b) (h : wpC (model prog w) (A.under (.builtin id a)) (b a) (fun fin s' => match fin with | .done f => R (.ok f) s' | .again c' => c'.quiet = true ∧ codeC (model prog w) A c' R s') (fun e s' => R (.error e) s') s) :
    codeC (model prog w) A (.builtin id a) R s := by
  refine codeC_of_tree ?_
  show wpC _ _ (match entryFor table id with | some b => b a | none => unsupported ((withoutEnding? id "#data").getD id)) _ _ s
  rw [hb]
  exact h
theorem codeC_call_builtin {id : String} {a : Args} {b : Builtin} (hq : plainId id = true) (hb : entryFor table id = some b) (hc : checkBuiltinCall id a = pure ())
    (h : wpC (model prog w) A.in1 (b a) (fun fin s' => match fin with | .done f => R (.ok f) s' | .again c' => c'.quiet = true ∧ codeC (model prog w) A c' R s') (fun e s' => R (.error e) s') s) : codeC (model prog w) A (.call (.builtin id) a) R s := by
  refine codeC_of_tree ?_
  show wpC _ A.in1 (do checkBuiltinCall id a; again (.builtin id a)) _ _ s
  rw [hc]
  refine wpC_bind_any (wpAny_pure (wpC_any (wpAny_pure ⟨plainId_quiet hq a, codeC_builtin hb ?_⟩)))
  rw [Around.under_plainId hq a]
  exact h
set_option maxHeartbeats 4000000 in
theorem callC_int (hct : checkTypeCall "int" ⟨args, []⟩ = pure ()) (hcn : checkBuiltinCall "int.__new__" ⟨.type "int" :: args, []⟩ = pure ())
    (g : ∀ A' : Around, A'.handled = A.handled → codeC (model prog w) A' (.call (.builtin "int.__new__") ⟨.type "int" :: args, []⟩) (OnlyE E) s) : wpC (model prog w) A (call (.type "int") args) Q E s := by
  obtain ⟨c, tl, hmro⟩ := F.called_int.mro
  have hmade := F.called_int.made
  have hsub := F.called_int.sub
  refine wpC_call (codeC_of_tree ?_)
  show wpC _ _ (callAny (.type "int") _) _ _ _
  refine wpC_any (wpAny_pure ⟨Code.quiet_builtin _ (by decide +kernel), ?_⟩)
  refine codeC_builtin F.entry_type_call ?_
  rw [Around.under_plain (weight_type_call_type "int" args []) (units_type_call_type "int" args [])]
  have h1 := F.called_int.notType
  have h2 := F.called_int.canCreate
  obtain ⟨hp, gg, d, tk, os⟩ := s
  repeat (any_goals (first
    | ((with_reducible show wpC _ _ (holding _ (call _ _ _) >>= _) _ _ _); refine wpC_bind (wpC_holding (wpC_call (codeC_mono (g _ rfl) ?_))))
    | (with_reducible refine wpC_bind_any ?_)
    | ((with_reducible show wpC _ _ (if _ then _ else _) _ _ _); (first | refine wpC_ite_false (by first | decide | simp [*]) ?_ | refine wpC_ite_true (by first | decide | simp [*]) ?_))
    | ((with_reducible show wpC _ _ _ _ _ _); refine' wpC_eq (t' := _) _ _; rotate_left 1; (refine eq_via (prog := prog) (w := w) (A := A) (s := ⟨hp, gg, d, tk, os⟩) ?_ ?_; (· intro H; wp_delta; exact H); kernel_rfl))
    | ((with_reducible show wpAny _ _ _ _ _ _); assumption)
    | wp_step))
  intro r s h
  cases r with
  | error e => exact h
  | ok f => exact h.elim
/-- int of a text, under the claim's caller: by sixteen and by ten -/
theorem intC_16 (hA : A.handled = none) (hl : x.length ≤ 200) (hok : ∀ c ∈ x.cps.toList, okC c) (hx : Txt.startswith x (Str.ofString "0x") = true ∨ Txt.startswith x (Str.ofString "0X") = true) {r : Value} (h : NumOut x r)
    (good : ∀ n t, r = .int n t → Q (.int n s.toks) { s with toks := s.toks + 1 }) (bad : r = .none → RefusedC s E) : wpC (model prog w) A (call (.type "int") [.str x u, .int 16 v]) Q E s := by
  rw [starts_slice x _ (by decide), starts_slice x _ (by decide)] at hx
  rcases hex_law hok hx h with ⟨rfl, hr⟩ | ⟨n, t', rfl, hr⟩
  · refine callC_int (typeCall_int_2 _ _) (newCall_int_2 _ _) fun A' hA' => codeC_call_builtin F.called_int.plain F.entry_int_new (newCall_int_2 _ _) ?_
    exact newC_16 (A := A'.in1) (R := OnlyE E) (show A'.handled = none from hA'.trans hA) (Nat.le_trans (seen_length x) (by omega)) hr (repr_fits hl fun c hc => (hok c hc).1) (bad rfl)
  · exact wpC_any (int_good2 (by omega) hr (seen_all hok) (good _ _ rfl))
theorem intC_10 (hA : A.handled = none) (hl : x.length ≤ 200) (hok : ∀ c ∈ x.cps.toList, okC c) (h1 : Txt.startswith x (Str.ofString "0x") = false) (h2 : Txt.startswith x (Str.ofString "0X") = false) {r : Value} (h : NumOut x r)
    (good : ∀ n t, r = .int n t → Q (.int n s.toks) { s with toks := s.toks + 1 }) (bad : r = .none → RefusedC s E) : wpC (model prog w) A (call (.type "int") [.str x u]) Q E s := by
  rw [starts_slice x _ (by decide)] at h1 h2
  rcases dec_law hok (by omega) h1 h2 h with ⟨rfl, hr⟩ | ⟨n, t', rfl, hr⟩
  · refine callC_int (F.typeCall_int_1 _) (F.newCall_int_1 _) fun A' hA' => codeC_call_builtin F.called_int.plain F.entry_int_new (F.newCall_int_1 _) ?_
    exact newC_10 (A := A'.in1) (R := OnlyE E) (show A'.handled = none from hA'.trans hA) (Nat.le_trans (seen_length x) (by omega)) hr (repr_fits hl fun c hc => (hok c hc).1) (bad rfl)
  · exact wpC_any (int_good1 (by omega) hr (seen_all hok) (good _ _ rfl))
end
end Mine

namespace Mine
open PySem PySem.W PySem.Spec PySem.Calls PyProof.Rows
/-- the claim's own context -/
theorem root_wp {M : Model} {t : Sem Fin} {R : Result → Shared → Prop} {s : Shared} (h : wpC M callerA t (fun fin s' => ∃ f, fin = .done f ∧ R (.ok f) s') (fun e s' => R (.error e) s') s) (p : Pos) :
    Sem.wp M ⟨.builtin "claim.caller" {}, none, none, [], none⟩ t (Sem.finPost M ⟨.builtin "claim.caller" {}, none, none, [], none⟩ R) (fun e _ s' => R (.error e) s') p s := by
  refine Sem.wp_mono M _ t (fun fin p' s' k => ?_) (fun _ _ _ k => k) p s (h _ p caller_in (.inl rfl))
  obtain ⟨f, rfl, hf⟩ := k
  exact hf
theorem callFromC {c : ClaimW} {tree : List Value → Sem Fin} {w : World} {s : Shared} {free : Addr → Prop} {gens : Prop} {kept : Heap → Prop} (hz : s.asleep) (hgens : s.gens = #[])
    (hspec : ∀ args, c.pre args = true → WData.layableAll args = true → ∀ ord : List DictEntry → List DictEntry, (∀ l, (ord l).Perm l) → ∃ vs s₁, layAllW c.records (classAt s.heap) w.params ord args s = some (vs, s₁) ∧
        wpC (model c.prog w) callerA (tree vs) (fun fin s' => ∃ f, fin = .done f ∧ (c.Ends s args vs s₁ (.ok f) s' ∧ s'.os = s.os ∧ AllBare s'.gens ∧ kept s'.heap))
          (fun e s' => c.Ends s args vs s₁ (.error e) s' ∧ s'.os = s.os ∧ AllBare s'.gens ∧ kept s'.heap) s₁) :
    c.CallFrom (fun vs => ⟨tree vs, .builtin "claim.caller" {}, default, []⟩) w free gens kept s := by
  intro args hpre hlay ord hord
  obtain ⟨vs, s₁, hlaid, hcode⟩ := hspec args hpre hlay ord hord
  have hal := layAllW_rest _ _ _ hlaid
  obtain ⟨k, r, s'', s', hsched, hrun, hfo, hcase, hos, hkp⟩ := wp_halts_full (M := model c.prog w) (R := fun r s' => c.Ends s args vs s₁ r s' ∧ s'.os = s.os ∧ kept s'.heap) (Shared.asleep_of_life hal.2.2.2 hz)
    (root_wp (R := fun r s' => (c.Ends s args vs s₁ r s' ∧ s'.os = s.os ∧ kept s'.heap) ∧ leftWithCleanup s'.gens = false) (wpC_mono hcode (fun fin s' k => by
      obtain ⟨f, e, h1, h2, h3, h4⟩ := k
      exact ⟨f, e, ⟨h1, h2, h4⟩, leftWithCleanup_false_of_bare h3⟩) (fun e s' k => ⟨⟨k.1, k.2.1, k.2.2.2⟩, leftWithCleanup_false_of_bare k.2.2.1⟩)) default)
  obtain ⟨eh, _, _, eo, _⟩ := Shared.forget_eq hfo
  have hlife : s'.heap.life = s.heap.life := (runN_life _ _ _ hrun).trans hal.2.2.2
  have hcase := hcase.congr eh
  rw [← eh] at hkp
  rw [← eo] at hos
  refine ⟨vs, s₁, hlaid, k, _, s', hsched, ?_, (fun _ i x hx => by rw [hgens] at hx; simp at hx), hkp, by rw [hlife], Shared.rest_eq hos⟩
  rcases hcase with ⟨v, rfl, d1, d2, d3, d4, d5⟩ | ⟨e, ob, cls, rfl, d1, d2, d3, d4, d5⟩
  · exact .inl ⟨v, rfl, d1, d2, d3, fun b o y _ => d4 b o y, d5⟩
  · exact .inr ⟨e, ob, cls, rfl, d1, d2, d3, d4, fun b o y _ => d5 b o y⟩
/-- the walk that is asked for: the law's call, under the claim's caller -/
def WalkC (q : Program) (loose : List Str) (XP : (Str → Option Value) → Heap → Prop) (YP : World → Heap → Prop) (r : RowW) (d : DefRec) (kwd : List (Str × Expr)) : Prop :=
  ∀ (w : World) (s₀ s₁ : Shared) (mg mb : Str → Option Value), Ground q loose r.records XP w s₀ mg mb s₁.heap → YP w s₁.heap → ∀ (a : Addr) (o : Obj) (pm cd doc dV kV : Value), s₁.heap.get? a = some o →
    o.data = .func { docDef d.name d.params d.body d.scope pm cd doc with defaults := dV, kwdefaults := kV } → s₁.heap.CodeRec cd d.name → Dflts mg s₁.heap d.params kwd dV kV → mg d.name = some (.ref a) → s₁.gens = #[] →
    ∀ (args : List WData) (vals : List Value) (as : List Addr), r.claim.pre args = true → WData.layableAll args = true → ReadsAllW r.records (classAt s₀.heap) s₁.heap vals args as → WellAll w.params s₁.heap vals args → (∀ a ∈ as, (a == sysModules) = false) →
      wpC (model r.prog w) callerA (PySem.call (.ref a) vals) (fun v s' => GoodWG r.claim (classAt s₀.heap) (ExcName.means s₀.heap) args s₁ (.ok (.ret v)) s')
        (fun e s' => GoodWG r.claim (classAt s₀.heap) (ExcName.means s₀.heap) args s₁ (.error e) s') s₁
theorem holds_openC {r : OpenRow} {q : Program} {loose : List Str} {Xt : Shared → Bool} {XP : (Str → Option Value) → Heap → Prop} {α : Type} {Yf : Shared → α} {Ya : World → α} {YP : World → Heap → Prop} {d : DefRec} {kwd : List (Str × Expr)} {N : Nat}
    (left : LeftO r.prog q loose Xt Yf Ya N) (hY : ∀ w s, Yf s = Ya w → YP w s.heap) (hYk : ∀ w h h', YP w h → (∀ b o, h.get? b = some o → h'.get? b = some o) → YP w h')
    (hX : ∀ s, Xt s = true → XP (s.heap.nsMap mainGlobals) s.heap) (hXk : ∀ mg h h', XP mg h → (∀ b o, h.get? b = some o → h'.get? b = some o) → XP mg h')
    (hdef : defOf q r.name = some (d, kwd)) (hp : r.prog.theDef r.name = some (d.params, d.body, d.scope)) (hkw : kwWritten? d.params.kwonlyargs d.params.kw_defaults = some kwd) (hRf : ∀ s, Xt s = true → RecFacts r.records s.heap) (hwr : (!r.writes || r.records.isEmpty) = true)
    (k1 : r.wellSaid = true) (ok : (chainsOk q && opensWell r.prog && (frees r.toRowW && r.within.isEmpty)) = true) (hb : r.prog.bare) (hw : r.toRowW.promised)
    (walk : WalkC q loose XP YP r.toRowW d kwd) : r.Holds := by
  refine ⟨k1, hw, ?_⟩
  obtain ⟨ok, k5⟩ := Bool.and_eq_true_iff.mp ok
  obtain ⟨hch, o1⟩ := Bool.and_eq_true_iff.mp ok
  obtain ⟨k5, k6⟩ := Bool.and_eq_true_iff.mp k5
  obtain ⟨hsame, hu, ha, hap, hm⟩ := frees_parts k5
  have hi := ident_freeW hu ha hap
  have hwi : r.toRowW.claim.within = [] := List.isEmpty_iff.mp k6
  refine ⟨⟨hb, o1, by show r.toRowW.makers.map _ = []; rw [hm]; rfl⟩, hw.witness, fun w => ⟨(left.behind hX hch w).1, fun s' hs' => ?_⟩⟩
  obtain ⟨s₀, hf, hg0, s, hT, hz, hgens, hg, G00, y⟩ := (left.behind (XP := fun mg h => XP mg h ∧ RecFacts r.records h) (fun s hs => ⟨hX s hs, hRf s hs⟩) hch w).2 s' hs'
  have RF := G00.X.2
  have G0 : Ground q loose [] XP w s (s.heap.nsMap mainGlobals) (s.heap.nsMap builtinsNs) s.heap := ⟨G00.T, G00.B, G00.D, G00.TE, G00.TD, G00.W, G00.X.1, G00.cls, G00.has, G00.apart, G00.once, G00.K⟩
  have G : Ground q loose r.records XP w s _ _ s.heap := RF.ground G0
  have hgens : s.gens = #[] := Array.eq_empty_of_size_eq_zero (beq_iff_eq.mp hgens)
  refine ⟨s₀, hf, hg0, s, hT, fun n hn => ?_, RF.1, RF.2.1, callFromC (c := r.toRowW.claim) hz hgens fun args hpre hlay ord hord => ?_⟩
  · obtain rfl : n = r.name := by split at hn <;> simp_all
    exact pinned_of_view hg G0 hdef hp hkw
  · obtain ⟨⟨vs, s₁⟩, hlaid⟩ := Option.isSome_iff_exists.mp (layAllW_isSome (P := w.params) (ord := ord) G.has args r.toRowW.args s (pre_splitW hpre).1)
    have keeps := layAllW_keeps _ _ _ hlaid
    have hal := layAllW_rest _ _ _ hlaid
    obtain ⟨as, hrd, hin, hold⟩ := reads_layAllW hord _ _ _ hlaid hlay s₁.heap (fun _ _ e => e)
    have L : Laid r.toRowW.records w s s₁ args vs as := ⟨⟨ord, hord, hlaid⟩, hrd, hin, hold, keeps, hal.1.trans hgens, hal.2.2.1⟩
    have G₁ := G.keeps hXk keeps
    obtain ⟨a, o, pm, cd, doc, dV, kV, h1, h2, h3, h4, h5⟩ := G₁.fn hdef
    have h0 := walk w s s₁ _ _ G₁ (hYk _ _ _ (hY w s y) keeps) a o pm cd doc dV kV h2 h3 h4 h5 (defOf_name hdef ▸ h1) L.gens args vs as hpre hlay L.reads L.well (L.low G.low)
    have fin : ∀ res s', GoodWG r.toRowW.claim (classAt s.heap) (ExcName.means s.heap) args s₁ res s' → r.toRowW.claim.Ends s args vs s₁ res s' ∧ s'.os = s.os ∧ AllBare s'.gens ∧ (r.writes = true → namesKept r.toRowW.claim.prog r.keeps s.heap s'.heap ∧ ∀ x ∈ r.toRowW.claim.records, ∀ a, classAt s.heap x.1 = some a → recordClass s'.heap a x.1 (x.2.map (·.1)) = true) := fun res s' g => by
      have z := g.laid (c := r.toRowW.claim) hsame hwi hi L
      exact ⟨z.1, z.2.1, z.2.2, fun qq => ⟨namesKept_of hT hg r.keeps keeps g.2.1.old, noTable hwr qq⟩⟩
    refine ⟨vs, s₁, hlaid, ?_⟩
    refine wpC_bind_any (wpAny_nsGet G₁.T.g ?_)
    rw [show (s.heap.nsMap mainGlobals) r.name = some (.ref a) from h1]
    refine wpC_bind (wpC_mono h0 (fun v s' g => wpC_any (wpAny_pure ?_)) fun e s' g => fin _ _ g)
    exact ⟨_, rfl, fin _ _ g⟩
end Mine

set_option maxRecDepth 100000
open PySem PySem.W PySem.Spec PySem.Calls PyProof.Rows
namespace Mine
open PySem PySem.W PySem.Spec PySem.Calls PyProof.Rows
/-- the head in three runs: the opening, the stub, the text (on a heap kept as a tree) with the looks -/
theorem leftO_tree {p q : Program} {loose : List Str} {Xt : Shared → Bool} {α : Type} {Yf : Shared → α} {Ya : World → α} {N : Nat} {g0 : Bool}
    {H₀ : World → Heap} {d₀ da : Drawn} {k₀ ka m₀ n : Nat} {ann : Option Value} {T : World → BT} {life : Life} {b : List Stmt} {env : Env} {c : Code} {pos q' : Pos} {n0 n1 n2 : Nat} (w : World)
    (open_ : (fencedOpening treeTable p w N).map (fun s => (s.heap, s.gens, s.drawn, s.toks)) = some (H₀ w, #[], d₀, k₀))
    (size : ((H₀ w).isNs mainGlobals, (H₀ w).objs.size, (H₀ w).nsMap mainGlobals "__annotations__") = (true, m₀, ann))
    (pre : ∀ os, topGo treeTable p w m₀ ann n0 ⟨H₀ w, #[], d₀, k₀, os⟩ (topStub p) = some (⟨absHeap (T w) n life, #[], da, ka, os⟩, ⟨denote treeTable (.body b env), c, pos, [topFrame q']⟩))
    (blk : ∀ s, segRun treeTable p w m₀ ann 1 1 s (blockOf b env c pos [topFrame q']) = some (.next, s, c, pos))
    (run : ∀ os, (segRunT treeTable p w m₀ ann 1 n1 ⟨T w, n, life, #[], da, ka, os⟩ (piecesOf b env c pos [topFrame q'])).bind (fun r => match r.1 with
      | .next => (topRun treeTable p w m₀ ann n2 r.2.1.abs ⟨doneF .next, r.2.2.1, r.2.2.2, [topFrame q']⟩).map fun s₁ =>
          ((staticsOk (importedModules p.main.body) (H₀ w) s₁.heap && namesBound p s₁.heap && gensDone s₁ && laidKept (H₀ w) s₁.heap), openSeen q loose (importedModules p.main.body) Xt g0 s₁, Yf s₁)
      | _ => none) = some (true, openGood q loose, Ya w))
    (le : Nat.ble (n0 + (1 + (n1 + n2))) N = true) :
    (openEnds treeTable p w N).map (fun s => (openSeen q loose (importedModules p.main.body) Xt g0 s, Yf s)) = some (openGood q loose, Ya w) := by
  obtain ⟨⟨h, gs, d, k, os⟩, e, e'⟩ := Option.map_eq_some_iff.mp open_
  obtain ⟨rfl, rfl, rfl, rfl⟩ : h = H₀ w ∧ gs = #[] ∧ d = d₀ ∧ k = k₀ := by simpa using e'
  obtain ⟨z1, z2, z3⟩ : _ ∧ _ ∧ _ := by simpa only [Prod.mk.injEq] using size
  obtain ⟨⟨f, s', c', p'⟩, hr, hb⟩ := Option.bind_eq_some_iff.mp (run os)
  dsimp only at hb
  cases f with
  | next =>
    dsimp only at hb
    obtain ⟨s₁, h1, h2⟩ := Option.map_eq_some_iff.mp hb
    obtain ⟨l1, l2, l3⟩ : _ ∧ _ ∧ _ := by simpa only [Prod.mk.injEq] using h2
    have h3 := segRun_of hr
    obtain ⟨a, ha, hN⟩ := seg_top (res := id) (K' := doneF) (H' := leaveH env) (B := [topFrame q']) rfl n1 _ (piecesOf b env c pos [topFrame q'])
      ⟨(execs b env).wrap doneF (leaveH env) id id, c, pos, [topFrame q']⟩ _ _ _ _ ⟨rfl, rfl, .inl ⟨rfl, rfl, _, rfl, rfl⟩⟩ h3
    obtain rfl : a = .next := ha
    have h5 := hN n2 s₁ h1
    have h6 := piece_block (blk _) h5
    have h7 := go_top (pre os) h6
    have r := topRun_mono (N - (n0 + (1 + (n1 + n2)))) _ _ _ _ h7
    rw [show n0 + (1 + (n1 + n2)) + (N - (n0 + (1 + (n1 + n2)))) = N by have := Nat.le_of_ble_eq_true le; omega] at r
    have t : topFrom treeTable p w N ⟨H₀ w, #[], d, k, os⟩ = some s₁ := by
      unfold topFrom
      dsimp only
      rw [z1, z2, z3, r]
      show (match staticsOk (importedModules p.main.body) (H₀ w) s₁.heap && namesBound p s₁.heap && gensDone s₁ && laidKept (H₀ w) s₁.heap with | true => _ | false => _) = _
      rw [l1]
    unfold openEnds
    rw [e]
    show (topFrom treeTable p w N _).map _ = _
    rw [t]
    exact congrArg some (Prod.ext l2 l3)
  | _ => exact nomatch hb
end Mine
namespace Mine
open PySem PySem.W PySem.Calls PyProof.Rows
def op_11 (P : Params) : Obj := (PySem.Obj.mk (PySem.Value.type "tuple") Option.none (PySem.Data.seq (@List.toArray PySem.Value List.nil) 0) (@List.toArray (Option PySem.Value) List.nil))
def op_12 (P : Params) : Obj := (PySem.Obj.mk PySem.Value.none Option.none (PySem.Data.fields (@List.toArray PySem.Value List.nil)) (@List.toArray (Option PySem.Value) List.nil))
def op_13 (P : Params) : Obj := (PySem.Obj.mk (PySem.Value.type "code") Option.none (PySem.Data.fields (@List.toArray PySem.Value (List.cons (PySem.Value.str (PySem.Str.ofString "<module>") 182) (List.cons (PySem.Value.str (PySem.Str.ofString "<module>") 183) (List.cons (PySem.Value.str (PySem.Str.ofString "/claim/cut.py") 184) (List.cons (PySem.Value.int 1 0) (List.cons (PySem.Value.int 0 0) (List.cons (PySem.Value.int 0 0) (List.cons (PySem.Value.int 0 0) (List.cons (PySem.Value.int 0 0) (List.cons (PySem.Value.ref 11) (List.cons (PySem.Value.bool Bool.false) (List.cons (PySem.Value.int 181 0) (List.cons (PySem.Value.ref 12) (List.cons PySem.Value.none (List.cons PySem.Value.none (List.cons PySem.Value.none (List.cons PySem.Value.none (List.cons (PySem.Value.int 185 0) (List.cons (PySem.Value.int 1 0) (List.cons (PySem.Value.str (PySem.Str.ofString "/claim/cut.py") 186) List.nil))))))))))))))))))))) (@List.toArray (Option PySem.Value) List.nil))
def op_14 (P : Params) : Obj := (PySem.Obj.mk (PySem.Value.type "frame") Option.none PySem.Data.plain (@List.toArray (Option PySem.Value) (List.cons (Option.some (PySem.Value.ref 13)) (List.cons (Option.some (PySem.Value.ref 3)) (List.cons (Option.some (PySem.Value.ref 3)) (List.cons Option.none (List.cons (Option.some (PySem.Value.str (PySem.Str.ofString "__main__") 164)) (List.cons Option.none (List.cons (Option.some (PySem.Value.ref 0)) List.nil)))))))))
noncomputable def opHeap (w : World) : Heap := ⟨Array.mk [PySem.W.boot_o_0 w.params, PySem.W.boot_o_1 w.params, PySem.W.boot_o_2 w.params, PySem.W.boot_o_3 w.params, PySem.W.boot_o_4 w.params, PySem.W.boot_o_5 w.params, PySem.W.boot_o_6 w.params, PySem.W.boot_o_7 w.params, PySem.W.boot_o_8 w.params, PySem.W.boot_o_9 w.params, PySem.W.boot_o_10 w.params], (PySem.Life.mk List.nil List.nil List.nil 0 List.nil List.nil Bool.false (@List.toArray Nat List.nil) List.nil 0 Bool.false Bool.false Bool.false 0 (List.cons 2000 (List.cons 10 (List.cons 10 List.nil))) Bool.false 0 Bool.true List.nil List.nil 0 Bool.false)⟩
noncomputable def opTree (w : World) : BT := (.node (PySem.W.boot_o_0 w.params) (.node (PySem.W.boot_o_1 w.params) (.node (PySem.W.boot_o_3 w.params) (.node (PySem.W.boot_o_7 w.params) .nil .nil) (.node (op_11 w.params) .nil .nil)) (.node (PySem.W.boot_o_5 w.params) (.node (PySem.W.boot_o_9 w.params) .nil .nil) (.node (op_13 w.params) .nil .nil))) (.node (PySem.W.boot_o_2 w.params) (.node (PySem.W.boot_o_4 w.params) (.node (PySem.W.boot_o_8 w.params) .nil .nil) (.node (op_12 w.params) .nil .nil)) (.node (PySem.W.boot_o_6 w.params) (.node (PySem.W.boot_o_10 w.params) .nil .nil) (.node (op_14 w.params) .nil .nil))))
def opLife : Life := (PySem.Life.mk List.nil List.nil List.nil 0 List.nil List.nil Bool.false (@List.toArray Nat List.nil) List.nil 0 Bool.false Bool.false Bool.false 0 (List.cons 2000 (List.cons 10 (List.cons 10 List.nil))) Bool.false 0 Bool.true List.nil List.nil 0 Bool.false)
def opBody : List Stmt := behindTheImports PySem.Challenge.pw_ko0121_08
def opEnv : Env := { scope := (PySem.Challenge.pw_ko0121_08).main.scope, locals := mainNs, globals := mainNs, cells := [], code := .ref 13, frame := some 14 }
def opCode : Code := .body opBody opEnv
end Mine
namespace Mine
open PySem PySem.W PySem.Calls PyProof.Rows
theorem openS : ∀ w : World, (fencedOpening treeTable PySem.Challenge.pw_ko0121_08 w 2722).map (fun s => (s.heap, s.gens, s.drawn, s.toks)) = some (opHeap w, #[], ⟨0, 0, 0, 0⟩, 181) := by intro w; kernel_rfl
theorem sizeS (w : World) : ((opHeap w).isNs mainGlobals, (opHeap w).objs.size, (opHeap w).nsMap mainGlobals "__annotations__") = (true, 11, some (Value.ref 6)) := by kernel_rfl
theorem preS (w : World) (os : OsState) : topGo treeTable PySem.Challenge.pw_ko0121_08 w 11 (some (Value.ref 6)) 12 ⟨opHeap w, #[], ⟨0, 0, 0, 0⟩, 181, os⟩ (topStub PySem.Challenge.pw_ko0121_08) = some (⟨absHeap (opTree w) 15 opLife, #[], ⟨0, 0, 0, 0⟩, 187, os⟩, ⟨denote treeTable (.body opBody opEnv), opCode, ⟨0, 0, 0, 0⟩, [topFrame ⟨0, 0, 0, 0⟩]⟩) := by kernel_rfl
theorem blkS (w : World) (s : Shared) : segRun treeTable PySem.Challenge.pw_ko0121_08 w 11 (some (Value.ref 6)) 1 1 s (blockOf opBody opEnv opCode ⟨0, 0, 0, 0⟩ [topFrame ⟨0, 0, 0, 0⟩]) = some (.next, s, opCode, ⟨0, 0, 0, 0⟩) := by rfl
def runS (q : Program) (loose : List Str) (Xt : Shared → Bool) {α : Type} (Yf : Shared → α) (Ya : World → α) (w : World) : Prop := ∀ os : OsState, (segRunT treeTable PySem.Challenge.pw_ko0121_08 w 11 (some (Value.ref 6)) 1 2000 ⟨opTree w, 15, opLife, #[], ⟨0, 0, 0, 0⟩, 187, os⟩ (piecesOf opBody opEnv opCode ⟨0, 0, 0, 0⟩ [topFrame ⟨0, 0, 0, 0⟩])).bind (fun r => match r.1 with
      | .next => (topRun treeTable PySem.Challenge.pw_ko0121_08 w 11 (some (Value.ref 6)) 3 r.2.1.abs ⟨doneF .next, r.2.2.1, r.2.2.2, [topFrame ⟨0, 0, 0, 0⟩]⟩).map fun s₁ =>
          ((staticsOk (importedModules (PySem.Challenge.pw_ko0121_08).main.body) (opHeap w) s₁.heap && namesBound PySem.Challenge.pw_ko0121_08 s₁.heap && gensDone s₁ && laidKept (opHeap w) s₁.heap), openSeen q loose (importedModules (PySem.Challenge.pw_ko0121_08).main.body) Xt true s₁, Yf s₁)
      | _ => none) = some (true, openGood q loose, Ya w)
theorem progS : (PySem.Challenge.rw_ko0121_08).row.prog = PySem.Challenge.pw_ko0121_08 := by kernel_rfl
theorem leftS {q : Program} {loose : List Str} {Xt : Shared → Bool} {α : Type} {Yf : Shared → α} {Ya : World → α} (hR : ∀ w : World, runS q loose Xt Yf Ya w) : LeftO (PySem.Challenge.rw_ko0121_08).row.prog q loose Xt Yf Ya 2722 true := by
  rw [progS]
  exact fun w => leftO_tree w (openS w) (sizeS w) (preS w) (blkS w) (hR w) (by decide +kernel)
def keepAt (is : List Nat) (l : List PySem.Stmt) : List PySem.Stmt := is.filterMap fun i => l[i]?
def view : PySem.Program := { PySem.Challenge.pw_ko0121_08 with main := { (PySem.Challenge.pw_ko0121_08).main with body := keepAt [0, 2, 4, 5] (PySem.Challenge.pw_ko0121_08).main.body } }
def part1Of {A C D : Prop} (_ : A ∧ C → D) : Prop := A
end Mine
local macro_rules | `(tactic| o_head $H) => do
  let hw := Lean.mkIdent `hw
  let hc := Lean.mkIdent `hc
  `(tactic| (refine (fun hAll : _ ∧ _ => Mine.holds_openC (q := Mine.view) (loose := []) (Xt := fun s => xlAt Mine.view [] s && recOk (RowW.records (OpenRow.toRowW (PySem.Challenge.rw_ko0121_08).row)) s) (XP := XL Mine.view []) (Yf := Hook.obs $H) (Ya := Hook.val $H) (YP := Hook.says $H) (N := 2722) (Mine.leftS hAll.1) (Hook.of $H) (Hook.keeps $H) (fun s e => xl_of s (Bool.and_eq_true_iff.mp e).1) XL.keeps (by rfl) (by rfl) (by rfl) (fun s e => recFacts_of (Bool.and_eq_true_iff.mp e).2) (by rfl) (by assumption) (by decide +kernel) ⟨rfl, rfl, rfl, rfl, rfl, by decide +kernel⟩ ?$hw hAll.2) ?$hc))
set_option maxHeartbeats 8000000 in
open_top hd for PySem.Challenge.rw_ko0121_08
theorem Mine.headR : Mine.part1Of hd := by intro w os; kernel_rfl
namespace Mine
open PySem PySem.W PySem.Spec PySem.Calls PyProof.Rows
section
variable {M : Model} {A : Around} {E : Value → Shared → Prop} {s : Shared} {K : Frag} {env : Env} {pos : Pos} {f : Value} {first : List Value} {Q : Value → Shared → Prop}
theorem enterC {c : ClaimW} {cl : Str → Option Addr} {mean : ExcName → Option Value} {args : List WData} {s₁ : Shared} {ps : List Value} {kw : List (Str × Value)}
    (h : codeC M A (.call f ⟨ps, kw⟩) (GoodWG c cl mean args s₁) s) : wpC M A (PySem.call f ps kw) (fun v s' => GoodWG c cl mean args s₁ (.ok (.ret v)) s') (fun e s' => GoodWG c cl mean args s₁ (.error e) s') s :=
  wpC_call (codeC_mono h fun res s' g => by rcases g.1 with ⟨v, _, _, rfl, _⟩ | ⟨e, _, _, rfl, _⟩ <;> exact g)
theorem callWithC0 (X : K.In s.heap) (hk : keepIn K f = true) (h : wpC M A (call f (first ++ [])) Q E s) : wpC M A (callWith pos f first (backTo pos (starEach [] env)) []) Q E s :=
  callWithC rfl (keeps_K hk) (wpC_any (evalArgs_nil3 ⟨X, h⟩))
theorem callWithC1 {e : Expr} {rest : List Expr} (hk : keepIn K f = true) (h : wpC M A (eval e env) (fun v s₁ => wpAny M A (spliced (backTo pos (starEach rest env))) (fun vs s₂ => K.In s₂.heap ∧ wpAny M A (call f (first ++ (v :: vs))) Q E s₂) E s₁) E s)
    (he : starEach (e :: rest) env = (false, eval e env) :: starEach rest env := by rfl) (hplain : (backTo pos (starEach rest env)).any (·.1) = false := by rfl) : wpC M A (callWith pos f first (backTo pos (starEach (e :: rest) env)) []) Q E s := by
  rw [he]
  refine callWithC (P := K.In) (by show (false || (backTo pos (starEach rest env)).any (·.1)) = false; rw [hplain]; rfl) (keeps_K hk) (evalArgsC (splicedC_cons (wpC_mono h (fun v s₁ k => ?_) fun _ _ k => k)))
  exact wpAny_mono k (fun vs s₂ k2 => ⟨k2.1, wpC_any k2.2⟩) fun _ _ k => k
theorem callWithT {T : String} {e : Expr} {rest : List Expr} (h : wpAny M A (spliced (backTo pos (starEach (e :: rest) env))) (fun vs s₁ => wpC M A (call (.type T) vs) Q E s₁) E s)
    (he : starEach (e :: rest) env = (false, eval e env) :: starEach rest env := by rfl) (hplain : (backTo pos (starEach rest env)).any (·.1) = false := by rfl) : wpC M A (callWith pos (.type T) [] (backTo pos (starEach (e :: rest) env)) []) Q E s := by
  rw [he] at h ⊢
  refine callWithC (P := fun _ => True) (by show (false || (backTo pos (starEach rest env)).any (·.1)) = false; rw [hplain]; rfl) (fun hh _ => ⟨.machine, .inr (.inl rfl), Looks.of_pure rfl⟩) (wpC_any (evalArgs_plain (wpAny_mono h (fun vs s₁ k => ⟨trivial, k⟩) fun _ _ k => k)))
theorem row {st : Stmt} {rest : List Stmt} {Q : Flow → Shared → Prop} (h : wpAny M A (exec st env) (fun f s' => match f with | .next => Hid8 (wpC M A (execs rest env) Q E s') | f => Q f s') E s) : Hid8 (wpC M A (execs (st :: rest) env) Q E s) :=
  ⟨execsC_cons (wpC_any (wpAny_mono h (fun f s' k => by cases f <;> first | exact k.out | exact k) fun _ _ k => k))⟩
theorem rowC {st : Stmt} {rest : List Stmt} {Q : Flow → Shared → Prop} (h : wpC M A (exec st env) (fun f s' => match f with | .next => Hid8 (wpC M A (execs rest env) Q E s') | f => Q f s') E s) : Hid8 (wpC M A (execs (st :: rest) env) Q E s) :=
  ⟨execsC_cons (wpC_mono h (fun f s' k => by cases f <;> first | exact k.out | exact k) fun _ _ k => k)⟩
theorem row0 {Q : Flow → Shared → Prop} (h : wpAny M A (execs [] env) Q E s) : Hid8 (wpC M A (execs [] env) Q E s) := ⟨wpC_any h⟩
theorem ifH {test : Expr} {body orelse : List Stmt} {pos : Pos} {Q : Flow → Shared → Prop} (h : wpAny M A (isTrue test env (eval test env)) (fun b s₂ => if b then Hid8 (wpC M A (execs body env) Q E s₂) else Hid8 (wpC M A (execs orelse env) Q E s₂)) E s) :
    wpC M A (exec (.If test body orelse pos) env) Q E s :=
  ifC (wpAny_mono h (fun b s₂ k => by cases b <;> exact k.out) fun _ _ k => k)
theorem methodH {o : Expr} {name : Str} {apos pos : Pos} {args : List Expr} {pl : Sem Bool} {Q : Value → Shared → Prop}
    (h : wpAny M A (eval o env) (fun ov s₁ => wpAny M A (getMethod ov name pl) (fun fx s₂ => Hid8 (wpC M A (callWith pos fx.1 fx.2 (backTo pos (starEach args env)) []) Q E s₂)) E s₁) E s)
    (he : eval (.Call (.Attribute o name apos) args [] pos) env = (eval o env >>= fun ov => standAt apos.atName >>= fun _ => holding [ov] (getMethod ov name pl) >>= fun fx => callWith pos fx.1 fx.2 (backTo pos (starEach args env)) []) := by rfl) :
    wpC M A (eval (.Call (.Attribute o name apos) args [] pos) env) Q E s :=
  methodC (wpAny_mono h (fun ov s₁ k => wpAny_mono k (fun fx s₂ k2 => k2.out) fun _ _ k => k) fun _ _ k => k) he
theorem callNameH {func : Expr} {args : List Expr} {pos : Pos} {Q : Value → Shared → Prop} (h : wpAny M A (eval func env) (fun f s₁ => Hid8 (wpC M A (callWith pos f [] (backTo pos (starEach args env)) []) Q E s₁)) E s)
    (he : eval (.Call func args [] pos) env = (eval func env >>= fun f => callWith pos f [] (backTo pos (starEach args env)) (backToKw pos (keywordEach [] env))) := by rfl) :
    wpC M A (eval (.Call func args [] pos) env) Q E s := callNameC (wpAny_mono h (fun f s₁ k => k.out) fun _ _ k => k) he
theorem callWithTH {T : String} {e : Expr} {rest : List Expr} (h : wpAny M A (spliced (backTo pos (starEach (e :: rest) env))) (fun vs s₁ => Hid8 (wpC M A (call (.type T) vs) Q E s₁)) E s)
    (he : starEach (e :: rest) env = (false, eval e env) :: starEach rest env := by rfl) (hplain : (backTo pos (starEach rest env)).any (·.1) = false := by rfl) : Hid8 (wpC M A (callWith pos (.type T) [] (backTo pos (starEach (e :: rest) env)) []) Q E s) :=
  ⟨callWithT (wpAny_mono h (fun f s₁ k => k.out) fun _ _ k => k) he hplain⟩
theorem rowT {st : Stmt} {rest : List Stmt} {Q : Flow → Shared → Prop} {hp : Heap} {g : Array GenState} {d : Drawn} {t : Nat} {os : OsState} (h : ∀ tk, wpAny M A (exec st env) (fun f s' => match f with | .next => Hid8 (wpC M A (execs rest env) Q E s') | f => Q f s') E ⟨hp, g, d, tk, os⟩) : Hid8 (wpC M A (execs (st :: rest) env) Q E ⟨hp, g, d, t, os⟩) := row (h t)
end
section
variable {prog : Program} {w : World} {A : Around} {s : Shared} {env : Env} {h₀ : Heap} {Q : Flow → Shared → Prop}
theorem forCF {m : Str → Option Value} {x : Str} {px pos : Pos} {iter : Expr} {body : List Stmt} (_ : Fr h₀ env.locals s.heap m) (hx : env.kindOf x = some .local) (hp : (env.scope.kind == .class || (env.scope.kind == .module && env.locals != env.globals)) = false)
    (h : wpAny (model prog w) A (eval iter env) (fun xv s₁ => wpAny (model prog w) A (pyIter xv) (fun it s₂ => LoopAtC prog w A h₀ env x body Q it s₂) (fun _ _ => False) s₁) (fun _ _ => False) s)
    (hs : ∀ x, foldedSetIterable iter env x = pure x := by intro _; rfl) : wpC (model prog w) A (exec (.For (.Name x px) iter body [] pos) env) Q (fun _ _ => False) s := forC h₀ hx hp h hs
end
end Mine

local macro_rules | `(tactic| walk_at "FkPost") => `(tactic| dsimp only [Mine.FkPost])
local macro_rules | `(tactic| k_room) => `(tactic| ktr_room)
local macro_rules | `(tactic| k_units) => `(tactic| ktr_units)
local macro_rules | `(tactic| ktr_enter) => `(tactic| (refine' code_def ?k1 ?k2 ?k3 ?k4 ?k5 ?kA ?kF ?kK ?k6 ?k7 ?k8 ?k9 ?kB ?_ ?c2 ?c3 ?c4 ?c5; (case kA => exact rfl); (case kF => exact rfl); (case kK => first | exact rfl | assumption); (case k1 => k_asm); (case k2 => k_asm); (case k3 => k_asm); (case k4 => k_asm); (case k5 => k_asm); (case k6 => k_is); (case k7 => k_is); (case k8 => ktr_room); (case k9 => first | exact BindsTo.of_eq rfl | exact binds_K (by k_in) rfl (by k_is) rfl rfl rfl | (refine' kp_binds ?kx ?ke; (case kx => k_in); (case ke => exact fun _ => rfl))); (case c5 => decide); (case kB => exact locs rfl); (case c2 => exact rfl); (case c3 => exact rfl); (case c4 => exact rfl); k_whole; intro g' L' h' FG' F' N' B' X' T'; (try dsimp only); (try k_fold)))
local macro_rules | `(tactic| walk_at "call type:type") => `(tactic| ((with_reducible show wpAny _ _ (call _ [Value.bytes _ _]) _ _ _); refine call_type_of (Tx := "bytes") rfl (by decide +kernel) ?_))
local macro_rules | `(tactic| size_fits) => `(tactic| first | decide | ((try simp only [List.size_toArray, Array.size_append, List.length_append, List.length_cons, List.length_nil, PySem.sizeLine_eq]); omega))
local macro_rules | `(tactic| k_all) => `(tactic| kst_allNe)
local macro_rules | `(tactic| k_all) => `(tactic| (refine List.forall_mem_append.mpr ⟨?_, ?_⟩ <;> k_all))
local macro_rules | `(tactic| walk_at "call builtin:list.append") => `(tactic| (k_here; (try dsimp only [List.cons_append, List.nil_append]); k_dflt (refine' Mine.append_Z ?k1 ?k2 ?k3 ?_ ?z; (case k1 => k_asm); (case k2 => k_asm); (case k3 => k_upd); (case z => size_fits); k_whole); intro h' F' N'; (try k_sweep)))
local macro_rules | `(tactic| walk_at "binaryOp Add int int") => `(tactic| (k_here; refine Mine.addI ?_; intro t' k'))
local macro_rules | `(tactic| walk_at "binaryOp Mod int int") => `(tactic| (k_here; refine' Mine.modI ?z ?_; (case z => first | decide | omega); intro t' k'))
local macro_rules | `(tactic| walk_at "binaryOp Mult int int") => `(tactic| (k_here; refine' Mine.mulI ?z ?_; (case z => first | decide | omega); intro t' k'))
local macro_rules | `(tactic| walk_at "eval Constant int") => `(tactic| (k_here; refine Mine.constI ?_; intro t' k'))
local macro_rules | `(tactic| walk_at "subscriptTail") => `(tactic| (k_here; (with_reducible show wpAny _ _ (subscriptTail _ _ (Value.str (Str.ofString "ABCDEFGHIJKLMNOPQRSTUVWXYZabcdefghijklmnopqrstuvwxyz0123456789+/") _) (Value.int _ _)) _ _ _); (with_unfolding_all refine' Mine.item_S (c := Mine.sgn _) ?k1 ?k2 ?_); (case k1 => first | decide | omega); (case k2 => exact Mine.alpha_get _ (by omega)); intro t' k'))
local macro_rules | `(tactic| walk_at "compareOp NotEq") => `(tactic| (k_here; (with_reducible show wpAny _ _ (compareOp CmpOp.NotEq (Value.type "bytes") (Value.type "bytes")) _ _ _); (refine Mine.ne_type_same PySem.TypeEq.meta_bytes ?_)))
local macro_rules | `(tactic| walk_at "compareOp NotEq") => `(tactic| (k_here; (with_reducible show wpAny _ _ (compareOp CmpOp.NotEq (Value.type "str") (Value.type "str")) _ _ _); (refine Mine.ne_type_same PySem.TypeEq.meta_str ?_)))
local macro_rules | `(tactic| walk_at "call builtin:len") => `(tactic| (k_here; (try dsimp only [List.cons_append, List.nil_append]); (with_reducible show wpAny _ _ (call _ [Value.ref _]) _ _ _); k_dflt (refine' Mine.len_Z ?N ?l ?_ ?z; (case N => k_asm); (case l => first | with_reducible assumption | k_memK); (case z => first | omega | (simp only [List.length_append, List.length_cons, List.length_nil]; omega)); k_whole); intro t' k'))
local macro_rules | `(tactic| walk_at "eval Dict nil nil") => `(tactic| (k_here; k_dflt (refine' newDict_K ?k1 ?k2 (Glob.nolimit (by assumption)) ?_; (case k1 => k_asm); (case k2 => k_asm); k_whole); intro d' h' o' F' N' l1 lo' hs' fs' hi' fi'; (try k_lt l1); (try k_sweep)))
local macro_rules | `(tactic| walk_at "neUp") => `(tactic| first | exact Mine.nm (by with_reducible assumption) | exact Mine.nl0 (by with_reducible assumption) | exact Mine.nl1 (by with_reducible assumption) | exact Mine.nl2 (by with_reducible assumption) | exact Mine.nl3 (by with_reducible assumption) | exact Mine.nl4 (by with_reducible assumption) | exact Mine.nl5 (by with_reducible assumption) | exact Mine.nl6 (by with_reducible assumption) | exact Mine.nl7 (by with_reducible assumption) | exact Mine.nl8 (by with_reducible assumption) | exact Mine.nl9 (by with_reducible assumption) | exact Mine.nl10 (by with_reducible assumption) | exact Mine.nl11 (by with_reducible assumption) | exact Mine.nl12 (by with_reducible assumption) | exact Mine.nl13 (by with_reducible assumption) | exact Mine.nl14 (by with_reducible assumption) | exact Mine.nl15 (by with_reducible assumption) | exact Mine.nl16 (by with_reducible assumption) | exact Mine.nl17 (by with_reducible assumption))
local macro_rules | `(tactic| k_ne) => `(tactic| (refine neN ?_; (try dsimp only); first | with_reducible assumption | (refine Mine.neS ?_; with_reducible assumption) | (first | (walk_at "neUp") | (refine Mine.neS ?_; walk_at "neUp")) | omega))
local macro_rules | `(tactic| k_lt $h:ident) => `(tactic| (replace $h := allLt_of $h; dsimp only [AllLt] at $h:ident))
local macro_rules | `(tactic| ktr_room) => `(tactic| first | decide | ((try simp only [depth_under_make, depth_under_kw, depth_in1, depth_deeper, depth_caller]); decide))
namespace Mine
open PySem PySem.W PySem.Spec PySem.Calls PyProof.Rows
local macro_rules | `(tactic| walk_at "call builtin:str.index") => `(tactic| (k_here; (try dsimp only [List.cons_append, List.nil_append]); (with_reducible show wpAny _ _ (call _ [Value.str _ _, Value.str _ _]) _ _ _); k_dflt (refine' Mine.index_in ?hh ?o ?_; (case hh => exact rfl); (case o => with_reducible assumption)); intro t' k'))
local macro_rules | `(tactic| walk_at "subscriptTail") => `(tactic| (k_here; (with_reducible show wpAny _ _ (subscriptTail _ _ (Value.str _ _) (Value.int 0 _)) _ _ _); (with_unfolding_all refine' Mine.item_0 ?k1 ?k2 ?_); (case k1 => with_reducible assumption); (case k2 => decide); intro t' k'))
set_option maxHeartbeats 8000000 in
theorem num_spec (w : World) (loose : List Str) (mean : ExcName → Option Value) (mg mb : Str → Option Value) (x : Str) (tx : Tok) (hlen : x.length ≤ 200) (hok : ∀ Fig B b, NumParse x Fig B b → ∀ y ∈ Txt.split (Txt.lower B) (Str.ofString "_"), PyData.strOk y = true) :
    Spec3 PySem.Challenge.pw_ko0121_08 w (hd.heap_39 w.params) Mine.view loose mean mg mb 181 [.str x tx] [] 3 200 (fun _ => True)
      (fun _ r => NumOut x r) (fun _ _ _ _ _ _ => False) := by
  unfold Spec3
  intro dp un gd cn cs a ccd cl outer A₀ base h₀ L m news s Q E B F X N T hk hdp hun hpre hret hbad
  have kq : (PySem.Challenge.rw_ko0121_08.foot = PySem.Challenge.rw_ko0121_08.foot ∧ hd.heap_39 = hd.heap_39) := by (k_fill; exact ⟨rfl, rfl⟩)
  clear kq
  w_on
  have hMk9 : KstMark := kstMark
  refine wpAny_call ?_
  k_dflt ((refine' code_defC ?k1 ?k2 ?k3 ?k4 ?k5 ?kA ?kF ?kK ?k6 ?k7 ?k8 ?k9 ?kB ?kD ?_ ?c2 ?c3 ?c4; (case kA => exact rfl); (case kF => exact rfl); (case kK => assumption); (case k1 => k_asm); (case k2 => k_asm); (case k3 => k_asm); (case k4 => k_asm); (case k5 => k_asm); (case k6 => k_is); (case k7 => k_is); (case k8 => ktr_room); (case k9 => exact BindsTo.of_eq rfl); (case kB => exact rfl); (case kD => decide +kernel); (case c2 => exact rfl); (case c3 => exact rfl); (case c4 => exact rfl); k_whole; intro g' L' h' tk' cells' FG' F' N' Y' B' X' T' l1; (try k_lt l1); k_cells Y'; (try simp only [List.cons_append, List.nil_append] at N'); (try dsimp only); (try k_fold)))
  have l2 : ∀ p ∈ news, p.1 < L' + 1 := fun p hp => Nat.lt_succ_of_lt (l1 p hp)
  k_with "exec If" => (refine halt ?_)
  k_steps
  k_with_none
  unfold Halt
  (rename Fr _ _ _ _ => lF0; rename News _ _ _ _ => lN0)
  refine wpAny_mono (Q := JoinN g' L' (L' + 1) news s x) ?_ (fun f s' hR => ?_) (fun _ _ e => e)
  · have h01 : (Str.ofString "0").length = 1 := by decide
    k_steps
    all_goals (
      (rename Fr _ _ _ _ => lF; rename News _ _ _ _ => lN)
      refine joinN lF lN (by kst_all) (by with_reducible assumption) (by exact fun p hp => List.mem_cons_of_mem _ hp) ?_ (by omega)
      clear lF lN F N
      first
        | (with_reducible refine np1 ?_ ?_ <;> with_reducible assumption)
        | (with_reducible refine np2 ?_ ?_ <;> with_reducible assumption)
        | (with_reducible refine np3 ?_ ?_ <;> with_reducible assumption)
        | (with_reducible refine np4 ?_ ?_ <;> with_reducible assumption)
        | (with_reducible refine np5 ?_ ?_ ?_ <;> with_reducible assumption)
        | (with_reducible refine np6 ?_ ?_ ?_ <;> with_reducible assumption)
        | (with_reducible refine np7 ?_ ?_ ?_ ?_ <;> with_reducible assumption))
  · obtain ⟨h', tk, u, o', Fig, B, b, tF, tB, rfl, rfl, F', hoc, N', hNP, hBl⟩ := hR
    have hF := hNP.fig
    clear lF0 lN0
    k_with "pyIter ref" => (refine halt ?_)
    k_steps
    k_with_none
    unfold Halt
    rename List.map _ _ = Txt.split _ _ => hG
    rename StrsAre _ _ => hS
    rename ∀ a ∈ _, Str.length a ≤ _ => hsl
    have hok2 := hok Fig B b hNP
    rename List (Str × Tok) => gl
    (rename Fr _ _ _ _ => lF; rename News _ _ _ _ => lN)
    refine for_listK (σ := Value) _ (fun c => []) (fun c => [("number", c), ("less", .bool b)]) (fun i c => ∃ n t, c = .int (n : Nat) t ∧ lawF Fig.cps.toList (((gl.map (·.1)).map (·.cps.toList)).take i) = some n) _ rfl (List.Mem.head _) (by exact fun _ h => nomatch h) lF lN (by exact fun _ h => nomatch h) (fun p hp => List.mem_cons_of_mem _ hp) (by kst_all) (by exact ⟨0, _, rfl, rfl⟩) ?_ ?_
    · rintro i v c u h tk own hi hv ⟨n, t, rfl, hn⟩ hoff hown F' N'
      obtain ⟨y, ty, rfl, hy⟩ := strVals_at hv
      have hyl := hsl y (List.mem_of_getElem? hy)
      have hy2 : ((gl.map (·.1)).map (·.cps.toList))[i]? = some y.cps.toList := by rw [List.getElem?_map, hy]; rfl
      dsimp only at *
      dsimp only [List.nil_append, List.cons_append] at N'
      clear lF lN
      k_with "eval ListComp" => (refine halt ?_)
      k_steps
      · rename _ = true => hye
        exact hret _ [] _ _ (by k_asm) (dropN (by k_asm) (by intro p hp; kst_mem)) noneAbove ⟨Fig, B, b, hNP, .inl ⟨by rw [← hG]; exact lawF_none hn hy2 (grpF_no (.inl (by rw [eq_of_beq hye]; decide))), rfl⟩⟩
      · unfold Halt
        k_with_none
        rename _ = false => hye
        have hyne : y.cps.toList ≠ [] := fun e => by rw [str_nil.mp e] at hye; cases hye
        (rename Fr _ _ _ _ => lF; rename News _ _ _ _ => lN)
        refine comp_str (xt := y) (tx := ty) (test := fun c => decide (c ∉ Fig.cps.toList)) lF (by with_unfolding_all rfl) (by decide) (by rfl) (by decide) (by rfl) (fun _ => rfl) (fun _ => rfl) (by decide) rfl lN ?hsz ?hit ?turn ?fin
        case hsz => rw [sizeLine_eq]; omega
        case hit =>
          intro Q' hq
          k_steps
          exact hq
        case turn =>
          intro k t I oI C oC D ys m₂ h tk E' hk hC hm F' N' off hne
          k_steps
          exact tested (by k_asm) (by k_asm) (test_ok _ _)
        case fin =>
          intro D ys h tk hys F' N' hD
          clear lF lN
          k_with "compareOp NotEq ref ref" => (refine halt ?_)
          k_with "pyIter str" => (refine halt ?_)
          k_steps
          unfold Halt
          (rename Fr _ _ _ _ => lF; rename News _ _ _ _ => lN)
          by_cases hf : (y.cps.toList.filter (fun c => decide (c ∉ Fig.cps.toList))) = []
          · refine ne_nil_no lN (List.mem_cons_of_mem _ (List.Mem.head _)) hys (List.Mem.head _) (by rw [hf]; rfl) ?hu ?_
            case hu => ktr_units
            k_steps
            unfold Halt
            k_with_none
            (rename Fr _ _ _ _ => lF; rename News _ _ _ _ => lN)
            refine for_strK (σ := Value) _ (fun c => [("number", c), ("less", .bool b)]) (fun i c => ∃ t, c = .int (((y.cps.toList.take i).foldl (fun n c => n * Fig.cps.toList.length + figV Fig.cps.toList c) n : Nat) : Int) t) _ rfl lF lN (fun p hp => List.mem_cons_of_mem _ (List.mem_cons_of_mem _ hp)) (by kst_all) ⟨_, rfl⟩ ?_ ?_
            · rintro j k t c u h tk own2 hj hkj ⟨t3, rfl⟩ F' N'
              have hmem : k ∈ Fig.cps.toList := by
                have := List.filter_eq_nil_iff.mp hf k (List.mem_of_getElem? hkj)
                simpa using this
              have hocc := occF hF hmem
              have hfl := lenF hF
              have hfl2 : Fig.cps.toList.length = Fig.length := str_len _
              dsimp only at *
              dsimp only [List.nil_append, List.cons_append] at N'
              clear lF lN
              k_steps
              (rename Fr _ _ _ _ => lF; rename News _ _ _ _ => lN)
              refine fkEnd lF lN _ (by exact fun _ h => nomatch h) (by exact fun p hp => tailM1 hp) (by exact fun p hp => List.mem_cons_of_mem _ (List.mem_append_right _ hp)) (by exact fun _ _ _ h => nomatch h) (by kst_all) (by exact ⟨_, intE (by rw [List.take_add_one, hkj, List.foldl_append]; simp only [Option.toList, List.foldl_cons, List.foldl_nil]; rw [hfl2]; omega)⟩)
            · rintro c u h tk ⟨t3, rfl⟩ F' N'
              rw [List.take_of_length_le (by simp)] at F'
              dsimp only at *
              clear lF lN
              k_steps
              (rename Fr _ _ _ _ => lF; rename News _ _ _ _ => lN)
              refine fkEnd lF lN _ (by exact fun _ h => nomatch h) (by exact fun p hp => tailM1 hp) (by exact fun p hp => List.mem_cons_of_mem _ (List.mem_append_right _ hp)) (by exact hoff) (by kst_all) (by exact ⟨_, _, rfl, by rw [List.take_add_one, hy2]; simp only [Option.toList]; rw [lawF_snoc, hn, grpF_ok hyne hf]⟩)
          · refine ne_nil_yes lN (List.mem_cons_of_mem _ (List.Mem.head _)) hys (List.Mem.head _) (by intro e; exact hf (List.map_eq_nil_iff.mp e)) ?ok ?hu2 ?_
            case ok =>
              intro z hz
              obtain ⟨c, hc, rfl⟩ := List.mem_map.mp hz
              have h1 := hok2 y (by rw [← hG]; exact List.mem_of_getElem? hy)
              unfold PyData.strOk at h1 ⊢
              rw [Array.all_eq_true'] at h1
              have h2 := h1 c (by rw [← Array.mem_toList_iff]; exact (List.mem_filter.mp hc).1)
              simp [sing, h2]
            case hu2 => ktr_units
            k_steps
            exact hret _ [] _ _ (by k_asm) (dropN (by k_asm) (by intro p hp; kst_mem)) noneAbove ⟨Fig, B, b, hNP, .inl ⟨by rw [← hG]; exact lawF_none hn hy2 (grpF_no (.inr hf)), rfl⟩⟩
    · rintro c u h tk ⟨n, t, rfl, hn⟩ F' N'
      rw [List.take_of_length_le (by simp [strValues]), hG] at hn
      dsimp only at *
      clear lF lN
      k_steps
      · rename _ = true => hbt
        exact hret _ [] _ _ (by k_asm) (dropN (by k_asm) (by intro p hp; kst_mem)) noneAbove ⟨Fig, B, b, hNP, .inr ⟨n, _, hn, by rw [hbt]; rfl⟩⟩
      · rename _ = false => hbf
        exact hret _ [] _ _ (by k_asm) (dropN (by k_asm) (by intro p hp; kst_mem)) noneAbove ⟨Fig, B, b, hNP, .inr ⟨n, _, hn, by rw [hbf]; rfl⟩⟩
end Mine

open PySem PySem.W PySem.Spec PySem.Calls PyProof.Rows
local macro_rules | `(tactic| walk_at "call type:list") => `(tactic| (k_here; (with_reducible show wpAny _ _ (call _ [Value.str _ _]) _ _ _); k_dflt (refine' Mine.listStr_Z ?h ?F ?N ?z ?_; (case h => exact rfl); (case F => k_asm); (case N => k_asm); (case z => decide); k_whole); intro D' h' tk' ys' n' F' N' l1 hst; (try k_lt l1); (try k_sweep)))
local macro_rules | `(tactic| walk_at "binaryOp Mult ref int") => `(tactic| (k_here; (with_reducible show wpAny _ _ (binaryOp _ (Value.ref _) (Value.int _ _)) _ _ _); k_dflt (refine' Mine.mulL_Z ?F ?N ?l ?x ?z ?_; (case F => k_asm); (case N => k_asm); (case l => k_memK); (case x => omega); (case z => (rw [Mine.strsAre_length (by with_reducible assumption)]; decide)); k_whole); intro D' h' F' N' l1; (try k_lt l1); (try k_sweep)))
local macro_rules | `(tactic| walk_at "binaryOp Add ref ref") => `(tactic| (k_here; (with_reducible show wpAny _ _ (binaryOp _ (Value.ref _) (Value.ref _)) _ _ _); refine Mine.halt ?_))
local macro_rules | `(tactic| walk_at "inplaceOp Add ref") => `(tactic| (k_here; (with_reducible show wpAny _ _ (inplaceOp _ (Value.ref _) (Value.ref _)) _ _ _); refine Mine.halt ?_))
local macro_rules | `(tactic| walk_at "subscriptTail") => `(tactic| (k_here; (try dsimp only); (with_reducible show wpAny _ _ (subscriptTail _ _ (Value.ref _) (Value.int _ _)) _ _ _); (with_unfolding_all refine' Mine.itemStr_Z ?N ?l ?v ?h0 ?_); (case N => k_asm); (case l => k_memK); (case v => with_reducible assumption); (case h0 => (rw [Mine.pieceL_len]; omega)); intro y9 t9 hy9))
local macro_rules | `(tactic| walk_at "subscriptTail") => `(tactic| (k_here; (try dsimp only); (with_reducible show wpAny _ _ (subscriptTail _ _ (Value.ref _) (Value.int (-1) _)) _ _ _); (with_unfolding_all refine' Mine.itemLast_Z ?N ?l ?z ?_); (case N => k_asm); (case l => k_memK); (case z => omega)))
local macro_rules | `(tactic| walk_at "c181") => `(tactic| (k_here; (with_reducible show wpAny _ _ (call (Value.ref 181) [Value.str _ _] _) _ _ _); k_dflt (refine' Mine.Spec3.use (Mine.num_spec _ _ _ _ _ _ _ ?sz ?ok) ?B ?F ?X ?N ?T ?hk ?hd ?hu ?hp ?ret ?bad; (case sz => with_reducible assumption); (case ok => with_reducible assumption); (case B => k_asm); (case F => k_asm); (case X => k_asm); (case N => k_asm); (case T => k_asm); (case hk => exact rfl); (case hd => ktr_room); (case hu => ktr_units); (case hp => trivial); k_whole); (case bad => (intro _ _ _ _ hb; exact hb.elim)); intro r9 tl h' tk' F' N' hab hr9; replace N' := Mine.dropN N' (fun p hp => List.mem_append.mpr (.inr hp))))
local macro_rules | `(tactic| walk_at "Hid8") => `(tactic| ((with_reducible show Mine.Hid8 (Mine.wpC _ _ (execs [] _) _ _ _)); refine Mine.row0 ?_))
local macro_rules | `(tactic| walk_at "Hid8") => `(tactic| ((with_reducible show Mine.Hid8 (Mine.wpC _ _ (execs (_ :: _) _) _ _ _)); refine Mine.rowT (fun tk => ?_)))
local macro_rules | `(tactic| walk_at "Hid8") => `(tactic| ((first | (with_reducible show Mine.Hid8 (Mine.wpC _ _ (execs (Stmt.For (Expr.Name (Str.ofString "text") _) _ _ _ _ :: _) _) _ _ _)) | (with_reducible show Mine.Hid8 (Mine.wpC _ _ (execs (Stmt.Try _ _ _ _ _ :: _) _) _ _ _)) | (with_reducible show Mine.Hid8 (Mine.wpC _ _ (execs (Stmt.If (Expr.BoolOp _ (Expr.Call _ _ _ _ :: _) _) _ _ _ :: _) _) _ _ _)) | (with_reducible show Mine.Hid8 (Mine.wpC _ _ (execs (Stmt.Expr (Expr.Call (Expr.Attribute _ (Str.ofString "add_object") _) _ _ _) _ :: _) _) _ _ _)) | (with_reducible show Mine.Hid8 (Mine.wpC _ _ (callWith _ _ _ _ _) _ _ _)) | (with_reducible show Mine.Hid8 (Mine.wpC _ _ (call _ _ _) _ _ _))); refine Mine.halt ?_))
inductive Mine.Key8 where | k
theorem Mine.kd0 {g h : Heap} {L : Addr} {m : Str → Option Value} (_ : Fr g L h m) : KtsDicts [] g := ktsDicts_nil
section
variable {g G h : Heap} {L : Addr} {m : Str → Option Value} {news : List (Addr × Obj)}
theorem Mine.turn_same (T : KtsTurn [] g G) : g.StaysIn G := fun b ob e => T.other b ob e (fun z => nomatch z)
theorem Mine.fr_turn (T : KtsTurn [] g G) (F : Fr G L h m) : Fr g L h m := ⟨F.ns, fun b ob e => F.keep b ob (Mine.turn_same T b ob e), by rw [← T.size]; exact F.above⟩
theorem Mine.news_turn (T : KtsTurn [] g G) (N : News G L h news) : News g L h news := fun p hp => by
  obtain ⟨a, b, c⟩ := N p hp
  refine ⟨a, b, ?_⟩
  cases q : g.get? p.1 with
  | none => rfl
  | some ob => rw [Mine.turn_same T _ _ q] at c; cases c
end
set_option maxHeartbeats 16000000 in
noncomputable def Mine.part8 : (P1 : Prop) ×' (P2 : Prop) ×' ((Mine.Key8 → P1) → (Mine.Key8 → P2) → PySem.Challenge.rw_ko0121_08.Holds) := by
  refine' ⟨_, _, fun hP1 hP2 => _⟩
  rotate_left 2
  exact hd ⟨Mine.headR, by
  unfold Mine.WalkC
  k_fill
  intro w s₀ s₁ mg mb G Y fa o pm cd doc dV kV ho hd hcd hD hmg hg args vals as hpre hlay hrd hwl hlo
  have KX := kIn_of Y
  have X := (Ground.X G).1
  have V := (Ground.X G).2
  have GL := glob_more (Ground.glob G (by first | k_qdec | decide +kernel) (by first | k_qdec | decide +kernel)) V
  refine Ground.open G ?_
  intro T B D TE TW
  refine guard_noD D (by decide +kernel) ?_
  clear D
  obtain ⟨_, _, M⟩ := bmod_of_top T
  clear hmg
  wrow_args hpre hlay hrd hwl hlo
  refine Mine.enterC ?_
  w_top on
  refine Mine.codeC_mono ?_ (fun _ _ g => GoodW.toG g)
  have K0 := below_caller (Top.heap T)
  have he := Dflts.none hD rfl
  subst he
  refine Mine.codeC_law (by decide) ho hd (Top.nolimit T) hcd (BindsTo.of_eq rfl) (locs rfl) (fun h₁ F => ?_) rfl rfl rfl (by decide)
  w_binds F
  have N0 := (News.nil : News _ _ _ []).at F
  clear hd
  k_drop
  dsimp only
  dsimp only at hcd
  clear hD
  refine Mine.Hid8.out (p := _) ?_
  (all_goals try k_fold)
  k_with "pyIter ref" => (refine Mine.halt ?_)
  k_steps
  unfold Mine.Halt
  (rename Fr _ _ _ _ => lF; rename News _ _ _ _ => lN; rename StrsAre _ (List.map Mine.sing (Str.ofString "abcdefABCDEF").cps.toList) => hs2; rename StrsAre _ (List.map Mine.sing (Str.ofString "0123456789").cps.toList) => hs1)
  have hs1l : _ = 10 := Mine.strsAre_length hs1
  have hs2l : _ = 12 := Mine.strsAre_length hs2
  have hs3 := Mine.strsAre_append (Mine.strsAre_append hs1 (Mine.strsAre_append hs1 .nil)) hs2
  refine Mine.addL_Z lF lN (List.mem_cons_of_mem _ (List.Mem.head _)) (List.Mem.head _) (by
    show ((_ ++ (_ ++ [])) : List Value).length + _ ≤ _
    simp only [List.length_append, List.length_nil]; omega) ?_
  intro D' h' F' N' l1
  clear lF lN
  k_lt l1
  k_sweep
  k_steps
  unfold Mine.Halt
  (rename Fr _ _ _ _ => lF; rename News _ _ _ _ => lN)
  refine Mine.iaddS_Z lF lN (List.Mem.head _) hs3 (.cons _ _ (.cons _ _ (.cons _ _ (.cons _ _ (.cons _ _ (.cons _ _ (.cons _ _ (.cons _ _ (.cons _ _ (.cons _ _ (.cons _ _ (.cons _ _ (.cons _ _ (.cons _ _ (.cons _ _ (.cons _ _ (.cons _ _ .nil))))))))))))))))) (by simp) (.tail ?_ (.head ?_)) (by
    show (((_ ++ (_ ++ [])) ++ _ : List Value)).length + 17 ≤ _
    simp only [List.length_append, List.length_nil]; omega) ?_
  · k_ne
  · k_all
  intro h' ps kps hps F' N'
  replace hps : StrsAre ps Mine.pieceL := hps
  have hpl := Mine.strsAre_length hps
  rw [Mine.pieceL_len] at hpl
  (try dsimp only at N')
  clear lF lN hs1 hs2 hs3 hs1l hs2l
  k_steps
  unfold Mine.Halt
  k_with_none
  (rename Fr _ _ _ _ => lF; rename News _ _ _ _ => lN)
  rename_i t7 A1 _ l1a A2 _ l1b TX _ l1c _ _
  have hTX1 : @Ne Nat A1 TX := by omega
  refine Mine.for_listK (σ := Obj × Addr × Obj × List (Addr × Obj)) [(D', W.listOf ps.toArray kps)] (fun c => (TX, c.1) :: (c.2.1, c.2.2.1) :: c.2.2.2) (fun c => [("texts", .ref TX), ("pieces", .ref D')]) (fun i c => Mine.TextsInv TX D' i c)
    (W.listOf #[Value.ref A1, Value.ref A2] 0, A2, W.listOf #[] 0, [(A1, W.listOf #[Value.str (Str.ofString "7") t7] 0)]) rfl (by k_memK) ?_ lF lN ?_ ?_ (by kst_all) ?_ ?_ ?_
  · intro p hp
    simp only [List.mem_cons, List.not_mem_nil, or_false] at hp
    rcases hp with rfl | rfl | rfl <;> k_ne
  · intro p hp
    simp only [List.mem_cons, List.not_mem_nil, or_false] at hp ⊢
    rcases hp with rfl | rfl | rfl <;> simp
  · intro p hp
    simp only [List.mem_cons, List.not_mem_nil, or_false] at hp ⊢
    rcases hp with rfl
    simp
  · refine ⟨[Value.ref A1], 0, [], 0, [], rfl, rfl, .nil, ⟨fun _ h => (nomatch h), by decide⟩, ?_, Nat.le_refl _, (by (try dsimp only) <;> omega), (by (try dsimp only) <;> omega), ?_⟩
    · intro v hv
      rw [List.mem_singleton.mp hv]
      exact ⟨A1, _, 0, [Str.ofString "7"], rfl, List.Mem.head _, .cons _ _ .nil, by decide, by decide⟩
    · intro p hp b hb
      simp only [List.mem_cons, List.not_mem_nil, or_false] at hp hb
      rcases hp with rfl
      rcases hb with rfl | rfl | rfl <;> k_ne
  · rintro i v ⟨o, la, lo, rows⟩ u h tk own hi hv hP hoff hown F' N'
    unfold Mine.TextsInv at hP
    dsimp only at hP
    obtain ⟨refs, nr, lvs, nl, lss, rfl, rfl, hlvs, hgood, hrefs, hrl, n1, n2, hoffr⟩ := hP
    have hI := id (by assumption : IntsAre _ (List.take 4300 _))
    have hq0 : ∃ n t, v = Value.int n t := by
      obtain ⟨n, t, e, _⟩ := IntsAre.at hI i v hv
      exact ⟨n, t, e⟩
    obtain ⟨z, tz, hvz⟩ := hq0
    subst hvz
    have hwl := IntsAre.length hI
    have hll := Mine.strsAre_length hlvs
    have hgl := hgood.2
    have hi63 : i ≤ 63 := by omega
    have N2 := Mine.dropN (news := (TX, _) :: (la, _) :: (D', _) :: (rows ++ own)) N' (fun p hp => Mine.memC hp)
    dsimp only at *
    clear lF lN N'
    k_steps
    · (rename Fr _ _ _ _ => lF; rename News _ _ _ _ => lN)
      refine Mine.fkEnd lF lN (_, _, _, rows) (by exact fun p hp => Mine.memA hp) (by intro p hp; rw [List.mem_singleton.mp hp]; exact .tail _ (.tail _ (.head _))) (by exact fun p hp => .tail _ (.tail _ (.tail _ (List.mem_append_right _ hp)))) (by exact hoff) (by kst_all) ?_
      exact .add hlvs hgood hrefs hrl n1 n2 hoffr (by assumption)
    · (rename Fr _ _ _ _ => lF; rename News _ _ _ _ => lN)
      rename _ ∧ _ ∧ _ ∧ AllLt _ (rows ++ own) => hq
      obtain ⟨q1, q2, q3, q4⟩ := hq
      refine Mine.fkEnd lF lN (_, _, W.listOf #[] 0, (la, W.listOf lvs.toArray nl) :: rows) ?_ ?_ ?_ ?_ (by kst_all) (Mine.TextsInv.new (nr' := nr + 1) hlvs hgood hrefs hrl n1 n2 hoffr hi63 q1 q3 q2 q4)
      · exact fun p hp => Mine.memD hp
      · intro p hp; rw [List.mem_singleton.mp hp]; exact .tail _ (.tail _ (.tail _ (.head _)))
      · exact fun p hp => .tail _ (.tail _ (.tail _ (.tail _ (List.mem_append_right _ hp))))
      · exact Mine.own_new hoff q4
  · rintro ⟨o, la, lo, rows⟩ u h tk hP F' N'
    have hwl := IntsAre.length (by assumption : IntsAre _ (List.take 4300 _))
    unfold Mine.TextsInv at hP
    dsimp only at hP
    obtain ⟨refs, nr, lvs, nl, lss, rfl, rfl, hlvs, hgood, hrefs, hrl, n1, n2, hoffr⟩ := hP
    dsimp only at *
    clear lF lN
    have hall : ∀ v ∈ refs ++ [Value.ref la], Mine.InRow ((la, W.listOf lvs.toArray nl) :: rows) v := by
      intro v hv
      rcases List.mem_append.mp hv with hv | hv
      · exact (hrefs v hv).mono fun p hp => .tail _ hp
      · rw [List.mem_singleton.mp hv]
        exact ⟨la, lvs, nl, lss, rfl, .head _, hlvs, hgood.le (by omega)⟩
    have N2 := Mine.dropN (news := (TX, _) :: ((la, _) :: rows)) N' (fun p hp => List.mem_append_left _ hp)
    generalize hRW : (la, W.listOf lvs.toArray nl) :: rows = RW at N2 hall
    generalize hRF : refs ++ [Value.ref la] = RF at N2 hall
    have hRFl : RF.length ≤ 66 := by rw [← hRF, List.length_append]; simp; omega
    have hoffR : OwnOff RW [TX] := by
      rw [← hRW]
      intro p hp b hb
      rw [List.mem_singleton.mp hb]
      rcases List.mem_cons.mp hp with rfl | hp
      · exact n1
      · exact hoffr p hp _ (by simp)
    clear N' hoffr hrefs hlvs hgood hrl n1 n2 hRW hRF
    k_steps
    unfold Mine.Halt
    (rename Fr _ _ _ _ => lF; rename News _ _ _ _ => lN)
    clear hoffR
    have hMk9 : KstMark := kstMark
    refine Mine.rowC (Mine.forCF lF rfl rfl ?_)
    k_with "pyIter ref" => (refine Mine.halt ?_)
    k_steps
    k_with_none
    unfold Mine.Halt
    refine Mine.loop08c (mk := fun a => dictOf [_, _, _, _, _, { hash := _, key := _, val := Value.ref a }] 6) rfl lF (by kst_all) lN (by omega) (by omega) (by omega) (by omega) (by omega) (by omega) (by k_all) (by k_all) (by k_all) (by k_all) (by rename _ < _ ∧ AllLt _ RW => hq9; exact hq9.2) hall hRFl ?_ ?_
    · intro i a vs n ss DA rv rn dv dn zs own u h tk hi hRFl hm hss hg hr hd hz n1 n2 n3 n4 n5 lo1 lo2 lo3 lo4 hoff F' N'
      clear lF lN
      rename_i xm1 xm2 xm3 xm4 xm5 xm6 xm7 xm8 xm9 xm10 xm11 xm12 xm13 xm14 xm15 xm16 xm17 xm18 xm19 xm20 xm21 xm22 xm23 xm24 xm25 xm26 xm27 xm28 xm29 xm30 xm31 xm32 xm33 xm34 xm35 xm36 xm37 xm38 xm39 xm40 xm41 xm42 xm43 xm44 xm45 xm46 xm47 xm48 xm49 xm50 xm51 xm52 xm53 xm54 xm55 xm56 xm57 xm58 xm59 xm60 xm61 xm62 xm63 xm64 xm65 xm66 xm67 xm68 xm69 xm70 xm71 xm72 xm73 xm74 xm75 xm76 xm77 xm78 xm79 xm80 xm81 xm82 xm83 xm84 xm85 xm86 xm87 xm88 xm89 xm90 xm91 xm92 xm93 xm94 xm95 xm96 xm97 xm98 xm99 xm100 xm101 xm102 xm103 xm104 xm105 xm106 xm107 xm108 xm109 xm110 xm111 xm112 xm113 xm114 xm115 xm116 xm117 xm118 xm119 xm120 xm121 xm122 xm123 xm124 xm125 xm126 xm127 xm128 xm129 xm130 xm131 xm132 xm133 xm134 xm135 xm136 xm137 xm138 xm139 xm140 xm141 xm142 xm143 xm144 xm145 xm146 xm147 xm148 xm149 xm150 xm151 xm152 xm153 xm154 xm155 xm156 xm157 xm158 xm159 xm160 xm161 xm162 xm163
      revert w s₀ s₁ mg mb G Y fa o pm cd doc kV ho hcd xm1 KX X V GL T B TE TW xm2 xm3 M xm4 xm5 xm6 xm7 xm8 xm9 xm10 xm11 xm12 xm13 xm14 xm15 xm16 xm17 xm18 xm19 xm20 xm21 xm22 K0 h₁ xm23 xm24 xm25 xm26 xm27 xm28 xm29 xm30 xm31 xm32 xm33 xm34 xm35 xm36 xm37 xm38 xm39 xm40 xm41 xm42 xm43 xm44 xm45 xm46 xm47 xm48 xm49 xm50 xm51 D' xm52 l1 xm53 xm54 xm55 xm56 xm57 h' ps kps hps hpl xm58 t7 A1 xm59 l1a A2 xm60 l1b TX xm61 l1c xm62 xm63 hTX1 la rows xm64 xm65 xm66 hwl refs nr lvs nl lss RW RF hall xm67 xm68 xm69 xm70 xm71 xm72 xm73 xm74 xm75 xm76 xm77 xm78 xm79 xm80 xm81 xm82 xm83 xm84 xm85 xm86 xm87 xm88 xm89 xm90 xm91 xm92 xm93 xm94 xm95 xm96 xm97 xm98 xm99 xm100 xm101 xm102 xm103 xm104 xm105 xm106 xm107 xm108 xm109 xm110 xm111 xm112 xm113 xm114 xm115 xm116 xm117 xm118 xm119 xm120 xm121 xm122 xm123 xm124 xm125 xm126 xm127 xm128 xm129 xm130 xm131 xm132 xm133 xm134 xm135 xm136 xm137 xm138 xm139 lifted qk ek xm140 xm141 xm142 xm143 xm144 xm145 xm146 xm147 xm148 xm149 xm150 xm151 xm152 xm153 xm154 xm155 xm156 xm157 xm158 xm159 xm160 xm161 xm162 xm163 hMk9 i a vs n ss DA rv rn dv dn zs own u h tk hi hRFl hm hss hg hr hd hz n1 n2 n3 n4 n5 lo1 lo2 lo3 lo4 hoff F' N'
      exact hP1 .k
    · intro DA rv rn zs u h tk hr hz n1 n2 n3 n4 n5 lo1 lo2 lo3 lo4 F' N'
      clear lF lN
      rename_i xn1 xn2 xn3 xn4 xn5 xn6 xn7 xn8 xn9 xn10 xn11 xn12 xn13 xn14 xn15 xn16 xn17 xn18 xn19 xn20 xn21 xn22 xn23 xn24 xn25 xn26 xn27 xn28 xn29 xn30 xn31 xn32 xn33 xn34 xn35 xn36 xn37 xn38 xn39 xn40 xn41 xn42 xn43 xn44 xn45 xn46 xn47 xn48 xn49 xn50 xn51 xn52 xn53 xn54 xn55 xn56 xn57 xn58 xn59 xn60 xn61 xn62 xn63 xn64 xn65 xn66 xn67 xn68 xn69 xn70 xn71 xn72 xn73 xn74 xn75 xn76 xn77 xn78 xn79 xn80 xn81 xn82 xn83 xn84 xn85 xn86 xn87 xn88 xn89 xn90 xn91 xn92 xn93 xn94 xn95 xn96 xn97 xn98 xn99 xn100 xn101 xn102 xn103 xn104 xn105 xn106 xn107 xn108 xn109 xn110 xn111 xn112 xn113 xn114 xn115 xn116 xn117 xn118 xn119 xn120 xn121 xn122 xn123 xn124 xn125 xn126 xn127 xn128 xn129 xn130 xn131 xn132 xn133 xn134 xn135 xn136 xn137 xn138 xn139 xn140 xn141 xn142 xn143 xn144 xn145 xn146 xn147 xn148 xn149 xn150 xn151 xn152 xn153 xn154 xn155 xn156 xn157 xn158 xn159 xn160 xn161
      revert w s₀ s₁ mg mb G Y fa o pm cd doc kV ho hcd hg KX X V GL T B TE TW xn1 xn2 M xn3 xn4 xn5 xn6 xn7 xn8 xn9 xn10 xn11 xn12 xn13 xn14 xn15 xn16 xn17 xn18 xn19 xn20 xn21 K0 h₁ xn22 xn23 xn24 xn25 xn26 xn27 xn28 xn29 xn30 xn31 xn32 xn33 xn34 xn35 xn36 xn37 xn38 xn39 xn40 xn41 xn42 xn43 xn44 xn45 xn46 xn47 xn48 xn49 xn50 D' xn51 l1 xn52 xn53 xn54 xn55 xn56 h' ps kps hps hpl xn57 t7 A1 xn58 l1a A2 xn59 l1b TX xn60 l1c xn61 xn62 hTX1 la rows xn63 xn64 xn65 hwl refs nr lvs nl lss RW RF hall hRFl xn66 xn67 xn68 xn69 xn70 xn71 xn72 xn73 xn74 xn75 xn76 xn77 xn78 xn79 xn80 xn81 xn82 xn83 xn84 xn85 xn86 xn87 xn88 xn89 xn90 xn91 xn92 xn93 xn94 xn95 xn96 xn97 xn98 xn99 xn100 xn101 xn102 xn103 xn104 xn105 xn106 xn107 xn108 xn109 xn110 xn111 xn112 xn113 xn114 xn115 xn116 xn117 xn118 xn119 xn120 xn121 xn122 xn123 xn124 xn125 xn126 xn127 xn128 xn129 xn130 xn131 xn132 xn133 xn134 xn135 xn136 xn137 lifted qk ek xn138 xn139 xn140 xn141 xn142 xn143 xn144 xn145 xn146 xn147 xn148 xn149 xn150 xn151 xn152 xn153 xn154 xn155 xn156 xn157 xn158 xn159 xn160 xn161 hMk9 DA rv rn zs u h tk hr hz n1 n2 n3 n4 n5 lo1 lo2 lo3 lo4 F' N'
      exact hP2 .k⟩

open PySem PySem.W PySem.Spec PySem.Calls PyProof.Rows
local macro_rules | `(tactic| walk_at "call type:list") => `(tactic| (k_here; (with_reducible show wpAny _ _ (call _ [Value.str _ _]) _ _ _); k_dflt (refine' Mine.listStr_Z ?h ?F ?N ?z ?_; (case h => exact rfl); (case F => k_asm); (case N => k_asm); (case z => decide); k_whole); intro D' h' tk' ys' n' F' N' l1 hst; (try k_lt l1); (try k_sweep)))
local macro_rules | `(tactic| walk_at "binaryOp Mult ref int") => `(tactic| (k_here; (with_reducible show wpAny _ _ (binaryOp _ (Value.ref _) (Value.int _ _)) _ _ _); k_dflt (refine' Mine.mulL_Z ?F ?N ?l ?x ?z ?_; (case F => k_asm); (case N => k_asm); (case l => k_memK); (case x => omega); (case z => (rw [Mine.strsAre_length (by with_reducible assumption)]; decide)); k_whole); intro D' h' F' N' l1; (try k_lt l1); (try k_sweep)))
local macro_rules | `(tactic| walk_at "binaryOp Add ref ref") => `(tactic| (k_here; (with_reducible show wpAny _ _ (binaryOp _ (Value.ref _) (Value.ref _)) _ _ _); refine Mine.halt ?_))
local macro_rules | `(tactic| walk_at "inplaceOp Add ref") => `(tactic| (k_here; (with_reducible show wpAny _ _ (inplaceOp _ (Value.ref _) (Value.ref _)) _ _ _); refine Mine.halt ?_))
local macro_rules | `(tactic| walk_at "subscriptTail") => `(tactic| (k_here; (try dsimp only); (with_reducible show wpAny _ _ (subscriptTail _ _ (Value.ref _) (Value.int _ _)) _ _ _); (with_unfolding_all refine' Mine.itemStr_Z ?N ?l ?v ?h0 ?_); (case N => k_asm); (case l => k_memK); (case v => with_reducible assumption); (case h0 => (rw [Mine.pieceL_len]; omega)); intro y9 t9 hy9))
local macro_rules | `(tactic| walk_at "subscriptTail") => `(tactic| (k_here; (try dsimp only); (with_reducible show wpAny _ _ (subscriptTail _ _ (Value.ref _) (Value.int (-1) _)) _ _ _); (with_unfolding_all refine' Mine.itemLast_Z ?N ?l ?z ?_); (case N => k_asm); (case l => k_memK); (case z => omega)))
local macro_rules | `(tactic| walk_at "c181") => `(tactic| (k_here; (with_reducible show wpAny _ _ (call (Value.ref 181) [Value.str _ _] _) _ _ _); k_dflt (refine' Mine.Spec3.use (Mine.num_spec _ _ _ _ _ _ _ ?sz ?ok) ?B ?F ?X ?N ?T ?hk ?hd ?hu ?hp ?ret ?bad; (case sz => with_reducible assumption); (case ok => with_reducible assumption); (case B => k_asm); (case F => k_asm); (case X => k_asm); (case N => k_asm); (case T => k_asm); (case hk => exact rfl); (case hd => ktr_room); (case hu => ktr_units); (case hp => trivial); k_whole); (case bad => (intro _ _ _ _ hb; exact hb.elim)); intro r9 tl h' tk' F' N' hab hr9; replace N' := Mine.dropN N' (fun p hp => List.mem_append.mpr (.inr hp))))
local macro_rules | `(tactic| walk_at "Hid8") => `(tactic| ((with_reducible show Mine.Hid8 (Mine.wpC _ _ (execs [] _) _ _ _)); refine Mine.row0 ?_))
local macro_rules | `(tactic| walk_at "Hid8") => `(tactic| ((with_reducible show Mine.Hid8 (Mine.wpC _ _ (execs (_ :: _) _) _ _ _)); refine Mine.rowT (fun tk => ?_)))
local macro_rules | `(tactic| walk_at "Hid8") => `(tactic| ((first | (with_reducible show Mine.Hid8 (Mine.wpC _ _ (execs (Stmt.For (Expr.Name (Str.ofString "text") _) _ _ _ _ :: _) _) _ _ _)) | (with_reducible show Mine.Hid8 (Mine.wpC _ _ (execs (Stmt.Try _ _ _ _ _ :: _) _) _ _ _)) | (with_reducible show Mine.Hid8 (Mine.wpC _ _ (execs (Stmt.If (Expr.BoolOp _ (Expr.Call _ _ _ _ :: _) _) _ _ _ :: _) _) _ _ _)) | (with_reducible show Mine.Hid8 (Mine.wpC _ _ (execs (Stmt.Expr (Expr.Call (Expr.Attribute _ (Str.ofString "add_object") _) _ _ _) _ :: _) _) _ _ _)) | (with_reducible show Mine.Hid8 (Mine.wpC _ _ (callWith _ _ _ _ _) _ _ _)) | (with_reducible show Mine.Hid8 (Mine.wpC _ _ (call _ _ _) _ _ _))); refine Mine.halt ?_))
set_option maxHeartbeats 16000000 in
noncomputable def Mine.partT8 : (P1 : Prop) ×' ((Mine.Key8 → P1) → Mine.part8.1) := by
  refine' ⟨_, fun hP1 => _⟩
  rotate_left 1
  have kq : (PySem.Challenge.rw_ko0121_08.foot = PySem.Challenge.rw_ko0121_08.foot ∧ hd.heap_39 = hd.heap_39) := by (k_fill; exact ⟨rfl, rfl⟩)
  clear kq
  intro w s₀ s₁ mg mb G Y fa o pm cd doc kV ho hcd xm1 KX X V GL T B TE TW xm2 xm3 M xm4 xm5 xm6 xm7 xm8 xm9 xm10 xm11 xm12 xm13 xm14 xm15 xm16 xm17 xm18 xm19 xm20 xm21 xm22 K0 h₁ xm23 xm24 xm25 xm26 xm27 xm28 xm29 xm30 xm31 xm32 xm33 xm34 xm35 xm36 xm37 xm38 xm39 xm40 xm41 xm42 xm43 xm44 xm45 xm46 xm47 xm48 xm49 xm50 xm51 D' xm52 l1 xm53 xm54 xm55 xm56 xm57 h' ps kps hps hpl xm58 t7 A1 xm59 l1a A2 xm60 l1b TX xm61 l1c xm62 xm63 hTX1 la rows xm64 xm65 xm66 hwl refs nr lvs nl lss RW RF hall xm67 xm68 xm69 xm70 xm71 xm72 xm73 xm74 xm75 xm76 xm77 xm78 xm79 xm80 xm81 xm82 xm83 xm84 xm85 xm86 xm87 xm88 xm89 xm90 xm91 xm92 xm93 xm94 xm95 xm96 xm97 xm98 xm99 xm100 xm101 xm102 xm103 xm104 xm105 xm106 xm107 xm108 xm109 xm110 xm111 xm112 xm113 xm114 xm115 xm116 xm117 xm118 xm119 xm120 xm121 xm122 xm123 xm124 xm125 xm126 xm127 xm128 xm129 xm130 xm131 xm132 xm133 xm134 xm135 xm136 xm137 xm138 xm139 lifted qk ek xm140 xm141 xm142 xm143 xm144 xm145 xm146 xm147 xm148 xm149 xm150 xm151 xm152 xm153 xm154 xm155 xm156 xm157 xm158 xm159 xm160 xm161 xm162 xm163 hMk9 i a vs n ss DA rv rn dv dn zs own u h tk hi hRFl hm hss hg hr hd hz n1 n2 n3 n4 n5 lo1 lo2 lo3 lo4 hoff F' N'
  w_on
  have hrvl := IntsAre.length hr
  have hdvl := IntsAre.length hd
  have hKd9 := Mine.kd0 F'
  refine Mine.Hid8.out (p := _) ?_
  (try dsimp only at N')
  k_with "pyIter ref" => (refine Mine.halt ?_)
  k_steps
  k_with_none
  unfold Mine.Halt
  (rename Fr _ _ _ _ => lF; rename News _ _ _ _ => lN)
  have hvl := Mine.strsAre_length hss
  have hsl := hg.2
  refine Mine.for_listK (σ := Obj) _ (fun c => [(DA, c)]) (fun c => [("text", .ref a), ("due", .ref _), ("parser", .ref _)]) (fun j c => ∃ ds dn, c = W.listOf ds.toArray dn ∧ StrsAre ds (ss.take j)) (W.listOf #[] 0) rfl (.tail _ (.tail _ (.tail _ (.tail _ (.tail _ (.tail _ hm)))))) ?_ lF lN (by intro p hp; rw [List.mem_singleton.mp hp]; exact .tail _ (.head _)) (fun p hp => Mine.memDA hp) (by kst_all) ⟨[], 0, rfl, .nil⟩ ?_ ?_
  · intro p hp
    rw [List.mem_singleton.mp hp]
    exact Ne.symm (hoff _ hm DA (by simp))
  · rintro j v c u h tk own2 hj hv ⟨ds, dn2, rfl, hds⟩ hoff2 hown2 F' N'
    obtain ⟨y, ty, rfl, hy⟩ := Mine.strsAre_at hss j v hv
    have hdl := Mine.strsAre_length hds
    rw [List.length_take] at hdl
    dsimp only at *
    dsimp only [List.nil_append, List.cons_append] at N'
    clear lF lN
    k_steps
    (rename Fr _ _ _ _ => lF; rename News _ _ _ _ => lN)
    refine Mine.fkEnd lF lN _ (by intro p hp; rw [List.mem_singleton.mp hp]; exact .head _) (by exact fun p hp => .tail _ (Mine.memK5 hp)) (by exact fun p hp => .tail _ (Mine.memK5' hp)) (by exact hoff2) (by kst_all) (by exact ⟨_, _, rfl, by rw [List.take_add_one, hy]; exact Mine.strs_snoc hds⟩)
  · rintro c u h tk ⟨ds, dn2, rfl, hds⟩ F' N'
    rw [hvl, List.take_length] at hds
    dsimp only at *
    dsimp only [List.nil_append, List.cons_append] at N'
    clear lF lN
    have hdl := Mine.strsAre_length hds
    have hjs := hg.jsum
    have hx1 := hg.len
    have hx2 := Mine.split_ok (x := Txt.join (Str.ofString "") ss) (fun c hc => (hg.okC c hc).1)
    have hx3 := hg.okC
    k_with "call builtin:str.join" => (refine Mine.halt ?_)
    k_steps
    k_with_none
    unfold Mine.Halt
    (rename Fr _ _ _ _ => lF; rename News _ _ _ _ => lN)
    (try dsimp only [List.cons_append, List.nil_append])
    refine Mine.join_S lN (.tail _ (.tail _ (.tail _ (.tail _ (.tail _ (.tail _ hm)))))) hss (by decide) hjs ?_
    intro t7 k7
    k_with "call ref" => (walk_at "c181")
    k_steps
    unfold Mine.Halt
    (rename Fr _ _ _ _ => lF; rename News _ _ _ _ => lN; rename Mine.NumOut _ _ => hNO)
    refine Mine.rowC (Mine.tryC (Mine.Hid8.out (p := _) (Mine.rowC (Mine.exprC (Mine.methodH ?_)))))
    k_steps
    unfold Mine.Halt
    (try dsimp only)
    refine' ⟨Mine.callWithC0 (K := _root_.hd.heap_39 _) ?X ?hk (Mine.wpC_call ?_)⟩
    case X => k_in
    case hk => k_is
    (try dsimp only [List.cons_append, List.nil_append])
    k_dflt (refine' Mine.codeC_def ?B ?F ?X ?N ?T ?hA ?hf ?hke ?ho ?hcd ?hroom ?hbind ?hloc ?_ ?hco ?hgen ?hk ?hcell; (case hA => exact rfl); (case hf => exact rfl); (case hke => exact rfl); (case B => k_asm); (case F => k_asm); (case X => k_asm); (case N => k_asm); (case T => k_asm); (case ho => k_is); (case hcd => k_is); (case hroom => ktr_room); (case hbind => exact BindsTo.of_eq rfl); (case hloc => exact locs rfl); (case hco => exact rfl); (case hgen => exact rfl); (case hk => exact rfl); (case hcell => decide); k_whole)
    intro g' L' h₁ FG' F' N' B' X' T'
    refine Mine.Hid8.out (p := _) ?_
    k_steps
    (rename Fr _ _ _ _ => lF; rename News _ _ _ _ => lN)
    (try dsimp only [List.cons_append, List.nil_append])
    refine Mine.join_S lN (by k_memK) hds (by decide) hjs ?_
    intro t8 k8
    k_steps
    unfold Mine.Halt
    (rename Fr _ _ _ _ => lF; rename News _ _ _ _ => lN; rename Mine.NumOut _ _ => hNO)
    rename_i xt1 xt2 xt3 xt4 xt5 xt6 xt7 xt8 xt9 xt10 xt11 xt12 xt13 xt14 xt15 xt16 xt17 xt18 xt19 xt20 xt21 xt22 xt23 xt24 xt25 xt26 xt27 xt28 xt29 xt30 xt31 xt32 xt33 xt34 xt35 xt36 xt37 xt38 xt39 xt40 xt41 xt42 xt43 xt44
    revert w s₀ s₁ mg mb G Y fa o pm cd doc kV ho hcd xm1 KX X V GL T B TE TW xm2 xm3 M xm4 xm5 xm6 xm7 xm8 xm9 xm10 xm11 xm12 xm13 xm14 xm15 xm16 xm17 xm18 xm19 xm20 xm21 xm22 K0 xt1 xm23 xm24 xm25 xm26 xm27 xm28 xm29 xm30 xm31 xm32 xm33 xm34 xm35 xm36 xm37 xm38 xm39 xm40 xm41 xm42 xm43 xm44 xm45 xm46 xm47 xm48 xm49 xm50 xm51 D' xm52 l1 xm53 xm54 xm55 xm56 xm57 h' ps kps hps hpl xm58 xt2 A1 xm59 l1a A2 xm60 l1b TX xm61 l1c xm62 xm63 hTX1 la rows xm64 xm65 xm66 hwl refs nr lvs nl lss RW RF hall xm67 xm68 xm69 xm70 xm71 xm72 xm73 xm74 xm75 xm76 xm77 xm78 xm79 xm80 xm81 xm82 xm83 xm84 xm85 xm86 xm87 xm88 xm89 xm90 xm91 xm92 xm93 xm94 xm95 xm96 xm97 xm98 xm99 xm100 xm101 xm102 xm103 xm104 xm105 xm106 xm107 xm108 xm109 xm110 xm111 xm112 xm113 xm114 xm115 xm116 xm117 xm118 xm119 xm120 xm121 xm122 xm123 xm124 xm125 xm126 xm127 xm128 xm129 xm130 xm131 xm132 xm133 xm134 xm135 xm136 xm137 xm138 xm139 xt3 xt4 xt5 xm140 xm141 xm142 xm143 xm144 xm145 xm146 xm147 xm148 xm149 xm150 xm151 xm152 xm153 xm154 xm155 xm156 xm157 xm158 xm159 xm160 xm161 xm162 xm163 hMk9 i a vs n ss DA rv rn dv dn zs own xt6 xt7 xt8 hi hRFl hm hss hg hr hd hz n1 n2 n3 n4 n5 lo1 lo2 lo3 lo4 hoff hrvl hdvl hKd9 xt9 hvl hsl u h xt10 ds dn2 hds xt11 xt12 hdl hjs hx1 hx2 hx3 xt13 t7 k7 xt14 xt15 xt16 xt17 xt18 hNO xt19 xt20 xt21 g' L' h₁ FG' B' X' T' xt22 xt23 xt24 xt25 xt26 xt27 xt28 xt29 xt30 xt31 xt32 xt33 lifted qk ek xt34 t8 k8 xt35 tk xt36 xt37 xt38 xt39 xt40 xt41 xt42 xt43 xt44 lF lN
    exact hP1 .k

open PySem PySem.W PySem.Spec PySem.Calls PyProof.Rows
local macro_rules | `(tactic| walk_at "call type:list") => `(tactic| (k_here; (with_reducible show wpAny _ _ (call _ [Value.str _ _]) _ _ _); k_dflt (refine' Mine.listStr_Z ?h ?F ?N ?z ?_; (case h => exact rfl); (case F => k_asm); (case N => k_asm); (case z => decide); k_whole); intro D' h' tk' ys' n' F' N' l1 hst; (try k_lt l1); (try k_sweep)))
local macro_rules | `(tactic| walk_at "binaryOp Mult ref int") => `(tactic| (k_here; (with_reducible show wpAny _ _ (binaryOp _ (Value.ref _) (Value.int _ _)) _ _ _); k_dflt (refine' Mine.mulL_Z ?F ?N ?l ?x ?z ?_; (case F => k_asm); (case N => k_asm); (case l => k_memK); (case x => omega); (case z => (rw [Mine.strsAre_length (by with_reducible assumption)]; decide)); k_whole); intro D' h' F' N' l1; (try k_lt l1); (try k_sweep)))
local macro_rules | `(tactic| walk_at "binaryOp Add ref ref") => `(tactic| (k_here; (with_reducible show wpAny _ _ (binaryOp _ (Value.ref _) (Value.ref _)) _ _ _); refine Mine.halt ?_))
local macro_rules | `(tactic| walk_at "inplaceOp Add ref") => `(tactic| (k_here; (with_reducible show wpAny _ _ (inplaceOp _ (Value.ref _) (Value.ref _)) _ _ _); refine Mine.halt ?_))
local macro_rules | `(tactic| walk_at "subscriptTail") => `(tactic| (k_here; (try dsimp only); (with_reducible show wpAny _ _ (subscriptTail _ _ (Value.ref _) (Value.int _ _)) _ _ _); (with_unfolding_all refine' Mine.itemStr_Z ?N ?l ?v ?h0 ?_); (case N => k_asm); (case l => k_memK); (case v => with_reducible assumption); (case h0 => (rw [Mine.pieceL_len]; omega)); intro y9 t9 hy9))
local macro_rules | `(tactic| walk_at "subscriptTail") => `(tactic| (k_here; (try dsimp only); (with_reducible show wpAny _ _ (subscriptTail _ _ (Value.ref _) (Value.int (-1) _)) _ _ _); (with_unfolding_all refine' Mine.itemLast_Z ?N ?l ?z ?_); (case N => k_asm); (case l => k_memK); (case z => omega)))
local macro_rules | `(tactic| walk_at "c181") => `(tactic| (k_here; (with_reducible show wpAny _ _ (call (Value.ref 181) [Value.str _ _] _) _ _ _); k_dflt (refine' Mine.Spec3.use (Mine.num_spec _ _ _ _ _ _ _ ?sz ?ok) ?B ?F ?X ?N ?T ?hk ?hd ?hu ?hp ?ret ?bad; (case sz => with_reducible assumption); (case ok => with_reducible assumption); (case B => k_asm); (case F => k_asm); (case X => k_asm); (case N => k_asm); (case T => k_asm); (case hk => exact rfl); (case hd => ktr_room); (case hu => ktr_units); (case hp => trivial); k_whole); (case bad => (intro _ _ _ _ hb; exact hb.elim)); intro r9 tl h' tk' F' N' hab hr9; replace N' := Mine.dropN N' (fun p hp => List.mem_append.mpr (.inr hp))))
local macro_rules | `(tactic| walk_at "Hid8") => `(tactic| ((with_reducible show Mine.Hid8 (Mine.wpC _ _ (execs [] _) _ _ _)); refine Mine.row0 ?_))
local macro_rules | `(tactic| walk_at "Hid8") => `(tactic| ((with_reducible show Mine.Hid8 (Mine.wpC _ _ (execs (_ :: _) _) _ _ _)); refine Mine.rowT (fun tk => ?_)))
local macro_rules | `(tactic| walk_at "Hid8") => `(tactic| ((first | (with_reducible show Mine.Hid8 (Mine.wpC _ _ (execs (Stmt.For (Expr.Name (Str.ofString "text") _) _ _ _ _ :: _) _) _ _ _)) | (with_reducible show Mine.Hid8 (Mine.wpC _ _ (execs (Stmt.Try _ _ _ _ _ :: _) _) _ _ _)) | (with_reducible show Mine.Hid8 (Mine.wpC _ _ (execs (Stmt.If (Expr.BoolOp _ (Expr.Call _ _ _ _ :: _) _) _ _ _ :: _) _) _ _ _)) | (with_reducible show Mine.Hid8 (Mine.wpC _ _ (execs (Stmt.Expr (Expr.Call (Expr.Attribute _ (Str.ofString "add_object") _) _ _ _) _ :: _) _) _ _ _)) | (with_reducible show Mine.Hid8 (Mine.wpC _ _ (callWith _ _ _ _ _) _ _ _)) | (with_reducible show Mine.Hid8 (Mine.wpC _ _ (call _ _ _) _ _ _))); refine Mine.halt ?_))
set_option maxHeartbeats 16000000 in
noncomputable def Mine.partE8 : (P1 : Prop) ×' (P2 : Prop) ×' ((Mine.Key8 → P1) → (Mine.Key8 → P2) → Mine.partT8.1) := by
  refine' ⟨_, _, fun hP1 hP2 => _⟩
  rotate_left 2
  have kq : (PySem.Challenge.rw_ko0121_08.foot = PySem.Challenge.rw_ko0121_08.foot ∧ hd.heap_39 = hd.heap_39) := by (k_fill; exact ⟨rfl, rfl⟩)
  clear kq
  intro w s₀ s₁ mg mb G Y fa o pm cd doc kV ho hcd xm1 KX X V GL T B TE TW xm2 xm3 M xm4 xm5 xm6 xm7 xm8 xm9 xm10 xm11 xm12 xm13 xm14 xm15 xm16 xm17 xm18 xm19 xm20 xm21 xm22 K0 xt1 xm23 xm24 xm25 xm26 xm27 xm28 xm29 xm30 xm31 xm32 xm33 xm34 xm35 xm36 xm37 xm38 xm39 xm40 xm41 xm42 xm43 xm44 xm45 xm46 xm47 xm48 xm49 xm50 xm51 D' xm52 l1 xm53 xm54 xm55 xm56 xm57 h' ps kps hps hpl xm58 xt2 A1 xm59 l1a A2 xm60 l1b TX xm61 l1c xm62 xm63 hTX1 la rows xm64 xm65 xm66 hwl refs nr lvs nl lss RW RF hall xm67 xm68 xm69 xm70 xm71 xm72 xm73 xm74 xm75 xm76 xm77 xm78 xm79 xm80 xm81 xm82 xm83 xm84 xm85 xm86 xm87 xm88 xm89 xm90 xm91 xm92 xm93 xm94 xm95 xm96 xm97 xm98 xm99 xm100 xm101 xm102 xm103 xm104 xm105 xm106 xm107 xm108 xm109 xm110 xm111 xm112 xm113 xm114 xm115 xm116 xm117 xm118 xm119 xm120 xm121 xm122 xm123 xm124 xm125 xm126 xm127 xm128 xm129 xm130 xm131 xm132 xm133 xm134 xm135 xm136 xm137 xm138 xm139 xt3 xt4 xt5 xm140 xm141 xm142 xm143 xm144 xm145 xm146 xm147 xm148 xm149 xm150 xm151 xm152 xm153 xm154 xm155 xm156 xm157 xm158 xm159 xm160 xm161 xm162 xm163 hMk9 i a vs n ss DA rv rn dv dn zs own xt6 xt7 xt8 hi hRFl hm hss hg hr hd hz n1 n2 n3 n4 n5 lo1 lo2 lo3 lo4 hoff hrvl hdvl hKd9 xt9 hvl hsl u h xt10 ds dn2 hds xt11 xt12 hdl hjs hx1 hx2 hx3 xt13 t7 k7 xt14 xt15 xt16 xt17 xt18 hNO xt19 xt20 xt21 g' L' h₁ FG' B' X' T' xt22 xt23 xt24 xt25 xt26 xt27 xt28 xt29 xt30 xt31 xt32 xt33 lifted qk ek xt34 t8 k8 xt35 tk xt36 xt37 xt38 xt39 xt40 xt41 xt42 xt43 xt44 lF lN
  w_on
  refine Mine.rowC ?_
  refine Mine.join_if (zs := zs) hNO lN ?_ ?_ ?_
  rotate_left 1
  · skip
    revert w s₀ s₁ mg mb G Y fa o pm cd doc kV ho hcd xm1 KX X V GL T B TE TW xm2 xm3 M xm4 xm5 xm6 xm7 xm8 xm9 xm10 xm11 xm12 xm13 xm14 xm15 xm16 xm17 xm18 xm19 xm20 xm21 xm22 K0 xt1 xm23 xm24 xm25 xm26 xm27 xm28 xm29 xm30 xm31 xm32 xm33 xm34 xm35 xm36 xm37 xm38 xm39 xm40 xm41 xm42 xm43 xm44 xm45 xm46 xm47 xm48 xm49 xm50 xm51 D' xm52 l1 xm53 xm54 xm55 xm56 xm57 h' ps kps hps hpl xm58 xt2 A1 xm59 l1a A2 xm60 l1b TX xm61 l1c xm62 xm63 hTX1 la rows xm64 xm65 xm66 hwl refs nr lvs nl lss RW RF hall xm67 xm68 xm69 xm70 xm71 xm72 xm73 xm74 xm75 xm76 xm77 xm78 xm79 xm80 xm81 xm82 xm83 xm84 xm85 xm86 xm87 xm88 xm89 xm90 xm91 xm92 xm93 xm94 xm95 xm96 xm97 xm98 xm99 xm100 xm101 xm102 xm103 xm104 xm105 xm106 xm107 xm108 xm109 xm110 xm111 xm112 xm113 xm114 xm115 xm116 xm117 xm118 xm119 xm120 xm121 xm122 xm123 xm124 xm125 xm126 xm127 xm128 xm129 xm130 xm131 xm132 xm133 xm134 xm135 xm136 xm137 xm138 xm139 xt3 xt4 xt5 xm140 xm141 xm142 xm143 xm144 xm145 xm146 xm147 xm148 xm149 xm150 xm151 xm152 xm153 xm154 xm155 xm156 xm157 xm158 xm159 xm160 xm161 xm162 xm163 hMk9 i a vs n ss DA rv rn dv dn zs own xt6 xt7 xt8 hi hRFl hm hss hg hr hd hz n1 n2 n3 n4 n5 lo1 lo2 lo3 lo4 hoff hrvl hdvl hKd9 xt9 hvl hsl u h xt10 ds dn2 hds xt11 xt12 hdl hjs hx1 hx2 hx3 xt13 t7 k7 xt14 xt15 xt16 xt17 xt18 hNO xt19 xt20 xt21 g' L' h₁ FG' B' X' T' xt22 xt23 xt24 xt25 xt26 xt27 xt28 xt29 xt30 xt31 xt32 xt33 lifted qk ek xt34 t8 k8 xt35 tk xt36 xt37 xt38 xt39 xt40 xt41 xt42 xt43 xt44 lF lN
    exact hP1 .k
  · skip
    revert w s₀ s₁ mg mb G Y fa o pm cd doc kV ho hcd xm1 KX X V GL T B TE TW xm2 xm3 M xm4 xm5 xm6 xm7 xm8 xm9 xm10 xm11 xm12 xm13 xm14 xm15 xm16 xm17 xm18 xm19 xm20 xm21 xm22 K0 xt1 xm23 xm24 xm25 xm26 xm27 xm28 xm29 xm30 xm31 xm32 xm33 xm34 xm35 xm36 xm37 xm38 xm39 xm40 xm41 xm42 xm43 xm44 xm45 xm46 xm47 xm48 xm49 xm50 xm51 D' xm52 l1 xm53 xm54 xm55 xm56 xm57 h' ps kps hps hpl xm58 xt2 A1 xm59 l1a A2 xm60 l1b TX xm61 l1c xm62 xm63 hTX1 la rows xm64 xm65 xm66 hwl refs nr lvs nl lss RW RF hall xm67 xm68 xm69 xm70 xm71 xm72 xm73 xm74 xm75 xm76 xm77 xm78 xm79 xm80 xm81 xm82 xm83 xm84 xm85 xm86 xm87 xm88 xm89 xm90 xm91 xm92 xm93 xm94 xm95 xm96 xm97 xm98 xm99 xm100 xm101 xm102 xm103 xm104 xm105 xm106 xm107 xm108 xm109 xm110 xm111 xm112 xm113 xm114 xm115 xm116 xm117 xm118 xm119 xm120 xm121 xm122 xm123 xm124 xm125 xm126 xm127 xm128 xm129 xm130 xm131 xm132 xm133 xm134 xm135 xm136 xm137 xm138 xm139 xt3 xt4 xt5 xm140 xm141 xm142 xm143 xm144 xm145 xm146 xm147 xm148 xm149 xm150 xm151 xm152 xm153 xm154 xm155 xm156 xm157 xm158 xm159 xm160 xm161 xm162 xm163 hMk9 i a vs n ss DA rv rn dv dn zs own xt6 xt7 xt8 hi hRFl hm hss hg hr hd hz n1 n2 n3 n4 n5 lo1 lo2 lo3 lo4 hoff hrvl hdvl hKd9 xt9 hvl hsl u h xt10 ds dn2 hds xt11 xt12 hdl hjs hx1 hx2 hx3 xt13 t7 k7 xt14 xt15 xt16 xt17 xt18 hNO xt19 xt20 xt21 g' L' h₁ FG' B' X' T' xt22 xt23 xt24 xt25 xt26 xt27 xt28 xt29 xt30 xt31 xt32 xt33 lifted qk ek xt34 t8 k8 xt35 tk xt36 xt37 xt38 xt39 xt40 xt41 xt42 xt43 xt44 lF lN
    exact hP2 .k
  refine Mine.ifH ?_
  k_steps
  all_goals unfold Mine.Halt
  all_goals (refine Mine.rowC (Mine.exprC (Mine.methodH ?_)))
  all_goals k_steps
  all_goals unfold Mine.Halt
  all_goals (try dsimp only)
  all_goals (refine' ⟨Mine.callWithC1 (K := _root_.hd.heap_39 w.params) ?hk (Mine.callNameH ?_)⟩; (case hk => k_is))
  all_goals k_steps
  all_goals unfold Mine.Halt
  all_goals (refine Mine.callWithTH ?_)
  all_goals k_steps
  all_goals unfold Mine.Halt
  · refine' ⟨Mine.intC_16 ?hA ?hl ?hok ?hx ?h ?_ ?bad⟩
    case hA => exact rfl
    case hl => exact hx1
    case hok => exact hx3
    case hx => exact .inl (by with_reducible assumption)
    case h => exact hNO
    case bad => exact fun hr => Mine.joinE rfl hr
    intro n9 t9 hr9
    k_steps
    (rename Fr _ _ _ _ => lF1; rename News _ _ _ _ => lN1)
    rw [hr9]
    exact Mine.joinI lF1 hr lN1
  · refine' ⟨Mine.intC_16 ?hA ?hl ?hok ?hx ?h ?_ ?bad⟩
    case hA => exact rfl
    case hl => exact hx1
    case hok => exact hx3
    case hx => exact .inr (by with_reducible assumption)
    case h => exact hNO
    case bad => exact fun hr => Mine.joinE rfl hr
    intro n9 t9 hr9
    k_steps
    (rename Fr _ _ _ _ => lF1; rename News _ _ _ _ => lN1)
    rw [hr9]
    exact Mine.joinI lF1 hr lN1
  · refine' ⟨Mine.intC_10 ?hA ?hl ?hok ?h1 ?h2 ?h ?_ ?bad⟩
    case hA => exact rfl
    case hl => exact hx1
    case hok => exact hx3
    case h1 => with_reducible assumption
    case h2 => with_reducible assumption
    case h => exact hNO
    case bad => exact fun hr => Mine.joinE rfl hr
    intro n9 t9 hr9
    k_steps
    (rename Fr _ _ _ _ => lF1; rename News _ _ _ _ => lN1)
    rw [hr9]
    exact Mine.joinI lF1 hr lN1

open PySem PySem.W PySem.Spec PySem.Calls PyProof.Rows
local macro_rules | `(tactic| walk_at "call type:list") => `(tactic| (k_here; (with_reducible show wpAny _ _ (call _ [Value.str _ _]) _ _ _); k_dflt (refine' Mine.listStr_Z ?h ?F ?N ?z ?_; (case h => exact rfl); (case F => k_asm); (case N => k_asm); (case z => decide); k_whole); intro D' h' tk' ys' n' F' N' l1 hst; (try k_lt l1); (try k_sweep)))
local macro_rules | `(tactic| walk_at "binaryOp Mult ref int") => `(tactic| (k_here; (with_reducible show wpAny _ _ (binaryOp _ (Value.ref _) (Value.int _ _)) _ _ _); k_dflt (refine' Mine.mulL_Z ?F ?N ?l ?x ?z ?_; (case F => k_asm); (case N => k_asm); (case l => k_memK); (case x => omega); (case z => (rw [Mine.strsAre_length (by with_reducible assumption)]; decide)); k_whole); intro D' h' F' N' l1; (try k_lt l1); (try k_sweep)))
local macro_rules | `(tactic| walk_at "binaryOp Add ref ref") => `(tactic| (k_here; (with_reducible show wpAny _ _ (binaryOp _ (Value.ref _) (Value.ref _)) _ _ _); refine Mine.halt ?_))
local macro_rules | `(tactic| walk_at "inplaceOp Add ref") => `(tactic| (k_here; (with_reducible show wpAny _ _ (inplaceOp _ (Value.ref _) (Value.ref _)) _ _ _); refine Mine.halt ?_))
local macro_rules | `(tactic| walk_at "subscriptTail") => `(tactic| (k_here; (try dsimp only); (with_reducible show wpAny _ _ (subscriptTail _ _ (Value.ref _) (Value.int _ _)) _ _ _); (with_unfolding_all refine' Mine.itemStr_Z ?N ?l ?v ?h0 ?_); (case N => k_asm); (case l => k_memK); (case v => with_reducible assumption); (case h0 => (rw [Mine.pieceL_len]; omega)); intro y9 t9 hy9))
local macro_rules | `(tactic| walk_at "subscriptTail") => `(tactic| (k_here; (try dsimp only); (with_reducible show wpAny _ _ (subscriptTail _ _ (Value.ref _) (Value.int (-1) _)) _ _ _); (with_unfolding_all refine' Mine.itemLast_Z ?N ?l ?z ?_); (case N => k_asm); (case l => k_memK); (case z => omega)))
local macro_rules | `(tactic| walk_at "c181") => `(tactic| (k_here; (with_reducible show wpAny _ _ (call (Value.ref 181) [Value.str _ _] _) _ _ _); k_dflt (refine' Mine.Spec3.use (Mine.num_spec _ _ _ _ _ _ _ ?sz ?ok) ?B ?F ?X ?N ?T ?hk ?hd ?hu ?hp ?ret ?bad; (case sz => with_reducible assumption); (case ok => with_reducible assumption); (case B => k_asm); (case F => k_asm); (case X => k_asm); (case N => k_asm); (case T => k_asm); (case hk => exact rfl); (case hd => ktr_room); (case hu => ktr_units); (case hp => trivial); k_whole); (case bad => (intro _ _ _ _ hb; exact hb.elim)); intro r9 tl h' tk' F' N' hab hr9; replace N' := Mine.dropN N' (fun p hp => List.mem_append.mpr (.inr hp))))
local macro_rules | `(tactic| walk_at "Hid8") => `(tactic| ((with_reducible show Mine.Hid8 (Mine.wpC _ _ (execs [] _) _ _ _)); refine Mine.row0 ?_))
local macro_rules | `(tactic| walk_at "Hid8") => `(tactic| ((with_reducible show Mine.Hid8 (Mine.wpC _ _ (execs (_ :: _) _) _ _ _)); refine Mine.rowT (fun tk => ?_)))
local macro_rules | `(tactic| walk_at "Hid8") => `(tactic| ((first | (with_reducible show Mine.Hid8 (Mine.wpC _ _ (execs (Stmt.For (Expr.Name (Str.ofString "text") _) _ _ _ _ :: _) _) _ _ _)) | (with_reducible show Mine.Hid8 (Mine.wpC _ _ (execs (Stmt.Try _ _ _ _ _ :: _) _) _ _ _)) | (with_reducible show Mine.Hid8 (Mine.wpC _ _ (execs (Stmt.If (Expr.BoolOp _ (Expr.Call _ _ _ _ :: _) _) _ _ _ :: _) _) _ _ _)) | (with_reducible show Mine.Hid8 (Mine.wpC _ _ (execs (Stmt.Expr (Expr.Call (Expr.Attribute _ (Str.ofString "add_object") _) _ _ _) _ :: _) _) _ _ _)) | (with_reducible show Mine.Hid8 (Mine.wpC _ _ (callWith _ _ _ _ _) _ _ _)) | (with_reducible show Mine.Hid8 (Mine.wpC _ _ (call _ _ _) _ _ _))); refine Mine.halt ?_))
set_option maxHeartbeats 16000000 in
theorem Mine.good8 : Mine.partE8.1 := by
  have kq : (PySem.Challenge.rw_ko0121_08.foot = PySem.Challenge.rw_ko0121_08.foot ∧ hd.heap_39 = hd.heap_39) := by (k_fill; exact ⟨rfl, rfl⟩)
  clear kq
  intro w s₀ s₁ mg mb G Y fa o pm cd doc kV ho hcd xm1 KX X V GL T B TE TW xm2 xm3 M xm4 xm5 xm6 xm7 xm8 xm9 xm10 xm11 xm12 xm13 xm14 xm15 xm16 xm17 xm18 xm19 xm20 xm21 xm22 K0 xt1 xm23 xm24 xm25 xm26 xm27 xm28 xm29 xm30 xm31 xm32 xm33 xm34 xm35 xm36 xm37 xm38 xm39 xm40 xm41 xm42 xm43 xm44 xm45 xm46 xm47 xm48 xm49 xm50 xm51 D' xm52 l1 xm53 xm54 xm55 xm56 xm57 h' ps kps hps hpl xm58 xt2 A1 xm59 l1a A2 xm60 l1b TX xm61 l1c xm62 xm63 hTX1 la rows xm64 xm65 xm66 hwl refs nr lvs nl lss RW RF hall xm67 xm68 xm69 xm70 xm71 xm72 xm73 xm74 xm75 xm76 xm77 xm78 xm79 xm80 xm81 xm82 xm83 xm84 xm85 xm86 xm87 xm88 xm89 xm90 xm91 xm92 xm93 xm94 xm95 xm96 xm97 xm98 xm99 xm100 xm101 xm102 xm103 xm104 xm105 xm106 xm107 xm108 xm109 xm110 xm111 xm112 xm113 xm114 xm115 xm116 xm117 xm118 xm119 xm120 xm121 xm122 xm123 xm124 xm125 xm126 xm127 xm128 xm129 xm130 xm131 xm132 xm133 xm134 xm135 xm136 xm137 xm138 xm139 xt3 xt4 xt5 xm140 xm141 xm142 xm143 xm144 xm145 xm146 xm147 xm148 xm149 xm150 xm151 xm152 xm153 xm154 xm155 xm156 xm157 xm158 xm159 xm160 xm161 xm162 xm163 hMk9 i a vs n ss DA rv rn dv dn zs own xt6 xt7 xt8 hi hRFl hm hss hg hr hd hz n1 n2 n3 n4 n5 lo1 lo2 lo3 lo4 hoff hrvl hdvl hKd9 xt9 hvl hsl u h xt10 ds dn2 hds xt11 xt12 hdl hjs hx1 hx2 hx3 xt13 t7 k7 xt14 xt15 xt16 xt17 xt18 hNO xt19 xt20 xt21 g' L' h₁ FG' B' X' T' xt22 xt23 xt24 xt25 xt26 xt27 xt28 xt29 xt30 xt31 xt32 xt33 lifted qk ek xt34 t8 k8 xt35 tk xt36 xt37 xt38 xt39 xt40 xt41 xt42 xt43 xt44 lF lN
  w_on
  intro n9 t9 h9 tk9 m9 rv9 rn9 hr9 F9 I9 N9
  subst hr9
  clear lF lN
  k_steps
  rename Fr _ _ _ _ => lF
  rename News _ _ _ _ => lN
  rename _ ∧ _ ∧ _ ∧ _ ∧ _ ∧ _ ∧ AllLt _ own => hlt
  obtain ⟨_, b1, b2, b3, b4, b5, b6⟩ := hlt
  exact Mine.end8c rfl lF lN (fun q hq => Mine.mem8 hq) I9 (intsAre_append hd (.cons _ _ .nil)) (by rw [List.length_append, List.length_singleton]; omega) b1 b2 b3 b4 b5 b6 (by kst_all)
set_option maxHeartbeats 16000000 in
theorem Mine.bad8 : Mine.partE8.2.1 := by
  have kq : (PySem.Challenge.rw_ko0121_08.foot = PySem.Challenge.rw_ko0121_08.foot ∧ hd.heap_39 = hd.heap_39) := by (k_fill; exact ⟨rfl, rfl⟩)
  clear kq
  intro w s₀ s₁ mg mb G Y fa o pm cd doc kV ho hcd xm1 KX X V GL T B TE TW xm2 xm3 M xm4 xm5 xm6 xm7 xm8 xm9 xm10 xm11 xm12 xm13 xm14 xm15 xm16 xm17 xm18 xm19 xm20 xm21 xm22 K0 xt1 xm23 xm24 xm25 xm26 xm27 xm28 xm29 xm30 xm31 xm32 xm33 xm34 xm35 xm36 xm37 xm38 xm39 xm40 xm41 xm42 xm43 xm44 xm45 xm46 xm47 xm48 xm49 xm50 xm51 D' xm52 l1 xm53 xm54 xm55 xm56 xm57 h' ps kps hps hpl xm58 xt2 A1 xm59 l1a A2 xm60 l1b TX xm61 l1c xm62 xm63 hTX1 la rows xm64 xm65 xm66 hwl refs nr lvs nl lss RW RF hall xm67 xm68 xm69 xm70 xm71 xm72 xm73 xm74 xm75 xm76 xm77 xm78 xm79 xm80 xm81 xm82 xm83 xm84 xm85 xm86 xm87 xm88 xm89 xm90 xm91 xm92 xm93 xm94 xm95 xm96 xm97 xm98 xm99 xm100 xm101 xm102 xm103 xm104 xm105 xm106 xm107 xm108 xm109 xm110 xm111 xm112 xm113 xm114 xm115 xm116 xm117 xm118 xm119 xm120 xm121 xm122 xm123 xm124 xm125 xm126 xm127 xm128 xm129 xm130 xm131 xm132 xm133 xm134 xm135 xm136 xm137 xm138 xm139 xt3 xt4 xt5 xm140 xm141 xm142 xm143 xm144 xm145 xm146 xm147 xm148 xm149 xm150 xm151 xm152 xm153 xm154 xm155 xm156 xm157 xm158 xm159 xm160 xm161 xm162 xm163 hMk9 i a vs n ss DA rv rn dv dn zs own xt6 xt7 xt8 hi hRFl hm hss hg hr hd hz n1 n2 n3 n4 n5 lo1 lo2 lo3 lo4 hoff hrvl hdvl hKd9 xt9 hvl hsl u h xt10 ds dn2 hds xt11 xt12 hdl hjs hx1 hx2 hx3 xt13 t7 k7 xt14 xt15 xt16 xt17 xt18 hNO xt19 xt20 xt21 g' L' h₁ FG' B' X' T' xt22 xt23 xt24 xt25 xt26 xt27 xt28 xt29 xt30 xt31 xt32 xt33 lifted qk ek xt34 t8 k8 xt35 tk xt36 xt37 xt38 xt39 xt40 xt41 xt42 xt43 xt44 lF lN
  w_on
  intro h9 tk9 a9 hr9 hX9
  subst hr9
  (try dsimp only at hX9)
  k_steps
  rename KtsTurn [] _ _ => hTT
  rename Fr _ _ _ _ => lF
  rename News _ _ _ _ => lN
  replace lF := Mine.fr_turn hTT lF
  replace lN := Mine.news_turn hTT lN
  rename _ ∧ _ ∧ _ ∧ _ ∧ _ ∧ _ ∧ AllLt _ own => hlt
  obtain ⟨_, c1, c2, c3, c4, c5, c6⟩ := hlt
  exact Mine.end8c rfl lF lN (fun q hq => Mine.mem8 hq) hr hd (by omega) c1 c2 c3 c4 c5 c6 (by kst_all)
set_option maxHeartbeats 16000000 in
theorem Mine.done8 : Mine.part8.2.1 := by
  have kq : (PySem.Challenge.rw_ko0121_08.foot = PySem.Challenge.rw_ko0121_08.foot ∧ hd.heap_39 = hd.heap_39) := by (k_fill; exact ⟨rfl, rfl⟩)
  clear kq
  intro w s₀ s₁ mg mb G Y fa o pm cd doc kV ho hcd hg KX X V GL T B TE TW xn1 xn2 M xn3 xn4 xn5 xn6 xn7 xn8 xn9 xn10 xn11 xn12 xn13 xn14 xn15 xn16 xn17 xn18 xn19 xn20 xn21 K0 h₁ xn22 xn23 xn24 xn25 xn26 xn27 xn28 xn29 xn30 xn31 xn32 xn33 xn34 xn35 xn36 xn37 xn38 xn39 xn40 xn41 xn42 xn43 xn44 xn45 xn46 xn47 xn48 xn49 xn50 D' xn51 l1 xn52 xn53 xn54 xn55 xn56 h' ps kps hps hpl xn57 t7 A1 xn58 l1a A2 xn59 l1b TX xn60 l1c xn61 xn62 hTX1 la rows xn63 xn64 xn65 hwl refs nr lvs nl lss RW RF hall hRFl xn66 xn67 xn68 xn69 xn70 xn71 xn72 xn73 xn74 xn75 xn76 xn77 xn78 xn79 xn80 xn81 xn82 xn83 xn84 xn85 xn86 xn87 xn88 xn89 xn90 xn91 xn92 xn93 xn94 xn95 xn96 xn97 xn98 xn99 xn100 xn101 xn102 xn103 xn104 xn105 xn106 xn107 xn108 xn109 xn110 xn111 xn112 xn113 xn114 xn115 xn116 xn117 xn118 xn119 xn120 xn121 xn122 xn123 xn124 xn125 xn126 xn127 xn128 xn129 xn130 xn131 xn132 xn133 xn134 xn135 xn136 xn137 lifted qk ek xn138 xn139 xn140 xn141 xn142 xn143 xn144 xn145 xn146 xn147 xn148 xn149 xn150 xn151 xn152 xn153 xn154 xn155 xn156 xn157 xn158 xn159 xn160 xn161 hMk9 DA rv rn zs u h tk hr hz n1 n2 n3 n4 n5 lo1 lo2 lo3 lo4 F' N'
  w_on
  have hrvl := IntsAre.length hr
  (try dsimp only at N')
  k_with "eval ListComp" => (refine Mine.halt ?_)
  k_steps
  k_with_none
  unfold Mine.Halt
  (rename Fr _ _ _ _ => lF; rename News _ _ _ _ => lN)
  refine Mine.comp_none (vs := rv) lF (by with_unfolding_all rfl) (by decide) (by rfl) (by decide) (by rfl) (fun _ => rfl) (fun _ => rfl) (by decide) rfl lN (by k_memK) ?hsz ?hit ?turn ?fin
  case hsz => rw [sizeLine_eq]; omega
  case hit =>
    intro Q' hq
    k_steps
    exact hq _ _ (by k_asm) (by k_asm)
  case turn =>
    intro k v I oI C oC D ys m₂ h9 tk9 E' hk hC hm F' N' off hne
    obtain ⟨bb, tt, rfl, _⟩ := hr.at k v hk
    k_steps
    exact Mine.tested (by k_asm) (by k_asm) rfl
  case fin =>
    intro D h9 tk9 F' N' hD
    clear lF lN
    k_steps
theorem PySem.Challenge.cw_ko0121_08_holds : PySem.Challenge.rw_ko0121_08.Holds := by
  exact Mine.part8.2.2 (fun _ => Mine.partT8.2 (fun _ => Mine.partE8.2.2 (fun _ => Mine.good8) (fun _ => Mine.bad8))) (fun _ => Mine.done8)

