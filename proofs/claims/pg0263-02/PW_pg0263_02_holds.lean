import PyProof.Rows.All
import Wide.All
import OpenK.AllK
import Wide.FinOn
import PySem.Challenge.RW_pg0263_02
open PySem PySem.W PyProof.Rows
set_option Elab.async false
set_option maxRecDepth 100000
set_option maxHeartbeats 8000000
set_option linter.all false
namespace Mine
open_top hd for PySem.Challenge.rw_pg0263_02
-- Cp1

/-- how many first signs are the same -/
noncomputable def cpl : List Nat → List Nat → Nat
  | x :: xs, y :: ys => if x = y then cpl xs ys + 1 else 0
  | _, _ => 0
theorem cpl_lt : ∀ (xs ys : List Nat) (n : Nat), n ≤ cpl xs ys → (n < cpl xs ys ↔ n < xs.length ∧ n < ys.length ∧ xs.getD n 0 = ys.getD n 0)
  | [], ys, n, h => by simp [cpl] at h ⊢
  | x :: xs, [], n, h => by simp [cpl] at h ⊢
  | x :: xs, y :: ys, n, h => by
    unfold cpl at h ⊢
    by_cases e : x = y
    · rw [if_pos e] at h ⊢
      cases n with
      | zero => simp [e]
      | succ n =>
        have := cpl_lt xs ys n (by omega)
        simp only [List.length_cons, List.getD_cons_succ]
        omega
    · rw [if_neg e] at h ⊢
      have : n = 0 := by omega
      subst this
      simp [e]
/-- the common start, the common end of two texts -/
noncomputable def cplS (a b : PySem.Str) : Nat := cpl a.cps.toList b.cps.toList
noncomputable def cslS (a b : PySem.Str) : Nat := cpl a.cps.toList.reverse b.cps.toList.reverse
theorem getD_toList (x : PySem.Str) (n : Nat) : x.cps.toList.getD n 0 = x.cps.getD n 0 := by
  obtain ⟨⟨l⟩⟩ := x
  simp [Array.getD, List.getD]
  split
  · rename_i h; rw [List.getElem?_eq_getElem h]; rfl
  · rename_i h; rw [List.getElem?_eq_none (by omega)]; rfl
theorem item_nat {x : PySem.Str} {n : Nat} (h : n < x.length) : Txt.item x (n : Int) = ⟨#[x.cps.toList.getD n 0]⟩ := by
  rw [item_meets ⟨by omega, by omega⟩, getD_toList]
  rfl
theorem item_back {x : PySem.Str} {n : Nat} (h : n < x.length) : Txt.item x (-(n : Int) - 1) = ⟨#[x.cps.toList.reverse.getD n 0]⟩ := by
  have hl : x.cps.toList.length = x.length := rfl
  have e1 : (-(n : Int) - 1 + (x.length : Int)).toNat = x.length - 1 - n := by omega
  have e2 : x.cps.toList.reverse[n]? = x.cps.toList[x.length - 1 - n]? := by rw [List.getElem?_reverse (by omega)]; rfl
  have hlt : x.length - 1 - n < x.cps.toList.length := by omega
  have hn : x.cps[(-(n : Int) - 1 + (x.length : Int)).toNat]? = some x.cps.toList[x.length - 1 - n] := by
    rw [e1, ← Array.getElem?_toList, List.getElem?_eq_getElem hlt]
  unfold Txt.item Txt.charAt
  rw [StrLaws.at_neg (by omega) (by omega) hn]
  simp only [List.getD, e2, List.getElem?_eq_getElem hlt, Option.getD_some]
/-- what a test of the two loops says -/
theorem cplS_lt {a b : PySem.Str} {n : Nat} (h : n ≤ cplS a b) : n < cplS a b ↔ n < a.length ∧ n < b.length ∧ Txt.item a (n : Int) = Txt.item b (n : Int) := by
  unfold cplS at h ⊢
  rw [cpl_lt _ _ _ h]
  have e1 : a.cps.toList.length = a.length := rfl
  have e2 : b.cps.toList.length = b.length := rfl
  rw [e1, e2]
  constructor
  · rintro ⟨p, q, r⟩; exact ⟨p, q, by rw [item_nat p, item_nat q, r]⟩
  · rintro ⟨p, q, r⟩
    rw [item_nat p, item_nat q] at r
    injection r with r
    exact ⟨p, q, by simpa using r⟩
theorem cslS_lt {a b : PySem.Str} {n : Nat} (h : n ≤ cslS a b) : n < cslS a b ↔ n < a.length ∧ n < b.length ∧ Txt.item a (-(n : Int) - 1) = Txt.item b (-(n : Int) - 1) := by
  unfold cslS at h ⊢
  rw [cpl_lt _ _ _ h]
  have e1 : a.cps.toList.reverse.length = a.length := by simp [PySem.Str.length]
  have e2 : b.cps.toList.reverse.length = b.length := by simp [PySem.Str.length]
  rw [e1, e2]
  constructor
  · rintro ⟨p, q, r⟩; exact ⟨p, q, by rw [item_back p, item_back q, r]⟩
  · rintro ⟨p, q, r⟩
    rw [item_back p, item_back q] at r
    injection r with r
    exact ⟨p, q, by simpa using r⟩
theorem cpl_le : ∀ (xs ys : List Nat), cpl xs ys ≤ xs.length ∧ cpl xs ys ≤ ys.length
  | [], _ => by simp [cpl]
  | _ :: _, [] => by simp [cpl]
  | x :: xs, y :: ys => by
    unfold cpl
    have := cpl_le xs ys
    split <;> simp <;> omega
theorem cplS_le (a b : PySem.Str) : cplS a b ≤ a.length ∧ cplS a b ≤ b.length := cpl_le _ _
theorem cslS_le (a b : PySem.Str) : cslS a b ≤ a.length ∧ cslS a b ≤ b.length := by
  have := cpl_le a.cps.toList.reverse b.cps.toList.reverse
  unfold cslS
  simpa [PySem.Str.length] using this
section
variable {a b : PySem.Str} {n : Nat}
theorem cpl_tt (h : n ≤ cplS a b) (ha : n < a.length) (hb : n < b.length) (e : (Txt.item a (n : Int) == Txt.item b (n : Int)) = true) : true = decide (n < cplS a b) :=
  (decide_eq_true ((cplS_lt h).mpr ⟨ha, hb, beq_iff_eq.mp e⟩)).symm
theorem cpl_fa (h : n ≤ cplS a b) (ha : ¬ n < a.length) : false = decide (n < cplS a b) := (decide_eq_false fun q => ha ((cplS_lt h).mp q).1).symm
theorem cpl_fb (h : n ≤ cplS a b) (hb : ¬ n < b.length) : false = decide (n < cplS a b) := (decide_eq_false fun q => hb ((cplS_lt h).mp q).2.1).symm
theorem cpl_fe (h : n ≤ cplS a b) (e : (Txt.item a (n : Int) == Txt.item b (n : Int)) = false) : false = decide (n < cplS a b) := (decide_eq_false fun q => beq_eq_false_iff_ne.mp e ((cplS_lt h).mp q).2.2).symm
theorem csl_tt (h : n ≤ cslS a b) (ha : n < a.length) (hb : n < b.length) (e : (Txt.item a (-(n : Int) - 1) == Txt.item b (-(n : Int) - 1)) = true) : true = decide (n < cslS a b) :=
  (decide_eq_true ((cslS_lt h).mpr ⟨ha, hb, beq_iff_eq.mp e⟩)).symm
theorem csl_fa (h : n ≤ cslS a b) (ha : ¬ n < a.length) : false = decide (n < cslS a b) := (decide_eq_false fun q => ha ((cslS_lt h).mp q).1).symm
theorem csl_fb (h : n ≤ cslS a b) (hb : ¬ n < b.length) : false = decide (n < cslS a b) := (decide_eq_false fun q => hb ((cslS_lt h).mp q).2.1).symm
theorem csl_fe (h : n ≤ cslS a b) (e : (Txt.item a (-(n : Int) - 1) == Txt.item b (-(n : Int) - 1)) = false) : false = decide (n < cslS a b) := (decide_eq_false fun q => beq_eq_false_iff_ne.mp e ((cslS_lt h).mp q).2.2).symm
end
theorem slice_all (x : PySem.Str) : Txt.slice x none none = x := by
  have e : Txt.slice x none none = StrLaws.sliceText x (some ((0 : Nat) : Int)) (some ((x.length : Nat) : Int)) := by
    show StrLaws.sliceText x none none = _
    unfold StrLaws.sliceText
    rw [StrLaws.sliceIdx_none_hi, StrLaws.sliceIdx_none_lo]
    rfl
  rw [e, StrLaws.sliceText_nat x (Nat.zero_le _) (Nat.le_refl _)]
  apply PySem.Str.ext'
  show ((x.cps.toList.drop 0).take (x.length - 0)).toArray = x.cps
  have hl : x.length = x.cps.toList.length := rfl
  rw [List.drop_zero, Nat.sub_zero, hl, List.take_length, Array.toArray_toList]
theorem slice_back {x : PySem.Str} {n : Nat} (h0 : 0 < n) (h : n ≤ x.length) : (Txt.slice x none (some (-(n : Int)))).cps.toList = x.cps.toList.take (x.length - n) := by
  have e : Txt.slice x none (some (-(n : Int))) = StrLaws.sliceText x none (some (-(n : Int))) := rfl
  rw [e, StrLaws.sliceText_to_neg (by omega) (by omega), List.drop_zero, show (-(n : Int) + (x.length : Int) - 0).toNat = x.length - n by omega]
theorem slice_back_len {x : PySem.Str} {n : Nat} (h0 : 0 < n) (h : n ≤ x.length) : (Txt.slice x none (some (-(n : Int)))).length = x.length - n := by
  have := congrArg List.length (slice_back h0 h)
  rw [List.length_take] at this
  have hl : x.length = x.cps.toList.length := rfl
  show (Txt.slice x none (some (-(n : Int)))).cps.toList.length = _
  omega
theorem slice_from {x : PySem.Str} {n : Nat} (h : n ≤ x.length) : (Txt.slice x (some (n : Int)) none).cps.toList = x.cps.toList.drop n := by
  have e : Txt.slice x (some (n : Int)) none = StrLaws.sliceText x (some (n : Int)) none := rfl
  have hl : x.length = x.cps.toList.length := rfl
  rw [e, StrLaws.sliceText_from ⟨by omega, by omega⟩]
  show ((x.cps.toList.drop (n : Int).toNat).take ((x.cps.toList.length : Int) - n).toNat) = _
  rw [Int.toNat_natCast, List.take_of_length_le (by rw [List.length_drop]; omega)]
theorem slice_from_len {x : PySem.Str} {n : Nat} (h : n ≤ x.length) : (Txt.slice x (some (n : Int)) none).length = x.length - n := by
  have := congrArg List.length (slice_from h)
  rw [List.length_drop] at this
  exact this
/-- a text without its last k signs, as the loop leaves it -/
noncomputable def cutBack (x : PySem.Str) (k : Nat) : PySem.Str := if k = 0 then x else Txt.slice x none (some (-(k : Int)))
theorem cutBack_len {x : PySem.Str} {k : Nat} (h : k ≤ x.length) : (cutBack x k).length = x.length - k := by
  unfold cutBack
  by_cases h0 : k = 0
  · rw [if_pos h0]; omega
  · rw [if_neg h0]; exact slice_back_len (by omega) h

-- Lp1

/-- the end of a loop's test: what it says, and nothing stored -/
noncomputable def MTest (h₀ : Heap) (L : Addr) (s : Shared) (m : PySem.Str → Option Value) (news : List (Addr × Obj)) (want : Bool) (b : Bool) (s₂ : Shared) : Prop :=
  b = want ∧ ∃ h' tk', s₂ = { s with heap := h', toks := tk' } ∧ Fr h₀ L h' m ∧ News h₀ L h' news
/-- the end of a turn that stores the one int y -/
noncomputable def MTurn (h₀ : Heap) (L : Addr) (s : Shared) (y : PySem.Str) (m₀ : PySem.Str → Option Value) (news : List (Addr × Obj)) (c : Int) (f : Flow) (s₂ : Shared) : Prop :=
  f = .next ∧ ∃ h' tk' t, s₂ = { s with heap := h', toks := tk' } ∧ Fr h₀ L h' (fun z => if z = y then some (.int c t) else m₀ z) ∧ News h₀ L h' news

theorem mtest_ {h₀ : Heap} {L : Addr} {s s₂ : Shared} {m : PySem.Str → Option Value} {news : List (Addr × Obj)} {want b : Bool} (e : s₂ = { s with heap := s₂.heap, toks := s₂.toks }) (F : Fr h₀ L s₂.heap m) (N : News h₀ L s₂.heap news) (hb : b = want) : MTest h₀ L s m news want b s₂ :=
  ⟨hb, _, _, e, F, N⟩
theorem mturn_ {h₀ : Heap} {L : Addr} {s s₂ : Shared} {y : PySem.Str} {m₀ m' : PySem.Str → Option Value} {news : List (Addr × Obj)} {c c' : Int} {t : Tok} (e : s₂ = { s with heap := s₂.heap, toks := s₂.toks }) (F : Fr h₀ L s₂.heap m') (N : News h₀ L s₂.heap news)
    (hy : m' y = some (.int c' t)) (hc : c' = c) (hm : ∀ z, z ≠ y → m' z = m₀ z) : MTurn h₀ L s y m₀ news c .next s₂ := by
  subst hc
  refine ⟨rfl, _, _, t, e, ?_, N⟩
  have em : (fun z => if z = y then some (Value.int c' t) else m₀ z) = m' := by
    funext z
    by_cases h : z = y
    · rw [if_pos h, h, hy]
    · rw [if_neg h, hm z h]
  rw [em]; exact F

theorem ite_b {b : Bool} {P Q : Prop} (h1 : b = true → P) (h2 : b = false → Q) : if b = true then P else Q := by
  cases b with
  | true => exact h1 rfl
  | false => exact h2 rfl
section
variable {prog : Program} {w : World} {A : Around} {E : Value → Shared → Prop} {Q : Flow → Shared → Prop} {s : Shared} {env : Env} {h₀ : Heap} {L : Addr}
/-- a while that counts: the test says whether n < N, a turn makes c n into c (n + 1) -/
theorem while_count {test : Expr} {body : List Stmt} {pos : Pos} {m₀ : PySem.Str → Option Value} {news : List (Addr × Obj)} {t₀ : Tok} {c₀ : Int} (y : PySem.Str) (c : Nat → Int) (N : Nat) (hc : c 0 = c₀)
    (F : Fr h₀ L s.heap m₀) (Nw : News h₀ L s.heap news) (hy : m₀ y = some (.int c₀ t₀))
    (htest : ∀ n t h tk, n ≤ N → Fr h₀ L h (fun z => if z = y then some (.int (c n) t) else m₀ z) → News h₀ L h news →
      wpAny (model prog w) A (isTrue test env (eval test env)) (MTest h₀ L { s with heap := h, toks := tk } (fun z => if z = y then some (.int (c n) t) else m₀ z) news (decide (n < N))) E { s with heap := h, toks := tk })
    (hbody : ∀ n t h tk, n < N → Fr h₀ L h (fun z => if z = y then some (.int (c n) t) else m₀ z) → News h₀ L h news →
      wpAny (model prog w) A (execs body env) (MTurn h₀ L { s with heap := h, toks := tk } y m₀ news (c (n + 1))) E { s with heap := h, toks := tk })
    (done : ∀ t h tk, Fr h₀ L h (fun z => if z = y then some (.int (c N) t) else m₀ z) → News h₀ L h news → Q .next { s with heap := h, toks := tk })
    (hE : PassesOwn (model prog w) A env E := by passes_own) :
    wpAny (model prog w) A (exec (.While test body [] pos) env) Q E s := by
  refine While_inv2 (fun k m nx => ∃ n t, k = N - n ∧ n ≤ N ∧ nx = news ∧ m = fun z => if z = y then some (.int (c n) t) else m₀ z) F Nw ⟨0, t₀, rfl, Nat.zero_le _, rfl, ?_⟩ ?_ hE
  · funext z
    by_cases h : z = y
    · rw [if_pos h, h, hy, hc]
    · rw [if_neg h]
  rintro k m₁ nx h tk F₁ N₁ ⟨n, t, rfl, hn, rfl, rfl⟩
  refine wpAny_mono (htest n t h tk hn F₁ N₁) (fun b s₂ p => ?_) fun _ _ x => x
  obtain ⟨rfl, h', tk', rfl, F', N'⟩ := p
  by_cases hlt : n < N
  · rw [if_pos (decide_eq_true hlt)]
    refine wpAny_mono (hbody n t h' tk' hlt F' N') (fun f s₃ q => ?_) fun _ _ x => x
    obtain ⟨rfl, h'', tk'', t', rfl, F'', N''⟩ := q
    exact ⟨h'', tk'', _, nx, N - (n + 1), rfl, F'', N'', by omega, n + 1, t', rfl, hlt, rfl, rfl⟩
  · rw [if_neg (by rw [decide_eq_true_eq]; exact hlt)]
    have : n = N := by omega
    subst this
    exact done t h' tk' F' N'
/-- a slice whose ends came out as None -/
theorem slice_none {x : PySem.Str} {t : Tok} {value slice : PySem.Expr} {m : PySem.Str → Option Value} {news : List (Addr × Obj)} {Q : Value → Shared → Prop} (hF : Fr h₀ L s.heap m) (hN : News h₀ L s.heap news)
    (h : ∀ h' t' k, Fr h₀ L h' m → News h₀ L h' news → Q (.str x t') { s with heap := h', toks := k })
    (hs : subscripted slice false (.str x t) (.ref s.heap.objs.size) = operate [.ref s.heap.objs.size, .str x t] (getItem (.str x t) (.ref s.heap.objs.size)) := by with_unfolding_all rfl)
    (ht : ∀ r, letTemporaryGo value (.str x t) r = pure () := by intro _; with_unfolding_all rfl) (hsz : x.length ≤ sizeLine) :
    wpAny (model prog w) A (subscriptTail value slice (.str x t) (.ref s.heap.objs.size)) Q E { s with heap := s.heap.push { cls := .type "slice", data := .fields #[.none, .none, .none] } } :=
  slice_strN_nn hF hN (fun h' t' k F N => by rw [slice_all]; exact h h' t' k F N) hs ht hsz
end
/-- the end of a statement that stores y (y₁, y₂) -/
noncomputable def MStore (h₀ : Heap) (L : Addr) (s : Shared) (y : PySem.Str) (m₀ : PySem.Str → Option Value) (news : List (Addr × Obj)) (V : Value → Prop) (f : Flow) (s₂ : Shared) : Prop :=
  f = .next ∧ ∃ h' tk' v, V v ∧ s₂ = { s with heap := h', toks := tk' } ∧ Fr h₀ L h' (fun z => if z = y then some v else m₀ z) ∧ News h₀ L h' news
noncomputable def MStore2 (h₀ : Heap) (L : Addr) (s : Shared) (y₁ y₂ : PySem.Str) (m₀ : PySem.Str → Option Value) (news : List (Addr × Obj)) (V : Value → Value → Prop) (f : Flow) (s₂ : Shared) : Prop :=
  f = .next ∧ ∃ h' tk' v₁ v₂, V v₁ v₂ ∧ s₂ = { s with heap := h', toks := tk' } ∧ Fr h₀ L h' (fun z => if z = y₁ then some v₁ else if z = y₂ then some v₂ else m₀ z) ∧ News h₀ L h' news
theorem mstore_ {h₀ : Heap} {L : Addr} {s s₂ : Shared} {y : PySem.Str} {m₀ m' : PySem.Str → Option Value} {news news' : List (Addr × Obj)} {V : Value → Prop} {v : Value} (e : s₂ = { s with heap := s₂.heap, toks := s₂.toks }) (F : Fr h₀ L s₂.heap m') (N : News h₀ L s₂.heap news') (hn : ∀ p ∈ news, p ∈ news')
    (hy : m' y = some v) (hm : ∀ z, z ≠ y → m' z = m₀ z) (hv : V v) : MStore h₀ L s y m₀ news V .next s₂ := by
  refine ⟨rfl, _, _, v, hv, e, ?_, fun p hp => N p (hn p hp)⟩
  have em : (fun z => if z = y then some v else m₀ z) = m' := by
    funext z
    by_cases h : z = y
    · rw [if_pos h, h, hy]
    · rw [if_neg h, hm z h]
  rw [em]; exact F
theorem mstore2_ {h₀ : Heap} {L : Addr} {s s₂ : Shared} {y₁ y₂ : PySem.Str} {m₀ m' : PySem.Str → Option Value} {news news' : List (Addr × Obj)} {V : Value → Value → Prop} {v₁ v₂ : Value} (e : s₂ = { s with heap := s₂.heap, toks := s₂.toks }) (F : Fr h₀ L s₂.heap m') (N : News h₀ L s₂.heap news') (hn : ∀ p ∈ news, p ∈ news')
    (hy₁ : m' y₁ = some v₁) (hy₂ : m' y₂ = some v₂) (hm : ∀ z, z ≠ y₁ → z ≠ y₂ → m' z = m₀ z) (hv : V v₁ v₂) : MStore2 h₀ L s y₁ y₂ m₀ news V .next s₂ := by
  refine ⟨rfl, _, _, v₁, v₂, hv, e, ?_, fun p hp => N p (hn p hp)⟩
  have em : (fun z => if z = y₁ then some v₁ else if z = y₂ then some v₂ else m₀ z) = m' := by
    funext z
    by_cases h : z = y₁
    · rw [if_pos h, h, hy₁]
    · rw [if_neg h]
      by_cases h' : z = y₂
      · rw [if_pos h', h', hy₂]
      · rw [if_neg h', hm z h h']
  rw [em]; exact F
section
variable {prog : Program} {w : World} {A : Around} {E : Value → Shared → Prop} {Q : Flow → Shared → Prop} {s : Shared} {env : Env} {h₀ : Heap} {L : Addr} {m₀ : PySem.Str → Option Value} {news : List (Addr × Obj)} {st : Stmt} {rest : List Stmt}
theorem execs_store (y : PySem.Str) (V : Value → Prop) (_ : Fr h₀ L s.heap m₀) (_ : News h₀ L s.heap news) (h1 : wpAny (model prog w) A (exec st env) (MStore h₀ L s y m₀ news V) E s)
    (h2 : ∀ v h tk, V v → Fr h₀ L h (fun z => if z = y then some v else m₀ z) → News h₀ L h news → wpAny (model prog w) A (execs rest env) Q E { s with heap := h, toks := tk }) : wpAny (model prog w) A (execs (st :: rest) env) Q E s := by
  refine wpAny_execs_cons (wpAny_mono h1 (fun f s₂ p => ?_) fun _ _ x => x)
  obtain ⟨rfl, h', tk', v, hv, rfl, F, N⟩ := p
  exact h2 v h' tk' hv F N
theorem execs_store2 (y₁ y₂ : PySem.Str) (V : Value → Value → Prop) (_ : Fr h₀ L s.heap m₀) (_ : News h₀ L s.heap news) (h1 : wpAny (model prog w) A (exec st env) (MStore2 h₀ L s y₁ y₂ m₀ news V) E s)
    (h2 : ∀ v₁ v₂ h tk, V v₁ v₂ → Fr h₀ L h (fun z => if z = y₁ then some v₁ else if z = y₂ then some v₂ else m₀ z) → News h₀ L h news → wpAny (model prog w) A (execs rest env) Q E { s with heap := h, toks := tk }) : wpAny (model prog w) A (execs (st :: rest) env) Q E s := by
  refine wpAny_execs_cons (wpAny_mono h1 (fun f s₂ p => ?_) fun _ _ x => x)
  obtain ⟨rfl, h', tk', v₁, v₂, hv, rfl, F, N⟩ := p
  exact h2 v₁ v₂ h' tk' hv F N
end
/-- the end of an if that goes on with nothing stored, or leaves -/
noncomputable def MIf (h₀ : Heap) (L : Addr) (s : Shared) (m₀ : PySem.Str → Option Value) (news : List (Addr × Obj)) (P : Prop) (Q : Flow → Shared → Prop) (f : Flow) (s₂ : Shared) : Prop :=
  (f = .next ∧ P ∧ ∃ h' tk', s₂ = { s with heap := h', toks := tk' } ∧ Fr h₀ L h' m₀ ∧ News h₀ L h' news) ∨ ∃ v, f = .ret v ∧ Q (.ret v) s₂
theorem mif_next {h₀ : Heap} {L : Addr} {s s₂ : Shared} {m₀ : PySem.Str → Option Value} {news news' : List (Addr × Obj)} {P : Prop} {Q : Flow → Shared → Prop} (e : s₂ = { s with heap := s₂.heap, toks := s₂.toks }) (F : Fr h₀ L s₂.heap m₀) (N : News h₀ L s₂.heap news') (hn : ∀ p ∈ news, p ∈ news')
    (hp : P) : MIf h₀ L s m₀ news P Q .next s₂ := .inl ⟨rfl, hp, _, _, e, F, fun p hq => N p (hn p hq)⟩
theorem mif_ret {h₀ : Heap} {L : Addr} {s s₂ : Shared} {m₀ : PySem.Str → Option Value} {news : List (Addr × Obj)} {P : Prop} {Q : Flow → Shared → Prop} {v : Value} (h : Q (.ret v) s₂) : MIf h₀ L s m₀ news P Q (.ret v) s₂ := .inr ⟨v, rfl, h⟩
section
variable {prog : Program} {w : World} {A : Around} {E : Value → Shared → Prop} {Q : Flow → Shared → Prop} {s : Shared} {env : Env} {h₀ : Heap} {L : Addr} {m₀ : PySem.Str → Option Value} {news : List (Addr × Obj)} {st : Stmt} {rest : List Stmt}
theorem execs_if (P : Prop) (_ : Fr h₀ L s.heap m₀) (_ : News h₀ L s.heap news) (h1 : wpAny (model prog w) A (exec st env) (MIf h₀ L s m₀ news P Q) E s)
    (h2 : ∀ h tk, P → Fr h₀ L h m₀ → News h₀ L h news → wpAny (model prog w) A (execs rest env) Q E { s with heap := h, toks := tk }) : wpAny (model prog w) A (execs (st :: rest) env) Q E s := by
  refine wpAny_execs_cons (wpAny_mono h1 (fun f s₂ p => ?_) fun _ _ x => x)
  rcases p with ⟨rfl, hp, h', tk', rfl, F, N⟩ | ⟨v, rfl, h⟩
  · exact h2 h' tk' hp F N
  · exact h
end
section
variable {prog : Program} {w : World} {A : Around} {E : Value → Shared → Prop} {s : Shared} {h₀ : Heap} {L : Addr} {m : PySem.Str → Option Value} {Q : Value → Shared → Prop}
/-- list(range(a, b, c)) -/
theorem list_step {r : Addr} {a b c : Int} {t u v : Tok} {n : Nat} {news : List (Addr × Obj)} (hh : A.handled = none) (F : Fr h₀ L s.heap m) (N : News h₀ L s.heap news)
    (hr : IsRange s.heap r a b c t u v) (hsmall : Builtin.Range.small a b c = true) (hn : Builtin.Range.rangeSize a b c = (n : Int)) (hlen : n ≤ 2 ^ 24)
    (h : ∀ D us k h' tk, Fr h₀ L h' m → News h₀ L h' ((D, listOf (List.toArray us) k) :: news) → (∀ p ∈ news, p.1 < D) → IntsAre us (rangeInts a c n) → Q (.ref D) { s with heap := h', toks := tk }) :
    wpAny (model prog w) A (call (.type "list") [.ref r]) Q E s := by
  refine list_rangeD hh F N hr hsmall hn hlen fun h' tk ys F' _ hk _ _ P C => ?_
  obtain ⟨⟨k, hD⟩, _⟩ := P
  have C' : IntsAre ys ((rangeInts a c n).map id) := CarriedAll.intsOf C
  rw [List.map_id] at C'
  exact h _ ys k h' tk F' (news_pushed F N hk hD rfl) (fun p hp => Heap.lt_size (N p hp).1) C'
end
theorem range_two {n : Nat} (h : 1 ≤ n) : Builtin.Range.rangeSize 2 (2 * ((n : Int) + 1)) 2 = (n : Int) := by
  unfold Builtin.Range.rangeSize
  rw [if_pos (by decide), if_pos (by omega)]
  omega
theorem small_two {b : Int} (h : 0 ≤ b) (h' : b ≤ 1000) : Builtin.Range.small 2 b 2 = true := by
  unfold Builtin.Range.small Builtin.Range.rangeSize Builtin.Range.rangeFitsLong
  simp only [Bool.and_eq_true, Bool.or_eq_true, decide_eq_true_eq, beq_iff_eq, show (2 : Int) > 0 by decide, if_true]
  split <;> omega
theorem range_one (n : Nat) : Builtin.Range.rangeSize 0 (n : Int) 1 = (n : Int) := by
  unfold Builtin.Range.rangeSize
  rw [if_pos (by decide)]
  split <;> omega
theorem small_0 {b : Int} (h : 0 ≤ b) (h' : b ≤ 1000000) : Builtin.Range.small 0 b 1 = true := small_one (by omega) (by omega) (by omega) (by omega)
theorem news_flat {h₀ h : Heap} {L : Addr} {p : Addr × Obj} {own own2 : List (Addr × Obj)} (N : News h₀ L h (([p] ++ own) ++ own2)) : News h₀ L h (p :: (own ++ own2)) := by
  simpa only [List.append_assoc, List.cons_append, List.nil_append] using N
-- B2

/-- what a way of the body hands back (a mark: the walk stops here) -/
noncomputable def Ret (Q : Value → Shared → Prop) (v : Value) (s : Shared) : Prop := Q v s

section
variable {prog : Program} {w : World} {A₀ A : Around} {E : Value → Shared → Prop} {s : Shared} {K : Frag} {L : Addr} {h₀ base : Heap} {m mg mb : PySem.Str → Option Value} {p : Program} {loose : List PySem.Str} {mean : ExcName → Option Value} {Q : Value → Shared → Prop}

/-- entering a def with every object of the heap, but those of `own`, as the fixed base -/
theorem enter_own {env : Env} {outer : List Env} {name qual : PySem.Str} {params : Arguments} {body : List Stmt} {scope : Scope} {dV kV doc pm cdv ct oc : Value} {an od : Option Addr} {osl : Array (Option Value)} {f : Addr} {args : List Value} {binds : List (PySem.Str × Value)}
    (own : List (Addr × Obj)) (B : Below A₀ base outer h₀) (F : Fr h₀ L s.heap m) (X₀ : K.In h₀) (N : News h₀ L s.heap own) (T : Top p loose mean mg mb h₀) (hA : A.frames = some (env :: outer)) (hf : env.frame = some L) (hke : env.scope.kind = .function)
    (ho : K.lookup f = some ⟨oc, od, .func (fnOf name qual params body scope dV kV doc pm an cdv ct), osl⟩) (hcd : codeIn K cdv qual = true) (hroom : A.depth < recursionLimit)
    (hbind : BindsTo s (fnOf name qual params body scope dV kV doc pm an cdv ct) ⟨args, []⟩ binds) (hloc : ∀ y ∈ binds, scope.names.lookup y.1 = some .local)
    (h : ∀ g L' h₁, g = hideAll s.heap (own.map (·.1)) → Fr g L' h₁ (fun y => binds.reverse.lookup y) → News g L' h₁ own → Below A base (env :: outer) g → K.In g → Top p loose mean mg mb g →
      wpAny (model prog w) (A.deeper (envOf qual scope L' f cdv)) (execs body (envOf qual scope L' f cdv))
        (fun fl s' => Ret Q (match fl with | .ret v => v | _ => .none) s')
        (fun e s' => wpAny (model prog w) (A.deeper (envOf qual scope L' f cdv)) (leaving (envOf qual scope L' f cdv) e) (fun _ s'' => E e s'') (fun e' s'' => E e' s'') s')
        { s with heap := h₁, toks := s.toks + binds.length })
    (hco : scope.isCoroutine = false) (hgen : scope.isGenerator = false) (hk : scope.kind = .function)
    (hcell : ∀ x ∈ scope.names, x.2 ≠ .cell) : wpAny (model prog w) A (call (.ref f) args) Q E s := by
  refine wpAny_call ?_
  obtain ⟨_, BG, st, _⟩ := groundX (R := fun _ _ => True) B F N hA hf hke
  refine PySem.codeAny_call_def (fd := fnOf name qual params body scope dV kV doc pm an cdv ct) (body := body) (binds := binds) hroom ((X₀.keeps F.keep) _ _ ho) rfl (T.nolimit.keeps F.keep) (codeRec_of (X₀.keeps F.keep) hcd) rfl hbind hcell hloc (fun h₁ hns hk₁ => ?_) hco hgen hk
  exact h _ s.heap.objs.size h₁ rfl ⟨hns, fun b o e => hk₁ b o (of_hideAll _ e), Nat.le_of_eq (hideAll_size _ _)⟩
    (fun p hp => ⟨hk₁ _ _ (N p hp).1, Nat.ne_of_lt (Heap.lt_size (N p hp).1), hideAll_none _ (List.mem_map_of_mem hp)⟩) BG (X₀.keeps st) (T.keeps st)

theorem enter_pure {env : Env} {outer : List Env} {name qual : PySem.Str} {params : Arguments} {body : List Stmt} {scope : Scope} {dV kV doc pm cdv ct oc : Value} {an od : Option Addr} {osl : Array (Option Value)} {f : Addr} {args : List Value} {binds : List (PySem.Str × Value)}
    (B : Below A₀ base outer h₀) (F : Fr h₀ L s.heap m) (X₀ : K.In h₀) (T : Top p loose mean mg mb h₀) (hA : A.frames = some (env :: outer)) (hf : env.frame = some L) (hke : env.scope.kind = .function)
    (ho : K.lookup f = some ⟨oc, od, .func (fnOf name qual params body scope dV kV doc pm an cdv ct), osl⟩) (hcd : codeIn K cdv qual = true) (hroom : A.depth < recursionLimit)
    (hbind : BindsTo s (fnOf name qual params body scope dV kV doc pm an cdv ct) ⟨args, []⟩ binds) (hloc : ∀ y ∈ binds, scope.names.lookup y.1 = some .local)
    (h : ∀ g L' h₁, g = s.heap → Fr g L' h₁ (fun y => binds.reverse.lookup y) → News g L' h₁ [] → Below A base (env :: outer) g → K.In g → Top p loose mean mg mb g →
      wpAny (model prog w) (A.deeper (envOf qual scope L' f cdv)) (execs body (envOf qual scope L' f cdv))
        (fun fl s' => Ret Q (match fl with | .ret v => v | _ => .none) s')
        (fun e s' => wpAny (model prog w) (A.deeper (envOf qual scope L' f cdv)) (leaving (envOf qual scope L' f cdv) e) (fun _ s'' => E e s'') (fun e' s'' => E e' s'') s')
        { s with heap := h₁, toks := s.toks + binds.length })
    (hco : scope.isCoroutine = false) (hgen : scope.isGenerator = false) (hk : scope.kind = .function)
    (hcell : ∀ x ∈ scope.names, x.2 ≠ .cell) : wpAny (model prog w) A (call (.ref f) args) Q E s :=
  enter_own [] B F X₀ .nil T hA hf hke ho hcd hroom hbind hloc h hco hgen hk hcell

/-- what stood stays: the caller's frame and ledger behind a call that changed nothing of it -/
theorem fr_stays {h h' : Heap} (F : Fr h₀ L h m) (st : h.StaysIn h') : Fr h₀ L h' m := by
  obtain ⟨⟨oL, es, ep, hL, r⟩, k, a⟩ := F
  exact ⟨⟨oL, es, ep, st _ _ hL, r⟩, fun b o e => st b o (k b o e), a⟩
theorem news_stays {h h' : Heap} {news : List (Addr × Obj)} (N : News h₀ L h news) (st : h.StaysIn h') : News h₀ L h' news :=
  fun p hp => ⟨st _ _ (N p hp).1, (N p hp).2⟩
end

/-- a def that leaves all that stood as it was: `n` frames deep, `H` what it asks, `Out` what it gives -/
noncomputable def PCl (prog : Program) (K : Params → Frag) (p : Program) (loose : List PySem.Str) (n : Nat) (f : Nat) (w : World) (H : Heap → Prop) (vs : List Value) (Out : Heap → Heap → Value → Prop) : Prop :=
  ∀ (mean : ExcName → Option Value) (mg mb : PySem.Str → Option Value) (dp un : Nat) (gd : Option (List Code)) (cn : PySem.Str) (cs : Scope) (a : Addr) (ccd : Value) (cl : List (PySem.Str × Addr)) (outer : List Env) (A₀ : Around) (base h₀ : Heap) (L : Addr) (m : PySem.Str → Option Value) (s : Shared) (Q E : Value → Shared → Prop),
    Below A₀ base outer h₀ → Fr h₀ L s.heap m → (K w.params).In h₀ → Top p loose mean mg mb h₀ → cs.kind = .function → dp + n < recursionLimit → un + 8 * n < cLine → H s.heap →
    (∀ v h' tk', s.heap.StaysIn h' → Out s.heap h' v → Q v { s with heap := h', toks := tk' }) →
    wpAny (model prog w) (ktrTop dp un gd cn cs L a ccd cl outer) (call (.ref f) vs) Q E s

/-- an int, a bool, a str come back -/
noncomputable abbrev OInt (x : Int) : Heap → Heap → Value → Prop := fun _ _ v => ∃ t, v = .int x t
noncomputable abbrev OBool (x : Bool) : Heap → Heap → Value → Prop := fun _ _ v => v = .bool x
section
variable {g : Heap} {L : Addr} {m : PySem.Str → Option Value} {s : Shared} {Q : Value → Shared → Prop} {h' : Heap} {tk : Nat} {t : Tok} {Out : Heap → Heap → Value → Prop} {v : Value}
theorem ret_ {s' : Shared} (hret : ∀ v h' tk', s.heap.StaysIn h' → Out s.heap h' v → Q v { s with heap := h', toks := tk' }) (hg : g = s.heap) (F : Fr g L s'.heap m) (e : s' = { s with heap := s'.heap, toks := s'.toks }) (ho : Out s.heap s'.heap v) : Ret Q v s' := by
  subst hg
  show Q v s'
  rw [e]
  exact hret v s'.heap s'.toks F.keep ho
end
theorem oInt {h h' : Heap} {x y : Int} {t : Tok} (e : x = y) : OInt y h h' (.int x t) := ⟨t, by rw [e]⟩
theorem oBool {h h' : Heap} {x y : Bool} (e : x = y) : OBool y h h' (.bool x) := by rw [e]
section
variable {prog : Program} {w : World} {K : Params → Frag} {p : Program} {loose : List PySem.Str} {n f : Nat} {H : Heap → Prop} {vs : List Value} {Out : Heap → Heap → Value → Prop}
/-- the use of what was shown of a def, with the caller's frame and ledger kept -/
theorem use_cl {mean : ExcName → Option Value} {mg mb : PySem.Str → Option Value} {dp un : Nat} {gd : Option (List Code)} {cn : PySem.Str} {cs : Scope} {a : Addr} {ccd : Value} {cl : List (PySem.Str × Addr)} {outer : List Env} {A₀ : Around} {base h₀ : Heap} {L : Addr} {m : PySem.Str → Option Value} {s : Shared} {Q E : Value → Shared → Prop} {news : List (Addr × Obj)}
    (C : PCl prog K p loose n f w H vs Out) (B : Below A₀ base outer h₀) (F : Fr h₀ L s.heap m) (X : (K w.params).In h₀) (N : News h₀ L s.heap news) (T : Top p loose mean mg mb h₀) (hk : cs.kind = .function) (hd : dp + n < recursionLimit) (hu : un + 8 * n < cLine) (hH : H s.heap)
    (hret : ∀ v h' tk', Fr h₀ L h' m → News h₀ L h' news → s.heap.StaysIn h' → Out s.heap h' v → Q v { s with heap := h', toks := tk' }) :
    wpAny (model prog w) (ktrTop dp un gd cn cs L a ccd cl outer) (call (.ref f) vs) Q E s :=
  C mean mg mb dp un gd cn cs a ccd cl outer A₀ base h₀ L m s Q E B F X T hk hd hu hH fun v h' tk' st ho => hret v h' tk' (fr_stays F st) (news_stays N st) st ho
end

noncomputable def RetC (R : Result → Shared → Prop) (v : Value) (s : Shared) : Prop := R (.ok (.ret v)) s
section
variable {prog : Program} {w : World} {A₀ A : Around} {s : Shared} {K : Frag} {L : Addr} {h₀ base : Heap} {m mg mb : PySem.Str → Option Value} {p : Program} {loose : List PySem.Str} {mean : ExcName → Option Value} {R : Result → Shared → Prop}
theorem enter_code {env : Env} {outer : List Env} {name qual : PySem.Str} {params : Arguments} {body : List Stmt} {scope : Scope} {dV kV doc pm cdv ct oc : Value} {an od : Option Addr} {osl : Array (Option Value)} {f : Addr} {args : List Value} {binds : List (PySem.Str × Value)}
    (own : List (Addr × Obj)) (B : Below A₀ base outer h₀) (F : Fr h₀ L s.heap m) (X₀ : K.In h₀) (N : News h₀ L s.heap own) (T : Top p loose mean mg mb h₀) (hA : A.frames = some (env :: outer)) (hf : env.frame = some L) (hke : env.scope.kind = .function)
    (ho : K.lookup f = some ⟨oc, od, .func (fnOf name qual params body scope dV kV doc pm an cdv ct), osl⟩) (hcd : codeIn K cdv qual = true) (hroom : A.depth < recursionLimit)
    (hbind : BindsTo s (fnOf name qual params body scope dV kV doc pm an cdv ct) ⟨args, []⟩ binds) (hloc : ∀ y ∈ binds, scope.names.lookup y.1 = some .local)
    (h : ∀ g L' h₁, g = hideAll s.heap (own.map (·.1)) → Fr g L' h₁ (fun y => binds.reverse.lookup y) → News g L' h₁ own → Below A base (env :: outer) g → K.In g → Top p loose mean mg mb g →
      wpAny (model prog w) (A.deeper (envOf qual scope L' f cdv)) (execs body (envOf qual scope L' f cdv))
        (fun fl s' => RetC R (match fl with | .ret v => v | _ => .none) s')
        (fun e s' => wpAny (model prog w) (A.deeper (envOf qual scope L' f cdv)) (leaving (envOf qual scope L' f cdv) e) (fun _ s'' => R (.error e) s'') (fun e' s'' => R (.error e') s'') s')
        { s with heap := h₁, toks := s.toks + binds.length })
    (hco : scope.isCoroutine = false) (hgen : scope.isGenerator = false) (hk : scope.kind = .function)
    (hcell : ∀ x ∈ scope.names, x.2 ≠ .cell) : codeAny (model prog w) A (.call (.ref f) ⟨args, []⟩) R s := by
  obtain ⟨_, BG, st, _⟩ := groundX (R := fun _ _ => True) B F N hA hf hke
  refine PySem.codeAny_call_def (fd := fnOf name qual params body scope dV kV doc pm an cdv ct) (body := body) (binds := binds) hroom ((X₀.keeps F.keep) _ _ ho) rfl (T.nolimit.keeps F.keep) (codeRec_of (X₀.keeps F.keep) hcd) rfl hbind hcell hloc (fun h₁ hns hk₁ => ?_) hco hgen hk
  exact h _ s.heap.objs.size h₁ rfl ⟨hns, fun b o e => hk₁ b o (of_hideAll _ e), Nat.le_of_eq (hideAll_size _ _)⟩
    (fun p hp => ⟨hk₁ _ _ (N p hp).1, Nat.ne_of_lt (Heap.lt_size (N p hp).1), hideAll_none _ (List.mem_map_of_mem hp)⟩) BG (X₀.keeps st) (T.keeps st)
end
theorem ret_int {s s' : Shared} {Q : Value → Shared → Prop} {x v : Int} {t : Tok} (hret : ∀ t h' tk', s.heap.StaysIn h' → Q (.int v t) { s with heap := h', toks := tk' }) (st : s.heap.StaysIn s'.heap) (e : s' = { s with heap := s'.heap, toks := s'.toks }) (hv : x = v) : Ret Q (.int x t) s' := by
  subst hv
  show Q _ s'
  rw [e]
  exact hret t s'.heap s'.toks st
theorem news_add {h₀ h h' : Heap} {L D : Addr} {o : Obj} {m : PySem.Str → Option Value} {news : List (Addr × Obj)} (F : Fr h₀ L h m) (N : News h₀ L h news) (st : h.StaysIn h') (hn : h.get? D = none) (hD : h'.get? D = some o) : News h₀ L h' ((D, o) :: news) := fun p hp => by
  rcases List.mem_cons.mp hp with rfl | hp
  · refine ⟨hD, fun e => ?_, ?_⟩
    · obtain ⟨oL, _, _, hL, _⟩ := F.ns
      have e2 : D = L := e
      rw [e2, hL] at hn; cases hn
    · cases q : h₀.get? D with
      | none => rfl
      | some o' => rw [F.keep _ _ q] at hn; cases hn
  · exact ⟨st _ _ (N p hp).1, (N p hp).2⟩
noncomputable abbrev Cl (n : Nat) (f : Nat) (w : World) (H : Heap → Prop) (vs : List Value) (Out : Heap → Heap → Value → Prop) : Prop :=
  PCl PySem.Challenge.pw_pg0263_02 hd.heap_39 hd.view_39 (looseW hd.view_39 [PySem.Str.ofString "Whitespace"]) n f w H vs Out

-- S1

open PySem.Builtin PySem.Builtin.Str PySem.StrLaws in
theorem occ_empty {x y : PySem.Str} {lo hi : Nat} (hy : y.length = 0) (h : lo ≤ hi) : ∃ r, occurrences x y lo hi 1 = lo :: r := by
  have he : ∀ i, subAt x y i = true := by
    intro i
    obtain ⟨⟨l⟩⟩ := y
    have hl : l = [] := List.length_eq_zero_iff.mp hy
    subst hl
    unfold subAt
    simp [PySem.Str.length]; omega
  rw [occ_eq]
  rcases occ_first x y hi 1 (Nat.le_refl 1) (List.range' lo (hi + 1 - lo)) lo (fun i hi => by have := List.mem_range'_1.mp hi; omega) with ⟨_, hn⟩ | ⟨pre, a, post, e, h0, _, hn⟩
  · exact absurd ⟨by omega, he lo⟩ (hn lo (by rw [List.mem_range'_1]; omega))
  · have hpre : pre = [] := by
      cases pre with
      | nil => rfl
      | cons b p =>
        have hb : b ∈ List.range' lo (hi + 1 - lo) := by rw [e]; simp
        have := List.mem_range'_1.mp hb
        exact absurd ⟨by omega, he b⟩ (hn b (.head _))
    subst hpre
    have ha : a = lo := by
      have h2 : (List.range' lo (hi + 1 - lo))[0]? = some a := by rw [e]; rfl
      rw [List.getElem?_range' (by omega)] at h2
      simpa using h2.symm
    subst ha
    generalize (forIn (List.range' a (hi + 1 - a)) ((#[] : Array Nat), a) (occBody x y hi 1)).run.fst = arr at h0
    have h1 : arr.toList[0]? = some a := by simpa using h0
    cases hL : arr.toList with
    | nil => rw [hL] at h1; cases h1
    | cons b r => rw [hL] at h1; simp at h1; exact ⟨r, by rw [h1]⟩

section
variable {prog : Program} {w : World} {A : Around} {E : Value → Shared → Prop} {s : Shared} {x y : PySem.Str} {t u v z : Tok} {i j : Int} {Q : Value → Shared → Prop}
open PySem.Builtin PySem.Builtin.Str in
theorem gives_find4 (x y : PySem.Str) (i j : Int) (t u v z : Tok) : Gives (Builtin.«str.find» ⟨[.str x t, .str y u, .int i v, .int j z], []⟩) (.int (match occurrences x y (fromIndex x.length i) (min (fromIndex x.length j) x.length) 1 with | k :: _ => (k : Int) | [] => -1)) := by
  show Gives (match occurrences x y (fromIndex x.length i) (min (fromIndex x.length j) x.length) 1 with | k :: _ => retInt k | [] => (do rule "str.find.not-found"; retInt (-1))) _
  cases occurrences x y (fromIndex x.length i) (min (fromIndex x.length j) x.length) 1 with
  | nil => exact .rule (.of_eq rfl)
  | cons k _ => exact .of_eq rfl
theorem find4_empty (hy : y.length = 0) (h0 : 0 ≤ i) (hij : i ≤ j) (hj : j ≤ (x.length : Int)) (h : Q (.int i s.toks) { s with toks := s.toks + 1 }) :
    wpAny (model prog w) A (call (.builtin "str.find") [.str x t, .str y u, .int i v, .int j z]) Q E s := by
  refine call_gives F.slot_str_find (typeIs_str _ _ _) F.entry_str_find (F.args_str_find_4 _ _ _ _) (gives_find4 x y i j t u v z) ?_
  have e1 : PySem.fromIndex x.length i = i.toNat := by unfold PySem.fromIndex; rw [if_neg (by omega)]; omega
  have e2 : min (PySem.fromIndex x.length j) x.length = j.toNat := by unfold PySem.fromIndex; rw [if_neg (by omega)]; omega
  rw [e1, e2]
  obtain ⟨r, hr⟩ := occ_empty (x := x) (lo := i.toNat) (hi := j.toNat) hy (by omega)
  rw [hr]
  show Q (.int ((i.toNat : Nat) : Int) s.toks) { s with toks := s.toks + 1 }
  rw [Int.toNat_of_nonneg h0]
  exact h
end
open PySem.Builtin PySem.Builtin.Str in
theorem sub_empty {x y : PySem.Str} (hy : y.length = 0) (i : Nat) : subAt x y i = true := by
  obtain ⟨⟨l⟩⟩ := y
  have hl : l = [] := List.length_eq_zero_iff.mp hy
  subst hl
  unfold subAt
  simp [PySem.Str.length]; omega
theorem starts_empty {x y : PySem.Str} (hy : y.length = 0) : Txt.startswith x y = true := by
  unfold Txt.startswith; rw [sub_empty hy]; simp; omega
theorem ends_empty {x y : PySem.Str} (hy : y.length = 0) : Txt.endswith x y = true := by
  unfold Txt.endswith; rw [sub_empty hy]; simp; omega

-- Lf1

noncomputable def subF (a b : PySem.Str) : Int := if a = b then 0 else if Txt.lower a = Txt.lower b then 1 else 2
/-- one cell of the table, out of distance, result, row -/
noncomputable def cell (A bc : PySem.Str) (d r : Int) (row : List Int) (i : Int) : Int :=
  if d + subF bc (Txt.item A i) < (if row.getD i.toNat 0 < r then row.getD i.toNat 0 else r) + 2 then d + subF bc (Txt.item A i) else (if row.getD i.toNat 0 < r then row.getD i.toNat 0 else r) + 2
noncomputable def inStep (A bc : PySem.Str) (st : Int × Int × Int × List Int) (i : Int) : Int × Int × Int × List Int :=
  (st.2.2.2.getD i.toNat 0, cell A bc st.1 st.2.1 st.2.2.2 i, if cell A bc st.1 st.2.1 st.2.2.2 i < st.2.2.1 then cell A bc st.1 st.2.1 st.2.2.2 i else st.2.2.1, st.2.2.2.set i.toNat (cell A bc st.1 st.2.1 st.2.2.2 i))
theorem in_turn {A bc : PySem.Str} {d r mn mn' i : Int} {row pre : List Int} {st : Int × Int × Int × List Int} (hP : (d, r, mn, row) = pre.foldl (inStep A bc) st) (hm : mn' = if cell A bc d r row i < mn then cell A bc d r row i else mn) :
    (row.getD i.toNat 0, cell A bc d r row i, mn', row.set i.toNat (cell A bc d r row i)) = (pre ++ [i]).foldl (inStep A bc) st := by
  rw [List.foldl_append, ← hP, hm]; rfl
noncomputable def inner (A bc : PySem.Str) (j : Int) (row : List Int) : Int × Int × Int × List Int := (rangeKs 0 A.length).foldl (inStep A bc) (j * 2, j * 2, 9223372036854775807, row)
noncomputable def outer (A B : PySem.Str) (mc : Int) : List Int → Int → List Int → Int
  | [], res, _ => res
  | j :: js, _, row =>
    let st := inner A (Txt.item B j) j row
    if st.2.2.1 > mc then mc + 1 else outer A B mc js st.2.1 st.2.2.2
noncomputable def levTail (A B : PySem.Str) (mc : Int) : Int := if ((B.length : Int) - A.length) * 2 > mc then mc + 1 else outer A B mc (rangeKs 0 B.length) 0 (rangeInts 2 2 A.length)
noncomputable def levF (a b : PySem.Str) (mc : Int) : Int :=
  if a = b then 0 else
  let A := Txt.slice a (some (cplS a b : Int)) none
  let B := Txt.slice b (some (cplS a b : Int)) none
  let A2 := cutBack A (cslS A B)
  let B2 := cutBack B (cslS A B)
  if A2.length = 0 ∨ B2.length = 0 then 2 * ((A2.length : Int) + B2.length) else
  levTail (if B2.length < A2.length then B2 else A2) (if B2.length < A2.length then A2 else B2) mc
theorem inStep_row (A bc : PySem.Str) (st : Int × Int × Int × List Int) (i : Int) : (inStep A bc st i).2.2.2.length = st.2.2.2.length := by simp [inStep]
theorem fold_row (A bc : PySem.Str) (ks : List Int) (st : Int × Int × Int × List Int) : (ks.foldl (inStep A bc) st).2.2.2.length = st.2.2.2.length := by
  induction ks generalizing st with
  | nil => rfl
  | cons k r ih => rw [List.foldl_cons, ih, inStep_row]
theorem inner_row (A bc : PySem.Str) (j : Int) (row : List Int) : (inner A bc j row).2.2.2.length = row.length := fold_row _ _ _ _
section
variable {a b A B A2 B2 A3 B3 : PySem.Str} {mc : Int}
theorem lev_same (h : (a == b) = true) : 0 = levF a b mc := by
  unfold levF; rw [if_pos (beq_iff_eq.mp h)]
theorem lev_short (h : (a == b) = false) (hA : Txt.slice a (some (cplS a b : Int)) none = A) (hB : Txt.slice b (some (cplS a b : Int)) none = B) (hA2 : cutBack A (cslS A B) = A2) (hB2 : cutBack B (cslS A B) = B2)
    (h0 : A2.length = 0 ∨ B2.length = 0) : 2 * ((A2.length : Int) + B2.length) = levF a b mc := by
  subst hA hB hA2 hB2
  unfold levF
  rw [if_neg (beq_eq_false_iff_ne.mp h)]
  exact (if_pos h0).symm
theorem lev_long (h : (a == b) = false) (hA : Txt.slice a (some (cplS a b : Int)) none = A) (hB : Txt.slice b (some (cplS a b : Int)) none = B) (hA2 : cutBack A (cslS A B) = A2) (hB2 : cutBack B (cslS A B) = B2)
    (h0 : 1 ≤ A2.length ∧ 1 ≤ B2.length) (hA3 : (if B2.length < A2.length then B2 else A2) = A3) (hB3 : (if B2.length < A2.length then A2 else B2) = B3) : levTail A3 B3 mc = levF a b mc := by
  subst hA hB hA2 hB2 hA3 hB3
  unfold levF
  rw [if_neg (beq_eq_false_iff_ne.mp h)]
  exact (if_neg (by omega)).symm
theorem tail_far (h : ((B3.length : Int) - A3.length) * 2 > mc) : mc + 1 = levTail A3 B3 mc := by unfold levTail; rw [if_pos h]
theorem tail_near (h : ((B3.length : Int) - A3.length) * 2 ≤ mc) : outer A3 B3 mc (rangeKs 0 B3.length) 0 (rangeInts 2 2 A3.length) = levTail A3 B3 mc := by unfold levTail; rw [if_neg (by omega)]
end

-- Sp1

noncomputable abbrev dots : PySem.Str := PySem.Str.ofString "..."
section
open PySem.Builtin PySem.Builtin.Str PySem.StrLaws
theorem dots_list : dots.cps.toList = [46, 46, 46] := by decide +kernel
theorem dots_len : dots.length = 3 := by decide +kernel
theorem at_46 {ps ss : List Nat} (hp : 46 ∉ ps) (hs : 46 ∉ ss) {j : Nat} (h : (ps ++ [46, 46, 46] ++ ss)[j]? = some 46) : ps.length ≤ j ∧ j < ps.length + 3 := by
  have h1 : ps.length ≤ j := by
    apply Nat.le_of_not_lt
    intro hj
    rw [List.append_assoc, List.getElem?_append_left hj] at h
    exact hp (List.mem_of_getElem? h)
  refine ⟨h1, ?_⟩
  apply Nat.lt_of_not_le
  intro hj
  rw [List.getElem?_append_right (by simp; omega)] at h
  exact hs (List.mem_of_getElem? h)
theorem at_dots {P S : PySem.Str} (hp : 46 ∉ P.cps.toList) (hs : 46 ∉ S.cps.toList) (i : Nat) : At (P ++ dots ++ S) dots (P ++ dots ++ S).length i ↔ i = P.length := by
  have hl : P.length = P.cps.toList.length := rfl
  have hx : (P ++ dots ++ S).cps.toList = P.cps.toList ++ [46, 46, 46] ++ S.cps.toList := by
    rw [PySem.Str.cps_append, PySem.Str.cps_append, Array.toList_append, Array.toList_append, dots_list]
  have hlen : (P ++ dots ++ S).length = P.length + 3 + S.length := by rw [PySem.Str.length_append, PySem.Str.length_append, dots_len]
  unfold At
  rw [subAt_eq, hx, dots_len, dots_list, hlen, beq_iff_eq]
  constructor
  · rintro ⟨h1, h2⟩
    have g0 : (P.cps.toList ++ [46, 46, 46] ++ S.cps.toList)[i]? = some 46 := by
      have := congrArg (fun l => l[0]?) h2
      simpa [List.getElem?_take, List.getElem?_drop] using this
    have g2 : (P.cps.toList ++ [46, 46, 46] ++ S.cps.toList)[i + 2]? = some 46 := by
      have := congrArg (fun l => l[2]?) h2
      simpa [List.getElem?_take, List.getElem?_drop] using this
    have a0 := at_46 hp hs g0
    have a2 := at_46 hp hs g2
    omega
  · rintro rfl
    refine ⟨by omega, ?_⟩
    rw [List.append_assoc, hl, List.drop_left]
    rfl
theorem occ_dots {P S : PySem.Str} (hp : 46 ∉ P.cps.toList) (hs : 46 ∉ S.cps.toList) : occurrences (P ++ dots ++ S) dots 0 (P ++ dots ++ S).length ((P ++ dots ++ S).length + 1) = [P.length] := by
  obtain ⟨f, hc, hn⟩ := occ_tight (P ++ dots ++ S) dots (by decide +kernel)
  cases ho : occurrences (P ++ dots ++ S) dots 0 (P ++ dots ++ S).length ((P ++ dots ++ S).length + 1) with
  | nil =>
    rw [ho] at hc
    have e : f = 0 := hc
    exact absurd ((at_dots hp hs P.length).mpr rfl) (hn _ (by omega))
  | cons c r =>
    rw [ho] at hc
    obtain ⟨_, hA, _, hc2⟩ := hc
    have e := (at_dots hp hs c).mp hA
    subst e
    cases r with
    | nil => rfl
    | cons c2 r2 =>
      obtain ⟨h1, hA2, _⟩ := hc2
      have e2 := (at_dots hp hs c2).mp hA2
      rw [dots_len] at h1
      omega
theorem occ_dots1 {P S : PySem.Str} (hp : 46 ∉ P.cps.toList) (hs : 46 ∉ S.cps.toList) : (occurrences (P ++ dots ++ S) dots 0 (P ++ dots ++ S).length 1).isEmpty = false := by
  have := (found_iff (P ++ dots ++ S) dots).mpr ⟨P.length, (at_dots hp hs P.length).mpr rfl⟩
  simpa using this
theorem split_dots {P S : PySem.Str} (hp : 46 ∉ P.cps.toList) (hs : 46 ∉ S.cps.toList) : Txt.split (P ++ dots ++ S) dots = [P, S] := by
  have hlen : (P ++ dots ++ S).length = P.length + 3 + S.length := by rw [PySem.Str.length_append, PySem.Str.length_append, dots_len]
  have hl : P.length = P.cps.toList.length := rfl
  have hl2 : S.length = S.cps.toList.length := rfl
  have hx : (P ++ dots ++ S).cps.toList = P.cps.toList ++ ([46, 46, 46] ++ S.cps.toList) := by
    rw [PySem.Str.cps_append, PySem.Str.cps_append, Array.toList_append, Array.toList_append, dots_list, List.append_assoc]
  unfold Txt.split
  have hk : PySem.Builtin.Str.strKind dots = 1 := by decide +kernel
  have hk2 : 1 ≤ PySem.Builtin.Str.strKind (P ++ dots ++ S) := by unfold PySem.Builtin.Str.strKind; split <;> (try split) <;> omega
  rw [occ_dots hp hs, hk, dots_len]
  rw [if_neg (by simp; omega), if_neg (by simp), partsBetween_eq]
  show [strSub _ 0 P.length, strSub _ (P.length + 3) _] = _
  congr 1
  · apply PySem.Str.ext'
    apply Array.toList_inj.mp
    rw [strSub_toList, hx, List.drop_zero, Nat.sub_zero, hl, List.take_left]
  · congr 1
    apply PySem.Str.ext'
    apply Array.toList_inj.mp
    rw [strSub_toList, hx, hlen, ← List.drop_drop, hl, List.drop_left, List.drop_left' (by rfl)]
    rw [List.take_of_length_le (by omega)]
end

-- Sf1

noncomputable def ellF (P S got : PySem.Str) : Bool := Txt.startswith got P && (Txt.endswith got S && decide (P.length + S.length ≤ got.length))
theorem range_to {b : Int} {n : Nat} (h : b = (n : Int)) : Builtin.Range.rangeSize 0 b 1 = (n : Int) := by
  subst h
  unfold Builtin.Range.rangeSize
  rw [if_pos (by decide)]
  split <;> omega
-- Sl1

section
open PySem.Builtin PySem.Builtin.Str PySem.StrLaws
theorem starts_list (x y : PySem.Str) : Txt.startswith x y = y.cps.toList.isPrefixOf x.cps.toList := by
  have hx : x.length = x.cps.toList.length := rfl
  have hy : y.length = y.cps.toList.length := rfl
  unfold Txt.startswith
  rw [subAt_eq, List.drop_zero, Bool.eq_iff_iff, Bool.and_eq_true, decide_eq_true_eq, beq_iff_eq, List.isPrefixOf_iff_prefix, List.prefix_iff_eq_take, hx, hy]
  constructor
  · rintro ⟨_, h⟩; exact h.symm
  · intro h
    have := congrArg List.length h
    rw [List.length_take] at this
    exact ⟨by omega, h.symm⟩
theorem ends_list (x y : PySem.Str) : Txt.endswith x y = y.cps.toList.isSuffixOf x.cps.toList := by
  have hx : x.length = x.cps.toList.length := rfl
  have hy : y.length = y.cps.toList.length := rfl
  unfold Txt.endswith
  rw [subAt_eq, Bool.eq_iff_iff, Bool.and_eq_true, decide_eq_true_eq, beq_iff_eq, List.isSuffixOf_iff_suffix, List.suffix_iff_eq_drop, hx, hy]
  constructor
  · rintro ⟨h1, h⟩
    rw [List.take_of_length_le (by rw [List.length_drop]; omega)] at h
    exact h.symm
  · intro h
    have hl := congrArg List.length h
    rw [List.length_drop] at hl
    refine ⟨by omega, ?_⟩
    rw [List.take_of_length_le (by rw [List.length_drop]; omega)]
    exact h.symm
end
/-- the match and the slips over plain lists -/
noncomputable def ellL (ps ss gs : List Nat) : Bool := ps.isPrefixOf gs && (ss.isSuffixOf gs && Nat.ble (ps.length + ss.length) gs.length)
theorem ellF_list (P S got : PySem.Str) : ellF P S got = ellL P.cps.toList S.cps.toList got.cps.toList := by
  unfold ellF ellL
  rw [starts_list, ends_list]
  congr 1
  congr 1
  exact (Bool.eq_iff_iff.mpr (by rw [decide_eq_true_eq, Nat.ble_eq]; exact Iff.rfl))
/-- what is due: the greatest of the three differences -/
noncomputable def dueN (t b i j : Nat) : Nat := Nat.max (Nat.max ((i - t) + (t - i)) ((j - b) + (b - j))) ((i + j - (t + b)) + (t + b - (i + j)))
-- Gr1

/-- the end of a turn of a loop whose made objects may grow in number -/
noncomputable def GEnd (h₀ : Heap) (L : Addr) (J : (PySem.Str → Option Value) → List (Addr × Obj) → Prop) (I : Addr) (it : Obj) (s₁ s₂ : Shared) : Prop :=
  ∃ h' tk m' nx, s₂ = { s₁ with heap := h', toks := tk } ∧ Fr h₀ L h' m' ∧ News h₀ L h' ((I, it) :: nx) ∧ (∀ p ∈ nx, p.1 ≠ I) ∧ J m' nx
noncomputable def GPost (h₀ : Heap) (L : Addr) (J : (PySem.Str → Option Value) → List (Addr × Obj) → Prop) (I : Addr) (it : Obj) (s₁ : Shared) (Q : Flow → Shared → Prop) (f : Flow) (s₂ : Shared) : Prop :=
  match f with
  | .ret v => Q (.ret v) s₂
  | .brk => Q .next s₂
  | _ => GEnd h₀ L J I it s₁ s₂
theorem gend_ {h₀ : Heap} {L : Addr} {J : (PySem.Str → Option Value) → List (Addr × Obj) → Prop} {I : Addr} {it : Obj} {s₁ s₂ : Shared} {m' : PySem.Str → Option Value} {all : List (Addr × Obj)} (e : s₂ = { s₁ with heap := s₂.heap, toks := s₂.toks }) (F : Fr h₀ L s₂.heap m') (N : News h₀ L s₂.heap all)
    (hI : (I, it) ∈ all) (nx : List (Addr × Obj)) (sub : ∀ p ∈ nx, p ∈ all) (off : ∀ p ∈ nx, p.1 ≠ I) (hJ : J m' nx) : GEnd h₀ L J I it s₁ s₂ :=
  ⟨_, _, m', nx, e, F, (fun p hp => by rcases List.mem_cons.mp hp with rfl | hp; exact N _ hI; exact N _ (sub p hp)), off, hJ⟩
section
variable {prog : Program} {w : World} {A : Around} {E : Value → Shared → Prop} {s : Shared} {env : Env} {h₀ : Heap} {x : PySem.Str} {body : List Stmt} {Q : Flow → Shared → Prop} {m₀ : PySem.Str → Option Value} {news : List (Addr × Obj)}
theorem grow_of {I : Addr} {n : Nat} {P : Nat → Value → Prop} {St : Nat → Heap → Prop} {ty : String} (W : Walks prog w A I [I] [I] n P St) (hSt : ∀ i h, St i h → ∃ it, h.get? I = some it ∧ it.cls = .type ty) (hI : h₀.get? I = none) (hIL : env.locals ≠ I)
    (F : Fr h₀ env.locals s.heap m₀) (N : News h₀ env.locals s.heap news) (hne : ∀ p ∈ news, p.1 ≠ I) (hst : St 0 s.heap) (J : Nat → (PySem.Str → Option Value) → List (Addr × Obj) → Prop) (hJ : J 0 m₀ news)
    (turn : ∀ i v it m₁ nx h tk, it.cls = .type ty → i < n → P i v → J i m₁ nx → (∀ p ∈ nx, p.1 ≠ I) → Fr h₀ env.locals h (fun y => if y = x then some v else m₁ y) → News h₀ env.locals h ((I, it) :: nx) →
      wpAny (model prog w) A (execs body env) (GPost h₀ env.locals (J (i + 1)) I it { s with heap := h, toks := tk } Q) E { s with heap := h, toks := tk })
    (done : ∀ m₁ nx h tk, J n m₁ nx → Fr h₀ env.locals h m₁ → News h₀ env.locals h nx → Q .next { s with heap := h, toks := tk }) :
    LoopAtV prog w A h₀ env x body Q E (.ref I) s := by
  refine ⟨I, [I], [I], n, P, St, m₀, news, J, rfl, W, fun hm => hIL (List.mem_singleton.mp hm), fun b hb => (List.mem_singleton.mp hb) ▸ hI, fun p hp hm => hne p hp (List.mem_singleton.mp hm), hst, F, N, hJ, ?_, ?_⟩
  · rintro i v m₁ nx s₁ own ⟨h, tk, rfl⟩ hin hP hJ hoff hown hget hall hst' F₁ N₁
    obtain ⟨it, hit, hcls⟩ := hSt _ _ hst'
    have hm := hall I (List.mem_singleton.mpr rfl) hI it hit
    have hoff' : ∀ p ∈ nx, p.1 ≠ I := fun p hp e => hoff p hp (List.mem_singleton.mpr e)
    have N₂ : News h₀ env.locals h ((I, it) :: nx) := fun p hp => by
      rcases List.mem_cons.mp hp with rfl | hp
      · exact N₁ _ (List.mem_append_left _ hm)
      · exact N₁ _ (List.mem_append_right _ hp)
    refine wpAny_mono (turn i v it m₁ nx h tk hcls hin hP hJ hoff' F₁ N₂) (fun f s₂ p => ?_) fun _ _ e => e
    have fin : GEnd h₀ env.locals (J (i + 1)) I it { s with heap := h, toks := tk } s₂ → LoopStepU h₀ env.locals [I] own (J (i + 1)) { s with heap := h, toks := tk } .next s₂ := by
      rintro ⟨h', tk', m', nx', e, F', N', ho, hJ'⟩
      refine ⟨rfl, h', tk', m', nx', e, F', fun p hp => ?_, fun p hp hI => ho p hp (List.mem_singleton.mp hI), hJ'⟩
      rcases List.mem_append.mp hp with hp | hp
      · have h1 : p.1 = I := List.mem_singleton.mp (hown p hp)
        have h2 : h.get? p.1 = some p.2 := hget p hp
        have h3 : p = (I, it) := by
          rw [h1, hit] at h2
          exact Prod.ext h1 (Option.some.inj h2).symm
        rw [h3]; exact N' _ (List.mem_cons_self ..)
      · exact N' _ (List.mem_cons_of_mem _ hp)
    cases f with
    | ret v => exact .ret p
    | brk => exact .brk p
    | next => exact .next (fin p)
    | cont => exact .cont (fin p)
  · rintro h' tk m' nx' F' N' _ hJ
    exact done m' nx' h' tk hJ F' N'
theorem grow_range {r : Addr} {a₀ b₀ : Int} {t₀ u₀ v₀ : Tok} {n : Nat} (J : Nat → (PySem.Str → Option Value) → List (Addr × Obj) → Prop)
    (hh : A.handled = none) (hr : IsRange s.heap r a₀ b₀ 1 t₀ u₀ v₀) (hsmall : Builtin.Range.small a₀ b₀ 1 = true) (hn : Builtin.Range.rangeSize a₀ b₀ 1 = (n : Int)) (F : Fr h₀ env.locals s.heap m₀) (N : News h₀ env.locals s.heap news) (hJ : J 0 m₀ news)
    (turn : ∀ I i t it m₁ nx h tk, it.cls = .type "range_iterator" → i < n → J i m₁ nx → (∀ p ∈ nx, p.1 ≠ I) → Fr h₀ env.locals h (fun y => if y = x then some (.int (a₀ + (i : Int)) t) else m₁ y) → News h₀ env.locals h ((I, it) :: nx) →
      wpAny (model prog w) A (execs body env) (GPost h₀ env.locals (J (i + 1)) I it { s with heap := h, toks := tk } Q) E { s with heap := h, toks := tk })
    (done : ∀ m₁ nx h tk, J n m₁ nx → Fr h₀ env.locals h m₁ → News h₀ env.locals h nx → Q .next { s with heap := h, toks := tk }) :
    wpAny (model prog w) A (pyIter (.ref r)) (fun it s₂ => LoopAtV prog w A h₀ env x body Q E it s₂) E s := by
  refine wpAny_pyIter_range hr hsmall ?_
  have W : Walks prog w A s.heap.objs.size [s.heap.objs.size] [s.heap.objs.size] n (fun i v => i < n ∧ ∃ t, v = .int (a₀ + i * 1) t)
      (fun i h => IsRangeIter h s.heap.objs.size (a₀ + (i : Nat) * 1) ((n : Int) - (i : Nat)) 1) := (Walks.range hh _ a₀ 1 n).bound
  refine grow_of (ty := "range_iterator") W (fun i h hi => ⟨_, hi, rfl⟩) (next_is_new F) (Nat.ne_of_lt F.ns.lt) (F.push _) (fun p hp => ⟨Heap.get?_push_of_some _ (N p hp).1, (N p hp).2⟩) (fun p hp => Nat.ne_of_lt (Heap.lt_size (N p hp).1))
    (by show IsRangeIter _ _ _ _ _; rw [hn]; simpa using Heap.get?_push_size _ rfl) J hJ ?_ ?_
  · rintro i v it m₁ nx h tk hc hi ⟨_, t, rfl⟩ hJ hoff F₁ N₁
    rw [Int.mul_one] at F₁
    exact turn _ i t it m₁ nx h tk hc hi hJ hoff F₁ N₁
  · exact done
theorem grow_str {y : PySem.Str} {ty : Tok} (J : Nat → (PySem.Str → Option Value) → List (Addr × Obj) → Prop)
    (hh : A.handled = none) (ha : y.cps.all (· < 128) = true) (F : Fr h₀ env.locals s.heap m₀) (N : News h₀ env.locals s.heap news) (hJ : J 0 m₀ news)
    (turn : ∀ I i c t it m₁ nx h tk, it.cls = .type "str_ascii_iterator" → i < y.cps.size → y.cps[i]? = some c → J i m₁ nx → (∀ p ∈ nx, p.1 ≠ I) → Fr h₀ env.locals h (fun z => if z = x then some (.str ⟨#[c]⟩ t) else m₁ z) → News h₀ env.locals h ((I, it) :: nx) →
      wpAny (model prog w) A (execs body env) (GPost h₀ env.locals (J (i + 1)) I it { s with heap := h, toks := tk } Q) E { s with heap := h, toks := tk })
    (done : ∀ m₁ nx h tk, J y.cps.size m₁ nx → Fr h₀ env.locals h m₁ → News h₀ env.locals h nx → Q .next { s with heap := h, toks := tk }) :
    wpAny (model prog w) A (pyIter (.str y ty)) (fun it s₂ => LoopAtV prog w A h₀ env x body Q E it s₂) E s := by
  refine wpAny_pyIter_ascii ha ?_
  refine grow_of (ty := "str_ascii_iterator") (Walks.strAscii hh _ y ty) (fun i h hi => ⟨_, hi.choose_spec.1, hi.choose_spec.2.1⟩) (next_is_new F) (Nat.ne_of_lt F.ns.lt) (F.push _) (fun p hp => ⟨Heap.get?_push_of_some _ (N p hp).1, (N p hp).2⟩) (fun p hp => Nat.ne_of_lt (Heap.lt_size (N p hp).1))
    ⟨_, Heap.get?_push_size _ rfl, rfl, rfl⟩ J hJ ?_ ?_
  · rintro i v it m₁ nx h tk hc hi ⟨c, t, hc', rfl⟩ hJ hoff F₁ N₁
    exact turn _ i c t it m₁ nx h tk hc hi hc' hJ hoff F₁ N₁
  · exact done
end

-- Wf1

/-- the sign at a place of tabs, blanks and a tail -/
theorem sign_tab {y : PySem.Str} {p q i c : Nat} {tail : List Nat} (hy : y.cps.toList = List.replicate p 9 ++ (List.replicate q 32 ++ tail)) (hi : i < p) (h : y.cps[i]? = some c) : c = 9 := by
  rw [← Array.getElem?_toList, hy, List.getElem?_append_left (by simpa using hi), List.getElem?_replicate, if_pos hi] at h
  exact (Option.some.inj h).symm
theorem sign_blank {y : PySem.Str} {p q i c : Nat} {tail : List Nat} (hy : y.cps.toList = List.replicate p 9 ++ (List.replicate q 32 ++ tail)) (h1 : p ≤ i) (h2 : i < p + q) (h : y.cps[i]? = some c) : c = 32 := by
  rw [← Array.getElem?_toList, hy, List.getElem?_append_right (by simpa using h1), List.length_replicate, List.getElem?_append_left (by simp; omega), List.getElem?_replicate, if_pos (by omega)] at h
  exact (Option.some.inj h).symm
theorem sign_tail {y : PySem.Str} {p q c : Nat} {tail : List Nat} (hy : y.cps.toList = List.replicate p 9 ++ (List.replicate q 32 ++ tail)) (ht : tail = [] ∨ tail = [120]) (h : y.cps[p + q]? = some c) : c = 120 := by
  rw [← Array.getElem?_toList, hy, List.getElem?_append_right (by simp), List.length_replicate, List.getElem?_append_right (by simp), List.length_replicate, show p + q - p - q = 0 by omega] at h
  rcases ht with rfl | rfl
  · cases h
  · exact (Option.some.inj h).symm
theorem size_of {y : PySem.Str} {p q : Nat} {tail : List Nat} (hy : y.cps.toList = List.replicate p 9 ++ (List.replicate q 32 ++ tail)) : y.cps.size = p + q + tail.length := by
  have := congrArg List.length hy
  simpa [Nat.add_assoc] using this
theorem ascii_of {y : PySem.Str} {p q : Nat} {tail : List Nat} (hy : y.cps.toList = List.replicate p 9 ++ (List.replicate q 32 ++ tail)) (ht : tail = [] ∨ tail = [120]) : y.cps.all (· < 128) = true := by
  rw [← Array.all_toList, hy, List.all_append, List.all_append]
  rcases ht with rfl | rfl <;> simp [List.all_replicate]
/-- the loop's frame -/
noncomputable abbrev wsMap (m₀ u : PySem.Str → Option Value) (D : Addr) (b n nt : Int) (tb tn tt : Tok) : PySem.Str → Option Value := fun z => if z = PySem.Str.ofString "ch" then u z else if z = PySem.Str.ofString "count" then some (.ref D) else if z = PySem.Str.ofString "b" then some (.int b tb) else if z = PySem.Str.ofString "n" then some (.int n tn) else if z = PySem.Str.ofString "nt" then some (.int nt tt) else m₀ z
theorem wsMap_eq {m₀ m : PySem.Str → Option Value} {D : Addr} {b n nt : Int} {tb tn tt : Tok} (h1 : m (PySem.Str.ofString "count") = some (.ref D)) (h2 : m (PySem.Str.ofString "b") = some (.int b tb)) (h3 : m (PySem.Str.ofString "n") = some (.int n tn)) (h4 : m (PySem.Str.ofString "nt") = some (.int nt tt))
    (hr : ∀ z, z ≠ PySem.Str.ofString "ch" → z ≠ PySem.Str.ofString "count" → z ≠ PySem.Str.ofString "b" → z ≠ PySem.Str.ofString "n" → z ≠ PySem.Str.ofString "nt" → m z = m₀ z) : m = wsMap m₀ m D b n nt tb tn tt := by
  funext z
  unfold wsMap
  by_cases e : z = PySem.Str.ofString "ch"
  · rw [if_pos e]
  rw [if_neg e]
  by_cases e1 : z = PySem.Str.ofString "count"
  · rw [if_pos e1, e1, h1]
  rw [if_neg e1]
  by_cases e2 : z = PySem.Str.ofString "b"
  · rw [if_pos e2, e2, h2]
  rw [if_neg e2]
  by_cases e3 : z = PySem.Str.ofString "n"
  · rw [if_pos e3, e3, h3]
  rw [if_neg e3]
  by_cases e4 : z = PySem.Str.ofString "nt"
  · rw [if_pos e4, e4, h4]
  rw [if_neg e4]
  exact hr z e e1 e2 e3 e4
/-- what holds between two turns of __init__'s loop -/
noncomputable def wsJ (p q : Nat) (x : Addr) (R : List (Addr × Obj)) (m₀ : PySem.Str → Option Value) (i : Nat) (m : PySem.Str → Option Value) (nx : List (Addr × Obj)) : Prop :=
  ∃ (D : Addr) (vs : List Value) (c : Nat) (tb tn tt : Tok) (u : PySem.Str → Option Value), i ≤ p + q ∧ @LT.lt Nat _ x D ∧ ((min i p = 0 ∧ vs = []) ∨ (0 < min i p ∧ ∃ tc, vs = [.int (min i p : Nat) tc])) ∧ nx = (D, W.listOf vs.toArray c) :: R ∧ m = wsMap m₀ u D (i - p : Nat) (i : Nat) (min i p : Nat) tb tn tt
theorem wsJ_intro {p q : Nat} {x D : Addr} {R : List (Addr × Obj)} {m₀ m : PySem.Str → Option Value} {i : Nat} {vs : List Value} {c : Nat} {b n nt : Int} {tb tn tt : Tok} (hi : i ≤ p + q) (hx : @LT.lt Nat _ x D) (hv : (min i p = 0 ∧ vs = []) ∨ (0 < min i p ∧ ∃ tc, vs = [.int (min i p : Nat) tc]))
    (h1 : m (PySem.Str.ofString "count") = some (.ref D)) (h2 : m (PySem.Str.ofString "b") = some (.int b tb)) (h3 : m (PySem.Str.ofString "n") = some (.int n tn)) (h4 : m (PySem.Str.ofString "nt") = some (.int nt tt)) (eb : b = (i - p : Nat)) (en : n = (i : Nat)) (et : nt = (min i p : Nat))
    (hr : ∀ z, z ≠ PySem.Str.ofString "ch" → z ≠ PySem.Str.ofString "count" → z ≠ PySem.Str.ofString "b" → z ≠ PySem.Str.ofString "n" → z ≠ PySem.Str.ofString "nt" → m z = m₀ z) : wsJ p q x R m₀ i m ((D, W.listOf vs.toArray c) :: R) := by
  subst eb en et
  exact ⟨D, vs, c, tb, tn, tt, m, hi, hx, hv, rfl, wsMap_eq h1 h2 h3 h4 hr⟩
theorem news_drop2 {h₀ h : Heap} {L : Addr} {a b : Addr × Obj} {r : List (Addr × Obj)} (N : News h₀ L h (a :: b :: r)) : News h₀ L h (a :: r) := fun p hp => N p (by
  rcases List.mem_cons.mp hp with rfl | hp
  · exact List.mem_cons_self ..
  · exact List.mem_cons_of_mem _ (List.mem_cons_of_mem _ hp))
theorem ws_end {h₀ h' : Heap} {L : Addr} {p q i : Nat} {x D I : Addr} {it : Obj} {R all : List (Addr × Obj)} {m₀ m' : PySem.Str → Option Value} {vs : List Value} {c : Nat} {b n nt : Int} {tb tn tt : Tok} {s₁ : Shared} {tk : Nat}
    (F : Fr h₀ L h' m') (N : News h₀ L h' all) (h1 : m' (PySem.Str.ofString "count") = some (.ref D)) (h2 : m' (PySem.Str.ofString "b") = some (.int b tb)) (h3 : m' (PySem.Str.ofString "n") = some (.int n tn)) (h4 : m' (PySem.Str.ofString "nt") = some (.int nt tt))
    (hI : (I, it) ∈ all) (hD : (D, W.listOf vs.toArray c) ∈ all) (hR : ∀ p ∈ R, p ∈ all) (offD : D ≠ I) (offR : ∀ p ∈ R, p.1 ≠ I) (hi : i + 1 ≤ p + q) (hx : @LT.lt Nat _ x D) (hv : (min (i + 1) p = 0 ∧ vs = []) ∨ (0 < min (i + 1) p ∧ ∃ tc, vs = [.int (min (i + 1) p : Nat) tc]))
    (eb : b = (i + 1 - p : Nat)) (en : n = (i + 1 : Nat)) (et : nt = (min (i + 1) p : Nat))
    (hr : ∀ z, z ≠ PySem.Str.ofString "ch" → z ≠ PySem.Str.ofString "count" → z ≠ PySem.Str.ofString "b" → z ≠ PySem.Str.ofString "n" → z ≠ PySem.Str.ofString "nt" → m' z = m₀ z) :
    GEnd h₀ L (wsJ p q x R m₀ (i + 1)) I it s₁ { s₁ with heap := h', toks := tk } :=
  gend_ rfl F N hI ((D, W.listOf vs.toArray c) :: R) (fun p hp => by rcases List.mem_cons.mp hp with rfl | hp; exact hD; exact hR p hp) (fun p hp => by rcases List.mem_cons.mp hp with rfl | hp; exact offD; exact offR p hp)
    (wsJ_intro hi hx hv h1 h2 h3 h4 eb en et hr)
theorem val_eq {a b : Int} {t : Tok} (h : a = b) : ∃ tc, [Value.int a t] = [Value.int b tc] := ⟨t, by rw [h]⟩
/-- behind a def that was entered with `own` alone in its hand: the caller's frame and all made objects -/
theorem back_ {h₀ h1 g : Heap} {L : Addr} {m : PySem.Str → Option Value} {own news : List (Addr × Obj)} (F1 : Fr h₀ L h1 m) (N1 : News h₀ L h1 (own ++ news)) (hd : ∀ p ∈ news, p.1 ∉ own.map (·.1)) (hg : g = hideAll h1 (own.map (·.1))) :
    ∀ (L' : Addr) (m' : PySem.Str → Option Value) (h' : Heap) (objs : List (Addr × Obj)), Fr g L' h' m' → News g L' h' objs → Fr h₀ L h' m ∧ News h₀ L h' (objs ++ news) := by
  intro L' m' h' objs F' N'
  subst hg
  have hL : ∀ o, h1.get? L = some o → (hideAll h1 (own.map (·.1))).get? L = some o := fun o e => hideAll_get _ e fun q => by
    obtain ⟨p, hp, e2⟩ := List.mem_map.mp q
    exact (N1 p (List.mem_append_left _ hp)).2.1 e2
  have h0 : ∀ b o, h₀.get? b = some o → (hideAll h1 (own.map (·.1))).get? b = some o := fun b o e => hideAll_get _ (F1.keep b o e) fun q => by
    obtain ⟨p, hp, rfl⟩ := List.mem_map.mp q
    rw [(N1 p (List.mem_append_left _ hp)).2.2] at e; cases e
  obtain ⟨⟨oL, es, ep, hLo, r⟩, k, ab⟩ := F1
  refine ⟨⟨⟨oL, es, ep, F'.keep _ _ (hL _ hLo), r⟩, fun b o e => F'.keep b o (h0 b o e), ab⟩, fun p hp => ?_⟩
  rcases List.mem_append.mp hp with hp | hp
  · refine ⟨(N' p hp).1, fun e => ?_, ?_⟩
    · have := (N' p hp).2.2
      rw [e, hL _ hLo] at this; cases this
    · cases q : h₀.get? p.1 with
      | none => rfl
      | some o => have := (N' p hp).2.2; rw [h0 _ _ q] at this; cases this
  · exact ⟨F'.keep _ _ (hideAll_get _ (N1 p (List.mem_append_right _ hp)).1 (hd p hp)), (N1 p (List.mem_append_right _ hp)).2⟩
/-- a Whitespace, as its ledger -/
noncomputable abbrev wsTup (vs : List Value) : Obj := { cls := .type "tuple", data := .seq vs.toArray }
structure WsToks where
  (t1 t2 t3 t4 t5 t6 t7 t8 t9 : Tok)
noncomputable abbrev wsObjs (C : Addr) (w : World) (x dx nm ct : Addr) (y : PySem.Str) (n nt b : Int) (cs : List Value) (T : WsToks) : List (Addr × Obj) :=
  [(x, instObj C dx), (dx, dictOf [⟨PyData.keyHash w.params (PySem.Str.ofString "raw"), .str (PySem.Str.ofString "raw") T.t1, .str y T.t2⟩, ⟨PyData.keyHash w.params (PySem.Str.ofString "n"), .str (PySem.Str.ofString "n") T.t3, .int n T.t4⟩, ⟨PyData.keyHash w.params (PySem.Str.ofString "nt"), .str (PySem.Str.ofString "nt") T.t5, .int nt T.t6⟩, ⟨PyData.keyHash w.params (PySem.Str.ofString "norm"), .str (PySem.Str.ofString "norm") T.t7, .ref nm⟩, ⟨PyData.keyHash w.params (PySem.Str.ofString "is_simple"), .str (PySem.Str.ofString "is_simple") T.t8, .bool true⟩] 5), (nm, wsTup [.ref ct, .int b T.t9]), (ct, wsTup cs)]
theorem ws_ret {h₀ g : Heap} {L : Addr} {m : PySem.Str → Option Value} {news : List (Addr × Obj)} (hback : ∀ (L' : Addr) (m' : PySem.Str → Option Value) (h' : Heap) (objs : List (Addr × Obj)), Fr g L' h' m' → News g L' h' objs → Fr h₀ L h' m ∧ News h₀ L h' (objs ++ news))
    {C : Addr} {w : World} {x dx nm ct L' : Addr} {y : PySem.Str} {n nt b : Int} {cs : List Value} {t1 t2 t3 t4 t5 t6 t7 t8 t9 : Tok} {m' : PySem.Str → Option Value} {h' : Heap} {all : List (Addr × Obj)} (F' : Fr g L' h' m') (N' : News g L' h' all)
    (hx : (x, instObj C dx) ∈ all) (hdx : (dx, dictOf [⟨PyData.keyHash w.params (PySem.Str.ofString "raw"), .str (PySem.Str.ofString "raw") t1, .str y t2⟩, ⟨PyData.keyHash w.params (PySem.Str.ofString "n"), .str (PySem.Str.ofString "n") t3, .int n t4⟩, ⟨PyData.keyHash w.params (PySem.Str.ofString "nt"), .str (PySem.Str.ofString "nt") t5, .int nt t6⟩, ⟨PyData.keyHash w.params (PySem.Str.ofString "norm"), .str (PySem.Str.ofString "norm") t7, .ref nm⟩, ⟨PyData.keyHash w.params (PySem.Str.ofString "is_simple"), .str (PySem.Str.ofString "is_simple") t8, .bool true⟩] 5) ∈ all)
    (hnm : (nm, wsTup [.ref ct, .int b t9]) ∈ all) (hct : (ct, wsTup cs) ∈ all) : Fr h₀ L h' m ∧ News h₀ L h' (wsObjs C w x dx nm ct y n nt b cs ⟨t1, t2, t3, t4, t5, t6, t7, t8, t9⟩ ++ news) :=
  hback L' m' h' _ F' fun p hp => N' p (by
    simp only [wsObjs, List.mem_cons, List.not_mem_nil, or_false] at hp
    rcases hp with rfl | rfl | rfl | rfl
    · exact hx
    · exact hdx
    · exact hnm
    · exact hct)
theorem stays_own {h₀ h h' g : Heap} {L L' : Addr} {own : List (Addr × Obj)} {m' : PySem.Str → Option Value} (N : News h₀ L h own) (hg : g = hideAll h (own.map (·.1))) (F' : Fr g L' h' m') (N' : News g L' h' own) : h.StaysIn h' := by
  subst hg
  intro b o e
  by_cases hb : b ∈ own.map (·.1)
  · obtain ⟨p, hp, rfl⟩ := List.mem_map.mp hb
    have h1 := (N p hp).1
    rw [e] at h1
    rw [Option.some.inj h1]
    exact (N' p hp).1
  · exact F'.keep _ _ (hideAll_get _ e hb)
theorem range_none {a b : Int} (h : b ≤ a) : Builtin.Range.rangeSize a b 1 = ((0 : Nat) : Int) := by
  unfold Builtin.Range.rangeSize
  rw [if_pos (by decide), if_neg (by omega)]; rfl
section
variable {prog : Program} {w : World} {A : Around} {E : Value → Shared → Prop} {s : Shared} {env : Env} {h₀ : Heap} {x : PySem.Str} {body : List Stmt} {Q : Flow → Shared → Prop} {m₀ : PySem.Str → Option Value} {news : List (Addr × Obj)}
/-- a loop over an empty range -/
theorem iter_none {r : Addr} {a b : Int} {t₀ u₀ v₀ : Tok} (hh : A.handled = none) (hr : IsRange s.heap r a b 1 t₀ u₀ v₀) (hab : b ≤ a) (h1 : -1000000 ≤ b) (h2 : a ≤ 1000000) (F : Fr h₀ env.locals s.heap m₀) (N : News h₀ env.locals s.heap news)
    (done : ∀ h tk, Fr h₀ env.locals h m₀ → News h₀ env.locals h news → Q .next { s with heap := h, toks := tk }) :
    wpAny (model prog w) A (pyIter (.ref r)) (fun it s₂ => LoopAtV prog w A h₀ env x body Q E it s₂) E s := by
  refine grow_range (n := 0) (fun _ m nx => m = m₀ ∧ nx = news) hh hr (small_one (by omega) (by omega) (by omega) (by omega)) (range_none hab) F N ⟨rfl, rfl⟩ ?_ ?_
  · intro I i _ _ _ _ _ _ _ hi
    exact absurd hi (Nat.not_lt_zero _)
  · rintro m₁ nx h tk ⟨rfl, rfl⟩ F N
    exact done h tk F N
end

-- Nf1

noncomputable def max3 (a b c : Int) : Int := if b > a then (if c > b then c else b) else (if c > a then c else a)
noncomputable def absI (x : Int) : Int := if x < 0 then -x else x
-- Nj1

section
variable {prog : Program} {w : World} {A : Around} {E : Value → Shared → Prop} {s : Shared} {env : Env} {h₀ : Heap} {x : PySem.Str} {body : List Stmt} {Q : Flow → Shared → Prop} {m₀ : PySem.Str → Option Value} {news : List (Addr × Obj)}
end
-- Pl2

theorem hideG {P : Prop} (h : ∀ X : Prop, (P → X) → X) : P := h P id
/-- a lead: tabs, then blanks -/
noncomputable def leadL (t b : Nat) : List Nat := List.replicate t 9 ++ List.replicate b 32
noncomputable def leadS (t b : Nat) : PySem.Str := ⟨(leadL t b).toArray⟩
noncomputable def dueM (t b i j : Nat) : Nat := 2 * dueN t b i j
noncomputable def way0 (t b i j : Nat) : Bool := Nat.ble t i && Nat.ble b j
noncomputable def way1 (t b i j : Nat) : Bool := (Nat.ble (t + b) (i + j) && Nat.ble t i) && Nat.ble j b
noncomputable def way2 (t b i j : Nat) : Bool := way1 j i b t
noncomputable def strB (t b i j k l : Nat) : Bool :=
  ((way0 t b i j && way0 i j k l) || (way0 k l i j && way0 i j t b)) || (((way1 t b i j && way1 i j k l) || (way1 k l i j && way1 i j t b)) || ((way2 t b i j && way2 i j k l) || (way2 k l i j && way2 i j t b)))
noncomputable def triOk (t b i j k l : Nat) : Bool := Nat.beq (dueN t b i j + dueN i j k l) (dueN t b k l) == strB t b i j k l
theorem tri_all : ∀ t < 5, ∀ b < 5, ∀ i < 5, ∀ j < 5, ∀ k < 5, ∀ l < 5, triOk t b i j k l = true := by decide +kernel
theorem outer_mono {A B : PySem.Str} {mc mc' : Int} (hm : mc ≤ mc') : ∀ (js : List Int) (res : Int) (row : List Int), outer A B mc js res row ≤ mc → outer A B mc' js res row = outer A B mc js res row
  | [], _, _, _ => rfl
  | j :: js, res, row, h => by
    unfold outer at h ⊢
    dsimp only at h ⊢
    by_cases h1 : (inner A (Txt.item B j) j row).2.2.1 > mc
    · rw [if_pos h1] at h; omega
    · rw [if_neg h1] at h ⊢
      rw [if_neg (by omega)]
      exact outer_mono hm js _ _ h
theorem tail_mono {A B : PySem.Str} {mc mc' : Int} (hm : mc ≤ mc') (h : levTail A B mc ≤ mc) : levTail A B mc' = levTail A B mc := by
  unfold levTail at h ⊢
  by_cases e : ((B.length : Int) - A.length) * 2 > mc
  · rw [if_pos e] at h; omega
  · rw [if_neg e] at h ⊢
    rw [if_neg (by omega)]
    exact outer_mono hm _ _ _ h
theorem lev_mono {a b : PySem.Str} {mc mc' : Int} (hm : mc ≤ mc') (h : levF a b mc ≤ mc) : levF a b mc' = levF a b mc := by
  unfold levF at h ⊢
  by_cases e : a = b
  · rw [if_pos e, if_pos e]
  · rw [if_neg e] at h ⊢
    rw [if_neg e]
    dsimp only at h ⊢
    generalize cutBack (Txt.slice a (some (cplS a b : Int)) none) (cslS (Txt.slice a (some (cplS a b : Int)) none) (Txt.slice b (some (cplS a b : Int)) none)) = A2 at h ⊢
    generalize cutBack (Txt.slice b (some (cplS a b : Int)) none) (cslS (Txt.slice a (some (cplS a b : Int)) none) (Txt.slice b (some (cplS a b : Int)) none)) = B2 at h ⊢
    by_cases e2 : A2.length = 0 ∨ B2.length = 0
    · rw [if_pos e2, if_pos e2]
    · rw [if_neg e2] at h ⊢
      rw [if_neg e2]
      exact tail_mono hm h
theorem lev2_all : ∀ t < 5, ∀ b < 5, ∀ i < 5, ∀ j < 5, levF (leadS t b) (leadS i j) (dueM t b i j : Nat) = (dueM t b i j : Nat) := by decide +kernel
theorem lev_lead {t b i j : Nat} {mc : Int} (ht : t < 5) (hb : b < 5) (hi : i < 5) (hj : j < 5) (hm : (dueM t b i j : Nat) ≤ mc) : levF (leadS t b) (leadS i j) mc = (dueM t b i j : Nat) := by
  have h := lev2_all t ht b hb i hi j hj
  rw [lev_mono hm (by omega), h]
theorem ell_w0 : ∀ t < 5, ∀ b < 5, ∀ i < 5, ∀ j < 5, ellL (List.replicate t 9) (List.replicate b 32) (leadL i j) = way0 t b i j := by decide +kernel
theorem ell_w1 : ∀ b < 5, ∀ i < 5, ∀ j < 5, ellL [] (List.replicate b 32) (leadL i j) = Nat.ble b j := by decide +kernel

-- sub_body

theorem sub_claim (w : World) (a b : PySem.Str) (ta tb : Tok) (ha : a.length ≤ 100) (hb : b.length ≤ 100) : Cl 1 101 w (fun _ => True) [.str a ta, .str b tb] (OInt (subF a b)) := by
  w_on
  (( unfold Cl PCl; intro meanZ mgZ mbZ dpZ unZ gdZ cnZ csZ aZ ccdZ clZ outerZ AZ baseZ hZ0 LZ mZ sZ QZ EZ BZ FZ XZ TZ hkZ hdZ huZ hHZ hretZ; k_dflt (refine' enter_pure ?k1Z9 ?k2Z9 ?k3Z9 ?k5Z9 ?kAZ9 ?kFZ9 ?kKZ9 ?k6Z9 ?k7Z9 ?k8Z9 ?k9Z9 ?kBZ9 ?_ ?c2Z9 ?c3Z9 ?c4Z9 ?c5Z9; (case kAZ9 => exact rfl); (case kFZ9 => exact rfl); (case kKZ9 => assumption); (case k1Z9 => k_asm); (case k2Z9 => k_asm); (case k3Z9 => k_asm); (case k5Z9 => k_asm); (case k6Z9 => k_is); (case k7Z9 => k_is); (case k8Z9 => ktr_room); (case k9Z9 => exact BindsTo.of_eq rfl); (case c5Z9 => decide); (case kBZ9 => exact locs rfl); (case c2Z9 => exact rfl); (case c3Z9 => exact rfl); (case c4Z9 => exact rfl); k_whole; intro gY LY hY hgY FY NY BY XY TY; (try dsimp only); (try k_lift BY); (try k_fold))))
  (repeat' (first | ((k_here; (with_reducible show wpAny _ _ (call (Value.builtin "str.lower") [Value.str _ _]) _ _ _); (refine SCL.lower (by omega) ?_); intro _)) | ((k_here; (with_reducible show wpAny _ _ (call (Value.type _) [Value.ref _]) _ _ _); (rename IsRange _ _ _ _ _ _ _ _ => rgX); (with_unfolding_all refine' list_step ?k0Z9 ?k1Z9 ?k2Z9 ?k3Z9 ?k4Z9 ?k5Z9 ?k6Z9 ?_; (case k0Z9 => rfl); (case k1Z9 => k_asm); (case k2Z9 => k_asm); (case k3Z9 => exact rgX); (case k4Z9 => exact small_two (by omega) (by omega)); (case k5Z9 => exact range_two (by omega)); (case k6Z9 => omega)); intro _ _ _ _ _ _ _ l1 _; (try k_lt l1))) | ((k_here; (with_reducible show wpAny _ _ (subscriptTail _ (Expr.Slice none (some _) none _) _ _) _ _ _); (with_reducible rename Fr _ _ _ _ => F'); (with_reducible rename News _ _ _ _ => N'); (refine slice_none (s := ⟨_, _, _, _, _⟩) F' N' ?_ (hsz := ?hszZ9)); (case hszZ9 => (rw [sizeLine_eq]; omega)); intro _ _ _ _ _)) | ((k_here; k_openite; first | (refine ite_pos ?hxZ9 ?_; (case hxZ9 => first | with_reducible assumption | (simp only [decide_eq_true_eq, decide_eq_false_iff_not, Bool.not_eq_true', Bool.not_eq_false', bne_iff_ne, ne_eq]; omega))) | (refine ite_neg ?hxZ9 ?_; (case hxZ9 => first | with_reducible assumption | (simp only [decide_eq_true_eq, decide_eq_false_iff_not, Bool.not_eq_true', Bool.not_eq_false', bne_iff_ne, ne_eq, Bool.not_eq_true, Decidable.not_not]; omega))) | (refine ite_b (fun hc => ?_) (fun hc => ?_) <;> (try simp only [decide_eq_true_eq, decide_eq_false_iff_not, Bool.not_eq_true', Bool.not_eq_false', bne_iff_ne, ne_eq, bne_eq_false_iff_eq, Decidable.not_not, Int.not_lt, Int.not_le] at hc)))) | (fail_if_success (with_reducible show wpAny _ _ (exec (Stmt.While _ _ _ _) _) _ _ _)); (fail_if_success (with_reducible show wpAny _ _ (exec (Stmt.For _ _ _ _ _) _) _ _ _)); (fail_if_success (with_reducible show wpAny _ _ (pyIter _) _ _ _)); (fail_if_success (with_reducible show InvEndN _ _ _ _ _ _ _)); (fail_if_success (with_reducible show GEnd _ _ _ _ _ _ _)); (fail_if_success (with_reducible show GPost _ _ _ _ _ _ _ _ _)); first | (k_unfold; (try dsimp only)) | walk1 | (dsimp only; walk1) | (leave1; try dsimp only) | fail "no step"))
  all_goals ((( (rename (∀ (v : Value) (h' : Heap) (tk' : Nat), Heap.StaysIn _ h' → _ → _) => hret9); (rename (_ = Shared.heap _) => hg9); refine' ret_ hret9 hg9 ?kFZ9 ?keZ9 ?_; (case kFZ9 => assumption); (case keZ9 => exact rfl); (try dsimp only))); refine oInt ?_; unfold subF; simp_all)

-- ell_body

theorem ell_f1 {P S got : PySem.Str} (h : Txt.startswith got P = false) : false = ellF P S got := by unfold ellF; rw [h]; rfl
theorem ell_f2 {P S got : PySem.Str} (h : Txt.endswith got S = false) : false = ellF P S got := by unfold ellF; rw [h]; simp
theorem ell_f3 {P S got : PySem.Str} (h : ¬ P.length + S.length ≤ got.length) : false = ellF P S got := by unfold ellF; simp [h]
theorem ell_t {P S got : PySem.Str} (h1 : Txt.startswith got P = true) (h2 : Txt.endswith got S = true) (h : P.length + S.length ≤ got.length) : true = ellF P S got := by unfold ellF; rw [h1, h2]; simp [h]

theorem ell_claim (w : World) (want P S got : PySem.Str) (tw tg : Tok)
    (hw : want.length ≤ 100) (hP : P.length ≤ 100) (hS : S.length ≤ 100) (hg : got.length ≤ 100) (hocc : (Builtin.Str.occurrences want dots 0 want.length 1).isEmpty = false) (hspl : Txt.split want dots = [P, S]) :
    Cl 1 94 w (fun _ => True) [.str want tw, .str got tg] (OBool (ellF P S got)) := by
  w_on
  (( unfold Cl PCl; intro meanZ mgZ mbZ dpZ unZ gdZ cnZ csZ aZ ccdZ clZ outerZ AZ baseZ hZ0 LZ mZ sZ QZ EZ BZ FZ XZ TZ hkZ hdZ huZ hHZ hretZ; k_dflt (refine' enter_pure ?k1Z9 ?k2Z9 ?k3Z9 ?k5Z9 ?kAZ9 ?kFZ9 ?kKZ9 ?k6Z9 ?k7Z9 ?k8Z9 ?k9Z9 ?kBZ9 ?_ ?c2Z9 ?c3Z9 ?c4Z9 ?c5Z9; (case kAZ9 => exact rfl); (case kFZ9 => exact rfl); (case kKZ9 => assumption); (case k1Z9 => k_asm); (case k2Z9 => k_asm); (case k3Z9 => k_asm); (case k5Z9 => k_asm); (case k6Z9 => k_is); (case k7Z9 => k_is); (case k8Z9 => ktr_room); (case k9Z9 => exact BindsTo.of_eq rfl); (case c5Z9 => decide); (case kBZ9 => exact locs rfl); (case c2Z9 => exact rfl); (case c3Z9 => exact rfl); (case c4Z9 => exact rfl); k_whole; intro gY LY hY hgY FY NY BY XY TY; (try dsimp only); (try k_lift BY); (try k_fold))))
  (repeat' (first | ((k_here; (with_reducible show wpAny _ _ (pyIter (Value.ref _)) (fun it s₂ => LoopAtV _ _ _ _ _ _ _ _ _ it s₂) _ _); k_listUnr)) | ((k_here; (with_reducible show wpAny _ _ (call (Value.builtin "str.find") _) _ _ _); (refine' find4_empty ?k1Z9 ?k2Z9 ?k3Z9 ?k4Z9 ?_; (case k1Z9 => omega); (case k2Z9 => omega); (case k3Z9 => omega); (case k4Z9 => omega)))) | ((k_here; (with_reducible show wpAny _ _ (call (Value.builtin "str.split") _) _ _ _); (with_reducible rename (Txt.split _ _ = [_, _]) => hspl9); (refine KSpl.split1 (by k_asm) (by k_asm) (by decide) ?_ (by rw [sizeLine_eq]; omega)); (intro D' l' h' k' e' a' F' N' l1); (try k_lt l1); (rw [hspl9] at e'); (kspl_open e'); (simp only [strValues, List.map_cons, List.map_nil] at N' a'))) | ((k_here; (with_reducible show wpAny _ _ (call (Value.type _) [Value.ref _]) _ _ _); (rename IsRange _ _ _ _ _ _ _ _ => rgX); (with_unfolding_all refine' list_step ?k0Z9 ?k1Z9 ?k2Z9 ?k3Z9 ?k4Z9 ?k5Z9 ?k6Z9 ?_; (case k0Z9 => rfl); (case k1Z9 => k_asm); (case k2Z9 => k_asm); (case k3Z9 => exact rgX); (case k4Z9 => exact small_two (by omega) (by omega)); (case k5Z9 => exact range_two (by omega)); (case k6Z9 => omega)); intro _ _ _ _ _ _ _ l1 _; (try k_lt l1))) | ((k_here; (with_reducible show wpAny _ _ (subscriptTail _ (Expr.Slice none (some _) none _) _ _) _ _ _); (with_reducible rename Fr _ _ _ _ => F'); (with_reducible rename News _ _ _ _ => N'); (refine slice_none (s := ⟨_, _, _, _, _⟩) F' N' ?_ (hsz := ?hszZ9)); (case hszZ9 => (rw [sizeLine_eq]; omega)); intro _ _ _ _ _)) | ((k_here; k_openite; first | (refine ite_pos ?hxZ9 ?_; (case hxZ9 => first | with_reducible assumption | (simp only [decide_eq_true_eq, decide_eq_false_iff_not, Bool.not_eq_true', Bool.not_eq_false', bne_iff_ne, ne_eq]; omega))) | (refine ite_neg ?hxZ9 ?_; (case hxZ9 => first | with_reducible assumption | (simp only [decide_eq_true_eq, decide_eq_false_iff_not, Bool.not_eq_true', Bool.not_eq_false', bne_iff_ne, ne_eq, Bool.not_eq_true, Decidable.not_not]; omega))) | (refine ite_b (fun hc => ?_) (fun hc => ?_) <;> (try simp only [decide_eq_true_eq, decide_eq_false_iff_not, Bool.not_eq_true', Bool.not_eq_false', bne_iff_ne, ne_eq, bne_eq_false_iff_eq, Decidable.not_not, Int.not_lt, Int.not_le] at hc)))) | (k_unfold; (try dsimp only)) | (k_end; wrow_close) | walk1 | (dsimp only; walk1) | (leave1; walk_say "STEP leave1"; try dsimp only) | fail "no step"))
  all_goals (try k_data)
  all_goals ((( (rename (∀ (v : Value) (h' : Heap) (tk' : Nat), Heap.StaysIn _ h' → _ → _) => hret9); (rename (_ = Shared.heap _) => hg9); refine' ret_ hret9 hg9 ?kFZ9 ?keZ9 ?_; (case kFZ9 => assumption); (case keZ9 => exact rfl); (try dsimp only))); refine oBool ?_)
  all_goals (first
    | exact ell_f1 (by assumption)
    | exact ell_f2 (by assumption)
    | exact ell_t (by first | assumption | exact starts_empty (by omega)) (by first | assumption | exact ends_empty (by omega)) (by omega)
    | exact ell_f3 (by omega))

-- levend_body
noncomputable abbrev InSt := (Int × Tok) × (Int × Tok) × (Int × Tok) × (List Value × List Int × Nat)
noncomputable abbrev inLed (D : Addr) (own : List (Addr × Obj)) (q : InSt) : List (Addr × Obj) := [(D, W.listOf q.2.2.2.1.toArray q.2.2.2.2.2)] ++ own
noncomputable abbrev inPs (q : InSt) : List (PySem.Str × Value) := [(PySem.Str.ofString "distance", .int q.1.1 q.1.2), (PySem.Str.ofString "result", .int q.2.1.1 q.2.1.2), (PySem.Str.ofString "minimum", .int q.2.2.1.1 q.2.2.1.2)]
noncomputable abbrev inFa (q : InSt) : Prop := IntsAre q.2.2.2.1 q.2.2.2.2.1
noncomputable abbrev inStored : List PySem.Str := [PySem.Str.ofString "substitute", PySem.Str.ofString "insert_delete"]
noncomputable abbrev inP (A bc : PySem.Str) (k : Int) (row1 : List Int) (pre : List Int) (q : InSt) : Prop := (q.1.1, q.2.1.1, q.2.2.1.1, q.2.2.2.2.1) = pre.foldl (inStep A bc) (k * 2, k * 2, 9223372036854775807, row1)
theorem inner_end {h₀ h' : Heap} {L D : Addr} {own own2 rest : List (Addr × Obj)} {m₀ m' : PySem.Str → Option Value} {A bc : PySem.Str} {k : Int} {row1 row' pre : List Int} {us' : List Value} {c2 : Nat} {d' r' mn' i : Int} {td tr tm : Tok} {s₁ : Shared} {tk : Nat}
    (F : Fr h₀ L h' m') (N : News h₀ L h' ((D, W.listOf us'.toArray c2) :: rest)) (hrest : own ++ own2 = rest) (hI : IntsAre us' row') (kd : m' (PySem.Str.ofString "distance") = some (.int d' td)) (kr : m' (PySem.Str.ofString "result") = some (.int r' tr)) (km : m' (PySem.Str.ofString "minimum") = some (.int mn' tm))
    (hr : ∀ z, z ≠ PySem.Str.ofString "index" → z ≠ PySem.Str.ofString "distance" → z ≠ PySem.Str.ofString "result" → z ≠ PySem.Str.ofString "minimum" → z ≠ PySem.Str.ofString "substitute" → z ≠ PySem.Str.ofString "insert_delete" → m' z = m₀ z) (hp : (d', r', mn', row') = (pre ++ [i]).foldl (inStep A bc) (k * 2, k * 2, 9223372036854775807, row1)) :
    InvEndN h₀ L (KstS (inLed D own) inPs inFa (PySem.Str.ofString "index") inStored m₀ (inP A bc k row1) (pre ++ [i])) own2 (D :: own.map (·.1)) s₁ { s₁ with heap := h', toks := tk } := by
  subst hrest
  refine kst_end ((d', td), (r', tr), (mn', tm), (us', row', c2)) F N (fun p hp => ?_) (fun p hp => ?_) rfl hI (fun p hp => ?_) (fun z h1 h2 h3 => ?_) hp
  · simp only [List.cons_append, List.nil_append, List.mem_cons, List.mem_append] at hp ⊢
    rcases hp with hp | hp
    · exact .inl hp
    · exact .inr (.inl hp)
  · exact List.mem_cons_of_mem _ (List.mem_append_right _ hp)
  · simp only [List.mem_cons, List.not_mem_nil, or_false] at hp
    rcases hp with rfl | rfl | rfl
    · exact kd
    · exact kr
    · exact km
  · simp only [List.contains_cons, List.contains_nil, Bool.or_false, Bool.or_eq_false_iff, beq_eq_false_iff_ne] at h3
    exact hr z h1 (h2 _ (List.mem_cons_self ..)) (h2 _ (List.mem_cons_of_mem _ (List.mem_cons_self ..))) (h2 _ (List.mem_cons_of_mem _ (List.mem_cons_of_mem _ (List.mem_cons_self ..)))) h3.1 h3.2
noncomputable abbrev OutSt := (Int × Tok) × (List Value × List Int × Nat)
noncomputable abbrev outLed (D : Addr) (q : OutSt) : List (Addr × Obj) := [(D, W.listOf q.2.1.toArray q.2.2.2)]
noncomputable abbrev outPs (q : OutSt) : List (PySem.Str × Value) := [(PySem.Str.ofString "result", .int q.1.1 q.1.2)]
noncomputable abbrev outFa (q : OutSt) : Prop := IntsAre q.2.1 q.2.2.1
noncomputable abbrev outStored : List PySem.Str := [PySem.Str.ofString "bchar", PySem.Str.ofString "distance", PySem.Str.ofString "minimum", PySem.Str.ofString "index", PySem.Str.ofString "substitute", PySem.Str.ofString "insert_delete"]
noncomputable abbrev outP (A B : PySem.Str) (mc : Int) (pre : List Int) (q : OutSt) : Prop := outer A B mc (rangeKs 0 B.length) 0 (rangeInts 2 2 A.length) = outer A B mc ((rangeKs 0 B.length).drop pre.length) q.1.1 q.2.2.1 ∧ q.2.2.1.length = A.length
theorem drop_range {N n : Nat} {k : Int} (hk : k = 0 + (n : Int)) (hn : n < N) : (rangeKs 0 N).drop n = k :: (rangeKs 0 N).drop (n + 1) := by
  have hlt : n < (rangeKs 0 N).length := by rw [rangeKs_length]; exact hn
  rw [List.drop_eq_getElem_cons hlt]
  congr 1
  subst hk
  simp [rangeKs]
section
variable {A B : PySem.Str} {mc d r mn res k : Int} {n : Nat} {row row2 : List Int} {X : Int}
theorem outer_ret (hP : X = outer A B mc ((rangeKs 0 B.length).drop n) res row) (hk : k = 0 + (n : Int)) (hn : n < B.length) (hin : (d, r, mn, row2) = inner A (Txt.item B k) k row) (h : mc < mn) : mc + 1 = X := by
  rw [hP, drop_range hk hn, outer, ← hin]
  exact (if_pos h).symm
theorem outer_next (hP : X = outer A B mc ((rangeKs 0 B.length).drop n) res row) (hk : k = 0 + (n : Int)) (hn : n < B.length) (hin : (d, r, mn, row2) = inner A (Txt.item B k) k row) (h : mn ≤ mc) : X = outer A B mc ((rangeKs 0 B.length).drop (n + 1)) r row2 := by
  rw [hP, drop_range hk hn, outer, ← hin]
  exact if_neg (Int.not_lt.mpr h)
theorem outer_done (hP : X = outer A B mc ((rangeKs 0 B.length).drop (rangeKs 0 B.length).length) res row) : res = X := by
  rw [hP, List.drop_length]; rfl
end
theorem outer_end {h₀ h' : Heap} {L D : Addr} {own : List (Addr × Obj)} {m₀ m' : PySem.Str → Option Value} {A B : PySem.Str} {k mc d r mn res : Int} {row row2 pre : List Int} {us2 : List Value} {c2 : Nat} {tr : Tok} {s₁ : Shared} {tk : Nat}
    (F : Fr h₀ L h' m') (N : News h₀ L h' ([(D, W.listOf us2.toArray c2)] ++ own)) (hI : IntsAre us2 row2) (kr : m' (PySem.Str.ofString "result") = some (.int r tr))
    (hr : ∀ z, z ≠ PySem.Str.ofString "bindex" → z ≠ PySem.Str.ofString "result" → z ≠ PySem.Str.ofString "bchar" → z ≠ PySem.Str.ofString "distance" → z ≠ PySem.Str.ofString "minimum" → z ≠ PySem.Str.ofString "index" → z ≠ PySem.Str.ofString "substitute" → z ≠ PySem.Str.ofString "insert_delete" → m' z = m₀ z)
    (hP : outer A B mc (rangeKs 0 B.length) 0 (rangeInts 2 2 A.length) = outer A B mc ((rangeKs 0 B.length).drop pre.length) res row) (hl : row.length = A.length) (hk : k = 0 + (pre.length : Int)) (hn : pre.length < B.length) (hin : (d, r, mn, row2) = inner A (Txt.item B k) k row) (h : mn ≤ mc) :
    InvEndN h₀ L (KstS (outLed D) outPs outFa (PySem.Str.ofString "bindex") outStored m₀ (outP A B mc) (pre ++ [k])) own ([D]) s₁ { s₁ with heap := h', toks := tk } := by
  refine kst_end ((r, tr), (us2, row2, c2)) F N (fun p hp => ?_) (fun p hp => ?_) rfl hI (fun p hp => ?_) (fun z h1 h2 h3 => ?_) ⟨?_, ?_⟩
  · exact List.mem_append_left _ hp
  · exact List.mem_append_right _ hp
  · rw [List.mem_singleton.mp hp]; exact kr
  · simp only [List.contains_cons, List.contains_nil, Bool.or_false, Bool.or_eq_false_iff, beq_eq_false_iff_ne] at h3
    exact hr z h1 (h2 _ (List.mem_cons_self ..)) h3.1 h3.2.1 h3.2.2.1 h3.2.2.2.1 h3.2.2.2.2.1 h3.2.2.2.2.2
  · rw [List.length_append, List.length_singleton]
    exact outer_next hP hk hn hin h
  · have h1 := congrArg (fun x : Int × Int × Int × List Int => x.2.2.2.length) hin
    dsimp only at h1
    rw [inner_row] at h1
    exact h1.trans hl
theorem pO {G : OutSt → Prop} (k : ∀ a b c d e, G ((a, b), c, d, e)) : ∀ q, G q := fun ((a, b), c, d, e) => k a b c d e
theorem pI {G : InSt → Prop} (k : ∀ a b c d e f g h i, G ((a, b), (c, d), (e, f), g, h, i)) : ∀ q, G q := fun ((a, b), (c, d), (e, f), g, h, i) => k a b c d e f g h i

-- lev_mac

-- lev_body
set_option maxHeartbeats 3000000 in
theorem lev_claim (w : World) (a b : PySem.Str) (mc : Int) (ta tb tc : Tok) (ha : a.length ≤ 40) (hb : b.length ≤ 40) (hm : 0 ≤ mc ∧ mc ≤ 1000) :
    Cl 2 108 w (fun _ => True) [.str a ta, .str b tb, .int mc tc] (OInt (levF a b mc)) := by
  w_on
  (( unfold Cl PCl; intro meanZ mgZ mbZ dpZ unZ gdZ cnZ csZ aZ ccdZ clZ outerZ AZ baseZ hZ0 LZ mZ sZ QZ EZ BZ FZ XZ TZ hkZ hdZ huZ hHZ hretZ; k_dflt (refine' enter_pure ?k1Z9 ?k2Z9 ?k3Z9 ?k5Z9 ?kAZ9 ?kFZ9 ?kKZ9 ?k6Z9 ?k7Z9 ?k8Z9 ?k9Z9 ?kBZ9 ?_ ?c2Z9 ?c3Z9 ?c4Z9 ?c5Z9; (case kAZ9 => exact rfl); (case kFZ9 => exact rfl); (case kKZ9 => assumption); (case k1Z9 => k_asm); (case k2Z9 => k_asm); (case k3Z9 => k_asm); (case k5Z9 => k_asm); (case k6Z9 => k_is); (case k7Z9 => k_is); (case k8Z9 => ktr_room); (case k9Z9 => exact BindsTo.of_eq rfl); (case c5Z9 => decide); (case kBZ9 => exact locs rfl); (case c2Z9 => exact rfl); (case c3Z9 => exact rfl); (case c4Z9 => exact rfl); k_whole; intro gY LY hY hgY FY NY BY XY TY; (try dsimp only); (try k_lift BY); (try k_fold))))
  (repeat' (first | ((k_here; (with_reducible show wpAny _ _ (setItem (Value.ref _) (Value.int _ _) (Value.int _ _)) _ _ _); k_dflt (refine' ksa_set ?k1Z9 ?k2Z9 (Upd.head ?k3Z9) ?k4Z9 ?k5Z9 ?k6Z9 ?k7Z9 ?_; (case k1Z9 => k_asm); (case k2Z9 => k_asm); (case k3Z9 => assumption); (case k4Z9 => assumption); (case k5Z9 => omega); (case k6Z9 => omega); (case k7Z9 => omega)); intro h' F' N' hi' hl' hs')) | (((with_reducible show wpAny _ _ (call (Value.ref _) [Value.str _ _, Value.str _ _]) _ _ _); ((k_here; (rename Fr _ _ _ _ => lF'); (rename News _ _ _ _ => lN'); k_dflt (refine' use_cl (sub_claim _ _ _ _ _ (by omega) (by omega)) ?k1Z9 lF' ?k3Z9 lN' ?k5Z9 ?kKZ9 ?kdZ9 ?kuZ9 ?kHZ9 ?_); (case k1Z9 => k_asm); (case k3Z9 => k_asm); (case k5Z9 => k_asm); (case kKZ9 => first | exact rfl | assumption); (case kdZ9 => ktr_room); (case kuZ9 => ktr_units); (case kHZ9 => trivial); clear lF' lN')); intro v9 h9 tk9 F9 N9 st9 o9; obtain ⟨t9, e9⟩ := o9; subst e9; (try dsimp only); (try k_fold))) | ((k_here; (with_reducible show wpAny _ _ (call (Value.type _) [Value.ref _]) _ _ _); (rename IsRange _ _ _ _ _ _ _ _ => rgX); (with_unfolding_all refine' list_step ?k0Z9 ?k1Z9 ?k2Z9 ?k3Z9 ?k4Z9 ?k5Z9 ?k6Z9 ?_; (case k0Z9 => rfl); (case k1Z9 => k_asm); (case k2Z9 => k_asm); (case k3Z9 => exact rgX); (case k4Z9 => exact small_two (by omega) (by omega)); (case k5Z9 => exact range_two (by omega)); (case k6Z9 => omega)); intro _ _ _ _ _ _ _ l1 _; (try k_lt l1))) | ((k_here; (with_reducible show wpAny _ _ (subscriptTail _ (Expr.Slice none (some _) none _) _ _) _ _ _); (with_reducible rename Fr _ _ _ _ => F'); (with_reducible rename News _ _ _ _ => N'); (refine slice_none (s := ⟨_, _, _, _, _⟩) F' N' ?_ (hsz := ?hszZ9)); (case hszZ9 => (rw [sizeLine_eq]; omega)); intro _ _ _ _ _)) | ((k_here; k_openite; first | (refine ite_pos ?hxZ9 ?_; (case hxZ9 => first | with_reducible assumption | (simp only [decide_eq_true_eq, decide_eq_false_iff_not, Bool.not_eq_true', Bool.not_eq_false', bne_iff_ne, ne_eq]; omega))) | (refine ite_neg ?hxZ9 ?_; (case hxZ9 => first | with_reducible assumption | (simp only [decide_eq_true_eq, decide_eq_false_iff_not, Bool.not_eq_true', Bool.not_eq_false', bne_iff_ne, ne_eq, Bool.not_eq_true, Decidable.not_not]; omega))) | (refine ite_b (fun hc => ?_) (fun hc => ?_) <;> (try simp only [decide_eq_true_eq, decide_eq_false_iff_not, Bool.not_eq_true', Bool.not_eq_false', bne_iff_ne, ne_eq, bne_eq_false_iff_eq, Decidable.not_not, Int.not_lt, Int.not_le] at hc)))) | (fail_if_success (with_reducible show wpAny _ _ (exec (Stmt.While _ _ _ _) _) _ _ _)); (fail_if_success (with_reducible show wpAny _ _ (exec (Stmt.For _ _ _ _ _) _) _ _ _)); (fail_if_success (with_reducible show wpAny _ _ (pyIter _) _ _ _)); (fail_if_success (with_reducible show InvEndN _ _ _ _ _ _ _)); (fail_if_success (with_reducible show GEnd _ _ _ _ _ _ _)); (fail_if_success (with_reducible show GPost _ _ _ _ _ _ _ _ _)); first | (k_unfold; (try dsimp only)) | walk1 | (dsimp only; walk1) | (leave1; try dsimp only) | fail "no step"))
  · (( (rename (∀ (v : Value) (h' : Heap) (tk' : Nat), Heap.StaysIn _ h' → _ → _) => hret9); (rename (_ = Shared.heap _) => hg9); refine' ret_ hret9 hg9 ?kFZ9 ?keZ9 ?_; (case kFZ9 => assumption); (case keZ9 => exact rfl); (try dsimp only)))
    exact oInt (lev_same (by assumption))
  (rename Fr _ _ _ _ => F1; k_dflt (refine' while_count (PySem.Str.ofString "pre") (fun n => (n : Int)) (cplS a b) rfl F1 .nil ?hy ?_ ?_ ?_); (case hy => exact rfl); clear F1)
  · intro n t h tk hn F2 N2
    (try k_fold)
    (repeat' (first | ((k_here; (with_reducible show wpAny _ _ (setItem (Value.ref _) (Value.int _ _) (Value.int _ _)) _ _ _); k_dflt (refine' ksa_set ?k1Z9 ?k2Z9 (Upd.head ?k3Z9) ?k4Z9 ?k5Z9 ?k6Z9 ?k7Z9 ?_; (case k1Z9 => k_asm); (case k2Z9 => k_asm); (case k3Z9 => assumption); (case k4Z9 => assumption); (case k5Z9 => omega); (case k6Z9 => omega); (case k7Z9 => omega)); intro h' F' N' hi' hl' hs')) | (((with_reducible show wpAny _ _ (call (Value.ref _) [Value.str _ _, Value.str _ _]) _ _ _); ((k_here; (rename Fr _ _ _ _ => lF'); (rename News _ _ _ _ => lN'); k_dflt (refine' use_cl (sub_claim _ _ _ _ _ (by omega) (by omega)) ?k1Z9 lF' ?k3Z9 lN' ?k5Z9 ?kKZ9 ?kdZ9 ?kuZ9 ?kHZ9 ?_); (case k1Z9 => k_asm); (case k3Z9 => k_asm); (case k5Z9 => k_asm); (case kKZ9 => first | exact rfl | assumption); (case kdZ9 => ktr_room); (case kuZ9 => ktr_units); (case kHZ9 => trivial); clear lF' lN')); intro v9 h9 tk9 F9 N9 st9 o9; obtain ⟨t9, e9⟩ := o9; subst e9; (try dsimp only); (try k_fold))) | ((k_here; (with_reducible show wpAny _ _ (call (Value.type _) [Value.ref _]) _ _ _); (rename IsRange _ _ _ _ _ _ _ _ => rgX); (with_unfolding_all refine' list_step ?k0Z9 ?k1Z9 ?k2Z9 ?k3Z9 ?k4Z9 ?k5Z9 ?k6Z9 ?_; (case k0Z9 => rfl); (case k1Z9 => k_asm); (case k2Z9 => k_asm); (case k3Z9 => exact rgX); (case k4Z9 => exact small_two (by omega) (by omega)); (case k5Z9 => exact range_two (by omega)); (case k6Z9 => omega)); intro _ _ _ _ _ _ _ l1 _; (try k_lt l1))) | ((k_here; (with_reducible show wpAny _ _ (subscriptTail _ (Expr.Slice none (some _) none _) _ _) _ _ _); (with_reducible rename Fr _ _ _ _ => F'); (with_reducible rename News _ _ _ _ => N'); (refine slice_none (s := ⟨_, _, _, _, _⟩) F' N' ?_ (hsz := ?hszZ9)); (case hszZ9 => (rw [sizeLine_eq]; omega)); intro _ _ _ _ _)) | ((k_here; k_openite; first | (refine ite_pos ?hxZ9 ?_; (case hxZ9 => first | with_reducible assumption | (simp only [decide_eq_true_eq, decide_eq_false_iff_not, Bool.not_eq_true', Bool.not_eq_false', bne_iff_ne, ne_eq]; omega))) | (refine ite_neg ?hxZ9 ?_; (case hxZ9 => first | with_reducible assumption | (simp only [decide_eq_true_eq, decide_eq_false_iff_not, Bool.not_eq_true', Bool.not_eq_false', bne_iff_ne, ne_eq, Bool.not_eq_true, Decidable.not_not]; omega))) | (refine ite_b (fun hc => ?_) (fun hc => ?_) <;> (try simp only [decide_eq_true_eq, decide_eq_false_iff_not, Bool.not_eq_true', Bool.not_eq_false', bne_iff_ne, ne_eq, bne_eq_false_iff_eq, Decidable.not_not, Int.not_lt, Int.not_le] at hc)))) | (fail_if_success (with_reducible show wpAny _ _ (exec (Stmt.While _ _ _ _) _) _ _ _)); (fail_if_success (with_reducible show wpAny _ _ (exec (Stmt.For _ _ _ _ _) _) _ _ _)); (fail_if_success (with_reducible show wpAny _ _ (pyIter _) _ _ _)); (fail_if_success (with_reducible show InvEndN _ _ _ _ _ _ _)); (fail_if_success (with_reducible show GEnd _ _ _ _ _ _ _)); (fail_if_success (with_reducible show GPost _ _ _ _ _ _ _ _ _)); first | (k_unfold; (try dsimp only)) | walk1 | (dsimp only; walk1) | (leave1; try dsimp only) | fail "no step"))
    all_goals ((refine' mtest_ ?keZ9 ?kFZ9 ?kNZ9 ?_; (case keZ9 => exact rfl); (case kFZ9 => assumption); (case kNZ9 => assumption)))
    all_goals first
      | exact cpl_tt hn (by omega) (by omega) (by assumption)
      | exact cpl_fa hn (by omega)
      | exact cpl_fb hn (by omega)
      | exact cpl_fe hn (by assumption)
  · intro n t h tk hn F2 N2
    (try k_fold)
    (repeat' (first | ((k_here; (with_reducible show wpAny _ _ (setItem (Value.ref _) (Value.int _ _) (Value.int _ _)) _ _ _); k_dflt (refine' ksa_set ?k1Z9 ?k2Z9 (Upd.head ?k3Z9) ?k4Z9 ?k5Z9 ?k6Z9 ?k7Z9 ?_; (case k1Z9 => k_asm); (case k2Z9 => k_asm); (case k3Z9 => assumption); (case k4Z9 => assumption); (case k5Z9 => omega); (case k6Z9 => omega); (case k7Z9 => omega)); intro h' F' N' hi' hl' hs')) | (((with_reducible show wpAny _ _ (call (Value.ref _) [Value.str _ _, Value.str _ _]) _ _ _); ((k_here; (rename Fr _ _ _ _ => lF'); (rename News _ _ _ _ => lN'); k_dflt (refine' use_cl (sub_claim _ _ _ _ _ (by omega) (by omega)) ?k1Z9 lF' ?k3Z9 lN' ?k5Z9 ?kKZ9 ?kdZ9 ?kuZ9 ?kHZ9 ?_); (case k1Z9 => k_asm); (case k3Z9 => k_asm); (case k5Z9 => k_asm); (case kKZ9 => first | exact rfl | assumption); (case kdZ9 => ktr_room); (case kuZ9 => ktr_units); (case kHZ9 => trivial); clear lF' lN')); intro v9 h9 tk9 F9 N9 st9 o9; obtain ⟨t9, e9⟩ := o9; subst e9; (try dsimp only); (try k_fold))) | ((k_here; (with_reducible show wpAny _ _ (call (Value.type _) [Value.ref _]) _ _ _); (rename IsRange _ _ _ _ _ _ _ _ => rgX); (with_unfolding_all refine' list_step ?k0Z9 ?k1Z9 ?k2Z9 ?k3Z9 ?k4Z9 ?k5Z9 ?k6Z9 ?_; (case k0Z9 => rfl); (case k1Z9 => k_asm); (case k2Z9 => k_asm); (case k3Z9 => exact rgX); (case k4Z9 => exact small_two (by omega) (by omega)); (case k5Z9 => exact range_two (by omega)); (case k6Z9 => omega)); intro _ _ _ _ _ _ _ l1 _; (try k_lt l1))) | ((k_here; (with_reducible show wpAny _ _ (subscriptTail _ (Expr.Slice none (some _) none _) _ _) _ _ _); (with_reducible rename Fr _ _ _ _ => F'); (with_reducible rename News _ _ _ _ => N'); (refine slice_none (s := ⟨_, _, _, _, _⟩) F' N' ?_ (hsz := ?hszZ9)); (case hszZ9 => (rw [sizeLine_eq]; omega)); intro _ _ _ _ _)) | ((k_here; k_openite; first | (refine ite_pos ?hxZ9 ?_; (case hxZ9 => first | with_reducible assumption | (simp only [decide_eq_true_eq, decide_eq_false_iff_not, Bool.not_eq_true', Bool.not_eq_false', bne_iff_ne, ne_eq]; omega))) | (refine ite_neg ?hxZ9 ?_; (case hxZ9 => first | with_reducible assumption | (simp only [decide_eq_true_eq, decide_eq_false_iff_not, Bool.not_eq_true', Bool.not_eq_false', bne_iff_ne, ne_eq, Bool.not_eq_true, Decidable.not_not]; omega))) | (refine ite_b (fun hc => ?_) (fun hc => ?_) <;> (try simp only [decide_eq_true_eq, decide_eq_false_iff_not, Bool.not_eq_true', Bool.not_eq_false', bne_iff_ne, ne_eq, bne_eq_false_iff_eq, Decidable.not_not, Int.not_lt, Int.not_le] at hc)))) | (fail_if_success (with_reducible show wpAny _ _ (exec (Stmt.While _ _ _ _) _) _ _ _)); (fail_if_success (with_reducible show wpAny _ _ (exec (Stmt.For _ _ _ _ _) _) _ _ _)); (fail_if_success (with_reducible show wpAny _ _ (pyIter _) _ _ _)); (fail_if_success (with_reducible show InvEndN _ _ _ _ _ _ _)); (fail_if_success (with_reducible show GEnd _ _ _ _ _ _ _)); (fail_if_success (with_reducible show GPost _ _ _ _ _ _ _ _ _)); first | (k_unfold; (try dsimp only)) | walk1 | (dsimp only; walk1) | (leave1; try dsimp only) | fail "no step"))
    ((refine' mturn_ ?keZ9 ?kFZ9 ?kNZ9 ?kyZ9 ?kcZ9 ?kmZ9; (case keZ9 => exact rfl); (case kFZ9 => assumption); (case kNZ9 => assumption); (case kyZ9 => exact rfl); (case kcZ9 => omega); (case kmZ9 => (intro z hz; first | (simp only [hz, if_false]; done) | (simp [hz]; done)))))
  · intro t h tk F2 N2
    (try k_fold)
    (repeat' (first | ((k_here; (with_reducible show wpAny _ _ (setItem (Value.ref _) (Value.int _ _) (Value.int _ _)) _ _ _); k_dflt (refine' ksa_set ?k1Z9 ?k2Z9 (Upd.head ?k3Z9) ?k4Z9 ?k5Z9 ?k6Z9 ?k7Z9 ?_; (case k1Z9 => k_asm); (case k2Z9 => k_asm); (case k3Z9 => assumption); (case k4Z9 => assumption); (case k5Z9 => omega); (case k6Z9 => omega); (case k7Z9 => omega)); intro h' F' N' hi' hl' hs')) | (((with_reducible show wpAny _ _ (call (Value.ref _) [Value.str _ _, Value.str _ _]) _ _ _); ((k_here; (rename Fr _ _ _ _ => lF'); (rename News _ _ _ _ => lN'); k_dflt (refine' use_cl (sub_claim _ _ _ _ _ (by omega) (by omega)) ?k1Z9 lF' ?k3Z9 lN' ?k5Z9 ?kKZ9 ?kdZ9 ?kuZ9 ?kHZ9 ?_); (case k1Z9 => k_asm); (case k3Z9 => k_asm); (case k5Z9 => k_asm); (case kKZ9 => first | exact rfl | assumption); (case kdZ9 => ktr_room); (case kuZ9 => ktr_units); (case kHZ9 => trivial); clear lF' lN')); intro v9 h9 tk9 F9 N9 st9 o9; obtain ⟨t9, e9⟩ := o9; subst e9; (try dsimp only); (try k_fold))) | ((k_here; (with_reducible show wpAny _ _ (call (Value.type _) [Value.ref _]) _ _ _); (rename IsRange _ _ _ _ _ _ _ _ => rgX); (with_unfolding_all refine' list_step ?k0Z9 ?k1Z9 ?k2Z9 ?k3Z9 ?k4Z9 ?k5Z9 ?k6Z9 ?_; (case k0Z9 => rfl); (case k1Z9 => k_asm); (case k2Z9 => k_asm); (case k3Z9 => exact rgX); (case k4Z9 => exact small_two (by omega) (by omega)); (case k5Z9 => exact range_two (by omega)); (case k6Z9 => omega)); intro _ _ _ _ _ _ _ l1 _; (try k_lt l1))) | ((k_here; (with_reducible show wpAny _ _ (subscriptTail _ (Expr.Slice none (some _) none _) _ _) _ _ _); (with_reducible rename Fr _ _ _ _ => F'); (with_reducible rename News _ _ _ _ => N'); (refine slice_none (s := ⟨_, _, _, _, _⟩) F' N' ?_ (hsz := ?hszZ9)); (case hszZ9 => (rw [sizeLine_eq]; omega)); intro _ _ _ _ _)) | ((k_here; k_openite; first | (refine ite_pos ?hxZ9 ?_; (case hxZ9 => first | with_reducible assumption | (simp only [decide_eq_true_eq, decide_eq_false_iff_not, Bool.not_eq_true', Bool.not_eq_false', bne_iff_ne, ne_eq]; omega))) | (refine ite_neg ?hxZ9 ?_; (case hxZ9 => first | with_reducible assumption | (simp only [decide_eq_true_eq, decide_eq_false_iff_not, Bool.not_eq_true', Bool.not_eq_false', bne_iff_ne, ne_eq, Bool.not_eq_true, Decidable.not_not]; omega))) | (refine ite_b (fun hc => ?_) (fun hc => ?_) <;> (try simp only [decide_eq_true_eq, decide_eq_false_iff_not, Bool.not_eq_true', Bool.not_eq_false', bne_iff_ne, ne_eq, bne_eq_false_iff_eq, Decidable.not_not, Int.not_lt, Int.not_le] at hc)))) | (fail_if_success (with_reducible show wpAny _ _ (exec (Stmt.While _ _ _ _) _) _ _ _)); (fail_if_success (with_reducible show wpAny _ _ (exec (Stmt.For _ _ _ _ _) _) _ _ _)); (fail_if_success (with_reducible show wpAny _ _ (pyIter _) _ _ _)); (fail_if_success (with_reducible show InvEndN _ _ _ _ _ _ _)); (fail_if_success (with_reducible show GEnd _ _ _ _ _ _ _)); (fail_if_success (with_reducible show GPost _ _ _ _ _ _ _ _ _)); first | (k_unfold; (try dsimp only)) | walk1 | (dsimp only; walk1) | (leave1; try dsimp only) | fail "no step"))
    have hle := cplS_le a b
    have hA : (Txt.slice a (some (cplS a b : Int)) none).length ≤ 40 := by rw [slice_from_len hle.1]; omega
    have hB : (Txt.slice b (some (cplS a b : Int)) none).length ≤ 40 := by rw [slice_from_len hle.2]; omega
    skip
    generalize hAe : Txt.slice a (some (cplS a b : Int)) none = A at *
    generalize hBe : Txt.slice b (some (cplS a b : Int)) none = B at *
    have hle2 := cslS_le A B
    have hAll := slice_all A
    have hBll := slice_all B
    rename Fr _ _ _ _ => F1
    k_dflt (refine' while_count (PySem.Str.ofString "post") (fun n => -(n : Int)) (cslS A B) rfl F1 .nil ?hy ?_ ?_ ?_)
    case hy => exact rfl
    · clear F1
      intro n t h tk hn F2 N2
      have hsA := fun hq => @slice_back_len A n hq (by omega)
      have hsB := fun hq => @slice_back_len B n hq (by omega)
      dsimp only at F2
      (try k_fold)
      (repeat' (first | ((k_here; (with_reducible show wpAny _ _ (setItem (Value.ref _) (Value.int _ _) (Value.int _ _)) _ _ _); k_dflt (refine' ksa_set ?k1Z9 ?k2Z9 (Upd.head ?k3Z9) ?k4Z9 ?k5Z9 ?k6Z9 ?k7Z9 ?_; (case k1Z9 => k_asm); (case k2Z9 => k_asm); (case k3Z9 => assumption); (case k4Z9 => assumption); (case k5Z9 => omega); (case k6Z9 => omega); (case k7Z9 => omega)); intro h' F' N' hi' hl' hs')) | (((with_reducible show wpAny _ _ (call (Value.ref _) [Value.str _ _, Value.str _ _]) _ _ _); ((k_here; (rename Fr _ _ _ _ => lF'); (rename News _ _ _ _ => lN'); k_dflt (refine' use_cl (sub_claim _ _ _ _ _ (by omega) (by omega)) ?k1Z9 lF' ?k3Z9 lN' ?k5Z9 ?kKZ9 ?kdZ9 ?kuZ9 ?kHZ9 ?_); (case k1Z9 => k_asm); (case k3Z9 => k_asm); (case k5Z9 => k_asm); (case kKZ9 => first | exact rfl | assumption); (case kdZ9 => ktr_room); (case kuZ9 => ktr_units); (case kHZ9 => trivial); clear lF' lN')); intro v9 h9 tk9 F9 N9 st9 o9; obtain ⟨t9, e9⟩ := o9; subst e9; (try dsimp only); (try k_fold))) | ((k_here; (with_reducible show wpAny _ _ (call (Value.type _) [Value.ref _]) _ _ _); (rename IsRange _ _ _ _ _ _ _ _ => rgX); (with_unfolding_all refine' list_step ?k0Z9 ?k1Z9 ?k2Z9 ?k3Z9 ?k4Z9 ?k5Z9 ?k6Z9 ?_; (case k0Z9 => rfl); (case k1Z9 => k_asm); (case k2Z9 => k_asm); (case k3Z9 => exact rgX); (case k4Z9 => exact small_two (by omega) (by omega)); (case k5Z9 => exact range_two (by omega)); (case k6Z9 => omega)); intro _ _ _ _ _ _ _ l1 _; (try k_lt l1))) | ((k_here; (with_reducible show wpAny _ _ (subscriptTail _ (Expr.Slice none (some _) none _) _ _) _ _ _); (with_reducible rename Fr _ _ _ _ => F'); (with_reducible rename News _ _ _ _ => N'); (refine slice_none (s := ⟨_, _, _, _, _⟩) F' N' ?_ (hsz := ?hszZ9)); (case hszZ9 => (rw [sizeLine_eq]; omega)); intro _ _ _ _ _)) | ((k_here; k_openite; first | (refine ite_pos ?hxZ9 ?_; (case hxZ9 => first | with_reducible assumption | (simp only [decide_eq_true_eq, decide_eq_false_iff_not, Bool.not_eq_true', Bool.not_eq_false', bne_iff_ne, ne_eq]; omega))) | (refine ite_neg ?hxZ9 ?_; (case hxZ9 => first | with_reducible assumption | (simp only [decide_eq_true_eq, decide_eq_false_iff_not, Bool.not_eq_true', Bool.not_eq_false', bne_iff_ne, ne_eq, Bool.not_eq_true, Decidable.not_not]; omega))) | (refine ite_b (fun hc => ?_) (fun hc => ?_) <;> (try simp only [decide_eq_true_eq, decide_eq_false_iff_not, Bool.not_eq_true', Bool.not_eq_false', bne_iff_ne, ne_eq, bne_eq_false_iff_eq, Decidable.not_not, Int.not_lt, Int.not_le] at hc)))) | (fail_if_success (with_reducible show wpAny _ _ (exec (Stmt.While _ _ _ _) _) _ _ _)); (fail_if_success (with_reducible show wpAny _ _ (exec (Stmt.For _ _ _ _ _) _) _ _ _)); (fail_if_success (with_reducible show wpAny _ _ (pyIter _) _ _ _)); (fail_if_success (with_reducible show InvEndN _ _ _ _ _ _ _)); (fail_if_success (with_reducible show GEnd _ _ _ _ _ _ _)); (fail_if_success (with_reducible show GPost _ _ _ _ _ _ _ _ _)); first | (k_unfold; (try dsimp only)) | walk1 | (dsimp only; walk1) | (leave1; try dsimp only) | fail "no step"))
      all_goals ((refine' mtest_ ?keZ9 ?kFZ9 ?kNZ9 ?_; (case keZ9 => exact rfl); (case kFZ9 => assumption); (case kNZ9 => assumption)))
      all_goals first
        | exact csl_tt hn (by omega) (by omega) (by assumption)
        | exact csl_fa hn (by omega)
        | exact csl_fb hn (by omega)
        | exact csl_fe hn (by assumption)
    · clear F1
      intro n t h tk hn F2 N2
      (try k_fold)
      (repeat' (first | ((k_here; (with_reducible show wpAny _ _ (setItem (Value.ref _) (Value.int _ _) (Value.int _ _)) _ _ _); k_dflt (refine' ksa_set ?k1Z9 ?k2Z9 (Upd.head ?k3Z9) ?k4Z9 ?k5Z9 ?k6Z9 ?k7Z9 ?_; (case k1Z9 => k_asm); (case k2Z9 => k_asm); (case k3Z9 => assumption); (case k4Z9 => assumption); (case k5Z9 => omega); (case k6Z9 => omega); (case k7Z9 => omega)); intro h' F' N' hi' hl' hs')) | (((with_reducible show wpAny _ _ (call (Value.ref _) [Value.str _ _, Value.str _ _]) _ _ _); ((k_here; (rename Fr _ _ _ _ => lF'); (rename News _ _ _ _ => lN'); k_dflt (refine' use_cl (sub_claim _ _ _ _ _ (by omega) (by omega)) ?k1Z9 lF' ?k3Z9 lN' ?k5Z9 ?kKZ9 ?kdZ9 ?kuZ9 ?kHZ9 ?_); (case k1Z9 => k_asm); (case k3Z9 => k_asm); (case k5Z9 => k_asm); (case kKZ9 => first | exact rfl | assumption); (case kdZ9 => ktr_room); (case kuZ9 => ktr_units); (case kHZ9 => trivial); clear lF' lN')); intro v9 h9 tk9 F9 N9 st9 o9; obtain ⟨t9, e9⟩ := o9; subst e9; (try dsimp only); (try k_fold))) | ((k_here; (with_reducible show wpAny _ _ (call (Value.type _) [Value.ref _]) _ _ _); (rename IsRange _ _ _ _ _ _ _ _ => rgX); (with_unfolding_all refine' list_step ?k0Z9 ?k1Z9 ?k2Z9 ?k3Z9 ?k4Z9 ?k5Z9 ?k6Z9 ?_; (case k0Z9 => rfl); (case k1Z9 => k_asm); (case k2Z9 => k_asm); (case k3Z9 => exact rgX); (case k4Z9 => exact small_two (by omega) (by omega)); (case k5Z9 => exact range_two (by omega)); (case k6Z9 => omega)); intro _ _ _ _ _ _ _ l1 _; (try k_lt l1))) | ((k_here; (with_reducible show wpAny _ _ (subscriptTail _ (Expr.Slice none (some _) none _) _ _) _ _ _); (with_reducible rename Fr _ _ _ _ => F'); (with_reducible rename News _ _ _ _ => N'); (refine slice_none (s := ⟨_, _, _, _, _⟩) F' N' ?_ (hsz := ?hszZ9)); (case hszZ9 => (rw [sizeLine_eq]; omega)); intro _ _ _ _ _)) | ((k_here; k_openite; first | (refine ite_pos ?hxZ9 ?_; (case hxZ9 => first | with_reducible assumption | (simp only [decide_eq_true_eq, decide_eq_false_iff_not, Bool.not_eq_true', Bool.not_eq_false', bne_iff_ne, ne_eq]; omega))) | (refine ite_neg ?hxZ9 ?_; (case hxZ9 => first | with_reducible assumption | (simp only [decide_eq_true_eq, decide_eq_false_iff_not, Bool.not_eq_true', Bool.not_eq_false', bne_iff_ne, ne_eq, Bool.not_eq_true, Decidable.not_not]; omega))) | (refine ite_b (fun hc => ?_) (fun hc => ?_) <;> (try simp only [decide_eq_true_eq, decide_eq_false_iff_not, Bool.not_eq_true', Bool.not_eq_false', bne_iff_ne, ne_eq, bne_eq_false_iff_eq, Decidable.not_not, Int.not_lt, Int.not_le] at hc)))) | (fail_if_success (with_reducible show wpAny _ _ (exec (Stmt.While _ _ _ _) _) _ _ _)); (fail_if_success (with_reducible show wpAny _ _ (exec (Stmt.For _ _ _ _ _) _) _ _ _)); (fail_if_success (with_reducible show wpAny _ _ (pyIter _) _ _ _)); (fail_if_success (with_reducible show InvEndN _ _ _ _ _ _ _)); (fail_if_success (with_reducible show GEnd _ _ _ _ _ _ _)); (fail_if_success (with_reducible show GPost _ _ _ _ _ _ _ _ _)); first | (k_unfold; (try dsimp only)) | walk1 | (dsimp only; walk1) | (leave1; try dsimp only) | fail "no step"))
      ((refine' mturn_ ?keZ9 ?kFZ9 ?kNZ9 ?kyZ9 ?kcZ9 ?kmZ9; (case keZ9 => exact rfl); (case kFZ9 => assumption); (case kNZ9 => assumption); (case kyZ9 => exact rfl); (case kcZ9 => omega); (case kmZ9 => (intro z hz; first | (simp only [hz, if_false]; done) | (simp [hz]; done)))))
    · clear F1
      intro t h tk F2 N2
      dsimp only at F2
      k_dflt (refine' execs_store (PySem.Str.ofString "a") (fun v => ∃ t, v = .str (cutBack A (cslS A B)) t) F2 N2 ?_ ?_)
      · (try k_fold)
        (repeat' (first | ((k_here; (with_reducible show wpAny _ _ (setItem (Value.ref _) (Value.int _ _) (Value.int _ _)) _ _ _); k_dflt (refine' ksa_set ?k1Z9 ?k2Z9 (Upd.head ?k3Z9) ?k4Z9 ?k5Z9 ?k6Z9 ?k7Z9 ?_; (case k1Z9 => k_asm); (case k2Z9 => k_asm); (case k3Z9 => assumption); (case k4Z9 => assumption); (case k5Z9 => omega); (case k6Z9 => omega); (case k7Z9 => omega)); intro h' F' N' hi' hl' hs')) | (((with_reducible show wpAny _ _ (call (Value.ref _) [Value.str _ _, Value.str _ _]) _ _ _); ((k_here; (rename Fr _ _ _ _ => lF'); (rename News _ _ _ _ => lN'); k_dflt (refine' use_cl (sub_claim _ _ _ _ _ (by omega) (by omega)) ?k1Z9 lF' ?k3Z9 lN' ?k5Z9 ?kKZ9 ?kdZ9 ?kuZ9 ?kHZ9 ?_); (case k1Z9 => k_asm); (case k3Z9 => k_asm); (case k5Z9 => k_asm); (case kKZ9 => first | exact rfl | assumption); (case kdZ9 => ktr_room); (case kuZ9 => ktr_units); (case kHZ9 => trivial); clear lF' lN')); intro v9 h9 tk9 F9 N9 st9 o9; obtain ⟨t9, e9⟩ := o9; subst e9; (try dsimp only); (try k_fold))) | ((k_here; (with_reducible show wpAny _ _ (call (Value.type _) [Value.ref _]) _ _ _); (rename IsRange _ _ _ _ _ _ _ _ => rgX); (with_unfolding_all refine' list_step ?k0Z9 ?k1Z9 ?k2Z9 ?k3Z9 ?k4Z9 ?k5Z9 ?k6Z9 ?_; (case k0Z9 => rfl); (case k1Z9 => k_asm); (case k2Z9 => k_asm); (case k3Z9 => exact rgX); (case k4Z9 => exact small_two (by omega) (by omega)); (case k5Z9 => exact range_two (by omega)); (case k6Z9 => omega)); intro _ _ _ _ _ _ _ l1 _; (try k_lt l1))) | ((k_here; (with_reducible show wpAny _ _ (subscriptTail _ (Expr.Slice none (some _) none _) _ _) _ _ _); (with_reducible rename Fr _ _ _ _ => F'); (with_reducible rename News _ _ _ _ => N'); (refine slice_none (s := ⟨_, _, _, _, _⟩) F' N' ?_ (hsz := ?hszZ9)); (case hszZ9 => (rw [sizeLine_eq]; omega)); intro _ _ _ _ _)) | ((k_here; k_openite; first | (refine ite_pos ?hxZ9 ?_; (case hxZ9 => first | with_reducible assumption | (simp only [decide_eq_true_eq, decide_eq_false_iff_not, Bool.not_eq_true', Bool.not_eq_false', bne_iff_ne, ne_eq]; omega))) | (refine ite_neg ?hxZ9 ?_; (case hxZ9 => first | with_reducible assumption | (simp only [decide_eq_true_eq, decide_eq_false_iff_not, Bool.not_eq_true', Bool.not_eq_false', bne_iff_ne, ne_eq, Bool.not_eq_true, Decidable.not_not]; omega))) | (refine ite_b (fun hc => ?_) (fun hc => ?_) <;> (try simp only [decide_eq_true_eq, decide_eq_false_iff_not, Bool.not_eq_true', Bool.not_eq_false', bne_iff_ne, ne_eq, bne_eq_false_iff_eq, Decidable.not_not, Int.not_lt, Int.not_le] at hc)))) | (fail_if_success (with_reducible show wpAny _ _ (exec (Stmt.While _ _ _ _) _) _ _ _)); (fail_if_success (with_reducible show wpAny _ _ (exec (Stmt.For _ _ _ _ _) _) _ _ _)); (fail_if_success (with_reducible show wpAny _ _ (pyIter _) _ _ _)); (fail_if_success (with_reducible show InvEndN _ _ _ _ _ _ _)); (fail_if_success (with_reducible show GEnd _ _ _ _ _ _ _)); (fail_if_success (with_reducible show GPost _ _ _ _ _ _ _ _ _)); first | (k_unfold; (try dsimp only)) | walk1 | (dsimp only; walk1) | (leave1; try dsimp only) | fail "no step"))
        all_goals (((refine' mstore_ ?keZ9 ?kFZ9 ?kNZ9 ?knZ9 ?kyZ9 ?kmZ9 ?_; (case keZ9 => exact rfl); (case kFZ9 => assumption); (case kNZ9 => assumption); (case knZ9 => first | (intro p hp; cases hp; done) | exact fun p hp => hp); (case kyZ9 => exact rfl); (case kmZ9 => (intro z hz; first | (simp only [hz, if_false]; done) | (simp [hz]; done))))); first | exact ⟨_, by rw [cutBack, if_pos (by omega)]⟩ | exact ⟨_, by rw [cutBack, if_neg (by omega)]⟩)
      clear F2 N2
      rintro _ h tk ⟨t2, rfl⟩ F2 N2
      k_dflt (refine' execs_store (PySem.Str.ofString "b") (fun v => ∃ t, v = .str (cutBack B (cslS A B)) t) F2 N2 ?_ ?_)
      · (try k_fold)
        (repeat' (first | ((k_here; (with_reducible show wpAny _ _ (setItem (Value.ref _) (Value.int _ _) (Value.int _ _)) _ _ _); k_dflt (refine' ksa_set ?k1Z9 ?k2Z9 (Upd.head ?k3Z9) ?k4Z9 ?k5Z9 ?k6Z9 ?k7Z9 ?_; (case k1Z9 => k_asm); (case k2Z9 => k_asm); (case k3Z9 => assumption); (case k4Z9 => assumption); (case k5Z9 => omega); (case k6Z9 => omega); (case k7Z9 => omega)); intro h' F' N' hi' hl' hs')) | (((with_reducible show wpAny _ _ (call (Value.ref _) [Value.str _ _, Value.str _ _]) _ _ _); ((k_here; (rename Fr _ _ _ _ => lF'); (rename News _ _ _ _ => lN'); k_dflt (refine' use_cl (sub_claim _ _ _ _ _ (by omega) (by omega)) ?k1Z9 lF' ?k3Z9 lN' ?k5Z9 ?kKZ9 ?kdZ9 ?kuZ9 ?kHZ9 ?_); (case k1Z9 => k_asm); (case k3Z9 => k_asm); (case k5Z9 => k_asm); (case kKZ9 => first | exact rfl | assumption); (case kdZ9 => ktr_room); (case kuZ9 => ktr_units); (case kHZ9 => trivial); clear lF' lN')); intro v9 h9 tk9 F9 N9 st9 o9; obtain ⟨t9, e9⟩ := o9; subst e9; (try dsimp only); (try k_fold))) | ((k_here; (with_reducible show wpAny _ _ (call (Value.type _) [Value.ref _]) _ _ _); (rename IsRange _ _ _ _ _ _ _ _ => rgX); (with_unfolding_all refine' list_step ?k0Z9 ?k1Z9 ?k2Z9 ?k3Z9 ?k4Z9 ?k5Z9 ?k6Z9 ?_; (case k0Z9 => rfl); (case k1Z9 => k_asm); (case k2Z9 => k_asm); (case k3Z9 => exact rgX); (case k4Z9 => exact small_two (by omega) (by omega)); (case k5Z9 => exact range_two (by omega)); (case k6Z9 => omega)); intro _ _ _ _ _ _ _ l1 _; (try k_lt l1))) | ((k_here; (with_reducible show wpAny _ _ (subscriptTail _ (Expr.Slice none (some _) none _) _ _) _ _ _); (with_reducible rename Fr _ _ _ _ => F'); (with_reducible rename News _ _ _ _ => N'); (refine slice_none (s := ⟨_, _, _, _, _⟩) F' N' ?_ (hsz := ?hszZ9)); (case hszZ9 => (rw [sizeLine_eq]; omega)); intro _ _ _ _ _)) | ((k_here; k_openite; first | (refine ite_pos ?hxZ9 ?_; (case hxZ9 => first | with_reducible assumption | (simp only [decide_eq_true_eq, decide_eq_false_iff_not, Bool.not_eq_true', Bool.not_eq_false', bne_iff_ne, ne_eq]; omega))) | (refine ite_neg ?hxZ9 ?_; (case hxZ9 => first | with_reducible assumption | (simp only [decide_eq_true_eq, decide_eq_false_iff_not, Bool.not_eq_true', Bool.not_eq_false', bne_iff_ne, ne_eq, Bool.not_eq_true, Decidable.not_not]; omega))) | (refine ite_b (fun hc => ?_) (fun hc => ?_) <;> (try simp only [decide_eq_true_eq, decide_eq_false_iff_not, Bool.not_eq_true', Bool.not_eq_false', bne_iff_ne, ne_eq, bne_eq_false_iff_eq, Decidable.not_not, Int.not_lt, Int.not_le] at hc)))) | (fail_if_success (with_reducible show wpAny _ _ (exec (Stmt.While _ _ _ _) _) _ _ _)); (fail_if_success (with_reducible show wpAny _ _ (exec (Stmt.For _ _ _ _ _) _) _ _ _)); (fail_if_success (with_reducible show wpAny _ _ (pyIter _) _ _ _)); (fail_if_success (with_reducible show InvEndN _ _ _ _ _ _ _)); (fail_if_success (with_reducible show GEnd _ _ _ _ _ _ _)); (fail_if_success (with_reducible show GPost _ _ _ _ _ _ _ _ _)); first | (k_unfold; (try dsimp only)) | walk1 | (dsimp only; walk1) | (leave1; try dsimp only) | fail "no step"))
        all_goals (((refine' mstore_ ?keZ9 ?kFZ9 ?kNZ9 ?knZ9 ?kyZ9 ?kmZ9 ?_; (case keZ9 => exact rfl); (case kFZ9 => assumption); (case kNZ9 => assumption); (case knZ9 => first | (intro p hp; cases hp; done) | exact fun p hp => hp); (case kyZ9 => exact rfl); (case kmZ9 => (intro z hz; first | (simp only [hz, if_false]; done) | (simp [hz]; done))))); first | exact ⟨_, by rw [cutBack, if_pos (by omega)]⟩ | exact ⟨_, by rw [cutBack, if_neg (by omega)]⟩)
      clear F2 N2
      rintro _ h tk ⟨t3, rfl⟩ F2 N2
      have hA2 : (cutBack A (cslS A B)).length ≤ 40 := by rw [cutBack_len hle2.1]; omega
      have hB2 : (cutBack B (cslS A B)).length ≤ 40 := by rw [cutBack_len hle2.2]; omega
      generalize hA2e : cutBack A (cslS A B) = A2 at *
      generalize hB2e : cutBack B (cslS A B) = B2 at *
      k_dflt (refine' execs_if (1 ≤ A2.length ∧ 1 ≤ B2.length) F2 N2 ?_ ?_)
      · (try k_fold)
        (repeat' (first | ((k_here; (with_reducible show wpAny _ _ (setItem (Value.ref _) (Value.int _ _) (Value.int _ _)) _ _ _); k_dflt (refine' ksa_set ?k1Z9 ?k2Z9 (Upd.head ?k3Z9) ?k4Z9 ?k5Z9 ?k6Z9 ?k7Z9 ?_; (case k1Z9 => k_asm); (case k2Z9 => k_asm); (case k3Z9 => assumption); (case k4Z9 => assumption); (case k5Z9 => omega); (case k6Z9 => omega); (case k7Z9 => omega)); intro h' F' N' hi' hl' hs')) | (((with_reducible show wpAny _ _ (call (Value.ref _) [Value.str _ _, Value.str _ _]) _ _ _); ((k_here; (rename Fr _ _ _ _ => lF'); (rename News _ _ _ _ => lN'); k_dflt (refine' use_cl (sub_claim _ _ _ _ _ (by omega) (by omega)) ?k1Z9 lF' ?k3Z9 lN' ?k5Z9 ?kKZ9 ?kdZ9 ?kuZ9 ?kHZ9 ?_); (case k1Z9 => k_asm); (case k3Z9 => k_asm); (case k5Z9 => k_asm); (case kKZ9 => first | exact rfl | assumption); (case kdZ9 => ktr_room); (case kuZ9 => ktr_units); (case kHZ9 => trivial); clear lF' lN')); intro v9 h9 tk9 F9 N9 st9 o9; obtain ⟨t9, e9⟩ := o9; subst e9; (try dsimp only); (try k_fold))) | ((k_here; (with_reducible show wpAny _ _ (call (Value.type _) [Value.ref _]) _ _ _); (rename IsRange _ _ _ _ _ _ _ _ => rgX); (with_unfolding_all refine' list_step ?k0Z9 ?k1Z9 ?k2Z9 ?k3Z9 ?k4Z9 ?k5Z9 ?k6Z9 ?_; (case k0Z9 => rfl); (case k1Z9 => k_asm); (case k2Z9 => k_asm); (case k3Z9 => exact rgX); (case k4Z9 => exact small_two (by omega) (by omega)); (case k5Z9 => exact range_two (by omega)); (case k6Z9 => omega)); intro _ _ _ _ _ _ _ l1 _; (try k_lt l1))) | ((k_here; (with_reducible show wpAny _ _ (subscriptTail _ (Expr.Slice none (some _) none _) _ _) _ _ _); (with_reducible rename Fr _ _ _ _ => F'); (with_reducible rename News _ _ _ _ => N'); (refine slice_none (s := ⟨_, _, _, _, _⟩) F' N' ?_ (hsz := ?hszZ9)); (case hszZ9 => (rw [sizeLine_eq]; omega)); intro _ _ _ _ _)) | ((k_here; k_openite; first | (refine ite_pos ?hxZ9 ?_; (case hxZ9 => first | with_reducible assumption | (simp only [decide_eq_true_eq, decide_eq_false_iff_not, Bool.not_eq_true', Bool.not_eq_false', bne_iff_ne, ne_eq]; omega))) | (refine ite_neg ?hxZ9 ?_; (case hxZ9 => first | with_reducible assumption | (simp only [decide_eq_true_eq, decide_eq_false_iff_not, Bool.not_eq_true', Bool.not_eq_false', bne_iff_ne, ne_eq, Bool.not_eq_true, Decidable.not_not]; omega))) | (refine ite_b (fun hc => ?_) (fun hc => ?_) <;> (try simp only [decide_eq_true_eq, decide_eq_false_iff_not, Bool.not_eq_true', Bool.not_eq_false', bne_iff_ne, ne_eq, bne_eq_false_iff_eq, Decidable.not_not, Int.not_lt, Int.not_le] at hc)))) | (fail_if_success (with_reducible show wpAny _ _ (exec (Stmt.While _ _ _ _) _) _ _ _)); (fail_if_success (with_reducible show wpAny _ _ (exec (Stmt.For _ _ _ _ _) _) _ _ _)); (fail_if_success (with_reducible show wpAny _ _ (pyIter _) _ _ _)); (fail_if_success (with_reducible show InvEndN _ _ _ _ _ _ _)); (fail_if_success (with_reducible show GEnd _ _ _ _ _ _ _)); (fail_if_success (with_reducible show GPost _ _ _ _ _ _ _ _ _)); first | (k_unfold; (try dsimp only)) | walk1 | (dsimp only; walk1) | (leave1; try dsimp only) | fail "no step"))
        all_goals (first | (refine' mif_ret ?_) | (refine' mif_next ?keZ9 ?kFZ9 ?kNZ9 ?knZ9 ?_; (case keZ9 => exact rfl); (case kFZ9 => assumption); (case kNZ9 => assumption); (case knZ9 => first | (intro p hp; cases hp; done) | exact fun p hp => hp)))
        all_goals first
          | (k_unfold; (try dsimp only); (( (rename (∀ (v : Value) (h' : Heap) (tk' : Nat), Heap.StaysIn _ h' → _ → _) => hret9); (rename (_ = Shared.heap _) => hg9); refine' ret_ hret9 hg9 ?kFZ9 ?keZ9 ?_; (case kFZ9 => assumption); (case keZ9 => exact rfl); (try dsimp only))); exact oInt (lev_short (by assumption) hAe hBe hA2e hB2e (by omega)))
          | omega
      clear F2 N2
      intro h tk hlen F2 N2
      k_dflt (refine' execs_if True F2 N2 ?_ ?_)
      · (try k_fold)
        (repeat' (first | ((k_here; (with_reducible show wpAny _ _ (setItem (Value.ref _) (Value.int _ _) (Value.int _ _)) _ _ _); k_dflt (refine' ksa_set ?k1Z9 ?k2Z9 (Upd.head ?k3Z9) ?k4Z9 ?k5Z9 ?k6Z9 ?k7Z9 ?_; (case k1Z9 => k_asm); (case k2Z9 => k_asm); (case k3Z9 => assumption); (case k4Z9 => assumption); (case k5Z9 => omega); (case k6Z9 => omega); (case k7Z9 => omega)); intro h' F' N' hi' hl' hs')) | (((with_reducible show wpAny _ _ (call (Value.ref _) [Value.str _ _, Value.str _ _]) _ _ _); ((k_here; (rename Fr _ _ _ _ => lF'); (rename News _ _ _ _ => lN'); k_dflt (refine' use_cl (sub_claim _ _ _ _ _ (by omega) (by omega)) ?k1Z9 lF' ?k3Z9 lN' ?k5Z9 ?kKZ9 ?kdZ9 ?kuZ9 ?kHZ9 ?_); (case k1Z9 => k_asm); (case k3Z9 => k_asm); (case k5Z9 => k_asm); (case kKZ9 => first | exact rfl | assumption); (case kdZ9 => ktr_room); (case kuZ9 => ktr_units); (case kHZ9 => trivial); clear lF' lN')); intro v9 h9 tk9 F9 N9 st9 o9; obtain ⟨t9, e9⟩ := o9; subst e9; (try dsimp only); (try k_fold))) | ((k_here; (with_reducible show wpAny _ _ (call (Value.type _) [Value.ref _]) _ _ _); (rename IsRange _ _ _ _ _ _ _ _ => rgX); (with_unfolding_all refine' list_step ?k0Z9 ?k1Z9 ?k2Z9 ?k3Z9 ?k4Z9 ?k5Z9 ?k6Z9 ?_; (case k0Z9 => rfl); (case k1Z9 => k_asm); (case k2Z9 => k_asm); (case k3Z9 => exact rgX); (case k4Z9 => exact small_two (by omega) (by omega)); (case k5Z9 => exact range_two (by omega)); (case k6Z9 => omega)); intro _ _ _ _ _ _ _ l1 _; (try k_lt l1))) | ((k_here; (with_reducible show wpAny _ _ (subscriptTail _ (Expr.Slice none (some _) none _) _ _) _ _ _); (with_reducible rename Fr _ _ _ _ => F'); (with_reducible rename News _ _ _ _ => N'); (refine slice_none (s := ⟨_, _, _, _, _⟩) F' N' ?_ (hsz := ?hszZ9)); (case hszZ9 => (rw [sizeLine_eq]; omega)); intro _ _ _ _ _)) | ((k_here; k_openite; first | (refine ite_pos ?hxZ9 ?_; (case hxZ9 => first | with_reducible assumption | (simp only [decide_eq_true_eq, decide_eq_false_iff_not, Bool.not_eq_true', Bool.not_eq_false', bne_iff_ne, ne_eq]; omega))) | (refine ite_neg ?hxZ9 ?_; (case hxZ9 => first | with_reducible assumption | (simp only [decide_eq_true_eq, decide_eq_false_iff_not, Bool.not_eq_true', Bool.not_eq_false', bne_iff_ne, ne_eq, Bool.not_eq_true, Decidable.not_not]; omega))) | (refine ite_b (fun hc => ?_) (fun hc => ?_) <;> (try simp only [decide_eq_true_eq, decide_eq_false_iff_not, Bool.not_eq_true', Bool.not_eq_false', bne_iff_ne, ne_eq, bne_eq_false_iff_eq, Decidable.not_not, Int.not_lt, Int.not_le] at hc)))) | (fail_if_success (with_reducible show wpAny _ _ (exec (Stmt.While _ _ _ _) _) _ _ _)); (fail_if_success (with_reducible show wpAny _ _ (exec (Stmt.For _ _ _ _ _) _) _ _ _)); (fail_if_success (with_reducible show wpAny _ _ (pyIter _) _ _ _)); (fail_if_success (with_reducible show InvEndN _ _ _ _ _ _ _)); (fail_if_success (with_reducible show GEnd _ _ _ _ _ _ _)); (fail_if_success (with_reducible show GPost _ _ _ _ _ _ _ _ _)); first | (k_unfold; (try dsimp only)) | walk1 | (dsimp only; walk1) | (leave1; try dsimp only) | fail "no step"))
        all_goals (first | (refine' mif_ret ?_) | (refine' mif_next ?keZ9 ?kFZ9 ?kNZ9 ?knZ9 ?_; (case keZ9 => exact rfl); (case kFZ9 => assumption); (case kNZ9 => assumption); (case knZ9 => first | (intro p hp; cases hp; done) | exact fun p hp => hp)))
        all_goals trivial
      clear F2 N2
      intro h tk _ F2 N2
      k_dflt (refine' execs_store2 (PySem.Str.ofString "a") (PySem.Str.ofString "b") (fun v1 v2 => ∃ t1 t2, v1 = .str (if B2.length < A2.length then B2 else A2) t1 ∧ v2 = .str (if B2.length < A2.length then A2 else B2) t2) F2 N2 ?_ ?_)
      · (try k_fold)
        (repeat' (first | ((k_here; (with_reducible show wpAny _ _ (setItem (Value.ref _) (Value.int _ _) (Value.int _ _)) _ _ _); k_dflt (refine' ksa_set ?k1Z9 ?k2Z9 (Upd.head ?k3Z9) ?k4Z9 ?k5Z9 ?k6Z9 ?k7Z9 ?_; (case k1Z9 => k_asm); (case k2Z9 => k_asm); (case k3Z9 => assumption); (case k4Z9 => assumption); (case k5Z9 => omega); (case k6Z9 => omega); (case k7Z9 => omega)); intro h' F' N' hi' hl' hs')) | (((with_reducible show wpAny _ _ (call (Value.ref _) [Value.str _ _, Value.str _ _]) _ _ _); ((k_here; (rename Fr _ _ _ _ => lF'); (rename News _ _ _ _ => lN'); k_dflt (refine' use_cl (sub_claim _ _ _ _ _ (by omega) (by omega)) ?k1Z9 lF' ?k3Z9 lN' ?k5Z9 ?kKZ9 ?kdZ9 ?kuZ9 ?kHZ9 ?_); (case k1Z9 => k_asm); (case k3Z9 => k_asm); (case k5Z9 => k_asm); (case kKZ9 => first | exact rfl | assumption); (case kdZ9 => ktr_room); (case kuZ9 => ktr_units); (case kHZ9 => trivial); clear lF' lN')); intro v9 h9 tk9 F9 N9 st9 o9; obtain ⟨t9, e9⟩ := o9; subst e9; (try dsimp only); (try k_fold))) | ((k_here; (with_reducible show wpAny _ _ (call (Value.type _) [Value.ref _]) _ _ _); (rename IsRange _ _ _ _ _ _ _ _ => rgX); (with_unfolding_all refine' list_step ?k0Z9 ?k1Z9 ?k2Z9 ?k3Z9 ?k4Z9 ?k5Z9 ?k6Z9 ?_; (case k0Z9 => rfl); (case k1Z9 => k_asm); (case k2Z9 => k_asm); (case k3Z9 => exact rgX); (case k4Z9 => exact small_two (by omega) (by omega)); (case k5Z9 => exact range_two (by omega)); (case k6Z9 => omega)); intro _ _ _ _ _ _ _ l1 _; (try k_lt l1))) | ((k_here; (with_reducible show wpAny _ _ (subscriptTail _ (Expr.Slice none (some _) none _) _ _) _ _ _); (with_reducible rename Fr _ _ _ _ => F'); (with_reducible rename News _ _ _ _ => N'); (refine slice_none (s := ⟨_, _, _, _, _⟩) F' N' ?_ (hsz := ?hszZ9)); (case hszZ9 => (rw [sizeLine_eq]; omega)); intro _ _ _ _ _)) | ((k_here; k_openite; first | (refine ite_pos ?hxZ9 ?_; (case hxZ9 => first | with_reducible assumption | (simp only [decide_eq_true_eq, decide_eq_false_iff_not, Bool.not_eq_true', Bool.not_eq_false', bne_iff_ne, ne_eq]; omega))) | (refine ite_neg ?hxZ9 ?_; (case hxZ9 => first | with_reducible assumption | (simp only [decide_eq_true_eq, decide_eq_false_iff_not, Bool.not_eq_true', Bool.not_eq_false', bne_iff_ne, ne_eq, Bool.not_eq_true, Decidable.not_not]; omega))) | (refine ite_b (fun hc => ?_) (fun hc => ?_) <;> (try simp only [decide_eq_true_eq, decide_eq_false_iff_not, Bool.not_eq_true', Bool.not_eq_false', bne_iff_ne, ne_eq, bne_eq_false_iff_eq, Decidable.not_not, Int.not_lt, Int.not_le] at hc)))) | (fail_if_success (with_reducible show wpAny _ _ (exec (Stmt.While _ _ _ _) _) _ _ _)); (fail_if_success (with_reducible show wpAny _ _ (exec (Stmt.For _ _ _ _ _) _) _ _ _)); (fail_if_success (with_reducible show wpAny _ _ (pyIter _) _ _ _)); (fail_if_success (with_reducible show InvEndN _ _ _ _ _ _ _)); (fail_if_success (with_reducible show GEnd _ _ _ _ _ _ _)); (fail_if_success (with_reducible show GPost _ _ _ _ _ _ _ _ _)); first | (k_unfold; (try dsimp only)) | walk1 | (dsimp only; walk1) | (leave1; try dsimp only) | fail "no step"))
        all_goals ((refine' mstore2_ ?keZ9 ?kFZ9 ?kNZ9 ?knZ9 ?kyZ9 ?ky2Z9 ?kmZ9 ?_; (case keZ9 => exact rfl); (case kFZ9 => assumption); (case kNZ9 => assumption); (case knZ9 => first | (intro p hp; cases hp; done) | exact fun p hp => hp); (case kyZ9 => exact rfl); (case ky2Z9 => exact rfl); (case kmZ9 => (intro z hz hz2; first | (simp only [hz, hz2, if_false]; done) | (simp [hz, hz2]; done)))))
        all_goals first | exact ⟨_, _, by rw [if_pos (by omega)], by rw [if_pos (by omega)]⟩ | exact ⟨_, _, by rw [if_neg (by omega)], by rw [if_neg (by omega)]⟩
      clear F2 N2
      rintro _ _ h tk ⟨t4, t5, rfl, rfl⟩ F2 N2
      have hA3 : (if B2.length < A2.length then B2 else A2).length ≤ (if B2.length < A2.length then A2 else B2).length := by split <;> omega
      have hA4 : 1 ≤ (if B2.length < A2.length then B2 else A2).length := by split <;> omega
      have hB4 : (if B2.length < A2.length then A2 else B2).length ≤ 40 := by split <;> omega
      generalize hA3e : (if B2.length < A2.length then B2 else A2) = A3 at *
      generalize hB3e : (if B2.length < A2.length then A2 else B2) = B3 at *
      (try k_fold)
      (repeat' (first | ((k_here; (with_reducible show wpAny _ _ (setItem (Value.ref _) (Value.int _ _) (Value.int _ _)) _ _ _); k_dflt (refine' ksa_set ?k1Z9 ?k2Z9 (Upd.head ?k3Z9) ?k4Z9 ?k5Z9 ?k6Z9 ?k7Z9 ?_; (case k1Z9 => k_asm); (case k2Z9 => k_asm); (case k3Z9 => assumption); (case k4Z9 => assumption); (case k5Z9 => omega); (case k6Z9 => omega); (case k7Z9 => omega)); intro h' F' N' hi' hl' hs')) | (((with_reducible show wpAny _ _ (call (Value.ref _) [Value.str _ _, Value.str _ _]) _ _ _); ((k_here; (rename Fr _ _ _ _ => lF'); (rename News _ _ _ _ => lN'); k_dflt (refine' use_cl (sub_claim _ _ _ _ _ (by omega) (by omega)) ?k1Z9 lF' ?k3Z9 lN' ?k5Z9 ?kKZ9 ?kdZ9 ?kuZ9 ?kHZ9 ?_); (case k1Z9 => k_asm); (case k3Z9 => k_asm); (case k5Z9 => k_asm); (case kKZ9 => first | exact rfl | assumption); (case kdZ9 => ktr_room); (case kuZ9 => ktr_units); (case kHZ9 => trivial); clear lF' lN')); intro v9 h9 tk9 F9 N9 st9 o9; obtain ⟨t9, e9⟩ := o9; subst e9; (try dsimp only); (try k_fold))) | ((k_here; (with_reducible show wpAny _ _ (call (Value.type _) [Value.ref _]) _ _ _); (rename IsRange _ _ _ _ _ _ _ _ => rgX); (with_unfolding_all refine' list_step ?k0Z9 ?k1Z9 ?k2Z9 ?k3Z9 ?k4Z9 ?k5Z9 ?k6Z9 ?_; (case k0Z9 => rfl); (case k1Z9 => k_asm); (case k2Z9 => k_asm); (case k3Z9 => exact rgX); (case k4Z9 => exact small_two (by omega) (by omega)); (case k5Z9 => exact range_two (by omega)); (case k6Z9 => omega)); intro _ _ _ _ _ _ _ l1 _; (try k_lt l1))) | ((k_here; (with_reducible show wpAny _ _ (subscriptTail _ (Expr.Slice none (some _) none _) _ _) _ _ _); (with_reducible rename Fr _ _ _ _ => F'); (with_reducible rename News _ _ _ _ => N'); (refine slice_none (s := ⟨_, _, _, _, _⟩) F' N' ?_ (hsz := ?hszZ9)); (case hszZ9 => (rw [sizeLine_eq]; omega)); intro _ _ _ _ _)) | ((k_here; k_openite; first | (refine ite_pos ?hxZ9 ?_; (case hxZ9 => first | with_reducible assumption | (simp only [decide_eq_true_eq, decide_eq_false_iff_not, Bool.not_eq_true', Bool.not_eq_false', bne_iff_ne, ne_eq]; omega))) | (refine ite_neg ?hxZ9 ?_; (case hxZ9 => first | with_reducible assumption | (simp only [decide_eq_true_eq, decide_eq_false_iff_not, Bool.not_eq_true', Bool.not_eq_false', bne_iff_ne, ne_eq, Bool.not_eq_true, Decidable.not_not]; omega))) | (refine ite_b (fun hc => ?_) (fun hc => ?_) <;> (try simp only [decide_eq_true_eq, decide_eq_false_iff_not, Bool.not_eq_true', Bool.not_eq_false', bne_iff_ne, ne_eq, bne_eq_false_iff_eq, Decidable.not_not, Int.not_lt, Int.not_le] at hc)))) | (fail_if_success (with_reducible show wpAny _ _ (exec (Stmt.While _ _ _ _) _) _ _ _)); (fail_if_success (with_reducible show wpAny _ _ (exec (Stmt.For _ _ _ _ _) _) _ _ _)); (fail_if_success (with_reducible show wpAny _ _ (pyIter _) _ _ _)); (fail_if_success (with_reducible show InvEndN _ _ _ _ _ _ _)); (fail_if_success (with_reducible show GEnd _ _ _ _ _ _ _)); (fail_if_success (with_reducible show GPost _ _ _ _ _ _ _ _ _)); first | (k_unfold; (try dsimp only)) | walk1 | (dsimp only; walk1) | (leave1; try dsimp only) | fail "no step"))
      · (( (rename (∀ (v : Value) (h' : Heap) (tk' : Nat), Heap.StaysIn _ h' → _ → _) => hret9); (rename (_ = Shared.heap _) => hg9); refine' ret_ hret9 hg9 ?kFZ9 ?keZ9 ?_; (case kFZ9 => assumption); (case keZ9 => exact rfl); (try dsimp only)))
        exact oInt ((tail_far (by omega)).trans (lev_long (by assumption) hAe hBe hA2e hB2e hlen hA3e hB3e))
      have hcn : ((B3.length : Int) - A3.length) * 2 ≤ mc := by assumption
      (((with_unfolding_all refine' For_invVF ?kZZ9 ?k1Z9 ?k2Z9 ?_); (case kZZ9 => k_dflt assumption); (with_unfolding_all ((case k1Z9 => exact rfl); (case k2Z9 => exact rfl); k_whole)); (repeat' (first | ((k_here; (with_reducible show wpAny _ _ (setItem (Value.ref _) (Value.int _ _) (Value.int _ _)) _ _ _); k_dflt (refine' ksa_set ?k1Z9 ?k2Z9 (Upd.head ?k3Z9) ?k4Z9 ?k5Z9 ?k6Z9 ?k7Z9 ?_; (case k1Z9 => k_asm); (case k2Z9 => k_asm); (case k3Z9 => assumption); (case k4Z9 => assumption); (case k5Z9 => omega); (case k6Z9 => omega); (case k7Z9 => omega)); intro h' F' N' hi' hl' hs')) | (((with_reducible show wpAny _ _ (call (Value.ref _) [Value.str _ _, Value.str _ _]) _ _ _); ((k_here; (rename Fr _ _ _ _ => lF'); (rename News _ _ _ _ => lN'); k_dflt (refine' use_cl (sub_claim _ _ _ _ _ (by omega) (by omega)) ?k1Z9 lF' ?k3Z9 lN' ?k5Z9 ?kKZ9 ?kdZ9 ?kuZ9 ?kHZ9 ?_); (case k1Z9 => k_asm); (case k3Z9 => k_asm); (case k5Z9 => k_asm); (case kKZ9 => first | exact rfl | assumption); (case kdZ9 => ktr_room); (case kuZ9 => ktr_units); (case kHZ9 => trivial); clear lF' lN')); intro v9 h9 tk9 F9 N9 st9 o9; obtain ⟨t9, e9⟩ := o9; subst e9; (try dsimp only); (try k_fold))) | ((k_here; (with_reducible show wpAny _ _ (call (Value.type _) [Value.ref _]) _ _ _); (rename IsRange _ _ _ _ _ _ _ _ => rgX); (with_unfolding_all refine' list_step ?k0Z9 ?k1Z9 ?k2Z9 ?k3Z9 ?k4Z9 ?k5Z9 ?k6Z9 ?_; (case k0Z9 => rfl); (case k1Z9 => k_asm); (case k2Z9 => k_asm); (case k3Z9 => exact rgX); (case k4Z9 => exact small_two (by omega) (by omega)); (case k5Z9 => exact range_two (by omega)); (case k6Z9 => omega)); intro _ _ _ _ _ _ _ l1 _; (try k_lt l1))) | ((k_here; (with_reducible show wpAny _ _ (subscriptTail _ (Expr.Slice none (some _) none _) _ _) _ _ _); (with_reducible rename Fr _ _ _ _ => F'); (with_reducible rename News _ _ _ _ => N'); (refine slice_none (s := ⟨_, _, _, _, _⟩) F' N' ?_ (hsz := ?hszZ9)); (case hszZ9 => (rw [sizeLine_eq]; omega)); intro _ _ _ _ _)) | ((k_here; k_openite; first | (refine ite_pos ?hxZ9 ?_; (case hxZ9 => first | with_reducible assumption | (simp only [decide_eq_true_eq, decide_eq_false_iff_not, Bool.not_eq_true', Bool.not_eq_false', bne_iff_ne, ne_eq]; omega))) | (refine ite_neg ?hxZ9 ?_; (case hxZ9 => first | with_reducible assumption | (simp only [decide_eq_true_eq, decide_eq_false_iff_not, Bool.not_eq_true', Bool.not_eq_false', bne_iff_ne, ne_eq, Bool.not_eq_true, Decidable.not_not]; omega))) | (refine ite_b (fun hc => ?_) (fun hc => ?_) <;> (try simp only [decide_eq_true_eq, decide_eq_false_iff_not, Bool.not_eq_true', Bool.not_eq_false', bne_iff_ne, ne_eq, bne_eq_false_iff_eq, Decidable.not_not, Int.not_lt, Int.not_le] at hc)))) | (fail_if_success (with_reducible show wpAny _ _ (exec (Stmt.While _ _ _ _) _) _ _ _)); (fail_if_success (with_reducible show wpAny _ _ (exec (Stmt.For _ _ _ _ _) _) _ _ _)); (fail_if_success (with_reducible show wpAny _ _ (pyIter _) _ _ _)); (fail_if_success (with_reducible show InvEndN _ _ _ _ _ _ _)); (fail_if_success (with_reducible show GEnd _ _ _ _ _ _ _)); (fail_if_success (with_reducible show GPost _ _ _ _ _ _ _ _ _)); first | (k_unfold; (try dsimp only)) | walk1 | (dsimp only; walk1) | (leave1; try dsimp only) | fail "no step"))))
      rename_i D us c h9 tk9 hI h8 h7 F8 N8 e9 h6 tk6 t1 u1 v1 hR F9 N9 st9
      k_dflt (refine' kst_range (n := B3.length) (σ := OutSt) (outLed D) outPs outFa outStored (outP A3 B3 mc) ((0, _), (us, rangeInts 2 2 A3.length, c))
                    rfl hR (small_0 (by omega) (by omega)) (range_one _) F9 N9 hI ?kk ⟨rfl, rangeInts_length _ _ _⟩ ?kt ?kd)
      case kk => kst_all
      case kd =>
        clear F8 N8 F9 N9 st9 hR
        refine' pO ?_
        intro res tres us1 row1 c1 u h tk hI1 qq F9 N9
        have hP := And.left qq
        have hlen1 := And.right qq
        clear qq
        dsimp only at hP hlen1
        dsimp only [outLed] at N9
        dsimp only [outPs, outStored] at F9
        (try k_fold)
        (repeat' (first | ((k_here; (with_reducible show wpAny _ _ (setItem (Value.ref _) (Value.int _ _) (Value.int _ _)) _ _ _); k_dflt (refine' ksa_set ?k1Z9 ?k2Z9 (Upd.head ?k3Z9) ?k4Z9 ?k5Z9 ?k6Z9 ?k7Z9 ?_; (case k1Z9 => k_asm); (case k2Z9 => k_asm); (case k3Z9 => assumption); (case k4Z9 => assumption); (case k5Z9 => omega); (case k6Z9 => omega); (case k7Z9 => omega)); intro h' F' N' hi' hl' hs')) | (((with_reducible show wpAny _ _ (call (Value.ref _) [Value.str _ _, Value.str _ _]) _ _ _); ((k_here; (rename Fr _ _ _ _ => lF'); (rename News _ _ _ _ => lN'); k_dflt (refine' use_cl (sub_claim _ _ _ _ _ (by omega) (by omega)) ?k1Z9 lF' ?k3Z9 lN' ?k5Z9 ?kKZ9 ?kdZ9 ?kuZ9 ?kHZ9 ?_); (case k1Z9 => k_asm); (case k3Z9 => k_asm); (case k5Z9 => k_asm); (case kKZ9 => first | exact rfl | assumption); (case kdZ9 => ktr_room); (case kuZ9 => ktr_units); (case kHZ9 => trivial); clear lF' lN')); intro v9 h9 tk9 F9 N9 st9 o9; obtain ⟨t9, e9⟩ := o9; subst e9; (try dsimp only); (try k_fold))) | ((k_here; (with_reducible show wpAny _ _ (call (Value.type _) [Value.ref _]) _ _ _); (rename IsRange _ _ _ _ _ _ _ _ => rgX); (with_unfolding_all refine' list_step ?k0Z9 ?k1Z9 ?k2Z9 ?k3Z9 ?k4Z9 ?k5Z9 ?k6Z9 ?_; (case k0Z9 => rfl); (case k1Z9 => k_asm); (case k2Z9 => k_asm); (case k3Z9 => exact rgX); (case k4Z9 => exact small_two (by omega) (by omega)); (case k5Z9 => exact range_two (by omega)); (case k6Z9 => omega)); intro _ _ _ _ _ _ _ l1 _; (try k_lt l1))) | ((k_here; (with_reducible show wpAny _ _ (subscriptTail _ (Expr.Slice none (some _) none _) _ _) _ _ _); (with_reducible rename Fr _ _ _ _ => F'); (with_reducible rename News _ _ _ _ => N'); (refine slice_none (s := ⟨_, _, _, _, _⟩) F' N' ?_ (hsz := ?hszZ9)); (case hszZ9 => (rw [sizeLine_eq]; omega)); intro _ _ _ _ _)) | ((k_here; k_openite; first | (refine ite_pos ?hxZ9 ?_; (case hxZ9 => first | with_reducible assumption | (simp only [decide_eq_true_eq, decide_eq_false_iff_not, Bool.not_eq_true', Bool.not_eq_false', bne_iff_ne, ne_eq]; omega))) | (refine ite_neg ?hxZ9 ?_; (case hxZ9 => first | with_reducible assumption | (simp only [decide_eq_true_eq, decide_eq_false_iff_not, Bool.not_eq_true', Bool.not_eq_false', bne_iff_ne, ne_eq, Bool.not_eq_true, Decidable.not_not]; omega))) | (refine ite_b (fun hc => ?_) (fun hc => ?_) <;> (try simp only [decide_eq_true_eq, decide_eq_false_iff_not, Bool.not_eq_true', Bool.not_eq_false', bne_iff_ne, ne_eq, bne_eq_false_iff_eq, Decidable.not_not, Int.not_lt, Int.not_le] at hc)))) | (fail_if_success (with_reducible show wpAny _ _ (exec (Stmt.While _ _ _ _) _) _ _ _)); (fail_if_success (with_reducible show wpAny _ _ (exec (Stmt.For _ _ _ _ _) _) _ _ _)); (fail_if_success (with_reducible show wpAny _ _ (pyIter _) _ _ _)); (fail_if_success (with_reducible show InvEndN _ _ _ _ _ _ _)); (fail_if_success (with_reducible show GEnd _ _ _ _ _ _ _)); (fail_if_success (with_reducible show GPost _ _ _ _ _ _ _ _ _)); first | (k_unfold; (try dsimp only)) | walk1 | (dsimp only; walk1) | (leave1; try dsimp only) | fail "no step"))
        (( (rename (∀ (v : Value) (h' : Heap) (tk' : Nat), Heap.StaysIn _ h' → _ → _) => hret9); (rename (_ = Shared.heap _) => hg9); refine' ret_ hret9 hg9 ?kFZ9 ?keZ9 ?_; (case kFZ9 => assumption); (case keZ9 => exact rfl); (try dsimp only)))
        exact oInt ((outer_done hP).trans ((tail_near hcn).trans (lev_long (by assumption) hAe hBe hA2e hB2e hlen hA3e hB3e)))
      clear F8 N8 F9 N9 st9 hR
      refine' pO ?_
      intro res tres us1 row1 c1 pre k t u h tk own hk hpre hoff hI1 qq F9 N9
      have hP := And.left qq
      have hlen1 := And.right qq
      clear qq
      dsimp only at hP hlen1
      dsimp only [outLed] at N9
      dsimp only [outPs, outStored] at F9
      have hI1 : IntsAre us1 row1 := hI1
      (try k_fold)
      (repeat' (first | ((k_here; (with_reducible show wpAny _ _ (setItem (Value.ref _) (Value.int _ _) (Value.int _ _)) _ _ _); k_dflt (refine' ksa_set ?k1Z9 ?k2Z9 (Upd.head ?k3Z9) ?k4Z9 ?k5Z9 ?k6Z9 ?k7Z9 ?_; (case k1Z9 => k_asm); (case k2Z9 => k_asm); (case k3Z9 => assumption); (case k4Z9 => assumption); (case k5Z9 => omega); (case k6Z9 => omega); (case k7Z9 => omega)); intro h' F' N' hi' hl' hs')) | (((with_reducible show wpAny _ _ (call (Value.ref _) [Value.str _ _, Value.str _ _]) _ _ _); ((k_here; (rename Fr _ _ _ _ => lF'); (rename News _ _ _ _ => lN'); k_dflt (refine' use_cl (sub_claim _ _ _ _ _ (by omega) (by omega)) ?k1Z9 lF' ?k3Z9 lN' ?k5Z9 ?kKZ9 ?kdZ9 ?kuZ9 ?kHZ9 ?_); (case k1Z9 => k_asm); (case k3Z9 => k_asm); (case k5Z9 => k_asm); (case kKZ9 => first | exact rfl | assumption); (case kdZ9 => ktr_room); (case kuZ9 => ktr_units); (case kHZ9 => trivial); clear lF' lN')); intro v9 h9 tk9 F9 N9 st9 o9; obtain ⟨t9, e9⟩ := o9; subst e9; (try dsimp only); (try k_fold))) | ((k_here; (with_reducible show wpAny _ _ (call (Value.type _) [Value.ref _]) _ _ _); (rename IsRange _ _ _ _ _ _ _ _ => rgX); (with_unfolding_all refine' list_step ?k0Z9 ?k1Z9 ?k2Z9 ?k3Z9 ?k4Z9 ?k5Z9 ?k6Z9 ?_; (case k0Z9 => rfl); (case k1Z9 => k_asm); (case k2Z9 => k_asm); (case k3Z9 => exact rgX); (case k4Z9 => exact small_two (by omega) (by omega)); (case k5Z9 => exact range_two (by omega)); (case k6Z9 => omega)); intro _ _ _ _ _ _ _ l1 _; (try k_lt l1))) | ((k_here; (with_reducible show wpAny _ _ (subscriptTail _ (Expr.Slice none (some _) none _) _ _) _ _ _); (with_reducible rename Fr _ _ _ _ => F'); (with_reducible rename News _ _ _ _ => N'); (refine slice_none (s := ⟨_, _, _, _, _⟩) F' N' ?_ (hsz := ?hszZ9)); (case hszZ9 => (rw [sizeLine_eq]; omega)); intro _ _ _ _ _)) | ((k_here; k_openite; first | (refine ite_pos ?hxZ9 ?_; (case hxZ9 => first | with_reducible assumption | (simp only [decide_eq_true_eq, decide_eq_false_iff_not, Bool.not_eq_true', Bool.not_eq_false', bne_iff_ne, ne_eq]; omega))) | (refine ite_neg ?hxZ9 ?_; (case hxZ9 => first | with_reducible assumption | (simp only [decide_eq_true_eq, decide_eq_false_iff_not, Bool.not_eq_true', Bool.not_eq_false', bne_iff_ne, ne_eq, Bool.not_eq_true, Decidable.not_not]; omega))) | (refine ite_b (fun hc => ?_) (fun hc => ?_) <;> (try simp only [decide_eq_true_eq, decide_eq_false_iff_not, Bool.not_eq_true', Bool.not_eq_false', bne_iff_ne, ne_eq, bne_eq_false_iff_eq, Decidable.not_not, Int.not_lt, Int.not_le] at hc)))) | (fail_if_success (with_reducible show wpAny _ _ (exec (Stmt.While _ _ _ _) _) _ _ _)); (fail_if_success (with_reducible show wpAny _ _ (exec (Stmt.For _ _ _ _ _) _) _ _ _)); (fail_if_success (with_reducible show wpAny _ _ (pyIter _) _ _ _)); (fail_if_success (with_reducible show InvEndN _ _ _ _ _ _ _)); (fail_if_success (with_reducible show GEnd _ _ _ _ _ _ _)); (fail_if_success (with_reducible show GPost _ _ _ _ _ _ _ _ _)); first | (k_unfold; (try dsimp only)) | walk1 | (dsimp only; walk1) | (leave1; try dsimp only) | fail "no step"))
      clear F9 N9
      (((with_unfolding_all refine' For_invVF ?kZZ9 ?k1Z9 ?k2Z9 ?_); (case kZZ9 => k_dflt assumption); (with_unfolding_all ((case k1Z9 => exact rfl); (case k2Z9 => exact rfl); k_whole)); (repeat' (first | ((k_here; (with_reducible show wpAny _ _ (setItem (Value.ref _) (Value.int _ _) (Value.int _ _)) _ _ _); k_dflt (refine' ksa_set ?k1Z9 ?k2Z9 (Upd.head ?k3Z9) ?k4Z9 ?k5Z9 ?k6Z9 ?k7Z9 ?_; (case k1Z9 => k_asm); (case k2Z9 => k_asm); (case k3Z9 => assumption); (case k4Z9 => assumption); (case k5Z9 => omega); (case k6Z9 => omega); (case k7Z9 => omega)); intro h' F' N' hi' hl' hs')) | (((with_reducible show wpAny _ _ (call (Value.ref _) [Value.str _ _, Value.str _ _]) _ _ _); ((k_here; (rename Fr _ _ _ _ => lF'); (rename News _ _ _ _ => lN'); k_dflt (refine' use_cl (sub_claim _ _ _ _ _ (by omega) (by omega)) ?k1Z9 lF' ?k3Z9 lN' ?k5Z9 ?kKZ9 ?kdZ9 ?kuZ9 ?kHZ9 ?_); (case k1Z9 => k_asm); (case k3Z9 => k_asm); (case k5Z9 => k_asm); (case kKZ9 => first | exact rfl | assumption); (case kdZ9 => ktr_room); (case kuZ9 => ktr_units); (case kHZ9 => trivial); clear lF' lN')); intro v9 h9 tk9 F9 N9 st9 o9; obtain ⟨t9, e9⟩ := o9; subst e9; (try dsimp only); (try k_fold))) | ((k_here; (with_reducible show wpAny _ _ (call (Value.type _) [Value.ref _]) _ _ _); (rename IsRange _ _ _ _ _ _ _ _ => rgX); (with_unfolding_all refine' list_step ?k0Z9 ?k1Z9 ?k2Z9 ?k3Z9 ?k4Z9 ?k5Z9 ?k6Z9 ?_; (case k0Z9 => rfl); (case k1Z9 => k_asm); (case k2Z9 => k_asm); (case k3Z9 => exact rgX); (case k4Z9 => exact small_two (by omega) (by omega)); (case k5Z9 => exact range_two (by omega)); (case k6Z9 => omega)); intro _ _ _ _ _ _ _ l1 _; (try k_lt l1))) | ((k_here; (with_reducible show wpAny _ _ (subscriptTail _ (Expr.Slice none (some _) none _) _ _) _ _ _); (with_reducible rename Fr _ _ _ _ => F'); (with_reducible rename News _ _ _ _ => N'); (refine slice_none (s := ⟨_, _, _, _, _⟩) F' N' ?_ (hsz := ?hszZ9)); (case hszZ9 => (rw [sizeLine_eq]; omega)); intro _ _ _ _ _)) | ((k_here; k_openite; first | (refine ite_pos ?hxZ9 ?_; (case hxZ9 => first | with_reducible assumption | (simp only [decide_eq_true_eq, decide_eq_false_iff_not, Bool.not_eq_true', Bool.not_eq_false', bne_iff_ne, ne_eq]; omega))) | (refine ite_neg ?hxZ9 ?_; (case hxZ9 => first | with_reducible assumption | (simp only [decide_eq_true_eq, decide_eq_false_iff_not, Bool.not_eq_true', Bool.not_eq_false', bne_iff_ne, ne_eq, Bool.not_eq_true, Decidable.not_not]; omega))) | (refine ite_b (fun hc => ?_) (fun hc => ?_) <;> (try simp only [decide_eq_true_eq, decide_eq_false_iff_not, Bool.not_eq_true', Bool.not_eq_false', bne_iff_ne, ne_eq, bne_eq_false_iff_eq, Decidable.not_not, Int.not_lt, Int.not_le] at hc)))) | (fail_if_success (with_reducible show wpAny _ _ (exec (Stmt.While _ _ _ _) _) _ _ _)); (fail_if_success (with_reducible show wpAny _ _ (exec (Stmt.For _ _ _ _ _) _) _ _ _)); (fail_if_success (with_reducible show wpAny _ _ (pyIter _) _ _ _)); (fail_if_success (with_reducible show InvEndN _ _ _ _ _ _ _)); (fail_if_success (with_reducible show GEnd _ _ _ _ _ _ _)); (fail_if_success (with_reducible show GPost _ _ _ _ _ _ _ _ _)); first | (k_unfold; (try dsimp only)) | walk1 | (dsimp only; walk1) | (leave1; try dsimp only) | fail "no step"))))
      rename_i e9 h6 tk6 t1 u1 v1 hR F9 N9 st9
      k_dflt (refine' kst_range (n := A3.length) (σ := InSt) (inLed D own) inPs inFa inStored (inP A3 (Txt.item B3 k) k row1) ((k * 2, _), (k * 2, _), (9223372036854775807, _), (us1, row1, c1))
                    rfl hR (small_0 (by omega) (by omega)) (range_one _) F9 N9 hI1 ?kk2 rfl ?kt2 ?kd2)
      case kk2 => kst_all
      case kt2 =>
        clear F9 N9 st9 hR
        refine' pI ?_
        intro d td r tr mn tm us2 row2 c2 pre2 i t2 u2 h tk own2 hi hpre2 hoff2 hI2 hP2 F9 N9
        have hlen2 : row2.length = A3.length := by
          have h1 := congrArg (fun x : Int × Int × Int × List Int => x.2.2.2.length) hP2
          dsimp only [inP] at h1
          rw [fold_row] at h1
          exact h1.trans hlen1
        have hI2 : IntsAre us2 row2 := hI2
        have hne : ∀ p ∈ own ++ own2, p.1 ≠ D := by
          intro p hp
          rcases List.mem_append.mp hp with hp | hp
          · exact hoff p hp D (by simp)
          · exact hoff2 p hp D (by simp)
        dsimp only [inLed] at N9
        replace N9 := news_flat N9
        generalize hrest : own ++ own2 = rest at hne N9
        dsimp only [inPs, inStored] at F9
        dsimp only [inP] at hP2
        (try k_fold)
        (repeat' (first | ((k_here; (with_reducible show wpAny _ _ (setItem (Value.ref _) (Value.int _ _) (Value.int _ _)) _ _ _); k_dflt (refine' ksa_set ?k1Z9 ?k2Z9 (Upd.head ?k3Z9) ?k4Z9 ?k5Z9 ?k6Z9 ?k7Z9 ?_; (case k1Z9 => k_asm); (case k2Z9 => k_asm); (case k3Z9 => assumption); (case k4Z9 => assumption); (case k5Z9 => omega); (case k6Z9 => omega); (case k7Z9 => omega)); intro h' F' N' hi' hl' hs')) | (((with_reducible show wpAny _ _ (call (Value.ref _) [Value.str _ _, Value.str _ _]) _ _ _); ((k_here; (rename Fr _ _ _ _ => lF'); (rename News _ _ _ _ => lN'); k_dflt (refine' use_cl (sub_claim _ _ _ _ _ (by omega) (by omega)) ?k1Z9 lF' ?k3Z9 lN' ?k5Z9 ?kKZ9 ?kdZ9 ?kuZ9 ?kHZ9 ?_); (case k1Z9 => k_asm); (case k3Z9 => k_asm); (case k5Z9 => k_asm); (case kKZ9 => first | exact rfl | assumption); (case kdZ9 => ktr_room); (case kuZ9 => ktr_units); (case kHZ9 => trivial); clear lF' lN')); intro v9 h9 tk9 F9 N9 st9 o9; obtain ⟨t9, e9⟩ := o9; subst e9; (try dsimp only); (try k_fold))) | ((k_here; (with_reducible show wpAny _ _ (call (Value.type _) [Value.ref _]) _ _ _); (rename IsRange _ _ _ _ _ _ _ _ => rgX); (with_unfolding_all refine' list_step ?k0Z9 ?k1Z9 ?k2Z9 ?k3Z9 ?k4Z9 ?k5Z9 ?k6Z9 ?_; (case k0Z9 => rfl); (case k1Z9 => k_asm); (case k2Z9 => k_asm); (case k3Z9 => exact rgX); (case k4Z9 => exact small_two (by omega) (by omega)); (case k5Z9 => exact range_two (by omega)); (case k6Z9 => omega)); intro _ _ _ _ _ _ _ l1 _; (try k_lt l1))) | ((k_here; (with_reducible show wpAny _ _ (subscriptTail _ (Expr.Slice none (some _) none _) _ _) _ _ _); (with_reducible rename Fr _ _ _ _ => F'); (with_reducible rename News _ _ _ _ => N'); (refine slice_none (s := ⟨_, _, _, _, _⟩) F' N' ?_ (hsz := ?hszZ9)); (case hszZ9 => (rw [sizeLine_eq]; omega)); intro _ _ _ _ _)) | ((k_here; k_openite; first | (refine ite_pos ?hxZ9 ?_; (case hxZ9 => first | with_reducible assumption | (simp only [decide_eq_true_eq, decide_eq_false_iff_not, Bool.not_eq_true', Bool.not_eq_false', bne_iff_ne, ne_eq]; omega))) | (refine ite_neg ?hxZ9 ?_; (case hxZ9 => first | with_reducible assumption | (simp only [decide_eq_true_eq, decide_eq_false_iff_not, Bool.not_eq_true', Bool.not_eq_false', bne_iff_ne, ne_eq, Bool.not_eq_true, Decidable.not_not]; omega))) | (refine ite_b (fun hc => ?_) (fun hc => ?_) <;> (try simp only [decide_eq_true_eq, decide_eq_false_iff_not, Bool.not_eq_true', Bool.not_eq_false', bne_iff_ne, ne_eq, bne_eq_false_iff_eq, Decidable.not_not, Int.not_lt, Int.not_le] at hc)))) | (fail_if_success (with_reducible show wpAny _ _ (exec (Stmt.While _ _ _ _) _) _ _ _)); (fail_if_success (with_reducible show wpAny _ _ (exec (Stmt.For _ _ _ _ _) _) _ _ _)); (fail_if_success (with_reducible show wpAny _ _ (pyIter _) _ _ _)); (fail_if_success (with_reducible show InvEndN _ _ _ _ _ _ _)); (fail_if_success (with_reducible show GEnd _ _ _ _ _ _ _)); (fail_if_success (with_reducible show GPost _ _ _ _ _ _ _ _ _)); first | (k_unfold; (try dsimp only)) | walk1 | (dsimp only; walk1) | (leave1; try dsimp only) | fail "no step"))
        all_goals ((refine' inner_end ?eFZ9 ?eNZ9 ?erZ9 ?eIZ9 ?kdZ9 ?krZ9 ?kmZ9 ?hrZ9 ?hpZ9; (case eFZ9 => assumption); (case eNZ9 => assumption); (case erZ9 => assumption); (case eIZ9 => assumption); (case kdZ9 => exact rfl); (case krZ9 => exact rfl); (case kmZ9 => exact rfl); (case hrZ9 => (intro z h1 h2 h3 h4 h5 h6; simp only [h1, h2, h3, h4, h5, h6, if_false, kstB, List.contains_cons, List.contains_nil, beq_iff_eq, Bool.or_eq_true, Bool.false_eq_true, or_self, false_or, or_false])); (case hpZ9 => first | exact in_turn (by assumption) ((if_pos (by assumption)).symm) | exact in_turn (by assumption) ((if_neg (Int.not_lt.mpr (by assumption))).symm))))
      clear F9 N9 st9 hR
      refine' pI ?_
      intro d td r tr mn tm us2 row2 c2 u2 h tk hI2 hP2 F9 N9
      have hin : (d, r, mn, row2) = inner A3 (Txt.item B3 k) k row1 := hP2
      have hI2 : IntsAre us2 row2 := hI2
      dsimp only [inLed] at N9
      dsimp only [inPs, inStored] at F9
      (try k_fold)
      (repeat' (first | ((k_here; (with_reducible show wpAny _ _ (setItem (Value.ref _) (Value.int _ _) (Value.int _ _)) _ _ _); k_dflt (refine' ksa_set ?k1Z9 ?k2Z9 (Upd.head ?k3Z9) ?k4Z9 ?k5Z9 ?k6Z9 ?k7Z9 ?_; (case k1Z9 => k_asm); (case k2Z9 => k_asm); (case k3Z9 => assumption); (case k4Z9 => assumption); (case k5Z9 => omega); (case k6Z9 => omega); (case k7Z9 => omega)); intro h' F' N' hi' hl' hs')) | (((with_reducible show wpAny _ _ (call (Value.ref _) [Value.str _ _, Value.str _ _]) _ _ _); ((k_here; (rename Fr _ _ _ _ => lF'); (rename News _ _ _ _ => lN'); k_dflt (refine' use_cl (sub_claim _ _ _ _ _ (by omega) (by omega)) ?k1Z9 lF' ?k3Z9 lN' ?k5Z9 ?kKZ9 ?kdZ9 ?kuZ9 ?kHZ9 ?_); (case k1Z9 => k_asm); (case k3Z9 => k_asm); (case k5Z9 => k_asm); (case kKZ9 => first | exact rfl | assumption); (case kdZ9 => ktr_room); (case kuZ9 => ktr_units); (case kHZ9 => trivial); clear lF' lN')); intro v9 h9 tk9 F9 N9 st9 o9; obtain ⟨t9, e9⟩ := o9; subst e9; (try dsimp only); (try k_fold))) | ((k_here; (with_reducible show wpAny _ _ (call (Value.type _) [Value.ref _]) _ _ _); (rename IsRange _ _ _ _ _ _ _ _ => rgX); (with_unfolding_all refine' list_step ?k0Z9 ?k1Z9 ?k2Z9 ?k3Z9 ?k4Z9 ?k5Z9 ?k6Z9 ?_; (case k0Z9 => rfl); (case k1Z9 => k_asm); (case k2Z9 => k_asm); (case k3Z9 => exact rgX); (case k4Z9 => exact small_two (by omega) (by omega)); (case k5Z9 => exact range_two (by omega)); (case k6Z9 => omega)); intro _ _ _ _ _ _ _ l1 _; (try k_lt l1))) | ((k_here; (with_reducible show wpAny _ _ (subscriptTail _ (Expr.Slice none (some _) none _) _ _) _ _ _); (with_reducible rename Fr _ _ _ _ => F'); (with_reducible rename News _ _ _ _ => N'); (refine slice_none (s := ⟨_, _, _, _, _⟩) F' N' ?_ (hsz := ?hszZ9)); (case hszZ9 => (rw [sizeLine_eq]; omega)); intro _ _ _ _ _)) | ((k_here; k_openite; first | (refine ite_pos ?hxZ9 ?_; (case hxZ9 => first | with_reducible assumption | (simp only [decide_eq_true_eq, decide_eq_false_iff_not, Bool.not_eq_true', Bool.not_eq_false', bne_iff_ne, ne_eq]; omega))) | (refine ite_neg ?hxZ9 ?_; (case hxZ9 => first | with_reducible assumption | (simp only [decide_eq_true_eq, decide_eq_false_iff_not, Bool.not_eq_true', Bool.not_eq_false', bne_iff_ne, ne_eq, Bool.not_eq_true, Decidable.not_not]; omega))) | (refine ite_b (fun hc => ?_) (fun hc => ?_) <;> (try simp only [decide_eq_true_eq, decide_eq_false_iff_not, Bool.not_eq_true', Bool.not_eq_false', bne_iff_ne, ne_eq, bne_eq_false_iff_eq, Decidable.not_not, Int.not_lt, Int.not_le] at hc)))) | (fail_if_success (with_reducible show wpAny _ _ (exec (Stmt.While _ _ _ _) _) _ _ _)); (fail_if_success (with_reducible show wpAny _ _ (exec (Stmt.For _ _ _ _ _) _) _ _ _)); (fail_if_success (with_reducible show wpAny _ _ (pyIter _) _ _ _)); (fail_if_success (with_reducible show InvEndN _ _ _ _ _ _ _)); (fail_if_success (with_reducible show GEnd _ _ _ _ _ _ _)); (fail_if_success (with_reducible show GPost _ _ _ _ _ _ _ _ _)); first | (k_unfold; (try dsimp only)) | walk1 | (dsimp only; walk1) | (leave1; try dsimp only) | fail "no step"))
      · (( (rename (∀ (v : Value) (h' : Heap) (tk' : Nat), Heap.StaysIn _ h' → _ → _) => hret9); (rename (_ = Shared.heap _) => hg9); refine' ret_ hret9 hg9 ?kFZ9 ?keZ9 ?_; (case kFZ9 => assumption); (case keZ9 => exact rfl); (try dsimp only)))
        exact oInt ((outer_ret hP hk hpre hin (by assumption)).trans ((tail_near hcn).trans (lev_long (by assumption) hAe hBe hA2e hB2e hlen hA3e hB3e)))
      ((refine' outer_end ?eFZ9 ?eNZ9 ?eIZ9 ?krZ9 ?hrZ9 ?hPZ9 ?hlZ9 ?hkZ9 ?hnZ9 ?hinZ9 ?hZ9; (case eFZ9 => assumption); (case eNZ9 => assumption); (case eIZ9 => assumption); (case krZ9 => exact rfl); (case hrZ9 => (intro z h1 h2 h3 h4 h5 h6 h7 h8; simp only [h1, h2, h3, h4, h5, h6, h7, h8, if_false, kstB, List.contains_cons, List.contains_nil, beq_iff_eq, Bool.or_eq_true, Bool.false_eq_true, or_self, false_or, or_false])); (case hPZ9 => assumption); (case hlZ9 => assumption); (case hkZ9 => assumption); (case hnZ9 => assumption); (case hinZ9 => assumption); (case hZ9 => assumption)))

-- ws_mac

-- ws_body
/-- the world of a call: what a walk needs of its caller -/
theorem ws_claim (w : World) (y : PySem.Str) (ty : Tok) (p q : Nat) (tail : List Nat) (hy : y.cps.toList = List.replicate p 9 ++ (List.replicate q 32 ++ tail)) (htail : tail = [] ∨ tail = [120]) (hp : p ≤ 20) (hq : q ≤ 20)
    (mean : ExcName → Option Value) (mg mb : PySem.Str → Option Value) (dp un : Nat) (gd : Option (List Code)) (cn : PySem.Str) (cs : Scope) (a : Addr) (ccd : Value) (cl : List (PySem.Str × Addr)) (outer : List Env) (A₀ : Around) (base h₀ : Heap) (L : Addr) (m : PySem.Str → Option Value) (s : Shared) (Q E : Value → Shared → Prop) (news : List (Addr × Obj))
    (B : Below A₀ base outer h₀) (F : Fr h₀ L s.heap m) (X : (hd.heap_39 w.params).In h₀) (N : News h₀ L s.heap news) (T : Top hd.view_39 (looseW hd.view_39 [PySem.Str.ofString "Whitespace"]) mean mg mb h₀) (hk : cs.kind = .function) (hdp : dp + 2 < recursionLimit) (hu : un + 16 < cLine)
    (hret : ∀ x dx nm ct cs T h' tk', ((p = 0 ∧ cs = []) ∨ (0 < p ∧ ∃ tc, cs = [.int (p : Nat) tc])) → Fr h₀ L h' m → News h₀ L h' (wsObjs 83 w x dx nm ct y (p + q : Nat) (p : Nat) (q : Nat) cs T ++ news) → (∀ p ∈ news, p.1 < dx) → @LT.lt Nat _ dx x → @LT.lt Nat _ x ct → @LT.lt Nat _ ct nm → Q (.ref x) { s with heap := h', toks := tk' }) :
    wpAny (model PySem.Challenge.pw_pg0263_02 w) (ktrTop dp un gd cn cs L a ccd cl outer) (call (.ref 83) [.str y ty]) Q E s := by
  w_on
  k_dflt (refine' call_cls ?k1 ?k2 ?k3 ?k4 ?k5 ?k6 ?_; (case k1 => k_asm); (case k2 => k_asm); (case k3 => k_asm); (case k4 => k_is); (case k5 => k_is); (case k6 => k_is))
  intro x dx h1 F1 N1 l1 l2
  k_dflt (refine' enter_code [(x, instObj 83 dx), (dx, dictOf [] 0)] B F1 X ?c1 T ?cA ?cF ?cK ?c6 ?c7 ?c8 ?c9 ?cB ?_ ?d2 ?d3 ?d4 ?d5)
  case c1 => exact fun p hp => N1 p (by simp only [List.mem_cons, List.not_mem_nil, or_false] at hp ⊢; rcases hp with rfl | rfl <;> simp)
  case cA => exact rfl
  case cF => exact rfl
  case cK => assumption
  case c6 => k_is
  case c7 => k_is
  case c8 => ktr_room
  case c9 => exact BindsTo.of_eq rfl
  case cB => exact locs rfl
  case d2 => exact rfl
  case d3 => exact rfl
  case d4 => exact rfl
  case d5 => decide
  intro g L' h2 hg F2 N2 B2 X2 T2
  have hback := back_ (own := [(x, instObj 83 dx), (dx, dictOf [] 0)]) F1 N1 (fun p hp => by have h1 := l1 p hp; intro hm; simp only [List.map_cons, List.map_nil, List.mem_cons, List.not_mem_nil, or_false] at hm; rcases hm with hm | hm <;> rw [hm] at h1; exact Nat.lt_irrefl _ (Nat.lt_trans h1 l2); exact Nat.lt_irrefl _ h1) hg
  clear F1 N1
  (try dsimp only); (try k_lift B2); (try k_fold)
  k_lt2 l2
  (repeat' (first | ((k_here; (with_reducible show wpAny _ _ (call (Value.type _) [Value.ref _]) _ _ _); (rename IsRange _ _ _ _ _ _ _ _ => rgX); (with_unfolding_all refine' list_step ?k0Z9 ?k1Z9 ?k2Z9 ?k3Z9 ?k4Z9 ?k5Z9 ?k6Z9 ?_; (case k0Z9 => rfl); (case k1Z9 => k_asm); (case k2Z9 => k_asm); (case k3Z9 => exact rgX); (case k4Z9 => exact small_two (by omega) (by omega)); (case k5Z9 => exact range_two (by omega)); (case k6Z9 => omega)); intro _ _ _ _ _ _ _ l1 _; (try k_lt l1))) | ((k_here; (with_reducible show wpAny _ _ (subscriptTail _ (Expr.Slice none (some _) none _) _ _) _ _ _); (with_reducible rename Fr _ _ _ _ => F'); (with_reducible rename News _ _ _ _ => N'); (refine slice_none (s := ⟨_, _, _, _, _⟩) F' N' ?_ (hsz := ?hszZ9)); (case hszZ9 => (rw [sizeLine_eq]; omega)); intro _ _ _ _ _)) | ((k_here; k_openite; first | (refine ite_pos ?hxZ9 ?_; (case hxZ9 => first | with_reducible assumption | (simp only [decide_eq_true_eq, decide_eq_false_iff_not, Bool.not_eq_true', Bool.not_eq_false', bne_iff_ne, ne_eq]; omega))) | (refine ite_neg ?hxZ9 ?_; (case hxZ9 => first | with_reducible assumption | (simp only [decide_eq_true_eq, decide_eq_false_iff_not, Bool.not_eq_true', Bool.not_eq_false', bne_iff_ne, ne_eq, Bool.not_eq_true, Decidable.not_not]; omega))) | (refine ite_b (fun hc => ?_) (fun hc => ?_) <;> (try simp only [decide_eq_true_eq, decide_eq_false_iff_not, Bool.not_eq_true', Bool.not_eq_false', bne_iff_ne, ne_eq, bne_eq_false_iff_eq, Decidable.not_not, Int.not_lt, Int.not_le] at hc)))) | (fail_if_success (with_reducible show wpAny _ _ (exec (Stmt.While _ _ _ _) _) _ _ _)); (fail_if_success (with_reducible show wpAny _ _ (exec (Stmt.For _ _ _ _ _) _) _ _ _)); (fail_if_success (with_reducible show wpAny _ _ (pyIter _) _ _ _)); (fail_if_success (with_reducible show InvEndN _ _ _ _ _ _ _)); (fail_if_success (with_reducible show GEnd _ _ _ _ _ _ _)); (fail_if_success (with_reducible show GPost _ _ _ _ _ _ _ _ _)); first | (k_unfold; (try dsimp only)) | walk1 | (dsimp only; walk1) | (leave1; try dsimp only) | fail "no step"))
  (((with_unfolding_all refine' For_invVF ?kZZ9 ?k1Z9 ?k2Z9 ?_); (case kZZ9 => k_dflt assumption); (with_unfolding_all ((case k1Z9 => exact rfl); (case k2Z9 => exact rfl); k_whole)); (repeat' (first | ((k_here; (with_reducible show wpAny _ _ (call (Value.type _) [Value.ref _]) _ _ _); (rename IsRange _ _ _ _ _ _ _ _ => rgX); (with_unfolding_all refine' list_step ?k0Z9 ?k1Z9 ?k2Z9 ?k3Z9 ?k4Z9 ?k5Z9 ?k6Z9 ?_; (case k0Z9 => rfl); (case k1Z9 => k_asm); (case k2Z9 => k_asm); (case k3Z9 => exact rgX); (case k4Z9 => exact small_two (by omega) (by omega)); (case k5Z9 => exact range_two (by omega)); (case k6Z9 => omega)); intro _ _ _ _ _ _ _ l1 _; (try k_lt l1))) | ((k_here; (with_reducible show wpAny _ _ (subscriptTail _ (Expr.Slice none (some _) none _) _ _) _ _ _); (with_reducible rename Fr _ _ _ _ => F'); (with_reducible rename News _ _ _ _ => N'); (refine slice_none (s := ⟨_, _, _, _, _⟩) F' N' ?_ (hsz := ?hszZ9)); (case hszZ9 => (rw [sizeLine_eq]; omega)); intro _ _ _ _ _)) | ((k_here; k_openite; first | (refine ite_pos ?hxZ9 ?_; (case hxZ9 => first | with_reducible assumption | (simp only [decide_eq_true_eq, decide_eq_false_iff_not, Bool.not_eq_true', Bool.not_eq_false', bne_iff_ne, ne_eq]; omega))) | (refine ite_neg ?hxZ9 ?_; (case hxZ9 => first | with_reducible assumption | (simp only [decide_eq_true_eq, decide_eq_false_iff_not, Bool.not_eq_true', Bool.not_eq_false', bne_iff_ne, ne_eq, Bool.not_eq_true, Decidable.not_not]; omega))) | (refine ite_b (fun hc => ?_) (fun hc => ?_) <;> (try simp only [decide_eq_true_eq, decide_eq_false_iff_not, Bool.not_eq_true', Bool.not_eq_false', bne_iff_ne, ne_eq, bne_eq_false_iff_eq, Decidable.not_not, Int.not_lt, Int.not_le] at hc)))) | (fail_if_success (with_reducible show wpAny _ _ (exec (Stmt.While _ _ _ _) _) _ _ _)); (fail_if_success (with_reducible show wpAny _ _ (exec (Stmt.For _ _ _ _ _) _) _ _ _)); (fail_if_success (with_reducible show wpAny _ _ (pyIter _) _ _ _)); (fail_if_success (with_reducible show InvEndN _ _ _ _ _ _ _)); (fail_if_success (with_reducible show GEnd _ _ _ _ _ _ _)); (fail_if_success (with_reducible show GPost _ _ _ _ _ _ _ _ _)); first | (k_unfold; (try dsimp only)) | walk1 | (dsimp only; walk1) | (leave1; try dsimp only) | fail "no step"))))
  rename_i h9 D1 h8 l1a h7 h6 h5 l0 h4 l1b h3 h2' h1' h0' F3 N3
  k_dflt (refine' grow_str (wsJ p q x _ _) rfl (ascii_of hy htail) F3 (news_drop2 N3) ?hJ ?turn ?done)
  case hJ =>
    refine' wsJ_intro (Nat.zero_le _) l1b.2.1 (.inl ⟨by simp, rfl⟩) rfl rfl rfl rfl ?_ ?_ ?_ (fun z _ _ _ _ _ => rfl)
    all_goals simp
  case turn =>
    intro I i c t it m₁ nx h tk hc hi hci qq1 hoff F4 N4
    refine hideG fun Gx hG => ?_
    obtain ⟨D, vs, cc, tb, tn, tt, u, hip, hxD, hvs, rfl, rfl⟩ := qq1
    refine hG ?_
    clear hG
    clear F3 N3
    have o1 := neN (hoff _ (List.mem_cons_self ..))
    have o2 := neN (hoff _ (List.mem_cons_of_mem _ (List.mem_cons_self ..)))
    have o3 := neN (hoff _ (List.mem_cons_of_mem _ (List.mem_cons_of_mem _ (List.mem_cons_self ..))))
    dsimp only at o1 o2 o3
    dsimp only [wsMap] at F4
    have hsz := size_of hy
    have htri : i < p ∨ (p ≤ i ∧ i < p + q) ∨ i = p + q := by omega
    rcases htri with hip1 | ⟨hip1, hip2⟩ | rfl
    · have hc9 := sign_tab hy hip1 hci
      subst hc9
      have e0 : ((i - p : Nat) : Int) = 0 := by omega
      have e1 : ((min i p : Nat) : Int) = (i : Int) := by omega
      simp only [e0, e1] at F4
      rcases hvs with ⟨h0, rfl⟩ | ⟨h1, tc, rfl⟩
      · (try k_fold)
        (repeat' (first | ((k_here; (with_reducible show wpAny _ _ (call (Value.type _) [Value.ref _]) _ _ _); (rename IsRange _ _ _ _ _ _ _ _ => rgX); (with_unfolding_all refine' list_step ?k0Z9 ?k1Z9 ?k2Z9 ?k3Z9 ?k4Z9 ?k5Z9 ?k6Z9 ?_; (case k0Z9 => rfl); (case k1Z9 => k_asm); (case k2Z9 => k_asm); (case k3Z9 => exact rgX); (case k4Z9 => exact small_two (by omega) (by omega)); (case k5Z9 => exact range_two (by omega)); (case k6Z9 => omega)); intro _ _ _ _ _ _ _ l1 _; (try k_lt l1))) | ((k_here; (with_reducible show wpAny _ _ (subscriptTail _ (Expr.Slice none (some _) none _) _ _) _ _ _); (with_reducible rename Fr _ _ _ _ => F'); (with_reducible rename News _ _ _ _ => N'); (refine slice_none (s := ⟨_, _, _, _, _⟩) F' N' ?_ (hsz := ?hszZ9)); (case hszZ9 => (rw [sizeLine_eq]; omega)); intro _ _ _ _ _)) | ((k_here; k_openite; first | (refine ite_pos ?hxZ9 ?_; (case hxZ9 => first | with_reducible assumption | (simp only [decide_eq_true_eq, decide_eq_false_iff_not, Bool.not_eq_true', Bool.not_eq_false', bne_iff_ne, ne_eq]; omega))) | (refine ite_neg ?hxZ9 ?_; (case hxZ9 => first | with_reducible assumption | (simp only [decide_eq_true_eq, decide_eq_false_iff_not, Bool.not_eq_true', Bool.not_eq_false', bne_iff_ne, ne_eq, Bool.not_eq_true, Decidable.not_not]; omega))) | (refine ite_b (fun hc => ?_) (fun hc => ?_) <;> (try simp only [decide_eq_true_eq, decide_eq_false_iff_not, Bool.not_eq_true', Bool.not_eq_false', bne_iff_ne, ne_eq, bne_eq_false_iff_eq, Decidable.not_not, Int.not_lt, Int.not_le] at hc)))) | (fail_if_success (with_reducible show wpAny _ _ (exec (Stmt.While _ _ _ _) _) _ _ _)); (fail_if_success (with_reducible show wpAny _ _ (exec (Stmt.For _ _ _ _ _) _) _ _ _)); (fail_if_success (with_reducible show wpAny _ _ (pyIter _) _ _ _)); (fail_if_success (with_reducible show InvEndN _ _ _ _ _ _ _)); (fail_if_success (with_reducible show GEnd _ _ _ _ _ _ _)); (fail_if_success (with_reducible show GPost _ _ _ _ _ _ _ _ _)); first | (k_unfold; (try dsimp only)) | walk1 | (dsimp only; walk1) | (leave1; try dsimp only) | fail "no step"))
        ((dsimp only [GPost]; refine' ws_end ?eFZ9 ?eNZ9 ?h1Z9 ?h2Z9 ?h3Z9 ?h4Z9 ?hIZ9 ?hDZ9 ?hRZ9 ?oDZ9 ?oRZ9 ?hiZ9 ?hxZ9 ?_ ?ebZ9 ?enZ9 ?etZ9 ?hrZ9; (case eFZ9 => assumption); (case eNZ9 => assumption); (case h1Z9 => exact rfl); (case h2Z9 => exact rfl); (case h3Z9 => exact rfl); (case h4Z9 => exact rfl); (case hIZ9 => k_mem); (case hDZ9 => k_mem); (case hRZ9 => (intro p hp; simp only [List.mem_cons, List.not_mem_nil, or_false] at hp ⊢; simp only [hp, true_or, or_true])); (case oDZ9 => (refine neN ?_; omega)); (case oRZ9 => (intro p hp; simp only [List.mem_cons, List.not_mem_nil, or_false] at hp; rcases hp with hp | hp <;> (rw [hp]; refine neN ?_; dsimp only; omega))); (case hiZ9 => omega); (case hxZ9 => omega); (case ebZ9 => omega); (case enZ9 => omega); (case etZ9 => omega); (case hrZ9 => (intro z z1 z2 z3 z4 z5; simp only [z1, z2, z3, z4, z5, if_false]))))
        have h00 : i = 0 := by omega
        subst h00
        exact .inr ⟨by omega, val_eq (by show (0 : Int) + 1 = _; omega)⟩
      · simp only [e1] at N4
        (try k_fold)
        (repeat' (first | ((k_here; (with_reducible show wpAny _ _ (call (Value.type _) [Value.ref _]) _ _ _); (rename IsRange _ _ _ _ _ _ _ _ => rgX); (with_unfolding_all refine' list_step ?k0Z9 ?k1Z9 ?k2Z9 ?k3Z9 ?k4Z9 ?k5Z9 ?k6Z9 ?_; (case k0Z9 => rfl); (case k1Z9 => k_asm); (case k2Z9 => k_asm); (case k3Z9 => exact rgX); (case k4Z9 => exact small_two (by omega) (by omega)); (case k5Z9 => exact range_two (by omega)); (case k6Z9 => omega)); intro _ _ _ _ _ _ _ l1 _; (try k_lt l1))) | ((k_here; (with_reducible show wpAny _ _ (subscriptTail _ (Expr.Slice none (some _) none _) _ _) _ _ _); (with_reducible rename Fr _ _ _ _ => F'); (with_reducible rename News _ _ _ _ => N'); (refine slice_none (s := ⟨_, _, _, _, _⟩) F' N' ?_ (hsz := ?hszZ9)); (case hszZ9 => (rw [sizeLine_eq]; omega)); intro _ _ _ _ _)) | ((k_here; k_openite; first | (refine ite_pos ?hxZ9 ?_; (case hxZ9 => first | with_reducible assumption | (simp only [decide_eq_true_eq, decide_eq_false_iff_not, Bool.not_eq_true', Bool.not_eq_false', bne_iff_ne, ne_eq]; omega))) | (refine ite_neg ?hxZ9 ?_; (case hxZ9 => first | with_reducible assumption | (simp only [decide_eq_true_eq, decide_eq_false_iff_not, Bool.not_eq_true', Bool.not_eq_false', bne_iff_ne, ne_eq, Bool.not_eq_true, Decidable.not_not]; omega))) | (refine ite_b (fun hc => ?_) (fun hc => ?_) <;> (try simp only [decide_eq_true_eq, decide_eq_false_iff_not, Bool.not_eq_true', Bool.not_eq_false', bne_iff_ne, ne_eq, bne_eq_false_iff_eq, Decidable.not_not, Int.not_lt, Int.not_le] at hc)))) | (fail_if_success (with_reducible show wpAny _ _ (exec (Stmt.While _ _ _ _) _) _ _ _)); (fail_if_success (with_reducible show wpAny _ _ (exec (Stmt.For _ _ _ _ _) _) _ _ _)); (fail_if_success (with_reducible show wpAny _ _ (pyIter _) _ _ _)); (fail_if_success (with_reducible show InvEndN _ _ _ _ _ _ _)); (fail_if_success (with_reducible show GEnd _ _ _ _ _ _ _)); (fail_if_success (with_reducible show GPost _ _ _ _ _ _ _ _ _)); first | (k_unfold; (try dsimp only)) | walk1 | (dsimp only; walk1) | (leave1; try dsimp only) | fail "no step"))
        ((dsimp only [GPost]; refine' ws_end ?eFZ9 ?eNZ9 ?h1Z9 ?h2Z9 ?h3Z9 ?h4Z9 ?hIZ9 ?hDZ9 ?hRZ9 ?oDZ9 ?oRZ9 ?hiZ9 ?hxZ9 ?_ ?ebZ9 ?enZ9 ?etZ9 ?hrZ9; (case eFZ9 => assumption); (case eNZ9 => assumption); (case h1Z9 => exact rfl); (case h2Z9 => exact rfl); (case h3Z9 => exact rfl); (case h4Z9 => exact rfl); (case hIZ9 => k_mem); (case hDZ9 => k_mem); (case hRZ9 => (intro p hp; simp only [List.mem_cons, List.not_mem_nil, or_false] at hp ⊢; simp only [hp, true_or, or_true])); (case oDZ9 => (refine neN ?_; omega)); (case oRZ9 => (intro p hp; simp only [List.mem_cons, List.not_mem_nil, or_false] at hp; rcases hp with hp | hp <;> (rw [hp]; refine neN ?_; dsimp only; omega))); (case hiZ9 => omega); (case hxZ9 => omega); (case ebZ9 => omega); (case enZ9 => omega); (case etZ9 => omega); (case hrZ9 => (intro z z1 z2 z3 z4 z5; simp only [z1, z2, z3, z4, z5, if_false]))))
        exact .inr ⟨by omega, val_eq (by show (i : Int) + 1 = _; omega)⟩
    · have hc9 := sign_blank hy hip1 hip2 hci
      subst hc9
      (try k_fold)
      (repeat' (first | ((k_here; (with_reducible show wpAny _ _ (call (Value.type _) [Value.ref _]) _ _ _); (rename IsRange _ _ _ _ _ _ _ _ => rgX); (with_unfolding_all refine' list_step ?k0Z9 ?k1Z9 ?k2Z9 ?k3Z9 ?k4Z9 ?k5Z9 ?k6Z9 ?_; (case k0Z9 => rfl); (case k1Z9 => k_asm); (case k2Z9 => k_asm); (case k3Z9 => exact rgX); (case k4Z9 => exact small_two (by omega) (by omega)); (case k5Z9 => exact range_two (by omega)); (case k6Z9 => omega)); intro _ _ _ _ _ _ _ l1 _; (try k_lt l1))) | ((k_here; (with_reducible show wpAny _ _ (subscriptTail _ (Expr.Slice none (some _) none _) _ _) _ _ _); (with_reducible rename Fr _ _ _ _ => F'); (with_reducible rename News _ _ _ _ => N'); (refine slice_none (s := ⟨_, _, _, _, _⟩) F' N' ?_ (hsz := ?hszZ9)); (case hszZ9 => (rw [sizeLine_eq]; omega)); intro _ _ _ _ _)) | ((k_here; k_openite; first | (refine ite_pos ?hxZ9 ?_; (case hxZ9 => first | with_reducible assumption | (simp only [decide_eq_true_eq, decide_eq_false_iff_not, Bool.not_eq_true', Bool.not_eq_false', bne_iff_ne, ne_eq]; omega))) | (refine ite_neg ?hxZ9 ?_; (case hxZ9 => first | with_reducible assumption | (simp only [decide_eq_true_eq, decide_eq_false_iff_not, Bool.not_eq_true', Bool.not_eq_false', bne_iff_ne, ne_eq, Bool.not_eq_true, Decidable.not_not]; omega))) | (refine ite_b (fun hc => ?_) (fun hc => ?_) <;> (try simp only [decide_eq_true_eq, decide_eq_false_iff_not, Bool.not_eq_true', Bool.not_eq_false', bne_iff_ne, ne_eq, bne_eq_false_iff_eq, Decidable.not_not, Int.not_lt, Int.not_le] at hc)))) | (fail_if_success (with_reducible show wpAny _ _ (exec (Stmt.While _ _ _ _) _) _ _ _)); (fail_if_success (with_reducible show wpAny _ _ (exec (Stmt.For _ _ _ _ _) _) _ _ _)); (fail_if_success (with_reducible show wpAny _ _ (pyIter _) _ _ _)); (fail_if_success (with_reducible show InvEndN _ _ _ _ _ _ _)); (fail_if_success (with_reducible show GEnd _ _ _ _ _ _ _)); (fail_if_success (with_reducible show GPost _ _ _ _ _ _ _ _ _)); first | (k_unfold; (try dsimp only)) | walk1 | (dsimp only; walk1) | (leave1; try dsimp only) | fail "no step"))
      ((dsimp only [GPost]; refine' ws_end ?eFZ9 ?eNZ9 ?h1Z9 ?h2Z9 ?h3Z9 ?h4Z9 ?hIZ9 ?hDZ9 ?hRZ9 ?oDZ9 ?oRZ9 ?hiZ9 ?hxZ9 ?_ ?ebZ9 ?enZ9 ?etZ9 ?hrZ9; (case eFZ9 => assumption); (case eNZ9 => assumption); (case h1Z9 => exact rfl); (case h2Z9 => exact rfl); (case h3Z9 => exact rfl); (case h4Z9 => exact rfl); (case hIZ9 => k_mem); (case hDZ9 => k_mem); (case hRZ9 => (intro p hp; simp only [List.mem_cons, List.not_mem_nil, or_false] at hp ⊢; simp only [hp, true_or, or_true])); (case oDZ9 => (refine neN ?_; omega)); (case oRZ9 => (intro p hp; simp only [List.mem_cons, List.not_mem_nil, or_false] at hp; rcases hp with hp | hp <;> (rw [hp]; refine neN ?_; dsimp only; omega))); (case hiZ9 => omega); (case hxZ9 => omega); (case ebZ9 => omega); (case enZ9 => omega); (case etZ9 => omega); (case hrZ9 => (intro z z1 z2 z3 z4 z5; simp only [z1, z2, z3, z4, z5, if_false]))))
      rcases hvs with ⟨h0, h1⟩ | ⟨h0, h1⟩
      · exact .inl ⟨by omega, h1⟩
      · have e1 : min (i + 1) p = min i p := by omega
        rw [e1]
        exact .inr ⟨h0, h1⟩
    · have hc9 := sign_tail hy htail hci
      subst hc9
      have e1 : min (p + q) p = p := by omega
      have e2 : p + q - p = q := by omega
      simp only [e1] at hvs
      rcases hvs with ⟨h0, rfl⟩ | ⟨h1, tc, rfl⟩
      · (try k_fold)
        (repeat' (first | ((k_here; (with_reducible show wpAny _ _ (call (Value.type _) [Value.ref _]) _ _ _); (rename IsRange _ _ _ _ _ _ _ _ => rgX); (with_unfolding_all refine' list_step ?k0Z9 ?k1Z9 ?k2Z9 ?k3Z9 ?k4Z9 ?k5Z9 ?k6Z9 ?_; (case k0Z9 => rfl); (case k1Z9 => k_asm); (case k2Z9 => k_asm); (case k3Z9 => exact rgX); (case k4Z9 => exact small_two (by omega) (by omega)); (case k5Z9 => exact range_two (by omega)); (case k6Z9 => omega)); intro _ _ _ _ _ _ _ l1 _; (try k_lt l1))) | ((k_here; (with_reducible show wpAny _ _ (subscriptTail _ (Expr.Slice none (some _) none _) _ _) _ _ _); (with_reducible rename Fr _ _ _ _ => F'); (with_reducible rename News _ _ _ _ => N'); (refine slice_none (s := ⟨_, _, _, _, _⟩) F' N' ?_ (hsz := ?hszZ9)); (case hszZ9 => (rw [sizeLine_eq]; omega)); intro _ _ _ _ _)) | ((k_here; k_openite; first | (refine ite_pos ?hxZ9 ?_; (case hxZ9 => first | with_reducible assumption | (simp only [decide_eq_true_eq, decide_eq_false_iff_not, Bool.not_eq_true', Bool.not_eq_false', bne_iff_ne, ne_eq]; omega))) | (refine ite_neg ?hxZ9 ?_; (case hxZ9 => first | with_reducible assumption | (simp only [decide_eq_true_eq, decide_eq_false_iff_not, Bool.not_eq_true', Bool.not_eq_false', bne_iff_ne, ne_eq, Bool.not_eq_true, Decidable.not_not]; omega))) | (refine ite_b (fun hc => ?_) (fun hc => ?_) <;> (try simp only [decide_eq_true_eq, decide_eq_false_iff_not, Bool.not_eq_true', Bool.not_eq_false', bne_iff_ne, ne_eq, bne_eq_false_iff_eq, Decidable.not_not, Int.not_lt, Int.not_le] at hc)))) | (fail_if_success (with_reducible show wpAny _ _ (exec (Stmt.While _ _ _ _) _) _ _ _)); (fail_if_success (with_reducible show wpAny _ _ (exec (Stmt.For _ _ _ _ _) _) _ _ _)); (fail_if_success (with_reducible show wpAny _ _ (pyIter _) _ _ _)); (fail_if_success (with_reducible show InvEndN _ _ _ _ _ _ _)); (fail_if_success (with_reducible show GEnd _ _ _ _ _ _ _)); (fail_if_success (with_reducible show GPost _ _ _ _ _ _ _ _ _)); first | (k_unfold; (try dsimp only)) | walk1 | (dsimp only; walk1) | (leave1; try dsimp only) | fail "no step"))
        dsimp only [GPost]
        (repeat' (first | ((k_here; (with_reducible show wpAny _ _ (call (Value.type _) [Value.ref _]) _ _ _); (rename IsRange _ _ _ _ _ _ _ _ => rgX); (with_unfolding_all refine' list_step ?k0Z9 ?k1Z9 ?k2Z9 ?k3Z9 ?k4Z9 ?k5Z9 ?k6Z9 ?_; (case k0Z9 => rfl); (case k1Z9 => k_asm); (case k2Z9 => k_asm); (case k3Z9 => exact rgX); (case k4Z9 => exact small_two (by omega) (by omega)); (case k5Z9 => exact range_two (by omega)); (case k6Z9 => omega)); intro _ _ _ _ _ _ _ l1 _; (try k_lt l1))) | ((k_here; (with_reducible show wpAny _ _ (subscriptTail _ (Expr.Slice none (some _) none _) _ _) _ _ _); (with_reducible rename Fr _ _ _ _ => F'); (with_reducible rename News _ _ _ _ => N'); (refine slice_none (s := ⟨_, _, _, _, _⟩) F' N' ?_ (hsz := ?hszZ9)); (case hszZ9 => (rw [sizeLine_eq]; omega)); intro _ _ _ _ _)) | ((k_here; k_openite; first | (refine ite_pos ?hxZ9 ?_; (case hxZ9 => first | with_reducible assumption | (simp only [decide_eq_true_eq, decide_eq_false_iff_not, Bool.not_eq_true', Bool.not_eq_false', bne_iff_ne, ne_eq]; omega))) | (refine ite_neg ?hxZ9 ?_; (case hxZ9 => first | with_reducible assumption | (simp only [decide_eq_true_eq, decide_eq_false_iff_not, Bool.not_eq_true', Bool.not_eq_false', bne_iff_ne, ne_eq, Bool.not_eq_true, Decidable.not_not]; omega))) | (refine ite_b (fun hc => ?_) (fun hc => ?_) <;> (try simp only [decide_eq_true_eq, decide_eq_false_iff_not, Bool.not_eq_true', Bool.not_eq_false', bne_iff_ne, ne_eq, bne_eq_false_iff_eq, Decidable.not_not, Int.not_lt, Int.not_le] at hc)))) | (k_unfold; (try dsimp only)) | walk1))
        clear hoff
        rename Fr g _ _ _ => F5
        rename News g _ _ _ => N5
        have b2 := ws_ret hback F5 N5 (by k_mem) (by k_mem) (by k_mem) (by k_mem)
        simp only [e1, e2] at b2
        refine ⟨rfl, ?_⟩
        exact hret x dx _ _ _ _ _ _ (.inl ⟨by omega, rfl⟩) b2.1 b2.2 l1 l2 (by omega) (by omega)
      · (try k_fold)
        (repeat' (first | ((k_here; (with_reducible show wpAny _ _ (call (Value.type _) [Value.ref _]) _ _ _); (rename IsRange _ _ _ _ _ _ _ _ => rgX); (with_unfolding_all refine' list_step ?k0Z9 ?k1Z9 ?k2Z9 ?k3Z9 ?k4Z9 ?k5Z9 ?k6Z9 ?_; (case k0Z9 => rfl); (case k1Z9 => k_asm); (case k2Z9 => k_asm); (case k3Z9 => exact rgX); (case k4Z9 => exact small_two (by omega) (by omega)); (case k5Z9 => exact range_two (by omega)); (case k6Z9 => omega)); intro _ _ _ _ _ _ _ l1 _; (try k_lt l1))) | ((k_here; (with_reducible show wpAny _ _ (subscriptTail _ (Expr.Slice none (some _) none _) _ _) _ _ _); (with_reducible rename Fr _ _ _ _ => F'); (with_reducible rename News _ _ _ _ => N'); (refine slice_none (s := ⟨_, _, _, _, _⟩) F' N' ?_ (hsz := ?hszZ9)); (case hszZ9 => (rw [sizeLine_eq]; omega)); intro _ _ _ _ _)) | ((k_here; k_openite; first | (refine ite_pos ?hxZ9 ?_; (case hxZ9 => first | with_reducible assumption | (simp only [decide_eq_true_eq, decide_eq_false_iff_not, Bool.not_eq_true', Bool.not_eq_false', bne_iff_ne, ne_eq]; omega))) | (refine ite_neg ?hxZ9 ?_; (case hxZ9 => first | with_reducible assumption | (simp only [decide_eq_true_eq, decide_eq_false_iff_not, Bool.not_eq_true', Bool.not_eq_false', bne_iff_ne, ne_eq, Bool.not_eq_true, Decidable.not_not]; omega))) | (refine ite_b (fun hc => ?_) (fun hc => ?_) <;> (try simp only [decide_eq_true_eq, decide_eq_false_iff_not, Bool.not_eq_true', Bool.not_eq_false', bne_iff_ne, ne_eq, bne_eq_false_iff_eq, Decidable.not_not, Int.not_lt, Int.not_le] at hc)))) | (fail_if_success (with_reducible show wpAny _ _ (exec (Stmt.While _ _ _ _) _) _ _ _)); (fail_if_success (with_reducible show wpAny _ _ (exec (Stmt.For _ _ _ _ _) _) _ _ _)); (fail_if_success (with_reducible show wpAny _ _ (pyIter _) _ _ _)); (fail_if_success (with_reducible show InvEndN _ _ _ _ _ _ _)); (fail_if_success (with_reducible show GEnd _ _ _ _ _ _ _)); (fail_if_success (with_reducible show GPost _ _ _ _ _ _ _ _ _)); first | (k_unfold; (try dsimp only)) | walk1 | (dsimp only; walk1) | (leave1; try dsimp only) | fail "no step"))
        dsimp only [GPost]
        (repeat' (first | ((k_here; (with_reducible show wpAny _ _ (call (Value.type _) [Value.ref _]) _ _ _); (rename IsRange _ _ _ _ _ _ _ _ => rgX); (with_unfolding_all refine' list_step ?k0Z9 ?k1Z9 ?k2Z9 ?k3Z9 ?k4Z9 ?k5Z9 ?k6Z9 ?_; (case k0Z9 => rfl); (case k1Z9 => k_asm); (case k2Z9 => k_asm); (case k3Z9 => exact rgX); (case k4Z9 => exact small_two (by omega) (by omega)); (case k5Z9 => exact range_two (by omega)); (case k6Z9 => omega)); intro _ _ _ _ _ _ _ l1 _; (try k_lt l1))) | ((k_here; (with_reducible show wpAny _ _ (subscriptTail _ (Expr.Slice none (some _) none _) _ _) _ _ _); (with_reducible rename Fr _ _ _ _ => F'); (with_reducible rename News _ _ _ _ => N'); (refine slice_none (s := ⟨_, _, _, _, _⟩) F' N' ?_ (hsz := ?hszZ9)); (case hszZ9 => (rw [sizeLine_eq]; omega)); intro _ _ _ _ _)) | ((k_here; k_openite; first | (refine ite_pos ?hxZ9 ?_; (case hxZ9 => first | with_reducible assumption | (simp only [decide_eq_true_eq, decide_eq_false_iff_not, Bool.not_eq_true', Bool.not_eq_false', bne_iff_ne, ne_eq]; omega))) | (refine ite_neg ?hxZ9 ?_; (case hxZ9 => first | with_reducible assumption | (simp only [decide_eq_true_eq, decide_eq_false_iff_not, Bool.not_eq_true', Bool.not_eq_false', bne_iff_ne, ne_eq, Bool.not_eq_true, Decidable.not_not]; omega))) | (refine ite_b (fun hc => ?_) (fun hc => ?_) <;> (try simp only [decide_eq_true_eq, decide_eq_false_iff_not, Bool.not_eq_true', Bool.not_eq_false', bne_iff_ne, ne_eq, bne_eq_false_iff_eq, Decidable.not_not, Int.not_lt, Int.not_le] at hc)))) | (k_unfold; (try dsimp only)) | walk1))
        clear hoff
        rename Fr g _ _ _ => F5
        rename News g _ _ _ => N5
        have b2 := ws_ret hback F5 N5 (by k_mem) (by k_mem) (by k_mem) (by k_mem)
        simp only [e1, e2] at b2
        refine ⟨rfl, ?_⟩
        exact hret x dx _ _ _ _ _ _ (.inr ⟨by omega, tc, rfl⟩) b2.1 b2.2 l1 l2 (by omega) (by omega)
  case done =>
    intro m₁ nx h tk hJ F4 N4
    have e : y.cps.size = p + q := by
      have hsz := size_of hy
      obtain ⟨_, _, _, _, _, _, _, h1, _⟩ := hJ
      omega
    rw [e] at hJ
    refine hideG fun Gx hG => ?_
    obtain ⟨D, vs, cc, tb, tn, tt, u, hip, hxD, hvs, rfl, rfl⟩ := hJ
    refine hG ?_
    clear hG
    clear F3 N3
    dsimp only [wsMap] at F4
    have e1 : min (p + q) p = p := by omega
    have e2 : p + q - p = q := by omega
    simp only [e1] at hvs
    rcases hvs with ⟨h0, rfl⟩ | ⟨h1, tc, rfl⟩
    · (try k_fold)
      (repeat' (first | ((k_here; (with_reducible show wpAny _ _ (call (Value.type _) [Value.ref _]) _ _ _); (rename IsRange _ _ _ _ _ _ _ _ => rgX); (with_unfolding_all refine' list_step ?k0Z9 ?k1Z9 ?k2Z9 ?k3Z9 ?k4Z9 ?k5Z9 ?k6Z9 ?_; (case k0Z9 => rfl); (case k1Z9 => k_asm); (case k2Z9 => k_asm); (case k3Z9 => exact rgX); (case k4Z9 => exact small_two (by omega) (by omega)); (case k5Z9 => exact range_two (by omega)); (case k6Z9 => omega)); intro _ _ _ _ _ _ _ l1 _; (try k_lt l1))) | ((k_here; (with_reducible show wpAny _ _ (subscriptTail _ (Expr.Slice none (some _) none _) _ _) _ _ _); (with_reducible rename Fr _ _ _ _ => F'); (with_reducible rename News _ _ _ _ => N'); (refine slice_none (s := ⟨_, _, _, _, _⟩) F' N' ?_ (hsz := ?hszZ9)); (case hszZ9 => (rw [sizeLine_eq]; omega)); intro _ _ _ _ _)) | ((k_here; k_openite; first | (refine ite_pos ?hxZ9 ?_; (case hxZ9 => first | with_reducible assumption | (simp only [decide_eq_true_eq, decide_eq_false_iff_not, Bool.not_eq_true', Bool.not_eq_false', bne_iff_ne, ne_eq]; omega))) | (refine ite_neg ?hxZ9 ?_; (case hxZ9 => first | with_reducible assumption | (simp only [decide_eq_true_eq, decide_eq_false_iff_not, Bool.not_eq_true', Bool.not_eq_false', bne_iff_ne, ne_eq, Bool.not_eq_true, Decidable.not_not]; omega))) | (refine ite_b (fun hc => ?_) (fun hc => ?_) <;> (try simp only [decide_eq_true_eq, decide_eq_false_iff_not, Bool.not_eq_true', Bool.not_eq_false', bne_iff_ne, ne_eq, bne_eq_false_iff_eq, Decidable.not_not, Int.not_lt, Int.not_le] at hc)))) | (fail_if_success (with_reducible show wpAny _ _ (exec (Stmt.While _ _ _ _) _) _ _ _)); (fail_if_success (with_reducible show wpAny _ _ (exec (Stmt.For _ _ _ _ _) _) _ _ _)); (fail_if_success (with_reducible show wpAny _ _ (pyIter _) _ _ _)); (fail_if_success (with_reducible show InvEndN _ _ _ _ _ _ _)); (fail_if_success (with_reducible show GEnd _ _ _ _ _ _ _)); (fail_if_success (with_reducible show GPost _ _ _ _ _ _ _ _ _)); first | (k_unfold; (try dsimp only)) | walk1 | (dsimp only; walk1) | (leave1; try dsimp only) | fail "no step"))
      rename Fr g _ _ _ => F5
      rename News g _ _ _ => N5
      have b2 := ws_ret hback F5 N5 (by k_mem) (by k_mem) (by k_mem) (by k_mem)
      simp only [e1, e2] at b2
      refine ⟨rfl, ?_⟩
      exact hret x dx _ _ _ _ _ _ (.inl ⟨by omega, rfl⟩) b2.1 b2.2 l1 l2 (by omega) (by omega)
    · (try k_fold)
      (repeat' (first | ((k_here; (with_reducible show wpAny _ _ (call (Value.type _) [Value.ref _]) _ _ _); (rename IsRange _ _ _ _ _ _ _ _ => rgX); (with_unfolding_all refine' list_step ?k0Z9 ?k1Z9 ?k2Z9 ?k3Z9 ?k4Z9 ?k5Z9 ?k6Z9 ?_; (case k0Z9 => rfl); (case k1Z9 => k_asm); (case k2Z9 => k_asm); (case k3Z9 => exact rgX); (case k4Z9 => exact small_two (by omega) (by omega)); (case k5Z9 => exact range_two (by omega)); (case k6Z9 => omega)); intro _ _ _ _ _ _ _ l1 _; (try k_lt l1))) | ((k_here; (with_reducible show wpAny _ _ (subscriptTail _ (Expr.Slice none (some _) none _) _ _) _ _ _); (with_reducible rename Fr _ _ _ _ => F'); (with_reducible rename News _ _ _ _ => N'); (refine slice_none (s := ⟨_, _, _, _, _⟩) F' N' ?_ (hsz := ?hszZ9)); (case hszZ9 => (rw [sizeLine_eq]; omega)); intro _ _ _ _ _)) | ((k_here; k_openite; first | (refine ite_pos ?hxZ9 ?_; (case hxZ9 => first | with_reducible assumption | (simp only [decide_eq_true_eq, decide_eq_false_iff_not, Bool.not_eq_true', Bool.not_eq_false', bne_iff_ne, ne_eq]; omega))) | (refine ite_neg ?hxZ9 ?_; (case hxZ9 => first | with_reducible assumption | (simp only [decide_eq_true_eq, decide_eq_false_iff_not, Bool.not_eq_true', Bool.not_eq_false', bne_iff_ne, ne_eq, Bool.not_eq_true, Decidable.not_not]; omega))) | (refine ite_b (fun hc => ?_) (fun hc => ?_) <;> (try simp only [decide_eq_true_eq, decide_eq_false_iff_not, Bool.not_eq_true', Bool.not_eq_false', bne_iff_ne, ne_eq, bne_eq_false_iff_eq, Decidable.not_not, Int.not_lt, Int.not_le] at hc)))) | (fail_if_success (with_reducible show wpAny _ _ (exec (Stmt.While _ _ _ _) _) _ _ _)); (fail_if_success (with_reducible show wpAny _ _ (exec (Stmt.For _ _ _ _ _) _) _ _ _)); (fail_if_success (with_reducible show wpAny _ _ (pyIter _) _ _ _)); (fail_if_success (with_reducible show InvEndN _ _ _ _ _ _ _)); (fail_if_success (with_reducible show GEnd _ _ _ _ _ _ _)); (fail_if_success (with_reducible show GPost _ _ _ _ _ _ _ _ _)); first | (k_unfold; (try dsimp only)) | walk1 | (dsimp only; walk1) | (leave1; try dsimp only) | fail "no step"))
      rename Fr g _ _ _ => F5
      rename News g _ _ _ => N5
      have b2 := ws_ret hback F5 N5 (by k_mem) (by k_mem) (by k_mem) (by k_mem)
      simp only [e1, e2] at b2
      refine ⟨rfl, ?_⟩
      exact hret x dx _ _ _ _ _ _ (.inr ⟨by omega, tc, rfl⟩) b2.1 b2.2 l1 l2 (by omega) (by omega)

-- ind_mac

-- ind_body
theorem indent_claim (w : World) (x dx nm ct : Addr) (y : PySem.Str) (p q : Nat) (cs : List Value) (WT : WsToks) (size : Int) (ts : Tok) (hcs : (p = 0 ∧ cs = []) ∨ (0 < p ∧ ∃ tc, cs = [.int (p : Nat) tc])) (hp : p ≤ 20) (hq : q ≤ 20) (hsz : 1 ≤ size ∧ size ≤ 100)
    (mean : ExcName → Option Value) (mg mb : PySem.Str → Option Value) (dp un : Nat) (gd : Option (List Code)) (cn : PySem.Str) (cs' : Scope) (a : Addr) (ccd : Value) (cl : List (PySem.Str × Addr)) (outer : List Env) (A₀ : Around) (base h₀ : Heap) (L : Addr) (m : PySem.Str → Option Value) (s : Shared) (Q E : Value → Shared → Prop)
    (B : Below A₀ base outer h₀) (F : Fr h₀ L s.heap m) (X : (hd.heap_39 w.params).In h₀) (N : News h₀ L s.heap (wsObjs 83 w x dx nm ct y (p + q : Nat) (p : Nat) (q : Nat) cs WT)) (T : Top hd.view_39 (looseW hd.view_39 [PySem.Str.ofString "Whitespace"]) mean mg mb h₀) (hk : cs'.kind = .function) (hdp : dp + 1 < recursionLimit) (hu : un + 8 < cLine)
    (hret : ∀ t h' tk', s.heap.StaysIn h' → Q (.int ((q : Int) + size * p) t) { s with heap := h', toks := tk' }) :
    wpAny (model PySem.Challenge.pw_pg0263_02 w) (ktrTop dp un gd cn cs' L a ccd cl outer) (call (.ref 52) [.ref x, .int size ts]) Q E s := by
  w_on
  k_dflt (refine' enter_own (wsObjs 83 w x dx nm ct y (p + q : Nat) (p : Nat) (q : Nat) cs WT) B F X N T ?cA ?cF ?cK ?c6 ?c7 ?c8 ?c9 ?cB ?_ ?d2 ?d3 ?d4 ?d5)
  case cA => exact rfl
  case cF => exact rfl
  case cK => assumption
  case c6 => k_is
  case c7 => k_is
  case c8 => ktr_room
  case c9 => exact BindsTo.of_eq rfl
  case cB => exact locs rfl
  case d2 => exact rfl
  case d3 => exact rfl
  case d4 => exact rfl
  case d5 => decide
  intro g L' h2 hg F2 N2 B2 X2 T2
  have hst := fun (h' : Heap) (m' : PySem.Str → Option Value) (F' : Fr g L' h' m') (N' : News g L' h' (wsObjs 83 w x dx nm ct y (p + q : Nat) (p : Nat) (q : Nat) cs WT)) => stays_own N hg F' N'
  dsimp only [wsObjs] at N2
  (try dsimp only); (try k_lift B2); (try k_fold)
  rcases hcs with ⟨h0, rfl⟩ | ⟨h0, tc, rfl⟩
  all_goals
    (repeat' (first | ((k_here; (with_reducible show wpAny _ _ (call (Value.type _) [Value.ref _]) _ _ _); (rename IsRange _ _ _ _ _ _ _ _ => rgX); (with_unfolding_all refine' list_step ?k0Z9 ?k1Z9 ?k2Z9 ?k3Z9 ?k4Z9 ?k5Z9 ?k6Z9 ?_; (case k0Z9 => rfl); (case k1Z9 => k_asm); (case k2Z9 => k_asm); (case k3Z9 => exact rgX); (case k4Z9 => exact small_two (by omega) (by omega)); (case k5Z9 => exact range_two (by omega)); (case k6Z9 => omega)); intro _ _ _ _ _ _ _ l1 _; (try k_lt l1))) | ((k_here; (with_reducible show wpAny _ _ (subscriptTail _ (Expr.Slice none (some _) none _) _ _) _ _ _); (with_reducible rename Fr _ _ _ _ => F'); (with_reducible rename News _ _ _ _ => N'); (refine slice_none (s := ⟨_, _, _, _, _⟩) F' N' ?_ (hsz := ?hszZ9)); (case hszZ9 => (rw [sizeLine_eq]; omega)); intro _ _ _ _ _)) | ((k_here; k_openite; first | (refine ite_pos ?hxZ9 ?_; (case hxZ9 => first | with_reducible assumption | (simp only [decide_eq_true_eq, decide_eq_false_iff_not, Bool.not_eq_true', Bool.not_eq_false', bne_iff_ne, ne_eq]; omega))) | (refine ite_neg ?hxZ9 ?_; (case hxZ9 => first | with_reducible assumption | (simp only [decide_eq_true_eq, decide_eq_false_iff_not, Bool.not_eq_true', Bool.not_eq_false', bne_iff_ne, ne_eq, Bool.not_eq_true, Decidable.not_not]; omega))) | (refine ite_b (fun hc => ?_) (fun hc => ?_) <;> (try simp only [decide_eq_true_eq, decide_eq_false_iff_not, Bool.not_eq_true', Bool.not_eq_false', bne_iff_ne, ne_eq, bne_eq_false_iff_eq, Decidable.not_not, Int.not_lt, Int.not_le] at hc)))) | (fail_if_success (with_reducible show wpAny _ _ (exec (Stmt.While _ _ _ _) _) _ _ _)); (fail_if_success (with_reducible show wpAny _ _ (exec (Stmt.For _ _ _ _ _) _) _ _ _)); (fail_if_success (with_reducible show wpAny _ _ (pyIter _) _ _ _)); (fail_if_success (with_reducible show InvEndN _ _ _ _ _ _ _)); (fail_if_success (with_reducible show GEnd _ _ _ _ _ _ _)); (fail_if_success (with_reducible show GPost _ _ _ _ _ _ _ _ _)); first | (k_unfold; (try dsimp only)) | walk1 | (dsimp only; walk1) | (leave1; try dsimp only) | fail "no step"))
    (((with_unfolding_all refine' For_invVF ?kZZ9 ?k1Z9 ?k2Z9 ?_); (case kZZ9 => k_dflt assumption); (with_unfolding_all ((case k1Z9 => exact rfl); (case k2Z9 => exact rfl); k_whole)); (repeat' (first | ((k_here; (with_reducible show wpAny _ _ (call (Value.type _) [Value.ref _]) _ _ _); (rename IsRange _ _ _ _ _ _ _ _ => rgX); (with_unfolding_all refine' list_step ?k0Z9 ?k1Z9 ?k2Z9 ?k3Z9 ?k4Z9 ?k5Z9 ?k6Z9 ?_; (case k0Z9 => rfl); (case k1Z9 => k_asm); (case k2Z9 => k_asm); (case k3Z9 => exact rgX); (case k4Z9 => exact small_two (by omega) (by omega)); (case k5Z9 => exact range_two (by omega)); (case k6Z9 => omega)); intro _ _ _ _ _ _ _ l1 _; (try k_lt l1))) | ((k_here; (with_reducible show wpAny _ _ (subscriptTail _ (Expr.Slice none (some _) none _) _ _) _ _ _); (with_reducible rename Fr _ _ _ _ => F'); (with_reducible rename News _ _ _ _ => N'); (refine slice_none (s := ⟨_, _, _, _, _⟩) F' N' ?_ (hsz := ?hszZ9)); (case hszZ9 => (rw [sizeLine_eq]; omega)); intro _ _ _ _ _)) | ((k_here; k_openite; first | (refine ite_pos ?hxZ9 ?_; (case hxZ9 => first | with_reducible assumption | (simp only [decide_eq_true_eq, decide_eq_false_iff_not, Bool.not_eq_true', Bool.not_eq_false', bne_iff_ne, ne_eq]; omega))) | (refine ite_neg ?hxZ9 ?_; (case hxZ9 => first | with_reducible assumption | (simp only [decide_eq_true_eq, decide_eq_false_iff_not, Bool.not_eq_true', Bool.not_eq_false', bne_iff_ne, ne_eq, Bool.not_eq_true, Decidable.not_not]; omega))) | (refine ite_b (fun hc => ?_) (fun hc => ?_) <;> (try simp only [decide_eq_true_eq, decide_eq_false_iff_not, Bool.not_eq_true', Bool.not_eq_false', bne_iff_ne, ne_eq, bne_eq_false_iff_eq, Decidable.not_not, Int.not_lt, Int.not_le] at hc)))) | (fail_if_success (with_reducible show wpAny _ _ (exec (Stmt.While _ _ _ _) _) _ _ _)); (fail_if_success (with_reducible show wpAny _ _ (exec (Stmt.For _ _ _ _ _) _) _ _ _)); (fail_if_success (with_reducible show wpAny _ _ (pyIter _) _ _ _)); (fail_if_success (with_reducible show InvEndN _ _ _ _ _ _ _)); (fail_if_success (with_reducible show GEnd _ _ _ _ _ _ _)); (fail_if_success (with_reducible show GPost _ _ _ _ _ _ _ _ _)); first | (k_unfold; (try dsimp only)) | walk1 | (dsimp only; walk1) | (leave1; try dsimp only) | fail "no step"))))
    (((rename Fr _ _ _ _ => F5); (rename News _ _ _ _ => N5); (rename IsRange _ _ _ _ _ _ _ _ => hR); k_dflt (refine' iter_none rfl hR ?r1Z9 ?r2Z9 ?r3Z9 F5 N5 ?_); (case r1Z9 => omega); (case r2Z9 => omega); (case r3Z9 => omega); clear F5 N5; intro h5 tk5 F6 N6; (try dsimp only); (try k_fold)))
    (repeat' (first | ((k_here; (with_reducible show wpAny _ _ (call (Value.type _) [Value.ref _]) _ _ _); (rename IsRange _ _ _ _ _ _ _ _ => rgX); (with_unfolding_all refine' list_step ?k0Z9 ?k1Z9 ?k2Z9 ?k3Z9 ?k4Z9 ?k5Z9 ?k6Z9 ?_; (case k0Z9 => rfl); (case k1Z9 => k_asm); (case k2Z9 => k_asm); (case k3Z9 => exact rgX); (case k4Z9 => exact small_two (by omega) (by omega)); (case k5Z9 => exact range_two (by omega)); (case k6Z9 => omega)); intro _ _ _ _ _ _ _ l1 _; (try k_lt l1))) | ((k_here; (with_reducible show wpAny _ _ (subscriptTail _ (Expr.Slice none (some _) none _) _ _) _ _ _); (with_reducible rename Fr _ _ _ _ => F'); (with_reducible rename News _ _ _ _ => N'); (refine slice_none (s := ⟨_, _, _, _, _⟩) F' N' ?_ (hsz := ?hszZ9)); (case hszZ9 => (rw [sizeLine_eq]; omega)); intro _ _ _ _ _)) | ((k_here; k_openite; first | (refine ite_pos ?hxZ9 ?_; (case hxZ9 => first | with_reducible assumption | (simp only [decide_eq_true_eq, decide_eq_false_iff_not, Bool.not_eq_true', Bool.not_eq_false', bne_iff_ne, ne_eq]; omega))) | (refine ite_neg ?hxZ9 ?_; (case hxZ9 => first | with_reducible assumption | (simp only [decide_eq_true_eq, decide_eq_false_iff_not, Bool.not_eq_true', Bool.not_eq_false', bne_iff_ne, ne_eq, Bool.not_eq_true, Decidable.not_not]; omega))) | (refine ite_b (fun hc => ?_) (fun hc => ?_) <;> (try simp only [decide_eq_true_eq, decide_eq_false_iff_not, Bool.not_eq_true', Bool.not_eq_false', bne_iff_ne, ne_eq, bne_eq_false_iff_eq, Decidable.not_not, Int.not_lt, Int.not_le] at hc)))) | (fail_if_success (with_reducible show wpAny _ _ (exec (Stmt.While _ _ _ _) _) _ _ _)); (fail_if_success (with_reducible show wpAny _ _ (exec (Stmt.For _ _ _ _ _) _) _ _ _)); (fail_if_success (with_reducible show wpAny _ _ (pyIter _) _ _ _)); (fail_if_success (with_reducible show InvEndN _ _ _ _ _ _ _)); (fail_if_success (with_reducible show GEnd _ _ _ _ _ _ _)); (fail_if_success (with_reducible show GPost _ _ _ _ _ _ _ _ _)); first | (k_unfold; (try dsimp only)) | walk1 | (dsimp only; walk1) | (leave1; try dsimp only) | fail "no step"))
    (rename Fr g _ _ _ => F7; rename News g _ _ _ => N7)
    refine ret_int hret (hst _ _ F7 N7) rfl ?_
  all_goals rw [Int.zero_add]

-- ret_any
theorem ret_any {s s' : Shared} {Q : Value → Shared → Prop} {v v' : Value} (hret : ∀ h' tk', s.heap.StaysIn h' → Q v { s with heap := h', toks := tk' }) (st : s.heap.StaysIn s'.heap) (e : s' = { s with heap := s'.heap, toks := s'.toks }) (hv : v' = v) : Ret Q v' s' := by
  subst hv
  show Q v' s'
  rw [e]
  exact hret s'.heap s'.toks st
theorem less_no {a b c d : Nat} (h : ((b : Nat) : Int) ≤ (a : Nat)) : Value.bool false = Value.bool (Nat.blt a b && Nat.ble c d) := by
  have : Nat.blt a b = false := by rw [Bool.eq_false_iff, ne_eq, Nat.blt_eq]; omega
  rw [this]; rfl
theorem less_yes {a b c d : Nat} (h : ((a : Nat) : Int) < (b : Nat)) : Value.bool (decide (((c : Nat) : Int) ≤ (d : Nat))) = Value.bool (Nat.blt a b && Nat.ble c d) := by
  have : Nat.blt a b = true := by rw [Nat.blt_eq]; omega
  rw [this, Bool.true_and]; congr 1
  rw [Bool.eq_iff_iff, decide_eq_true_eq, Nat.ble_eq]; omega

-- less_body
theorem less_claim (w : World) (x dx nm ct x' dx' nm' ct' : Addr) (y y' : PySem.Str) (p q p' q' : Nat) (cs cs' : List Value) (WT WT' : WsToks)
    (mean : ExcName → Option Value) (mg mb : PySem.Str → Option Value) (dp un : Nat) (gd : Option (List Code)) (cn : PySem.Str) (sc : Scope) (a : Addr) (ccd : Value) (cl : List (PySem.Str × Addr)) (outer : List Env) (A₀ : Around) (base h₀ : Heap) (L : Addr) (m : PySem.Str → Option Value) (s : Shared) (Q E : Value → Shared → Prop)
    (B : Below A₀ base outer h₀) (F : Fr h₀ L s.heap m) (X : (hd.heap_39 w.params).In h₀) (N : News h₀ L s.heap (wsObjs 83 w x dx nm ct y (p + q : Nat) (p : Nat) (q : Nat) cs WT ++ wsObjs 83 w x' dx' nm' ct' y' (p' + q' : Nat) (p' : Nat) (q' : Nat) cs' WT')) (T : Top hd.view_39 (looseW hd.view_39 [PySem.Str.ofString "Whitespace"]) mean mg mb h₀) (hk : sc.kind = .function) (hdp : dp + 1 < recursionLimit) (hu : un + 8 < cLine)
    (hret : ∀ h' tk', s.heap.StaysIn h' → Q (.bool (Nat.blt (p + q) (p' + q') && Nat.ble p p')) { s with heap := h', toks := tk' }) :
    wpAny (model PySem.Challenge.pw_pg0263_02 w) (ktrTop dp un gd cn sc L a ccd cl outer) (call (.ref 73) [.ref x, .ref x']) Q E s := by
  w_on
  k_dflt (refine' enter_own (wsObjs 83 w x dx nm ct y (p + q : Nat) (p : Nat) (q : Nat) cs WT ++ wsObjs 83 w x' dx' nm' ct' y' (p' + q' : Nat) (p' : Nat) (q' : Nat) cs' WT') B F X N T ?cA ?cF ?cK ?c6 ?c7 ?c8 ?c9 ?cB ?_ ?d2 ?d3 ?d4 ?d5)
  case cA => exact rfl
  case cF => exact rfl
  case cK => assumption
  case c6 => k_is
  case c7 => k_is
  case c8 => ktr_room
  case c9 => exact BindsTo.of_eq rfl
  case cB => exact locs rfl
  case d2 => exact rfl
  case d3 => exact rfl
  case d4 => exact rfl
  case d5 => decide
  intro g L' h2 hg F2 N2 B2 X2 T2
  have hst := fun (h' : Heap) (m' : PySem.Str → Option Value) (F' : Fr g L' h' m') (N' : News g L' h' (wsObjs 83 w x dx nm ct y (p + q : Nat) (p : Nat) (q : Nat) cs WT ++ wsObjs 83 w x' dx' nm' ct' y' (p' + q' : Nat) (p' : Nat) (q' : Nat) cs' WT')) => stays_own N hg F' N'
  dsimp only [wsObjs, List.cons_append, List.nil_append] at N2
  (try dsimp only); (try k_lift B2); (try k_fold)
  (repeat' (first | ((k_here; (with_reducible show wpAny _ _ (call (Value.type _) [Value.ref _]) _ _ _); (rename IsRange _ _ _ _ _ _ _ _ => rgX); (with_unfolding_all refine' list_step ?k0Z9 ?k1Z9 ?k2Z9 ?k3Z9 ?k4Z9 ?k5Z9 ?k6Z9 ?_; (case k0Z9 => rfl); (case k1Z9 => k_asm); (case k2Z9 => k_asm); (case k3Z9 => exact rgX); (case k4Z9 => exact small_two (by omega) (by omega)); (case k5Z9 => exact range_two (by omega)); (case k6Z9 => omega)); intro _ _ _ _ _ _ _ l1 _; (try k_lt l1))) | ((k_here; (with_reducible show wpAny _ _ (subscriptTail _ (Expr.Slice none (some _) none _) _ _) _ _ _); (with_reducible rename Fr _ _ _ _ => F'); (with_reducible rename News _ _ _ _ => N'); (refine slice_none (s := ⟨_, _, _, _, _⟩) F' N' ?_ (hsz := ?hszZ9)); (case hszZ9 => (rw [sizeLine_eq]; omega)); intro _ _ _ _ _)) | ((k_here; k_openite; first | (refine ite_pos ?hxZ9 ?_; (case hxZ9 => first | with_reducible assumption | (simp only [decide_eq_true_eq, decide_eq_false_iff_not, Bool.not_eq_true', Bool.not_eq_false', bne_iff_ne, ne_eq]; omega))) | (refine ite_neg ?hxZ9 ?_; (case hxZ9 => first | with_reducible assumption | (simp only [decide_eq_true_eq, decide_eq_false_iff_not, Bool.not_eq_true', Bool.not_eq_false', bne_iff_ne, ne_eq, Bool.not_eq_true, Decidable.not_not]; omega))) | (refine ite_b (fun hc => ?_) (fun hc => ?_) <;> (try simp only [decide_eq_true_eq, decide_eq_false_iff_not, Bool.not_eq_true', Bool.not_eq_false', bne_iff_ne, ne_eq, bne_eq_false_iff_eq, Decidable.not_not, Int.not_lt, Int.not_le] at hc)))) | (fail_if_success (with_reducible show wpAny _ _ (exec (Stmt.While _ _ _ _) _) _ _ _)); (fail_if_success (with_reducible show wpAny _ _ (exec (Stmt.For _ _ _ _ _) _) _ _ _)); (fail_if_success (with_reducible show wpAny _ _ (pyIter _) _ _ _)); (fail_if_success (with_reducible show InvEndN _ _ _ _ _ _ _)); (fail_if_success (with_reducible show GEnd _ _ _ _ _ _ _)); (fail_if_success (with_reducible show GPost _ _ _ _ _ _ _ _ _)); first | (k_unfold; (try dsimp only)) | walk1 | (dsimp only; walk1) | (leave1; try dsimp only) | fail "no step"))
  all_goals (rename Fr g _ _ _ => F7; rename News g _ _ _ => N7)
  all_goals refine ret_any hret (hst _ _ F7 N7) rfl ?_
  all_goals first | exact less_no (by assumption) | exact less_yes (by assumption)

-- known_pure
noncomputable def tabsS (t : Nat) : PySem.Str := ⟨(List.replicate t 9).toArray⟩
noncomputable def blanksS (b : Nat) : PySem.Str := ⟨(List.replicate b 32).toArray⟩
theorem mul_tabs : ∀ t < 5, Txt.mul (PySem.Str.ofString "\t") ((t : Nat) : Int) = tabsS t := by decide +kernel
theorem mul_blanks : ∀ t < 5, Txt.mul (PySem.Str.ofString " ") ((t : Nat) : Int) = blanksS t := by decide +kernel
theorem lead_eq : ∀ t < 5, ∀ b < 5, tabsS t ++ blanksS b = leadS t b := by decide +kernel
theorem leadS_len (t b : Nat) : (leadS t b).length = t + b := by simp [leadS, leadL, PySem.Str.length]
theorem tabsS_len (t : Nat) : (tabsS t).length = t := by simp [tabsS, PySem.Str.length]
theorem blanksS_len (t : Nat) : (blanksS t).length = t := by simp [blanksS, PySem.Str.length]
theorem leadS_list (t b : Nat) : (leadS t b).cps.toList = List.replicate t 9 ++ (List.replicate b 32 ++ []) := by rw [List.append_nil]; rfl
theorem leadS_list1 (t b : Nat) : (leadS t b ++ PySem.Str.ofString " ").cps.toList = List.replicate t 9 ++ (List.replicate (b + 1) 32 ++ []) := by
  have e : (PySem.Str.ofString " ").cps = #[32] := by decide +kernel
  show ((leadS t b).cps ++ (PySem.Str.ofString " ").cps).toList = _
  rw [e, Array.toList_append, leadS_list, List.append_nil, List.append_nil, List.replicate_succ', List.append_assoc]
noncomputable def csOk (p : Nat) (cs : List Value) : Prop := (p = 0 ∧ cs = []) ∨ (0 < p ∧ ∃ tc, cs = [.int (p : Nat) tc])
/-- the ledger bears a Whitespace of p tabs and q blanks at x -/
noncomputable def WsAt (w : World) (news : List (Addr × Obj)) (x : Addr) (p q : Nat) : Prop := ∃ dx nm ct y cs T, csOk p cs ∧ ∀ z ∈ wsObjs 83 w x dx nm ct y (p + q : Nat) (p : Nat) (q : Nat) cs T, z ∈ news
/-- the ledger bears what _law_known gives of t tabs and b blanks -/
noncomputable def KnownIn (w : World) (news : List (Addr × Obj)) (v : Value) (t b : Nat) : Prop :=
  ∃ D x1 x2 k1 k2 k3, v = .ref D ∧ (D, wsTup [.str (tabsS t) k1, .str (blanksS b) k2, .str (leadS t b) k3, .ref x1, .ref x2]) ∈ news ∧ WsAt w news x1 t b ∧ WsAt w news x2 t (b + 1)
theorem WsAt.mono {w : World} {a b : List (Addr × Obj)} {x : Addr} {p q : Nat} (h : WsAt w a x p q) (hs : ∀ z ∈ a, z ∈ b) : WsAt w b x p q := by
  obtain ⟨dx, nm, ct, y, cs, T, hc, h⟩ := h
  exact ⟨dx, nm, ct, y, cs, T, hc, fun z hz => hs z (h z hz)⟩
theorem KnownIn.mono {w : World} {a b : List (Addr × Obj)} {v : Value} {t n : Nat} (h : KnownIn w a v t n) (hs : ∀ z ∈ a, z ∈ b) : KnownIn w b v t n := by
  obtain ⟨D, x1, x2, k1, k2, k3, e, hm, h1, h2⟩ := h
  exact ⟨D, x1, x2, k1, k2, k3, e, hs _ hm, h1.mono hs, h2.mono hs⟩
/-- new objects that bear what P says -/
noncomputable def ONew (P : List (Addr × Obj) → Value → Prop) (h h' : Heap) (v : Value) : Prop := ∃ objs, P objs v ∧ ∀ p ∈ objs, h.get? p.1 = none ∧ h'.get? p.1 = some p.2
theorem oNew {P : List (Addr × Obj) → Value → Prop} {g h h' : Heap} {L : Addr} {v : Value} {all : List (Addr × Obj)} (hg : g = h) (N : News g L h' all) (hP : P all v) : ONew P h h' v := by
  subst hg
  exact ⟨all, hP, fun p hp => ⟨(N p hp).2.2, (N p hp).1⟩⟩
theorem news_addA {h₀ h h' : Heap} {L : Addr} {m : PySem.Str → Option Value} {objs news : List (Addr × Obj)} (F : Fr h₀ L h m) (N : News h₀ L h news) (st : h.StaysIn h') (ho : ∀ p ∈ objs, h.get? p.1 = none ∧ h'.get? p.1 = some p.2) : News h₀ L h' (objs ++ news) := by
  intro p hp
  rcases List.mem_append.mp hp with hp | hp
  · exact news_add (D := p.1) (o := p.2) F N st (ho p hp).1 (ho p hp).2 _ (List.mem_cons_self ..)
  · exact news_stays N st p hp
theorem WsAt.of {h₀ h : Heap} {L : Addr} {w : World} {x dx nm ct : Addr} {y : PySem.Str} {p q : Nat} {cs : List Value} {T : WsToks} {rest : List (Addr × Obj)} (hc : (p = 0 ∧ cs = []) ∨ (0 < p ∧ ∃ tc, cs = [.int (p : Nat) tc])) (_N : News h₀ L h (wsObjs 83 w x dx nm ct y (p + q : Nat) (p : Nat) (q : Nat) cs T ++ rest)) :
    WsAt w (wsObjs 83 w x dx nm ct y (p + q : Nat) (p : Nat) (q : Nat) cs T ++ rest) x p q := ⟨dx, nm, ct, y, cs, T, hc, fun _ hz => List.mem_append_left _ hz⟩

-- known_mac

-- known_body
theorem known_claim (w : World) (t b : Int) (tt tb : Tok) (ht : 0 ≤ t ∧ t ≤ 4) (hb : 0 ≤ b ∧ b ≤ 4) : Cl 3 115 w (fun _ => True) [.int t tt, .int b tb] (ONew fun objs v => KnownIn w objs v t.toNat b.toNat) := by
  have e1 := mul_tabs t.toNat (by omega)
  have e2 := mul_blanks b.toNat (by omega)
  have e3 := lead_eq t.toNat (by omega) b.toNat (by omega)
  rw [Int.toNat_of_nonneg ht.1] at e1
  rw [Int.toNat_of_nonneg hb.1] at e2
  w_on
  (( unfold Cl PCl; intro meanZ mgZ mbZ dpZ unZ gdZ cnZ csZ aZ ccdZ clZ outerZ AZ baseZ hZ0 LZ mZ sZ QZ EZ BZ FZ XZ TZ hkZ hdZ huZ hHZ hretZ; k_dflt (refine' enter_pure ?k1Z9 ?k2Z9 ?k3Z9 ?k5Z9 ?kAZ9 ?kFZ9 ?kKZ9 ?k6Z9 ?k7Z9 ?k8Z9 ?k9Z9 ?kBZ9 ?_ ?c2Z9 ?c3Z9 ?c4Z9 ?c5Z9; (case kAZ9 => exact rfl); (case kFZ9 => exact rfl); (case kKZ9 => assumption); (case k1Z9 => k_asm); (case k2Z9 => k_asm); (case k3Z9 => k_asm); (case k5Z9 => k_asm); (case k6Z9 => k_is); (case k7Z9 => k_is); (case k8Z9 => ktr_room); (case k9Z9 => exact BindsTo.of_eq rfl); (case c5Z9 => decide); (case kBZ9 => exact locs rfl); (case c2Z9 => exact rfl); (case c3Z9 => exact rfl); (case c4Z9 => exact rfl); k_whole; intro gY LY hY hgY FY NY BY XY TY; (try dsimp only); (try k_lift BY); (try k_fold))))
  rename Fr _ _ _ _ => F1
  k_dflt (refine' execs_store (PySem.Str.ofString "text") (fun v => ∃ k, v = .str (leadS t.toNat b.toNat) k) F1 .nil ?_ ?_)
  · (try k_fold)
    (repeat' (first | (((with_reducible show wpAny _ _ (call (Value.ref 83) [Value.str _ _]) _ _ _); k_here; k_dflt ((rename Fr _ _ _ _ => lF'); (rename News _ _ _ _ => lN'); (refine' ws_claim _ _ _ _ _ [] ?hyZ9 (.inl rfl) ?kpZ9 ?kqZ9 _ _ _ _ _ _ _ _ _ _ _ _ _ _ _ _ _ _ _ _ _ ?k1Z9 lF' ?k3Z9 lN' ?k5Z9 ?kKZ9 ?kdZ9 ?kuZ9 ?_); (case hyZ9 => first | exact leadS_list _ _ | exact leadS_list1 _ _); (case kpZ9 => omega); (case kqZ9 => omega); (case k1Z9 => k_asm); (case k3Z9 => k_asm); (case k5Z9 => k_asm); (case kKZ9 => first | exact rfl | assumption); (case kdZ9 => ktr_room); (case kuZ9 => ktr_units); clear lF' lN'; intro x9 dx9 nm9 ct9 cs9 T9 h9 tk9 hcs9 F9 N9 lZ1 lZ2 lZ3 lZ4; (try k_lt lZ1); k_lt2 lZ2; k_lt2 lZ3; k_lt2 lZ4; (have W9 := WsAt.of hcs9 N9); dsimp only [wsObjs, List.cons_append, List.nil_append] at N9; (try dsimp only); (try k_fold)))) | ((k_here; (with_reducible show wpAny _ _ (call (Value.type _) [Value.ref _]) _ _ _); (rename IsRange _ _ _ _ _ _ _ _ => rgX); (with_unfolding_all refine' list_step ?k0Z9 ?k1Z9 ?k2Z9 ?k3Z9 ?k4Z9 ?k5Z9 ?k6Z9 ?_; (case k0Z9 => rfl); (case k1Z9 => k_asm); (case k2Z9 => k_asm); (case k3Z9 => exact rgX); (case k4Z9 => exact small_two (by omega) (by omega)); (case k5Z9 => exact range_two (by omega)); (case k6Z9 => omega)); intro _ _ _ _ _ _ _ l1 _; (try k_lt l1))) | ((k_here; (with_reducible show wpAny _ _ (subscriptTail _ (Expr.Slice none (some _) none _) _ _) _ _ _); (with_reducible rename Fr _ _ _ _ => F'); (with_reducible rename News _ _ _ _ => N'); (refine slice_none (s := ⟨_, _, _, _, _⟩) F' N' ?_ (hsz := ?hszZ9)); (case hszZ9 => (rw [sizeLine_eq]; omega)); intro _ _ _ _ _)) | ((k_here; k_openite; first | (refine ite_pos ?hxZ9 ?_; (case hxZ9 => first | with_reducible assumption | (simp only [decide_eq_true_eq, decide_eq_false_iff_not, Bool.not_eq_true', Bool.not_eq_false', bne_iff_ne, ne_eq]; omega))) | (refine ite_neg ?hxZ9 ?_; (case hxZ9 => first | with_reducible assumption | (simp only [decide_eq_true_eq, decide_eq_false_iff_not, Bool.not_eq_true', Bool.not_eq_false', bne_iff_ne, ne_eq, Bool.not_eq_true, Decidable.not_not]; omega))) | (refine ite_b (fun hc => ?_) (fun hc => ?_) <;> (try simp only [decide_eq_true_eq, decide_eq_false_iff_not, Bool.not_eq_true', Bool.not_eq_false', bne_iff_ne, ne_eq, bne_eq_false_iff_eq, Decidable.not_not, Int.not_lt, Int.not_le] at hc)))) | (fail_if_success (with_reducible show wpAny _ _ (exec (Stmt.While _ _ _ _) _) _ _ _)); (fail_if_success (with_reducible show wpAny _ _ (exec (Stmt.For _ _ _ _ _) _) _ _ _)); (fail_if_success (with_reducible show wpAny _ _ (pyIter _) _ _ _)); (fail_if_success (with_reducible show InvEndN _ _ _ _ _ _ _)); (fail_if_success (with_reducible show GEnd _ _ _ _ _ _ _)); (fail_if_success (with_reducible show GPost _ _ _ _ _ _ _ _ _)); first | (k_unfold; (try dsimp only)) | walk1 | (dsimp only; walk1) | (leave1; try dsimp only) | fail "no step"))
    ((refine' mstore_ ?keZ9 ?kFZ9 ?kNZ9 ?knZ9 ?kyZ9 ?kmZ9 ?_; (case keZ9 => exact rfl); (case kFZ9 => assumption); (case kNZ9 => assumption); (case knZ9 => first | (intro p hp; cases hp; done) | exact fun p hp => hp); (case kyZ9 => exact rfl); (case kmZ9 => (intro z hz; first | (simp only [hz, if_false]; done) | (simp [hz]; done)))))
    exact ⟨_, by rw [e1, e2, e3]⟩
  clear F1
  rintro _ h tk ⟨k3, rfl⟩ F4 N4
  have hlen : (leadS t.toNat b.toNat).length ≤ 40 := by rw [leadS_len]; omega
  (try k_fold)
  (repeat' (first | (((with_reducible show wpAny _ _ (call (Value.ref 83) [Value.str _ _]) _ _ _); k_here; k_dflt ((rename Fr _ _ _ _ => lF'); (rename News _ _ _ _ => lN'); (refine' ws_claim _ _ _ _ _ [] ?hyZ9 (.inl rfl) ?kpZ9 ?kqZ9 _ _ _ _ _ _ _ _ _ _ _ _ _ _ _ _ _ _ _ _ _ ?k1Z9 lF' ?k3Z9 lN' ?k5Z9 ?kKZ9 ?kdZ9 ?kuZ9 ?_); (case hyZ9 => first | exact leadS_list _ _ | exact leadS_list1 _ _); (case kpZ9 => omega); (case kqZ9 => omega); (case k1Z9 => k_asm); (case k3Z9 => k_asm); (case k5Z9 => k_asm); (case kKZ9 => first | exact rfl | assumption); (case kdZ9 => ktr_room); (case kuZ9 => ktr_units); clear lF' lN'; intro x9 dx9 nm9 ct9 cs9 T9 h9 tk9 hcs9 F9 N9 lZ1 lZ2 lZ3 lZ4; (try k_lt lZ1); k_lt2 lZ2; k_lt2 lZ3; k_lt2 lZ4; (have W9 := WsAt.of hcs9 N9); dsimp only [wsObjs, List.cons_append, List.nil_append] at N9; (try dsimp only); (try k_fold)))) | ((k_here; (with_reducible show wpAny _ _ (call (Value.type _) [Value.ref _]) _ _ _); (rename IsRange _ _ _ _ _ _ _ _ => rgX); (with_unfolding_all refine' list_step ?k0Z9 ?k1Z9 ?k2Z9 ?k3Z9 ?k4Z9 ?k5Z9 ?k6Z9 ?_; (case k0Z9 => rfl); (case k1Z9 => k_asm); (case k2Z9 => k_asm); (case k3Z9 => exact rgX); (case k4Z9 => exact small_two (by omega) (by omega)); (case k5Z9 => exact range_two (by omega)); (case k6Z9 => omega)); intro _ _ _ _ _ _ _ l1 _; (try k_lt l1))) | ((k_here; (with_reducible show wpAny _ _ (subscriptTail _ (Expr.Slice none (some _) none _) _ _) _ _ _); (with_reducible rename Fr _ _ _ _ => F'); (with_reducible rename News _ _ _ _ => N'); (refine slice_none (s := ⟨_, _, _, _, _⟩) F' N' ?_ (hsz := ?hszZ9)); (case hszZ9 => (rw [sizeLine_eq]; omega)); intro _ _ _ _ _)) | ((k_here; k_openite; first | (refine ite_pos ?hxZ9 ?_; (case hxZ9 => first | with_reducible assumption | (simp only [decide_eq_true_eq, decide_eq_false_iff_not, Bool.not_eq_true', Bool.not_eq_false', bne_iff_ne, ne_eq]; omega))) | (refine ite_neg ?hxZ9 ?_; (case hxZ9 => first | with_reducible assumption | (simp only [decide_eq_true_eq, decide_eq_false_iff_not, Bool.not_eq_true', Bool.not_eq_false', bne_iff_ne, ne_eq, Bool.not_eq_true, Decidable.not_not]; omega))) | (refine ite_b (fun hc => ?_) (fun hc => ?_) <;> (try simp only [decide_eq_true_eq, decide_eq_false_iff_not, Bool.not_eq_true', Bool.not_eq_false', bne_iff_ne, ne_eq, bne_eq_false_iff_eq, Decidable.not_not, Int.not_lt, Int.not_le] at hc)))) | (fail_if_success (with_reducible show wpAny _ _ (exec (Stmt.While _ _ _ _) _) _ _ _)); (fail_if_success (with_reducible show wpAny _ _ (exec (Stmt.For _ _ _ _ _) _) _ _ _)); (fail_if_success (with_reducible show wpAny _ _ (pyIter _) _ _ _)); (fail_if_success (with_reducible show InvEndN _ _ _ _ _ _ _)); (fail_if_success (with_reducible show GEnd _ _ _ _ _ _ _)); (fail_if_success (with_reducible show GPost _ _ _ _ _ _ _ _ _)); first | (k_unfold; (try dsimp only)) | walk1 | (dsimp only; walk1) | (leave1; try dsimp only) | fail "no step"))
  (( (rename (∀ (v : Value) (h' : Heap) (tk' : Nat), Heap.StaysIn _ h' → _ → _) => hret9); (rename (_ = Shared.heap _) => hg9); refine' ret_ hret9 hg9 ?kFZ9 ?keZ9 ?_; (case kFZ9 => assumption); (case keZ9 => exact rfl); (try dsimp only)))
  (rename (_ = Shared.heap _) => hg9; rename News _ _ _ _ => N9)
  refine oNew hg9 N9 ?_
  exact ⟨_, _, _, _, _, _, rfl, (by rw [← e1, ← e2]; k_mem), WsAt.mono (by assumption) (fun z hz => .tail _ (.tail _ (.tail _ (.tail _ (.tail _ hz))))), WsAt.mono (by assumption) (fun z hz => .tail _ hz)⟩

-- leans_pure
theorem split_b : ∀ b < 5, Txt.split (PySem.Str.ofString "..." ++ blanksS b) dots = [PySem.Str.ofString "", blanksS b] := by decide +kernel
theorem occ_b : ∀ b < 5, (Builtin.Str.occurrences (PySem.Str.ofString "..." ++ blanksS b) dots 0 (PySem.Str.ofString "..." ++ blanksS b).length 1).isEmpty = false := by decide +kernel
theorem ellF_w1 {b i j : Nat} (hb : b < 5) (hi : i < 5) (hj : j < 5) : ellF (PySem.Str.ofString "") (blanksS b) (leadS i j) = Nat.ble b j := by
  have e : (PySem.Str.ofString "").cps = #[] := by decide +kernel
  rw [ellF_list, e]
  exact ell_w1 b hb i hi j hj
theorem ellF_w0 {t b i j : Nat} (ht : t < 5) (hb : b < 5) (hi : i < 5) (hj : j < 5) : ellF (tabsS t) (blanksS b) (leadS i j) = way0 t b i j := by
  rw [ellF_list]
  exact ell_w0 t ht b hb i hi j hj
theorem blt_succ (t b i j : Nat) : Nat.blt (t + b) (i + (j + 1)) = Nat.ble (t + b) (i + j) := rfl

-- leans_mac
theorem less_use (w : World) (x x' : Addr) (p q p' q' : Nat)
    (mean : ExcName → Option Value) (mg mb : PySem.Str → Option Value) (dp un : Nat) (gd : Option (List Code)) (cn : PySem.Str) (sc : Scope) (a : Addr) (ccd : Value) (cl : List (PySem.Str × Addr)) (outer : List Env) (A₀ : Around) (base h₀ : Heap) (L : Addr) (m : PySem.Str → Option Value) (s : Shared) (Q E : Value → Shared → Prop) (news : List (Addr × Obj))
    (B : Below A₀ base outer h₀) (F : Fr h₀ L s.heap m) (X : (hd.heap_39 w.params).In h₀) (N : News h₀ L s.heap news) (T : Top hd.view_39 (looseW hd.view_39 [PySem.Str.ofString "Whitespace"]) mean mg mb h₀) (W1 : WsAt w news x p q) (W2 : WsAt w news x' p' q') (hk : sc.kind = .function) (hdp : dp + 1 < recursionLimit) (hu : un + 8 < cLine)
    (hret : ∀ h' tk', Fr h₀ L h' m → News h₀ L h' news → s.heap.StaysIn h' → Q (.bool (Nat.blt (p + q) (p' + q') && Nat.ble p p')) { s with heap := h', toks := tk' }) :
    wpAny (model PySem.Challenge.pw_pg0263_02 w) (ktrTop dp un gd cn sc L a ccd cl outer) (call (.ref 73) [.ref x, .ref x']) Q E s := by
  obtain ⟨dx, nm, ct, y, cs, WT, _, h1⟩ := W1
  obtain ⟨dx', nm', ct', y', cs', WT', _, h2⟩ := W2
  exact less_claim w x dx nm ct x' dx' nm' ct' y y' p q p' q' cs cs' WT WT' mean mg mb dp un gd cn sc a ccd cl outer A₀ base h₀ L m s Q E B F X (kst_newsOf N fun z hz => by rcases List.mem_append.mp hz with hz | hz; exact h1 z hz; exact h2 z hz) T hk hdp hu fun h' tk' st => hret h' tk' (fr_stays F st) (news_stays N st) st
theorem ell_b (w : World) (b i j : Nat) (tw tg : Tok) (hb : b < 5) (hi : i < 5) (hj : j < 5) : Cl 1 94 w (fun _ => True) [.str (PySem.Str.ofString "..." ++ blanksS b) tw, .str (leadS i j) tg] (OBool (Nat.ble b j)) := by
  rw [← ellF_w1 hb hi hj]
  have h3 : (PySem.Str.ofString "...").length = 3 := dots_len
  exact ell_claim w _ _ _ _ tw tg (by rw [PySem.Str.length_append, blanksS_len, h3]; omega) (by decide +kernel) (by rw [blanksS_len]; omega) (by rw [leadS_len]; omega) (occ_b b hb) (split_b b hb)
theorem ell_tb (w : World) (t b i j : Nat) (tw tg : Tok) (ht : t < 5) (hb : b < 5) (hi : i < 5) (hj : j < 5) : Cl 1 94 w (fun _ => True) [.str (tabsS t ++ PySem.Str.ofString "..." ++ blanksS b) tw, .str (leadS i j) tg] (OBool (way0 t b i j)) := by
  rw [← ellF_w0 ht hb hi hj]
  have h3 : (PySem.Str.ofString "...").length = 3 := dots_len
  have n1 : 46 ∉ (tabsS t).cps.toList := by show 46 ∉ List.replicate t 9; simp [List.mem_replicate]
  have n2 : 46 ∉ (blanksS b).cps.toList := by show 46 ∉ List.replicate b 32; simp [List.mem_replicate]
  exact ell_claim w _ _ _ _ tw tg (by rw [PySem.Str.length_append, PySem.Str.length_append, blanksS_len, tabsS_len, h3]; omega) (by rw [tabsS_len]; omega) (by rw [blanksS_len]; omega) (by rw [leadS_len]; omega) (occ_dots1 n1 n2) (split_dots n1 n2)

-- leans_body
theorem leans_claim (w : World) (vh vt : Value) (t b i j : Nat) (ht : t < 5) (hb : b < 5) (hi : i < 5) (hj : j < 5)
    (mean : ExcName → Option Value) (mg mb : PySem.Str → Option Value) (dp un : Nat) (gd : Option (List Code)) (cn : PySem.Str) (sc : Scope) (a : Addr) (ccd : Value) (cl : List (PySem.Str × Addr)) (outer : List Env) (A₀ : Around) (base h₀ : Heap) (L : Addr) (m : PySem.Str → Option Value) (s : Shared) (Q E : Value → Shared → Prop) (news : List (Addr × Obj))
    (B : Below A₀ base outer h₀) (F : Fr h₀ L s.heap m) (X : (hd.heap_39 w.params).In h₀) (N : News h₀ L s.heap news) (T : Top hd.view_39 (looseW hd.view_39 [PySem.Str.ofString "Whitespace"]) mean mg mb h₀) (K1 : KnownIn w news vh t b) (K2 : KnownIn w news vt i j) (hk : sc.kind = .function) (hdp : dp + 2 < recursionLimit) (hu : un + 16 < cLine)
    (hret : ∀ h' tk', Fr h₀ L h' m → News h₀ L h' news → s.heap.StaysIn h' → Q (.bool (way1 t b i j)) { s with heap := h', toks := tk' }) :
    wpAny (model PySem.Challenge.pw_pg0263_02 w) (ktrTop dp un gd cn sc L a ccd cl outer) (call (.ref 122) [vh, vt]) Q E s := by
  have hret2 : ∀ h' tk', s.heap.StaysIn h' → Q (.bool (way1 t b i j)) { s with heap := h', toks := tk' } := fun h' tk' st => hret h' tk' (fr_stays F st) (news_stays N st) st
  refine hideG fun Gx hG => ?_
  obtain ⟨D1, x1, x2, k1, k2, k3, rfl, m1, W1, _⟩ := K1
  obtain ⟨D2, y1, y2, k4, k5, k6, rfl, m2, _, W2⟩ := K2
  clear hret
  obtain ⟨dx, nm, ct, yy, cs, WT, hcs, hW1⟩ := id W1
  refine hG ?_
  clear hG
  w_on
  ((k_dflt (refine' enter_own (news) (by assumption) (by assumption) (by assumption) ?kNZ9 (by assumption) ?cAZ9 ?cFZ9 ?cKZ9 ?c6Z9 ?c7Z9 ?c8Z9 ?c9Z9 ?cBZ9 ?_ ?d2Z9 ?d3Z9 ?d4Z9 ?d5Z9); (case kNZ9 => assumption); (case cAZ9 => exact rfl); (case cFZ9 => exact rfl); (case cKZ9 => assumption); (case c6Z9 => k_is); (case c7Z9 => k_is); (case c8Z9 => ktr_room); (case c9Z9 => exact BindsTo.of_eq rfl); (case cBZ9 => exact locs rfl); (case d2Z9 => exact rfl); (case d3Z9 => exact rfl); (case d4Z9 => exact rfl); (case d5Z9 => decide)))
  intro g L' h2 hg F2 N2 B2 X2 T2
  have hst := fun (h' : Heap) (m' : PySem.Str → Option Value) (F' : Fr g L' h' m') (N' : News g L' h' news) => stays_own N hg F' N'
  have N3 := kst_newsOf N2 (l' := wsObjs 83 w x1 dx nm ct yy (t + b : Nat) (t : Nat) (b : Nat) cs WT ++ ((D1, wsTup [.str (tabsS t) k1, .str (blanksS b) k2, .str (leadS t b) k3, .ref x1, .ref x2]) :: (D2, wsTup [.str (tabsS i) k4, .str (blanksS j) k5, .str (leadS i j) k6, .ref y1, .ref y2]) :: news)) (fun z hz => by rcases List.mem_append.mp hz with hz | hz; exact hW1 z hz; rcases List.mem_cons.mp hz with rfl | hz; exact m1; rcases List.mem_cons.mp hz with rfl | hz; exact m2; exact hz)
  have W1' := W1.mono (b := wsObjs 83 w x1 dx nm ct yy (t + b : Nat) (t : Nat) (b : Nat) cs WT ++ ((D1, wsTup [.str (tabsS t) k1, .str (blanksS b) k2, .str (leadS t b) k3, .ref x1, .ref x2]) :: (D2, wsTup [.str (tabsS i) k4, .str (blanksS j) k5, .str (leadS i j) k6, .ref y1, .ref y2]) :: news)) (fun z hz => List.mem_append_right _ (.tail _ (.tail _ hz)))
  have W2' := W2.mono (b := wsObjs 83 w x1 dx nm ct yy (t + b : Nat) (t : Nat) (b : Nat) cs WT ++ ((D1, wsTup [.str (tabsS t) k1, .str (blanksS b) k2, .str (leadS t b) k3, .ref x1, .ref x2]) :: (D2, wsTup [.str (tabsS i) k4, .str (blanksS j) k5, .str (leadS i j) k6, .ref y1, .ref y2]) :: news)) (fun z hz => List.mem_append_right _ (.tail _ (.tail _ hz)))
  clear W1 W2 N2 m1 m2 hW1
  dsimp only [wsObjs, List.cons_append, List.nil_append] at N3
  have hl := blanksS_len j
  have hl3 : (PySem.Str.ofString "...").length = 3 := dots_len
  (try dsimp only); (try k_lift B2); (try k_fold)
  (repeat' (first | (((with_reducible show wpAny _ _ (call (Value.ref 73) _) _ _ _); k_here; k_dflt ((rename Fr _ _ _ _ => lF'); (rename News _ _ _ _ => lN'); (refine' less_use _ _ _ _ _ _ _ _ _ _ _ _ _ _ _ _ _ _ _ _ _ _ _ _ _ _ _ _ ?k1Z9 lF' ?k3Z9 lN' ?k5Z9 ?w1Z9 ?w2Z9 ?kKZ9 ?kdZ9 ?kuZ9 ?_); (case w1Z9 => assumption); (case w2Z9 => assumption); (case k1Z9 => k_asm); (case k3Z9 => k_asm); (case k5Z9 => k_asm); (case kKZ9 => first | exact rfl | assumption); (case kdZ9 => ktr_room); (case kuZ9 => ktr_units); clear lF' lN'; intro h9 tk9 F9 N9 st9; (try dsimp only); (try k_fold)))) | (((with_reducible show wpAny _ _ (call (Value.ref 94) [Value.str _ _, Value.str _ _]) _ _ _); (first | ((k_here; (rename Fr _ _ _ _ => lF'); (rename News _ _ _ _ => lN'); k_dflt (refine' use_cl (ell_b _ _ _ _ _ _ (by omega) (by omega) (by omega)) ?k1Z9 lF' ?k3Z9 lN' ?k5Z9 ?kKZ9 ?kdZ9 ?kuZ9 ?kHZ9 ?_); (case k1Z9 => k_asm); (case k3Z9 => k_asm); (case k5Z9 => k_asm); (case kKZ9 => first | exact rfl | assumption); (case kdZ9 => ktr_room); (case kuZ9 => ktr_units); (case kHZ9 => trivial); clear lF' lN')) | ((k_here; (rename Fr _ _ _ _ => lF'); (rename News _ _ _ _ => lN'); k_dflt (refine' use_cl (ell_tb _ _ _ _ _ _ _ (by omega) (by omega) (by omega) (by omega)) ?k1Z9 lF' ?k3Z9 lN' ?k5Z9 ?kKZ9 ?kdZ9 ?kuZ9 ?kHZ9 ?_); (case k1Z9 => k_asm); (case k3Z9 => k_asm); (case k5Z9 => k_asm); (case kKZ9 => first | exact rfl | assumption); (case kdZ9 => ktr_room); (case kuZ9 => ktr_units); (case kHZ9 => trivial); clear lF' lN'))); intro v9 h9 tk9 F9 N9 st9 o9; subst o9; (try dsimp only); (try k_fold))) | ((k_here; (with_reducible show wpAny _ _ (call (Value.type _) [Value.ref _]) _ _ _); (rename IsRange _ _ _ _ _ _ _ _ => rgX); (with_unfolding_all refine' list_step ?k0Z9 ?k1Z9 ?k2Z9 ?k3Z9 ?k4Z9 ?k5Z9 ?k6Z9 ?_; (case k0Z9 => rfl); (case k1Z9 => k_asm); (case k2Z9 => k_asm); (case k3Z9 => exact rgX); (case k4Z9 => exact small_two (by omega) (by omega)); (case k5Z9 => exact range_two (by omega)); (case k6Z9 => omega)); intro _ _ _ _ _ _ _ l1 _; (try k_lt l1))) | ((k_here; (with_reducible show wpAny _ _ (subscriptTail _ (Expr.Slice none (some _) none _) _ _) _ _ _); (with_reducible rename Fr _ _ _ _ => F'); (with_reducible rename News _ _ _ _ => N'); (refine slice_none (s := ⟨_, _, _, _, _⟩) F' N' ?_ (hsz := ?hszZ9)); (case hszZ9 => (rw [sizeLine_eq]; omega)); intro _ _ _ _ _)) | ((k_here; k_openite; first | (refine ite_pos ?hxZ9 ?_; (case hxZ9 => first | with_reducible assumption | (simp only [decide_eq_true_eq, decide_eq_false_iff_not, Bool.not_eq_true', Bool.not_eq_false', bne_iff_ne, ne_eq]; omega))) | (refine ite_neg ?hxZ9 ?_; (case hxZ9 => first | with_reducible assumption | (simp only [decide_eq_true_eq, decide_eq_false_iff_not, Bool.not_eq_true', Bool.not_eq_false', bne_iff_ne, ne_eq, Bool.not_eq_true, Decidable.not_not]; omega))) | (refine ite_b (fun hc => ?_) (fun hc => ?_) <;> (try simp only [decide_eq_true_eq, decide_eq_false_iff_not, Bool.not_eq_true', Bool.not_eq_false', bne_iff_ne, ne_eq, bne_eq_false_iff_eq, Decidable.not_not, Int.not_lt, Int.not_le] at hc)))) | (fail_if_success (with_reducible show wpAny _ _ (exec (Stmt.While _ _ _ _) _) _ _ _)); (fail_if_success (with_reducible show wpAny _ _ (exec (Stmt.For _ _ _ _ _) _) _ _ _)); (fail_if_success (with_reducible show wpAny _ _ (pyIter _) _ _ _)); (fail_if_success (with_reducible show InvEndN _ _ _ _ _ _ _)); (fail_if_success (with_reducible show GEnd _ _ _ _ _ _ _)); (fail_if_success (with_reducible show GPost _ _ _ _ _ _ _ _ _)); first | (k_unfold; (try dsimp only)) | walk1 | (dsimp only; walk1) | (leave1; try dsimp only) | fail "no step"))
  all_goals (rename Fr g _ _ _ => F7; rename News g _ _ _ => N7)
  all_goals refine ret_any hret2 (hst _ _ F7 (kst_newsOf N7 fun z hz => .tail _ (.tail _ (.tail _ (.tail _ (.tail _ (.tail _ hz))))))) rfl ?_
  all_goals rename ((_ && _) = _) => hc9
  all_goals rw [blt_succ] at hc9
  · unfold way1; rw [hc9, Bool.true_and]
  · rw [blt_succ, hc9]; unfold way1; rw [hc9, Bool.false_and]

-- near_end
theorem append_mine {prog : Program} {w : World} {A : Around} {E : Value → Shared → Prop} {s : Shared} {h₀ : Heap} {L D : Addr} {m : PySem.Str → Option Value} {pre post : List (Addr × Obj)} {its : Array Value} {n : Nat} {x : Value} {Q : Value → Shared → Prop}
    (F : Fr h₀ L s.heap m) (N : News h₀ L s.heap (pre ++ (D, W.listOf its n) :: post)) (a : ∀ p ∈ pre, p.1 ≠ D) (b : ∀ p ∈ post, p.1 ≠ D) (hsz : its.size ≤ sizeLine)
    (h : ∀ h', Fr h₀ L h' m → News h₀ L h' (pre ++ (D, W.listOf (its.push x) (n + 1)) :: post) → Q .none { s with heap := h' }) : wpAny (model prog w) A (call (.builtin "list.append") [.ref D, x]) Q E s := by
  have z := N (D, W.listOf its n) (List.mem_append.mpr (.inr (.head _)))
  exact PyProof.Rows.append_at (hsz := hsz) z.1 fun h' hs ho' => h h' (F.change hs z.2.1 z.2.2) (W.news_set N a b hs ho')
-- ways_pure
noncomputable def waysL (t b i j : Nat) : List Int := (([] ++ (if way0 t b i j = true then [0] else [])) ++ (if way1 t b i j = true then [1] else [])) ++ (if way2 t b i j = true then [2] else [])
/-- the end of a statement that may append to the list at W -/
noncomputable def MApp (h₀ : Heap) (L : Addr) (s : Shared) (m₀ : PySem.Str → Option Value) (Wd : Addr) (rest : List (Addr × Obj)) (ns : List Int) (f : Flow) (s₂ : Shared) : Prop :=
  f = .next ∧ ∃ h' tk' us c, s₂ = { s with heap := h', toks := tk' } ∧ Fr h₀ L h' m₀ ∧ News h₀ L h' ((Wd, W.listOf (List.toArray us) c) :: rest) ∧ IntsAre us ns
theorem exec_app {prog : Program} {w : World} {A : Around} {E : Value → Shared → Prop} {Q : Flow → Shared → Prop} {s : Shared} {env : Env} {h₀ : Heap} {L : Addr} {m₀ : PySem.Str → Option Value} {st : Stmt} {Wd : Addr} {us₀ : List Value} {c₀ : Nat} {news : List (Addr × Obj)} (ns : List Int) (_ : Fr h₀ L s.heap m₀) (_ : News h₀ L s.heap ((Wd, W.listOf (List.toArray us₀) c₀) :: news))
    (h1 : wpAny (model prog w) A (exec st env) (MApp h₀ L s m₀ Wd news ns) E s)
    (h2 : ∀ us c h tk, IntsAre us ns → Fr h₀ L h m₀ → News h₀ L h ((Wd, W.listOf (List.toArray us) c) :: news) → Q .next { s with heap := h, toks := tk }) : wpAny (model prog w) A (exec st env) Q E s := by
  refine wpAny_mono h1 (fun f s₂ p => ?_) fun _ _ x => x
  obtain ⟨rfl, h', tk', us, c, rfl, F, N, hI⟩ := p
  exact h2 us c h' tk' hI F N
theorem mapp_ {h₀ : Heap} {L : Addr} {s s₂ : Shared} {m₀ : PySem.Str → Option Value} {Wd : Addr} {rest all : List (Addr × Obj)} {ns : List Int} {its : Array Value} {c : Nat} (e : s₂ = { s with heap := s₂.heap, toks := s₂.toks }) (F : Fr h₀ L s₂.heap m₀) (N : News h₀ L s₂.heap all) (hW : (Wd, W.listOf its c) ∈ all) (hr : ∀ z ∈ rest, z ∈ all)
    (hI : IntsAre its.toList ns) : MApp h₀ L s m₀ Wd rest ns .next s₂ :=
  ⟨rfl, _, _, its.toList, c, e, F, fun p hp => by rcases List.mem_cons.mp hp with rfl | hp; exact (Array.toArray_toList (xs := its)) ▸ N _ hW; exact N _ (hr p hp), hI⟩
theorem IntsAre.snoc {us : List Value} {ns : List Int} {k : Int} {t : Tok} (h : IntsAre us ns) : IntsAre ((List.toArray us).push (.int k t)).toList (ns ++ [k]) := by
  simp only [List.push_toArray]
  induction h with
  | nil => exact .cons _ _ .nil
  | cons n t' _ ih => exact .cons _ _ ih
theorem item_at {prog : Program} {w : World} {A : Around} {E : Value → Shared → Prop} {s : Shared} {value slice : PySem.Expr} {l : Addr} {vs : List Value} {k : Int} {u : Tok} {v : Value} {Q : Value → Shared → Prop}
    (hl : s.heap.IsList l (List.toArray vs)) (h0 : 0 ≤ k) (hhi : k < 2 ^ 63) (hx : vs[k.toNat]? = some v) (h : Q v s)
    (hs : subscripted slice false (.ref l) (.int k u) = operate [.ref l, .int k u] (getItem (.ref l) (.int k u)) := by with_unfolding_all rfl) :
    wpAny (model prog w) A (subscriptTail value slice (.ref l) (.int k u)) Q E s :=
  tail_any hl.typeIs slot_list_getitem.lookup (wpAny_getItem_list hl h0 hhi (by simpa using hx) h) hs
theorem append_front {prog : Program} {w : World} {A : Around} {E : Value → Shared → Prop} {s : Shared} {h₀ : Heap} {L D : Addr} {m : PySem.Str → Option Value} {post : List (Addr × Obj)} {its : Array Value} {n : Nat} {x : Value} {Q : Value → Shared → Prop}
    (F : Fr h₀ L s.heap m) (N : News h₀ L s.heap ((D, W.listOf its n) :: post)) (hlt : AllLt D post) (hsz : its.size ≤ sizeLine)
    (h : ∀ h', Fr h₀ L h' m → News h₀ L h' ((D, W.listOf (its.push x) (n + 1)) :: post) → Q .none { s with heap := h' }) : wpAny (model prog w) A (call (.builtin "list.append") [.ref D, x]) Q E s :=
  append_mine (pre := []) F N (fun p hp => nomatch hp) (fun p hp => Nat.ne_of_lt (kst_ltOf hlt p hp)) hsz h
theorem ints_size {us : List Value} {ns : List Int} (h : IntsAre us ns) (hn : ns.length ≤ 100) : (List.toArray us).size ≤ sizeLine := by
  have : (100 : Nat) ≤ sizeLine := by decide
  rw [List.size_toArray, h.length]; omega
theorem appI {us : List Value} {ns : List Int} {k : Int} {t : Tok} {c : Bool} (h : IntsAre us ns) (hc : c = true) : IntsAre ((List.toArray us).push (.int k t)).toList (ns ++ (if c = true then [k] else [])) := by rw [if_pos hc]; exact Mine.IntsAre.snoc h
theorem appN {us : List Value} {ns : List Int} {k : Int} {c : Bool} (h : IntsAre us ns) (hc : c = false) : IntsAre ((List.toArray us)).toList (ns ++ (if c = true then [k] else [])) := by rw [if_neg (by rw [hc]; decide), List.append_nil]; exact h
theorem ret_new {s s' : Shared} {Q : Value → Shared → Prop} {g : Heap} {L' : Addr} {own all objs : List (Addr × Obj)} {v : Value} {P : List (Addr × Obj) → Value → Prop} (hret : ∀ h' tk' v, s.heap.StaysIn h' → ONew P s.heap h' v → Q v { s with heap := h', toks := tk' }) (hg : g = hideAll s.heap (own.map (·.1))) (st : s.heap.StaysIn s'.heap)
    (N : News g L' s'.heap all) (hsub : ∀ p ∈ objs, p ∈ all) (hlt : ∀ p ∈ objs, ∀ z ∈ own, z.1 ≠ p.1) (e : s' = { s with heap := s'.heap, toks := s'.toks }) (hP : P objs v) : Ret Q v s' := by
  show Q v s'
  rw [e]
  refine hret s'.heap s'.toks v st ⟨objs, hP, fun p hp => ?_⟩
  have z := N p (hsub p hp)
  refine ⟨?_, z.1⟩
  cases q : s.heap.get? p.1 with
  | none => rfl
  | some o =>
    have := hideAll_get (own.map (·.1)) q (fun hm => by
      obtain ⟨y, hy, e2⟩ := List.mem_map.mp hm
      exact hlt p hp y hy e2)
    rw [← hg, z.2.2] at this
    cases this

-- ways_mac

-- ways_body
theorem ways_claim (w : World) (P M : Addr) (vsP vsM : List Value) (cP cM : Nat) (i j : Int) (ti tj : Tok) (vi vj mi mj : Value) (t b p q : Nat) (ht : t < 5) (hb : b < 5) (hp : p < 5) (hq : q < 5) (hi : 0 ≤ i ∧ i ≤ 100) (hj : 0 ≤ j ∧ j ≤ 100)
    (hPi : vsP[i.toNat]? = some vi) (hPj : vsP[j.toNat]? = some vj) (hMi : vsM[i.toNat]? = some mi) (hMj : vsM[j.toNat]? = some mj)
    (mean : ExcName → Option Value) (mg mb : PySem.Str → Option Value) (dp un : Nat) (gd : Option (List Code)) (cn : PySem.Str) (sc : Scope) (a : Addr) (ccd : Value) (cl : List (PySem.Str × Addr)) (outer : List Env) (A₀ : Around) (base h₀ : Heap) (L : Addr) (m : PySem.Str → Option Value) (s : Shared) (Q E : Value → Shared → Prop) (news : List (Addr × Obj))
    (B : Below A₀ base outer h₀) (F : Fr h₀ L s.heap m) (X : (hd.heap_39 w.params).In h₀) (N : News h₀ L s.heap news) (T : Top hd.view_39 (looseW hd.view_39 [PySem.Str.ofString "Whitespace"]) mean mg mb h₀)
    (hP : (P, W.listOf (List.toArray vsP) cP) ∈ news) (hM : (M, W.listOf (List.toArray vsM) cM) ∈ news) (Ki : KnownIn w news vi t b) (Kj : KnownIn w news vj p q) (Li : KnownIn w news mi b t) (Lj : KnownIn w news mj q p) (hk : sc.kind = .function) (hdp : dp + 3 < recursionLimit) (hu : un + 24 < cLine)
    (hret : ∀ h' tk' v, Fr h₀ L h' m → News h₀ L h' news → s.heap.StaysIn h' → ONew (fun objs v => ∃ D us c, v = .ref D ∧ (D, W.listOf (List.toArray us) c) ∈ objs ∧ IntsAre us (waysL t b p q)) s.heap h' v → Q v { s with heap := h', toks := tk' }) :
    wpAny (model PySem.Challenge.pw_pg0263_02 w) (ktrTop dp un gd cn sc L a ccd cl outer) (call (.ref 129) [.ref P, .ref M, .int i ti, .int j tj]) Q E s := by
  have hret2 := fun h' tk' v (st : s.heap.StaysIn h') => hret h' tk' v (fr_stays F st) (news_stays N st) st
  clear hret
  refine hideG fun Gx hG => ?_
  obtain ⟨D1, x1, x2, k1, k2, k3, rfl, m1, _⟩ := id Ki
  obtain ⟨D2, y1, y2, k4, k5, k6, rfl, m2, _⟩ := id Kj
  refine hG ?_
  clear hG
  w_on
  ((k_dflt (refine' enter_own (news) (by assumption) (by assumption) (by assumption) ?kNZ9 (by assumption) ?cAZ9 ?cFZ9 ?cKZ9 ?c6Z9 ?c7Z9 ?c8Z9 ?c9Z9 ?cBZ9 ?_ ?d2Z9 ?d3Z9 ?d4Z9 ?d5Z9); (case kNZ9 => assumption); (case cAZ9 => exact rfl); (case cFZ9 => exact rfl); (case cKZ9 => assumption); (case c6Z9 => k_is); (case c7Z9 => k_is); (case c8Z9 => ktr_room); (case c9Z9 => exact BindsTo.of_eq rfl); (case cBZ9 => exact locs rfl); (case d2Z9 => exact rfl); (case d3Z9 => exact rfl); (case d4Z9 => exact rfl); (case d5Z9 => decide)))
  intro g L' h2 hg F2 N2 B2 X2 T2
  have hst := fun (h' : Heap) (m' : PySem.Str → Option Value) (F' : Fr g L' h' m') (N' : News g L' h' news) => stays_own N hg F' N'
  have hsub : ∀ z ∈ [(P, W.listOf (List.toArray vsP) cP), (M, W.listOf (List.toArray vsM) cM), (D1, wsTup [.str (tabsS t) k1, .str (blanksS b) k2, .str (leadS t b) k3, .ref x1, .ref x2]), (D2, wsTup [.str (tabsS p) k4, .str (blanksS q) k5, .str (leadS p q) k6, .ref y1, .ref y2])] ++ news, z ∈ news := fun z hz => by
    rcases List.mem_append.mp hz with hz | hz
    · simp only [List.mem_cons, List.not_mem_nil, or_false] at hz
      rcases hz with rfl | rfl | rfl | rfl <;> assumption
    · exact hz
  have N3 := kst_newsOf N2 hsub
  dsimp only [List.cons_append, List.nil_append] at N3
  clear N2 hsub m1 m2
  have hl := blanksS_len b
  have hl2 := tabsS_len t
  have hl3 : (PySem.Str.ofString "...").length = 3 := dots_len
  (try dsimp only); (try k_lift B2); (try k_fold)
  (repeat' (first | (((with_reducible show wpAny _ _ (call (Value.builtin "list.append") _) _ _ _); k_here; k_dflt ((rename Fr _ _ _ _ => lF'); (rename News _ _ _ _ => lN'); (refine' append_front lF' lN' ?klZ9 ?kzZ9 ?_); (case klZ9 => assumption); (case kzZ9 => first | exact Nat.le_of_ble_eq_true rfl | exact ints_size (by assumption) (by assumption)); clear lF' lN'; intro h9 F9 N9; (try dsimp only); (try k_fold)))) | (((with_reducible show wpAny _ _ (call (Value.ref 122) _) _ _ _); k_here; k_dflt ((rename Fr _ _ _ _ => lF'); (rename News _ _ _ _ => lN'); (refine' leans_claim _ _ _ _ _ _ _ ?htZ9 ?hbZ9 ?hiZ9 ?hjZ9 _ _ _ _ _ _ _ _ _ _ _ _ _ _ _ _ _ _ _ _ _ ?k1Z9 lF' ?k3Z9 lN' ?k5Z9 ?w1Z9 ?w2Z9 ?kKZ9 ?kdZ9 ?kuZ9 ?_); (case w1Z9 => (refine KnownIn.mono (by assumption) ?_; intro z hz; repeat (first | exact hz | refine List.Mem.tail _ ?_))); (case w2Z9 => (refine KnownIn.mono (by assumption) ?_; intro z hz; repeat (first | exact hz | refine List.Mem.tail _ ?_))); (case htZ9 => omega); (case hbZ9 => omega); (case hiZ9 => omega); (case hjZ9 => omega); (case k1Z9 => k_asm); (case k3Z9 => k_asm); (case k5Z9 => k_asm); (case kKZ9 => first | exact rfl | assumption); (case kdZ9 => ktr_room); (case kuZ9 => ktr_units); clear lF' lN'; intro h9 tk9 F9 N9 st9; (try dsimp only); (try k_fold)))) | ((k_here; (with_reducible show wpAny _ _ (subscriptTail _ _ (Value.ref _) (Value.int _ _)) _ _ _); k_dflt (refine' item_at ?k1Z9 ?k2Z9 ?k3Z9 ?k4Z9 ?_ ?k6Z9; (case k1Z9 => exact News.isList (by k_asm) (by k_mem)); (case k4Z9 => with_reducible assumption); (case k2Z9 => omega); (case k3Z9 => omega); (case k6Z9 => with_unfolding_all rfl); k_whole))) | (((with_reducible show wpAny _ _ (call (Value.ref 73) _) _ _ _); k_here; k_dflt ((rename Fr _ _ _ _ => lF'); (rename News _ _ _ _ => lN'); (refine' less_use _ _ _ _ _ _ _ _ _ _ _ _ _ _ _ _ _ _ _ _ _ _ _ _ _ _ _ _ ?k1Z9 lF' ?k3Z9 lN' ?k5Z9 ?w1Z9 ?w2Z9 ?kKZ9 ?kdZ9 ?kuZ9 ?_); (case w1Z9 => assumption); (case w2Z9 => assumption); (case k1Z9 => k_asm); (case k3Z9 => k_asm); (case k5Z9 => k_asm); (case kKZ9 => first | exact rfl | assumption); (case kdZ9 => ktr_room); (case kuZ9 => ktr_units); clear lF' lN'; intro h9 tk9 F9 N9 st9; (try dsimp only); (try k_fold)))) | (((with_reducible show wpAny _ _ (call (Value.ref 94) [Value.str _ _, Value.str _ _]) _ _ _); (first | ((k_here; (rename Fr _ _ _ _ => lF'); (rename News _ _ _ _ => lN'); k_dflt (refine' use_cl (ell_b _ _ _ _ _ _ (by omega) (by omega) (by omega)) ?k1Z9 lF' ?k3Z9 lN' ?k5Z9 ?kKZ9 ?kdZ9 ?kuZ9 ?kHZ9 ?_); (case k1Z9 => k_asm); (case k3Z9 => k_asm); (case k5Z9 => k_asm); (case kKZ9 => first | exact rfl | assumption); (case kdZ9 => ktr_room); (case kuZ9 => ktr_units); (case kHZ9 => trivial); clear lF' lN')) | ((k_here; (rename Fr _ _ _ _ => lF'); (rename News _ _ _ _ => lN'); k_dflt (refine' use_cl (ell_tb _ _ _ _ _ _ _ (by omega) (by omega) (by omega) (by omega)) ?k1Z9 lF' ?k3Z9 lN' ?k5Z9 ?kKZ9 ?kdZ9 ?kuZ9 ?kHZ9 ?_); (case k1Z9 => k_asm); (case k3Z9 => k_asm); (case k5Z9 => k_asm); (case kKZ9 => first | exact rfl | assumption); (case kdZ9 => ktr_room); (case kuZ9 => ktr_units); (case kHZ9 => trivial); clear lF' lN'))); intro v9 h9 tk9 F9 N9 st9 o9; subst o9; (try dsimp only); (try k_fold))) | ((k_here; (with_reducible show wpAny _ _ (call (Value.type _) [Value.ref _]) _ _ _); (rename IsRange _ _ _ _ _ _ _ _ => rgX); (with_unfolding_all refine' list_step ?k0Z9 ?k1Z9 ?k2Z9 ?k3Z9 ?k4Z9 ?k5Z9 ?k6Z9 ?_; (case k0Z9 => rfl); (case k1Z9 => k_asm); (case k2Z9 => k_asm); (case k3Z9 => exact rgX); (case k4Z9 => exact small_two (by omega) (by omega)); (case k5Z9 => exact range_two (by omega)); (case k6Z9 => omega)); intro _ _ _ _ _ _ _ l1 _; (try k_lt l1))) | ((k_here; (with_reducible show wpAny _ _ (subscriptTail _ (Expr.Slice none (some _) none _) _ _) _ _ _); (with_reducible rename Fr _ _ _ _ => F'); (with_reducible rename News _ _ _ _ => N'); (refine slice_none (s := ⟨_, _, _, _, _⟩) F' N' ?_ (hsz := ?hszZ9)); (case hszZ9 => (rw [sizeLine_eq]; omega)); intro _ _ _ _ _)) | ((k_here; k_openite; first | (refine ite_pos ?hxZ9 ?_; (case hxZ9 => first | with_reducible assumption | (simp only [decide_eq_true_eq, decide_eq_false_iff_not, Bool.not_eq_true', Bool.not_eq_false', bne_iff_ne, ne_eq]; omega))) | (refine ite_neg ?hxZ9 ?_; (case hxZ9 => first | with_reducible assumption | (simp only [decide_eq_true_eq, decide_eq_false_iff_not, Bool.not_eq_true', Bool.not_eq_false', bne_iff_ne, ne_eq, Bool.not_eq_true, Decidable.not_not]; omega))) | (refine ite_b (fun hc => ?_) (fun hc => ?_) <;> (try simp only [decide_eq_true_eq, decide_eq_false_iff_not, Bool.not_eq_true', Bool.not_eq_false', bne_iff_ne, ne_eq, bne_eq_false_iff_eq, Decidable.not_not, Int.not_lt, Int.not_le] at hc)))) | (fail_if_success (with_reducible show wpAny _ _ (exec (Stmt.If _ _ _ _) _) _ _ _)); first | (k_unfold; (try dsimp only)) | walk1 | (dsimp only; walk1) | (leave1; try dsimp only) | fail "no step"))
  have hI0 : IntsAre [] [] := .nil
  have hn0 : ([] : List Int).length ≤ 100 := by decide
  (rename Fr _ _ _ _ => F5; rename News _ _ _ _ => N5; k_dflt (refine' exec_app ([] ++ (if way0 t b p q = true then [0] else [])) F5 N5 ?_ ?_))
  · (try k_fold)
    (repeat' (first | (((with_reducible show wpAny _ _ (call (Value.builtin "list.append") _) _ _ _); k_here; k_dflt ((rename Fr _ _ _ _ => lF'); (rename News _ _ _ _ => lN'); (refine' append_front lF' lN' ?klZ9 ?kzZ9 ?_); (case klZ9 => assumption); (case kzZ9 => first | exact Nat.le_of_ble_eq_true rfl | exact ints_size (by assumption) (by assumption)); clear lF' lN'; intro h9 F9 N9; (try dsimp only); (try k_fold)))) | (((with_reducible show wpAny _ _ (call (Value.ref 122) _) _ _ _); k_here; k_dflt ((rename Fr _ _ _ _ => lF'); (rename News _ _ _ _ => lN'); (refine' leans_claim _ _ _ _ _ _ _ ?htZ9 ?hbZ9 ?hiZ9 ?hjZ9 _ _ _ _ _ _ _ _ _ _ _ _ _ _ _ _ _ _ _ _ _ ?k1Z9 lF' ?k3Z9 lN' ?k5Z9 ?w1Z9 ?w2Z9 ?kKZ9 ?kdZ9 ?kuZ9 ?_); (case w1Z9 => (refine KnownIn.mono (by assumption) ?_; intro z hz; repeat (first | exact hz | refine List.Mem.tail _ ?_))); (case w2Z9 => (refine KnownIn.mono (by assumption) ?_; intro z hz; repeat (first | exact hz | refine List.Mem.tail _ ?_))); (case htZ9 => omega); (case hbZ9 => omega); (case hiZ9 => omega); (case hjZ9 => omega); (case k1Z9 => k_asm); (case k3Z9 => k_asm); (case k5Z9 => k_asm); (case kKZ9 => first | exact rfl | assumption); (case kdZ9 => ktr_room); (case kuZ9 => ktr_units); clear lF' lN'; intro h9 tk9 F9 N9 st9; (try dsimp only); (try k_fold)))) | ((k_here; (with_reducible show wpAny _ _ (subscriptTail _ _ (Value.ref _) (Value.int _ _)) _ _ _); k_dflt (refine' item_at ?k1Z9 ?k2Z9 ?k3Z9 ?k4Z9 ?_ ?k6Z9; (case k1Z9 => exact News.isList (by k_asm) (by k_mem)); (case k4Z9 => with_reducible assumption); (case k2Z9 => omega); (case k3Z9 => omega); (case k6Z9 => with_unfolding_all rfl); k_whole))) | (((with_reducible show wpAny _ _ (call (Value.ref 73) _) _ _ _); k_here; k_dflt ((rename Fr _ _ _ _ => lF'); (rename News _ _ _ _ => lN'); (refine' less_use _ _ _ _ _ _ _ _ _ _ _ _ _ _ _ _ _ _ _ _ _ _ _ _ _ _ _ _ ?k1Z9 lF' ?k3Z9 lN' ?k5Z9 ?w1Z9 ?w2Z9 ?kKZ9 ?kdZ9 ?kuZ9 ?_); (case w1Z9 => assumption); (case w2Z9 => assumption); (case k1Z9 => k_asm); (case k3Z9 => k_asm); (case k5Z9 => k_asm); (case kKZ9 => first | exact rfl | assumption); (case kdZ9 => ktr_room); (case kuZ9 => ktr_units); clear lF' lN'; intro h9 tk9 F9 N9 st9; (try dsimp only); (try k_fold)))) | (((with_reducible show wpAny _ _ (call (Value.ref 94) [Value.str _ _, Value.str _ _]) _ _ _); (first | ((k_here; (rename Fr _ _ _ _ => lF'); (rename News _ _ _ _ => lN'); k_dflt (refine' use_cl (ell_b _ _ _ _ _ _ (by omega) (by omega) (by omega)) ?k1Z9 lF' ?k3Z9 lN' ?k5Z9 ?kKZ9 ?kdZ9 ?kuZ9 ?kHZ9 ?_); (case k1Z9 => k_asm); (case k3Z9 => k_asm); (case k5Z9 => k_asm); (case kKZ9 => first | exact rfl | assumption); (case kdZ9 => ktr_room); (case kuZ9 => ktr_units); (case kHZ9 => trivial); clear lF' lN')) | ((k_here; (rename Fr _ _ _ _ => lF'); (rename News _ _ _ _ => lN'); k_dflt (refine' use_cl (ell_tb _ _ _ _ _ _ _ (by omega) (by omega) (by omega) (by omega)) ?k1Z9 lF' ?k3Z9 lN' ?k5Z9 ?kKZ9 ?kdZ9 ?kuZ9 ?kHZ9 ?_); (case k1Z9 => k_asm); (case k3Z9 => k_asm); (case k5Z9 => k_asm); (case kKZ9 => first | exact rfl | assumption); (case kdZ9 => ktr_room); (case kuZ9 => ktr_units); (case kHZ9 => trivial); clear lF' lN'))); intro v9 h9 tk9 F9 N9 st9 o9; subst o9; (try dsimp only); (try k_fold))) | ((k_here; (with_reducible show wpAny _ _ (call (Value.type _) [Value.ref _]) _ _ _); (rename IsRange _ _ _ _ _ _ _ _ => rgX); (with_unfolding_all refine' list_step ?k0Z9 ?k1Z9 ?k2Z9 ?k3Z9 ?k4Z9 ?k5Z9 ?k6Z9 ?_; (case k0Z9 => rfl); (case k1Z9 => k_asm); (case k2Z9 => k_asm); (case k3Z9 => exact rgX); (case k4Z9 => exact small_two (by omega) (by omega)); (case k5Z9 => exact range_two (by omega)); (case k6Z9 => omega)); intro _ _ _ _ _ _ _ l1 _; (try k_lt l1))) | ((k_here; (with_reducible show wpAny _ _ (subscriptTail _ (Expr.Slice none (some _) none _) _ _) _ _ _); (with_reducible rename Fr _ _ _ _ => F'); (with_reducible rename News _ _ _ _ => N'); (refine slice_none (s := ⟨_, _, _, _, _⟩) F' N' ?_ (hsz := ?hszZ9)); (case hszZ9 => (rw [sizeLine_eq]; omega)); intro _ _ _ _ _)) | ((k_here; k_openite; first | (refine ite_pos ?hxZ9 ?_; (case hxZ9 => first | with_reducible assumption | (simp only [decide_eq_true_eq, decide_eq_false_iff_not, Bool.not_eq_true', Bool.not_eq_false', bne_iff_ne, ne_eq]; omega))) | (refine ite_neg ?hxZ9 ?_; (case hxZ9 => first | with_reducible assumption | (simp only [decide_eq_true_eq, decide_eq_false_iff_not, Bool.not_eq_true', Bool.not_eq_false', bne_iff_ne, ne_eq, Bool.not_eq_true, Decidable.not_not]; omega))) | (refine ite_b (fun hc => ?_) (fun hc => ?_) <;> (try simp only [decide_eq_true_eq, decide_eq_false_iff_not, Bool.not_eq_true', Bool.not_eq_false', bne_iff_ne, ne_eq, bne_eq_false_iff_eq, Decidable.not_not, Int.not_lt, Int.not_le] at hc)))) | (fail_if_success (with_reducible show wpAny _ _ (exec (Stmt.While _ _ _ _) _) _ _ _)); (fail_if_success (with_reducible show wpAny _ _ (exec (Stmt.For _ _ _ _ _) _) _ _ _)); (fail_if_success (with_reducible show wpAny _ _ (pyIter _) _ _ _)); (fail_if_success (with_reducible show InvEndN _ _ _ _ _ _ _)); (fail_if_success (with_reducible show GEnd _ _ _ _ _ _ _)); (fail_if_success (with_reducible show GPost _ _ _ _ _ _ _ _ _)); first | (k_unfold; (try dsimp only)) | walk1 | (dsimp only; walk1) | (leave1; try dsimp only) | fail "no step"))
    all_goals (k_dflt (refine' mapp_ ?ee ?eF ?eN (.head _) ?er ?_); (case ee => exact rfl); (case eF => assumption); (case eN => assumption); (case er => exact fun z hz => .tail _ hz))
    · exact appI hI0 (by assumption)
    · exact appN hI0 (by assumption)
  clear F5 N5 hI0 hn0
  intro us1 c1 h3 tk3 hI1 F5 N5
  have hn1 : ([] ++ (if way0 t b p q = true then [0] else []) : List Int).length ≤ 100 := by split <;> decide
  (repeat' (first | (((with_reducible show wpAny _ _ (call (Value.builtin "list.append") _) _ _ _); k_here; k_dflt ((rename Fr _ _ _ _ => lF'); (rename News _ _ _ _ => lN'); (refine' append_front lF' lN' ?klZ9 ?kzZ9 ?_); (case klZ9 => assumption); (case kzZ9 => first | exact Nat.le_of_ble_eq_true rfl | exact ints_size (by assumption) (by assumption)); clear lF' lN'; intro h9 F9 N9; (try dsimp only); (try k_fold)))) | (((with_reducible show wpAny _ _ (call (Value.ref 122) _) _ _ _); k_here; k_dflt ((rename Fr _ _ _ _ => lF'); (rename News _ _ _ _ => lN'); (refine' leans_claim _ _ _ _ _ _ _ ?htZ9 ?hbZ9 ?hiZ9 ?hjZ9 _ _ _ _ _ _ _ _ _ _ _ _ _ _ _ _ _ _ _ _ _ ?k1Z9 lF' ?k3Z9 lN' ?k5Z9 ?w1Z9 ?w2Z9 ?kKZ9 ?kdZ9 ?kuZ9 ?_); (case w1Z9 => (refine KnownIn.mono (by assumption) ?_; intro z hz; repeat (first | exact hz | refine List.Mem.tail _ ?_))); (case w2Z9 => (refine KnownIn.mono (by assumption) ?_; intro z hz; repeat (first | exact hz | refine List.Mem.tail _ ?_))); (case htZ9 => omega); (case hbZ9 => omega); (case hiZ9 => omega); (case hjZ9 => omega); (case k1Z9 => k_asm); (case k3Z9 => k_asm); (case k5Z9 => k_asm); (case kKZ9 => first | exact rfl | assumption); (case kdZ9 => ktr_room); (case kuZ9 => ktr_units); clear lF' lN'; intro h9 tk9 F9 N9 st9; (try dsimp only); (try k_fold)))) | ((k_here; (with_reducible show wpAny _ _ (subscriptTail _ _ (Value.ref _) (Value.int _ _)) _ _ _); k_dflt (refine' item_at ?k1Z9 ?k2Z9 ?k3Z9 ?k4Z9 ?_ ?k6Z9; (case k1Z9 => exact News.isList (by k_asm) (by k_mem)); (case k4Z9 => with_reducible assumption); (case k2Z9 => omega); (case k3Z9 => omega); (case k6Z9 => with_unfolding_all rfl); k_whole))) | (((with_reducible show wpAny _ _ (call (Value.ref 73) _) _ _ _); k_here; k_dflt ((rename Fr _ _ _ _ => lF'); (rename News _ _ _ _ => lN'); (refine' less_use _ _ _ _ _ _ _ _ _ _ _ _ _ _ _ _ _ _ _ _ _ _ _ _ _ _ _ _ ?k1Z9 lF' ?k3Z9 lN' ?k5Z9 ?w1Z9 ?w2Z9 ?kKZ9 ?kdZ9 ?kuZ9 ?_); (case w1Z9 => assumption); (case w2Z9 => assumption); (case k1Z9 => k_asm); (case k3Z9 => k_asm); (case k5Z9 => k_asm); (case kKZ9 => first | exact rfl | assumption); (case kdZ9 => ktr_room); (case kuZ9 => ktr_units); clear lF' lN'; intro h9 tk9 F9 N9 st9; (try dsimp only); (try k_fold)))) | (((with_reducible show wpAny _ _ (call (Value.ref 94) [Value.str _ _, Value.str _ _]) _ _ _); (first | ((k_here; (rename Fr _ _ _ _ => lF'); (rename News _ _ _ _ => lN'); k_dflt (refine' use_cl (ell_b _ _ _ _ _ _ (by omega) (by omega) (by omega)) ?k1Z9 lF' ?k3Z9 lN' ?k5Z9 ?kKZ9 ?kdZ9 ?kuZ9 ?kHZ9 ?_); (case k1Z9 => k_asm); (case k3Z9 => k_asm); (case k5Z9 => k_asm); (case kKZ9 => first | exact rfl | assumption); (case kdZ9 => ktr_room); (case kuZ9 => ktr_units); (case kHZ9 => trivial); clear lF' lN')) | ((k_here; (rename Fr _ _ _ _ => lF'); (rename News _ _ _ _ => lN'); k_dflt (refine' use_cl (ell_tb _ _ _ _ _ _ _ (by omega) (by omega) (by omega) (by omega)) ?k1Z9 lF' ?k3Z9 lN' ?k5Z9 ?kKZ9 ?kdZ9 ?kuZ9 ?kHZ9 ?_); (case k1Z9 => k_asm); (case k3Z9 => k_asm); (case k5Z9 => k_asm); (case kKZ9 => first | exact rfl | assumption); (case kdZ9 => ktr_room); (case kuZ9 => ktr_units); (case kHZ9 => trivial); clear lF' lN'))); intro v9 h9 tk9 F9 N9 st9 o9; subst o9; (try dsimp only); (try k_fold))) | ((k_here; (with_reducible show wpAny _ _ (call (Value.type _) [Value.ref _]) _ _ _); (rename IsRange _ _ _ _ _ _ _ _ => rgX); (with_unfolding_all refine' list_step ?k0Z9 ?k1Z9 ?k2Z9 ?k3Z9 ?k4Z9 ?k5Z9 ?k6Z9 ?_; (case k0Z9 => rfl); (case k1Z9 => k_asm); (case k2Z9 => k_asm); (case k3Z9 => exact rgX); (case k4Z9 => exact small_two (by omega) (by omega)); (case k5Z9 => exact range_two (by omega)); (case k6Z9 => omega)); intro _ _ _ _ _ _ _ l1 _; (try k_lt l1))) | ((k_here; (with_reducible show wpAny _ _ (subscriptTail _ (Expr.Slice none (some _) none _) _ _) _ _ _); (with_reducible rename Fr _ _ _ _ => F'); (with_reducible rename News _ _ _ _ => N'); (refine slice_none (s := ⟨_, _, _, _, _⟩) F' N' ?_ (hsz := ?hszZ9)); (case hszZ9 => (rw [sizeLine_eq]; omega)); intro _ _ _ _ _)) | ((k_here; k_openite; first | (refine ite_pos ?hxZ9 ?_; (case hxZ9 => first | with_reducible assumption | (simp only [decide_eq_true_eq, decide_eq_false_iff_not, Bool.not_eq_true', Bool.not_eq_false', bne_iff_ne, ne_eq]; omega))) | (refine ite_neg ?hxZ9 ?_; (case hxZ9 => first | with_reducible assumption | (simp only [decide_eq_true_eq, decide_eq_false_iff_not, Bool.not_eq_true', Bool.not_eq_false', bne_iff_ne, ne_eq, Bool.not_eq_true, Decidable.not_not]; omega))) | (refine ite_b (fun hc => ?_) (fun hc => ?_) <;> (try simp only [decide_eq_true_eq, decide_eq_false_iff_not, Bool.not_eq_true', Bool.not_eq_false', bne_iff_ne, ne_eq, bne_eq_false_iff_eq, Decidable.not_not, Int.not_lt, Int.not_le] at hc)))) | (fail_if_success (with_reducible show wpAny _ _ (exec (Stmt.If _ _ _ _) _) _ _ _)); first | (k_unfold; (try dsimp only)) | walk1 | (dsimp only; walk1) | (leave1; try dsimp only) | fail "no step"))
  (k_dflt (refine' exec_app (([] ++ (if way0 t b p q = true then [0] else [])) ++ (if way1 t b p q = true then [1] else [])) F5 N5 ?_ ?_))
  · (try k_fold)
    (repeat' (first | (((with_reducible show wpAny _ _ (call (Value.builtin "list.append") _) _ _ _); k_here; k_dflt ((rename Fr _ _ _ _ => lF'); (rename News _ _ _ _ => lN'); (refine' append_front lF' lN' ?klZ9 ?kzZ9 ?_); (case klZ9 => assumption); (case kzZ9 => first | exact Nat.le_of_ble_eq_true rfl | exact ints_size (by assumption) (by assumption)); clear lF' lN'; intro h9 F9 N9; (try dsimp only); (try k_fold)))) | (((with_reducible show wpAny _ _ (call (Value.ref 122) _) _ _ _); k_here; k_dflt ((rename Fr _ _ _ _ => lF'); (rename News _ _ _ _ => lN'); (refine' leans_claim _ _ _ _ _ _ _ ?htZ9 ?hbZ9 ?hiZ9 ?hjZ9 _ _ _ _ _ _ _ _ _ _ _ _ _ _ _ _ _ _ _ _ _ ?k1Z9 lF' ?k3Z9 lN' ?k5Z9 ?w1Z9 ?w2Z9 ?kKZ9 ?kdZ9 ?kuZ9 ?_); (case w1Z9 => (refine KnownIn.mono (by assumption) ?_; intro z hz; repeat (first | exact hz | refine List.Mem.tail _ ?_))); (case w2Z9 => (refine KnownIn.mono (by assumption) ?_; intro z hz; repeat (first | exact hz | refine List.Mem.tail _ ?_))); (case htZ9 => omega); (case hbZ9 => omega); (case hiZ9 => omega); (case hjZ9 => omega); (case k1Z9 => k_asm); (case k3Z9 => k_asm); (case k5Z9 => k_asm); (case kKZ9 => first | exact rfl | assumption); (case kdZ9 => ktr_room); (case kuZ9 => ktr_units); clear lF' lN'; intro h9 tk9 F9 N9 st9; (try dsimp only); (try k_fold)))) | ((k_here; (with_reducible show wpAny _ _ (subscriptTail _ _ (Value.ref _) (Value.int _ _)) _ _ _); k_dflt (refine' item_at ?k1Z9 ?k2Z9 ?k3Z9 ?k4Z9 ?_ ?k6Z9; (case k1Z9 => exact News.isList (by k_asm) (by k_mem)); (case k4Z9 => with_reducible assumption); (case k2Z9 => omega); (case k3Z9 => omega); (case k6Z9 => with_unfolding_all rfl); k_whole))) | (((with_reducible show wpAny _ _ (call (Value.ref 73) _) _ _ _); k_here; k_dflt ((rename Fr _ _ _ _ => lF'); (rename News _ _ _ _ => lN'); (refine' less_use _ _ _ _ _ _ _ _ _ _ _ _ _ _ _ _ _ _ _ _ _ _ _ _ _ _ _ _ ?k1Z9 lF' ?k3Z9 lN' ?k5Z9 ?w1Z9 ?w2Z9 ?kKZ9 ?kdZ9 ?kuZ9 ?_); (case w1Z9 => assumption); (case w2Z9 => assumption); (case k1Z9 => k_asm); (case k3Z9 => k_asm); (case k5Z9 => k_asm); (case kKZ9 => first | exact rfl | assumption); (case kdZ9 => ktr_room); (case kuZ9 => ktr_units); clear lF' lN'; intro h9 tk9 F9 N9 st9; (try dsimp only); (try k_fold)))) | (((with_reducible show wpAny _ _ (call (Value.ref 94) [Value.str _ _, Value.str _ _]) _ _ _); (first | ((k_here; (rename Fr _ _ _ _ => lF'); (rename News _ _ _ _ => lN'); k_dflt (refine' use_cl (ell_b _ _ _ _ _ _ (by omega) (by omega) (by omega)) ?k1Z9 lF' ?k3Z9 lN' ?k5Z9 ?kKZ9 ?kdZ9 ?kuZ9 ?kHZ9 ?_); (case k1Z9 => k_asm); (case k3Z9 => k_asm); (case k5Z9 => k_asm); (case kKZ9 => first | exact rfl | assumption); (case kdZ9 => ktr_room); (case kuZ9 => ktr_units); (case kHZ9 => trivial); clear lF' lN')) | ((k_here; (rename Fr _ _ _ _ => lF'); (rename News _ _ _ _ => lN'); k_dflt (refine' use_cl (ell_tb _ _ _ _ _ _ _ (by omega) (by omega) (by omega) (by omega)) ?k1Z9 lF' ?k3Z9 lN' ?k5Z9 ?kKZ9 ?kdZ9 ?kuZ9 ?kHZ9 ?_); (case k1Z9 => k_asm); (case k3Z9 => k_asm); (case k5Z9 => k_asm); (case kKZ9 => first | exact rfl | assumption); (case kdZ9 => ktr_room); (case kuZ9 => ktr_units); (case kHZ9 => trivial); clear lF' lN'))); intro v9 h9 tk9 F9 N9 st9 o9; subst o9; (try dsimp only); (try k_fold))) | ((k_here; (with_reducible show wpAny _ _ (call (Value.type _) [Value.ref _]) _ _ _); (rename IsRange _ _ _ _ _ _ _ _ => rgX); (with_unfolding_all refine' list_step ?k0Z9 ?k1Z9 ?k2Z9 ?k3Z9 ?k4Z9 ?k5Z9 ?k6Z9 ?_; (case k0Z9 => rfl); (case k1Z9 => k_asm); (case k2Z9 => k_asm); (case k3Z9 => exact rgX); (case k4Z9 => exact small_two (by omega) (by omega)); (case k5Z9 => exact range_two (by omega)); (case k6Z9 => omega)); intro _ _ _ _ _ _ _ l1 _; (try k_lt l1))) | ((k_here; (with_reducible show wpAny _ _ (subscriptTail _ (Expr.Slice none (some _) none _) _ _) _ _ _); (with_reducible rename Fr _ _ _ _ => F'); (with_reducible rename News _ _ _ _ => N'); (refine slice_none (s := ⟨_, _, _, _, _⟩) F' N' ?_ (hsz := ?hszZ9)); (case hszZ9 => (rw [sizeLine_eq]; omega)); intro _ _ _ _ _)) | ((k_here; k_openite; first | (refine ite_pos ?hxZ9 ?_; (case hxZ9 => first | with_reducible assumption | (simp only [decide_eq_true_eq, decide_eq_false_iff_not, Bool.not_eq_true', Bool.not_eq_false', bne_iff_ne, ne_eq]; omega))) | (refine ite_neg ?hxZ9 ?_; (case hxZ9 => first | with_reducible assumption | (simp only [decide_eq_true_eq, decide_eq_false_iff_not, Bool.not_eq_true', Bool.not_eq_false', bne_iff_ne, ne_eq, Bool.not_eq_true, Decidable.not_not]; omega))) | (refine ite_b (fun hc => ?_) (fun hc => ?_) <;> (try simp only [decide_eq_true_eq, decide_eq_false_iff_not, Bool.not_eq_true', Bool.not_eq_false', bne_iff_ne, ne_eq, bne_eq_false_iff_eq, Decidable.not_not, Int.not_lt, Int.not_le] at hc)))) | (fail_if_success (with_reducible show wpAny _ _ (exec (Stmt.While _ _ _ _) _) _ _ _)); (fail_if_success (with_reducible show wpAny _ _ (exec (Stmt.For _ _ _ _ _) _) _ _ _)); (fail_if_success (with_reducible show wpAny _ _ (pyIter _) _ _ _)); (fail_if_success (with_reducible show InvEndN _ _ _ _ _ _ _)); (fail_if_success (with_reducible show GEnd _ _ _ _ _ _ _)); (fail_if_success (with_reducible show GPost _ _ _ _ _ _ _ _ _)); first | (k_unfold; (try dsimp only)) | walk1 | (dsimp only; walk1) | (leave1; try dsimp only) | fail "no step"))
    all_goals (k_dflt (refine' mapp_ ?ee ?eF ?eN (.head _) ?er ?_); (case ee => exact rfl); (case eF => assumption); (case eN => assumption); (case er => exact fun z hz => .tail _ hz))
    · exact appI hI1 (by assumption)
    · exact appN hI1 (by assumption)
  clear F5 N5 hI1 hn1
  intro us2 c2 h4 tk4 hI2 F5 N5
  have hn2 : (([] ++ (if way0 t b p q = true then [0] else [])) ++ (if way1 t b p q = true then [1] else []) : List Int).length ≤ 100 := by split <;> split <;> decide
  (repeat' (first | (((with_reducible show wpAny _ _ (call (Value.builtin "list.append") _) _ _ _); k_here; k_dflt ((rename Fr _ _ _ _ => lF'); (rename News _ _ _ _ => lN'); (refine' append_front lF' lN' ?klZ9 ?kzZ9 ?_); (case klZ9 => assumption); (case kzZ9 => first | exact Nat.le_of_ble_eq_true rfl | exact ints_size (by assumption) (by assumption)); clear lF' lN'; intro h9 F9 N9; (try dsimp only); (try k_fold)))) | (((with_reducible show wpAny _ _ (call (Value.ref 122) _) _ _ _); k_here; k_dflt ((rename Fr _ _ _ _ => lF'); (rename News _ _ _ _ => lN'); (refine' leans_claim _ _ _ _ _ _ _ ?htZ9 ?hbZ9 ?hiZ9 ?hjZ9 _ _ _ _ _ _ _ _ _ _ _ _ _ _ _ _ _ _ _ _ _ ?k1Z9 lF' ?k3Z9 lN' ?k5Z9 ?w1Z9 ?w2Z9 ?kKZ9 ?kdZ9 ?kuZ9 ?_); (case w1Z9 => (refine KnownIn.mono (by assumption) ?_; intro z hz; repeat (first | exact hz | refine List.Mem.tail _ ?_))); (case w2Z9 => (refine KnownIn.mono (by assumption) ?_; intro z hz; repeat (first | exact hz | refine List.Mem.tail _ ?_))); (case htZ9 => omega); (case hbZ9 => omega); (case hiZ9 => omega); (case hjZ9 => omega); (case k1Z9 => k_asm); (case k3Z9 => k_asm); (case k5Z9 => k_asm); (case kKZ9 => first | exact rfl | assumption); (case kdZ9 => ktr_room); (case kuZ9 => ktr_units); clear lF' lN'; intro h9 tk9 F9 N9 st9; (try dsimp only); (try k_fold)))) | ((k_here; (with_reducible show wpAny _ _ (subscriptTail _ _ (Value.ref _) (Value.int _ _)) _ _ _); k_dflt (refine' item_at ?k1Z9 ?k2Z9 ?k3Z9 ?k4Z9 ?_ ?k6Z9; (case k1Z9 => exact News.isList (by k_asm) (by k_mem)); (case k4Z9 => with_reducible assumption); (case k2Z9 => omega); (case k3Z9 => omega); (case k6Z9 => with_unfolding_all rfl); k_whole))) | (((with_reducible show wpAny _ _ (call (Value.ref 73) _) _ _ _); k_here; k_dflt ((rename Fr _ _ _ _ => lF'); (rename News _ _ _ _ => lN'); (refine' less_use _ _ _ _ _ _ _ _ _ _ _ _ _ _ _ _ _ _ _ _ _ _ _ _ _ _ _ _ ?k1Z9 lF' ?k3Z9 lN' ?k5Z9 ?w1Z9 ?w2Z9 ?kKZ9 ?kdZ9 ?kuZ9 ?_); (case w1Z9 => assumption); (case w2Z9 => assumption); (case k1Z9 => k_asm); (case k3Z9 => k_asm); (case k5Z9 => k_asm); (case kKZ9 => first | exact rfl | assumption); (case kdZ9 => ktr_room); (case kuZ9 => ktr_units); clear lF' lN'; intro h9 tk9 F9 N9 st9; (try dsimp only); (try k_fold)))) | (((with_reducible show wpAny _ _ (call (Value.ref 94) [Value.str _ _, Value.str _ _]) _ _ _); (first | ((k_here; (rename Fr _ _ _ _ => lF'); (rename News _ _ _ _ => lN'); k_dflt (refine' use_cl (ell_b _ _ _ _ _ _ (by omega) (by omega) (by omega)) ?k1Z9 lF' ?k3Z9 lN' ?k5Z9 ?kKZ9 ?kdZ9 ?kuZ9 ?kHZ9 ?_); (case k1Z9 => k_asm); (case k3Z9 => k_asm); (case k5Z9 => k_asm); (case kKZ9 => first | exact rfl | assumption); (case kdZ9 => ktr_room); (case kuZ9 => ktr_units); (case kHZ9 => trivial); clear lF' lN')) | ((k_here; (rename Fr _ _ _ _ => lF'); (rename News _ _ _ _ => lN'); k_dflt (refine' use_cl (ell_tb _ _ _ _ _ _ _ (by omega) (by omega) (by omega) (by omega)) ?k1Z9 lF' ?k3Z9 lN' ?k5Z9 ?kKZ9 ?kdZ9 ?kuZ9 ?kHZ9 ?_); (case k1Z9 => k_asm); (case k3Z9 => k_asm); (case k5Z9 => k_asm); (case kKZ9 => first | exact rfl | assumption); (case kdZ9 => ktr_room); (case kuZ9 => ktr_units); (case kHZ9 => trivial); clear lF' lN'))); intro v9 h9 tk9 F9 N9 st9 o9; subst o9; (try dsimp only); (try k_fold))) | ((k_here; (with_reducible show wpAny _ _ (call (Value.type _) [Value.ref _]) _ _ _); (rename IsRange _ _ _ _ _ _ _ _ => rgX); (with_unfolding_all refine' list_step ?k0Z9 ?k1Z9 ?k2Z9 ?k3Z9 ?k4Z9 ?k5Z9 ?k6Z9 ?_; (case k0Z9 => rfl); (case k1Z9 => k_asm); (case k2Z9 => k_asm); (case k3Z9 => exact rgX); (case k4Z9 => exact small_two (by omega) (by omega)); (case k5Z9 => exact range_two (by omega)); (case k6Z9 => omega)); intro _ _ _ _ _ _ _ l1 _; (try k_lt l1))) | ((k_here; (with_reducible show wpAny _ _ (subscriptTail _ (Expr.Slice none (some _) none _) _ _) _ _ _); (with_reducible rename Fr _ _ _ _ => F'); (with_reducible rename News _ _ _ _ => N'); (refine slice_none (s := ⟨_, _, _, _, _⟩) F' N' ?_ (hsz := ?hszZ9)); (case hszZ9 => (rw [sizeLine_eq]; omega)); intro _ _ _ _ _)) | ((k_here; k_openite; first | (refine ite_pos ?hxZ9 ?_; (case hxZ9 => first | with_reducible assumption | (simp only [decide_eq_true_eq, decide_eq_false_iff_not, Bool.not_eq_true', Bool.not_eq_false', bne_iff_ne, ne_eq]; omega))) | (refine ite_neg ?hxZ9 ?_; (case hxZ9 => first | with_reducible assumption | (simp only [decide_eq_true_eq, decide_eq_false_iff_not, Bool.not_eq_true', Bool.not_eq_false', bne_iff_ne, ne_eq, Bool.not_eq_true, Decidable.not_not]; omega))) | (refine ite_b (fun hc => ?_) (fun hc => ?_) <;> (try simp only [decide_eq_true_eq, decide_eq_false_iff_not, Bool.not_eq_true', Bool.not_eq_false', bne_iff_ne, ne_eq, bne_eq_false_iff_eq, Decidable.not_not, Int.not_lt, Int.not_le] at hc)))) | (fail_if_success (with_reducible show wpAny _ _ (exec (Stmt.If _ _ _ _) _) _ _ _)); first | (k_unfold; (try dsimp only)) | walk1 | (dsimp only; walk1) | (leave1; try dsimp only) | fail "no step"))
  (k_dflt (refine' exec_app (waysL t b p q) F5 N5 ?_ ?_))
  · (try k_fold)
    (repeat' (first | (((with_reducible show wpAny _ _ (call (Value.builtin "list.append") _) _ _ _); k_here; k_dflt ((rename Fr _ _ _ _ => lF'); (rename News _ _ _ _ => lN'); (refine' append_front lF' lN' ?klZ9 ?kzZ9 ?_); (case klZ9 => assumption); (case kzZ9 => first | exact Nat.le_of_ble_eq_true rfl | exact ints_size (by assumption) (by assumption)); clear lF' lN'; intro h9 F9 N9; (try dsimp only); (try k_fold)))) | (((with_reducible show wpAny _ _ (call (Value.ref 122) _) _ _ _); k_here; k_dflt ((rename Fr _ _ _ _ => lF'); (rename News _ _ _ _ => lN'); (refine' leans_claim _ _ _ _ _ _ _ ?htZ9 ?hbZ9 ?hiZ9 ?hjZ9 _ _ _ _ _ _ _ _ _ _ _ _ _ _ _ _ _ _ _ _ _ ?k1Z9 lF' ?k3Z9 lN' ?k5Z9 ?w1Z9 ?w2Z9 ?kKZ9 ?kdZ9 ?kuZ9 ?_); (case w1Z9 => (refine KnownIn.mono (by assumption) ?_; intro z hz; repeat (first | exact hz | refine List.Mem.tail _ ?_))); (case w2Z9 => (refine KnownIn.mono (by assumption) ?_; intro z hz; repeat (first | exact hz | refine List.Mem.tail _ ?_))); (case htZ9 => omega); (case hbZ9 => omega); (case hiZ9 => omega); (case hjZ9 => omega); (case k1Z9 => k_asm); (case k3Z9 => k_asm); (case k5Z9 => k_asm); (case kKZ9 => first | exact rfl | assumption); (case kdZ9 => ktr_room); (case kuZ9 => ktr_units); clear lF' lN'; intro h9 tk9 F9 N9 st9; (try dsimp only); (try k_fold)))) | ((k_here; (with_reducible show wpAny _ _ (subscriptTail _ _ (Value.ref _) (Value.int _ _)) _ _ _); k_dflt (refine' item_at ?k1Z9 ?k2Z9 ?k3Z9 ?k4Z9 ?_ ?k6Z9; (case k1Z9 => exact News.isList (by k_asm) (by k_mem)); (case k4Z9 => with_reducible assumption); (case k2Z9 => omega); (case k3Z9 => omega); (case k6Z9 => with_unfolding_all rfl); k_whole))) | (((with_reducible show wpAny _ _ (call (Value.ref 73) _) _ _ _); k_here; k_dflt ((rename Fr _ _ _ _ => lF'); (rename News _ _ _ _ => lN'); (refine' less_use _ _ _ _ _ _ _ _ _ _ _ _ _ _ _ _ _ _ _ _ _ _ _ _ _ _ _ _ ?k1Z9 lF' ?k3Z9 lN' ?k5Z9 ?w1Z9 ?w2Z9 ?kKZ9 ?kdZ9 ?kuZ9 ?_); (case w1Z9 => assumption); (case w2Z9 => assumption); (case k1Z9 => k_asm); (case k3Z9 => k_asm); (case k5Z9 => k_asm); (case kKZ9 => first | exact rfl | assumption); (case kdZ9 => ktr_room); (case kuZ9 => ktr_units); clear lF' lN'; intro h9 tk9 F9 N9 st9; (try dsimp only); (try k_fold)))) | (((with_reducible show wpAny _ _ (call (Value.ref 94) [Value.str _ _, Value.str _ _]) _ _ _); (first | ((k_here; (rename Fr _ _ _ _ => lF'); (rename News _ _ _ _ => lN'); k_dflt (refine' use_cl (ell_b _ _ _ _ _ _ (by omega) (by omega) (by omega)) ?k1Z9 lF' ?k3Z9 lN' ?k5Z9 ?kKZ9 ?kdZ9 ?kuZ9 ?kHZ9 ?_); (case k1Z9 => k_asm); (case k3Z9 => k_asm); (case k5Z9 => k_asm); (case kKZ9 => first | exact rfl | assumption); (case kdZ9 => ktr_room); (case kuZ9 => ktr_units); (case kHZ9 => trivial); clear lF' lN')) | ((k_here; (rename Fr _ _ _ _ => lF'); (rename News _ _ _ _ => lN'); k_dflt (refine' use_cl (ell_tb _ _ _ _ _ _ _ (by omega) (by omega) (by omega) (by omega)) ?k1Z9 lF' ?k3Z9 lN' ?k5Z9 ?kKZ9 ?kdZ9 ?kuZ9 ?kHZ9 ?_); (case k1Z9 => k_asm); (case k3Z9 => k_asm); (case k5Z9 => k_asm); (case kKZ9 => first | exact rfl | assumption); (case kdZ9 => ktr_room); (case kuZ9 => ktr_units); (case kHZ9 => trivial); clear lF' lN'))); intro v9 h9 tk9 F9 N9 st9 o9; subst o9; (try dsimp only); (try k_fold))) | ((k_here; (with_reducible show wpAny _ _ (call (Value.type _) [Value.ref _]) _ _ _); (rename IsRange _ _ _ _ _ _ _ _ => rgX); (with_unfolding_all refine' list_step ?k0Z9 ?k1Z9 ?k2Z9 ?k3Z9 ?k4Z9 ?k5Z9 ?k6Z9 ?_; (case k0Z9 => rfl); (case k1Z9 => k_asm); (case k2Z9 => k_asm); (case k3Z9 => exact rgX); (case k4Z9 => exact small_two (by omega) (by omega)); (case k5Z9 => exact range_two (by omega)); (case k6Z9 => omega)); intro _ _ _ _ _ _ _ l1 _; (try k_lt l1))) | ((k_here; (with_reducible show wpAny _ _ (subscriptTail _ (Expr.Slice none (some _) none _) _ _) _ _ _); (with_reducible rename Fr _ _ _ _ => F'); (with_reducible rename News _ _ _ _ => N'); (refine slice_none (s := ⟨_, _, _, _, _⟩) F' N' ?_ (hsz := ?hszZ9)); (case hszZ9 => (rw [sizeLine_eq]; omega)); intro _ _ _ _ _)) | ((k_here; k_openite; first | (refine ite_pos ?hxZ9 ?_; (case hxZ9 => first | with_reducible assumption | (simp only [decide_eq_true_eq, decide_eq_false_iff_not, Bool.not_eq_true', Bool.not_eq_false', bne_iff_ne, ne_eq]; omega))) | (refine ite_neg ?hxZ9 ?_; (case hxZ9 => first | with_reducible assumption | (simp only [decide_eq_true_eq, decide_eq_false_iff_not, Bool.not_eq_true', Bool.not_eq_false', bne_iff_ne, ne_eq, Bool.not_eq_true, Decidable.not_not]; omega))) | (refine ite_b (fun hc => ?_) (fun hc => ?_) <;> (try simp only [decide_eq_true_eq, decide_eq_false_iff_not, Bool.not_eq_true', Bool.not_eq_false', bne_iff_ne, ne_eq, bne_eq_false_iff_eq, Decidable.not_not, Int.not_lt, Int.not_le] at hc)))) | (fail_if_success (with_reducible show wpAny _ _ (exec (Stmt.While _ _ _ _) _) _ _ _)); (fail_if_success (with_reducible show wpAny _ _ (exec (Stmt.For _ _ _ _ _) _) _ _ _)); (fail_if_success (with_reducible show wpAny _ _ (pyIter _) _ _ _)); (fail_if_success (with_reducible show InvEndN _ _ _ _ _ _ _)); (fail_if_success (with_reducible show GEnd _ _ _ _ _ _ _)); (fail_if_success (with_reducible show GPost _ _ _ _ _ _ _ _ _)); first | (k_unfold; (try dsimp only)) | walk1 | (dsimp only; walk1) | (leave1; try dsimp only) | fail "no step"))
    all_goals (k_dflt (refine' mapp_ ?ee ?eF ?eN (.head _) ?er ?_); (case ee => exact rfl); (case eF => assumption); (case eN => assumption); (case er => exact fun z hz => .tail _ hz))
    · exact appI hI2 (by assumption)
    · exact appN hI2 (by assumption)
  clear F5 N5 hI2 hn2
  intro us3 c3 h5 tk5 hI3 F5 N5
  (repeat' (first | (((with_reducible show wpAny _ _ (call (Value.builtin "list.append") _) _ _ _); k_here; k_dflt ((rename Fr _ _ _ _ => lF'); (rename News _ _ _ _ => lN'); (refine' append_front lF' lN' ?klZ9 ?kzZ9 ?_); (case klZ9 => assumption); (case kzZ9 => first | exact Nat.le_of_ble_eq_true rfl | exact ints_size (by assumption) (by assumption)); clear lF' lN'; intro h9 F9 N9; (try dsimp only); (try k_fold)))) | (((with_reducible show wpAny _ _ (call (Value.ref 122) _) _ _ _); k_here; k_dflt ((rename Fr _ _ _ _ => lF'); (rename News _ _ _ _ => lN'); (refine' leans_claim _ _ _ _ _ _ _ ?htZ9 ?hbZ9 ?hiZ9 ?hjZ9 _ _ _ _ _ _ _ _ _ _ _ _ _ _ _ _ _ _ _ _ _ ?k1Z9 lF' ?k3Z9 lN' ?k5Z9 ?w1Z9 ?w2Z9 ?kKZ9 ?kdZ9 ?kuZ9 ?_); (case w1Z9 => (refine KnownIn.mono (by assumption) ?_; intro z hz; repeat (first | exact hz | refine List.Mem.tail _ ?_))); (case w2Z9 => (refine KnownIn.mono (by assumption) ?_; intro z hz; repeat (first | exact hz | refine List.Mem.tail _ ?_))); (case htZ9 => omega); (case hbZ9 => omega); (case hiZ9 => omega); (case hjZ9 => omega); (case k1Z9 => k_asm); (case k3Z9 => k_asm); (case k5Z9 => k_asm); (case kKZ9 => first | exact rfl | assumption); (case kdZ9 => ktr_room); (case kuZ9 => ktr_units); clear lF' lN'; intro h9 tk9 F9 N9 st9; (try dsimp only); (try k_fold)))) | ((k_here; (with_reducible show wpAny _ _ (subscriptTail _ _ (Value.ref _) (Value.int _ _)) _ _ _); k_dflt (refine' item_at ?k1Z9 ?k2Z9 ?k3Z9 ?k4Z9 ?_ ?k6Z9; (case k1Z9 => exact News.isList (by k_asm) (by k_mem)); (case k4Z9 => with_reducible assumption); (case k2Z9 => omega); (case k3Z9 => omega); (case k6Z9 => with_unfolding_all rfl); k_whole))) | (((with_reducible show wpAny _ _ (call (Value.ref 73) _) _ _ _); k_here; k_dflt ((rename Fr _ _ _ _ => lF'); (rename News _ _ _ _ => lN'); (refine' less_use _ _ _ _ _ _ _ _ _ _ _ _ _ _ _ _ _ _ _ _ _ _ _ _ _ _ _ _ ?k1Z9 lF' ?k3Z9 lN' ?k5Z9 ?w1Z9 ?w2Z9 ?kKZ9 ?kdZ9 ?kuZ9 ?_); (case w1Z9 => assumption); (case w2Z9 => assumption); (case k1Z9 => k_asm); (case k3Z9 => k_asm); (case k5Z9 => k_asm); (case kKZ9 => first | exact rfl | assumption); (case kdZ9 => ktr_room); (case kuZ9 => ktr_units); clear lF' lN'; intro h9 tk9 F9 N9 st9; (try dsimp only); (try k_fold)))) | (((with_reducible show wpAny _ _ (call (Value.ref 94) [Value.str _ _, Value.str _ _]) _ _ _); (first | ((k_here; (rename Fr _ _ _ _ => lF'); (rename News _ _ _ _ => lN'); k_dflt (refine' use_cl (ell_b _ _ _ _ _ _ (by omega) (by omega) (by omega)) ?k1Z9 lF' ?k3Z9 lN' ?k5Z9 ?kKZ9 ?kdZ9 ?kuZ9 ?kHZ9 ?_); (case k1Z9 => k_asm); (case k3Z9 => k_asm); (case k5Z9 => k_asm); (case kKZ9 => first | exact rfl | assumption); (case kdZ9 => ktr_room); (case kuZ9 => ktr_units); (case kHZ9 => trivial); clear lF' lN')) | ((k_here; (rename Fr _ _ _ _ => lF'); (rename News _ _ _ _ => lN'); k_dflt (refine' use_cl (ell_tb _ _ _ _ _ _ _ (by omega) (by omega) (by omega) (by omega)) ?k1Z9 lF' ?k3Z9 lN' ?k5Z9 ?kKZ9 ?kdZ9 ?kuZ9 ?kHZ9 ?_); (case k1Z9 => k_asm); (case k3Z9 => k_asm); (case k5Z9 => k_asm); (case kKZ9 => first | exact rfl | assumption); (case kdZ9 => ktr_room); (case kuZ9 => ktr_units); (case kHZ9 => trivial); clear lF' lN'))); intro v9 h9 tk9 F9 N9 st9 o9; subst o9; (try dsimp only); (try k_fold))) | ((k_here; (with_reducible show wpAny _ _ (call (Value.type _) [Value.ref _]) _ _ _); (rename IsRange _ _ _ _ _ _ _ _ => rgX); (with_unfolding_all refine' list_step ?k0Z9 ?k1Z9 ?k2Z9 ?k3Z9 ?k4Z9 ?k5Z9 ?k6Z9 ?_; (case k0Z9 => rfl); (case k1Z9 => k_asm); (case k2Z9 => k_asm); (case k3Z9 => exact rgX); (case k4Z9 => exact small_two (by omega) (by omega)); (case k5Z9 => exact range_two (by omega)); (case k6Z9 => omega)); intro _ _ _ _ _ _ _ l1 _; (try k_lt l1))) | ((k_here; (with_reducible show wpAny _ _ (subscriptTail _ (Expr.Slice none (some _) none _) _ _) _ _ _); (with_reducible rename Fr _ _ _ _ => F'); (with_reducible rename News _ _ _ _ => N'); (refine slice_none (s := ⟨_, _, _, _, _⟩) F' N' ?_ (hsz := ?hszZ9)); (case hszZ9 => (rw [sizeLine_eq]; omega)); intro _ _ _ _ _)) | ((k_here; k_openite; first | (refine ite_pos ?hxZ9 ?_; (case hxZ9 => first | with_reducible assumption | (simp only [decide_eq_true_eq, decide_eq_false_iff_not, Bool.not_eq_true', Bool.not_eq_false', bne_iff_ne, ne_eq]; omega))) | (refine ite_neg ?hxZ9 ?_; (case hxZ9 => first | with_reducible assumption | (simp only [decide_eq_true_eq, decide_eq_false_iff_not, Bool.not_eq_true', Bool.not_eq_false', bne_iff_ne, ne_eq, Bool.not_eq_true, Decidable.not_not]; omega))) | (refine ite_b (fun hc => ?_) (fun hc => ?_) <;> (try simp only [decide_eq_true_eq, decide_eq_false_iff_not, Bool.not_eq_true', Bool.not_eq_false', bne_iff_ne, ne_eq, bne_eq_false_iff_eq, Decidable.not_not, Int.not_lt, Int.not_le] at hc)))) | (fail_if_success (with_reducible show wpAny _ _ (exec (Stmt.While _ _ _ _) _) _ _ _)); (fail_if_success (with_reducible show wpAny _ _ (exec (Stmt.For _ _ _ _ _) _) _ _ _)); (fail_if_success (with_reducible show wpAny _ _ (pyIter _) _ _ _)); (fail_if_success (with_reducible show InvEndN _ _ _ _ _ _ _)); (fail_if_success (with_reducible show GEnd _ _ _ _ _ _ _)); (fail_if_success (with_reducible show GPost _ _ _ _ _ _ _ _ _)); first | (k_unfold; (try dsimp only)) | walk1 | (dsimp only; walk1) | (leave1; try dsimp only) | fail "no step"))
  (rename Fr g _ _ _ => F7; rename News g _ _ _ => N7)
  refine ret_new hret2 hg (hst _ _ F7 (kst_newsOf N7 fun z hz => .tail _ (.tail _ (.tail _ (.tail _ (.tail _ hz)))))) N7 (objs := [_]) (fun p hp => (List.mem_singleton.mp hp) ▸ .head _) (fun p hp z hz => ?_) rfl ⟨_, us3, c3, rfl, List.mem_singleton.mpr rfl, hI3⟩
  rw [List.mem_singleton.mp hp]
  (rename (_ ∧ _ ∧ _ ∧ _ ∧ AllLt _ _) => hlt9)
  exact Nat.ne_of_lt (kst_ltOf hlt9.2.2.2.2 z hz)

-- due_pure
theorem max_all2 : ∀ t < 5, ∀ b < 5, ∀ i < 5, ∀ j < 5, max3 (absI (((i : Nat) : Int) - ((t : Nat) : Int))) (absI (((j : Nat) : Int) - ((b : Nat) : Int))) (absI (((i : Nat) : Int) - ((t : Nat) : Int) + (((j : Nat) : Int) - ((b : Nat) : Int)))) = ((dueN t b i j : Nat) : Int) := by decide +kernel
theorem due_t {s b j t i : Int} : j + (s + 1) * i - (j + s * i) - (b + (s + 1) * t) + (b + s * t) = i - t := by
  rw [Int.add_mul, Int.add_mul, Int.one_mul, Int.one_mul]; omega
theorem due_b {s b j t i : Int} : j + s * i - (b + s * t) - s * (i - t) = j - b := by
  rw [Int.mul_sub]; omega
noncomputable def colTup (size : Int) (t b : Nat) (k1 k2 : Tok) : Obj := wsTup [.int ((b : Int) + size * (t : Int)) k1, .int ((b : Int) + (size + 1) * (t : Int)) k2]

-- max3
theorem max_threeD {prog : Program} {w : World} {A : Around} {E : Value → Shared → Prop} {s : Shared} {h₀ : Heap} {L : Addr} {m : PySem.Str → Option Value} {news : List (Addr × Obj)} {a b c d : Int} {t u x : Tok} {Q : Value → Shared → Prop} (hh : A.handled = none) (F : Fr h₀ L s.heap m) (N : News h₀ L s.heap news)
    (he : (if b > a then (if c > b then c else b) else (if c > a then c else a)) = d) (h : ∀ tok h' tk, Fr h₀ L h' m → News h₀ L h' news → Q (.int d tok) { s with heap := h', toks := tk }) :
    wpAny (model prog w) A (call (.builtin "max") [.int a t, .int b u, .int c x]) Q E s := by
  refine PySem.max_three_ints hh fun h' tk hk => ?_
  have key := fun tok => h tok h' tk (fr_stays F hk) (news_stays N hk)
  subst he
  by_cases hba : b > a <;> by_cases hc1 : c > b <;> by_cases hc2 : c > a <;> simp only [hba, hc1, hc2, if_true, if_false] at key ⊢ <;> exact key _

-- due_body
theorem due_claim (w : World) (H G : Addr) (t b i j : Nat) (size : Int) (k1 k2 k3 k4 ts : Tok) (ht : t < 5) (hb : b < 5) (hi : i < 5) (hj : j < 5) (hs : 1 ≤ size ∧ size ≤ 9)
    (mean : ExcName → Option Value) (mg mb : PySem.Str → Option Value) (dp un : Nat) (gd : Option (List Code)) (cn : PySem.Str) (sc : Scope) (a : Addr) (ccd : Value) (cl : List (PySem.Str × Addr)) (outer : List Env) (A₀ : Around) (base h₀ : Heap) (L : Addr) (m : PySem.Str → Option Value) (s : Shared) (Q E : Value → Shared → Prop) (news : List (Addr × Obj))
    (B : Below A₀ base outer h₀) (F : Fr h₀ L s.heap m) (X : (hd.heap_39 w.params).In h₀) (N : News h₀ L s.heap news) (T : Top hd.view_39 (looseW hd.view_39 [PySem.Str.ofString "Whitespace"]) mean mg mb h₀)
    (hH : (H, colTup size t b k1 k2) ∈ news) (hG : (G, colTup size i j k3 k4) ∈ news) (hk : sc.kind = .function) (hdp : dp + 1 < recursionLimit) (hu : un + 8 < cLine)
    (hret : ∀ h' tk' k, Fr h₀ L h' m → News h₀ L h' news → Q (.int (2 * ((dueN t b i j : Nat) : Int)) k) { s with heap := h', toks := tk' }) :
    wpAny (model PySem.Challenge.pw_pg0263_02 w) (ktrTop dp un gd cn sc L a ccd cl outer) (call (.ref 136) [.ref H, .ref G, .int size ts]) Q E s := by
  have hret2 := fun k h' tk' (st : s.heap.StaysIn h') => hret h' tk' k (fr_stays F st) (news_stays N st)
  clear hret
  have hmax := max_all2 t ht b hb i hi j hj
  unfold max3 absI at hmax
  w_on
  ((k_dflt (refine' enter_own (news) (by assumption) (by assumption) (by assumption) ?kNZ9 (by assumption) ?cAZ9 ?cFZ9 ?cKZ9 ?c6Z9 ?c7Z9 ?c8Z9 ?c9Z9 ?cBZ9 ?_ ?d2Z9 ?d3Z9 ?d4Z9 ?d5Z9); (case kNZ9 => assumption); (case cAZ9 => exact rfl); (case cFZ9 => exact rfl); (case cKZ9 => assumption); (case c6Z9 => k_is); (case c7Z9 => k_is); (case c8Z9 => ktr_room); (case c9Z9 => exact BindsTo.of_eq rfl); (case cBZ9 => exact locs rfl); (case d2Z9 => exact rfl); (case d3Z9 => exact rfl); (case d4Z9 => exact rfl); (case d5Z9 => decide)))
  intro g L' h2 hg F2 N2 B2 X2 T2
  have hst := fun (h' : Heap) (m' : PySem.Str → Option Value) (F' : Fr g L' h' m') (N' : News g L' h' news) => stays_own N hg F' N'
  have hsub : ∀ z ∈ [(H, colTup size t b k1 k2), (G, colTup size i j k3 k4)] ++ news, z ∈ news := fun z hz => by
    rcases List.mem_append.mp hz with hz | hz
    · simp only [List.mem_cons, List.not_mem_nil, or_false] at hz
      rcases hz with rfl | rfl <;> assumption
    · exact hz
  have N3 := kst_newsOf N2 hsub
  dsimp only [List.cons_append, List.nil_append, colTup] at N3
  clear N2 hsub
  (try dsimp only); (try k_lift B2); (try k_fold)
  k_dflt (refine' execs_store (PySem.Str.ofString "tabs") (fun v => ∃ k, v = .int (((i : Nat) : Int) - ((t : Nat) : Int)) k) F2 N3 ?_ ?_)
  · (try k_fold)
    (repeat' (first | (((with_reducible show wpAny _ _ (call (Value.builtin _) [Value.int _ _, Value.int _ _, Value.int _ _]) _ _ _); k_here; (rename Fr _ _ _ _ => lF'); (rename News _ _ _ _ => lN'); (with_unfolding_all refine' max_threeD ?hhZ9 lF' lN' ?heZ9 ?_; (case hhZ9 => with_unfolding_all rfl); (case heZ9 => assumption); k_whole); clear lF' lN'; intro t9 h9 tk9 F9 N9; (try dsimp only); (try k_fold))) | ((k_here; (with_reducible show wpAny _ _ (call (Value.type _) [Value.ref _]) _ _ _); (rename IsRange _ _ _ _ _ _ _ _ => rgX); (with_unfolding_all refine' list_step ?k0Z9 ?k1Z9 ?k2Z9 ?k3Z9 ?k4Z9 ?k5Z9 ?k6Z9 ?_; (case k0Z9 => rfl); (case k1Z9 => k_asm); (case k2Z9 => k_asm); (case k3Z9 => exact rgX); (case k4Z9 => exact small_two (by omega) (by omega)); (case k5Z9 => exact range_two (by omega)); (case k6Z9 => omega)); intro _ _ _ _ _ _ _ l1 _; (try k_lt l1))) | ((k_here; (with_reducible show wpAny _ _ (subscriptTail _ (Expr.Slice none (some _) none _) _ _) _ _ _); (with_reducible rename Fr _ _ _ _ => F'); (with_reducible rename News _ _ _ _ => N'); (refine slice_none (s := ⟨_, _, _, _, _⟩) F' N' ?_ (hsz := ?hszZ9)); (case hszZ9 => (rw [sizeLine_eq]; omega)); intro _ _ _ _ _)) | ((k_here; k_openite; first | (refine ite_pos ?hxZ9 ?_; (case hxZ9 => first | with_reducible assumption | (simp only [decide_eq_true_eq, decide_eq_false_iff_not, Bool.not_eq_true', Bool.not_eq_false', bne_iff_ne, ne_eq]; omega))) | (refine ite_neg ?hxZ9 ?_; (case hxZ9 => first | with_reducible assumption | (simp only [decide_eq_true_eq, decide_eq_false_iff_not, Bool.not_eq_true', Bool.not_eq_false', bne_iff_ne, ne_eq, Bool.not_eq_true, Decidable.not_not]; omega))) | (refine ite_b (fun hc => ?_) (fun hc => ?_) <;> (try simp only [decide_eq_true_eq, decide_eq_false_iff_not, Bool.not_eq_true', Bool.not_eq_false', bne_iff_ne, ne_eq, bne_eq_false_iff_eq, Decidable.not_not, Int.not_lt, Int.not_le] at hc)))) | (fail_if_success (with_reducible show wpAny _ _ (exec (Stmt.While _ _ _ _) _) _ _ _)); (fail_if_success (with_reducible show wpAny _ _ (exec (Stmt.For _ _ _ _ _) _) _ _ _)); (fail_if_success (with_reducible show wpAny _ _ (pyIter _) _ _ _)); (fail_if_success (with_reducible show InvEndN _ _ _ _ _ _ _)); (fail_if_success (with_reducible show GEnd _ _ _ _ _ _ _)); (fail_if_success (with_reducible show GPost _ _ _ _ _ _ _ _ _)); first | (k_unfold; (try dsimp only)) | walk1 | (dsimp only; walk1) | (leave1; try dsimp only) | fail "no step"))
    ((refine' mstore_ ?keZ9 ?kFZ9 ?kNZ9 ?knZ9 ?kyZ9 ?kmZ9 ?_; (case keZ9 => exact rfl); (case kFZ9 => assumption); (case kNZ9 => assumption); (case knZ9 => first | (intro p hp; cases hp; done) | exact fun p hp => hp); (case kyZ9 => exact rfl); (case kmZ9 => (intro z hz; first | (simp only [hz, if_false]; done) | (simp [hz]; done)))))
    exact ⟨_, by rw [due_t]⟩
  clear F2 N3
  rintro _ h tk ⟨kt, rfl⟩ F4 N4
  generalize hdt : ((i : Nat) : Int) - ((t : Nat) : Int) = dt at *
  have hdt2 : -4 ≤ dt ∧ dt ≤ 4 := by omega
  k_dflt (refine' execs_store (PySem.Str.ofString "blanks") (fun v => ∃ k, v = .int (((j : Nat) : Int) - ((b : Nat) : Int)) k) F4 N4 ?_ ?_)
  · (try k_fold)
    (repeat' (first | (((with_reducible show wpAny _ _ (call (Value.builtin _) [Value.int _ _, Value.int _ _, Value.int _ _]) _ _ _); k_here; (rename Fr _ _ _ _ => lF'); (rename News _ _ _ _ => lN'); (with_unfolding_all refine' max_threeD ?hhZ9 lF' lN' ?heZ9 ?_; (case hhZ9 => with_unfolding_all rfl); (case heZ9 => assumption); k_whole); clear lF' lN'; intro t9 h9 tk9 F9 N9; (try dsimp only); (try k_fold))) | ((k_here; (with_reducible show wpAny _ _ (call (Value.type _) [Value.ref _]) _ _ _); (rename IsRange _ _ _ _ _ _ _ _ => rgX); (with_unfolding_all refine' list_step ?k0Z9 ?k1Z9 ?k2Z9 ?k3Z9 ?k4Z9 ?k5Z9 ?k6Z9 ?_; (case k0Z9 => rfl); (case k1Z9 => k_asm); (case k2Z9 => k_asm); (case k3Z9 => exact rgX); (case k4Z9 => exact small_two (by omega) (by omega)); (case k5Z9 => exact range_two (by omega)); (case k6Z9 => omega)); intro _ _ _ _ _ _ _ l1 _; (try k_lt l1))) | ((k_here; (with_reducible show wpAny _ _ (subscriptTail _ (Expr.Slice none (some _) none _) _ _) _ _ _); (with_reducible rename Fr _ _ _ _ => F'); (with_reducible rename News _ _ _ _ => N'); (refine slice_none (s := ⟨_, _, _, _, _⟩) F' N' ?_ (hsz := ?hszZ9)); (case hszZ9 => (rw [sizeLine_eq]; omega)); intro _ _ _ _ _)) | ((k_here; k_openite; first | (refine ite_pos ?hxZ9 ?_; (case hxZ9 => first | with_reducible assumption | (simp only [decide_eq_true_eq, decide_eq_false_iff_not, Bool.not_eq_true', Bool.not_eq_false', bne_iff_ne, ne_eq]; omega))) | (refine ite_neg ?hxZ9 ?_; (case hxZ9 => first | with_reducible assumption | (simp only [decide_eq_true_eq, decide_eq_false_iff_not, Bool.not_eq_true', Bool.not_eq_false', bne_iff_ne, ne_eq, Bool.not_eq_true, Decidable.not_not]; omega))) | (refine ite_b (fun hc => ?_) (fun hc => ?_) <;> (try simp only [decide_eq_true_eq, decide_eq_false_iff_not, Bool.not_eq_true', Bool.not_eq_false', bne_iff_ne, ne_eq, bne_eq_false_iff_eq, Decidable.not_not, Int.not_lt, Int.not_le] at hc)))) | (fail_if_success (with_reducible show wpAny _ _ (exec (Stmt.While _ _ _ _) _) _ _ _)); (fail_if_success (with_reducible show wpAny _ _ (exec (Stmt.For _ _ _ _ _) _) _ _ _)); (fail_if_success (with_reducible show wpAny _ _ (pyIter _) _ _ _)); (fail_if_success (with_reducible show InvEndN _ _ _ _ _ _ _)); (fail_if_success (with_reducible show GEnd _ _ _ _ _ _ _)); (fail_if_success (with_reducible show GPost _ _ _ _ _ _ _ _ _)); first | (k_unfold; (try dsimp only)) | walk1 | (dsimp only; walk1) | (leave1; try dsimp only) | fail "no step"))
    ((refine' mstore_ ?keZ9 ?kFZ9 ?kNZ9 ?knZ9 ?kyZ9 ?kmZ9 ?_; (case keZ9 => exact rfl); (case kFZ9 => assumption); (case kNZ9 => assumption); (case knZ9 => first | (intro p hp; cases hp; done) | exact fun p hp => hp); (case kyZ9 => exact rfl); (case kmZ9 => (intro z hz; first | (simp only [hz, if_false]; done) | (simp [hz]; done)))))
    exact ⟨_, by rw [← hdt, due_b]⟩
  clear F4 N4
  rintro _ h tk ⟨kb, rfl⟩ F4 N4
  (try k_fold)
  (repeat' (first | (((with_reducible show wpAny _ _ (call (Value.builtin _) [Value.int _ _, Value.int _ _, Value.int _ _]) _ _ _); k_here; (rename Fr _ _ _ _ => lF'); (rename News _ _ _ _ => lN'); (with_unfolding_all refine' max_threeD ?hhZ9 lF' lN' ?heZ9 ?_; (case hhZ9 => with_unfolding_all rfl); (case heZ9 => assumption); k_whole); clear lF' lN'; intro t9 h9 tk9 F9 N9; (try dsimp only); (try k_fold))) | ((k_here; (with_reducible show wpAny _ _ (call (Value.type _) [Value.ref _]) _ _ _); (rename IsRange _ _ _ _ _ _ _ _ => rgX); (with_unfolding_all refine' list_step ?k0Z9 ?k1Z9 ?k2Z9 ?k3Z9 ?k4Z9 ?k5Z9 ?k6Z9 ?_; (case k0Z9 => rfl); (case k1Z9 => k_asm); (case k2Z9 => k_asm); (case k3Z9 => exact rgX); (case k4Z9 => exact small_two (by omega) (by omega)); (case k5Z9 => exact range_two (by omega)); (case k6Z9 => omega)); intro _ _ _ _ _ _ _ l1 _; (try k_lt l1))) | ((k_here; (with_reducible show wpAny _ _ (subscriptTail _ (Expr.Slice none (some _) none _) _ _) _ _ _); (with_reducible rename Fr _ _ _ _ => F'); (with_reducible rename News _ _ _ _ => N'); (refine slice_none (s := ⟨_, _, _, _, _⟩) F' N' ?_ (hsz := ?hszZ9)); (case hszZ9 => (rw [sizeLine_eq]; omega)); intro _ _ _ _ _)) | ((k_here; k_openite; first | (refine ite_pos ?hxZ9 ?_; (case hxZ9 => first | with_reducible assumption | (simp only [decide_eq_true_eq, decide_eq_false_iff_not, Bool.not_eq_true', Bool.not_eq_false', bne_iff_ne, ne_eq]; omega))) | (refine ite_neg ?hxZ9 ?_; (case hxZ9 => first | with_reducible assumption | (simp only [decide_eq_true_eq, decide_eq_false_iff_not, Bool.not_eq_true', Bool.not_eq_false', bne_iff_ne, ne_eq, Bool.not_eq_true, Decidable.not_not]; omega))) | (refine ite_b (fun hc => ?_) (fun hc => ?_) <;> (try simp only [decide_eq_true_eq, decide_eq_false_iff_not, Bool.not_eq_true', Bool.not_eq_false', bne_iff_ne, ne_eq, bne_eq_false_iff_eq, Decidable.not_not, Int.not_lt, Int.not_le] at hc)))) | (fail_if_success (with_reducible show wpAny _ _ (exec (Stmt.While _ _ _ _) _) _ _ _)); (fail_if_success (with_reducible show wpAny _ _ (exec (Stmt.For _ _ _ _ _) _) _ _ _)); (fail_if_success (with_reducible show wpAny _ _ (pyIter _) _ _ _)); (fail_if_success (with_reducible show InvEndN _ _ _ _ _ _ _)); (fail_if_success (with_reducible show GEnd _ _ _ _ _ _ _)); (fail_if_success (with_reducible show GPost _ _ _ _ _ _ _ _ _)); first | (k_unfold; (try dsimp only)) | walk1 | (dsimp only; walk1) | (leave1; try dsimp only) | fail "no step"))
  (rename Fr g _ _ _ => F7; rename News g _ _ _ => N7)
  exact ret_any (hret2 _) (hst _ _ F7 (kst_newsOf N7 fun z hz => .tail _ (.tail _ hz))) rfl rfl

-- str_pure
noncomputable def condL (A B C D : List Int) (way : Int) : Bool := (A.any (· == way) && B.any (· == way)) || (C.any (· == way) && D.any (· == way))
noncomputable def strL (A B C D : List Int) : Bool := ([0, 1, 2] : List Int).any (condL A B C D)
theorem cond_1 {A B C D : List Int} {way : Int} (h : A.any (· == way) = true) (h2 : B.any (· == way) = true) : condL A B C D way = true := by unfold condL; rw [h, h2]; rfl
theorem cond_2 {A B C D : List Int} {way : Int} (h : C.any (· == way) = true) (h2 : D.any (· == way) = true) : condL A B C D way = true := by unfold condL; rw [h, h2, Bool.and_self, Bool.or_true]
theorem cond_n {A B C D : List Int} {way : Int} (h : (A.any (· == way) && B.any (· == way)) = false) (h2 : (C.any (· == way) && D.any (· == way)) = false) : condL A B C D way = false := by unfold condL; rw [h, h2]; rfl
theorem str_t {A B C D : List Int} {way : Int} (hw : 0 ≤ way ∧ way < 3) (h : condL A B C D way = true) : Value.bool true = Value.bool (strL A B C D) := by
  have : strL A B C D = true := by
    unfold strL
    have hw2 : way = 0 ∨ way = 1 ∨ way = 2 := by omega
    rcases hw2 with rfl | rfl | rfl <;> simp only [List.any_cons, h, Bool.true_or, Bool.or_true]
  rw [this]
theorem str_f {A B C D : List Int} (h : (rangeKs 0 3).any (condL A B C D) = false) : Value.bool false = Value.bool (strL A B C D) := by
  have e : rangeKs 0 3 = [0, 1, 2] := by decide +kernel
  rw [e] at h
  unfold strL; rw [h]

-- ways_mac_item

-- str_mac

-- strt_body
theorem straight_claim (w : World) (Wy Ri Rk Rj D1 D2 D3 D4 : Addr) (rows vI vK vJ u1 u2 u3 u4 : List Value) (c cI cK cJ c1 c2 c3 c4 : Nat) (A B C D : List Int) (i k j : Int) (ti tk tj : Tok) (hi : 0 ≤ i ∧ i ≤ 100) (hk0 : 0 ≤ k ∧ k ≤ 100) (hj : 0 ≤ j ∧ j ≤ 100)
    (hRi : rows[i.toNat]? = some (.ref Ri)) (hRk : rows[k.toNat]? = some (.ref Rk)) (hRj : rows[j.toNat]? = some (.ref Rj)) (h1 : vI[k.toNat]? = some (.ref D1)) (h2 : vK[j.toNat]? = some (.ref D2)) (h3 : vJ[k.toNat]? = some (.ref D3)) (h4 : vK[i.toNat]? = some (.ref D4)) (i1 : IntsAre u1 A) (i2 : IntsAre u2 B) (i3 : IntsAre u3 C) (i4 : IntsAre u4 D)
    (mean : ExcName → Option Value) (mg mb : PySem.Str → Option Value) (dp un : Nat) (gd : Option (List Code)) (cn : PySem.Str) (sc : Scope) (a : Addr) (ccd : Value) (cl : List (PySem.Str × Addr)) (outer : List Env) (A₀ : Around) (base h₀ : Heap) (L : Addr) (m : PySem.Str → Option Value) (s : Shared) (Q E : Value → Shared → Prop) (news : List (Addr × Obj))
    (Bl : Below A₀ base outer h₀) (F : Fr h₀ L s.heap m) (X : (hd.heap_39 w.params).In h₀) (N : News h₀ L s.heap news) (T : Top hd.view_39 (looseW hd.view_39 [PySem.Str.ofString "Whitespace"]) mean mg mb h₀)
    (hsub : ∀ z ∈ [(Wy, W.listOf (List.toArray rows) c), (Ri, W.listOf (List.toArray vI) cI), (Rk, W.listOf (List.toArray vK) cK), (Rj, W.listOf (List.toArray vJ) cJ), (D1, W.listOf (List.toArray u1) c1), (D2, W.listOf (List.toArray u2) c2), (D3, W.listOf (List.toArray u3) c3), (D4, W.listOf (List.toArray u4) c4)], z ∈ news) (hk : sc.kind = .function) (hdp : dp + 1 < recursionLimit) (hu : un + 8 < cLine)
    (hret : ∀ h' tk', Fr h₀ L h' m → News h₀ L h' news → Q (.bool (strL A B C D)) { s with heap := h', toks := tk' }) :
    wpAny (model PySem.Challenge.pw_pg0263_02 w) (ktrTop dp un gd cn sc L a ccd cl outer) (call (.ref 143) [.ref Wy, .int i ti, .int k tk, .int j tj]) Q E s := by
  have hret2 := fun h' tk' (st : s.heap.StaysIn h') => hret h' tk' (fr_stays F st) (news_stays N st)
  clear hret
  w_on
  ((k_dflt (refine' enter_own (news) (by assumption) (by assumption) (by assumption) ?kNZ9 (by assumption) ?cAZ9 ?cFZ9 ?cKZ9 ?c6Z9 ?c7Z9 ?c8Z9 ?c9Z9 ?cBZ9 ?_ ?d2Z9 ?d3Z9 ?d4Z9 ?d5Z9); (case kNZ9 => assumption); (case cAZ9 => exact rfl); (case cFZ9 => exact rfl); (case cKZ9 => assumption); (case c6Z9 => k_is); (case c7Z9 => k_is); (case c8Z9 => ktr_room); (case c9Z9 => exact BindsTo.of_eq rfl); (case cBZ9 => exact locs rfl); (case d2Z9 => exact rfl); (case d3Z9 => exact rfl); (case d4Z9 => exact rfl); (case d5Z9 => decide)))
  intro g L' h2' hg F2 N2 B2 X2 T2
  have hst := fun (h' : Heap) (m' : PySem.Str → Option Value) (F' : Fr g L' h' m') (N' : News g L' h' news) => stays_own N hg F' N'
  have N3 := kst_newsOf N2 (l' := [(Wy, W.listOf (List.toArray rows) c), (Ri, W.listOf (List.toArray vI) cI), (Rk, W.listOf (List.toArray vK) cK), (Rj, W.listOf (List.toArray vJ) cJ), (D1, W.listOf (List.toArray u1) c1), (D2, W.listOf (List.toArray u2) c2), (D3, W.listOf (List.toArray u3) c3), (D4, W.listOf (List.toArray u4) c4)] ++ news) (fun z hz => by
    rcases List.mem_append.mp hz with hz | hz
    · exact hsub z hz
    · exact hz)
  dsimp only [List.cons_append, List.nil_append] at N3
  clear N2 hsub N
  (try dsimp only); (try k_lift B2); (try k_fold)
  (repeat' (first | ((k_here; (with_reducible show wpAny _ _ (compareOp CmpOp.In (Value.int _ _) (Value.ref _)) _ _ _); k_dflt (refine' in_list_ints ?k1Z9 ?k2Z9 ?_; (case k1Z9 => exact News.isList (by k_asm) (by k_mem)); (case k2Z9 => with_reducible assumption); k_whole))) | ((k_here; (with_reducible show wpAny _ _ (subscriptTail _ _ (Value.ref _) (Value.int _ _)) _ _ _); k_dflt (refine' item_at ?k1Z9 ?k2Z9 ?k3Z9 ?k4Z9 ?_ ?k6Z9; (case k1Z9 => exact News.isList (by k_asm) (by k_mem)); (case k4Z9 => with_reducible assumption); (case k2Z9 => omega); (case k3Z9 => omega); (case k6Z9 => with_unfolding_all rfl); k_whole))) | ((k_here; (with_reducible show wpAny _ _ (call (Value.type _) [Value.ref _]) _ _ _); (rename IsRange _ _ _ _ _ _ _ _ => rgX); (with_unfolding_all refine' list_step ?k0Z9 ?k1Z9 ?k2Z9 ?k3Z9 ?k4Z9 ?k5Z9 ?k6Z9 ?_; (case k0Z9 => rfl); (case k1Z9 => k_asm); (case k2Z9 => k_asm); (case k3Z9 => exact rgX); (case k4Z9 => exact small_two (by omega) (by omega)); (case k5Z9 => exact range_two (by omega)); (case k6Z9 => omega)); intro _ _ _ _ _ _ _ l1 _; (try k_lt l1))) | ((k_here; (with_reducible show wpAny _ _ (subscriptTail _ (Expr.Slice none (some _) none _) _ _) _ _ _); (with_reducible rename Fr _ _ _ _ => F'); (with_reducible rename News _ _ _ _ => N'); (refine slice_none (s := ⟨_, _, _, _, _⟩) F' N' ?_ (hsz := ?hszZ9)); (case hszZ9 => (rw [sizeLine_eq]; omega)); intro _ _ _ _ _)) | ((k_here; k_openite; first | (refine ite_pos ?hxZ9 ?_; (case hxZ9 => first | with_reducible assumption | (simp only [decide_eq_true_eq, decide_eq_false_iff_not, Bool.not_eq_true', Bool.not_eq_false', bne_iff_ne, ne_eq]; omega))) | (refine ite_neg ?hxZ9 ?_; (case hxZ9 => first | with_reducible assumption | (simp only [decide_eq_true_eq, decide_eq_false_iff_not, Bool.not_eq_true', Bool.not_eq_false', bne_iff_ne, ne_eq, Bool.not_eq_true, Decidable.not_not]; omega))) | (refine ite_b (fun hc => ?_) (fun hc => ?_) <;> (try simp only [decide_eq_true_eq, decide_eq_false_iff_not, Bool.not_eq_true', Bool.not_eq_false', bne_iff_ne, ne_eq, bne_eq_false_iff_eq, Decidable.not_not, Int.not_lt, Int.not_le] at hc)))) | (fail_if_success (with_reducible show wpAny _ _ (exec (Stmt.While _ _ _ _) _) _ _ _)); (fail_if_success (with_reducible show wpAny _ _ (exec (Stmt.For _ _ _ _ _) _) _ _ _)); (fail_if_success (with_reducible show wpAny _ _ (pyIter _) _ _ _)); (fail_if_success (with_reducible show InvEndN _ _ _ _ _ _ _)); (fail_if_success (with_reducible show GEnd _ _ _ _ _ _ _)); (fail_if_success (with_reducible show GPost _ _ _ _ _ _ _ _ _)); first | (k_unfold; (try dsimp only)) | walk1 | (dsimp only; walk1) | (leave1; try dsimp only) | fail "no step"))
  (((with_unfolding_all refine' For_invVF ?kZZ9 ?k1Z9 ?k2Z9 ?_); (case kZZ9 => k_dflt assumption); (with_unfolding_all ((case k1Z9 => exact rfl); (case k2Z9 => exact rfl); k_whole)); (repeat' (first | ((k_here; (with_reducible show wpAny _ _ (compareOp CmpOp.In (Value.int _ _) (Value.ref _)) _ _ _); k_dflt (refine' in_list_ints ?k1Z9 ?k2Z9 ?_; (case k1Z9 => exact News.isList (by k_asm) (by k_mem)); (case k2Z9 => with_reducible assumption); k_whole))) | ((k_here; (with_reducible show wpAny _ _ (subscriptTail _ _ (Value.ref _) (Value.int _ _)) _ _ _); k_dflt (refine' item_at ?k1Z9 ?k2Z9 ?k3Z9 ?k4Z9 ?_ ?k6Z9; (case k1Z9 => exact News.isList (by k_asm) (by k_mem)); (case k4Z9 => with_reducible assumption); (case k2Z9 => omega); (case k3Z9 => omega); (case k6Z9 => with_unfolding_all rfl); k_whole))) | ((k_here; (with_reducible show wpAny _ _ (call (Value.type _) [Value.ref _]) _ _ _); (rename IsRange _ _ _ _ _ _ _ _ => rgX); (with_unfolding_all refine' list_step ?k0Z9 ?k1Z9 ?k2Z9 ?k3Z9 ?k4Z9 ?k5Z9 ?k6Z9 ?_; (case k0Z9 => rfl); (case k1Z9 => k_asm); (case k2Z9 => k_asm); (case k3Z9 => exact rgX); (case k4Z9 => exact small_two (by omega) (by omega)); (case k5Z9 => exact range_two (by omega)); (case k6Z9 => omega)); intro _ _ _ _ _ _ _ l1 _; (try k_lt l1))) | ((k_here; (with_reducible show wpAny _ _ (subscriptTail _ (Expr.Slice none (some _) none _) _ _) _ _ _); (with_reducible rename Fr _ _ _ _ => F'); (with_reducible rename News _ _ _ _ => N'); (refine slice_none (s := ⟨_, _, _, _, _⟩) F' N' ?_ (hsz := ?hszZ9)); (case hszZ9 => (rw [sizeLine_eq]; omega)); intro _ _ _ _ _)) | ((k_here; k_openite; first | (refine ite_pos ?hxZ9 ?_; (case hxZ9 => first | with_reducible assumption | (simp only [decide_eq_true_eq, decide_eq_false_iff_not, Bool.not_eq_true', Bool.not_eq_false', bne_iff_ne, ne_eq]; omega))) | (refine ite_neg ?hxZ9 ?_; (case hxZ9 => first | with_reducible assumption | (simp only [decide_eq_true_eq, decide_eq_false_iff_not, Bool.not_eq_true', Bool.not_eq_false', bne_iff_ne, ne_eq, Bool.not_eq_true, Decidable.not_not]; omega))) | (refine ite_b (fun hc => ?_) (fun hc => ?_) <;> (try simp only [decide_eq_true_eq, decide_eq_false_iff_not, Bool.not_eq_true', Bool.not_eq_false', bne_iff_ne, ne_eq, bne_eq_false_iff_eq, Decidable.not_not, Int.not_lt, Int.not_le] at hc)))) | (fail_if_success (with_reducible show wpAny _ _ (exec (Stmt.While _ _ _ _) _) _ _ _)); (fail_if_success (with_reducible show wpAny _ _ (exec (Stmt.For _ _ _ _ _) _) _ _ _)); (fail_if_success (with_reducible show wpAny _ _ (pyIter _) _ _ _)); (fail_if_success (with_reducible show InvEndN _ _ _ _ _ _ _)); (fail_if_success (with_reducible show GEnd _ _ _ _ _ _ _)); (fail_if_success (with_reducible show GPost _ _ _ _ _ _ _ _ _)); first | (k_unfold; (try dsimp only)) | walk1 | (dsimp only; walk1) | (leave1; try dsimp only) | fail "no step"))))
  rename_i h6 tk6 t1 u1' v1 hR F9 N9 st9
  k_dflt (refine' kst_range (n := 3) (σ := Unit) (fun _ => (Wy, W.listOf (List.toArray rows) c) :: (Ri, W.listOf (List.toArray vI) cI) :: (Rk, W.listOf (List.toArray vK) cK) :: (Rj, W.listOf (List.toArray vJ) cJ) :: (D1, W.listOf (List.toArray u1) c1) :: (D2, W.listOf (List.toArray u2) c2) :: (D3, W.listOf (List.toArray u3) c3) :: (D4, W.listOf (List.toArray u4) c4) :: news) (fun _ => []) (fun _ => True) [] (fun pre _ => pre.any (condL A B C D) = false) ()
                rfl hR (small_0 (by omega) (by omega)) (range_to rfl) F9 N9 trivial ?hkk rfl ?kt ?kd)
  case hkk => exact fun p hp => by cases hp
  case kd =>
    clear F9 N9 st9 hR
    intro _ u h tk _ hP F9 N9
    (try dsimp only at F9 N9 hP)
    (try k_fold)
    (repeat' (first | ((k_here; (with_reducible show wpAny _ _ (compareOp CmpOp.In (Value.int _ _) (Value.ref _)) _ _ _); k_dflt (refine' in_list_ints ?k1Z9 ?k2Z9 ?_; (case k1Z9 => exact News.isList (by k_asm) (by k_mem)); (case k2Z9 => with_reducible assumption); k_whole))) | ((k_here; (with_reducible show wpAny _ _ (subscriptTail _ _ (Value.ref _) (Value.int _ _)) _ _ _); k_dflt (refine' item_at ?k1Z9 ?k2Z9 ?k3Z9 ?k4Z9 ?_ ?k6Z9; (case k1Z9 => exact News.isList (by k_asm) (by k_mem)); (case k4Z9 => with_reducible assumption); (case k2Z9 => omega); (case k3Z9 => omega); (case k6Z9 => with_unfolding_all rfl); k_whole))) | ((k_here; (with_reducible show wpAny _ _ (call (Value.type _) [Value.ref _]) _ _ _); (rename IsRange _ _ _ _ _ _ _ _ => rgX); (with_unfolding_all refine' list_step ?k0Z9 ?k1Z9 ?k2Z9 ?k3Z9 ?k4Z9 ?k5Z9 ?k6Z9 ?_; (case k0Z9 => rfl); (case k1Z9 => k_asm); (case k2Z9 => k_asm); (case k3Z9 => exact rgX); (case k4Z9 => exact small_two (by omega) (by omega)); (case k5Z9 => exact range_two (by omega)); (case k6Z9 => omega)); intro _ _ _ _ _ _ _ l1 _; (try k_lt l1))) | ((k_here; (with_reducible show wpAny _ _ (subscriptTail _ (Expr.Slice none (some _) none _) _ _) _ _ _); (with_reducible rename Fr _ _ _ _ => F'); (with_reducible rename News _ _ _ _ => N'); (refine slice_none (s := ⟨_, _, _, _, _⟩) F' N' ?_ (hsz := ?hszZ9)); (case hszZ9 => (rw [sizeLine_eq]; omega)); intro _ _ _ _ _)) | ((k_here; k_openite; first | (refine ite_pos ?hxZ9 ?_; (case hxZ9 => first | with_reducible assumption | (simp only [decide_eq_true_eq, decide_eq_false_iff_not, Bool.not_eq_true', Bool.not_eq_false', bne_iff_ne, ne_eq]; omega))) | (refine ite_neg ?hxZ9 ?_; (case hxZ9 => first | with_reducible assumption | (simp only [decide_eq_true_eq, decide_eq_false_iff_not, Bool.not_eq_true', Bool.not_eq_false', bne_iff_ne, ne_eq, Bool.not_eq_true, Decidable.not_not]; omega))) | (refine ite_b (fun hc => ?_) (fun hc => ?_) <;> (try simp only [decide_eq_true_eq, decide_eq_false_iff_not, Bool.not_eq_true', Bool.not_eq_false', bne_iff_ne, ne_eq, bne_eq_false_iff_eq, Decidable.not_not, Int.not_lt, Int.not_le] at hc)))) | (fail_if_success (with_reducible show wpAny _ _ (exec (Stmt.While _ _ _ _) _) _ _ _)); (fail_if_success (with_reducible show wpAny _ _ (exec (Stmt.For _ _ _ _ _) _) _ _ _)); (fail_if_success (with_reducible show wpAny _ _ (pyIter _) _ _ _)); (fail_if_success (with_reducible show InvEndN _ _ _ _ _ _ _)); (fail_if_success (with_reducible show GEnd _ _ _ _ _ _ _)); (fail_if_success (with_reducible show GPost _ _ _ _ _ _ _ _ _)); first | (k_unfold; (try dsimp only)) | walk1 | (dsimp only; walk1) | (leave1; try dsimp only) | fail "no step"))
    (rename Fr g _ _ _ => F7; rename News g _ _ _ => N7)
    exact ret_any hret2 (hst _ _ F7 (kst_newsOf N7 fun z hz => .tail _ (.tail _ (.tail _ (.tail _ (.tail _ (.tail _ (.tail _ (.tail _ hz))))))))) rfl (str_f hP)
  clear F9 N9 st9 hR
  intro _ pre way tw u h tk own hway hpre hoff _ hP F9 N9
  dsimp only [kstB] at F9
  (try dsimp only at N9 hP)
  have hw3 : 0 ≤ way ∧ way < 3 := by omega
  k_dflt (refine' execs_if ((A.any (· == way) && B.any (· == way)) = false) F9 N9 ?_ ?_)
  · (try k_fold)
    (repeat' (first | ((k_here; (with_reducible show wpAny _ _ (compareOp CmpOp.In (Value.int _ _) (Value.ref _)) _ _ _); k_dflt (refine' in_list_ints ?k1Z9 ?k2Z9 ?_; (case k1Z9 => exact News.isList (by k_asm) (by k_mem)); (case k2Z9 => with_reducible assumption); k_whole))) | ((k_here; (with_reducible show wpAny _ _ (subscriptTail _ _ (Value.ref _) (Value.int _ _)) _ _ _); k_dflt (refine' item_at ?k1Z9 ?k2Z9 ?k3Z9 ?k4Z9 ?_ ?k6Z9; (case k1Z9 => exact News.isList (by k_asm) (by k_mem)); (case k4Z9 => with_reducible assumption); (case k2Z9 => omega); (case k3Z9 => omega); (case k6Z9 => with_unfolding_all rfl); k_whole))) | ((k_here; (with_reducible show wpAny _ _ (call (Value.type _) [Value.ref _]) _ _ _); (rename IsRange _ _ _ _ _ _ _ _ => rgX); (with_unfolding_all refine' list_step ?k0Z9 ?k1Z9 ?k2Z9 ?k3Z9 ?k4Z9 ?k5Z9 ?k6Z9 ?_; (case k0Z9 => rfl); (case k1Z9 => k_asm); (case k2Z9 => k_asm); (case k3Z9 => exact rgX); (case k4Z9 => exact small_two (by omega) (by omega)); (case k5Z9 => exact range_two (by omega)); (case k6Z9 => omega)); intro _ _ _ _ _ _ _ l1 _; (try k_lt l1))) | ((k_here; (with_reducible show wpAny _ _ (subscriptTail _ (Expr.Slice none (some _) none _) _ _) _ _ _); (with_reducible rename Fr _ _ _ _ => F'); (with_reducible rename News _ _ _ _ => N'); (refine slice_none (s := ⟨_, _, _, _, _⟩) F' N' ?_ (hsz := ?hszZ9)); (case hszZ9 => (rw [sizeLine_eq]; omega)); intro _ _ _ _ _)) | ((k_here; k_openite; first | (refine ite_pos ?hxZ9 ?_; (case hxZ9 => first | with_reducible assumption | (simp only [decide_eq_true_eq, decide_eq_false_iff_not, Bool.not_eq_true', Bool.not_eq_false', bne_iff_ne, ne_eq]; omega))) | (refine ite_neg ?hxZ9 ?_; (case hxZ9 => first | with_reducible assumption | (simp only [decide_eq_true_eq, decide_eq_false_iff_not, Bool.not_eq_true', Bool.not_eq_false', bne_iff_ne, ne_eq, Bool.not_eq_true, Decidable.not_not]; omega))) | (refine ite_b (fun hc => ?_) (fun hc => ?_) <;> (try simp only [decide_eq_true_eq, decide_eq_false_iff_not, Bool.not_eq_true', Bool.not_eq_false', bne_iff_ne, ne_eq, bne_eq_false_iff_eq, Decidable.not_not, Int.not_lt, Int.not_le] at hc)))) | (fail_if_success (with_reducible show wpAny _ _ (exec (Stmt.While _ _ _ _) _) _ _ _)); (fail_if_success (with_reducible show wpAny _ _ (exec (Stmt.For _ _ _ _ _) _) _ _ _)); (fail_if_success (with_reducible show wpAny _ _ (pyIter _) _ _ _)); (fail_if_success (with_reducible show InvEndN _ _ _ _ _ _ _)); (fail_if_success (with_reducible show GEnd _ _ _ _ _ _ _)); (fail_if_success (with_reducible show GPost _ _ _ _ _ _ _ _ _)); first | (k_unfold; (try dsimp only)) | walk1 | (dsimp only; walk1) | (leave1; try dsimp only) | fail "no step"))
    · dsimp only
      refine' mif_ret ?_
      (repeat' (first | ((k_here; (with_reducible show wpAny _ _ (compareOp CmpOp.In (Value.int _ _) (Value.ref _)) _ _ _); k_dflt (refine' in_list_ints ?k1Z9 ?k2Z9 ?_; (case k1Z9 => exact News.isList (by k_asm) (by k_mem)); (case k2Z9 => with_reducible assumption); k_whole))) | ((k_here; (with_reducible show wpAny _ _ (subscriptTail _ _ (Value.ref _) (Value.int _ _)) _ _ _); k_dflt (refine' item_at ?k1Z9 ?k2Z9 ?k3Z9 ?k4Z9 ?_ ?k6Z9; (case k1Z9 => exact News.isList (by k_asm) (by k_mem)); (case k4Z9 => with_reducible assumption); (case k2Z9 => omega); (case k3Z9 => omega); (case k6Z9 => with_unfolding_all rfl); k_whole))) | ((k_here; (with_reducible show wpAny _ _ (call (Value.type _) [Value.ref _]) _ _ _); (rename IsRange _ _ _ _ _ _ _ _ => rgX); (with_unfolding_all refine' list_step ?k0Z9 ?k1Z9 ?k2Z9 ?k3Z9 ?k4Z9 ?k5Z9 ?k6Z9 ?_; (case k0Z9 => rfl); (case k1Z9 => k_asm); (case k2Z9 => k_asm); (case k3Z9 => exact rgX); (case k4Z9 => exact small_two (by omega) (by omega)); (case k5Z9 => exact range_two (by omega)); (case k6Z9 => omega)); intro _ _ _ _ _ _ _ l1 _; (try k_lt l1))) | ((k_here; (with_reducible show wpAny _ _ (subscriptTail _ (Expr.Slice none (some _) none _) _ _) _ _ _); (with_reducible rename Fr _ _ _ _ => F'); (with_reducible rename News _ _ _ _ => N'); (refine slice_none (s := ⟨_, _, _, _, _⟩) F' N' ?_ (hsz := ?hszZ9)); (case hszZ9 => (rw [sizeLine_eq]; omega)); intro _ _ _ _ _)) | ((k_here; k_openite; first | (refine ite_pos ?hxZ9 ?_; (case hxZ9 => first | with_reducible assumption | (simp only [decide_eq_true_eq, decide_eq_false_iff_not, Bool.not_eq_true', Bool.not_eq_false', bne_iff_ne, ne_eq]; omega))) | (refine ite_neg ?hxZ9 ?_; (case hxZ9 => first | with_reducible assumption | (simp only [decide_eq_true_eq, decide_eq_false_iff_not, Bool.not_eq_true', Bool.not_eq_false', bne_iff_ne, ne_eq, Bool.not_eq_true, Decidable.not_not]; omega))) | (refine ite_b (fun hc => ?_) (fun hc => ?_) <;> (try simp only [decide_eq_true_eq, decide_eq_false_iff_not, Bool.not_eq_true', Bool.not_eq_false', bne_iff_ne, ne_eq, bne_eq_false_iff_eq, Decidable.not_not, Int.not_lt, Int.not_le] at hc)))) | (fail_if_success (with_reducible show wpAny _ _ (exec (Stmt.While _ _ _ _) _) _ _ _)); (fail_if_success (with_reducible show wpAny _ _ (exec (Stmt.For _ _ _ _ _) _) _ _ _)); (fail_if_success (with_reducible show wpAny _ _ (pyIter _) _ _ _)); (fail_if_success (with_reducible show InvEndN _ _ _ _ _ _ _)); (fail_if_success (with_reducible show GEnd _ _ _ _ _ _ _)); (fail_if_success (with_reducible show GPost _ _ _ _ _ _ _ _ _)); first | (k_unfold; (try dsimp only)) | walk1 | (dsimp only; walk1) | (leave1; try dsimp only) | fail "no step"))
      (rename Fr g _ _ _ => F7; rename News g _ _ _ => N7)
      exact ret_any hret2 (hst _ _ F7 (kst_newsOf N7 fun z hz => .tail _ (.tail _ (.tail _ (.tail _ (.tail _ (.tail _ (.tail _ (.tail _ (List.mem_append_left _ hz)))))))))) rfl (str_t hw3 (cond_1 (by assumption) (by assumption)))
    · (first | (refine' mif_ret ?_) | (refine' mif_next ?keZ9 ?kFZ9 ?kNZ9 ?knZ9 ?_; (case keZ9 => exact rfl); (case kFZ9 => assumption); (case kNZ9 => assumption); (case knZ9 => first | (intro p hp; cases hp; done) | exact fun p hp => hp)))
      (rename (B.any _ = false) => hb9; rw [hb9, Bool.and_false])
    · (first | (refine' mif_ret ?_) | (refine' mif_next ?keZ9 ?kFZ9 ?kNZ9 ?knZ9 ?_; (case keZ9 => exact rfl); (case kFZ9 => assumption); (case kNZ9 => assumption); (case knZ9 => first | (intro p hp; cases hp; done) | exact fun p hp => hp)))
      (rename (A.any _ = false) => hb9; rw [hb9, Bool.false_and])
  clear F9 N9
  intro h tk hP1 F9 N9
  k_dflt (refine' execs_if ((C.any (· == way) && D.any (· == way)) = false) F9 N9 ?_ ?_)
  · (try k_fold)
    (repeat' (first | ((k_here; (with_reducible show wpAny _ _ (compareOp CmpOp.In (Value.int _ _) (Value.ref _)) _ _ _); k_dflt (refine' in_list_ints ?k1Z9 ?k2Z9 ?_; (case k1Z9 => exact News.isList (by k_asm) (by k_mem)); (case k2Z9 => with_reducible assumption); k_whole))) | ((k_here; (with_reducible show wpAny _ _ (subscriptTail _ _ (Value.ref _) (Value.int _ _)) _ _ _); k_dflt (refine' item_at ?k1Z9 ?k2Z9 ?k3Z9 ?k4Z9 ?_ ?k6Z9; (case k1Z9 => exact News.isList (by k_asm) (by k_mem)); (case k4Z9 => with_reducible assumption); (case k2Z9 => omega); (case k3Z9 => omega); (case k6Z9 => with_unfolding_all rfl); k_whole))) | ((k_here; (with_reducible show wpAny _ _ (call (Value.type _) [Value.ref _]) _ _ _); (rename IsRange _ _ _ _ _ _ _ _ => rgX); (with_unfolding_all refine' list_step ?k0Z9 ?k1Z9 ?k2Z9 ?k3Z9 ?k4Z9 ?k5Z9 ?k6Z9 ?_; (case k0Z9 => rfl); (case k1Z9 => k_asm); (case k2Z9 => k_asm); (case k3Z9 => exact rgX); (case k4Z9 => exact small_two (by omega) (by omega)); (case k5Z9 => exact range_two (by omega)); (case k6Z9 => omega)); intro _ _ _ _ _ _ _ l1 _; (try k_lt l1))) | ((k_here; (with_reducible show wpAny _ _ (subscriptTail _ (Expr.Slice none (some _) none _) _ _) _ _ _); (with_reducible rename Fr _ _ _ _ => F'); (with_reducible rename News _ _ _ _ => N'); (refine slice_none (s := ⟨_, _, _, _, _⟩) F' N' ?_ (hsz := ?hszZ9)); (case hszZ9 => (rw [sizeLine_eq]; omega)); intro _ _ _ _ _)) | ((k_here; k_openite; first | (refine ite_pos ?hxZ9 ?_; (case hxZ9 => first | with_reducible assumption | (simp only [decide_eq_true_eq, decide_eq_false_iff_not, Bool.not_eq_true', Bool.not_eq_false', bne_iff_ne, ne_eq]; omega))) | (refine ite_neg ?hxZ9 ?_; (case hxZ9 => first | with_reducible assumption | (simp only [decide_eq_true_eq, decide_eq_false_iff_not, Bool.not_eq_true', Bool.not_eq_false', bne_iff_ne, ne_eq, Bool.not_eq_true, Decidable.not_not]; omega))) | (refine ite_b (fun hc => ?_) (fun hc => ?_) <;> (try simp only [decide_eq_true_eq, decide_eq_false_iff_not, Bool.not_eq_true', Bool.not_eq_false', bne_iff_ne, ne_eq, bne_eq_false_iff_eq, Decidable.not_not, Int.not_lt, Int.not_le] at hc)))) | (fail_if_success (with_reducible show wpAny _ _ (exec (Stmt.While _ _ _ _) _) _ _ _)); (fail_if_success (with_reducible show wpAny _ _ (exec (Stmt.For _ _ _ _ _) _) _ _ _)); (fail_if_success (with_reducible show wpAny _ _ (pyIter _) _ _ _)); (fail_if_success (with_reducible show InvEndN _ _ _ _ _ _ _)); (fail_if_success (with_reducible show GEnd _ _ _ _ _ _ _)); (fail_if_success (with_reducible show GPost _ _ _ _ _ _ _ _ _)); first | (k_unfold; (try dsimp only)) | walk1 | (dsimp only; walk1) | (leave1; try dsimp only) | fail "no step"))
    · dsimp only
      refine' mif_ret ?_
      (repeat' (first | ((k_here; (with_reducible show wpAny _ _ (compareOp CmpOp.In (Value.int _ _) (Value.ref _)) _ _ _); k_dflt (refine' in_list_ints ?k1Z9 ?k2Z9 ?_; (case k1Z9 => exact News.isList (by k_asm) (by k_mem)); (case k2Z9 => with_reducible assumption); k_whole))) | ((k_here; (with_reducible show wpAny _ _ (subscriptTail _ _ (Value.ref _) (Value.int _ _)) _ _ _); k_dflt (refine' item_at ?k1Z9 ?k2Z9 ?k3Z9 ?k4Z9 ?_ ?k6Z9; (case k1Z9 => exact News.isList (by k_asm) (by k_mem)); (case k4Z9 => with_reducible assumption); (case k2Z9 => omega); (case k3Z9 => omega); (case k6Z9 => with_unfolding_all rfl); k_whole))) | ((k_here; (with_reducible show wpAny _ _ (call (Value.type _) [Value.ref _]) _ _ _); (rename IsRange _ _ _ _ _ _ _ _ => rgX); (with_unfolding_all refine' list_step ?k0Z9 ?k1Z9 ?k2Z9 ?k3Z9 ?k4Z9 ?k5Z9 ?k6Z9 ?_; (case k0Z9 => rfl); (case k1Z9 => k_asm); (case k2Z9 => k_asm); (case k3Z9 => exact rgX); (case k4Z9 => exact small_two (by omega) (by omega)); (case k5Z9 => exact range_two (by omega)); (case k6Z9 => omega)); intro _ _ _ _ _ _ _ l1 _; (try k_lt l1))) | ((k_here; (with_reducible show wpAny _ _ (subscriptTail _ (Expr.Slice none (some _) none _) _ _) _ _ _); (with_reducible rename Fr _ _ _ _ => F'); (with_reducible rename News _ _ _ _ => N'); (refine slice_none (s := ⟨_, _, _, _, _⟩) F' N' ?_ (hsz := ?hszZ9)); (case hszZ9 => (rw [sizeLine_eq]; omega)); intro _ _ _ _ _)) | ((k_here; k_openite; first | (refine ite_pos ?hxZ9 ?_; (case hxZ9 => first | with_reducible assumption | (simp only [decide_eq_true_eq, decide_eq_false_iff_not, Bool.not_eq_true', Bool.not_eq_false', bne_iff_ne, ne_eq]; omega))) | (refine ite_neg ?hxZ9 ?_; (case hxZ9 => first | with_reducible assumption | (simp only [decide_eq_true_eq, decide_eq_false_iff_not, Bool.not_eq_true', Bool.not_eq_false', bne_iff_ne, ne_eq, Bool.not_eq_true, Decidable.not_not]; omega))) | (refine ite_b (fun hc => ?_) (fun hc => ?_) <;> (try simp only [decide_eq_true_eq, decide_eq_false_iff_not, Bool.not_eq_true', Bool.not_eq_false', bne_iff_ne, ne_eq, bne_eq_false_iff_eq, Decidable.not_not, Int.not_lt, Int.not_le] at hc)))) | (fail_if_success (with_reducible show wpAny _ _ (exec (Stmt.While _ _ _ _) _) _ _ _)); (fail_if_success (with_reducible show wpAny _ _ (exec (Stmt.For _ _ _ _ _) _) _ _ _)); (fail_if_success (with_reducible show wpAny _ _ (pyIter _) _ _ _)); (fail_if_success (with_reducible show InvEndN _ _ _ _ _ _ _)); (fail_if_success (with_reducible show GEnd _ _ _ _ _ _ _)); (fail_if_success (with_reducible show GPost _ _ _ _ _ _ _ _ _)); first | (k_unfold; (try dsimp only)) | walk1 | (dsimp only; walk1) | (leave1; try dsimp only) | fail "no step"))
      (rename Fr g _ _ _ => F7; rename News g _ _ _ => N7)
      exact ret_any hret2 (hst _ _ F7 (kst_newsOf N7 fun z hz => .tail _ (.tail _ (.tail _ (.tail _ (.tail _ (.tail _ (.tail _ (.tail _ (List.mem_append_left _ hz)))))))))) rfl (str_t hw3 (cond_2 (by assumption) (by assumption)))
    · (first | (refine' mif_ret ?_) | (refine' mif_next ?keZ9 ?kFZ9 ?kNZ9 ?knZ9 ?_; (case keZ9 => exact rfl); (case kFZ9 => assumption); (case kNZ9 => assumption); (case knZ9 => first | (intro p hp; cases hp; done) | exact fun p hp => hp)))
      (rename (D.any _ = false) => hb9; rw [hb9, Bool.and_false])
    · (first | (refine' mif_ret ?_) | (refine' mif_next ?keZ9 ?kFZ9 ?kNZ9 ?knZ9 ?_; (case keZ9 => exact rfl); (case kFZ9 => assumption); (case kNZ9 => assumption); (case knZ9 => first | (intro p hp; cases hp; done) | exact fun p hp => hp)))
      (rename (C.any _ = false) => hb9; rw [hb9, Bool.false_and])
  clear F9 N9
  intro h tk hP2 F9 N9
  (try k_fold)
  (repeat' (first | ((k_here; (with_reducible show wpAny _ _ (compareOp CmpOp.In (Value.int _ _) (Value.ref _)) _ _ _); k_dflt (refine' in_list_ints ?k1Z9 ?k2Z9 ?_; (case k1Z9 => exact News.isList (by k_asm) (by k_mem)); (case k2Z9 => with_reducible assumption); k_whole))) | ((k_here; (with_reducible show wpAny _ _ (subscriptTail _ _ (Value.ref _) (Value.int _ _)) _ _ _); k_dflt (refine' item_at ?k1Z9 ?k2Z9 ?k3Z9 ?k4Z9 ?_ ?k6Z9; (case k1Z9 => exact News.isList (by k_asm) (by k_mem)); (case k4Z9 => with_reducible assumption); (case k2Z9 => omega); (case k3Z9 => omega); (case k6Z9 => with_unfolding_all rfl); k_whole))) | ((k_here; (with_reducible show wpAny _ _ (call (Value.type _) [Value.ref _]) _ _ _); (rename IsRange _ _ _ _ _ _ _ _ => rgX); (with_unfolding_all refine' list_step ?k0Z9 ?k1Z9 ?k2Z9 ?k3Z9 ?k4Z9 ?k5Z9 ?k6Z9 ?_; (case k0Z9 => rfl); (case k1Z9 => k_asm); (case k2Z9 => k_asm); (case k3Z9 => exact rgX); (case k4Z9 => exact small_two (by omega) (by omega)); (case k5Z9 => exact range_two (by omega)); (case k6Z9 => omega)); intro _ _ _ _ _ _ _ l1 _; (try k_lt l1))) | ((k_here; (with_reducible show wpAny _ _ (subscriptTail _ (Expr.Slice none (some _) none _) _ _) _ _ _); (with_reducible rename Fr _ _ _ _ => F'); (with_reducible rename News _ _ _ _ => N'); (refine slice_none (s := ⟨_, _, _, _, _⟩) F' N' ?_ (hsz := ?hszZ9)); (case hszZ9 => (rw [sizeLine_eq]; omega)); intro _ _ _ _ _)) | ((k_here; k_openite; first | (refine ite_pos ?hxZ9 ?_; (case hxZ9 => first | with_reducible assumption | (simp only [decide_eq_true_eq, decide_eq_false_iff_not, Bool.not_eq_true', Bool.not_eq_false', bne_iff_ne, ne_eq]; omega))) | (refine ite_neg ?hxZ9 ?_; (case hxZ9 => first | with_reducible assumption | (simp only [decide_eq_true_eq, decide_eq_false_iff_not, Bool.not_eq_true', Bool.not_eq_false', bne_iff_ne, ne_eq, Bool.not_eq_true, Decidable.not_not]; omega))) | (refine ite_b (fun hc => ?_) (fun hc => ?_) <;> (try simp only [decide_eq_true_eq, decide_eq_false_iff_not, Bool.not_eq_true', Bool.not_eq_false', bne_iff_ne, ne_eq, bne_eq_false_iff_eq, Decidable.not_not, Int.not_lt, Int.not_le] at hc)))) | (fail_if_success (with_reducible show wpAny _ _ (exec (Stmt.While _ _ _ _) _) _ _ _)); (fail_if_success (with_reducible show wpAny _ _ (exec (Stmt.For _ _ _ _ _) _) _ _ _)); (fail_if_success (with_reducible show wpAny _ _ (pyIter _) _ _ _)); (fail_if_success (with_reducible show InvEndN _ _ _ _ _ _ _)); (fail_if_success (with_reducible show GEnd _ _ _ _ _ _ _)); (fail_if_success (with_reducible show GPost _ _ _ _ _ _ _ _ _)); first | (k_unfold; (try dsimp only)) | walk1 | (dsimp only; walk1) | (leave1; try dsimp only) | fail "no step"))
  refine' kst_end () ?eF ?eN ?en ?eo rfl trivial ?ek ?er ?ep
  case eF => assumption
  case eN => assumption
  case en => exact fun z hz => List.mem_append_left _ hz
  case eo => exact fun z hz => List.mem_append_right _ hz
  case ek => (intro p hp; cases hp)
  case er => (intro z h1 h2 h3; simp only [h1, if_false, List.contains_nil, Bool.false_eq_true])
  case ep => rw [List.any_append, hP, List.any_cons, cond_n hP1 hP2, List.any_nil]; rfl

-- nest_pure
noncomputable abbrev noCell : Obj := { cls := .type "cell", data := .cell none }
theorem newEnvC {M : Model} {A : Around} {E : Value → Shared → Prop} {s : Shared} {scope : Scope} {g : Addr} {cl : List (PySem.Str × Addr)} {qual : PySem.Str} {outer : Env} {x : PySem.Str} {Q : Env → Shared → Prop}
    (hone : ∀ n acc, cellsFrom n scope.names acc = (x, n) :: acc) (hpush : ∀ h, pushCells h scope.names = h.push noCell)
    (hQ : Q { scope := scope, locals := s.heap.objs.size, globals := g, cells := (x, s.heap.objs.size + 1) :: cl, qual := qual, func := none, code := outer.code, frame := outer.frame, builtins := outer.builtins } { s with heap := (s.heap.push { cls := .type "dict", data := .dict #[] }).push noCell }) :
    wpAny M A (newFunctionEnv scope g cl [] qual none .none (some outer)) Q E s := by
  simp only [newFunctionEnv, Option.isSome_some, if_true]
  refine wpAny_bind (wpAny_alloc ?_)
  refine wpAny_bind (wpAny_layCells _ (fun name kind cells => by cases hkc : kind == NameKind.cell <;> simp [hkc]) _ _ _ _ ?_)
  rw [hone, hpush, Heap.size_push]
  refine wpAny_bind ?_
  rw [List.forIn_nil]
  exact wpAny_pure (wpAny_pure hQ)
noncomputable def Apart4 (I C D cx : Addr) (l : List (Addr × Obj)) : Prop := ∀ p ∈ l, p.1 ≠ I ∧ p.1 ≠ C ∧ p.1 ≠ D ∧ p.1 ≠ cx
/-- the end of a turn of a block whose variable is a cell -/
noncomputable def CEndC (h₀ : Heap) (L : Addr) (m : PySem.Str → Option Value) (s₁ : Shared) (I : Addr) (oI : Obj) (C : Addr) (oC : Obj) (D : Addr) (oD : Obj) (cx : Addr) (ox : Obj) (rest : Value → List (Addr × Obj) → Prop) (y : Value) (s₂ : Shared) : Prop :=
  ∃ h' tk nx, s₂ = { s₁ with heap := h', toks := tk } ∧ Fr h₀ L h' m ∧ News h₀ L h' ((I, oI) :: (C, oC) :: (D, oD) :: (cx, ox) :: nx) ∧ Apart4 I C D cx nx ∧ rest y nx
section
variable {prog : Program} {w : World} {A : Around} {E : Value → Shared → Prop} {s : Shared} {h₀ : Heap} {L : Addr} {m : PySem.Str → Option Value} {env : Env}
theorem block_C {elt iter : Expr} {x : PySem.Str} {px : Pos} {scope : Scope} {cl : List (PySem.Str × Addr)} {pos : Pos} {I : Addr} {n : Nat} {news : List (Addr × Obj)} {RR : Value → Addr → Result → Shared → Prop} (hh : A.handled = none)
    (hsz : n ≤ sizeLine) (hone : ∀ n acc, cellsFrom n scope.names acc = (x, n) :: acc) (hpush : ∀ h, pushCells h scope.names = h.push noCell) (hkind : scope.kind = .function) (hx : ∀ C c, (compEnvC scope ((x, c) :: cl) C env).kindOf x = some .cell)
    (hst : IsRangeIter s.heap I (0 + (0 : Nat) * 1) ((n : Int) - (0 : Nat)) 1) (F : Fr h₀ L s.heap m) (N : News h₀ L s.heap news) (hIL : L ≠ I) (hI₀ : h₀.get? I = none) (off : ∀ p ∈ news, p.1 ≠ I)
    (J : Nat → List Value → List (Addr × Obj) → Prop) (hJ : J 0 [] news)
    (turn : ∀ i ys nx I oI C oC D cx ox t h tk (E' : Value → Shared → Prop), i < n → J i ys nx → ox.data = .cell (some (.int ((i : Nat) : Int) t)) → Fr h₀ L h m → News h₀ L h ((I, oI) :: (C, oC) :: (D, LCg.lst ys) :: (cx, ox) :: nx) → Apart4 I C D cx nx →
      wpAny (model prog w) A (eval elt (compEnvC scope ((x, cx) :: cl) C env)) (CEndC h₀ L m { s with heap := h, toks := tk } I oI C oC D (LCg.lst ys) cx ox (fun y nx' => J (i + 1) (ys ++ [y]) nx')) E' { s with heap := h, toks := tk })
    (hRR : ∀ D C h tk m' ys nx, Fr h₀ L h m → News h₀ L h ((D, LCg.lst ys) :: nx) → h.Ns C m' → h₀.get? C = none → C ≠ L → C ≠ D → (∀ p ∈ nx, p.1 ≠ C) → J n ys nx → RR (.ref D) C (.ok .next) { s with heap := h, toks := tk }) :
    wpAny (model prog w) A (newList []) (fun acc s₃ => wpAny (model prog w) A (newFunctionEnv scope env.globals cl [] env.qual none .none (some env)) (fun cenv s₄ =>
      codeAny (model prog w) A (.compStart (.ListComp elt [⟨.Name x px, iter, [], 0⟩] scope pos) 0 (.ref I) acc { cenv with scope := relabel scope env }) (RR acc cenv.locals) s₄) E s₃) E s := by
  refine wpAny_newObj_type (newEnvC hone hpush ?_)
  dsimp only
  have hIlt : I < s.heap.objs.size := Heap.lt_size hst
  have hLlt : L < s.heap.objs.size := F.ns.lt
  have z1 : (s.heap.push (LCg.lst [])).objs.size = s.heap.objs.size + 1 := Heap.size_push ..
  have z2 : ((s.heap.push (LCg.lst [])).push { cls := .type "dict", data := .dict #[] }).objs.size = s.heap.objs.size + 1 + 1 := by rw [Heap.size_push, z1]
  have e1 : s.heap.push { cls := .type "list", dict := none, data := .seq ([] : List Value).toArray } = s.heap.push (LCg.lst []) := rfl
  rw [e1, z1]
  generalize hD : s.heap.objs.size = D at *
  have fresh₀ : ∀ a, D ≤ a → h₀.get? a = none := fun a ha => by
    cases e : h₀.get? a with
    | none => rfl
    | some o' => exact absurd (Heap.lt_size (F.keep a o' e)) (by rw [hD]; exact Nat.not_lt.mpr ha)
  have up : ∀ b o, s.heap.get? b = some o → (((s.heap.push (LCg.lst [])).push { cls := .type "dict", data := .dict #[] }).push noCell).get? b = some o := fun b o e => Heap.get?_push_of_some _ (Heap.get?_push_of_some _ (Heap.get?_push_of_some _ e))
  have gD : (((s.heap.push (LCg.lst [])).push { cls := .type "dict", data := .dict #[] }).push noCell).get? D = some (LCg.lst []) := Heap.get?_push_of_some _ (Heap.get?_push_of_some _ (by rw [← hD]; exact Heap.get?_push_size _ rfl))
  have gC : (((s.heap.push (LCg.lst [])).push { cls := .type "dict", data := .dict #[] }).push noCell).get? (D + 1) = some { cls := .type "dict", data := .dict #[] } := Heap.get?_push_of_some _ (by rw [← z1]; exact Heap.get?_push_size _ rfl)
  have gx : (((s.heap.push (LCg.lst [])).push { cls := .type "dict", data := .dict #[] }).push noCell).get? (D + 1 + 1) = some noCell := by rw [← z2]; exact Heap.get?_push_size _ rfl
  have hstH : IsRangeIter (((s.heap.push (LCg.lst [])).push { cls := .type "dict", data := .dict #[] }).push noCell) I (0 + (0 : Nat) * 1) ((n : Int) - (0 : Nat)) 1 := up _ _ hst
  generalize hH : ((s.heap.push (LCg.lst [])).push { cls := .type "dict", data := .dict #[] }).push noCell = H at *
  have W := LCg.range_walks (prog := prog) (w := w) (A := A) (I := I) hh 0 n
  have hDL : D ≠ L := Nat.ne_of_gt hLlt
  have hCL : D + 1 ≠ L := Nat.ne_of_gt (Nat.lt_succ_of_lt hLlt)
  have hxL : D + 1 + 1 ≠ L := Nat.ne_of_gt (Nat.lt_succ_of_lt (Nat.lt_succ_of_lt hLlt))
  have hDI : D ≠ I := Nat.ne_of_gt hIlt
  have hCI : D + 1 ≠ I := Nat.ne_of_gt (Nat.lt_succ_of_lt hIlt)
  have hxI : D + 1 + 1 ≠ I := Nat.ne_of_gt (Nat.lt_succ_of_lt (Nat.lt_succ_of_lt hIlt))
  have hDC : D ≠ D + 1 := Nat.ne_of_lt (Nat.lt_succ_self _)
  have hDx : D ≠ D + 1 + 1 := Nat.ne_of_lt (Nat.lt_succ_of_lt (Nat.lt_succ_self _))
  have hCx : D + 1 ≠ D + 1 + 1 := Nat.ne_of_lt (Nat.lt_succ_self _)
  have hD₀ := fresh₀ D (Nat.le_refl _)
  have hC₀ := fresh₀ (D + 1) (Nat.le_succ _)
  have hx₀ := fresh₀ (D + 1 + 1) (Nat.le_succ_of_le (Nat.le_succ _))
  have hCn : H.Ns (D + 1) (fun _ => none) := ⟨_, #[], _, gC, rfl, (fun e he => by simp at he), fun name => rfl⟩
  have loop : codeAny (model prog w) A (.compLoop (.ListComp elt [⟨.Name x px, iter, [], 0⟩] scope pos) 0 (.ref I) (.ref D) (compEnvC scope ((x, D + 1 + 1) :: cl) (D + 1) env)) (RR (.ref D) (D + 1)) { s with heap := H } := by
    refine codeAny_compLoop_tests
      (fun k s' => ∃ h' tk i ys m' nx ox, s' = { s with heap := h', toks := tk } ∧ i ≤ n ∧ k = n + 1 - i ∧ ys.length = i ∧ IsRangeIter h' I (0 + (i : Nat) * 1) ((n : Int) - (i : Nat)) 1 ∧ Fr h₀ L h' m ∧ h'.Ns (D + 1) m' ∧
        News h₀ L h' ((D, LCg.lst ys) :: (D + 1 + 1, ox) :: nx) ∧ Apart4 I (D + 1) D (D + 1 + 1) nx ∧ (∃ v0, ox.data = .cell v0) ∧ J i ys nx) ?_ (n + 1)
      ⟨H, _, 0, [], _, news, noCell, rfl, Nat.zero_le _, rfl, rfl, hstH, F.keeps up, hCn, ?_, ?_, ⟨_, rfl⟩, hJ⟩
    · intro k s' qq1
      refine hideG fun Gx hG => ?_
      obtain ⟨h', tk, i, ys, m', nx, ox, rfl, hi, rfl, hyl, hst', F', hn', N', ap, ⟨v0, hox⟩, hj⟩ := qq1
      refine hG ?_
      clear hG
      have apI : ∀ p ∈ (D, LCg.lst ys) :: (D + 1 + 1, ox) :: nx, p.1 ≠ I := fun p hp => by
        rcases List.mem_cons.mp hp with rfl | hp
        · exact hDI
        · rcases List.mem_cons.mp hp with rfl | hp
          · exact hxI
          · exact (ap p hp).1
      by_cases hlt : i < n
      · refine W.item i _ _ _ hlt hst' fun v h₂ tk₂ hPv hst₂ hk₂ => ?_
        obtain ⟨t, rfl⟩ := hPv
        rw [Int.zero_add]
        have N₂ : News h₀ L h₂ ((D, LCg.lst ys) :: (D + 1 + 1, ox) :: nx) := LCg.news_but N' hk₂ apI
        have F₂ : Fr h₀ L h₂ m := LCg.fr_but F' hk₂ hIL hI₀
        have hn₂ : h₂.Ns (D + 1) m' := hn'.at' fun o e => hk₂ _ o (by simpa using hCI) e
        have zc := (N₂ (D + 1 + 1, ox) (.tail _ (.head _))).1
        refine wpAny_assign_Name (wpAny_storeName_cell (c := D + 1 + 1) (by simp [compEnvC, relabel, hkind]) (hx _ _) (by simp [compEnvC]) ⟨ox, zc, hox⟩ fun h₃ hv hs => ?_)
        obtain ⟨ox', hox', hd'⟩ := hv
        refine wpAny_tests_nil ?_
        simp only [if_true]
        have F₃ : Fr h₀ L h₃ m := F₂.change hs hxL hx₀
        have hn₃ : h₃.Ns (D + 1) m' := hn₂.sameBut hs hCx
        have hst₃ : IsRangeIter h₃ I (0 + ((i + 1 : Nat) : Int) * 1) ((n : Int) - ((i + 1 : Nat) : Int)) 1 := hs.extBut _ _ (Ne.symm hxI) hst₂
        obtain ⟨oC, heC, hoC⟩ := LCg.ns_obj hn₃
        have N₃ : News h₀ L h₃ ((I, _) :: (D + 1, oC) :: (D, LCg.lst ys) :: (D + 1 + 1, ox') :: nx) := fun p hp => by
          rcases List.mem_cons.mp hp with rfl | hp
          · exact ⟨hst₃, Ne.symm hIL, hI₀⟩
          · rcases List.mem_cons.mp hp with rfl | hp
            · exact ⟨heC, hCL, hC₀⟩
            · rcases List.mem_cons.mp hp with rfl | hp
              · have z := N₂ _ (List.mem_cons_self ..)
                exact ⟨hs.extBut _ _ hDx z.1, z.2⟩
              · rcases List.mem_cons.mp hp with rfl | hp
                · exact ⟨hox', hxL, hx₀⟩
                · have z := N₂ p (.tail _ (.tail _ hp))
                  exact ⟨hs.extBut _ _ (ap p hp).2.2.2 z.1, z.2⟩
        refine wpAny_mono (turn i ys nx I _ (D + 1) oC D (D + 1 + 1) ox' t h₃ _ _ hlt hj hd' F₃ N₃ ap) (fun y s₄ h₄ => ?_) fun _ _ e => e
        obtain ⟨h₄, tk₄, nx₄, rfl, F₄, N₄, ap₄, hj₄⟩ := h₄
        have zI := (N₄ _ (.head _)).1
        have zC := (N₄ (D + 1, oC) (.tail _ (.head _))).1
        have zD := (N₄ (D, LCg.lst ys) (.tail _ (.tail _ (.head _)))).1
        have zx := N₄ (D + 1 + 1, ox') (.tail _ (.tail _ (.tail _ (.head _))))
        refine append_at (hsz := by show ys.toArray.size ≤ sizeLine; rw [List.size_toArray, hyl]; exact Nat.le_trans hi hsz) zD fun h₅ hs₅ hD₅ => ?_
        refine ⟨n + 1 - (i + 1), by omega, h₅, tk₄, i + 1, ys ++ [y], _, nx₄, ox', rfl, hlt, rfl, by rw [List.length_append, List.length_singleton, hyl], hs₅.extBut _ _ (Ne.symm hDI) zI, F₄.change hs₅ hDL hD₀, (hoC.ns zC).sameBut hs₅ (Ne.symm hDC), fun p hp => ?_, ap₄, ⟨_, hd'⟩, hj₄⟩
        rcases List.mem_cons.mp hp with rfl | hp
        · exact ⟨hD₅.trans (congrArg some (LCg.lst_snoc ys y)), hDL, hD₀⟩
        · rcases List.mem_cons.mp hp with rfl | hp
          · exact ⟨hs₅.extBut _ _ (Ne.symm hDx) zx.1, zx.2⟩
          · have z := N₄ p (.tail _ (.tail _ (.tail _ (.tail _ hp))))
            exact ⟨hs₅.extBut _ _ (ap₄ p hp).2.2.1 z.1, z.2⟩
      · obtain rfl : i = n := Nat.le_antisymm hi (Nat.not_lt.mp hlt)
        refine W.done _ _ _ hst' fun h₂ tk₂ hk₂ => ?_
        have N₂ : News h₀ L h₂ ((D, LCg.lst ys) :: (D + 1 + 1, ox) :: nx) := LCg.news_but N' hk₂ apI
        exact hRR D (D + 1) h₂ tk₂ m' ys nx (LCg.fr_but F' hk₂ hIL hI₀) (kst_newsOf N₂ fun p hp => by
          rcases List.mem_cons.mp hp with rfl | hp
          · exact .head _
          · exact .tail _ (.tail _ hp)) (hn'.at' fun o e => hk₂ _ o (by simpa using hCI) e) hC₀ hCL (Ne.symm hDC) (fun p hp => (ap p hp).2.1) hj
    · intro p hp
      rcases List.mem_cons.mp hp with rfl | hp
      · exact ⟨gD, hDL, hD₀⟩
      · rcases List.mem_cons.mp hp with rfl | hp
        · exact ⟨gx, hxL, hx₀⟩
        · exact ⟨up _ _ (N p hp).1, (N p hp).2⟩
    · intro p hp
      have := Heap.lt_size (N p hp).1
      rw [hD] at this
      exact ⟨off p hp, Nat.ne_of_lt (Nat.lt_succ_of_lt this), Nat.ne_of_lt this, Nat.ne_of_lt (Nat.lt_succ_of_lt (Nat.lt_succ_of_lt this))⟩
  exact codeAny_compStart_list loop (W.self 0 _ _ _ hstH loop)
end
noncomputable def TurnC (prog : Program) (w : World) (A : Around) (h₀ : Heap) (L : Addr) (m : PySem.Str → Option Value) (env : Env) (elt : Expr) (x : PySem.Str) (scope : Scope) (cl : List (PySem.Str × Addr)) (s : Shared) (n : Nat) (J : Nat → List Value → List (Addr × Obj) → Prop) : Prop :=
  ∀ i ys nx I oI C oC D cx ox t h tk (E' : Value → Shared → Prop), i < n → J i ys nx → ox.data = .cell (some (.int ((i : Nat) : Int) t)) → Fr h₀ L h m → News h₀ L h ((I, oI) :: (C, oC) :: (D, LCg.lst ys) :: (cx, ox) :: nx) → Apart4 I C D cx nx →
      wpAny (model prog w) A (eval elt (compEnvC scope ((x, cx) :: cl) C env)) (CEndC h₀ L m { s with heap := h, toks := tk } I oI C oC D (LCg.lst ys) cx ox (fun y nx' => J (i + 1) (ys ++ [y]) nx')) E' { s with heap := h, toks := tk }
noncomputable def SrcC (prog : Program) (w : World) (A : Around) (h₀ : Heap) (L : Addr) (m : PySem.Str → Option Value) (env : Env) (elt : Expr) (x : PySem.Str) (scope : Scope) (cl : List (PySem.Str × Addr)) (Q : Value → Shared → Prop) (xv : Value) (s₁ : Shared) : Prop :=
  ∃ r n t u v news J, xv = .ref r ∧ A.handled = none ∧ Fr h₀ L s₁.heap m ∧ News h₀ L s₁.heap news ∧ IsRange s₁.heap r 0 ((n : Nat) : Int) 1 t u v ∧ n ≤ 1000 ∧ J 0 [] news ∧ (∀ h, TurnC prog w A h₀ L m env elt x scope cl { s₁ with heap := h } n J) ∧
    (∀ h₉ ys nx, J n ys nx → ∀ D h tk, Fr h₀ L h m → News h₀ L h ((D, LCg.lst ys) :: nx) → Q (.ref D) { { s₁ with heap := h₉ } with heap := h, toks := tk })
theorem ListComp_C {prog : Program} {w : World} {A : Around} {E : Value → Shared → Prop} {s : Shared} {h₀ : Heap} {L : Addr} {m : PySem.Str → Option Value} {env : Env} {elt iter : Expr} {x : PySem.Str} {px : Pos} {scope : Scope} {cl : List (PySem.Str × Addr)} {pos : Pos} {Q : Value → Shared → Prop} (_ : Fr h₀ L s.heap m)
    (hclos : closureFor scope env = pure cl) (hkind : scope.kind = .function) (hnames : ∀ y ∈ scope.names, y.2 = .local → scope.names.lookup y.1 = some .local)
    (hone : ∀ n acc, cellsFrom n scope.names acc = (x, n) :: acc) (hpush : ∀ h, pushCells h scope.names = h.push noCell) (hx : ∀ C c, (compEnvC scope ((x, c) :: cl) C env).kindOf x = some .cell)
    (h : wpAny (model prog w) A (eval iter env) (SrcC prog w A h₀ L m env elt x scope cl Q) E s)
    (hs : ∀ x, foldedSetIterable iter env x = pure x) :
    wpAny (model prog w) A (eval (.ListComp elt [⟨.Name x px, iter, [], 0⟩] scope pos) env) Q E s := by
  rw [eval_ListComp]
  refine wpAny_comprehension_free (use := none) rfl hs hclos hkind hnames (wpAny_mono h (fun xv s₁ h₁ => ?_) fun _ _ e => e)
  refine hideG fun Gx hG => ?_
  obtain ⟨r, n, t, u, v, news, J, rfl, hh, F, N, hr, hn, hJ, turn, fin⟩ := h₁
  refine hG ?_
  clear hG
  refine wpAny_pyIter_range hr (small_0 (by omega) (by omega)) ?_
  refine block_C hh (Nat.le_trans hn (by decide)) hone hpush hkind hx (by show IsRangeIter _ _ _ _ _; rw [range_to (n := n) rfl]; simpa using Heap.get?_push_size _ rfl) (F.keeps fun _ _ e => Heap.get?_push_of_some _ e) (N.grown fun _ _ e => Heap.get?_push_of_some _ e) (Nat.ne_of_lt F.ns.lt) (next_is_new F) (fun p hp => Nat.ne_of_lt (Heap.lt_size (N p hp).1)) J hJ (turn _) ?_
  intro D C h' tk m' ys nx F' N' hnC hC₀ hCL hCD offC hj
  refine ⟨m', hnC, fun h'' hs'' => fin s₁.heap ys nx hj D h'' tk (F'.change hs'' hCL hC₀) (fun p hp => ?_)⟩
  refine ⟨hs''.extBut _ _ ?_ (N' p hp).1, (N' p hp).2⟩
  rcases List.mem_cons.mp hp with rfl | hp
  · exact Ne.symm hCD
  · exact offC p hp
noncomputable def SrcCA (prog : Program) (w : World) (A : Around) (h₀ : Heap) (L : Addr) (m : PySem.Str → Option Value) (env : Env) (elt : Expr) (x : PySem.Str) (scope : Scope) (cl : List (PySem.Str × Addr)) (y : PySem.Str) (Q : Flow → Shared → Prop) (xv : Value) (s₁ : Shared) : Prop :=
  ∃ r n t u v news J, xv = .ref r ∧ A.handled = none ∧ Fr h₀ L s₁.heap m ∧ News h₀ L s₁.heap news ∧ IsRange s₁.heap r 0 ((n : Nat) : Int) 1 t u v ∧ n ≤ 1000 ∧ J 0 [] news ∧ (∀ h, TurnC prog w A h₀ L m env elt x scope cl { s₁ with heap := h } n J) ∧
    (∀ h₉ ys nx, J n ys nx → ∀ D h tk, Fr h₀ L h (fun z => if z = y then some (.ref D) else m z) → News h₀ L h ((D, LCg.lst ys) :: nx) → Q .next { { s₁ with heap := h₉ } with heap := h, toks := tk })
theorem Assign_ListComp_C {prog : Program} {w : World} {A : Around} {E : Value → Shared → Prop} {s : Shared} {h₀ : Heap} {L : Addr} {m : PySem.Str → Option Value} {env : Env} {elt iter : Expr} {x y : PySem.Str} {px py : Pos} {scope : Scope} {cl : List (PySem.Str × Addr)} {pos spos : Pos} {Q : Flow → Shared → Prop} (_ : Fr h₀ L s.heap m) (hLe : env.locals = L)
    (hsw : swapsWith (.ListComp elt [⟨.Name x px, iter, [], 0⟩] scope pos) (some (.Name y py)) spos.line env = pure true)
    (hclos : closureFor scope env = pure cl) (hkind : scope.kind = .function) (hnames : ∀ y ∈ scope.names, y.2 = .local → scope.names.lookup y.1 = some .local)
    (hone : ∀ n acc, cellsFrom n scope.names acc = (x, n) :: acc) (hpush : ∀ h, pushCells h scope.names = h.push noCell) (hx : ∀ C c, (compEnvC scope ((x, c) :: cl) C env).kindOf x = some .cell)
    (hy : env.kindOf y = some .local) (hp : (env.scope.kind == .class || (env.scope.kind == .module && env.locals != env.globals)) = false)
    (h : wpAny (model prog w) A (eval iter env) (SrcCA prog w A h₀ L m env elt x scope cl y Q) E s)
    (hs : ∀ x, foldedSetIterable iter env x = pure x) :
    wpAny (model prog w) A (exec (.Assign [.Name y py] (.ListComp elt [⟨.Name x px, iter, [], 0⟩] scope pos) spos) env) Q E s := by
  subst hLe
  rw [exec_Assign_Name_used _ _ _ _ hsw]
  refine wpAny_bind (wpAny_standAt (wpAny_bind ?_))
  show wpAny _ A (do let _ ← comprehension (.ListComp elt [⟨.Name x px, iter, [], 0⟩] scope pos) scope env _ (newList []) false (eval iter env) (some (assign (.Name y py) env))) _ _ s
  refine wpAny_bind (wpAny_mono (wpAny_comprehension_free (use := some (assign (.Name y py) env)) (Q := fun _ s' => Q .next s') rfl hs hclos hkind hnames
    (wpAny_mono h (fun xv s₁ h₁ => ?_) fun _ _ e => e)) (fun _ s' hq => wpAny_pure (wpAny_pure hq)) fun _ _ e => e)
  refine hideG fun Gx hG => ?_
  obtain ⟨r, n, t, u, v, news, J, rfl, hh, F, N, hr, hn, hJ, turn, fin⟩ := h₁
  refine hG ?_
  clear hG
  refine wpAny_pyIter_range hr (small_0 (by omega) (by omega)) ?_
  refine block_C hh (Nat.le_trans hn (by decide)) hone hpush hkind hx (by show IsRangeIter _ _ _ _ _; rw [range_to (n := n) rfl]; simpa using Heap.get?_push_size _ rfl) (F.keeps fun _ _ e => Heap.get?_push_of_some _ e) (N.grown fun _ _ e => Heap.get?_push_of_some _ e) (Nat.ne_of_lt F.ns.lt) (next_is_new F) (fun p hp => Nat.ne_of_lt (Heap.lt_size (N p hp).1)) J hJ (turn _) ?_
  intro D C h' tk m' ys nx F' N' hnC hC₀ hCL hCD offC hj
  show wpAny _ A (assign (.Name y py) env (.ref D)) _ _ _
  refine wpAny_assign_Name (wpAny_storeName_local hy F'.ns (fun h₂ hn₂ hs₂ => ?_) hp)
  have F₂ : Fr h₀ env.locals h₂ (fun z => if z = y then some (.ref D) else m z) := F'.set hn₂ hs₂
  have N₂ : News h₀ env.locals h₂ ((D, LCg.lst ys) :: nx) := N'.set hs₂
  refine ⟨m', hnC.sameBut hs₂ hCL, fun h'' hs'' => fin s₁.heap ys nx hj D h'' _ (F₂.change hs'' hCL hC₀) (fun p hp => ?_)⟩
  refine ⟨hs''.extBut _ _ ?_ (N₂ p hp).1, (N₂ p hp).2⟩
  rcases List.mem_cons.mp hp with rfl | hp
  · exact Ne.symm hCD
  · exact offC p hp

-- l2_pure
theorem ne_cons {a : Addr} {z : Addr × Obj} {l : List (Addr × Obj)} (h : @Ne Nat z.1 a) (k : ∀ y ∈ l, @Ne Nat y.1 a) : ∀ y ∈ z :: l, @Ne Nat y.1 a := by
  intro y hy
  rcases List.mem_cons.mp hy with rfl | hy
  · exact h
  · exact k y hy
theorem ne_nil {a : Addr} : ∀ y ∈ ([] : List (Addr × Obj)), @Ne Nat y.1 a := fun _ h => nomatch h
theorem sub_cons {α : Type} {a : α} {l l' : List α} (h : a ∈ l') (k : ∀ z ∈ l, z ∈ l') : ∀ z ∈ a :: l, z ∈ l' := by
  intro z hz
  rcases List.mem_cons.mp hz with rfl | hz
  · exact h
  · exact k z hz
theorem sub_nil {α : Type} {l' : List α} : ∀ z ∈ ([] : List α), z ∈ l' := fun _ h => nomatch h
/-- one list's items and what they stand for -/
noncomputable def AllIn {α : Type} (R : Value → α → Prop) : List Value → List α → Prop
  | [], [] => True
  | v :: vs, x :: xs => R v x ∧ AllIn R vs xs
  | _, _ => False
theorem AllIn.mono {α : Type} {R R' : Value → α → Prop} (h : ∀ v x, R v x → R' v x) : ∀ {vs : List Value} {xs : List α}, AllIn R vs xs → AllIn R' vs xs
  | [], [], _ => trivial
  | _ :: _, _ :: _, q => ⟨h _ _ q.1, AllIn.mono h q.2⟩
  | [], _ :: _, q => q.elim
  | _ :: _, [], q => q.elim
theorem AllIn.snoc {α : Type} {R : Value → α → Prop} {v : Value} {x : α} (hv : R v x) : ∀ {vs : List Value} {xs : List α}, AllIn R vs xs → AllIn R (vs ++ [v]) (xs ++ [x])
  | [], [], _ => ⟨hv, trivial⟩
  | _ :: _, _ :: _, q => ⟨q.1, AllIn.snoc hv q.2⟩
  | [], _ :: _, q => q.elim
  | _ :: _, [], q => q.elim
theorem AllIn.len {α : Type} {R : Value → α → Prop} : ∀ {vs : List Value} {xs : List α}, AllIn R vs xs → vs.length = xs.length
  | [], [], _ => rfl
  | _ :: _, _ :: _, q => by simp only [List.length_cons, AllIn.len q.2]
  | [], _ :: _, q => q.elim
  | _ :: _, [], q => q.elim
theorem AllIn.get {α : Type} {R : Value → α → Prop} : ∀ {vs : List Value} {xs : List α} {i : Nat} {x : α}, AllIn R vs xs → xs[i]? = some x → ∃ v, vs[i]? = some v ∧ R v x
  | [], [], i, x, _, e => by simp at e
  | v :: _, _ :: _, 0, x, q, e => ⟨v, rfl, by have : _ = x := Option.some.inj e; exact this ▸ q.1⟩
  | _ :: vs, _ :: xs, i + 1, x, q, e => AllIn.get (vs := vs) (xs := xs) q.2 e
  | [], _ :: _, _, _, q, _ => q.elim
  | _ :: _, [], _, _, q, _ => q.elim
theorem AllIn.getV {α : Type} {R : Value → α → Prop} : ∀ {vs : List Value} {xs : List α} {i : Nat} {v : Value}, AllIn R vs xs → vs[i]? = some v → ∃ x, xs[i]? = some x ∧ R v x
  | [], [], i, x, _, e => by simp at e
  | _ :: _, x :: _, 0, v, q, e => ⟨x, rfl, by have : _ = v := Option.some.inj e; exact this ▸ q.1⟩
  | _ :: vs, _ :: xs, i + 1, v, q, e => AllIn.getV (vs := vs) (xs := xs) q.2 e
  | [], _ :: _, _, _, q, _ => q.elim
  | _ :: _, [], _, _, q, _ => q.elim
theorem take_snoc {α : Type} {l : List α} {i : Nat} {x : α} (h : l[i]? = some x) : l.take (i + 1) = l.take i ++ [x] := by simp [List.take_add_one, h]
/-- no cell is among them -/
noncomputable def isCell (o : Obj) : Bool := match o.data with | .cell _ => true | _ => false
noncomputable def NCell (R : List (Addr × Obj)) : Prop := ∀ z ∈ R, isCell z.2 = false
noncomputable def noC (R : List (Addr × Obj)) : List (Addr × Obj) := R.filter fun z => !isCell z.2
theorem noC_ncell (R : List (Addr × Obj)) : NCell (noC R) := fun z hz => by simpa using (List.mem_filter.mp hz).2
theorem noC_sub {R : List (Addr × Obj)} : ∀ z ∈ noC R, z ∈ R := fun z hz => (List.mem_filter.mp hz).1
theorem noC_mem {R : List (Addr × Obj)} {z : Addr × Obj} (h : z ∈ R) (hc : isCell z.2 = false) : z ∈ noC R := List.mem_filter.mpr ⟨h, by rw [hc]; rfl⟩
theorem NCell.app {A B : List (Addr × Obj)} (a : NCell A) (b : NCell B) : NCell (A ++ B) := fun z hz => (List.mem_append.mp hz).elim (a z) (b z)
theorem NCell.cons {z : Addr × Obj} {B : List (Addr × Obj)} (a : isCell z.2 = false) (b : NCell B) : NCell (z :: B) := fun y hy => by
  rcases List.mem_cons.mp hy with rfl | hy
  · exact a
  · exact b y hy
theorem KnownIn.noC {w : World} {R : List (Addr × Obj)} {v : Value} {t b : Nat} (h : KnownIn w R v t b) : KnownIn w (noC R) v t b := by
  have hw : ∀ x p q, WsAt w R x p q → WsAt w (Mine.noC R) x p q := fun x p q ⟨dx, nm, ct, y, cs, T, hc, h⟩ => ⟨dx, nm, ct, y, cs, T, hc, fun z hz => noC_mem (h z hz) (by
    simp only [wsObjs, List.mem_cons, List.not_mem_nil, or_false] at hz
    rcases hz with rfl | rfl | rfl | rfl <;> rfl)⟩
  obtain ⟨D, x1, x2, k1, k2, k3, e, hm, h1, h2⟩ := h
  exact ⟨D, x1, x2, k1, k2, k3, e, noC_mem hm rfl, hw _ _ _ h1, hw _ _ _ h2⟩
section
variable {prog : Program} {w : World} {A : Around} {E : Value → Shared → Prop} {Q : Flow → Shared → Prop} {s : Shared} {env : Env} {st : Stmt} {rest : List Stmt}
/-- a cut between two statements: what holds of the heap -/
theorem execs_cut (I : Heap → Prop) (h1 : wpAny (model prog w) A (exec st env) (fun f s₂ => f = .next ∧ ∃ h tk, s₂ = { s with heap := h, toks := tk } ∧ I h) E s)
    (h2 : ∀ h tk, I h → wpAny (model prog w) A (execs rest env) Q E { s with heap := h, toks := tk }) : wpAny (model prog w) A (execs (st :: rest) env) Q E s := by
  refine wpAny_execs_cons (wpAny_mono h1 (fun f s₂ p => ?_) fun _ _ x => x)
  obtain ⟨rfl, h, tk, rfl, hI⟩ := p
  exact h2 h tk hI
end
/-- the turns of a block, by what holds between them -/
theorem comp_ind {prog : Program} {w : World} {A : Around} {h₀ : Heap} {L : Addr} {m : PySem.Str → Option Value} {env : Env} {elt : Expr} {x : PySem.Str} {scope : Scope} {cl : List (PySem.Str × Addr)} {s : Shared} {S : List (Addr × Obj) → Prop} {P : Nat → Value → Prop} {Fin : List Value → List (Addr × Obj) → Prop} {n : Nat} {news : List (Addr × Obj)}
    (J : Nat → List Value → List (Addr × Obj) → Prop) (hJ : J 0 [] news)
    (turn : ∀ i ys nx v I oI C oC D m₂ h tk (E' : Value → Shared → Prop), i < n → J i ys nx → P i v → LCg.NsObj oC m₂ → m₂ x = some v → Fr h₀ L h m → News h₀ L h ((I, oI) :: (C, oC) :: (D, LCg.lst ys) :: nx) → LCg.Off3 I C D nx → ((@Ne Nat I C) ∧ (@Ne Nat I D) ∧ (@Ne Nat C D)) →
      wpAny (model prog w) A (eval elt (compEnvC scope cl C env)) (LCg.CompEnd h₀ L m { s with heap := h, toks := tk } I oI C oC D (LCg.lst ys) S (fun y nx' => J (i + 1) (ys ++ [y]) nx')) E' { s with heap := h, toks := tk })
    (fin : ∀ ys nx, J n ys nx → Fin ys nx) : LCg.CompRest prog w A h₀ L m env elt x scope cl s S P Fin n 0 [] news := by
  have key : ∀ k i ys nx, i + k = n → J i ys nx → LCg.CompRest prog w A h₀ L m env elt x scope cl s S P Fin k i ys nx := by
    intro k
    induction k with
    | zero =>
      intro i ys nx e hj
      obtain rfl : i = n := by omega
      exact LCg.CompRest.zero (fin ys nx hj)
    | succ k ih =>
      intro i ys nx e hj
      refine LCg.CompRest.succ fun v I oI C oC D m₂ h tk E' hP hC hx F N off ne => ?_
      refine wpAny_mono (turn i ys nx v I oI C oC D m₂ h tk E' (by omega) hj hP hC hx F N off ne) (fun y s₂ p => ?_) fun _ _ e => e
      obtain ⟨h', tk', nx', e', F', N', off', hS, hj'⟩ := p
      exact ⟨h', tk', nx', e', F', N', off', hS, ih (i + 1) _ _ (by omega) hj'⟩
  exact key n 0 [] news (by omega) hJ
section
variable {prog : Program} {w : World} {A : Around} {E : Value → Shared → Prop} {Q : Flow → Shared → Prop} {s : Shared} {env : Env} {st : Stmt} {rest : List Stmt} {h₀ : Heap} {L : Addr} {m : PySem.Str → Option Value} {news : List (Addr × Obj)}
theorem execs_cutF (I : Heap → Addr → (PySem.Str → Option Value) → List (Addr × Obj) → Heap → Prop) (_ : Fr h₀ L s.heap m) (_ : News h₀ L s.heap news) (h1 : wpAny (model prog w) A (exec st env) (fun f s₂ => f = .next ∧ ∃ h tk, s₂ = { s with heap := h, toks := tk } ∧ I h₀ L m news h) E s)
    (h2 : ∀ h tk, I h₀ L m news h → wpAny (model prog w) A (execs rest env) Q E { s with heap := h, toks := tk }) : wpAny (model prog w) A (execs (st :: rest) env) Q E s := execs_cut (I h₀ L m news) h1 h2
end
noncomputable def TupR (R : List (Addr × Obj)) (v : Value) (p : Nat × Nat) : Prop := ∃ D tx ty, v = .ref D ∧ (D, wsTup [.int (p.1 : Nat) tx, .int (p.2 : Nat) ty]) ∈ R
theorem TupR.mono {R R' : List (Addr × Obj)} (h : ∀ z ∈ R, z ∈ R') (v : Value) (p : Nat × Nat) (q : TupR R v p) : TupR R' v p := by
  obtain ⟨D, tx, ty, e, hm⟩ := q
  exact ⟨D, tx, ty, e, h _ hm⟩
noncomputable def toldL (ns : List Int) : List (Nat × Nat) := (ns.take 3 ++ [3, 16, 7]).map fun (x : Int) => (((x.fdiv 5).fmod 5).toNat, (x.fmod 5).toNat)
theorem fmod5 (x : Int) : 0 ≤ x.fmod 5 ∧ x.fmod 5 < 5 := ⟨Int.fmod_nonneg_of_pos x (by decide), Int.fmod_lt_of_pos x (by decide)⟩
theorem told_lt {ns : List Int} {i : Nat} {p : Nat × Nat} (h : (toldL ns)[i]? = some p) : p.1 < 5 ∧ p.2 < 5 := by
  obtain ⟨x, _, rfl⟩ := List.mem_map.mp (List.mem_of_getElem? h)
  have h1 := fmod5 (x.fdiv 5)
  have h2 := fmod5 x
  dsimp only
  omega
theorem told_len (ns : List Int) : 3 ≤ (toldL ns).length ∧ (toldL ns).length ≤ 6 := by
  unfold toldL
  simp only [List.length_map, List.length_append, List.length_take, List.length_cons, List.length_nil]
  omega
theorem ints_get {vs : List Value} {ns : List Int} (h : IntsAre vs ns) {i : Nat} {v : Value} (e : vs[i]? = some v) : ∃ n t, v = .int n t ∧ ns[i]? = some n := by
  induction h generalizing i with
  | nil => simp at e
  | cons n t _ ih =>
    cases i with
    | zero => exact ⟨n, t, (Option.some.inj e).symm, rfl⟩
    | succ i => exact ih e
theorem told_get {ns : List Int} {i : Nat} {x : Int} (h : (ns.take 3 ++ [3, 16, 7])[i]? = some x) : (toldL ns)[i]? = some (((x.fdiv 5).fmod 5).toNat, (x.fmod 5).toNat) := by
  unfold toldL
  rw [List.getElem?_map, h]; rfl
theorem told_size {ns : List Int} {vs : List Value} (h : IntsAre vs (ns.take 3 ++ [3, 16, 7])) : (List.toArray vs).size = (toldL ns).length := by
  rw [List.size_toArray, h.length]; unfold toldL; rw [List.length_map]
theorem told_item {ns : List Int} {vs : List Value} {i : Nat} {v : Value} (h : IntsAre vs (ns.take 3 ++ [3, 16, 7])) (e : (List.toArray vs)[i]? = some v) : ∃ x t, v = .int x t ∧ (toldL ns)[i]? = some (((x.fdiv 5).fmod 5).toNat, (x.fmod 5).toNat) := by
  obtain ⟨x, t, e1, e2⟩ := ints_get h (i := i) (v := v) (by simpa using e)
  exact ⟨x, t, e1, told_get e2⟩
/-- the end of a turn with one new object in front -/
theorem cend_one {h₀ h' : Heap} {L I C D T : Addr} {m : PySem.Str → Option Value} {s₁ : Shared} {oI oC oD o : Obj} {S : List (Addr × Obj) → Prop} {rest : Value → List (Addr × Obj) → Prop} {y : Value} {tk : Nat} {cells R : List (Addr × Obj)}
    (F : Fr h₀ L h' m) (N : News h₀ L h' ((T, o) :: (I, oI) :: (C, oC) :: (D, oD) :: (cells ++ R))) (hlt : AllLt T ((I, oI) :: (C, oC) :: (D, oD) :: (cells ++ R))) (off : LCg.Off3 I C D (cells ++ R)) (hS : S (cells ++ ((T, o) :: R))) (r : rest y (cells ++ ((T, o) :: R))) :
    LCg.CompEnd h₀ L m s₁ I oI C oC D oD S rest y { s₁ with heap := h', toks := tk } := by
  have hl := kst_ltOf hlt
  refine LCg.CompEnd.intro F N (cells ++ ((T, o) :: R)) (fun p hp => ?_) (LCg.Off3.of fun p hp => ?_) hS r
  · simp only [List.mem_cons, List.mem_append] at hp ⊢
    rcases hp with hp | hp | hp | hp | hp | hp
    · exact .inr (.inl hp)
    · exact .inr (.inr (.inl hp))
    · exact .inr (.inr (.inr (.inl hp)))
    · exact .inr (.inr (.inr (.inr (.inl hp))))
    · exact .inl hp
    · exact .inr (.inr (.inr (.inr (.inr hp))))
  · have old := off.mem
    simp only [List.mem_cons, List.mem_append] at hp old
    rcases hp with hp | hp | hp
    · exact old p (.inl hp)
    · subst hp
      exact ⟨Nat.ne_of_gt (hl (I, oI) (.head _)), Nat.ne_of_gt (hl (C, oC) (.tail _ (.head _))), Nat.ne_of_gt (hl (D, oD) (.tail _ (.tail _ (.head _))))⟩
    · exact old p (.inr hp)
/-- the six cells of law -/
noncomputable def cellsL (L : Nat) (o1 o2 o3 o4 o5 o6 : Obj) : List (Addr × Obj) := [(L + 1 + 1 + 1 + 1 + 1 + 1, o1), (L + 1 + 1 + 1 + 1 + 1, o2), (L + 1 + 1 + 1 + 1, o3), (L + 1 + 1 + 1, o4), (L + 1 + 1, o5), (L + 1, o6)]
noncomputable abbrev rngO (n : Int) (t u v : Tok) : Obj := { cls := .type "range", dict := none, data := .fields #[.int 0 t, .int n u, .int 1 v], slots := #[] }
theorem range_led {prog : Program} {w : World} {A : Around} {E : Value → Shared → Prop} {s : Shared} {h₀ : Heap} {L : Addr} {m : PySem.Str → Option Value} {n : Int} {t : Tok} {news : List (Addr × Obj)} {Q : Value → Shared → Prop} (F : Fr h₀ L s.heap m) (N : News h₀ L s.heap news)
    (h : ∀ r h' tk t₁ u₁ v₁, Fr h₀ L h' m → News h₀ L h' ((r, rngO n t₁ u₁ v₁) :: news) → Q (.ref r) { s with heap := h', toks := tk }) : wpAny (model prog w) A (call (.type "range") [.int n t]) Q E s :=
  range1_rows F N fun h' tk t₁ u₁ v₁ hr F' N' _ => h _ h' tk t₁ u₁ v₁ F' fun p hp => by
    rcases List.mem_cons.mp hp with rfl | hp
    · exact ⟨hr, Nat.ne_of_gt F.ns.lt, next_is_new F⟩
    · exact N' p hp
theorem storeC {M : Model} {A : Around} {E : Value → Shared → Prop} {s : Shared} {h₀ : Heap} {L a : Addr} {m : PySem.Str → Option Value} {cn : PySem.Str} {cs : Scope} {ccd : Value} {cl : List (PySem.Str × Addr)} {x : PySem.Str} {v : Value} {Q : Unit → Shared → Prop} {all : List (Addr × Obj)} {c : Addr} {o : Obj} {v₀ : Option Value}
    (F : Fr h₀ L s.heap m) (N : News h₀ L s.heap all) (hc : cl.lookup x = some c) (hm : (c, o) ∈ all) (hd : o.data = .cell v₀) (rest : List (Addr × Obj)) (hr : ∀ z ∈ rest, z ∈ all ∧ z.1 ≠ c)
    (h : ∀ h' o', Fr h₀ L h' m → o'.data = .cell (some v) → News h₀ L h' ((c, o') :: rest) → Q () { s with heap := h' })
    (hk : cs.kind = .function := by rfl) (hx : (envX cn cs L a ccd cl).kindOf x = some .cell := by rfl) : wpAny M A (storeName (envX cn cs L a ccd cl) x v) Q E s := by
  have z := N _ hm
  refine wpAny_storeName_cell hk hx hc ⟨o, z.1, hd⟩ fun h' hv hs => ?_
  obtain ⟨o', ho', hd'⟩ := hv
  refine h h' o' (F.change hs z.2.1 z.2.2) hd' fun p hp => ?_
  rcases List.mem_cons.mp hp with rfl | hp
  · exact ⟨ho', z.2⟩
  · have q := N p (hr p hp).1
    exact ⟨hs.extBut _ _ (hr p hp).2 q.1, q.2⟩
theorem ncell_ne {h₀ h : Heap} {L : Addr} {all : List (Addr × Obj)} {c : Addr} {o : Obj} {x : Option Value} (N : News h₀ L h all) (hm : (c, o) ∈ all) (hd : o.data = .cell x) {z : Addr × Obj} (hz : z ∈ all) (hn : isCell z.2 = false) : z.1 ≠ c := by
  intro e
  have h1 := (N _ hm).1
  have h2 := (N _ hz).1
  rw [e] at h2
  have h3 := h1.symm.trans h2
  injection h3 with h3
  have : isCell o = true := by unfold isCell; rw [hd]
  have h4 : o = z.2 := h3
  rw [h4, hn] at this
  cases this
theorem storeCell {M : Model} {A : Around} {E : Value → Shared → Prop} {s : Shared} {h₀ : Heap} {L a : Addr} {m : PySem.Str → Option Value} {cn : PySem.Str} {cs : Scope} {ccd : Value} {cl : List (PySem.Str × Addr)} {x : PySem.Str} {v : Value} {Q : Unit → Shared → Prop} {pre post X R : List (Addr × Obj)} {c : Addr} {o : Obj} {v₀ : Option Value}
    (F : Fr h₀ L s.heap m) (N : News h₀ L s.heap (X ++ ((pre ++ (c, o) :: post) ++ R))) (hX : NCell X) (hR : NCell R) (hd : o.data = .cell v₀) (hne : ∀ z ∈ pre ++ post, z.1 ≠ c) (hc : cl.lookup x = some c)
    (h : ∀ h' o', Fr h₀ L h' m → o'.data = .cell (some v) → News h₀ L h' ((pre ++ (c, o') :: post) ++ (X ++ R)) → Q () { s with heap := h' })
    (hk : cs.kind = .function) (hx : (envX cn cs L a ccd cl).kindOf x = some .cell) : wpAny M A (storeName (envX cn cs L a ccd cl) x v) Q E s := by
  have hm : (c, o) ∈ X ++ ((pre ++ (c, o) :: post) ++ R) := List.mem_append_right _ (List.mem_append_left _ (List.mem_append_right _ (.head _)))
  refine storeC F N hc hm hd ((pre ++ post) ++ (X ++ R)) (fun z hz => ?_) (fun h' o' F' hd' N' => h h' o' F' hd' (kst_newsOf N' fun z hz => ?_)) hk hx
  · rcases List.mem_append.mp hz with hz | hz
    · refine ⟨List.mem_append_right _ (List.mem_append_left _ ?_), hne z hz⟩
      rcases List.mem_append.mp hz with hz | hz
      · exact List.mem_append_left _ hz
      · exact List.mem_append_right _ (.tail _ hz)
    · have hz' : z ∈ X ++ ((pre ++ (c, o) :: post) ++ R) := by
        rcases List.mem_append.mp hz with hz | hz
        · exact List.mem_append_left _ hz
        · exact List.mem_append_right _ (List.mem_append_right _ hz)
      exact ⟨hz', ncell_ne N hm hd hz' ((List.mem_append.mp hz).elim (hX z) (hR z))⟩
  · simp only [List.mem_append, List.mem_cons] at hz ⊢
    rcases hz with (hz | hz | hz) | hz | hz
    · exact .inr (.inl (.inl hz))
    · exact .inl hz
    · exact .inr (.inl (.inr hz))
    · exact .inr (.inr (.inl hz))
    · exact .inr (.inr (.inr hz))
/-- as comp_ind, for a block that unpacks pairs -/
theorem comp_indP {prog : Program} {w : World} {A : Around} {h₀ : Heap} {L : Addr} {m : PySem.Str → Option Value} {env : Env} {elt : Expr} {x x₂ : PySem.Str} {scope : Scope} {cl : List (PySem.Str × Addr)} {s : Shared} {S : List (Addr × Obj) → Prop} {P : Nat → Value → Prop} {Fin : List Value → List (Addr × Obj) → Prop} {n : Nat} {news : List (Addr × Obj)}
    (J : Nat → List Value → List (Addr × Obj) → Prop) (hJ : J 0 [] news)
    (turn : ∀ i ys nx v, i < n → J i ys nx → P i v → ∃ (t : Addr) (ot : Obj) (v₁ v₂ : Value) (nt : Nat), v = .ref t ∧ (t, ot) ∈ nx ∧ ot.cls = .type "tuple" ∧ ot.data = .seq #[v₁, v₂] nt ∧
      ∀ I oI C oC D m₂ h tk (E' : Value → Shared → Prop), LCg.NsObj oC m₂ → m₂ x = some v₁ → m₂ x₂ = some v₂ → Fr h₀ L h m → News h₀ L h ((I, oI) :: (C, oC) :: (D, LCg.lst ys) :: nx) → LCg.Off3 I C D nx → ((@Ne Nat I C) ∧ (@Ne Nat I D) ∧ (@Ne Nat C D)) →
      wpAny (model prog w) A (eval elt (compEnvC scope cl C env)) (LCg.CompEnd h₀ L m { s with heap := h, toks := tk } I oI C oC D (LCg.lst ys) S (fun y nx' => J (i + 1) (ys ++ [y]) nx')) E' { s with heap := h, toks := tk })
    (fin : ∀ ys nx, J n ys nx → Fin ys nx) : LCp.CompRestP prog w A h₀ L m env elt x x₂ scope cl s S P Fin n 0 [] news := by
  have key : ∀ k i ys nx, i + k = n → J i ys nx → LCp.CompRestP prog w A h₀ L m env elt x x₂ scope cl s S P Fin k i ys nx := by
    intro k
    induction k with
    | zero =>
      intro i ys nx e hj
      obtain rfl : i = n := by omega
      exact LCp.CompRestP.zero (fin ys nx hj)
    | succ k ih =>
      intro i ys nx e hj
      refine LCp.CompRestP.succ fun v hP => ?_
      obtain ⟨t, ot, v₁, v₂, nt, h1, h2, h3, h4, h5⟩ := turn i ys nx v (by omega) hj hP
      refine ⟨t, ot, v₁, v₂, nt, h1, h2, h3, h4, fun I oI C oC D m₂ h tk E' hC hx hx2 F N off ne => ?_⟩
      refine wpAny_mono (h5 I oI C oC D m₂ h tk E' hC hx hx2 F N off ne) (fun y s₂ p => ?_) fun _ _ e => e
      obtain ⟨h', tk', nx', e', F', N', off', hS, hj'⟩ := p
      exact ⟨h', tk', nx', e', F', N', off', hS, ih (i + 1) _ _ (by omega) hj'⟩
  exact key n 0 [] news (by omega) hJ
/-- the end of a turn that made new objects by a call -/
theorem cend_new {h₀ h h' : Heap} {L I C D : Addr} {m : PySem.Str → Option Value} {s₁ : Shared} {oI oC oD : Obj} {S : List (Addr × Obj) → Prop} {rest : Value → List (Addr × Obj) → Prop} {y : Value} {tk : Nat} {cells R objs : List (Addr × Obj)}
    (F : Fr h₀ L h m) (N : News h₀ L h ((I, oI) :: (C, oC) :: (D, oD) :: (cells ++ R))) (st : h.StaysIn h') (ho : ∀ p ∈ objs, h.get? p.1 = none ∧ h'.get? p.1 = some p.2) (off : LCg.Off3 I C D (cells ++ R)) (hS : S (cells ++ (objs ++ R))) (r : rest y (cells ++ (objs ++ R))) :
    LCg.CompEnd h₀ L m s₁ I oI C oC D oD S rest y { s₁ with heap := h', toks := tk } := by
  have N' := news_addA F N st ho
  refine LCg.CompEnd.intro (fr_stays F st) N' (cells ++ (objs ++ R)) (fun p hp => ?_) (LCg.Off3.of fun p hp => ?_) hS r
  · simp only [List.mem_cons, List.mem_append] at hp ⊢
    rcases hp with hp | hp | hp | hp | hp | hp
    · exact .inr (.inl hp)
    · exact .inr (.inr (.inl hp))
    · exact .inr (.inr (.inr (.inl hp)))
    · exact .inr (.inr (.inr (.inr (.inl hp))))
    · exact .inl hp
    · exact .inr (.inr (.inr (.inr (.inr hp))))
  · have old := off.mem
    simp only [List.mem_cons, List.mem_append] at hp old
    rcases hp with hp | hp | hp
    · exact old p (.inl hp)
    · have h0 := (ho p hp).1
      have ne : ∀ a o, (a, o) ∈ (I, oI) :: (C, oC) :: (D, oD) :: (cells ++ R) → p.1 ≠ a := fun a o hm e => by
        have := (N _ hm).1
        rw [e] at h0
        rw [h0] at this
        cases this
      exact ⟨ne _ _ (.head _), ne _ _ (.tail _ (.head _)), ne _ _ (.tail _ (.tail _ (.head _)))⟩
    · exact old p (.inr hp)
/-- what is known behind places -/
structure B2 (ns : List Int) (T : Addr) (ys : List Value) (cT : Nat) (r : Addr) (t1 t2 t3 : Tok) (R : List (Addr × Obj)) : Prop where
  rng : (r, rngO ((toldL ns).length : Nat) t1 t2 t3) ∈ R
  told : (T, W.listOf (List.toArray ys) cT) ∈ R
  tups : AllIn (TupR R) ys (toldL ns)
theorem B2.mono {ns : List Int} {T : Addr} {ys : List Value} {cT : Nat} {r : Addr} {t1 t2 t3 : Tok} {R R' : List (Addr × Obj)} (b : B2 ns T ys cT r t1 t2 t3 R) (h : ∀ z ∈ R, z ∈ R') : B2 ns T ys cT r t1 t2 t3 R' :=
  ⟨h _ b.rng, h _ b.told, AllIn.mono (TupR.mono h) b.tups⟩
/-- a list of what _law_known gave -/
noncomputable def KnowsIn (w : World) (P : Addr) (vs : List Value) (c : Nat) (l : List (Nat × Nat)) (R : List (Addr × Obj)) : Prop := (P, W.listOf (List.toArray vs) c) ∈ R ∧ AllIn (fun v (p : Nat × Nat) => KnownIn w R v p.1 p.2) vs l
theorem KnowsIn.mono {w : World} {P : Addr} {vs : List Value} {c : Nat} {l : List (Nat × Nat)} {R R' : List (Addr × Obj)} (b : KnowsIn w P vs c l R) (h : ∀ z ∈ R, z ∈ R') : KnowsIn w P vs c l R' :=
  ⟨h _ b.1, AllIn.mono (fun _ _ q => q.mono h) b.2⟩
noncomputable def MirrIn (w : World) (P : Addr) (vs : List Value) (c : Nat) (l : List (Nat × Nat)) (R : List (Addr × Obj)) : Prop := (P, W.listOf (List.toArray vs) c) ∈ R ∧ AllIn (fun v (p : Nat × Nat) => KnownIn w R v p.2 p.1) vs l
theorem MirrIn.mono {w : World} {P : Addr} {vs : List Value} {c : Nat} {l : List (Nat × Nat)} {R R' : List (Addr × Obj)} (b : MirrIn w P vs c l R) (h : ∀ z ∈ R, z ∈ R') : MirrIn w P vs c l R' :=
  ⟨h _ b.1, AllIn.mono (fun _ _ q => q.mono h) b.2⟩
theorem fmod8 (x : Int) : 0 ≤ x.fmod 8 ∧ x.fmod 8 < 8 := ⟨Int.fmod_nonneg_of_pos x (by decide), Int.fmod_lt_of_pos x (by decide)⟩
theorem indent_use (w : World) (x : Addr) (p q : Nat) (size : Int) (ts : Tok) (hp : p ≤ 20) (hq : q ≤ 20) (hsz : 1 ≤ size ∧ size ≤ 100)
    (mean : ExcName → Option Value) (mg mb : PySem.Str → Option Value) (dp un : Nat) (gd : Option (List Code)) (cn : PySem.Str) (sc : Scope) (a : Addr) (ccd : Value) (cl : List (PySem.Str × Addr)) (outer : List Env) (A₀ : Around) (base h₀ : Heap) (L : Addr) (m : PySem.Str → Option Value) (s : Shared) (Q E : Value → Shared → Prop) (news : List (Addr × Obj))
    (B : Below A₀ base outer h₀) (F : Fr h₀ L s.heap m) (X : (hd.heap_39 w.params).In h₀) (N : News h₀ L s.heap news) (T : Top hd.view_39 (looseW hd.view_39 [PySem.Str.ofString "Whitespace"]) mean mg mb h₀) (W1 : WsAt w news x p q) (hk : sc.kind = .function) (hdp : dp + 1 < recursionLimit) (hu : un + 8 < cLine)
    (hret : ∀ t h' tk', Fr h₀ L h' m → News h₀ L h' news → Q (.int ((q : Int) + size * p) t) { s with heap := h', toks := tk' }) :
    wpAny (model PySem.Challenge.pw_pg0263_02 w) (ktrTop dp un gd cn sc L a ccd cl outer) (call (.ref 52) [.ref x, .int size ts]) Q E s := by
  obtain ⟨dx, nm, ct, y, cs, WT, hcs, h1⟩ := W1
  exact indent_claim w x dx nm ct y p q cs WT size ts hcs hp hq hsz mean mg mb dp un gd cn sc a ccd cl outer A₀ base h₀ L m s Q E B F X (kst_newsOf N h1) T hk hdp hu fun t h' tk' st => hret t h' tk' (fr_stays F st) (news_stays N st)
noncomputable def ColR (size : Int) (R : List (Addr × Obj)) (v : Value) (p : Nat × Nat) : Prop := ∃ D k1 k2, v = .ref D ∧ (D, colTup size p.1 p.2 k1 k2) ∈ R
theorem ColR.mono {size : Int} {R R' : List (Addr × Obj)} (h : ∀ z ∈ R, z ∈ R') (v : Value) (p : Nat × Nat) (q : ColR size R v p) : ColR size R' v p := by
  obtain ⟨D, k1, k2, e, hm⟩ := q
  exact ⟨D, k1, k2, e, h _ hm⟩
noncomputable def ColsIn (size : Int) (P : Addr) (vs : List Value) (c : Nat) (l : List (Nat × Nat)) (R : List (Addr × Obj)) : Prop := (P, W.listOf (List.toArray vs) c) ∈ R ∧ AllIn (ColR size R) vs l
theorem ColsIn.mono {size : Int} {P : Addr} {vs : List Value} {c : Nat} {l : List (Nat × Nat)} {R R' : List (Addr × Obj)} (b : ColsIn size P vs c l R) (h : ∀ z ∈ R, z ∈ R') : ColsIn size P vs c l R' :=
  ⟨h _ b.1, AllIn.mono (ColR.mono h) b.2⟩
theorem cend_focus {h₀ h' : Heap} {L I C D T : Addr} {m : PySem.Str → Option Value} {s₁ : Shared} {oI oC oD o : Obj} {S : List (Addr × Obj) → Prop} {rest : Value → List (Addr × Obj) → Prop} {y : Value} {tk : Nat} {X cells R : List (Addr × Obj)}
    (F : Fr h₀ L h' m) (N : News h₀ L h' ((T, o) :: (X ++ ((I, oI) :: (C, oC) :: (D, oD) :: (cells ++ R))))) (hlt : AllLt T (X ++ ((I, oI) :: (C, oC) :: (D, oD) :: (cells ++ R)))) (off : LCg.Off3 I C D (cells ++ R)) (hS : S (cells ++ ((T, o) :: R))) (r : rest y (cells ++ ((T, o) :: R))) :
    LCg.CompEnd h₀ L m s₁ I oI C oC D oD S rest y { s₁ with heap := h', toks := tk } := by
  have key : ∀ {X l : List (Addr × Obj)}, AllLt T (X ++ l) → AllLt T l := by
    intro X
    induction X with
    | nil => intro l h; exact h
    | cons a X ih => intro l h; exact ih h.2
  refine cend_one F (kst_newsOf N fun z hz => ?_) (key hlt) off hS r
  rcases List.mem_cons.mp hz with rfl | hz
  · exact .head _
  · exact .tail _ (List.mem_append_right _ hz)
/-- all that is known behind columns -/
structure B6 (w : World) (ns : List Int) (T : Addr) (ys : List Value) (cT : Nat) (r : Addr) (t1 t2 t3 : Tok) (P : Addr) (ps : List Value) (cP : Nat) (M : Addr) (ms : List Value) (cM : Nat) (size : Int) (Cl : Addr) (cs : List Value) (cC : Nat) (R : List (Addr × Obj)) : Prop where
  b2 : B2 ns T ys cT r t1 t2 t3 R
  kp : KnowsIn w P ps cP (toldL ns) R
  km : MirrIn w M ms cM (toldL ns) R
  co : ColsIn size Cl cs cC (toldL ns) R
theorem B6.mono {w : World} {ns : List Int} {T : Addr} {ys : List Value} {cT : Nat} {r : Addr} {t1 t2 t3 : Tok} {P : Addr} {ps : List Value} {cP : Nat} {M : Addr} {ms : List Value} {cM : Nat} {size : Int} {Cl : Addr} {cs : List Value} {cC : Nat} {R R' : List (Addr × Obj)} (b : B6 w ns T ys cT r t1 t2 t3 P ps cP M ms cM size Cl cs cC R) (h : ∀ z ∈ R, z ∈ R') : B6 w ns T ys cT r t1 t2 t3 P ps cP M ms cM size Cl cs cC R' :=
  ⟨b.b2.mono h, b.kp.mono h, b.km.mono h, b.co.mono h⟩
/-- a row of ints -/
noncomputable def RowR (R : List (Addr × Obj)) (v : Value) (xs : List Int) : Prop := ∃ D us c, v = .ref D ∧ (D, W.listOf (List.toArray us) c) ∈ R ∧ IntsAre us xs
theorem RowR.mono {R R' : List (Addr × Obj)} (h : ∀ z ∈ R, z ∈ R') (v : Value) (xs : List Int) (q : RowR R v xs) : RowR R' v xs := by
  obtain ⟨D, us, c, e, hm, hi⟩ := q
  exact ⟨D, us, c, e, h _ hm, hi⟩
noncomputable def dueRow (l : List (Nat × Nat)) (p : Nat × Nat) : List Int := l.map fun q => 2 * ((dueN p.1 p.2 q.1 q.2 : Nat) : Int)
noncomputable def dueRows (l : List (Nat × Nat)) : List (List Int) := l.map (dueRow l)
theorem ints_snoc {us : List Value} {ns : List Int} {k : Int} {t : Tok} (h : IntsAre us ns) : IntsAre (us ++ [.int k t]) (ns ++ [k]) := by
  induction h with
  | nil => exact .cons _ _ .nil
  | cons n t' _ ih => exact .cons _ _ ih
theorem dueRow_get {l : List (Nat × Nat)} {p q : Nat × Nat} {j : Nat} (h : l[j]? = some q) : (dueRow l p)[j]? = some (2 * ((dueN p.1 p.2 q.1 q.2 : Nat) : Int)) := by unfold dueRow; rw [List.getElem?_map, h]; rfl
theorem dueRows_get {l : List (Nat × Nat)} {p : Nat × Nat} {j : Nat} (h : l[j]? = some p) : (dueRows l)[j]? = some (dueRow l p) := by unfold dueRows; rw [List.getElem?_map, h]; rfl
theorem dueRow_len (l : List (Nat × Nat)) (p : Nat × Nat) : (dueRow l p).length = l.length := by simp [dueRow]
theorem off1_mem {D : Addr} : ∀ {l : List (Addr × Obj)}, LCg.Off1 D l → ∀ p ∈ l, p.1 ≠ D
  | [], _, _, h => nomatch h
  | _ :: _, x, p, h => by
    rcases List.mem_cons.mp h with rfl | h
    · exact x.1
    · exact off1_mem x.2 p h
/-- the inner block's list goes into the outer one -/
theorem cendC_row {h₀ h : Heap} {L I C D cx D2 : Addr} {m : PySem.Str → Option Value} {s₁ s₂ : Shared} {oI oC oD ox o2 : Obj} {rest : Value → List (Addr × Obj) → Prop} {cells R : List (Addr × Obj)} {tk : Nat} (e : s₂ = { s₁ with heap := h, toks := tk })
    (F : Fr h₀ L h m) (N : News h₀ L h ((D2, o2) :: ([(I, oI), (C, oC), (D, oD), (cx, ox)] ++ (cells ++ R)))) (off : LCg.Off1 D2 ([(I, oI), (C, oC), (D, oD), (cx, ox)] ++ (cells ++ R))) (ap : Apart4 I C D cx (cells ++ R)) (hr : rest (.ref D2) (cells ++ ((D2, o2) :: R))) :
    CEndC h₀ L m s₁ I oI C oC D oD cx ox rest (.ref D2) s₂ := by
  have o := off1_mem off
  refine ⟨h, tk, cells ++ ((D2, o2) :: R), e, F, kst_newsOf N fun p hp => ?_, fun p hp => ?_, hr⟩
  · simp only [List.mem_cons, List.mem_append, List.not_mem_nil, or_false] at hp ⊢
    rcases hp with hp | hp | hp | hp | hp | hp | hp
    · exact .inr (.inl (.inl hp))
    · exact .inr (.inl (.inr (.inl hp)))
    · exact .inr (.inl (.inr (.inr (.inl hp))))
    · exact .inr (.inl (.inr (.inr (.inr hp))))
    · exact .inr (.inr (.inl hp))
    · exact .inl hp
    · exact .inr (.inr (.inr hp))
  · rcases List.mem_append.mp hp with hp | hp
    · exact ap p (List.mem_append_left _ hp)
    · rcases List.mem_cons.mp hp with rfl | hp
      · exact ⟨Ne.symm (o (I, oI) (.head _)), Ne.symm (o (C, oC) (.tail _ (.head _))), Ne.symm (o (D, oD) (.tail _ (.tail _ (.head _)))), Ne.symm (o (cx, ox) (.tail _ (.tail _ (.tail _ (.head _)))))⟩
      · exact ap p (List.mem_append_right _ hp)
theorem cend_same {h₀ h' : Heap} {L I C D : Addr} {m : PySem.Str → Option Value} {s₁ : Shared} {oI oC oD : Obj} {S : List (Addr × Obj) → Prop} {rest : Value → List (Addr × Obj) → Prop} {y : Value} {tk : Nat} {X nx : List (Addr × Obj)}
    (F : Fr h₀ L h' m) (N : News h₀ L h' (X ++ ((I, oI) :: (C, oC) :: (D, oD) :: nx))) (off : LCg.Off3 I C D nx) (hS : S nx) (r : rest y nx) : LCg.CompEnd h₀ L m s₁ I oI C oC D oD S rest y { s₁ with heap := h', toks := tk } :=
  LCg.CompEnd.intro F N nx (fun _ hp => List.mem_append_right _ hp) off hS r
noncomputable def RowsIn (Du : Addr) (ds : List Value) (cD : Nat) (rows : List (List Int)) (R : List (Addr × Obj)) : Prop := (Du, W.listOf (List.toArray ds) cD) ∈ R ∧ AllIn (RowR R) ds rows
theorem RowsIn.mono {Du : Addr} {ds : List Value} {cD : Nat} {rows : List (List Int)} {R R' : List (Addr × Obj)} (b : RowsIn Du ds cD rows R) (h : ∀ z ∈ R, z ∈ R') : RowsIn Du ds cD rows R' := ⟨h _ b.1, AllIn.mono (RowR.mono h) b.2⟩
theorem ints_at {us : List Value} {ns : List Int} (h : IntsAre us ns) {j : Nat} {d : Int} (e : ns[j]? = some d) : ∃ t, us[j]? = some (.int d t) := by
  induction h generalizing j with
  | nil => simp at e
  | cons n t _ ih =>
    cases j with
    | zero => exact ⟨t, by have : n = d := Option.some.inj e; rw [← this]; rfl⟩
    | succ j => exact ih e
theorem dueN_le : ∀ t < 5, ∀ b < 5, ∀ i < 5, ∀ j < 5, dueN t b i j ≤ 8 := by decide +kernel
theorem dueN_self (t b : Nat) : dueN t b t b = 0 := by simp [dueN]
theorem far_ne {t b i j k : Nat} (ht : t < 5) (hb : b < 5) (hi : i < 5) (hj : j < 5) : levF (leadS t b) (leadS i j) (2 * ((dueN t b i j : Nat) : Int) + (k : Nat)) = 2 * ((dueN t b i j : Nat) : Int) := by
  have h := lev_lead (mc := 2 * ((dueN t b i j : Nat) : Int) + (k : Nat)) ht hb hi hj (by unfold dueM; omega)
  rw [h]; unfold dueM; omega
noncomputable def CutPost (I : Heap → Prop) (s : Shared) (f : Flow) (s₂ : Shared) : Prop := f = .next ∧ ∃ h tk, s₂ = { s with heap := h, toks := tk } ∧ I h
theorem cutPost_ {I : Heap → Prop} {s s₂ : Shared} (e : s₂ = { s with heap := s₂.heap, toks := s₂.toks }) (h : I s₂.heap) : CutPost I s .next s₂ := ⟨rfl, _, _, e, h⟩
theorem execs_cutG {prog : Program} {w : World} {A : Around} {E : Value → Shared → Prop} {Q : Flow → Shared → Prop} {s : Shared} {env : Env} {st : Stmt} {rest : List Stmt} {h₀ : Heap} {L : Addr} {m : PySem.Str → Option Value} {news : List (Addr × Obj)} (I : Heap → Addr → (PySem.Str → Option Value) → List (Addr × Obj) → Heap → Prop) (_ : Fr h₀ L s.heap m) (_ : News h₀ L s.heap news) (h1 : wpAny (model prog w) A (exec st env) (CutPost (I h₀ L m news) s) E s)
    (h2 : ∀ h tk, I h₀ L m news h → wpAny (model prog w) A (execs rest env) Q E { s with heap := h, toks := tk }) : wpAny (model prog w) A (execs (st :: rest) env) Q E s := execs_cut (I h₀ L m news) h1 h2
noncomputable def wayE (l : List (Nat × Nat)) (i j : Nat) : List Int := if i = j then [] else match l[i]?, l[j]? with
  | some p, some q => waysL p.1 p.2 q.1 q.2
  | _, _ => []
theorem wayE_ne {l : List (Nat × Nat)} {i j : Nat} {p q : Nat × Nat} (h : i ≠ j) (h1 : l[i]? = some p) (h2 : l[j]? = some q) : wayE l i j = waysL p.1 p.2 q.1 q.2 := by unfold wayE; rw [if_neg h, h1, h2]
theorem wayE_eq (l : List (Nat × Nat)) (i : Nat) : wayE l i i = [] := by unfold wayE; rw [if_pos rfl]
noncomputable def WRow (l : List (Nat × Nat)) (R : List (Addr × Obj)) (v : Value) (i : Nat) : Prop := ∃ D us c, v = .ref D ∧ (D, W.listOf (List.toArray us) c) ∈ R ∧ AllIn (fun u j => RowR R u (wayE l i j)) us (List.range l.length)
theorem WRow.mono {l : List (Nat × Nat)} {R R' : List (Addr × Obj)} (h : ∀ z ∈ R, z ∈ R') (v : Value) (i : Nat) (q : WRow l R v i) : WRow l R' v i := by
  obtain ⟨D, us, c, e, hm, hi⟩ := q
  exact ⟨D, us, c, e, h _ hm, AllIn.mono (fun _ _ q => RowR.mono h _ _ q) hi⟩
noncomputable def WaysIn (Wa : Addr) (vs : List Value) (c : Nat) (l : List (Nat × Nat)) (R : List (Addr × Obj)) : Prop := (Wa, W.listOf (List.toArray vs) c) ∈ R ∧ AllIn (WRow l R) vs (List.range l.length)
theorem apart_new {h₀ h h' : Heap} {L I C D cx : Addr} {oI oC oD ox : Obj} {X objs rest : List (Addr × Obj)} {cells R : List (Addr × Obj)} (N : News h₀ L h (X ++ ([(I, oI), (C, oC), (D, oD), (cx, ox)] ++ rest))) (ho : ∀ p ∈ objs, h.get? p.1 = none ∧ h'.get? p.1 = some p.2) (ap : Apart4 I C D cx (cells ++ R)) : Apart4 I C D cx (cells ++ (objs ++ R)) := by
  intro p hp
  rcases List.mem_append.mp hp with hp | hp
  · exact ap p (List.mem_append_left _ hp)
  · rcases List.mem_append.mp hp with hp | hp
    · have h0 := (ho p hp).1
      have ne : ∀ a o, (a, o) ∈ [(I, oI), (C, oC), (D, oD), (cx, ox)] → p.1 ≠ a := fun a o hm e => by
        have := (N _ (List.mem_append_right _ (List.mem_append_left _ hm))).1
        rw [e] at h0
        rw [h0] at this
        cases this
      exact ⟨ne _ _ (.head _), ne _ _ (.tail _ (.head _)), ne _ _ (.tail _ (.tail _ (.head _))), ne _ _ (.tail _ (.tail _ (.tail _ (.head _))))⟩
    · exact ap p (List.mem_append_right _ hp)
theorem apart_one {T I C D cx : Addr} {o oI oC oD ox : Obj} {X rest : List (Addr × Obj)} {cells R : List (Addr × Obj)} (hlt : AllLt T (X ++ ([(I, oI), (C, oC), (D, oD), (cx, ox)] ++ rest))) (ap : Apart4 I C D cx (cells ++ R)) : Apart4 I C D cx (cells ++ ((T, o) :: R)) := by
  have l := kst_ltOf hlt
  have ne : ∀ a oa, (a, oa) ∈ [(I, oI), (C, oC), (D, oD), (cx, ox)] → T ≠ a := fun a oa hm => Nat.ne_of_gt (l (a, oa) (List.mem_append_right _ (List.mem_append_left _ hm)))
  intro p hp
  rcases List.mem_append.mp hp with hp | hp
  · exact ap p (List.mem_append_left _ hp)
  · rcases List.mem_cons.mp hp with rfl | hp
    · exact ⟨ne _ _ (.head _), ne _ _ (.tail _ (.head _)), ne _ _ (.tail _ (.tail _ (.head _))), ne _ _ (.tail _ (.tail _ (.tail _ (.head _))))⟩
    · exact ap p (List.mem_append_right _ hp)

-- eq_pure
theorem ints_item {us ws : List Value} {ns : List Int} (h1 : IntsAre us ns) (h2 : IntsAre ws ns) {j : Nat} (a : j < us.toArray.size) (b : j < ws.toArray.size) (A : Around) (s : Shared) : SeqAt.EqAt A s us.toArray[j] ws.toArray[j] true := by
  obtain ⟨n, t, e1, e2⟩ := ints_get h1 (i := j) (v := us.toArray[j]) (by simp)
  obtain ⟨n', t', e3, e4⟩ := ints_get h2 (i := j) (v := ws.toArray[j]) (by simp)
  have : n = n' := Option.some.inj (e2.symm.trans e4)
  subst this
  rw [e1, e3]
  have := (MeetsSeq.EqGives.int n n t t').at A s
  rwa [beq_self_eq_true] at this
theorem all_true (n : Nat) : (List.range n).all (fun _ => true) = true := by simp
theorem eqAt_ints {A : Around} {s : Shared} {l b : Addr} {us ws : List Value} {ns : List Int} (hl : s.heap.IsList l us.toArray) (hb : s.heap.IsList b ws.toArray) (h1 : IntsAre us ns) (h2 : IntsAre ws ns) (hu : A.units < cLine) : SeqAt.EqAt A s (.ref l) (.ref b) true := by
  by_cases e : l = b
  · subst e; exact SeqAt.EqAt.same _
  · have := SeqAt.RcAt.lists (e := fun _ => true) hl hb (by rw [List.size_toArray, List.size_toArray, h1.length, h2.length]) hu (fun j a b => ints_item h1 h2 a b _ _)
    rw [all_true] at this
    exact SeqAt.EqAt.of_refs e this
theorem ne_rows {prog : Program} {w : World} {A : Around} {E : Value → Shared → Prop} {s : Shared} {h₀ : Heap} {L Fa Du : Addr} {fs ds : List Value} {cF cD : Nat} {rows : List (List Int)} {R : List (Addr × Obj)} {Q : Value → Shared → Prop} (N : News h₀ L s.heap R) (hF : RowsIn Fa fs cF rows R) (hD : RowsIn Du ds cD rows R) (hu : A.units < cLine) (hu2 : A.in1.units < cLine)
    (h : Q (.bool false) s) : wpAny (model prog w) A (compareOp .NotEq (.ref Fa) (.ref Du)) Q E s := by
  have lst : ∀ {D : Addr} {us : List Value} {c : Nat}, (D, W.listOf (List.toArray us) c) ∈ R → s.heap.IsList D (List.toArray us) := fun hm => ⟨_, (N _ hm).1, rfl, _, rfl⟩
  have := SeqAt.RcNeAt.lists (A := A) (e := fun _ => true) (lst hF.1) (lst hD.1) (by rw [List.size_toArray, List.size_toArray, AllIn.len hF.2, AllIn.len hD.2]) hu (fun j a b => by
    obtain ⟨xs, e1, D1, us, c1, e2, m1, i1⟩ := AllIn.getV hF.2 (i := j) (v := (List.toArray fs)[j]) (by simp)
    obtain ⟨xs', e3, D2, ws, c2, e4, m2, i2⟩ := AllIn.getV hD.2 (i := j) (v := (List.toArray ds)[j]) (by simp)
    have : xs = xs' := Option.some.inj (e1.symm.trans e3)
    subst this
    rw [e2, e4]
    exact eqAt_ints (lst m1) (lst m2) i1 i2 hu2)
  rw [all_true] at this
  exact this prog w E Q h

-- str2_pure
theorem any_0 (t b i j : Nat) : (waysL t b i j).any (· == 0) = way0 t b i j := by unfold waysL; cases way0 t b i j <;> cases way1 t b i j <;> cases way2 t b i j <;> rfl
theorem any_1 (t b i j : Nat) : (waysL t b i j).any (· == 1) = way1 t b i j := by unfold waysL; cases way0 t b i j <;> cases way1 t b i j <;> cases way2 t b i j <;> rfl
theorem any_2 (t b i j : Nat) : (waysL t b i j).any (· == 2) = way2 t b i j := by unfold waysL; cases way0 t b i j <;> cases way1 t b i j <;> cases way2 t b i j <;> rfl
theorem strL_B (t b i j k l : Nat) : strL (waysL t b i j) (waysL i j k l) (waysL k l i j) (waysL i j t b) = strB t b i j k l := by
  unfold strL strB condL
  simp only [List.any_cons, List.any_nil, Bool.or_false, any_0, any_1, any_2]
/-- the test of the innermost turn is never true -/
theorem tri_false {t b i j k l : Nat} (ht : t < 5) (hb : b < 5) (hi : i < 5) (hj : j < 5) (hk : k < 5) (hl : l < 5) :
    ((2 * ((dueN t b i j : Nat) : Int) + 2 * ((dueN i j k l : Nat) : Int) == 2 * ((dueN t b k l : Nat) : Int)) != strL (waysL t b i j) (waysL i j k l) (waysL k l i j) (waysL i j t b)) = false := by
  rw [strL_B]
  have h := tri_all t ht b hb i hi j hj k hk l hl
  unfold triOk at h
  have h2 : Nat.beq (dueN t b i j + dueN i j k l) (dueN t b k l) = strB t b i j k l := eq_of_beq h
  rw [← h2]
  have e : (2 * ((dueN t b i j : Nat) : Int) + 2 * ((dueN i j k l : Nat) : Int) == 2 * ((dueN t b k l : Nat) : Int)) = Nat.beq (dueN t b i j + dueN i j k l) (dueN t b k l) := by
    rw [Bool.eq_iff_iff, beq_iff_eq, Nat.beq_eq]
    omega
  rw [e, bne_self_eq_false]

-- l2_mac

-- ways_mac_item

-- l2_head
theorem law_t : PySem.Challenge.rw_pg0263_02.Holds := by
  refine hd ?_
  k_go0
  all_goals (try k_fold)
  (try dsimp only)
  rename List Int => ns; rename World => w; rename Shared => s1
  rename News _ _ _ _ => N0
  rename Fr _ _ _ _ => F1
  (rename CellsAre _ _ _ => XC; clear XC)
  (rename_i v1 v2 v3 v4 v5 v6 e1 e2 e3 e4 e5 e6)
  have ⟨cells, hcells, N0c⟩ : ∃ cells, cells = _ ∧ News _ _ _ cells := ⟨_, rfl, N0⟩
  k_dflt (refine' execs_cutF (fun h₀ L m cells h => ∃ T ys c R, Fr h₀ L h (fun z => if z = PySem.Str.ofString "told" then some (.ref T) else m z) ∧ News h₀ L h (cells ++ R) ∧ NCell R ∧ (T, W.listOf (List.toArray ys) c) ∈ R ∧ AllIn (TupR R) ys (toldL ns)) F1 N0c ?_ ?_)

-- l2_b1
  · k_dflt (refine LCg.Assign_ListComp_U (F₀ := F1) (by rfl) (by with_unfolding_all rfl) (by with_unfolding_all rfl) (by decide) (by rfl) (by decide) (by rfl) (by rfl) (by rfl) ?_)
    clear N0c
    (repeat' (first | ((k_here; (with_reducible show wpAny _ _ (subscriptTail _ _ (Value.ref _) (Value.int _ _)) _ _ _); k_dflt (refine' item_at ?k1Z9 ?k2Z9 ?k3Z9 ?k4Z9 ?_ ?k6Z9; (case k1Z9 => exact News.isList (by k_asm) (by k_mem)); (case k4Z9 => with_reducible assumption); (case k2Z9 => omega); (case k3Z9 => omega); (case k6Z9 => with_unfolding_all rfl); k_whole))) | (((with_reducible show wpAny _ _ (call (Value.ref 129) _) _ _ _); k_here; k_dflt ((refine' ways_claim _ _ _ _ _ _ _ _ _ _ _ _ _ _ _ _ _ _ _ ?htZ9 ?hbZ9 ?hpZ9 ?hqZ9 ?hiZ9 ?hjZ9 ?e1Z9 ?e2Z9 ?e3Z9 ?e4Z9 _ _ _ _ _ _ _ _ _ _ _ _ _ _ _ _ _ _ _ _ _ ?k1Z9 ?kFZ9 ?k3Z9 ?kNZ9 ?k5Z9 ?m1Z9 ?m2Z9 ?w1Z9 ?w2Z9 ?w3Z9 ?w4Z9 ?kKZ9 ?kdZ9 ?kuZ9 ?_); (case kFZ9 => assumption); (case kNZ9 => assumption); (case m1Z9 => k_mem); (case m2Z9 => k_mem); (case e1Z9 => with_reducible assumption); (case e2Z9 => with_reducible assumption); (case e3Z9 => with_reducible assumption); (case e4Z9 => with_reducible assumption); (case w1Z9 => assumption); (case w2Z9 => assumption); (case w3Z9 => assumption); (case w4Z9 => assumption); (case htZ9 => omega); (case hbZ9 => omega); (case hpZ9 => omega); (case hqZ9 => omega); (case hiZ9 => omega); (case hjZ9 => omega); (case k1Z9 => k_asm); (case k3Z9 => k_asm); (case k5Z9 => k_asm); (case kKZ9 => first | exact rfl | assumption); (case kdZ9 => ktr_room); (case kuZ9 => ktr_units); intro h9 tk9 v9 F9 N9 st9 o9; (try dsimp only); (try k_fold)))) | (((with_reducible show wpAny _ _ (compareOp CmpOp.NotEq (Value.ref _) (Value.ref _)) _ _ _); k_here; k_dflt ((refine' ne_rows ?kNZ9 ?kFZ9 ?kDZ9 ?u1Z9 ?u2Z9 ?_); (case kFZ9 => assumption); (case kDZ9 => assumption); (case kNZ9 => assumption); (case u1Z9 => (simp only [units_in1, units_deeper, units_caller]; decide)); (case u2Z9 => (simp only [units_in1, units_deeper, units_caller]; decide)); (try dsimp only); (try k_fold)))) | (((with_reducible show wpAny _ _ (call (Value.ref 108) [Value.str _ _, Value.str _ _, Value.int _ _]) _ _ _); ((k_here; k_dflt ((refine' use_cl (lev_claim _ _ _ _ _ _ _ (by rw [leadS_len]; omega) (by rw [leadS_len]; omega) (by omega)) ?k1Z9 ?kFZ9 ?k3Z9 ?kNZ9 ?k5Z9 ?kKZ9 ?kdZ9 ?kuZ9 ?kHZ9 ?_); (case kFZ9 => assumption); (case kNZ9 => assumption); (case k1Z9 => k_asm); (case k3Z9 => k_asm); (case k5Z9 => k_asm); (case kKZ9 => first | exact rfl | assumption); (case kdZ9 => ktr_room); (case kuZ9 => ktr_units); (case kHZ9 => trivial)))); intro v9 h9 tk9 F9 N9 st9 o9; obtain ⟨t9, e9⟩ := o9; subst e9; (try dsimp only); (try k_fold))) | (((with_reducible show wpAny _ _ (call (Value.ref 136) _) _ _ _); k_here; k_dflt ((refine' due_claim _ _ _ _ _ _ _ _ _ _ _ _ _ ?htZ9 ?hbZ9 ?hiZ9 ?hjZ9 ?hsZ9 _ _ _ _ _ _ _ _ _ _ _ _ _ _ _ _ _ _ _ _ _ ?k1Z9 ?kFZ9 ?k3Z9 ?kNZ9 ?k5Z9 ?w1Z9 ?w2Z9 ?kKZ9 ?kdZ9 ?kuZ9 ?_); (case kFZ9 => assumption); (case kNZ9 => assumption); (case w1Z9 => k_mem); (case w2Z9 => k_mem); (case htZ9 => omega); (case hbZ9 => omega); (case hiZ9 => omega); (case hjZ9 => omega); (case hsZ9 => omega); (case k1Z9 => k_asm); (case k3Z9 => k_asm); (case k5Z9 => k_asm); (case kKZ9 => first | exact rfl | assumption); (case kdZ9 => ktr_room); (case kuZ9 => ktr_units); intro h9 tk9 t9 F9 N9; (try dsimp only); (try k_fold)))) | (((with_reducible show wpAny _ _ (call (Value.ref 52) _) _ _ _); k_here; k_dflt ((refine' indent_use _ _ _ _ _ _ ?kpZ9 ?kqZ9 ?ksZ9 _ _ _ _ _ _ _ _ _ _ _ _ _ _ _ _ _ _ _ _ _ ?k1Z9 ?kFZ9 ?k3Z9 ?kNZ9 ?k5Z9 ?w1Z9 ?kKZ9 ?kdZ9 ?kuZ9 ?_); (case kFZ9 => assumption); (case kNZ9 => assumption); (case w1Z9 => assumption); (case kpZ9 => omega); (case kqZ9 => omega); (case ksZ9 => omega); (case k1Z9 => k_asm); (case k3Z9 => k_asm); (case k5Z9 => k_asm); (case kKZ9 => first | exact rfl | assumption); (case kdZ9 => ktr_room); (case kuZ9 => ktr_units); intro t9 h9 tk9 F9 N9; (try dsimp only); (try k_fold)))) | (((with_reducible show wpAny _ _ (call (Value.builtin "len") [Value.ref _]) _ _ _); k_here; k_dflt ((rename News _ _ _ _ => lN'); (refine' kst_len lN' ?kmZ9 ?keZ9 ?kfZ9 ?_); (case kmZ9 => k_mem); (case keZ9 => assumption); (case kfZ9 => omega); (try dsimp only); (try k_fold)))) | (((with_reducible show wpAny _ _ (call (Value.type _) [Value.int _ _]) _ _ _); k_here; k_dflt ((rename Fr _ _ _ _ => lF'); (rename News _ _ _ _ => lN'); (refine' range_led lF' lN' ?_); clear lF' lN'; intro r9 h9 tk9 t9 u9 v9 F9 N9; (try dsimp only); (try k_fold)))) | ((k_here; (with_reducible show wpAny _ _ (call (Value.type _) [Value.ref _]) _ _ _); (rename IsRange _ _ _ _ _ _ _ _ => rgX); (with_unfolding_all refine' list_step ?k0Z9 ?k1Z9 ?k2Z9 ?k3Z9 ?k4Z9 ?k5Z9 ?k6Z9 ?_; (case k0Z9 => rfl); (case k1Z9 => k_asm); (case k2Z9 => k_asm); (case k3Z9 => exact rgX); (case k4Z9 => exact small_two (by omega) (by omega)); (case k5Z9 => exact range_two (by omega)); (case k6Z9 => omega)); intro _ _ _ _ _ _ _ l1 _; (try k_lt l1))) | ((k_here; (with_reducible show wpAny _ _ (subscriptTail _ (Expr.Slice none (some _) none _) _ _) _ _ _); (with_reducible rename Fr _ _ _ _ => F'); (with_reducible rename News _ _ _ _ => N'); (refine slice_none (s := ⟨_, _, _, _, _⟩) F' N' ?_ (hsz := ?hszZ9)); (case hszZ9 => (rw [sizeLine_eq]; omega)); intro _ _ _ _ _)) | ((k_here; k_openite; first | (refine ite_pos ?hxZ9 ?_; (case hxZ9 => first | with_reducible assumption | (simp only [decide_eq_true_eq, decide_eq_false_iff_not, Bool.not_eq_true', Bool.not_eq_false', bne_iff_ne, ne_eq]; omega))) | (refine ite_neg ?hxZ9 ?_; (case hxZ9 => first | with_reducible assumption | (simp only [decide_eq_true_eq, decide_eq_false_iff_not, Bool.not_eq_true', Bool.not_eq_false', bne_iff_ne, ne_eq, Bool.not_eq_true, Decidable.not_not]; omega))) | (refine ite_b (fun hc => ?_) (fun hc => ?_) <;> (try simp only [decide_eq_true_eq, decide_eq_false_iff_not, Bool.not_eq_true', Bool.not_eq_false', bne_iff_ne, ne_eq, bne_eq_false_iff_eq, Decidable.not_not, Int.not_lt, Int.not_le] at hc)))) | (fail_if_success (with_reducible show LCg.CompSrc _ _ _ _ _ _ _ _ _ _ _ _ _ _)); (fail_if_success (with_reducible show LCg.CompEnd _ _ _ _ _ _ _ _ _ _ _ _ _ _)); (fail_if_success (with_reducible show wpAny _ _ (exec (Stmt.For _ _ _ _ _) _) _ _ _)); (fail_if_success (with_reducible show wpAny _ _ (pyIter _) _ _ _)); first | (k_unfold; (try dsimp only)) | walk1 | (dsimp only; walk1) | (leave1; try dsimp only) | fail "no step"))
    rename_i D9 ws9 h9 F5 N5 hI5 l5
    have N6 := kst_newsOf N5 (l' := cells ++ [(D9, W.listOf (List.toArray ws9) 0)]) (fun z hz => by
      rw [hcells] at hz
      simp only [List.cons_append, List.nil_append, List.mem_cons, List.not_mem_nil, or_false] at hz ⊢
      rcases hz with hz | hz | hz | hz | hz | hz | hz <;> simp only [hz, true_or, or_true])
    clear N5 l5
    k_dflt (refine' LCg.CompSrc.ledger rfl F5 N6 (List.mem_append_right _ (.head _)) ?hsz (fun g => ?_))
    case hsz => rw [told_size hI5]; have := (told_len ns).2; exact Nat.le_trans this (by decide)
    k_dflt (refine' comp_ind (fun i ys nx => ∃ R, nx = cells ++ R ∧ NCell R ∧ (D9, W.listOf (List.toArray ws9) 0) ∈ R ∧ AllIn (TupR R) ys ((toldL ns).take i)) ?hJ ?turn ?fin)
    case hJ => exact ⟨_, rfl, NCell.cons rfl (fun z hz => nomatch hz), .head _, trivial⟩
    case fin =>
      intro ys nx qq1 D h tk F7 N7 o7
      refine hideG fun Gx hG => ?_
      obtain ⟨R, rfl, hR, hm, hA⟩ := qq1
      refine hG ?_
      clear hG
      rw [told_size hI5, List.take_length] at hA
      refine ⟨rfl, h, tk, rfl, D, ys, ys.length, (D, W.listOf (List.toArray ys) ys.length) :: R, F7, ?_, NCell.cons rfl hR, .head _, AllIn.mono (TupR.mono fun z hz => .tail _ hz) hA⟩
      refine kst_newsOf N7 (fun z hz => ?_)
      simp only [List.mem_cons, List.mem_append] at hz ⊢
      rcases hz with hz | hz | hz
      · exact .inr (.inl hz)
      · exact .inl hz
      · exact .inr (.inr hz)
    case turn =>
      clear F5 N6
      intro i ys nx v I oI C oC D m₂ h tk E' hi qq1 hP hC hx F7 N7 off qq2
      refine hideG fun Gx hG => ?_
      obtain ⟨R, rfl, hR, hm, hA⟩ := qq1
      obtain ⟨ne1, ne2, ne3⟩ := qq2
      obtain ⟨x, tx, rfl, hl⟩ := told_item hI5 hP
      refine hG ?_
      clear hG
      have hb1 := fmod5 (x.fdiv 5)
      have hb2 := fmod5 x
      (repeat' (first | ((k_here; (with_reducible show wpAny _ _ (subscriptTail _ _ (Value.ref _) (Value.int _ _)) _ _ _); k_dflt (refine' item_at ?k1Z9 ?k2Z9 ?k3Z9 ?k4Z9 ?_ ?k6Z9; (case k1Z9 => exact News.isList (by k_asm) (by k_mem)); (case k4Z9 => with_reducible assumption); (case k2Z9 => omega); (case k3Z9 => omega); (case k6Z9 => with_unfolding_all rfl); k_whole))) | (((with_reducible show wpAny _ _ (call (Value.ref 129) _) _ _ _); k_here; k_dflt ((refine' ways_claim _ _ _ _ _ _ _ _ _ _ _ _ _ _ _ _ _ _ _ ?htZ9 ?hbZ9 ?hpZ9 ?hqZ9 ?hiZ9 ?hjZ9 ?e1Z9 ?e2Z9 ?e3Z9 ?e4Z9 _ _ _ _ _ _ _ _ _ _ _ _ _ _ _ _ _ _ _ _ _ ?k1Z9 ?kFZ9 ?k3Z9 ?kNZ9 ?k5Z9 ?m1Z9 ?m2Z9 ?w1Z9 ?w2Z9 ?w3Z9 ?w4Z9 ?kKZ9 ?kdZ9 ?kuZ9 ?_); (case kFZ9 => assumption); (case kNZ9 => assumption); (case m1Z9 => k_mem); (case m2Z9 => k_mem); (case e1Z9 => with_reducible assumption); (case e2Z9 => with_reducible assumption); (case e3Z9 => with_reducible assumption); (case e4Z9 => with_reducible assumption); (case w1Z9 => assumption); (case w2Z9 => assumption); (case w3Z9 => assumption); (case w4Z9 => assumption); (case htZ9 => omega); (case hbZ9 => omega); (case hpZ9 => omega); (case hqZ9 => omega); (case hiZ9 => omega); (case hjZ9 => omega); (case k1Z9 => k_asm); (case k3Z9 => k_asm); (case k5Z9 => k_asm); (case kKZ9 => first | exact rfl | assumption); (case kdZ9 => ktr_room); (case kuZ9 => ktr_units); intro h9 tk9 v9 F9 N9 st9 o9; (try dsimp only); (try k_fold)))) | (((with_reducible show wpAny _ _ (compareOp CmpOp.NotEq (Value.ref _) (Value.ref _)) _ _ _); k_here; k_dflt ((refine' ne_rows ?kNZ9 ?kFZ9 ?kDZ9 ?u1Z9 ?u2Z9 ?_); (case kFZ9 => assumption); (case kDZ9 => assumption); (case kNZ9 => assumption); (case u1Z9 => (simp only [units_in1, units_deeper, units_caller]; decide)); (case u2Z9 => (simp only [units_in1, units_deeper, units_caller]; decide)); (try dsimp only); (try k_fold)))) | (((with_reducible show wpAny _ _ (call (Value.ref 108) [Value.str _ _, Value.str _ _, Value.int _ _]) _ _ _); ((k_here; k_dflt ((refine' use_cl (lev_claim _ _ _ _ _ _ _ (by rw [leadS_len]; omega) (by rw [leadS_len]; omega) (by omega)) ?k1Z9 ?kFZ9 ?k3Z9 ?kNZ9 ?k5Z9 ?kKZ9 ?kdZ9 ?kuZ9 ?kHZ9 ?_); (case kFZ9 => assumption); (case kNZ9 => assumption); (case k1Z9 => k_asm); (case k3Z9 => k_asm); (case k5Z9 => k_asm); (case kKZ9 => first | exact rfl | assumption); (case kdZ9 => ktr_room); (case kuZ9 => ktr_units); (case kHZ9 => trivial)))); intro v9 h9 tk9 F9 N9 st9 o9; obtain ⟨t9, e9⟩ := o9; subst e9; (try dsimp only); (try k_fold))) | (((with_reducible show wpAny _ _ (call (Value.ref 136) _) _ _ _); k_here; k_dflt ((refine' due_claim _ _ _ _ _ _ _ _ _ _ _ _ _ ?htZ9 ?hbZ9 ?hiZ9 ?hjZ9 ?hsZ9 _ _ _ _ _ _ _ _ _ _ _ _ _ _ _ _ _ _ _ _ _ ?k1Z9 ?kFZ9 ?k3Z9 ?kNZ9 ?k5Z9 ?w1Z9 ?w2Z9 ?kKZ9 ?kdZ9 ?kuZ9 ?_); (case kFZ9 => assumption); (case kNZ9 => assumption); (case w1Z9 => k_mem); (case w2Z9 => k_mem); (case htZ9 => omega); (case hbZ9 => omega); (case hiZ9 => omega); (case hjZ9 => omega); (case hsZ9 => omega); (case k1Z9 => k_asm); (case k3Z9 => k_asm); (case k5Z9 => k_asm); (case kKZ9 => first | exact rfl | assumption); (case kdZ9 => ktr_room); (case kuZ9 => ktr_units); intro h9 tk9 t9 F9 N9; (try dsimp only); (try k_fold)))) | (((with_reducible show wpAny _ _ (call (Value.ref 52) _) _ _ _); k_here; k_dflt ((refine' indent_use _ _ _ _ _ _ ?kpZ9 ?kqZ9 ?ksZ9 _ _ _ _ _ _ _ _ _ _ _ _ _ _ _ _ _ _ _ _ _ ?k1Z9 ?kFZ9 ?k3Z9 ?kNZ9 ?k5Z9 ?w1Z9 ?kKZ9 ?kdZ9 ?kuZ9 ?_); (case kFZ9 => assumption); (case kNZ9 => assumption); (case w1Z9 => assumption); (case kpZ9 => omega); (case kqZ9 => omega); (case ksZ9 => omega); (case k1Z9 => k_asm); (case k3Z9 => k_asm); (case k5Z9 => k_asm); (case kKZ9 => first | exact rfl | assumption); (case kdZ9 => ktr_room); (case kuZ9 => ktr_units); intro t9 h9 tk9 F9 N9; (try dsimp only); (try k_fold)))) | (((with_reducible show wpAny _ _ (call (Value.builtin "len") [Value.ref _]) _ _ _); k_here; k_dflt ((rename News _ _ _ _ => lN'); (refine' kst_len lN' ?kmZ9 ?keZ9 ?kfZ9 ?_); (case kmZ9 => k_mem); (case keZ9 => assumption); (case kfZ9 => omega); (try dsimp only); (try k_fold)))) | (((with_reducible show wpAny _ _ (call (Value.type _) [Value.int _ _]) _ _ _); k_here; k_dflt ((rename Fr _ _ _ _ => lF'); (rename News _ _ _ _ => lN'); (refine' range_led lF' lN' ?_); clear lF' lN'; intro r9 h9 tk9 t9 u9 v9 F9 N9; (try dsimp only); (try k_fold)))) | ((k_here; (with_reducible show wpAny _ _ (call (Value.type _) [Value.ref _]) _ _ _); (rename IsRange _ _ _ _ _ _ _ _ => rgX); (with_unfolding_all refine' list_step ?k0Z9 ?k1Z9 ?k2Z9 ?k3Z9 ?k4Z9 ?k5Z9 ?k6Z9 ?_; (case k0Z9 => rfl); (case k1Z9 => k_asm); (case k2Z9 => k_asm); (case k3Z9 => exact rgX); (case k4Z9 => exact small_two (by omega) (by omega)); (case k5Z9 => exact range_two (by omega)); (case k6Z9 => omega)); intro _ _ _ _ _ _ _ l1 _; (try k_lt l1))) | ((k_here; (with_reducible show wpAny _ _ (subscriptTail _ (Expr.Slice none (some _) none _) _ _) _ _ _); (with_reducible rename Fr _ _ _ _ => F'); (with_reducible rename News _ _ _ _ => N'); (refine slice_none (s := ⟨_, _, _, _, _⟩) F' N' ?_ (hsz := ?hszZ9)); (case hszZ9 => (rw [sizeLine_eq]; omega)); intro _ _ _ _ _)) | ((k_here; k_openite; first | (refine ite_pos ?hxZ9 ?_; (case hxZ9 => first | with_reducible assumption | (simp only [decide_eq_true_eq, decide_eq_false_iff_not, Bool.not_eq_true', Bool.not_eq_false', bne_iff_ne, ne_eq]; omega))) | (refine ite_neg ?hxZ9 ?_; (case hxZ9 => first | with_reducible assumption | (simp only [decide_eq_true_eq, decide_eq_false_iff_not, Bool.not_eq_true', Bool.not_eq_false', bne_iff_ne, ne_eq, Bool.not_eq_true, Decidable.not_not]; omega))) | (refine ite_b (fun hc => ?_) (fun hc => ?_) <;> (try simp only [decide_eq_true_eq, decide_eq_false_iff_not, Bool.not_eq_true', Bool.not_eq_false', bne_iff_ne, ne_eq, bne_eq_false_iff_eq, Decidable.not_not, Int.not_lt, Int.not_le] at hc)))) | (fail_if_success (with_reducible show LCg.CompSrc _ _ _ _ _ _ _ _ _ _ _ _ _ _)); (fail_if_success (with_reducible show LCg.CompEnd _ _ _ _ _ _ _ _ _ _ _ _ _ _)); (fail_if_success (with_reducible show wpAny _ _ (exec (Stmt.For _ _ _ _ _) _) _ _ _)); (fail_if_success (with_reducible show wpAny _ _ (pyIter _) _ _ _)); first | (k_unfold; (try dsimp only)) | walk1 | (dsimp only; walk1) | (leave1; try dsimp only) | fail "no step"))
      k_dflt (refine' cend_one ?eF ?eN ?el off ?eS ⟨_, rfl, NCell.cons ?ec hR, .tail _ hm, ?eA⟩)
      case eF => assumption
      case eN => assumption
      case el => assumption
      case ec => rfl
      case eS => exact .inr ⟨_, List.mem_append_right _ (.tail _ hm), rfl, _, rfl⟩
      case eA =>
        rw [take_snoc hl]
        exact AllIn.snoc ⟨_, _, _, rfl, (by dsimp only; rw [Int.toNat_of_nonneg hb1.1, Int.toNat_of_nonneg hb2.1]; exact .head _)⟩ (AllIn.mono (TupR.mono fun z hz => .tail _ hz) hA)

-- l2_c1
  clear F1 N0 N0c
  intro h tk qq1
  refine hideG fun Gx hG => ?_
  obtain ⟨T, ys, cT, R, F2, N2, hR, hT, hA⟩ := qq1
  refine hG ?_
  clear hG
  rw [hcells] at N2
  have N2c : News _ _ _ (cellsL _ v1 v2 v3 v4 v5 v6 ++ R) := N2
  clear N2 hcells
  k_dflt (refine' execs_cutF (fun h₀ L m _ h => ∃ o6 r t1 t2 t3 R, Fr h₀ L h m ∧ News h₀ L h (cellsL L v1 v2 v3 v4 v5 o6 ++ R) ∧ NCell R ∧ o6.data = .cell (some (.ref r)) ∧ B2 ns T ys cT r t1 t2 t3 R) F2 N2c ?_ ?_)

-- l2_b2
  · have N3 := kst_newsOf N2c (l' := (T, W.listOf (List.toArray ys) cT) :: (cellsL _ v1 v2 v3 v4 v5 v6 ++ R)) (fun z hz => (List.mem_cons.mp hz).elim (fun e => e ▸ List.mem_append_right _ hT) id)
    clear N2c
    have hyl := AllIn.len hA
    have hy6 := (told_len ns).2
    (repeat' (first | ((k_here; (with_reducible show wpAny _ _ (subscriptTail _ _ (Value.ref _) (Value.int _ _)) _ _ _); k_dflt (refine' item_at ?k1Z9 ?k2Z9 ?k3Z9 ?k4Z9 ?_ ?k6Z9; (case k1Z9 => exact News.isList (by k_asm) (by k_mem)); (case k4Z9 => with_reducible assumption); (case k2Z9 => omega); (case k3Z9 => omega); (case k6Z9 => with_unfolding_all rfl); k_whole))) | (((with_reducible show wpAny _ _ (call (Value.ref 129) _) _ _ _); k_here; k_dflt ((refine' ways_claim _ _ _ _ _ _ _ _ _ _ _ _ _ _ _ _ _ _ _ ?htZ9 ?hbZ9 ?hpZ9 ?hqZ9 ?hiZ9 ?hjZ9 ?e1Z9 ?e2Z9 ?e3Z9 ?e4Z9 _ _ _ _ _ _ _ _ _ _ _ _ _ _ _ _ _ _ _ _ _ ?k1Z9 ?kFZ9 ?k3Z9 ?kNZ9 ?k5Z9 ?m1Z9 ?m2Z9 ?w1Z9 ?w2Z9 ?w3Z9 ?w4Z9 ?kKZ9 ?kdZ9 ?kuZ9 ?_); (case kFZ9 => assumption); (case kNZ9 => assumption); (case m1Z9 => k_mem); (case m2Z9 => k_mem); (case e1Z9 => with_reducible assumption); (case e2Z9 => with_reducible assumption); (case e3Z9 => with_reducible assumption); (case e4Z9 => with_reducible assumption); (case w1Z9 => assumption); (case w2Z9 => assumption); (case w3Z9 => assumption); (case w4Z9 => assumption); (case htZ9 => omega); (case hbZ9 => omega); (case hpZ9 => omega); (case hqZ9 => omega); (case hiZ9 => omega); (case hjZ9 => omega); (case k1Z9 => k_asm); (case k3Z9 => k_asm); (case k5Z9 => k_asm); (case kKZ9 => first | exact rfl | assumption); (case kdZ9 => ktr_room); (case kuZ9 => ktr_units); intro h9 tk9 v9 F9 N9 st9 o9; (try dsimp only); (try k_fold)))) | (((with_reducible show wpAny _ _ (compareOp CmpOp.NotEq (Value.ref _) (Value.ref _)) _ _ _); k_here; k_dflt ((refine' ne_rows ?kNZ9 ?kFZ9 ?kDZ9 ?u1Z9 ?u2Z9 ?_); (case kFZ9 => assumption); (case kDZ9 => assumption); (case kNZ9 => assumption); (case u1Z9 => (simp only [units_in1, units_deeper, units_caller]; decide)); (case u2Z9 => (simp only [units_in1, units_deeper, units_caller]; decide)); (try dsimp only); (try k_fold)))) | (((with_reducible show wpAny _ _ (call (Value.ref 108) [Value.str _ _, Value.str _ _, Value.int _ _]) _ _ _); ((k_here; k_dflt ((refine' use_cl (lev_claim _ _ _ _ _ _ _ (by rw [leadS_len]; omega) (by rw [leadS_len]; omega) (by omega)) ?k1Z9 ?kFZ9 ?k3Z9 ?kNZ9 ?k5Z9 ?kKZ9 ?kdZ9 ?kuZ9 ?kHZ9 ?_); (case kFZ9 => assumption); (case kNZ9 => assumption); (case k1Z9 => k_asm); (case k3Z9 => k_asm); (case k5Z9 => k_asm); (case kKZ9 => first | exact rfl | assumption); (case kdZ9 => ktr_room); (case kuZ9 => ktr_units); (case kHZ9 => trivial)))); intro v9 h9 tk9 F9 N9 st9 o9; obtain ⟨t9, e9⟩ := o9; subst e9; (try dsimp only); (try k_fold))) | (((with_reducible show wpAny _ _ (call (Value.ref 136) _) _ _ _); k_here; k_dflt ((refine' due_claim _ _ _ _ _ _ _ _ _ _ _ _ _ ?htZ9 ?hbZ9 ?hiZ9 ?hjZ9 ?hsZ9 _ _ _ _ _ _ _ _ _ _ _ _ _ _ _ _ _ _ _ _ _ ?k1Z9 ?kFZ9 ?k3Z9 ?kNZ9 ?k5Z9 ?w1Z9 ?w2Z9 ?kKZ9 ?kdZ9 ?kuZ9 ?_); (case kFZ9 => assumption); (case kNZ9 => assumption); (case w1Z9 => k_mem); (case w2Z9 => k_mem); (case htZ9 => omega); (case hbZ9 => omega); (case hiZ9 => omega); (case hjZ9 => omega); (case hsZ9 => omega); (case k1Z9 => k_asm); (case k3Z9 => k_asm); (case k5Z9 => k_asm); (case kKZ9 => first | exact rfl | assumption); (case kdZ9 => ktr_room); (case kuZ9 => ktr_units); intro h9 tk9 t9 F9 N9; (try dsimp only); (try k_fold)))) | (((with_reducible show wpAny _ _ (call (Value.ref 52) _) _ _ _); k_here; k_dflt ((refine' indent_use _ _ _ _ _ _ ?kpZ9 ?kqZ9 ?ksZ9 _ _ _ _ _ _ _ _ _ _ _ _ _ _ _ _ _ _ _ _ _ ?k1Z9 ?kFZ9 ?k3Z9 ?kNZ9 ?k5Z9 ?w1Z9 ?kKZ9 ?kdZ9 ?kuZ9 ?_); (case kFZ9 => assumption); (case kNZ9 => assumption); (case w1Z9 => assumption); (case kpZ9 => omega); (case kqZ9 => omega); (case ksZ9 => omega); (case k1Z9 => k_asm); (case k3Z9 => k_asm); (case k5Z9 => k_asm); (case kKZ9 => first | exact rfl | assumption); (case kdZ9 => ktr_room); (case kuZ9 => ktr_units); intro t9 h9 tk9 F9 N9; (try dsimp only); (try k_fold)))) | (((with_reducible show wpAny _ _ (call (Value.builtin "len") [Value.ref _]) _ _ _); k_here; k_dflt ((rename News _ _ _ _ => lN'); (refine' kst_len lN' ?kmZ9 ?keZ9 ?kfZ9 ?_); (case kmZ9 => k_mem); (case keZ9 => assumption); (case kfZ9 => omega); (try dsimp only); (try k_fold)))) | (((with_reducible show wpAny _ _ (call (Value.type _) [Value.int _ _]) _ _ _); k_here; k_dflt ((rename Fr _ _ _ _ => lF'); (rename News _ _ _ _ => lN'); (refine' range_led lF' lN' ?_); clear lF' lN'; intro r9 h9 tk9 t9 u9 v9 F9 N9; (try dsimp only); (try k_fold)))) | ((k_here; (with_reducible show wpAny _ _ (call (Value.type _) [Value.ref _]) _ _ _); (rename IsRange _ _ _ _ _ _ _ _ => rgX); (with_unfolding_all refine' list_step ?k0Z9 ?k1Z9 ?k2Z9 ?k3Z9 ?k4Z9 ?k5Z9 ?k6Z9 ?_; (case k0Z9 => rfl); (case k1Z9 => k_asm); (case k2Z9 => k_asm); (case k3Z9 => exact rgX); (case k4Z9 => exact small_two (by omega) (by omega)); (case k5Z9 => exact range_two (by omega)); (case k6Z9 => omega)); intro _ _ _ _ _ _ _ l1 _; (try k_lt l1))) | ((k_here; (with_reducible show wpAny _ _ (subscriptTail _ (Expr.Slice none (some _) none _) _ _) _ _ _); (with_reducible rename Fr _ _ _ _ => F'); (with_reducible rename News _ _ _ _ => N'); (refine slice_none (s := ⟨_, _, _, _, _⟩) F' N' ?_ (hsz := ?hszZ9)); (case hszZ9 => (rw [sizeLine_eq]; omega)); intro _ _ _ _ _)) | ((k_here; k_openite; first | (refine ite_pos ?hxZ9 ?_; (case hxZ9 => first | with_reducible assumption | (simp only [decide_eq_true_eq, decide_eq_false_iff_not, Bool.not_eq_true', Bool.not_eq_false', bne_iff_ne, ne_eq]; omega))) | (refine ite_neg ?hxZ9 ?_; (case hxZ9 => first | with_reducible assumption | (simp only [decide_eq_true_eq, decide_eq_false_iff_not, Bool.not_eq_true', Bool.not_eq_false', bne_iff_ne, ne_eq, Bool.not_eq_true, Decidable.not_not]; omega))) | (refine ite_b (fun hc => ?_) (fun hc => ?_) <;> (try simp only [decide_eq_true_eq, decide_eq_false_iff_not, Bool.not_eq_true', Bool.not_eq_false', bne_iff_ne, ne_eq, bne_eq_false_iff_eq, Decidable.not_not, Int.not_lt, Int.not_le] at hc)))) | (fail_if_success (with_reducible show wpAny _ _ (eval (PySem.Expr.ListComp _ _ _ _) _) _ _ _)); (fail_if_success (with_reducible show LCp.SrcLP _ _ _ _ _ _ _ _ _ _ _ _ _ _ _)); (fail_if_success (with_reducible show wpAny _ _ (call (Value.ref _) _) _ _ _)); (fail_if_success (with_reducible show LCg.CompSrc _ _ _ _ _ _ _ _ _ _ _ _ _ _)); (fail_if_success (with_reducible show wpAny _ _ (storeName _ _ _) _ _ _)); (fail_if_success (with_reducible show LCg.CompEnd _ _ _ _ _ _ _ _ _ _ _ _ _ _)); (fail_if_success (with_reducible show wpAny _ _ (exec (Stmt.For _ _ _ _ _) _) _ _ _)); (fail_if_success (with_reducible show wpAny _ _ (pyIter _) _ _ _)); first | (k_unfold; (try dsimp only)) | walk1 | (dsimp only; walk1) | (leave1; try dsimp only) | fail "no step"))
    (rename Fr _ _ _ _ => F9; rename News _ _ _ _ => N9)
    k_dflt (refine' storeCell (X := [_, _]) (pre := [_, _, _, _, _]) (post := []) F9 N9 ?cX hR e6 ?cne ?cc ?_ ?ck ?cx)
    case cX => exact NCell.cons rfl (NCell.cons rfl (fun z hz => nomatch hz))
    case cne => (dsimp only [List.cons_append, List.nil_append, List.append_nil]; refine ne_cons (neN ?_) (ne_cons (neN ?_) (ne_cons (neN ?_) (ne_cons (neN ?_) (ne_cons (neN ?_) ne_nil)))) <;> (dsimp only; omega))
    case cc => rfl
    case ck => rfl
    case cx => rfl
    intro h' o6 F8 ho6 N8
    exact ⟨trivial, h', _, rfl, o6, _, _, _, _, _, F8, N8, NCell.cons rfl (NCell.cons rfl hR), ho6, ⟨.head _, .tail _ (.head _), AllIn.mono (TupR.mono fun z hz => .tail _ (.tail _ hz)) hA⟩⟩

-- l2_c2
  clear N2c F2 hA hR hT R
  intro h tk qq1
  refine hideG fun Gx hG => ?_
  obtain ⟨o6, r, t1, t2, t3, R, F3, N3, hR, ho6, hB⟩ := qq1
  refine hG ?_
  clear hG
  k_dflt (refine' execs_cutF (fun h₀ L m _ h => ∃ o5 P ps cP R, Fr h₀ L h m ∧ News h₀ L h (cellsL L v1 v2 v3 v4 o5 o6 ++ R) ∧ NCell R ∧ o5.data = .cell (some (.ref P)) ∧ B2 ns T ys cT r t1 t2 t3 R ∧ KnowsIn w P ps cP (toldL ns) R) F3 N3 ?_ ?_)

-- l2_b3
  · k_dflt (refine wpAny_Assign_Name ?_ (by with_unfolding_all rfl))
    k_dflt (refine LCp.ListComp_P (F₀ := F3) (by with_unfolding_all rfl) (by decide) (by rfl) (by decide) (by rfl) (by rfl) (by decide) ?_)
    (repeat' (first | ((k_here; (with_reducible show wpAny _ _ (subscriptTail _ _ (Value.ref _) (Value.int _ _)) _ _ _); k_dflt (refine' item_at ?k1Z9 ?k2Z9 ?k3Z9 ?k4Z9 ?_ ?k6Z9; (case k1Z9 => exact News.isList (by k_asm) (by k_mem)); (case k4Z9 => with_reducible assumption); (case k2Z9 => omega); (case k3Z9 => omega); (case k6Z9 => with_unfolding_all rfl); k_whole))) | (((with_reducible show wpAny _ _ (call (Value.ref 129) _) _ _ _); k_here; k_dflt ((refine' ways_claim _ _ _ _ _ _ _ _ _ _ _ _ _ _ _ _ _ _ _ ?htZ9 ?hbZ9 ?hpZ9 ?hqZ9 ?hiZ9 ?hjZ9 ?e1Z9 ?e2Z9 ?e3Z9 ?e4Z9 _ _ _ _ _ _ _ _ _ _ _ _ _ _ _ _ _ _ _ _ _ ?k1Z9 ?kFZ9 ?k3Z9 ?kNZ9 ?k5Z9 ?m1Z9 ?m2Z9 ?w1Z9 ?w2Z9 ?w3Z9 ?w4Z9 ?kKZ9 ?kdZ9 ?kuZ9 ?_); (case kFZ9 => assumption); (case kNZ9 => assumption); (case m1Z9 => k_mem); (case m2Z9 => k_mem); (case e1Z9 => with_reducible assumption); (case e2Z9 => with_reducible assumption); (case e3Z9 => with_reducible assumption); (case e4Z9 => with_reducible assumption); (case w1Z9 => assumption); (case w2Z9 => assumption); (case w3Z9 => assumption); (case w4Z9 => assumption); (case htZ9 => omega); (case hbZ9 => omega); (case hpZ9 => omega); (case hqZ9 => omega); (case hiZ9 => omega); (case hjZ9 => omega); (case k1Z9 => k_asm); (case k3Z9 => k_asm); (case k5Z9 => k_asm); (case kKZ9 => first | exact rfl | assumption); (case kdZ9 => ktr_room); (case kuZ9 => ktr_units); intro h9 tk9 v9 F9 N9 st9 o9; (try dsimp only); (try k_fold)))) | (((with_reducible show wpAny _ _ (compareOp CmpOp.NotEq (Value.ref _) (Value.ref _)) _ _ _); k_here; k_dflt ((refine' ne_rows ?kNZ9 ?kFZ9 ?kDZ9 ?u1Z9 ?u2Z9 ?_); (case kFZ9 => assumption); (case kDZ9 => assumption); (case kNZ9 => assumption); (case u1Z9 => (simp only [units_in1, units_deeper, units_caller]; decide)); (case u2Z9 => (simp only [units_in1, units_deeper, units_caller]; decide)); (try dsimp only); (try k_fold)))) | (((with_reducible show wpAny _ _ (call (Value.ref 108) [Value.str _ _, Value.str _ _, Value.int _ _]) _ _ _); ((k_here; k_dflt ((refine' use_cl (lev_claim _ _ _ _ _ _ _ (by rw [leadS_len]; omega) (by rw [leadS_len]; omega) (by omega)) ?k1Z9 ?kFZ9 ?k3Z9 ?kNZ9 ?k5Z9 ?kKZ9 ?kdZ9 ?kuZ9 ?kHZ9 ?_); (case kFZ9 => assumption); (case kNZ9 => assumption); (case k1Z9 => k_asm); (case k3Z9 => k_asm); (case k5Z9 => k_asm); (case kKZ9 => first | exact rfl | assumption); (case kdZ9 => ktr_room); (case kuZ9 => ktr_units); (case kHZ9 => trivial)))); intro v9 h9 tk9 F9 N9 st9 o9; obtain ⟨t9, e9⟩ := o9; subst e9; (try dsimp only); (try k_fold))) | (((with_reducible show wpAny _ _ (call (Value.ref 136) _) _ _ _); k_here; k_dflt ((refine' due_claim _ _ _ _ _ _ _ _ _ _ _ _ _ ?htZ9 ?hbZ9 ?hiZ9 ?hjZ9 ?hsZ9 _ _ _ _ _ _ _ _ _ _ _ _ _ _ _ _ _ _ _ _ _ ?k1Z9 ?kFZ9 ?k3Z9 ?kNZ9 ?k5Z9 ?w1Z9 ?w2Z9 ?kKZ9 ?kdZ9 ?kuZ9 ?_); (case kFZ9 => assumption); (case kNZ9 => assumption); (case w1Z9 => k_mem); (case w2Z9 => k_mem); (case htZ9 => omega); (case hbZ9 => omega); (case hiZ9 => omega); (case hjZ9 => omega); (case hsZ9 => omega); (case k1Z9 => k_asm); (case k3Z9 => k_asm); (case k5Z9 => k_asm); (case kKZ9 => first | exact rfl | assumption); (case kdZ9 => ktr_room); (case kuZ9 => ktr_units); intro h9 tk9 t9 F9 N9; (try dsimp only); (try k_fold)))) | (((with_reducible show wpAny _ _ (call (Value.ref 52) _) _ _ _); k_here; k_dflt ((refine' indent_use _ _ _ _ _ _ ?kpZ9 ?kqZ9 ?ksZ9 _ _ _ _ _ _ _ _ _ _ _ _ _ _ _ _ _ _ _ _ _ ?k1Z9 ?kFZ9 ?k3Z9 ?kNZ9 ?k5Z9 ?w1Z9 ?kKZ9 ?kdZ9 ?kuZ9 ?_); (case kFZ9 => assumption); (case kNZ9 => assumption); (case w1Z9 => assumption); (case kpZ9 => omega); (case kqZ9 => omega); (case ksZ9 => omega); (case k1Z9 => k_asm); (case k3Z9 => k_asm); (case k5Z9 => k_asm); (case kKZ9 => first | exact rfl | assumption); (case kdZ9 => ktr_room); (case kuZ9 => ktr_units); intro t9 h9 tk9 F9 N9; (try dsimp only); (try k_fold)))) | (((with_reducible show wpAny _ _ (call (Value.builtin "len") [Value.ref _]) _ _ _); k_here; k_dflt ((rename News _ _ _ _ => lN'); (refine' kst_len lN' ?kmZ9 ?keZ9 ?kfZ9 ?_); (case kmZ9 => k_mem); (case keZ9 => assumption); (case kfZ9 => omega); (try dsimp only); (try k_fold)))) | (((with_reducible show wpAny _ _ (call (Value.type _) [Value.int _ _]) _ _ _); k_here; k_dflt ((rename Fr _ _ _ _ => lF'); (rename News _ _ _ _ => lN'); (refine' range_led lF' lN' ?_); clear lF' lN'; intro r9 h9 tk9 t9 u9 v9 F9 N9; (try dsimp only); (try k_fold)))) | ((k_here; (with_reducible show wpAny _ _ (call (Value.type _) [Value.ref _]) _ _ _); (rename IsRange _ _ _ _ _ _ _ _ => rgX); (with_unfolding_all refine' list_step ?k0Z9 ?k1Z9 ?k2Z9 ?k3Z9 ?k4Z9 ?k5Z9 ?k6Z9 ?_; (case k0Z9 => rfl); (case k1Z9 => k_asm); (case k2Z9 => k_asm); (case k3Z9 => exact rgX); (case k4Z9 => exact small_two (by omega) (by omega)); (case k5Z9 => exact range_two (by omega)); (case k6Z9 => omega)); intro _ _ _ _ _ _ _ l1 _; (try k_lt l1))) | ((k_here; (with_reducible show wpAny _ _ (subscriptTail _ (Expr.Slice none (some _) none _) _ _) _ _ _); (with_reducible rename Fr _ _ _ _ => F'); (with_reducible rename News _ _ _ _ => N'); (refine slice_none (s := ⟨_, _, _, _, _⟩) F' N' ?_ (hsz := ?hszZ9)); (case hszZ9 => (rw [sizeLine_eq]; omega)); intro _ _ _ _ _)) | ((k_here; k_openite; first | (refine ite_pos ?hxZ9 ?_; (case hxZ9 => first | with_reducible assumption | (simp only [decide_eq_true_eq, decide_eq_false_iff_not, Bool.not_eq_true', Bool.not_eq_false', bne_iff_ne, ne_eq]; omega))) | (refine ite_neg ?hxZ9 ?_; (case hxZ9 => first | with_reducible assumption | (simp only [decide_eq_true_eq, decide_eq_false_iff_not, Bool.not_eq_true', Bool.not_eq_false', bne_iff_ne, ne_eq, Bool.not_eq_true, Decidable.not_not]; omega))) | (refine ite_b (fun hc => ?_) (fun hc => ?_) <;> (try simp only [decide_eq_true_eq, decide_eq_false_iff_not, Bool.not_eq_true', Bool.not_eq_false', bne_iff_ne, ne_eq, bne_eq_false_iff_eq, Decidable.not_not, Int.not_lt, Int.not_le] at hc)))) | (fail_if_success (with_reducible show wpAny _ _ (eval (PySem.Expr.ListComp _ _ _ _) _) _ _ _)); (fail_if_success (with_reducible show LCp.SrcLP _ _ _ _ _ _ _ _ _ _ _ _ _ _ _)); (fail_if_success (with_reducible show wpAny _ _ (call (Value.ref _) _) _ _ _)); (fail_if_success (with_reducible show LCg.CompSrc _ _ _ _ _ _ _ _ _ _ _ _ _ _)); (fail_if_success (with_reducible show wpAny _ _ (storeName _ _ _) _ _ _)); (fail_if_success (with_reducible show LCg.CompEnd _ _ _ _ _ _ _ _ _ _ _ _ _ _)); (fail_if_success (with_reducible show wpAny _ _ (exec (Stmt.For _ _ _ _ _) _) _ _ _)); (fail_if_success (with_reducible show wpAny _ _ (pyIter _) _ _ _)); first | (k_unfold; (try dsimp only)) | walk1 | (dsimp only; walk1) | (leave1; try dsimp only) | fail "no step"))
    have hyl := AllIn.len hB.tups
    k_dflt (refine' LCp.SrcLP.ledger rfl F3 N3 (List.mem_append_right _ hB.told) ?hsz (fun g => ?_))
    case hsz => rw [List.size_toArray, hyl]; have := (told_len ns).2; exact Nat.le_trans this (by decide)
    k_dflt (refine' comp_indP (fun i ps nx => ∃ R, nx = cellsL s1.heap.objs.size v1 v2 v3 v4 v5 o6 ++ R ∧ NCell R ∧ B2 ns T ys cT r t1 t2 t3 R ∧ AllIn (fun v (p : Nat × Nat) => KnownIn w R v p.1 p.2) ps ((toldL ns).take i)) ?hJ ?turn ?fin)
    case hJ => exact ⟨_, rfl, hR, hB, trivial⟩
    case fin =>
      intro ps nx qq1 D h tk F7 N7 o7
      refine hideG fun Gx hG => ?_
      obtain ⟨R', rfl, hR', hB', hA⟩ := qq1
      refine hG ?_
      clear hG
      rw [List.size_toArray, hyl, List.take_length] at hA
      k_dflt (refine' storeCell (X := [_]) (pre := [_, _, _, _]) (post := [_]) F7 N7 ?cX hR' e5 ?cne ?cc ?_ ?ck ?cx)
      case cX => exact NCell.cons rfl (fun z hz => nomatch hz)
      case cne => (dsimp only [List.cons_append, List.nil_append, List.append_nil]; refine ne_cons (neN ?_) (ne_cons (neN ?_) (ne_cons (neN ?_) (ne_cons (neN ?_) (ne_cons (neN ?_) ne_nil)))) <;> (dsimp only; omega))
      case cc => rfl
      case ck => rfl
      case cx => rfl
      intro h' o5 F8 ho5 N8
      exact ⟨rfl, h', _, rfl, o5, D, ps, ps.length, _, F8, N8, NCell.cons rfl hR', ho5, hB'.mono fun z hz => .tail _ hz, .head _, AllIn.mono (fun _ _ q => q.mono fun z hz => .tail _ hz) hA⟩
    case turn =>
      clear F3 N3
      intro i ps nx v hi qq1 hP
      refine hideG fun Gx hG => ?_
      obtain ⟨R', rfl, hR', hB', hA⟩ := qq1
      obtain ⟨p, hl, Dt, tx, ty, rfl, hmem⟩ := AllIn.getV hB'.tups (i := i) (v := v) (by simpa using hP)
      refine hG ?_
      clear hG
      have hlt := told_lt hl
      refine ⟨Dt, _, _, _, _, rfl, List.mem_append_right _ hmem, rfl, rfl, ?_⟩
      intro I oI C oC D m₂ h tk E' hC hx1 hx2 F7 N7 off qq1
      refine hideG fun Gx hG => ?_
      obtain ⟨ne1, ne2, ne3⟩ := qq1
      refine hG ?_
      clear hG
      (repeat' (first | ((k_here; (with_reducible show wpAny _ _ (subscriptTail _ _ (Value.ref _) (Value.int _ _)) _ _ _); k_dflt (refine' item_at ?k1Z9 ?k2Z9 ?k3Z9 ?k4Z9 ?_ ?k6Z9; (case k1Z9 => exact News.isList (by k_asm) (by k_mem)); (case k4Z9 => with_reducible assumption); (case k2Z9 => omega); (case k3Z9 => omega); (case k6Z9 => with_unfolding_all rfl); k_whole))) | (((with_reducible show wpAny _ _ (call (Value.ref 129) _) _ _ _); k_here; k_dflt ((refine' ways_claim _ _ _ _ _ _ _ _ _ _ _ _ _ _ _ _ _ _ _ ?htZ9 ?hbZ9 ?hpZ9 ?hqZ9 ?hiZ9 ?hjZ9 ?e1Z9 ?e2Z9 ?e3Z9 ?e4Z9 _ _ _ _ _ _ _ _ _ _ _ _ _ _ _ _ _ _ _ _ _ ?k1Z9 ?kFZ9 ?k3Z9 ?kNZ9 ?k5Z9 ?m1Z9 ?m2Z9 ?w1Z9 ?w2Z9 ?w3Z9 ?w4Z9 ?kKZ9 ?kdZ9 ?kuZ9 ?_); (case kFZ9 => assumption); (case kNZ9 => assumption); (case m1Z9 => k_mem); (case m2Z9 => k_mem); (case e1Z9 => with_reducible assumption); (case e2Z9 => with_reducible assumption); (case e3Z9 => with_reducible assumption); (case e4Z9 => with_reducible assumption); (case w1Z9 => assumption); (case w2Z9 => assumption); (case w3Z9 => assumption); (case w4Z9 => assumption); (case htZ9 => omega); (case hbZ9 => omega); (case hpZ9 => omega); (case hqZ9 => omega); (case hiZ9 => omega); (case hjZ9 => omega); (case k1Z9 => k_asm); (case k3Z9 => k_asm); (case k5Z9 => k_asm); (case kKZ9 => first | exact rfl | assumption); (case kdZ9 => ktr_room); (case kuZ9 => ktr_units); intro h9 tk9 v9 F9 N9 st9 o9; (try dsimp only); (try k_fold)))) | (((with_reducible show wpAny _ _ (compareOp CmpOp.NotEq (Value.ref _) (Value.ref _)) _ _ _); k_here; k_dflt ((refine' ne_rows ?kNZ9 ?kFZ9 ?kDZ9 ?u1Z9 ?u2Z9 ?_); (case kFZ9 => assumption); (case kDZ9 => assumption); (case kNZ9 => assumption); (case u1Z9 => (simp only [units_in1, units_deeper, units_caller]; decide)); (case u2Z9 => (simp only [units_in1, units_deeper, units_caller]; decide)); (try dsimp only); (try k_fold)))) | (((with_reducible show wpAny _ _ (call (Value.ref 108) [Value.str _ _, Value.str _ _, Value.int _ _]) _ _ _); ((k_here; k_dflt ((refine' use_cl (lev_claim _ _ _ _ _ _ _ (by rw [leadS_len]; omega) (by rw [leadS_len]; omega) (by omega)) ?k1Z9 ?kFZ9 ?k3Z9 ?kNZ9 ?k5Z9 ?kKZ9 ?kdZ9 ?kuZ9 ?kHZ9 ?_); (case kFZ9 => assumption); (case kNZ9 => assumption); (case k1Z9 => k_asm); (case k3Z9 => k_asm); (case k5Z9 => k_asm); (case kKZ9 => first | exact rfl | assumption); (case kdZ9 => ktr_room); (case kuZ9 => ktr_units); (case kHZ9 => trivial)))); intro v9 h9 tk9 F9 N9 st9 o9; obtain ⟨t9, e9⟩ := o9; subst e9; (try dsimp only); (try k_fold))) | (((with_reducible show wpAny _ _ (call (Value.ref 136) _) _ _ _); k_here; k_dflt ((refine' due_claim _ _ _ _ _ _ _ _ _ _ _ _ _ ?htZ9 ?hbZ9 ?hiZ9 ?hjZ9 ?hsZ9 _ _ _ _ _ _ _ _ _ _ _ _ _ _ _ _ _ _ _ _ _ ?k1Z9 ?kFZ9 ?k3Z9 ?kNZ9 ?k5Z9 ?w1Z9 ?w2Z9 ?kKZ9 ?kdZ9 ?kuZ9 ?_); (case kFZ9 => assumption); (case kNZ9 => assumption); (case w1Z9 => k_mem); (case w2Z9 => k_mem); (case htZ9 => omega); (case hbZ9 => omega); (case hiZ9 => omega); (case hjZ9 => omega); (case hsZ9 => omega); (case k1Z9 => k_asm); (case k3Z9 => k_asm); (case k5Z9 => k_asm); (case kKZ9 => first | exact rfl | assumption); (case kdZ9 => ktr_room); (case kuZ9 => ktr_units); intro h9 tk9 t9 F9 N9; (try dsimp only); (try k_fold)))) | (((with_reducible show wpAny _ _ (call (Value.ref 52) _) _ _ _); k_here; k_dflt ((refine' indent_use _ _ _ _ _ _ ?kpZ9 ?kqZ9 ?ksZ9 _ _ _ _ _ _ _ _ _ _ _ _ _ _ _ _ _ _ _ _ _ ?k1Z9 ?kFZ9 ?k3Z9 ?kNZ9 ?k5Z9 ?w1Z9 ?kKZ9 ?kdZ9 ?kuZ9 ?_); (case kFZ9 => assumption); (case kNZ9 => assumption); (case w1Z9 => assumption); (case kpZ9 => omega); (case kqZ9 => omega); (case ksZ9 => omega); (case k1Z9 => k_asm); (case k3Z9 => k_asm); (case k5Z9 => k_asm); (case kKZ9 => first | exact rfl | assumption); (case kdZ9 => ktr_room); (case kuZ9 => ktr_units); intro t9 h9 tk9 F9 N9; (try dsimp only); (try k_fold)))) | (((with_reducible show wpAny _ _ (call (Value.builtin "len") [Value.ref _]) _ _ _); k_here; k_dflt ((rename News _ _ _ _ => lN'); (refine' kst_len lN' ?kmZ9 ?keZ9 ?kfZ9 ?_); (case kmZ9 => k_mem); (case keZ9 => assumption); (case kfZ9 => omega); (try dsimp only); (try k_fold)))) | (((with_reducible show wpAny _ _ (call (Value.type _) [Value.int _ _]) _ _ _); k_here; k_dflt ((rename Fr _ _ _ _ => lF'); (rename News _ _ _ _ => lN'); (refine' range_led lF' lN' ?_); clear lF' lN'; intro r9 h9 tk9 t9 u9 v9 F9 N9; (try dsimp only); (try k_fold)))) | ((k_here; (with_reducible show wpAny _ _ (call (Value.type _) [Value.ref _]) _ _ _); (rename IsRange _ _ _ _ _ _ _ _ => rgX); (with_unfolding_all refine' list_step ?k0Z9 ?k1Z9 ?k2Z9 ?k3Z9 ?k4Z9 ?k5Z9 ?k6Z9 ?_; (case k0Z9 => rfl); (case k1Z9 => k_asm); (case k2Z9 => k_asm); (case k3Z9 => exact rgX); (case k4Z9 => exact small_two (by omega) (by omega)); (case k5Z9 => exact range_two (by omega)); (case k6Z9 => omega)); intro _ _ _ _ _ _ _ l1 _; (try k_lt l1))) | ((k_here; (with_reducible show wpAny _ _ (subscriptTail _ (Expr.Slice none (some _) none _) _ _) _ _ _); (with_reducible rename Fr _ _ _ _ => F'); (with_reducible rename News _ _ _ _ => N'); (refine slice_none (s := ⟨_, _, _, _, _⟩) F' N' ?_ (hsz := ?hszZ9)); (case hszZ9 => (rw [sizeLine_eq]; omega)); intro _ _ _ _ _)) | ((k_here; k_openite; first | (refine ite_pos ?hxZ9 ?_; (case hxZ9 => first | with_reducible assumption | (simp only [decide_eq_true_eq, decide_eq_false_iff_not, Bool.not_eq_true', Bool.not_eq_false', bne_iff_ne, ne_eq]; omega))) | (refine ite_neg ?hxZ9 ?_; (case hxZ9 => first | with_reducible assumption | (simp only [decide_eq_true_eq, decide_eq_false_iff_not, Bool.not_eq_true', Bool.not_eq_false', bne_iff_ne, ne_eq, Bool.not_eq_true, Decidable.not_not]; omega))) | (refine ite_b (fun hc => ?_) (fun hc => ?_) <;> (try simp only [decide_eq_true_eq, decide_eq_false_iff_not, Bool.not_eq_true', Bool.not_eq_false', bne_iff_ne, ne_eq, bne_eq_false_iff_eq, Decidable.not_not, Int.not_lt, Int.not_le] at hc)))) | (fail_if_success (with_reducible show wpAny _ _ (eval (PySem.Expr.ListComp _ _ _ _) _) _ _ _)); (fail_if_success (with_reducible show LCp.SrcLP _ _ _ _ _ _ _ _ _ _ _ _ _ _ _)); (fail_if_success (with_reducible show wpAny _ _ (call (Value.ref _) _) _ _ _)); (fail_if_success (with_reducible show LCg.CompSrc _ _ _ _ _ _ _ _ _ _ _ _ _ _)); (fail_if_success (with_reducible show wpAny _ _ (storeName _ _ _) _ _ _)); (fail_if_success (with_reducible show LCg.CompEnd _ _ _ _ _ _ _ _ _ _ _ _ _ _)); (fail_if_success (with_reducible show wpAny _ _ (exec (Stmt.For _ _ _ _ _) _) _ _ _)); (fail_if_success (with_reducible show wpAny _ _ (pyIter _) _ _ _)); first | (k_unfold; (try dsimp only)) | walk1 | (dsimp only; walk1) | (leave1; try dsimp only) | fail "no step"))
      ((k_here; k_dflt ((refine' use_cl (known_claim _ _ _ _ _ (by omega) (by omega)) ?k1Z9 ?kFZ9 ?k3Z9 ?kNZ9 ?k5Z9 ?kKZ9 ?kdZ9 ?kuZ9 ?kHZ9 ?_); (case kFZ9 => assumption); (case kNZ9 => assumption); (case k1Z9 => k_asm); (case k3Z9 => k_asm); (case k5Z9 => k_asm); (case kKZ9 => first | exact rfl | assumption); (case kdZ9 => ktr_room); (case kuZ9 => ktr_units); (case kHZ9 => trivial))))
      intro v9 h9 tk9 F9 N9 st9 qq1
      refine hideG fun Gx hG => ?_
      obtain ⟨objs, hPo, ho⟩ := qq1
      refine hG ?_
      clear hG
      rw [Int.toNat_natCast, Int.toNat_natCast] at hPo
      (repeat' (first | ((k_here; (with_reducible show wpAny _ _ (subscriptTail _ _ (Value.ref _) (Value.int _ _)) _ _ _); k_dflt (refine' item_at ?k1Z9 ?k2Z9 ?k3Z9 ?k4Z9 ?_ ?k6Z9; (case k1Z9 => exact News.isList (by k_asm) (by k_mem)); (case k4Z9 => with_reducible assumption); (case k2Z9 => omega); (case k3Z9 => omega); (case k6Z9 => with_unfolding_all rfl); k_whole))) | (((with_reducible show wpAny _ _ (call (Value.ref 129) _) _ _ _); k_here; k_dflt ((refine' ways_claim _ _ _ _ _ _ _ _ _ _ _ _ _ _ _ _ _ _ _ ?htZ9 ?hbZ9 ?hpZ9 ?hqZ9 ?hiZ9 ?hjZ9 ?e1Z9 ?e2Z9 ?e3Z9 ?e4Z9 _ _ _ _ _ _ _ _ _ _ _ _ _ _ _ _ _ _ _ _ _ ?k1Z9 ?kFZ9 ?k3Z9 ?kNZ9 ?k5Z9 ?m1Z9 ?m2Z9 ?w1Z9 ?w2Z9 ?w3Z9 ?w4Z9 ?kKZ9 ?kdZ9 ?kuZ9 ?_); (case kFZ9 => assumption); (case kNZ9 => assumption); (case m1Z9 => k_mem); (case m2Z9 => k_mem); (case e1Z9 => with_reducible assumption); (case e2Z9 => with_reducible assumption); (case e3Z9 => with_reducible assumption); (case e4Z9 => with_reducible assumption); (case w1Z9 => assumption); (case w2Z9 => assumption); (case w3Z9 => assumption); (case w4Z9 => assumption); (case htZ9 => omega); (case hbZ9 => omega); (case hpZ9 => omega); (case hqZ9 => omega); (case hiZ9 => omega); (case hjZ9 => omega); (case k1Z9 => k_asm); (case k3Z9 => k_asm); (case k5Z9 => k_asm); (case kKZ9 => first | exact rfl | assumption); (case kdZ9 => ktr_room); (case kuZ9 => ktr_units); intro h9 tk9 v9 F9 N9 st9 o9; (try dsimp only); (try k_fold)))) | (((with_reducible show wpAny _ _ (compareOp CmpOp.NotEq (Value.ref _) (Value.ref _)) _ _ _); k_here; k_dflt ((refine' ne_rows ?kNZ9 ?kFZ9 ?kDZ9 ?u1Z9 ?u2Z9 ?_); (case kFZ9 => assumption); (case kDZ9 => assumption); (case kNZ9 => assumption); (case u1Z9 => (simp only [units_in1, units_deeper, units_caller]; decide)); (case u2Z9 => (simp only [units_in1, units_deeper, units_caller]; decide)); (try dsimp only); (try k_fold)))) | (((with_reducible show wpAny _ _ (call (Value.ref 108) [Value.str _ _, Value.str _ _, Value.int _ _]) _ _ _); ((k_here; k_dflt ((refine' use_cl (lev_claim _ _ _ _ _ _ _ (by rw [leadS_len]; omega) (by rw [leadS_len]; omega) (by omega)) ?k1Z9 ?kFZ9 ?k3Z9 ?kNZ9 ?k5Z9 ?kKZ9 ?kdZ9 ?kuZ9 ?kHZ9 ?_); (case kFZ9 => assumption); (case kNZ9 => assumption); (case k1Z9 => k_asm); (case k3Z9 => k_asm); (case k5Z9 => k_asm); (case kKZ9 => first | exact rfl | assumption); (case kdZ9 => ktr_room); (case kuZ9 => ktr_units); (case kHZ9 => trivial)))); intro v9 h9 tk9 F9 N9 st9 o9; obtain ⟨t9, e9⟩ := o9; subst e9; (try dsimp only); (try k_fold))) | (((with_reducible show wpAny _ _ (call (Value.ref 136) _) _ _ _); k_here; k_dflt ((refine' due_claim _ _ _ _ _ _ _ _ _ _ _ _ _ ?htZ9 ?hbZ9 ?hiZ9 ?hjZ9 ?hsZ9 _ _ _ _ _ _ _ _ _ _ _ _ _ _ _ _ _ _ _ _ _ ?k1Z9 ?kFZ9 ?k3Z9 ?kNZ9 ?k5Z9 ?w1Z9 ?w2Z9 ?kKZ9 ?kdZ9 ?kuZ9 ?_); (case kFZ9 => assumption); (case kNZ9 => assumption); (case w1Z9 => k_mem); (case w2Z9 => k_mem); (case htZ9 => omega); (case hbZ9 => omega); (case hiZ9 => omega); (case hjZ9 => omega); (case hsZ9 => omega); (case k1Z9 => k_asm); (case k3Z9 => k_asm); (case k5Z9 => k_asm); (case kKZ9 => first | exact rfl | assumption); (case kdZ9 => ktr_room); (case kuZ9 => ktr_units); intro h9 tk9 t9 F9 N9; (try dsimp only); (try k_fold)))) | (((with_reducible show wpAny _ _ (call (Value.ref 52) _) _ _ _); k_here; k_dflt ((refine' indent_use _ _ _ _ _ _ ?kpZ9 ?kqZ9 ?ksZ9 _ _ _ _ _ _ _ _ _ _ _ _ _ _ _ _ _ _ _ _ _ ?k1Z9 ?kFZ9 ?k3Z9 ?kNZ9 ?k5Z9 ?w1Z9 ?kKZ9 ?kdZ9 ?kuZ9 ?_); (case kFZ9 => assumption); (case kNZ9 => assumption); (case w1Z9 => assumption); (case kpZ9 => omega); (case kqZ9 => omega); (case ksZ9 => omega); (case k1Z9 => k_asm); (case k3Z9 => k_asm); (case k5Z9 => k_asm); (case kKZ9 => first | exact rfl | assumption); (case kdZ9 => ktr_room); (case kuZ9 => ktr_units); intro t9 h9 tk9 F9 N9; (try dsimp only); (try k_fold)))) | (((with_reducible show wpAny _ _ (call (Value.builtin "len") [Value.ref _]) _ _ _); k_here; k_dflt ((rename News _ _ _ _ => lN'); (refine' kst_len lN' ?kmZ9 ?keZ9 ?kfZ9 ?_); (case kmZ9 => k_mem); (case keZ9 => assumption); (case kfZ9 => omega); (try dsimp only); (try k_fold)))) | (((with_reducible show wpAny _ _ (call (Value.type _) [Value.int _ _]) _ _ _); k_here; k_dflt ((rename Fr _ _ _ _ => lF'); (rename News _ _ _ _ => lN'); (refine' range_led lF' lN' ?_); clear lF' lN'; intro r9 h9 tk9 t9 u9 v9 F9 N9; (try dsimp only); (try k_fold)))) | ((k_here; (with_reducible show wpAny _ _ (call (Value.type _) [Value.ref _]) _ _ _); (rename IsRange _ _ _ _ _ _ _ _ => rgX); (with_unfolding_all refine' list_step ?k0Z9 ?k1Z9 ?k2Z9 ?k3Z9 ?k4Z9 ?k5Z9 ?k6Z9 ?_; (case k0Z9 => rfl); (case k1Z9 => k_asm); (case k2Z9 => k_asm); (case k3Z9 => exact rgX); (case k4Z9 => exact small_two (by omega) (by omega)); (case k5Z9 => exact range_two (by omega)); (case k6Z9 => omega)); intro _ _ _ _ _ _ _ l1 _; (try k_lt l1))) | ((k_here; (with_reducible show wpAny _ _ (subscriptTail _ (Expr.Slice none (some _) none _) _ _) _ _ _); (with_reducible rename Fr _ _ _ _ => F'); (with_reducible rename News _ _ _ _ => N'); (refine slice_none (s := ⟨_, _, _, _, _⟩) F' N' ?_ (hsz := ?hszZ9)); (case hszZ9 => (rw [sizeLine_eq]; omega)); intro _ _ _ _ _)) | ((k_here; k_openite; first | (refine ite_pos ?hxZ9 ?_; (case hxZ9 => first | with_reducible assumption | (simp only [decide_eq_true_eq, decide_eq_false_iff_not, Bool.not_eq_true', Bool.not_eq_false', bne_iff_ne, ne_eq]; omega))) | (refine ite_neg ?hxZ9 ?_; (case hxZ9 => first | with_reducible assumption | (simp only [decide_eq_true_eq, decide_eq_false_iff_not, Bool.not_eq_true', Bool.not_eq_false', bne_iff_ne, ne_eq, Bool.not_eq_true, Decidable.not_not]; omega))) | (refine ite_b (fun hc => ?_) (fun hc => ?_) <;> (try simp only [decide_eq_true_eq, decide_eq_false_iff_not, Bool.not_eq_true', Bool.not_eq_false', bne_iff_ne, ne_eq, bne_eq_false_iff_eq, Decidable.not_not, Int.not_lt, Int.not_le] at hc)))) | (fail_if_success (with_reducible show wpAny _ _ (eval (PySem.Expr.ListComp _ _ _ _) _) _ _ _)); (fail_if_success (with_reducible show LCp.SrcLP _ _ _ _ _ _ _ _ _ _ _ _ _ _ _)); (fail_if_success (with_reducible show wpAny _ _ (call (Value.ref _) _) _ _ _)); (fail_if_success (with_reducible show LCg.CompSrc _ _ _ _ _ _ _ _ _ _ _ _ _ _)); (fail_if_success (with_reducible show wpAny _ _ (storeName _ _ _) _ _ _)); (fail_if_success (with_reducible show LCg.CompEnd _ _ _ _ _ _ _ _ _ _ _ _ _ _)); (fail_if_success (with_reducible show wpAny _ _ (exec (Stmt.For _ _ _ _ _) _) _ _ _)); (fail_if_success (with_reducible show wpAny _ _ (pyIter _) _ _ _)); first | (k_unfold; (try dsimp only)) | walk1 | (dsimp only; walk1) | (leave1; try dsimp only) | fail "no step"))
      k_dflt (refine' cend_new F7 N7 st9 (objs := noC objs) (fun p hp => ho p (noC_sub p hp)) off ?eS ⟨_, rfl, NCell.app (noC_ncell _) hR', hB'.mono (fun z hz => List.mem_append_right _ hz), ?eA⟩)
      case eS => exact .inr ⟨_, List.mem_append_right _ (List.mem_append_right _ hB'.told), rfl, _, rfl⟩
      case eA =>
        rw [take_snoc hl]
        exact AllIn.snoc (KnownIn.mono (KnownIn.noC hPo) fun z hz => List.mem_append_left _ hz) (AllIn.mono (fun _ _ q => q.mono fun z hz => List.mem_append_right _ hz) hA)

-- l2_c3
  clear N3 F3 hR hB R
  intro h tk qq1
  refine hideG fun Gx hG => ?_
  obtain ⟨o5, P, ps, cP, R, F3, N3, hR, ho5, hB, hKP⟩ := qq1
  refine hG ?_
  clear hG
  k_dflt (refine' execs_cutF (fun h₀ L m _ h => ∃ o4 M ms cM R, Fr h₀ L h m ∧ News h₀ L h (cellsL L v1 v2 v3 o4 o5 o6 ++ R) ∧ NCell R ∧ o4.data = .cell (some (.ref M)) ∧ B2 ns T ys cT r t1 t2 t3 R ∧ KnowsIn w P ps cP (toldL ns) R ∧ MirrIn w M ms cM (toldL ns) R) F3 N3 ?_ ?_)

-- l2_b4
  · k_dflt (refine wpAny_Assign_Name ?_ (by with_unfolding_all rfl))
    k_dflt (refine LCp.ListComp_P (F₀ := F3) (by with_unfolding_all rfl) (by decide) (by rfl) (by decide) (by rfl) (by rfl) (by decide) ?_)
    (repeat' (first | ((k_here; (with_reducible show wpAny _ _ (subscriptTail _ _ (Value.ref _) (Value.int _ _)) _ _ _); k_dflt (refine' item_at ?k1Z9 ?k2Z9 ?k3Z9 ?k4Z9 ?_ ?k6Z9; (case k1Z9 => exact News.isList (by k_asm) (by k_mem)); (case k4Z9 => with_reducible assumption); (case k2Z9 => omega); (case k3Z9 => omega); (case k6Z9 => with_unfolding_all rfl); k_whole))) | (((with_reducible show wpAny _ _ (call (Value.ref 129) _) _ _ _); k_here; k_dflt ((refine' ways_claim _ _ _ _ _ _ _ _ _ _ _ _ _ _ _ _ _ _ _ ?htZ9 ?hbZ9 ?hpZ9 ?hqZ9 ?hiZ9 ?hjZ9 ?e1Z9 ?e2Z9 ?e3Z9 ?e4Z9 _ _ _ _ _ _ _ _ _ _ _ _ _ _ _ _ _ _ _ _ _ ?k1Z9 ?kFZ9 ?k3Z9 ?kNZ9 ?k5Z9 ?m1Z9 ?m2Z9 ?w1Z9 ?w2Z9 ?w3Z9 ?w4Z9 ?kKZ9 ?kdZ9 ?kuZ9 ?_); (case kFZ9 => assumption); (case kNZ9 => assumption); (case m1Z9 => k_mem); (case m2Z9 => k_mem); (case e1Z9 => with_reducible assumption); (case e2Z9 => with_reducible assumption); (case e3Z9 => with_reducible assumption); (case e4Z9 => with_reducible assumption); (case w1Z9 => assumption); (case w2Z9 => assumption); (case w3Z9 => assumption); (case w4Z9 => assumption); (case htZ9 => omega); (case hbZ9 => omega); (case hpZ9 => omega); (case hqZ9 => omega); (case hiZ9 => omega); (case hjZ9 => omega); (case k1Z9 => k_asm); (case k3Z9 => k_asm); (case k5Z9 => k_asm); (case kKZ9 => first | exact rfl | assumption); (case kdZ9 => ktr_room); (case kuZ9 => ktr_units); intro h9 tk9 v9 F9 N9 st9 o9; (try dsimp only); (try k_fold)))) | (((with_reducible show wpAny _ _ (compareOp CmpOp.NotEq (Value.ref _) (Value.ref _)) _ _ _); k_here; k_dflt ((refine' ne_rows ?kNZ9 ?kFZ9 ?kDZ9 ?u1Z9 ?u2Z9 ?_); (case kFZ9 => assumption); (case kDZ9 => assumption); (case kNZ9 => assumption); (case u1Z9 => (simp only [units_in1, units_deeper, units_caller]; decide)); (case u2Z9 => (simp only [units_in1, units_deeper, units_caller]; decide)); (try dsimp only); (try k_fold)))) | (((with_reducible show wpAny _ _ (call (Value.ref 108) [Value.str _ _, Value.str _ _, Value.int _ _]) _ _ _); ((k_here; k_dflt ((refine' use_cl (lev_claim _ _ _ _ _ _ _ (by rw [leadS_len]; omega) (by rw [leadS_len]; omega) (by omega)) ?k1Z9 ?kFZ9 ?k3Z9 ?kNZ9 ?k5Z9 ?kKZ9 ?kdZ9 ?kuZ9 ?kHZ9 ?_); (case kFZ9 => assumption); (case kNZ9 => assumption); (case k1Z9 => k_asm); (case k3Z9 => k_asm); (case k5Z9 => k_asm); (case kKZ9 => first | exact rfl | assumption); (case kdZ9 => ktr_room); (case kuZ9 => ktr_units); (case kHZ9 => trivial)))); intro v9 h9 tk9 F9 N9 st9 o9; obtain ⟨t9, e9⟩ := o9; subst e9; (try dsimp only); (try k_fold))) | (((with_reducible show wpAny _ _ (call (Value.ref 136) _) _ _ _); k_here; k_dflt ((refine' due_claim _ _ _ _ _ _ _ _ _ _ _ _ _ ?htZ9 ?hbZ9 ?hiZ9 ?hjZ9 ?hsZ9 _ _ _ _ _ _ _ _ _ _ _ _ _ _ _ _ _ _ _ _ _ ?k1Z9 ?kFZ9 ?k3Z9 ?kNZ9 ?k5Z9 ?w1Z9 ?w2Z9 ?kKZ9 ?kdZ9 ?kuZ9 ?_); (case kFZ9 => assumption); (case kNZ9 => assumption); (case w1Z9 => k_mem); (case w2Z9 => k_mem); (case htZ9 => omega); (case hbZ9 => omega); (case hiZ9 => omega); (case hjZ9 => omega); (case hsZ9 => omega); (case k1Z9 => k_asm); (case k3Z9 => k_asm); (case k5Z9 => k_asm); (case kKZ9 => first | exact rfl | assumption); (case kdZ9 => ktr_room); (case kuZ9 => ktr_units); intro h9 tk9 t9 F9 N9; (try dsimp only); (try k_fold)))) | (((with_reducible show wpAny _ _ (call (Value.ref 52) _) _ _ _); k_here; k_dflt ((refine' indent_use _ _ _ _ _ _ ?kpZ9 ?kqZ9 ?ksZ9 _ _ _ _ _ _ _ _ _ _ _ _ _ _ _ _ _ _ _ _ _ ?k1Z9 ?kFZ9 ?k3Z9 ?kNZ9 ?k5Z9 ?w1Z9 ?kKZ9 ?kdZ9 ?kuZ9 ?_); (case kFZ9 => assumption); (case kNZ9 => assumption); (case w1Z9 => assumption); (case kpZ9 => omega); (case kqZ9 => omega); (case ksZ9 => omega); (case k1Z9 => k_asm); (case k3Z9 => k_asm); (case k5Z9 => k_asm); (case kKZ9 => first | exact rfl | assumption); (case kdZ9 => ktr_room); (case kuZ9 => ktr_units); intro t9 h9 tk9 F9 N9; (try dsimp only); (try k_fold)))) | (((with_reducible show wpAny _ _ (call (Value.builtin "len") [Value.ref _]) _ _ _); k_here; k_dflt ((rename News _ _ _ _ => lN'); (refine' kst_len lN' ?kmZ9 ?keZ9 ?kfZ9 ?_); (case kmZ9 => k_mem); (case keZ9 => assumption); (case kfZ9 => omega); (try dsimp only); (try k_fold)))) | (((with_reducible show wpAny _ _ (call (Value.type _) [Value.int _ _]) _ _ _); k_here; k_dflt ((rename Fr _ _ _ _ => lF'); (rename News _ _ _ _ => lN'); (refine' range_led lF' lN' ?_); clear lF' lN'; intro r9 h9 tk9 t9 u9 v9 F9 N9; (try dsimp only); (try k_fold)))) | ((k_here; (with_reducible show wpAny _ _ (call (Value.type _) [Value.ref _]) _ _ _); (rename IsRange _ _ _ _ _ _ _ _ => rgX); (with_unfolding_all refine' list_step ?k0Z9 ?k1Z9 ?k2Z9 ?k3Z9 ?k4Z9 ?k5Z9 ?k6Z9 ?_; (case k0Z9 => rfl); (case k1Z9 => k_asm); (case k2Z9 => k_asm); (case k3Z9 => exact rgX); (case k4Z9 => exact small_two (by omega) (by omega)); (case k5Z9 => exact range_two (by omega)); (case k6Z9 => omega)); intro _ _ _ _ _ _ _ l1 _; (try k_lt l1))) | ((k_here; (with_reducible show wpAny _ _ (subscriptTail _ (Expr.Slice none (some _) none _) _ _) _ _ _); (with_reducible rename Fr _ _ _ _ => F'); (with_reducible rename News _ _ _ _ => N'); (refine slice_none (s := ⟨_, _, _, _, _⟩) F' N' ?_ (hsz := ?hszZ9)); (case hszZ9 => (rw [sizeLine_eq]; omega)); intro _ _ _ _ _)) | ((k_here; k_openite; first | (refine ite_pos ?hxZ9 ?_; (case hxZ9 => first | with_reducible assumption | (simp only [decide_eq_true_eq, decide_eq_false_iff_not, Bool.not_eq_true', Bool.not_eq_false', bne_iff_ne, ne_eq]; omega))) | (refine ite_neg ?hxZ9 ?_; (case hxZ9 => first | with_reducible assumption | (simp only [decide_eq_true_eq, decide_eq_false_iff_not, Bool.not_eq_true', Bool.not_eq_false', bne_iff_ne, ne_eq, Bool.not_eq_true, Decidable.not_not]; omega))) | (refine ite_b (fun hc => ?_) (fun hc => ?_) <;> (try simp only [decide_eq_true_eq, decide_eq_false_iff_not, Bool.not_eq_true', Bool.not_eq_false', bne_iff_ne, ne_eq, bne_eq_false_iff_eq, Decidable.not_not, Int.not_lt, Int.not_le] at hc)))) | (fail_if_success (with_reducible show wpAny _ _ (eval (PySem.Expr.ListComp _ _ _ _) _) _ _ _)); (fail_if_success (with_reducible show LCp.SrcLP _ _ _ _ _ _ _ _ _ _ _ _ _ _ _)); (fail_if_success (with_reducible show wpAny _ _ (call (Value.ref _) _) _ _ _)); (fail_if_success (with_reducible show LCg.CompSrc _ _ _ _ _ _ _ _ _ _ _ _ _ _)); (fail_if_success (with_reducible show wpAny _ _ (storeName _ _ _) _ _ _)); (fail_if_success (with_reducible show LCg.CompEnd _ _ _ _ _ _ _ _ _ _ _ _ _ _)); (fail_if_success (with_reducible show wpAny _ _ (exec (Stmt.For _ _ _ _ _) _) _ _ _)); (fail_if_success (with_reducible show wpAny _ _ (pyIter _) _ _ _)); first | (k_unfold; (try dsimp only)) | walk1 | (dsimp only; walk1) | (leave1; try dsimp only) | fail "no step"))
    have hyl := AllIn.len hB.tups
    k_dflt (refine' LCp.SrcLP.ledger rfl F3 N3 (List.mem_append_right _ hB.told) ?hsz (fun g => ?_))
    case hsz => rw [List.size_toArray, hyl]; have := (told_len ns).2; exact Nat.le_trans this (by decide)
    k_dflt (refine' comp_indP (fun i ms nx => ∃ R, nx = cellsL s1.heap.objs.size v1 v2 v3 v4 o5 o6 ++ R ∧ NCell R ∧ B2 ns T ys cT r t1 t2 t3 R ∧ KnowsIn w P ps cP (toldL ns) R ∧ AllIn (fun v (p : Nat × Nat) => KnownIn w R v p.2 p.1) ms ((toldL ns).take i)) ?hJ ?turn ?fin)
    case hJ => exact ⟨_, rfl, hR, hB, hKP, trivial⟩
    case fin =>
      intro ms nx qq1 D h tk F7 N7 o7
      refine hideG fun Gx hG => ?_
      obtain ⟨R', rfl, hR', hB', hKP', hA⟩ := qq1
      refine hG ?_
      clear hG
      rw [List.size_toArray, hyl, List.take_length] at hA
      k_dflt (refine' storeCell (X := [_]) (pre := [_, _, _]) (post := [_, _]) F7 N7 ?cX hR' e4 ?cne ?cc ?_ ?ck ?cx)
      case cX => exact NCell.cons rfl (fun z hz => nomatch hz)
      case cne => (dsimp only [List.cons_append, List.nil_append, List.append_nil]; refine ne_cons (neN ?_) (ne_cons (neN ?_) (ne_cons (neN ?_) (ne_cons (neN ?_) (ne_cons (neN ?_) ne_nil)))) <;> (dsimp only; omega))
      case cc => rfl
      case ck => rfl
      case cx => rfl
      intro h' o4 F8 ho4 N8
      exact ⟨rfl, h', _, rfl, o4, D, ms, ms.length, _, F8, N8, NCell.cons rfl hR', ho4, hB'.mono fun z hz => .tail _ hz, hKP'.mono fun z hz => .tail _ hz, .head _, AllIn.mono (fun _ _ q => q.mono fun z hz => .tail _ hz) hA⟩
    case turn =>
      clear F3 N3
      intro i ms nx v hi qq1 hP
      refine hideG fun Gx hG => ?_
      obtain ⟨R', rfl, hR', hB', hKP', hA⟩ := qq1
      obtain ⟨p, hl, Dt, tx, ty, rfl, hmem⟩ := AllIn.getV hB'.tups (i := i) (v := v) (by simpa using hP)
      refine hG ?_
      clear hG
      have hlt := told_lt hl
      refine ⟨Dt, _, _, _, _, rfl, List.mem_append_right _ hmem, rfl, rfl, ?_⟩
      intro I oI C oC D m₂ h tk E' hC hx1 hx2 F7 N7 off qq1
      refine hideG fun Gx hG => ?_
      obtain ⟨ne1, ne2, ne3⟩ := qq1
      refine hG ?_
      clear hG
      (repeat' (first | ((k_here; (with_reducible show wpAny _ _ (subscriptTail _ _ (Value.ref _) (Value.int _ _)) _ _ _); k_dflt (refine' item_at ?k1Z9 ?k2Z9 ?k3Z9 ?k4Z9 ?_ ?k6Z9; (case k1Z9 => exact News.isList (by k_asm) (by k_mem)); (case k4Z9 => with_reducible assumption); (case k2Z9 => omega); (case k3Z9 => omega); (case k6Z9 => with_unfolding_all rfl); k_whole))) | (((with_reducible show wpAny _ _ (call (Value.ref 129) _) _ _ _); k_here; k_dflt ((refine' ways_claim _ _ _ _ _ _ _ _ _ _ _ _ _ _ _ _ _ _ _ ?htZ9 ?hbZ9 ?hpZ9 ?hqZ9 ?hiZ9 ?hjZ9 ?e1Z9 ?e2Z9 ?e3Z9 ?e4Z9 _ _ _ _ _ _ _ _ _ _ _ _ _ _ _ _ _ _ _ _ _ ?k1Z9 ?kFZ9 ?k3Z9 ?kNZ9 ?k5Z9 ?m1Z9 ?m2Z9 ?w1Z9 ?w2Z9 ?w3Z9 ?w4Z9 ?kKZ9 ?kdZ9 ?kuZ9 ?_); (case kFZ9 => assumption); (case kNZ9 => assumption); (case m1Z9 => k_mem); (case m2Z9 => k_mem); (case e1Z9 => with_reducible assumption); (case e2Z9 => with_reducible assumption); (case e3Z9 => with_reducible assumption); (case e4Z9 => with_reducible assumption); (case w1Z9 => assumption); (case w2Z9 => assumption); (case w3Z9 => assumption); (case w4Z9 => assumption); (case htZ9 => omega); (case hbZ9 => omega); (case hpZ9 => omega); (case hqZ9 => omega); (case hiZ9 => omega); (case hjZ9 => omega); (case k1Z9 => k_asm); (case k3Z9 => k_asm); (case k5Z9 => k_asm); (case kKZ9 => first | exact rfl | assumption); (case kdZ9 => ktr_room); (case kuZ9 => ktr_units); intro h9 tk9 v9 F9 N9 st9 o9; (try dsimp only); (try k_fold)))) | (((with_reducible show wpAny _ _ (compareOp CmpOp.NotEq (Value.ref _) (Value.ref _)) _ _ _); k_here; k_dflt ((refine' ne_rows ?kNZ9 ?kFZ9 ?kDZ9 ?u1Z9 ?u2Z9 ?_); (case kFZ9 => assumption); (case kDZ9 => assumption); (case kNZ9 => assumption); (case u1Z9 => (simp only [units_in1, units_deeper, units_caller]; decide)); (case u2Z9 => (simp only [units_in1, units_deeper, units_caller]; decide)); (try dsimp only); (try k_fold)))) | (((with_reducible show wpAny _ _ (call (Value.ref 108) [Value.str _ _, Value.str _ _, Value.int _ _]) _ _ _); ((k_here; k_dflt ((refine' use_cl (lev_claim _ _ _ _ _ _ _ (by rw [leadS_len]; omega) (by rw [leadS_len]; omega) (by omega)) ?k1Z9 ?kFZ9 ?k3Z9 ?kNZ9 ?k5Z9 ?kKZ9 ?kdZ9 ?kuZ9 ?kHZ9 ?_); (case kFZ9 => assumption); (case kNZ9 => assumption); (case k1Z9 => k_asm); (case k3Z9 => k_asm); (case k5Z9 => k_asm); (case kKZ9 => first | exact rfl | assumption); (case kdZ9 => ktr_room); (case kuZ9 => ktr_units); (case kHZ9 => trivial)))); intro v9 h9 tk9 F9 N9 st9 o9; obtain ⟨t9, e9⟩ := o9; subst e9; (try dsimp only); (try k_fold))) | (((with_reducible show wpAny _ _ (call (Value.ref 136) _) _ _ _); k_here; k_dflt ((refine' due_claim _ _ _ _ _ _ _ _ _ _ _ _ _ ?htZ9 ?hbZ9 ?hiZ9 ?hjZ9 ?hsZ9 _ _ _ _ _ _ _ _ _ _ _ _ _ _ _ _ _ _ _ _ _ ?k1Z9 ?kFZ9 ?k3Z9 ?kNZ9 ?k5Z9 ?w1Z9 ?w2Z9 ?kKZ9 ?kdZ9 ?kuZ9 ?_); (case kFZ9 => assumption); (case kNZ9 => assumption); (case w1Z9 => k_mem); (case w2Z9 => k_mem); (case htZ9 => omega); (case hbZ9 => omega); (case hiZ9 => omega); (case hjZ9 => omega); (case hsZ9 => omega); (case k1Z9 => k_asm); (case k3Z9 => k_asm); (case k5Z9 => k_asm); (case kKZ9 => first | exact rfl | assumption); (case kdZ9 => ktr_room); (case kuZ9 => ktr_units); intro h9 tk9 t9 F9 N9; (try dsimp only); (try k_fold)))) | (((with_reducible show wpAny _ _ (call (Value.ref 52) _) _ _ _); k_here; k_dflt ((refine' indent_use _ _ _ _ _ _ ?kpZ9 ?kqZ9 ?ksZ9 _ _ _ _ _ _ _ _ _ _ _ _ _ _ _ _ _ _ _ _ _ ?k1Z9 ?kFZ9 ?k3Z9 ?kNZ9 ?k5Z9 ?w1Z9 ?kKZ9 ?kdZ9 ?kuZ9 ?_); (case kFZ9 => assumption); (case kNZ9 => assumption); (case w1Z9 => assumption); (case kpZ9 => omega); (case kqZ9 => omega); (case ksZ9 => omega); (case k1Z9 => k_asm); (case k3Z9 => k_asm); (case k5Z9 => k_asm); (case kKZ9 => first | exact rfl | assumption); (case kdZ9 => ktr_room); (case kuZ9 => ktr_units); intro t9 h9 tk9 F9 N9; (try dsimp only); (try k_fold)))) | (((with_reducible show wpAny _ _ (call (Value.builtin "len") [Value.ref _]) _ _ _); k_here; k_dflt ((rename News _ _ _ _ => lN'); (refine' kst_len lN' ?kmZ9 ?keZ9 ?kfZ9 ?_); (case kmZ9 => k_mem); (case keZ9 => assumption); (case kfZ9 => omega); (try dsimp only); (try k_fold)))) | (((with_reducible show wpAny _ _ (call (Value.type _) [Value.int _ _]) _ _ _); k_here; k_dflt ((rename Fr _ _ _ _ => lF'); (rename News _ _ _ _ => lN'); (refine' range_led lF' lN' ?_); clear lF' lN'; intro r9 h9 tk9 t9 u9 v9 F9 N9; (try dsimp only); (try k_fold)))) | ((k_here; (with_reducible show wpAny _ _ (call (Value.type _) [Value.ref _]) _ _ _); (rename IsRange _ _ _ _ _ _ _ _ => rgX); (with_unfolding_all refine' list_step ?k0Z9 ?k1Z9 ?k2Z9 ?k3Z9 ?k4Z9 ?k5Z9 ?k6Z9 ?_; (case k0Z9 => rfl); (case k1Z9 => k_asm); (case k2Z9 => k_asm); (case k3Z9 => exact rgX); (case k4Z9 => exact small_two (by omega) (by omega)); (case k5Z9 => exact range_two (by omega)); (case k6Z9 => omega)); intro _ _ _ _ _ _ _ l1 _; (try k_lt l1))) | ((k_here; (with_reducible show wpAny _ _ (subscriptTail _ (Expr.Slice none (some _) none _) _ _) _ _ _); (with_reducible rename Fr _ _ _ _ => F'); (with_reducible rename News _ _ _ _ => N'); (refine slice_none (s := ⟨_, _, _, _, _⟩) F' N' ?_ (hsz := ?hszZ9)); (case hszZ9 => (rw [sizeLine_eq]; omega)); intro _ _ _ _ _)) | ((k_here; k_openite; first | (refine ite_pos ?hxZ9 ?_; (case hxZ9 => first | with_reducible assumption | (simp only [decide_eq_true_eq, decide_eq_false_iff_not, Bool.not_eq_true', Bool.not_eq_false', bne_iff_ne, ne_eq]; omega))) | (refine ite_neg ?hxZ9 ?_; (case hxZ9 => first | with_reducible assumption | (simp only [decide_eq_true_eq, decide_eq_false_iff_not, Bool.not_eq_true', Bool.not_eq_false', bne_iff_ne, ne_eq, Bool.not_eq_true, Decidable.not_not]; omega))) | (refine ite_b (fun hc => ?_) (fun hc => ?_) <;> (try simp only [decide_eq_true_eq, decide_eq_false_iff_not, Bool.not_eq_true', Bool.not_eq_false', bne_iff_ne, ne_eq, bne_eq_false_iff_eq, Decidable.not_not, Int.not_lt, Int.not_le] at hc)))) | (fail_if_success (with_reducible show wpAny _ _ (eval (PySem.Expr.ListComp _ _ _ _) _) _ _ _)); (fail_if_success (with_reducible show LCp.SrcLP _ _ _ _ _ _ _ _ _ _ _ _ _ _ _)); (fail_if_success (with_reducible show wpAny _ _ (call (Value.ref _) _) _ _ _)); (fail_if_success (with_reducible show LCg.CompSrc _ _ _ _ _ _ _ _ _ _ _ _ _ _)); (fail_if_success (with_reducible show wpAny _ _ (storeName _ _ _) _ _ _)); (fail_if_success (with_reducible show LCg.CompEnd _ _ _ _ _ _ _ _ _ _ _ _ _ _)); (fail_if_success (with_reducible show wpAny _ _ (exec (Stmt.For _ _ _ _ _) _) _ _ _)); (fail_if_success (with_reducible show wpAny _ _ (pyIter _) _ _ _)); first | (k_unfold; (try dsimp only)) | walk1 | (dsimp only; walk1) | (leave1; try dsimp only) | fail "no step"))
      ((k_here; k_dflt ((refine' use_cl (known_claim _ _ _ _ _ (by omega) (by omega)) ?k1Z9 ?kFZ9 ?k3Z9 ?kNZ9 ?k5Z9 ?kKZ9 ?kdZ9 ?kuZ9 ?kHZ9 ?_); (case kFZ9 => assumption); (case kNZ9 => assumption); (case k1Z9 => k_asm); (case k3Z9 => k_asm); (case k5Z9 => k_asm); (case kKZ9 => first | exact rfl | assumption); (case kdZ9 => ktr_room); (case kuZ9 => ktr_units); (case kHZ9 => trivial))))
      intro v9 h9 tk9 F9 N9 st9 qq1
      refine hideG fun Gx hG => ?_
      obtain ⟨objs, hPo, ho⟩ := qq1
      refine hG ?_
      clear hG
      rw [Int.toNat_natCast, Int.toNat_natCast] at hPo
      (repeat' (first | ((k_here; (with_reducible show wpAny _ _ (subscriptTail _ _ (Value.ref _) (Value.int _ _)) _ _ _); k_dflt (refine' item_at ?k1Z9 ?k2Z9 ?k3Z9 ?k4Z9 ?_ ?k6Z9; (case k1Z9 => exact News.isList (by k_asm) (by k_mem)); (case k4Z9 => with_reducible assumption); (case k2Z9 => omega); (case k3Z9 => omega); (case k6Z9 => with_unfolding_all rfl); k_whole))) | (((with_reducible show wpAny _ _ (call (Value.ref 129) _) _ _ _); k_here; k_dflt ((refine' ways_claim _ _ _ _ _ _ _ _ _ _ _ _ _ _ _ _ _ _ _ ?htZ9 ?hbZ9 ?hpZ9 ?hqZ9 ?hiZ9 ?hjZ9 ?e1Z9 ?e2Z9 ?e3Z9 ?e4Z9 _ _ _ _ _ _ _ _ _ _ _ _ _ _ _ _ _ _ _ _ _ ?k1Z9 ?kFZ9 ?k3Z9 ?kNZ9 ?k5Z9 ?m1Z9 ?m2Z9 ?w1Z9 ?w2Z9 ?w3Z9 ?w4Z9 ?kKZ9 ?kdZ9 ?kuZ9 ?_); (case kFZ9 => assumption); (case kNZ9 => assumption); (case m1Z9 => k_mem); (case m2Z9 => k_mem); (case e1Z9 => with_reducible assumption); (case e2Z9 => with_reducible assumption); (case e3Z9 => with_reducible assumption); (case e4Z9 => with_reducible assumption); (case w1Z9 => assumption); (case w2Z9 => assumption); (case w3Z9 => assumption); (case w4Z9 => assumption); (case htZ9 => omega); (case hbZ9 => omega); (case hpZ9 => omega); (case hqZ9 => omega); (case hiZ9 => omega); (case hjZ9 => omega); (case k1Z9 => k_asm); (case k3Z9 => k_asm); (case k5Z9 => k_asm); (case kKZ9 => first | exact rfl | assumption); (case kdZ9 => ktr_room); (case kuZ9 => ktr_units); intro h9 tk9 v9 F9 N9 st9 o9; (try dsimp only); (try k_fold)))) | (((with_reducible show wpAny _ _ (compareOp CmpOp.NotEq (Value.ref _) (Value.ref _)) _ _ _); k_here; k_dflt ((refine' ne_rows ?kNZ9 ?kFZ9 ?kDZ9 ?u1Z9 ?u2Z9 ?_); (case kFZ9 => assumption); (case kDZ9 => assumption); (case kNZ9 => assumption); (case u1Z9 => (simp only [units_in1, units_deeper, units_caller]; decide)); (case u2Z9 => (simp only [units_in1, units_deeper, units_caller]; decide)); (try dsimp only); (try k_fold)))) | (((with_reducible show wpAny _ _ (call (Value.ref 108) [Value.str _ _, Value.str _ _, Value.int _ _]) _ _ _); ((k_here; k_dflt ((refine' use_cl (lev_claim _ _ _ _ _ _ _ (by rw [leadS_len]; omega) (by rw [leadS_len]; omega) (by omega)) ?k1Z9 ?kFZ9 ?k3Z9 ?kNZ9 ?k5Z9 ?kKZ9 ?kdZ9 ?kuZ9 ?kHZ9 ?_); (case kFZ9 => assumption); (case kNZ9 => assumption); (case k1Z9 => k_asm); (case k3Z9 => k_asm); (case k5Z9 => k_asm); (case kKZ9 => first | exact rfl | assumption); (case kdZ9 => ktr_room); (case kuZ9 => ktr_units); (case kHZ9 => trivial)))); intro v9 h9 tk9 F9 N9 st9 o9; obtain ⟨t9, e9⟩ := o9; subst e9; (try dsimp only); (try k_fold))) | (((with_reducible show wpAny _ _ (call (Value.ref 136) _) _ _ _); k_here; k_dflt ((refine' due_claim _ _ _ _ _ _ _ _ _ _ _ _ _ ?htZ9 ?hbZ9 ?hiZ9 ?hjZ9 ?hsZ9 _ _ _ _ _ _ _ _ _ _ _ _ _ _ _ _ _ _ _ _ _ ?k1Z9 ?kFZ9 ?k3Z9 ?kNZ9 ?k5Z9 ?w1Z9 ?w2Z9 ?kKZ9 ?kdZ9 ?kuZ9 ?_); (case kFZ9 => assumption); (case kNZ9 => assumption); (case w1Z9 => k_mem); (case w2Z9 => k_mem); (case htZ9 => omega); (case hbZ9 => omega); (case hiZ9 => omega); (case hjZ9 => omega); (case hsZ9 => omega); (case k1Z9 => k_asm); (case k3Z9 => k_asm); (case k5Z9 => k_asm); (case kKZ9 => first | exact rfl | assumption); (case kdZ9 => ktr_room); (case kuZ9 => ktr_units); intro h9 tk9 t9 F9 N9; (try dsimp only); (try k_fold)))) | (((with_reducible show wpAny _ _ (call (Value.ref 52) _) _ _ _); k_here; k_dflt ((refine' indent_use _ _ _ _ _ _ ?kpZ9 ?kqZ9 ?ksZ9 _ _ _ _ _ _ _ _ _ _ _ _ _ _ _ _ _ _ _ _ _ ?k1Z9 ?kFZ9 ?k3Z9 ?kNZ9 ?k5Z9 ?w1Z9 ?kKZ9 ?kdZ9 ?kuZ9 ?_); (case kFZ9 => assumption); (case kNZ9 => assumption); (case w1Z9 => assumption); (case kpZ9 => omega); (case kqZ9 => omega); (case ksZ9 => omega); (case k1Z9 => k_asm); (case k3Z9 => k_asm); (case k5Z9 => k_asm); (case kKZ9 => first | exact rfl | assumption); (case kdZ9 => ktr_room); (case kuZ9 => ktr_units); intro t9 h9 tk9 F9 N9; (try dsimp only); (try k_fold)))) | (((with_reducible show wpAny _ _ (call (Value.builtin "len") [Value.ref _]) _ _ _); k_here; k_dflt ((rename News _ _ _ _ => lN'); (refine' kst_len lN' ?kmZ9 ?keZ9 ?kfZ9 ?_); (case kmZ9 => k_mem); (case keZ9 => assumption); (case kfZ9 => omega); (try dsimp only); (try k_fold)))) | (((with_reducible show wpAny _ _ (call (Value.type _) [Value.int _ _]) _ _ _); k_here; k_dflt ((rename Fr _ _ _ _ => lF'); (rename News _ _ _ _ => lN'); (refine' range_led lF' lN' ?_); clear lF' lN'; intro r9 h9 tk9 t9 u9 v9 F9 N9; (try dsimp only); (try k_fold)))) | ((k_here; (with_reducible show wpAny _ _ (call (Value.type _) [Value.ref _]) _ _ _); (rename IsRange _ _ _ _ _ _ _ _ => rgX); (with_unfolding_all refine' list_step ?k0Z9 ?k1Z9 ?k2Z9 ?k3Z9 ?k4Z9 ?k5Z9 ?k6Z9 ?_; (case k0Z9 => rfl); (case k1Z9 => k_asm); (case k2Z9 => k_asm); (case k3Z9 => exact rgX); (case k4Z9 => exact small_two (by omega) (by omega)); (case k5Z9 => exact range_two (by omega)); (case k6Z9 => omega)); intro _ _ _ _ _ _ _ l1 _; (try k_lt l1))) | ((k_here; (with_reducible show wpAny _ _ (subscriptTail _ (Expr.Slice none (some _) none _) _ _) _ _ _); (with_reducible rename Fr _ _ _ _ => F'); (with_reducible rename News _ _ _ _ => N'); (refine slice_none (s := ⟨_, _, _, _, _⟩) F' N' ?_ (hsz := ?hszZ9)); (case hszZ9 => (rw [sizeLine_eq]; omega)); intro _ _ _ _ _)) | ((k_here; k_openite; first | (refine ite_pos ?hxZ9 ?_; (case hxZ9 => first | with_reducible assumption | (simp only [decide_eq_true_eq, decide_eq_false_iff_not, Bool.not_eq_true', Bool.not_eq_false', bne_iff_ne, ne_eq]; omega))) | (refine ite_neg ?hxZ9 ?_; (case hxZ9 => first | with_reducible assumption | (simp only [decide_eq_true_eq, decide_eq_false_iff_not, Bool.not_eq_true', Bool.not_eq_false', bne_iff_ne, ne_eq, Bool.not_eq_true, Decidable.not_not]; omega))) | (refine ite_b (fun hc => ?_) (fun hc => ?_) <;> (try simp only [decide_eq_true_eq, decide_eq_false_iff_not, Bool.not_eq_true', Bool.not_eq_false', bne_iff_ne, ne_eq, bne_eq_false_iff_eq, Decidable.not_not, Int.not_lt, Int.not_le] at hc)))) | (fail_if_success (with_reducible show wpAny _ _ (eval (PySem.Expr.ListComp _ _ _ _) _) _ _ _)); (fail_if_success (with_reducible show LCp.SrcLP _ _ _ _ _ _ _ _ _ _ _ _ _ _ _)); (fail_if_success (with_reducible show wpAny _ _ (call (Value.ref _) _) _ _ _)); (fail_if_success (with_reducible show LCg.CompSrc _ _ _ _ _ _ _ _ _ _ _ _ _ _)); (fail_if_success (with_reducible show wpAny _ _ (storeName _ _ _) _ _ _)); (fail_if_success (with_reducible show LCg.CompEnd _ _ _ _ _ _ _ _ _ _ _ _ _ _)); (fail_if_success (with_reducible show wpAny _ _ (exec (Stmt.For _ _ _ _ _) _) _ _ _)); (fail_if_success (with_reducible show wpAny _ _ (pyIter _) _ _ _)); first | (k_unfold; (try dsimp only)) | walk1 | (dsimp only; walk1) | (leave1; try dsimp only) | fail "no step"))
      k_dflt (refine' cend_new F7 N7 st9 (objs := noC objs) (fun p hp => ho p (noC_sub p hp)) off ?eS ⟨_, rfl, NCell.app (noC_ncell _) hR', hB'.mono (fun z hz => List.mem_append_right _ hz), hKP'.mono (fun z hz => List.mem_append_right _ hz), ?eA⟩)
      case eS => exact .inr ⟨_, List.mem_append_right _ (List.mem_append_right _ hB'.told), rfl, _, rfl⟩
      case eA =>
        rw [take_snoc hl]
        exact AllIn.snoc (KnownIn.mono (KnownIn.noC hPo) fun z hz => List.mem_append_left _ hz) (AllIn.mono (fun _ _ q => q.mono fun z hz => List.mem_append_right _ hz) hA)

-- l2_c4
  clear N3 F3 hR hB hKP R
  intro h tk qq1
  refine hideG fun Gx hG => ?_
  obtain ⟨o4, M, ms, cM, R, F3, N3, hR, ho4, hB, hKP, hKM⟩ := qq1
  refine hG ?_
  clear hG
  k_dflt (refine' execs_cutF (fun h₀ L m _ h => ∃ o3 z tz, Fr h₀ L h m ∧ News h₀ L h (cellsL L v1 v2 o3 o4 o5 o6 ++ R) ∧ o3.data = .cell (some (.int z tz)) ∧ 1 ≤ z ∧ z ≤ 8) F3 N3 ?_ ?_)

-- l2_b5
  · k_dflt (refine wpAny_Assign_Name ?_ (by with_unfolding_all rfl))
    (repeat' (first | ((k_here; (with_reducible show wpAny _ _ (subscriptTail _ _ (Value.ref _) (Value.int _ _)) _ _ _); k_dflt (refine' item_at ?k1Z9 ?k2Z9 ?k3Z9 ?k4Z9 ?_ ?k6Z9; (case k1Z9 => exact News.isList (by k_asm) (by k_mem)); (case k4Z9 => with_reducible assumption); (case k2Z9 => omega); (case k3Z9 => omega); (case k6Z9 => with_unfolding_all rfl); k_whole))) | (((with_reducible show wpAny _ _ (call (Value.ref 129) _) _ _ _); k_here; k_dflt ((refine' ways_claim _ _ _ _ _ _ _ _ _ _ _ _ _ _ _ _ _ _ _ ?htZ9 ?hbZ9 ?hpZ9 ?hqZ9 ?hiZ9 ?hjZ9 ?e1Z9 ?e2Z9 ?e3Z9 ?e4Z9 _ _ _ _ _ _ _ _ _ _ _ _ _ _ _ _ _ _ _ _ _ ?k1Z9 ?kFZ9 ?k3Z9 ?kNZ9 ?k5Z9 ?m1Z9 ?m2Z9 ?w1Z9 ?w2Z9 ?w3Z9 ?w4Z9 ?kKZ9 ?kdZ9 ?kuZ9 ?_); (case kFZ9 => assumption); (case kNZ9 => assumption); (case m1Z9 => k_mem); (case m2Z9 => k_mem); (case e1Z9 => with_reducible assumption); (case e2Z9 => with_reducible assumption); (case e3Z9 => with_reducible assumption); (case e4Z9 => with_reducible assumption); (case w1Z9 => assumption); (case w2Z9 => assumption); (case w3Z9 => assumption); (case w4Z9 => assumption); (case htZ9 => omega); (case hbZ9 => omega); (case hpZ9 => omega); (case hqZ9 => omega); (case hiZ9 => omega); (case hjZ9 => omega); (case k1Z9 => k_asm); (case k3Z9 => k_asm); (case k5Z9 => k_asm); (case kKZ9 => first | exact rfl | assumption); (case kdZ9 => ktr_room); (case kuZ9 => ktr_units); intro h9 tk9 v9 F9 N9 st9 o9; (try dsimp only); (try k_fold)))) | (((with_reducible show wpAny _ _ (compareOp CmpOp.NotEq (Value.ref _) (Value.ref _)) _ _ _); k_here; k_dflt ((refine' ne_rows ?kNZ9 ?kFZ9 ?kDZ9 ?u1Z9 ?u2Z9 ?_); (case kFZ9 => assumption); (case kDZ9 => assumption); (case kNZ9 => assumption); (case u1Z9 => (simp only [units_in1, units_deeper, units_caller]; decide)); (case u2Z9 => (simp only [units_in1, units_deeper, units_caller]; decide)); (try dsimp only); (try k_fold)))) | (((with_reducible show wpAny _ _ (call (Value.ref 108) [Value.str _ _, Value.str _ _, Value.int _ _]) _ _ _); ((k_here; k_dflt ((refine' use_cl (lev_claim _ _ _ _ _ _ _ (by rw [leadS_len]; omega) (by rw [leadS_len]; omega) (by omega)) ?k1Z9 ?kFZ9 ?k3Z9 ?kNZ9 ?k5Z9 ?kKZ9 ?kdZ9 ?kuZ9 ?kHZ9 ?_); (case kFZ9 => assumption); (case kNZ9 => assumption); (case k1Z9 => k_asm); (case k3Z9 => k_asm); (case k5Z9 => k_asm); (case kKZ9 => first | exact rfl | assumption); (case kdZ9 => ktr_room); (case kuZ9 => ktr_units); (case kHZ9 => trivial)))); intro v9 h9 tk9 F9 N9 st9 o9; obtain ⟨t9, e9⟩ := o9; subst e9; (try dsimp only); (try k_fold))) | (((with_reducible show wpAny _ _ (call (Value.ref 136) _) _ _ _); k_here; k_dflt ((refine' due_claim _ _ _ _ _ _ _ _ _ _ _ _ _ ?htZ9 ?hbZ9 ?hiZ9 ?hjZ9 ?hsZ9 _ _ _ _ _ _ _ _ _ _ _ _ _ _ _ _ _ _ _ _ _ ?k1Z9 ?kFZ9 ?k3Z9 ?kNZ9 ?k5Z9 ?w1Z9 ?w2Z9 ?kKZ9 ?kdZ9 ?kuZ9 ?_); (case kFZ9 => assumption); (case kNZ9 => assumption); (case w1Z9 => k_mem); (case w2Z9 => k_mem); (case htZ9 => omega); (case hbZ9 => omega); (case hiZ9 => omega); (case hjZ9 => omega); (case hsZ9 => omega); (case k1Z9 => k_asm); (case k3Z9 => k_asm); (case k5Z9 => k_asm); (case kKZ9 => first | exact rfl | assumption); (case kdZ9 => ktr_room); (case kuZ9 => ktr_units); intro h9 tk9 t9 F9 N9; (try dsimp only); (try k_fold)))) | (((with_reducible show wpAny _ _ (call (Value.ref 52) _) _ _ _); k_here; k_dflt ((refine' indent_use _ _ _ _ _ _ ?kpZ9 ?kqZ9 ?ksZ9 _ _ _ _ _ _ _ _ _ _ _ _ _ _ _ _ _ _ _ _ _ ?k1Z9 ?kFZ9 ?k3Z9 ?kNZ9 ?k5Z9 ?w1Z9 ?kKZ9 ?kdZ9 ?kuZ9 ?_); (case kFZ9 => assumption); (case kNZ9 => assumption); (case w1Z9 => assumption); (case kpZ9 => omega); (case kqZ9 => omega); (case ksZ9 => omega); (case k1Z9 => k_asm); (case k3Z9 => k_asm); (case k5Z9 => k_asm); (case kKZ9 => first | exact rfl | assumption); (case kdZ9 => ktr_room); (case kuZ9 => ktr_units); intro t9 h9 tk9 F9 N9; (try dsimp only); (try k_fold)))) | (((with_reducible show wpAny _ _ (call (Value.builtin "len") [Value.ref _]) _ _ _); k_here; k_dflt ((rename News _ _ _ _ => lN'); (refine' kst_len lN' ?kmZ9 ?keZ9 ?kfZ9 ?_); (case kmZ9 => k_mem); (case keZ9 => assumption); (case kfZ9 => omega); (try dsimp only); (try k_fold)))) | (((with_reducible show wpAny _ _ (call (Value.type _) [Value.int _ _]) _ _ _); k_here; k_dflt ((rename Fr _ _ _ _ => lF'); (rename News _ _ _ _ => lN'); (refine' range_led lF' lN' ?_); clear lF' lN'; intro r9 h9 tk9 t9 u9 v9 F9 N9; (try dsimp only); (try k_fold)))) | ((k_here; (with_reducible show wpAny _ _ (call (Value.type _) [Value.ref _]) _ _ _); (rename IsRange _ _ _ _ _ _ _ _ => rgX); (with_unfolding_all refine' list_step ?k0Z9 ?k1Z9 ?k2Z9 ?k3Z9 ?k4Z9 ?k5Z9 ?k6Z9 ?_; (case k0Z9 => rfl); (case k1Z9 => k_asm); (case k2Z9 => k_asm); (case k3Z9 => exact rgX); (case k4Z9 => exact small_two (by omega) (by omega)); (case k5Z9 => exact range_two (by omega)); (case k6Z9 => omega)); intro _ _ _ _ _ _ _ l1 _; (try k_lt l1))) | ((k_here; (with_reducible show wpAny _ _ (subscriptTail _ (Expr.Slice none (some _) none _) _ _) _ _ _); (with_reducible rename Fr _ _ _ _ => F'); (with_reducible rename News _ _ _ _ => N'); (refine slice_none (s := ⟨_, _, _, _, _⟩) F' N' ?_ (hsz := ?hszZ9)); (case hszZ9 => (rw [sizeLine_eq]; omega)); intro _ _ _ _ _)) | ((k_here; k_openite; first | (refine ite_pos ?hxZ9 ?_; (case hxZ9 => first | with_reducible assumption | (simp only [decide_eq_true_eq, decide_eq_false_iff_not, Bool.not_eq_true', Bool.not_eq_false', bne_iff_ne, ne_eq]; omega))) | (refine ite_neg ?hxZ9 ?_; (case hxZ9 => first | with_reducible assumption | (simp only [decide_eq_true_eq, decide_eq_false_iff_not, Bool.not_eq_true', Bool.not_eq_false', bne_iff_ne, ne_eq, Bool.not_eq_true, Decidable.not_not]; omega))) | (refine ite_b (fun hc => ?_) (fun hc => ?_) <;> (try simp only [decide_eq_true_eq, decide_eq_false_iff_not, Bool.not_eq_true', Bool.not_eq_false', bne_iff_ne, ne_eq, bne_eq_false_iff_eq, Decidable.not_not, Int.not_lt, Int.not_le] at hc)))) | (fail_if_success (with_reducible show wpAny _ _ (eval (PySem.Expr.ListComp _ _ _ _) _) _ _ _)); (fail_if_success (with_reducible show LCp.SrcLP _ _ _ _ _ _ _ _ _ _ _ _ _ _ _)); (fail_if_success (with_reducible show wpAny _ _ (call (Value.ref _) _) _ _ _)); (fail_if_success (with_reducible show LCg.CompSrc _ _ _ _ _ _ _ _ _ _ _ _ _ _)); (fail_if_success (with_reducible show wpAny _ _ (storeName _ _ _) _ _ _)); (fail_if_success (with_reducible show LCg.CompEnd _ _ _ _ _ _ _ _ _ _ _ _ _ _)); (fail_if_success (with_reducible show wpAny _ _ (exec (Stmt.For _ _ _ _ _) _) _ _ _)); (fail_if_success (with_reducible show wpAny _ _ (pyIter _) _ _ _)); first | (k_unfold; (try dsimp only)) | walk1 | (dsimp only; walk1) | (leave1; try dsimp only) | fail "no step"))
    (rename Fr _ _ _ _ => F7; rename News _ _ _ _ => N7)
    k_dflt (refine' storeCell (X := []) (pre := [_, _]) (post := [_, _, _]) F7 N7 ?cX hR e3 ?cne ?cc ?_ ?ck ?cx)
    case cX => exact fun z hz => nomatch hz
    case cne => (dsimp only [List.cons_append, List.nil_append, List.append_nil]; refine ne_cons (neN ?_) (ne_cons (neN ?_) (ne_cons (neN ?_) (ne_cons (neN ?_) (ne_cons (neN ?_) ne_nil)))) <;> (dsimp only; omega))
    case cc => rfl
    case ck => rfl
    case cx => rfl
    intro h' o3 F8 ho3 N8
    exact ⟨trivial, h', _, rfl, o3, _, _, F8, N8, ho3, by have := fmod8 ns.sum; omega, by have := fmod8 ns.sum; omega⟩

-- l2_c5
  clear N3 F3
  intro h tk qq1
  refine hideG fun Gx hG => ?_
  obtain ⟨o3, size, tz, F3, N3, ho3, hsz1, hsz2⟩ := qq1
  refine hG ?_
  clear hG
  k_dflt (refine' execs_cutF (fun h₀ L m _ h => ∃ o2 Cl cs cC R, Fr h₀ L h m ∧ News h₀ L h (cellsL L v1 o2 o3 o4 o5 o6 ++ R) ∧ NCell R ∧ o2.data = .cell (some (.ref Cl)) ∧ B2 ns T ys cT r t1 t2 t3 R ∧ KnowsIn w P ps cP (toldL ns) R ∧ MirrIn w M ms cM (toldL ns) R ∧ ColsIn size Cl cs cC (toldL ns) R) F3 N3 ?_ ?_)

-- l2_b6
  · k_dflt (refine wpAny_Assign_Name ?_ (by with_unfolding_all rfl))
    k_dflt (refine LCg.ListComp_U (F₀ := F3) (by with_unfolding_all rfl) (by decide) (by rfl) (by decide) (by rfl) ?_)
    have N3e := N3
    dsimp only [cellsL, List.cons_append, List.nil_append] at N3e
    (repeat' (first | ((k_here; (with_reducible show wpAny _ _ (subscriptTail _ _ (Value.ref _) (Value.int _ _)) _ _ _); k_dflt (refine' item_at ?k1Z9 ?k2Z9 ?k3Z9 ?k4Z9 ?_ ?k6Z9; (case k1Z9 => exact News.isList (by k_asm) (by k_mem)); (case k4Z9 => with_reducible assumption); (case k2Z9 => omega); (case k3Z9 => omega); (case k6Z9 => with_unfolding_all rfl); k_whole))) | (((with_reducible show wpAny _ _ (call (Value.ref 129) _) _ _ _); k_here; k_dflt ((refine' ways_claim _ _ _ _ _ _ _ _ _ _ _ _ _ _ _ _ _ _ _ ?htZ9 ?hbZ9 ?hpZ9 ?hqZ9 ?hiZ9 ?hjZ9 ?e1Z9 ?e2Z9 ?e3Z9 ?e4Z9 _ _ _ _ _ _ _ _ _ _ _ _ _ _ _ _ _ _ _ _ _ ?k1Z9 ?kFZ9 ?k3Z9 ?kNZ9 ?k5Z9 ?m1Z9 ?m2Z9 ?w1Z9 ?w2Z9 ?w3Z9 ?w4Z9 ?kKZ9 ?kdZ9 ?kuZ9 ?_); (case kFZ9 => assumption); (case kNZ9 => assumption); (case m1Z9 => k_mem); (case m2Z9 => k_mem); (case e1Z9 => with_reducible assumption); (case e2Z9 => with_reducible assumption); (case e3Z9 => with_reducible assumption); (case e4Z9 => with_reducible assumption); (case w1Z9 => assumption); (case w2Z9 => assumption); (case w3Z9 => assumption); (case w4Z9 => assumption); (case htZ9 => omega); (case hbZ9 => omega); (case hpZ9 => omega); (case hqZ9 => omega); (case hiZ9 => omega); (case hjZ9 => omega); (case k1Z9 => k_asm); (case k3Z9 => k_asm); (case k5Z9 => k_asm); (case kKZ9 => first | exact rfl | assumption); (case kdZ9 => ktr_room); (case kuZ9 => ktr_units); intro h9 tk9 v9 F9 N9 st9 o9; (try dsimp only); (try k_fold)))) | (((with_reducible show wpAny _ _ (compareOp CmpOp.NotEq (Value.ref _) (Value.ref _)) _ _ _); k_here; k_dflt ((refine' ne_rows ?kNZ9 ?kFZ9 ?kDZ9 ?u1Z9 ?u2Z9 ?_); (case kFZ9 => assumption); (case kDZ9 => assumption); (case kNZ9 => assumption); (case u1Z9 => (simp only [units_in1, units_deeper, units_caller]; decide)); (case u2Z9 => (simp only [units_in1, units_deeper, units_caller]; decide)); (try dsimp only); (try k_fold)))) | (((with_reducible show wpAny _ _ (call (Value.ref 108) [Value.str _ _, Value.str _ _, Value.int _ _]) _ _ _); ((k_here; k_dflt ((refine' use_cl (lev_claim _ _ _ _ _ _ _ (by rw [leadS_len]; omega) (by rw [leadS_len]; omega) (by omega)) ?k1Z9 ?kFZ9 ?k3Z9 ?kNZ9 ?k5Z9 ?kKZ9 ?kdZ9 ?kuZ9 ?kHZ9 ?_); (case kFZ9 => assumption); (case kNZ9 => assumption); (case k1Z9 => k_asm); (case k3Z9 => k_asm); (case k5Z9 => k_asm); (case kKZ9 => first | exact rfl | assumption); (case kdZ9 => ktr_room); (case kuZ9 => ktr_units); (case kHZ9 => trivial)))); intro v9 h9 tk9 F9 N9 st9 o9; obtain ⟨t9, e9⟩ := o9; subst e9; (try dsimp only); (try k_fold))) | (((with_reducible show wpAny _ _ (call (Value.ref 136) _) _ _ _); k_here; k_dflt ((refine' due_claim _ _ _ _ _ _ _ _ _ _ _ _ _ ?htZ9 ?hbZ9 ?hiZ9 ?hjZ9 ?hsZ9 _ _ _ _ _ _ _ _ _ _ _ _ _ _ _ _ _ _ _ _ _ ?k1Z9 ?kFZ9 ?k3Z9 ?kNZ9 ?k5Z9 ?w1Z9 ?w2Z9 ?kKZ9 ?kdZ9 ?kuZ9 ?_); (case kFZ9 => assumption); (case kNZ9 => assumption); (case w1Z9 => k_mem); (case w2Z9 => k_mem); (case htZ9 => omega); (case hbZ9 => omega); (case hiZ9 => omega); (case hjZ9 => omega); (case hsZ9 => omega); (case k1Z9 => k_asm); (case k3Z9 => k_asm); (case k5Z9 => k_asm); (case kKZ9 => first | exact rfl | assumption); (case kdZ9 => ktr_room); (case kuZ9 => ktr_units); intro h9 tk9 t9 F9 N9; (try dsimp only); (try k_fold)))) | (((with_reducible show wpAny _ _ (call (Value.ref 52) _) _ _ _); k_here; k_dflt ((refine' indent_use _ _ _ _ _ _ ?kpZ9 ?kqZ9 ?ksZ9 _ _ _ _ _ _ _ _ _ _ _ _ _ _ _ _ _ _ _ _ _ ?k1Z9 ?kFZ9 ?k3Z9 ?kNZ9 ?k5Z9 ?w1Z9 ?kKZ9 ?kdZ9 ?kuZ9 ?_); (case kFZ9 => assumption); (case kNZ9 => assumption); (case w1Z9 => assumption); (case kpZ9 => omega); (case kqZ9 => omega); (case ksZ9 => omega); (case k1Z9 => k_asm); (case k3Z9 => k_asm); (case k5Z9 => k_asm); (case kKZ9 => first | exact rfl | assumption); (case kdZ9 => ktr_room); (case kuZ9 => ktr_units); intro t9 h9 tk9 F9 N9; (try dsimp only); (try k_fold)))) | (((with_reducible show wpAny _ _ (call (Value.builtin "len") [Value.ref _]) _ _ _); k_here; k_dflt ((rename News _ _ _ _ => lN'); (refine' kst_len lN' ?kmZ9 ?keZ9 ?kfZ9 ?_); (case kmZ9 => k_mem); (case keZ9 => assumption); (case kfZ9 => omega); (try dsimp only); (try k_fold)))) | (((with_reducible show wpAny _ _ (call (Value.type _) [Value.int _ _]) _ _ _); k_here; k_dflt ((rename Fr _ _ _ _ => lF'); (rename News _ _ _ _ => lN'); (refine' range_led lF' lN' ?_); clear lF' lN'; intro r9 h9 tk9 t9 u9 v9 F9 N9; (try dsimp only); (try k_fold)))) | ((k_here; (with_reducible show wpAny _ _ (call (Value.type _) [Value.ref _]) _ _ _); (rename IsRange _ _ _ _ _ _ _ _ => rgX); (with_unfolding_all refine' list_step ?k0Z9 ?k1Z9 ?k2Z9 ?k3Z9 ?k4Z9 ?k5Z9 ?k6Z9 ?_; (case k0Z9 => rfl); (case k1Z9 => k_asm); (case k2Z9 => k_asm); (case k3Z9 => exact rgX); (case k4Z9 => exact small_two (by omega) (by omega)); (case k5Z9 => exact range_two (by omega)); (case k6Z9 => omega)); intro _ _ _ _ _ _ _ l1 _; (try k_lt l1))) | ((k_here; (with_reducible show wpAny _ _ (subscriptTail _ (Expr.Slice none (some _) none _) _ _) _ _ _); (with_reducible rename Fr _ _ _ _ => F'); (with_reducible rename News _ _ _ _ => N'); (refine slice_none (s := ⟨_, _, _, _, _⟩) F' N' ?_ (hsz := ?hszZ9)); (case hszZ9 => (rw [sizeLine_eq]; omega)); intro _ _ _ _ _)) | ((k_here; k_openite; first | (refine ite_pos ?hxZ9 ?_; (case hxZ9 => first | with_reducible assumption | (simp only [decide_eq_true_eq, decide_eq_false_iff_not, Bool.not_eq_true', Bool.not_eq_false', bne_iff_ne, ne_eq]; omega))) | (refine ite_neg ?hxZ9 ?_; (case hxZ9 => first | with_reducible assumption | (simp only [decide_eq_true_eq, decide_eq_false_iff_not, Bool.not_eq_true', Bool.not_eq_false', bne_iff_ne, ne_eq, Bool.not_eq_true, Decidable.not_not]; omega))) | (refine ite_b (fun hc => ?_) (fun hc => ?_) <;> (try simp only [decide_eq_true_eq, decide_eq_false_iff_not, Bool.not_eq_true', Bool.not_eq_false', bne_iff_ne, ne_eq, bne_eq_false_iff_eq, Decidable.not_not, Int.not_lt, Int.not_le] at hc)))) | (fail_if_success (with_reducible show wpAny _ _ (eval (PySem.Expr.ListComp _ _ _ _) _) _ _ _)); (fail_if_success (with_reducible show LCp.SrcLP _ _ _ _ _ _ _ _ _ _ _ _ _ _ _)); (fail_if_success (with_reducible show wpAny _ _ (call (Value.ref _) _) _ _ _)); (fail_if_success (with_reducible show LCg.CompSrc _ _ _ _ _ _ _ _ _ _ _ _ _ _)); (fail_if_success (with_reducible show wpAny _ _ (storeName _ _ _) _ _ _)); (fail_if_success (with_reducible show LCg.CompEnd _ _ _ _ _ _ _ _ _ _ _ _ _ _)); (fail_if_success (with_reducible show wpAny _ _ (exec (Stmt.For _ _ _ _ _) _) _ _ _)); (fail_if_success (with_reducible show wpAny _ _ (pyIter _) _ _ _)); first | (k_unfold; (try dsimp only)) | walk1 | (dsimp only; walk1) | (leave1; try dsimp only) | fail "no step"))
    clear N3e
    have hyl := AllIn.len hKP.2
    k_dflt (refine' LCg.CompSrc.ledger rfl F3 N3 (List.mem_append_right _ hKP.1) ?hsz (fun g => ?_))
    case hsz => rw [List.size_toArray, hyl]; have := (told_len ns).2; exact Nat.le_trans this (by decide)
    k_dflt (refine' comp_ind (fun i cs nx => ∃ R, nx = cellsL s1.heap.objs.size v1 v2 o3 o4 o5 o6 ++ R ∧ NCell R ∧ B2 ns T ys cT r t1 t2 t3 R ∧ KnowsIn w P ps cP (toldL ns) R ∧ MirrIn w M ms cM (toldL ns) R ∧ AllIn (ColR size R) cs ((toldL ns).take i)) ?hJ ?turn ?fin)
    case hJ => exact ⟨_, rfl, hR, hB, hKP, hKM, trivial⟩
    case fin =>
      intro cs nx qq1 D h tk F7 N7 o7
      refine hideG fun Gx hG => ?_
      obtain ⟨R', rfl, hR', hB', hKP', hKM', hA⟩ := qq1
      refine hG ?_
      clear hG
      rw [List.size_toArray, hyl, List.take_length] at hA
      k_dflt (refine' storeCell (X := [_]) (pre := [_]) (post := [_, _, _, _]) F7 N7 ?cX hR' e2 ?cne ?cc ?_ ?ck ?cx)
      case cX => exact NCell.cons rfl (fun z hz => nomatch hz)
      case cne => (dsimp only [List.cons_append, List.nil_append, List.append_nil]; refine ne_cons (neN ?_) (ne_cons (neN ?_) (ne_cons (neN ?_) (ne_cons (neN ?_) (ne_cons (neN ?_) ne_nil)))) <;> (dsimp only; omega))
      case cc => rfl
      case ck => rfl
      case cx => rfl
      intro h' o2 F8 ho2 N8
      exact ⟨rfl, h', _, rfl, o2, D, cs, cs.length, _, F8, N8, NCell.cons rfl hR', ho2, hB'.mono fun z hz => .tail _ hz, hKP'.mono fun z hz => .tail _ hz, hKM'.mono fun z hz => .tail _ hz, .head _, AllIn.mono (ColR.mono fun z hz => .tail _ hz) hA⟩
    case turn =>
      clear F3 N3
      intro i cs nx v I oI C oC D m₂ h tk E' hi qq1 hP hC hx F7 N7 off qq2
      refine hideG fun Gx hG => ?_
      obtain ⟨R', rfl, hR', hB', hKP', hKM', hA⟩ := qq1
      obtain ⟨ne1, ne2, ne3⟩ := qq2
      obtain ⟨p, hl, D1, x1, x2, k1, k2, k3, rfl, m1, W1, _⟩ := AllIn.getV hKP'.2 (i := i) (v := v) (by simpa using hP)
      have hlt := told_lt hl
      obtain ⟨dx, nm, ct, yy, css, WT, hcs, hW1⟩ := id W1
      refine hG ?_
      clear hG
      have N8 := kst_newsOf N7 (l' := wsObjs 83 w x1 dx nm ct yy (p.1 + p.2 : Nat) (p.1 : Nat) (p.2 : Nat) css WT ++ ((D1, wsTup [.str (tabsS p.1) k1, .str (blanksS p.2) k2, .str (leadS p.1 p.2) k3, .ref x1, .ref x2]) :: (I, oI) :: (C, oC) :: (D, LCg.lst cs) :: (cellsL s1.heap.objs.size v1 v2 o3 o4 o5 o6 ++ R'))) (fun z hz => by
        rcases List.mem_append.mp hz with hz | hz
        · exact .tail _ (.tail _ (.tail _ (List.mem_append_right _ (hW1 z hz))))
        · rcases List.mem_cons.mp hz with rfl | hz
          · exact .tail _ (.tail _ (.tail _ (List.mem_append_right _ m1)))
          · exact hz)
      have W1' := W1.mono (b := wsObjs 83 w x1 dx nm ct yy (p.1 + p.2 : Nat) (p.1 : Nat) (p.2 : Nat) css WT ++ ((D1, wsTup [.str (tabsS p.1) k1, .str (blanksS p.2) k2, .str (leadS p.1 p.2) k3, .ref x1, .ref x2]) :: (I, oI) :: (C, oC) :: (D, LCg.lst cs) :: (cellsL s1.heap.objs.size v1 v2 o3 o4 o5 o6 ++ R'))) (fun z hz => List.mem_append_right _ (.tail _ (.tail _ (.tail _ (.tail _ (List.mem_append_right _ hz))))))
      clear W1 m1 hW1 hcs N7
      dsimp only [wsObjs, cellsL, List.cons_append, List.nil_append] at N8
      (repeat' (first | ((k_here; (with_reducible show wpAny _ _ (subscriptTail _ _ (Value.ref _) (Value.int _ _)) _ _ _); k_dflt (refine' item_at ?k1Z9 ?k2Z9 ?k3Z9 ?k4Z9 ?_ ?k6Z9; (case k1Z9 => exact News.isList (by k_asm) (by k_mem)); (case k4Z9 => with_reducible assumption); (case k2Z9 => omega); (case k3Z9 => omega); (case k6Z9 => with_unfolding_all rfl); k_whole))) | (((with_reducible show wpAny _ _ (call (Value.ref 129) _) _ _ _); k_here; k_dflt ((refine' ways_claim _ _ _ _ _ _ _ _ _ _ _ _ _ _ _ _ _ _ _ ?htZ9 ?hbZ9 ?hpZ9 ?hqZ9 ?hiZ9 ?hjZ9 ?e1Z9 ?e2Z9 ?e3Z9 ?e4Z9 _ _ _ _ _ _ _ _ _ _ _ _ _ _ _ _ _ _ _ _ _ ?k1Z9 ?kFZ9 ?k3Z9 ?kNZ9 ?k5Z9 ?m1Z9 ?m2Z9 ?w1Z9 ?w2Z9 ?w3Z9 ?w4Z9 ?kKZ9 ?kdZ9 ?kuZ9 ?_); (case kFZ9 => assumption); (case kNZ9 => assumption); (case m1Z9 => k_mem); (case m2Z9 => k_mem); (case e1Z9 => with_reducible assumption); (case e2Z9 => with_reducible assumption); (case e3Z9 => with_reducible assumption); (case e4Z9 => with_reducible assumption); (case w1Z9 => assumption); (case w2Z9 => assumption); (case w3Z9 => assumption); (case w4Z9 => assumption); (case htZ9 => omega); (case hbZ9 => omega); (case hpZ9 => omega); (case hqZ9 => omega); (case hiZ9 => omega); (case hjZ9 => omega); (case k1Z9 => k_asm); (case k3Z9 => k_asm); (case k5Z9 => k_asm); (case kKZ9 => first | exact rfl | assumption); (case kdZ9 => ktr_room); (case kuZ9 => ktr_units); intro h9 tk9 v9 F9 N9 st9 o9; (try dsimp only); (try k_fold)))) | (((with_reducible show wpAny _ _ (compareOp CmpOp.NotEq (Value.ref _) (Value.ref _)) _ _ _); k_here; k_dflt ((refine' ne_rows ?kNZ9 ?kFZ9 ?kDZ9 ?u1Z9 ?u2Z9 ?_); (case kFZ9 => assumption); (case kDZ9 => assumption); (case kNZ9 => assumption); (case u1Z9 => (simp only [units_in1, units_deeper, units_caller]; decide)); (case u2Z9 => (simp only [units_in1, units_deeper, units_caller]; decide)); (try dsimp only); (try k_fold)))) | (((with_reducible show wpAny _ _ (call (Value.ref 108) [Value.str _ _, Value.str _ _, Value.int _ _]) _ _ _); ((k_here; k_dflt ((refine' use_cl (lev_claim _ _ _ _ _ _ _ (by rw [leadS_len]; omega) (by rw [leadS_len]; omega) (by omega)) ?k1Z9 ?kFZ9 ?k3Z9 ?kNZ9 ?k5Z9 ?kKZ9 ?kdZ9 ?kuZ9 ?kHZ9 ?_); (case kFZ9 => assumption); (case kNZ9 => assumption); (case k1Z9 => k_asm); (case k3Z9 => k_asm); (case k5Z9 => k_asm); (case kKZ9 => first | exact rfl | assumption); (case kdZ9 => ktr_room); (case kuZ9 => ktr_units); (case kHZ9 => trivial)))); intro v9 h9 tk9 F9 N9 st9 o9; obtain ⟨t9, e9⟩ := o9; subst e9; (try dsimp only); (try k_fold))) | (((with_reducible show wpAny _ _ (call (Value.ref 136) _) _ _ _); k_here; k_dflt ((refine' due_claim _ _ _ _ _ _ _ _ _ _ _ _ _ ?htZ9 ?hbZ9 ?hiZ9 ?hjZ9 ?hsZ9 _ _ _ _ _ _ _ _ _ _ _ _ _ _ _ _ _ _ _ _ _ ?k1Z9 ?kFZ9 ?k3Z9 ?kNZ9 ?k5Z9 ?w1Z9 ?w2Z9 ?kKZ9 ?kdZ9 ?kuZ9 ?_); (case kFZ9 => assumption); (case kNZ9 => assumption); (case w1Z9 => k_mem); (case w2Z9 => k_mem); (case htZ9 => omega); (case hbZ9 => omega); (case hiZ9 => omega); (case hjZ9 => omega); (case hsZ9 => omega); (case k1Z9 => k_asm); (case k3Z9 => k_asm); (case k5Z9 => k_asm); (case kKZ9 => first | exact rfl | assumption); (case kdZ9 => ktr_room); (case kuZ9 => ktr_units); intro h9 tk9 t9 F9 N9; (try dsimp only); (try k_fold)))) | (((with_reducible show wpAny _ _ (call (Value.ref 52) _) _ _ _); k_here; k_dflt ((refine' indent_use _ _ _ _ _ _ ?kpZ9 ?kqZ9 ?ksZ9 _ _ _ _ _ _ _ _ _ _ _ _ _ _ _ _ _ _ _ _ _ ?k1Z9 ?kFZ9 ?k3Z9 ?kNZ9 ?k5Z9 ?w1Z9 ?kKZ9 ?kdZ9 ?kuZ9 ?_); (case kFZ9 => assumption); (case kNZ9 => assumption); (case w1Z9 => assumption); (case kpZ9 => omega); (case kqZ9 => omega); (case ksZ9 => omega); (case k1Z9 => k_asm); (case k3Z9 => k_asm); (case k5Z9 => k_asm); (case kKZ9 => first | exact rfl | assumption); (case kdZ9 => ktr_room); (case kuZ9 => ktr_units); intro t9 h9 tk9 F9 N9; (try dsimp only); (try k_fold)))) | (((with_reducible show wpAny _ _ (call (Value.builtin "len") [Value.ref _]) _ _ _); k_here; k_dflt ((rename News _ _ _ _ => lN'); (refine' kst_len lN' ?kmZ9 ?keZ9 ?kfZ9 ?_); (case kmZ9 => k_mem); (case keZ9 => assumption); (case kfZ9 => omega); (try dsimp only); (try k_fold)))) | (((with_reducible show wpAny _ _ (call (Value.type _) [Value.int _ _]) _ _ _); k_here; k_dflt ((rename Fr _ _ _ _ => lF'); (rename News _ _ _ _ => lN'); (refine' range_led lF' lN' ?_); clear lF' lN'; intro r9 h9 tk9 t9 u9 v9 F9 N9; (try dsimp only); (try k_fold)))) | ((k_here; (with_reducible show wpAny _ _ (call (Value.type _) [Value.ref _]) _ _ _); (rename IsRange _ _ _ _ _ _ _ _ => rgX); (with_unfolding_all refine' list_step ?k0Z9 ?k1Z9 ?k2Z9 ?k3Z9 ?k4Z9 ?k5Z9 ?k6Z9 ?_; (case k0Z9 => rfl); (case k1Z9 => k_asm); (case k2Z9 => k_asm); (case k3Z9 => exact rgX); (case k4Z9 => exact small_two (by omega) (by omega)); (case k5Z9 => exact range_two (by omega)); (case k6Z9 => omega)); intro _ _ _ _ _ _ _ l1 _; (try k_lt l1))) | ((k_here; (with_reducible show wpAny _ _ (subscriptTail _ (Expr.Slice none (some _) none _) _ _) _ _ _); (with_reducible rename Fr _ _ _ _ => F'); (with_reducible rename News _ _ _ _ => N'); (refine slice_none (s := ⟨_, _, _, _, _⟩) F' N' ?_ (hsz := ?hszZ9)); (case hszZ9 => (rw [sizeLine_eq]; omega)); intro _ _ _ _ _)) | ((k_here; k_openite; first | (refine ite_pos ?hxZ9 ?_; (case hxZ9 => first | with_reducible assumption | (simp only [decide_eq_true_eq, decide_eq_false_iff_not, Bool.not_eq_true', Bool.not_eq_false', bne_iff_ne, ne_eq]; omega))) | (refine ite_neg ?hxZ9 ?_; (case hxZ9 => first | with_reducible assumption | (simp only [decide_eq_true_eq, decide_eq_false_iff_not, Bool.not_eq_true', Bool.not_eq_false', bne_iff_ne, ne_eq, Bool.not_eq_true, Decidable.not_not]; omega))) | (refine ite_b (fun hc => ?_) (fun hc => ?_) <;> (try simp only [decide_eq_true_eq, decide_eq_false_iff_not, Bool.not_eq_true', Bool.not_eq_false', bne_iff_ne, ne_eq, bne_eq_false_iff_eq, Decidable.not_not, Int.not_lt, Int.not_le] at hc)))) | (fail_if_success (with_reducible show LCg.CompSrc _ _ _ _ _ _ _ _ _ _ _ _ _ _)); (fail_if_success (with_reducible show LCg.CompEnd _ _ _ _ _ _ _ _ _ _ _ _ _ _)); (fail_if_success (with_reducible show wpAny _ _ (exec (Stmt.For _ _ _ _ _) _) _ _ _)); (fail_if_success (with_reducible show wpAny _ _ (pyIter _) _ _ _)); first | (k_unfold; (try dsimp only)) | walk1 | (dsimp only; walk1) | (leave1; try dsimp only) | fail "no step"))
      (rename Fr _ _ _ _ => F9; rename News _ _ _ _ => N9)
      k_dflt (refine' cend_focus (X := [_, _, _, _, _]) (cells := cellsL s1.heap.objs.size v1 v2 o3 o4 o5 o6) (R := R') F9 N9 ?el off ?eS ⟨_, rfl, NCell.cons ?ec hR', hB'.mono (fun z hz => .tail _ hz), hKP'.mono (fun z hz => .tail _ hz), hKM'.mono (fun z hz => .tail _ hz), ?eA⟩)
      case el => assumption
      case ec => rfl
      case eS => exact .inr ⟨_, List.mem_append_right _ (.tail _ hKP'.1), rfl, _, rfl⟩
      case eA =>
        rw [take_snoc hl]
        exact AllIn.snoc ⟨_, _, _, rfl, .head _⟩ (AllIn.mono (ColR.mono fun z hz => .tail _ hz) hA)

-- l2_c6
  clear N3 F3 hR hB hKP hKM R
  intro h tk qq1
  refine hideG fun Gx hG => ?_
  obtain ⟨o2, Cl, cs, cC, R, F3, N3, hR, ho2, hB2, hKP, hKM, hCo⟩ := qq1
  refine hG ?_
  clear hG
  have hB : B6 w ns T ys cT r t1 t2 t3 P ps cP M ms cM size Cl cs cC R := ⟨hB2, hKP, hKM, hCo⟩
  clear hB2 hKP hKM hCo
  have htl := told_len ns
  k_dflt (refine' execs_cutF (fun h₀ L m _ h => ∃ o1 Du ds cD R, Fr h₀ L h m ∧ News h₀ L h (cellsL L o1 o2 o3 o4 o5 o6 ++ R) ∧ NCell R ∧ o1.data = .cell (some (.ref Du)) ∧ B6 w ns T ys cT r t1 t2 t3 P ps cP M ms cM size Cl cs cC R ∧ (Du, W.listOf (List.toArray ds) cD) ∈ R ∧ AllIn (RowR R) ds (dueRows (toldL ns))) F3 N3 ?_ ?_)

-- l2_b7
  · k_dflt (refine wpAny_Assign_Name ?_ (by with_unfolding_all rfl))
    k_dflt (refine' ListComp_C (x := PySem.Str.ofString "i") F3 ?q1 ?q2 ?q3 ?q4 ?q5 ?q6 ?_ ?q7)
    case q1 => with_unfolding_all rfl
    case q2 => rfl
    case q3 => decide
    case q4 => exact fun n acc => rfl
    case q5 => exact fun h => rfl
    case q6 => exact fun C c => rfl
    case q7 => (intro _; rfl)
    have N3e := N3
    dsimp only [cellsL, List.cons_append, List.nil_append] at N3e
    (repeat' (first | ((k_here; (with_reducible show wpAny _ _ (subscriptTail _ _ (Value.ref _) (Value.int _ _)) _ _ _); k_dflt (refine' item_at ?k1Z9 ?k2Z9 ?k3Z9 ?k4Z9 ?_ ?k6Z9; (case k1Z9 => exact News.isList (by k_asm) (by k_mem)); (case k4Z9 => with_reducible assumption); (case k2Z9 => omega); (case k3Z9 => omega); (case k6Z9 => with_unfolding_all rfl); k_whole))) | (((with_reducible show wpAny _ _ (call (Value.ref 129) _) _ _ _); k_here; k_dflt ((refine' ways_claim _ _ _ _ _ _ _ _ _ _ _ _ _ _ _ _ _ _ _ ?htZ9 ?hbZ9 ?hpZ9 ?hqZ9 ?hiZ9 ?hjZ9 ?e1Z9 ?e2Z9 ?e3Z9 ?e4Z9 _ _ _ _ _ _ _ _ _ _ _ _ _ _ _ _ _ _ _ _ _ ?k1Z9 ?kFZ9 ?k3Z9 ?kNZ9 ?k5Z9 ?m1Z9 ?m2Z9 ?w1Z9 ?w2Z9 ?w3Z9 ?w4Z9 ?kKZ9 ?kdZ9 ?kuZ9 ?_); (case kFZ9 => assumption); (case kNZ9 => assumption); (case m1Z9 => k_mem); (case m2Z9 => k_mem); (case e1Z9 => with_reducible assumption); (case e2Z9 => with_reducible assumption); (case e3Z9 => with_reducible assumption); (case e4Z9 => with_reducible assumption); (case w1Z9 => assumption); (case w2Z9 => assumption); (case w3Z9 => assumption); (case w4Z9 => assumption); (case htZ9 => omega); (case hbZ9 => omega); (case hpZ9 => omega); (case hqZ9 => omega); (case hiZ9 => omega); (case hjZ9 => omega); (case k1Z9 => k_asm); (case k3Z9 => k_asm); (case k5Z9 => k_asm); (case kKZ9 => first | exact rfl | assumption); (case kdZ9 => ktr_room); (case kuZ9 => ktr_units); intro h9 tk9 v9 F9 N9 st9 o9; (try dsimp only); (try k_fold)))) | (((with_reducible show wpAny _ _ (compareOp CmpOp.NotEq (Value.ref _) (Value.ref _)) _ _ _); k_here; k_dflt ((refine' ne_rows ?kNZ9 ?kFZ9 ?kDZ9 ?u1Z9 ?u2Z9 ?_); (case kFZ9 => assumption); (case kDZ9 => assumption); (case kNZ9 => assumption); (case u1Z9 => (simp only [units_in1, units_deeper, units_caller]; decide)); (case u2Z9 => (simp only [units_in1, units_deeper, units_caller]; decide)); (try dsimp only); (try k_fold)))) | (((with_reducible show wpAny _ _ (call (Value.ref 108) [Value.str _ _, Value.str _ _, Value.int _ _]) _ _ _); ((k_here; k_dflt ((refine' use_cl (lev_claim _ _ _ _ _ _ _ (by rw [leadS_len]; omega) (by rw [leadS_len]; omega) (by omega)) ?k1Z9 ?kFZ9 ?k3Z9 ?kNZ9 ?k5Z9 ?kKZ9 ?kdZ9 ?kuZ9 ?kHZ9 ?_); (case kFZ9 => assumption); (case kNZ9 => assumption); (case k1Z9 => k_asm); (case k3Z9 => k_asm); (case k5Z9 => k_asm); (case kKZ9 => first | exact rfl | assumption); (case kdZ9 => ktr_room); (case kuZ9 => ktr_units); (case kHZ9 => trivial)))); intro v9 h9 tk9 F9 N9 st9 o9; obtain ⟨t9, e9⟩ := o9; subst e9; (try dsimp only); (try k_fold))) | (((with_reducible show wpAny _ _ (call (Value.ref 136) _) _ _ _); k_here; k_dflt ((refine' due_claim _ _ _ _ _ _ _ _ _ _ _ _ _ ?htZ9 ?hbZ9 ?hiZ9 ?hjZ9 ?hsZ9 _ _ _ _ _ _ _ _ _ _ _ _ _ _ _ _ _ _ _ _ _ ?k1Z9 ?kFZ9 ?k3Z9 ?kNZ9 ?k5Z9 ?w1Z9 ?w2Z9 ?kKZ9 ?kdZ9 ?kuZ9 ?_); (case kFZ9 => assumption); (case kNZ9 => assumption); (case w1Z9 => k_mem); (case w2Z9 => k_mem); (case htZ9 => omega); (case hbZ9 => omega); (case hiZ9 => omega); (case hjZ9 => omega); (case hsZ9 => omega); (case k1Z9 => k_asm); (case k3Z9 => k_asm); (case k5Z9 => k_asm); (case kKZ9 => first | exact rfl | assumption); (case kdZ9 => ktr_room); (case kuZ9 => ktr_units); intro h9 tk9 t9 F9 N9; (try dsimp only); (try k_fold)))) | (((with_reducible show wpAny _ _ (call (Value.ref 52) _) _ _ _); k_here; k_dflt ((refine' indent_use _ _ _ _ _ _ ?kpZ9 ?kqZ9 ?ksZ9 _ _ _ _ _ _ _ _ _ _ _ _ _ _ _ _ _ _ _ _ _ ?k1Z9 ?kFZ9 ?k3Z9 ?kNZ9 ?k5Z9 ?w1Z9 ?kKZ9 ?kdZ9 ?kuZ9 ?_); (case kFZ9 => assumption); (case kNZ9 => assumption); (case w1Z9 => assumption); (case kpZ9 => omega); (case kqZ9 => omega); (case ksZ9 => omega); (case k1Z9 => k_asm); (case k3Z9 => k_asm); (case k5Z9 => k_asm); (case kKZ9 => first | exact rfl | assumption); (case kdZ9 => ktr_room); (case kuZ9 => ktr_units); intro t9 h9 tk9 F9 N9; (try dsimp only); (try k_fold)))) | (((with_reducible show wpAny _ _ (call (Value.builtin "len") [Value.ref _]) _ _ _); k_here; k_dflt ((rename News _ _ _ _ => lN'); (refine' kst_len lN' ?kmZ9 ?keZ9 ?kfZ9 ?_); (case kmZ9 => k_mem); (case keZ9 => assumption); (case kfZ9 => omega); (try dsimp only); (try k_fold)))) | (((with_reducible show wpAny _ _ (call (Value.type _) [Value.int _ _]) _ _ _); k_here; k_dflt ((rename Fr _ _ _ _ => lF'); (rename News _ _ _ _ => lN'); (refine' range_led lF' lN' ?_); clear lF' lN'; intro r9 h9 tk9 t9 u9 v9 F9 N9; (try dsimp only); (try k_fold)))) | ((k_here; (with_reducible show wpAny _ _ (call (Value.type _) [Value.ref _]) _ _ _); (rename IsRange _ _ _ _ _ _ _ _ => rgX); (with_unfolding_all refine' list_step ?k0Z9 ?k1Z9 ?k2Z9 ?k3Z9 ?k4Z9 ?k5Z9 ?k6Z9 ?_; (case k0Z9 => rfl); (case k1Z9 => k_asm); (case k2Z9 => k_asm); (case k3Z9 => exact rgX); (case k4Z9 => exact small_two (by omega) (by omega)); (case k5Z9 => exact range_two (by omega)); (case k6Z9 => omega)); intro _ _ _ _ _ _ _ l1 _; (try k_lt l1))) | ((k_here; (with_reducible show wpAny _ _ (subscriptTail _ (Expr.Slice none (some _) none _) _ _) _ _ _); (with_reducible rename Fr _ _ _ _ => F'); (with_reducible rename News _ _ _ _ => N'); (refine slice_none (s := ⟨_, _, _, _, _⟩) F' N' ?_ (hsz := ?hszZ9)); (case hszZ9 => (rw [sizeLine_eq]; omega)); intro _ _ _ _ _)) | ((k_here; k_openite; first | (refine ite_pos ?hxZ9 ?_; (case hxZ9 => first | with_reducible assumption | (simp only [decide_eq_true_eq, decide_eq_false_iff_not, Bool.not_eq_true', Bool.not_eq_false', bne_iff_ne, ne_eq]; omega))) | (refine ite_neg ?hxZ9 ?_; (case hxZ9 => first | with_reducible assumption | (simp only [decide_eq_true_eq, decide_eq_false_iff_not, Bool.not_eq_true', Bool.not_eq_false', bne_iff_ne, ne_eq, Bool.not_eq_true, Decidable.not_not]; omega))) | (refine ite_b (fun hc => ?_) (fun hc => ?_) <;> (try simp only [decide_eq_true_eq, decide_eq_false_iff_not, Bool.not_eq_true', Bool.not_eq_false', bne_iff_ne, ne_eq, bne_eq_false_iff_eq, Decidable.not_not, Int.not_lt, Int.not_le] at hc)))) | (fail_if_success (with_reducible show wpAny _ _ (eval (PySem.Expr.ListComp _ _ _ _) _) _ _ _)); (fail_if_success (with_reducible show LCp.SrcLP _ _ _ _ _ _ _ _ _ _ _ _ _ _ _)); (fail_if_success (with_reducible show wpAny _ _ (call (Value.ref _) _) _ _ _)); (fail_if_success (with_reducible show LCg.CompSrc _ _ _ _ _ _ _ _ _ _ _ _ _ _)); (fail_if_success (with_reducible show wpAny _ _ (storeName _ _ _) _ _ _)); (fail_if_success (with_reducible show LCg.CompEnd _ _ _ _ _ _ _ _ _ _ _ _ _ _)); (fail_if_success (with_reducible show wpAny _ _ (exec (Stmt.For _ _ _ _ _) _) _ _ _)); (fail_if_success (with_reducible show wpAny _ _ (pyIter _) _ _ _)); first | (k_unfold; (try dsimp only)) | walk1 | (dsimp only; walk1) | (leave1; try dsimp only) | fail "no step"))
    clear N3e
    refine ⟨r, (toldL ns).length, t1, t2, t3, _, fun i ds nx => ∃ R, nx = cellsL s1.heap.objs.size v1 o2 o3 o4 o5 o6 ++ R ∧ NCell R ∧ B6 w ns T ys cT r t1 t2 t3 P ps cP M ms cM size Cl cs cC R ∧ AllIn (RowR R) ds ((dueRows (toldL ns)).take i), rfl, rfl, F3, N3, (N3 _ (List.mem_append_right _ hB.b2.rng)).1, by omega, ⟨_, rfl, hR, hB, trivial⟩, ?turn, ?fin⟩
    case fin =>
      intro h₉ ds nx qq1 D h tk F7 N7
      refine hideG fun Gx hG => ?_
      obtain ⟨R', rfl, hR', hB', hA⟩ := qq1
      refine hG ?_
      clear hG
      rw [show (toldL ns).length = (dueRows (toldL ns)).length by simp [dueRows], List.take_length] at hA
      k_dflt (refine' storeCell (X := [_]) (pre := []) (post := [_, _, _, _, _]) F7 N7 ?cX hR' e1 ?cne ?cc ?_ ?ck ?cx)
      case cX => exact NCell.cons rfl (fun z hz => nomatch hz)
      case cne => (dsimp only [List.cons_append, List.nil_append, List.append_nil]; refine ne_cons (neN ?_) (ne_cons (neN ?_) (ne_cons (neN ?_) (ne_cons (neN ?_) (ne_cons (neN ?_) ne_nil)))) <;> (dsimp only; omega))
      case cc => rfl
      case ck => rfl
      case cx => rfl
      intro h' o1 F8 ho1 N8
      exact ⟨rfl, h', _, rfl, o1, D, ds, ds.length, _, F8, N8, NCell.cons rfl hR', ho1, hB'.mono fun z hz => .tail _ hz, .head _, AllIn.mono (RowR.mono fun z hz => .tail _ hz) hA⟩
    case turn =>
      clear F3 N3
      intro h₉
      intro i ds nx I oI C oC D cx ox t h tk E' hi qq1 hox F7 N7 ap
      refine hideG fun Gx hG => ?_
      obtain ⟨R', rfl, hR', hB', hA⟩ := qq1
      obtain ⟨p, hl⟩ : ∃ p, (toldL ns)[i]? = some p := ⟨_, List.getElem?_eq_getElem hi⟩
      refine hG ?_
      clear hG
      have hlp := told_lt hl
      k_dflt (refine LCg.ListComp_U (F₀ := F7) (by with_unfolding_all rfl) (by decide) (by rfl) (by decide) (by rfl) ?_)
      have N7e := N7
      dsimp only [cellsL, List.cons_append, List.nil_append] at N7e
      (repeat' (first | ((k_here; (with_reducible show wpAny _ _ (subscriptTail _ _ (Value.ref _) (Value.int _ _)) _ _ _); k_dflt (refine' item_at ?k1Z9 ?k2Z9 ?k3Z9 ?k4Z9 ?_ ?k6Z9; (case k1Z9 => exact News.isList (by k_asm) (by k_mem)); (case k4Z9 => with_reducible assumption); (case k2Z9 => omega); (case k3Z9 => omega); (case k6Z9 => with_unfolding_all rfl); k_whole))) | (((with_reducible show wpAny _ _ (call (Value.ref 129) _) _ _ _); k_here; k_dflt ((refine' ways_claim _ _ _ _ _ _ _ _ _ _ _ _ _ _ _ _ _ _ _ ?htZ9 ?hbZ9 ?hpZ9 ?hqZ9 ?hiZ9 ?hjZ9 ?e1Z9 ?e2Z9 ?e3Z9 ?e4Z9 _ _ _ _ _ _ _ _ _ _ _ _ _ _ _ _ _ _ _ _ _ ?k1Z9 ?kFZ9 ?k3Z9 ?kNZ9 ?k5Z9 ?m1Z9 ?m2Z9 ?w1Z9 ?w2Z9 ?w3Z9 ?w4Z9 ?kKZ9 ?kdZ9 ?kuZ9 ?_); (case kFZ9 => assumption); (case kNZ9 => assumption); (case m1Z9 => k_mem); (case m2Z9 => k_mem); (case e1Z9 => with_reducible assumption); (case e2Z9 => with_reducible assumption); (case e3Z9 => with_reducible assumption); (case e4Z9 => with_reducible assumption); (case w1Z9 => assumption); (case w2Z9 => assumption); (case w3Z9 => assumption); (case w4Z9 => assumption); (case htZ9 => omega); (case hbZ9 => omega); (case hpZ9 => omega); (case hqZ9 => omega); (case hiZ9 => omega); (case hjZ9 => omega); (case k1Z9 => k_asm); (case k3Z9 => k_asm); (case k5Z9 => k_asm); (case kKZ9 => first | exact rfl | assumption); (case kdZ9 => ktr_room); (case kuZ9 => ktr_units); intro h9 tk9 v9 F9 N9 st9 o9; (try dsimp only); (try k_fold)))) | (((with_reducible show wpAny _ _ (compareOp CmpOp.NotEq (Value.ref _) (Value.ref _)) _ _ _); k_here; k_dflt ((refine' ne_rows ?kNZ9 ?kFZ9 ?kDZ9 ?u1Z9 ?u2Z9 ?_); (case kFZ9 => assumption); (case kDZ9 => assumption); (case kNZ9 => assumption); (case u1Z9 => (simp only [units_in1, units_deeper, units_caller]; decide)); (case u2Z9 => (simp only [units_in1, units_deeper, units_caller]; decide)); (try dsimp only); (try k_fold)))) | (((with_reducible show wpAny _ _ (call (Value.ref 108) [Value.str _ _, Value.str _ _, Value.int _ _]) _ _ _); ((k_here; k_dflt ((refine' use_cl (lev_claim _ _ _ _ _ _ _ (by rw [leadS_len]; omega) (by rw [leadS_len]; omega) (by omega)) ?k1Z9 ?kFZ9 ?k3Z9 ?kNZ9 ?k5Z9 ?kKZ9 ?kdZ9 ?kuZ9 ?kHZ9 ?_); (case kFZ9 => assumption); (case kNZ9 => assumption); (case k1Z9 => k_asm); (case k3Z9 => k_asm); (case k5Z9 => k_asm); (case kKZ9 => first | exact rfl | assumption); (case kdZ9 => ktr_room); (case kuZ9 => ktr_units); (case kHZ9 => trivial)))); intro v9 h9 tk9 F9 N9 st9 o9; obtain ⟨t9, e9⟩ := o9; subst e9; (try dsimp only); (try k_fold))) | (((with_reducible show wpAny _ _ (call (Value.ref 136) _) _ _ _); k_here; k_dflt ((refine' due_claim _ _ _ _ _ _ _ _ _ _ _ _ _ ?htZ9 ?hbZ9 ?hiZ9 ?hjZ9 ?hsZ9 _ _ _ _ _ _ _ _ _ _ _ _ _ _ _ _ _ _ _ _ _ ?k1Z9 ?kFZ9 ?k3Z9 ?kNZ9 ?k5Z9 ?w1Z9 ?w2Z9 ?kKZ9 ?kdZ9 ?kuZ9 ?_); (case kFZ9 => assumption); (case kNZ9 => assumption); (case w1Z9 => k_mem); (case w2Z9 => k_mem); (case htZ9 => omega); (case hbZ9 => omega); (case hiZ9 => omega); (case hjZ9 => omega); (case hsZ9 => omega); (case k1Z9 => k_asm); (case k3Z9 => k_asm); (case k5Z9 => k_asm); (case kKZ9 => first | exact rfl | assumption); (case kdZ9 => ktr_room); (case kuZ9 => ktr_units); intro h9 tk9 t9 F9 N9; (try dsimp only); (try k_fold)))) | (((with_reducible show wpAny _ _ (call (Value.ref 52) _) _ _ _); k_here; k_dflt ((refine' indent_use _ _ _ _ _ _ ?kpZ9 ?kqZ9 ?ksZ9 _ _ _ _ _ _ _ _ _ _ _ _ _ _ _ _ _ _ _ _ _ ?k1Z9 ?kFZ9 ?k3Z9 ?kNZ9 ?k5Z9 ?w1Z9 ?kKZ9 ?kdZ9 ?kuZ9 ?_); (case kFZ9 => assumption); (case kNZ9 => assumption); (case w1Z9 => assumption); (case kpZ9 => omega); (case kqZ9 => omega); (case ksZ9 => omega); (case k1Z9 => k_asm); (case k3Z9 => k_asm); (case k5Z9 => k_asm); (case kKZ9 => first | exact rfl | assumption); (case kdZ9 => ktr_room); (case kuZ9 => ktr_units); intro t9 h9 tk9 F9 N9; (try dsimp only); (try k_fold)))) | (((with_reducible show wpAny _ _ (call (Value.builtin "len") [Value.ref _]) _ _ _); k_here; k_dflt ((rename News _ _ _ _ => lN'); (refine' kst_len lN' ?kmZ9 ?keZ9 ?kfZ9 ?_); (case kmZ9 => k_mem); (case keZ9 => assumption); (case kfZ9 => omega); (try dsimp only); (try k_fold)))) | (((with_reducible show wpAny _ _ (call (Value.type _) [Value.int _ _]) _ _ _); k_here; k_dflt ((rename Fr _ _ _ _ => lF'); (rename News _ _ _ _ => lN'); (refine' range_led lF' lN' ?_); clear lF' lN'; intro r9 h9 tk9 t9 u9 v9 F9 N9; (try dsimp only); (try k_fold)))) | ((k_here; (with_reducible show wpAny _ _ (call (Value.type _) [Value.ref _]) _ _ _); (rename IsRange _ _ _ _ _ _ _ _ => rgX); (with_unfolding_all refine' list_step ?k0Z9 ?k1Z9 ?k2Z9 ?k3Z9 ?k4Z9 ?k5Z9 ?k6Z9 ?_; (case k0Z9 => rfl); (case k1Z9 => k_asm); (case k2Z9 => k_asm); (case k3Z9 => exact rgX); (case k4Z9 => exact small_two (by omega) (by omega)); (case k5Z9 => exact range_two (by omega)); (case k6Z9 => omega)); intro _ _ _ _ _ _ _ l1 _; (try k_lt l1))) | ((k_here; (with_reducible show wpAny _ _ (subscriptTail _ (Expr.Slice none (some _) none _) _ _) _ _ _); (with_reducible rename Fr _ _ _ _ => F'); (with_reducible rename News _ _ _ _ => N'); (refine slice_none (s := ⟨_, _, _, _, _⟩) F' N' ?_ (hsz := ?hszZ9)); (case hszZ9 => (rw [sizeLine_eq]; omega)); intro _ _ _ _ _)) | ((k_here; k_openite; first | (refine ite_pos ?hxZ9 ?_; (case hxZ9 => first | with_reducible assumption | (simp only [decide_eq_true_eq, decide_eq_false_iff_not, Bool.not_eq_true', Bool.not_eq_false', bne_iff_ne, ne_eq]; omega))) | (refine ite_neg ?hxZ9 ?_; (case hxZ9 => first | with_reducible assumption | (simp only [decide_eq_true_eq, decide_eq_false_iff_not, Bool.not_eq_true', Bool.not_eq_false', bne_iff_ne, ne_eq, Bool.not_eq_true, Decidable.not_not]; omega))) | (refine ite_b (fun hc => ?_) (fun hc => ?_) <;> (try simp only [decide_eq_true_eq, decide_eq_false_iff_not, Bool.not_eq_true', Bool.not_eq_false', bne_iff_ne, ne_eq, bne_eq_false_iff_eq, Decidable.not_not, Int.not_lt, Int.not_le] at hc)))) | (fail_if_success (with_reducible show wpAny _ _ (eval (PySem.Expr.ListComp _ _ _ _) _) _ _ _)); (fail_if_success (with_reducible show LCp.SrcLP _ _ _ _ _ _ _ _ _ _ _ _ _ _ _)); (fail_if_success (with_reducible show wpAny _ _ (call (Value.ref _) _) _ _ _)); (fail_if_success (with_reducible show LCg.CompSrc _ _ _ _ _ _ _ _ _ _ _ _ _ _)); (fail_if_success (with_reducible show wpAny _ _ (storeName _ _ _) _ _ _)); (fail_if_success (with_reducible show LCg.CompEnd _ _ _ _ _ _ _ _ _ _ _ _ _ _)); (fail_if_success (with_reducible show wpAny _ _ (exec (Stmt.For _ _ _ _ _) _) _ _ _)); (fail_if_success (with_reducible show wpAny _ _ (pyIter _) _ _ _)); first | (k_unfold; (try dsimp only)) | walk1 | (dsimp only; walk1) | (leave1; try dsimp only) | fail "no step"))
      clear N7e
      k_dflt (refine' LCg.CompSrc.range rfl F7 N7 (N7 _ (.tail _ (.tail _ (.tail _ (.tail _ (List.mem_append_right _ hB'.b2.rng)))))).1 (small_0 (by omega) (by omega)) (range_to rfl) ?hsz (fun g => ?_))
      case hsz => exact Nat.le_trans htl.2 (by decide)
      k_dflt (refine' comp_ind (fun j zs nx => ∃ R, nx = [(I, oI), (C, oC), (D, LCg.lst ds), (cx, ox)] ++ (cellsL s1.heap.objs.size v1 o2 o3 o4 o5 o6 ++ R) ∧ NCell R ∧ B6 w ns T ys cT r t1 t2 t3 P ps cP M ms cM size Cl cs cC R ∧ AllIn (RowR R) ds ((dueRows (toldL ns)).take i) ∧ Apart4 I C D cx (cellsL s1.heap.objs.size v1 o2 o3 o4 o5 o6 ++ R) ∧ IntsAre zs ((dueRow (toldL ns) p).take j)) ?hJ ?turn2 ?fin2)
      case hJ => exact ⟨_, rfl, hR', hB', hA, ap, .nil⟩
      case fin2 =>
        intro zs nx qq1 D2 h tk F8 N8 off1
        refine hideG fun Gx hG => ?_
        obtain ⟨R'', rfl, hR'', hB'', hA'', ap'', hz⟩ := qq1
        refine hG ?_
        clear hG
        rw [← dueRow_len (toldL ns) p, List.take_length] at hz
        refine cendC_row rfl F8 N8 off1 ap'' ⟨_, rfl, NCell.cons rfl hR'', hB''.mono fun z hz => .tail _ hz, ?_⟩
        rw [take_snoc (dueRows_get hl)]
        exact AllIn.snoc ⟨D2, zs, _, rfl, .head _, hz⟩ (AllIn.mono (RowR.mono fun z hz => .tail _ hz) hA'')
      case turn2 =>
        clear F7 N7
        intro j zs nx v I2 oI2 C2 oC2 D2 m₂ h tk E' hj qq1 qq2 hC2 hx2 F8 N8 off2 qq3
        refine hideG fun Gx hG => ?_
        obtain ⟨R'', rfl, hR'', hB'', hA'', ap'', hz⟩ := qq1
        obtain ⟨tj, rfl⟩ := qq2
        obtain ⟨ne1, ne2, ne3⟩ := qq3
        rw [Int.zero_add] at hx2
        obtain ⟨q, hlq⟩ : ∃ q, (toldL ns)[j]? = some q := ⟨_, List.getElem?_eq_getElem hj⟩
        have hlq2 := told_lt hlq
        obtain ⟨_, hci, Di, k1, k2, rfl, mi⟩ := AllIn.get hB''.co.2 hl
        obtain ⟨_, hcj, Dj, k3, k4, rfl, mj⟩ := AllIn.get hB''.co.2 hlq
        refine hG ?_
        clear hG
        rw [← Int.toNat_natCast i] at hci
        rw [← Int.toNat_natCast j] at hcj
        have N9 := kst_newsOf N8 (l' := (Cl, W.listOf (List.toArray cs) cC) :: (Di, colTup size p.1 p.2 k1 k2) :: (Dj, colTup size q.1 q.2 k3 k4) :: (I2, oI2) :: (C2, oC2) :: (D2, LCg.lst zs) :: ([(I, oI), (C, oC), (D, LCg.lst ds), (cx, ox)] ++ (cellsL s1.heap.objs.size v1 o2 o3 o4 o5 o6 ++ R''))) ((sub_cons (.tail _ (.tail _ (.tail _ (List.mem_append_right _ (List.mem_append_right _ hB''.co.1))))) (sub_cons (.tail _ (.tail _ (.tail _ (List.mem_append_right _ (List.mem_append_right _ mi))))) (sub_cons (.tail _ (.tail _ (.tail _ (List.mem_append_right _ (List.mem_append_right _ mj))))) (fun z hz => hz)))))
        clear N8
        dsimp only [cellsL, List.cons_append, List.nil_append] at N9
        (repeat' (first | ((k_here; (with_reducible show wpAny _ _ (subscriptTail _ _ (Value.ref _) (Value.int _ _)) _ _ _); k_dflt (refine' item_at ?k1Z9 ?k2Z9 ?k3Z9 ?k4Z9 ?_ ?k6Z9; (case k1Z9 => exact News.isList (by k_asm) (by k_mem)); (case k4Z9 => with_reducible assumption); (case k2Z9 => omega); (case k3Z9 => omega); (case k6Z9 => with_unfolding_all rfl); k_whole))) | (((with_reducible show wpAny _ _ (call (Value.ref 129) _) _ _ _); k_here; k_dflt ((refine' ways_claim _ _ _ _ _ _ _ _ _ _ _ _ _ _ _ _ _ _ _ ?htZ9 ?hbZ9 ?hpZ9 ?hqZ9 ?hiZ9 ?hjZ9 ?e1Z9 ?e2Z9 ?e3Z9 ?e4Z9 _ _ _ _ _ _ _ _ _ _ _ _ _ _ _ _ _ _ _ _ _ ?k1Z9 ?kFZ9 ?k3Z9 ?kNZ9 ?k5Z9 ?m1Z9 ?m2Z9 ?w1Z9 ?w2Z9 ?w3Z9 ?w4Z9 ?kKZ9 ?kdZ9 ?kuZ9 ?_); (case kFZ9 => assumption); (case kNZ9 => assumption); (case m1Z9 => k_mem); (case m2Z9 => k_mem); (case e1Z9 => with_reducible assumption); (case e2Z9 => with_reducible assumption); (case e3Z9 => with_reducible assumption); (case e4Z9 => with_reducible assumption); (case w1Z9 => assumption); (case w2Z9 => assumption); (case w3Z9 => assumption); (case w4Z9 => assumption); (case htZ9 => omega); (case hbZ9 => omega); (case hpZ9 => omega); (case hqZ9 => omega); (case hiZ9 => omega); (case hjZ9 => omega); (case k1Z9 => k_asm); (case k3Z9 => k_asm); (case k5Z9 => k_asm); (case kKZ9 => first | exact rfl | assumption); (case kdZ9 => ktr_room); (case kuZ9 => ktr_units); intro h9 tk9 v9 F9 N9 st9 o9; (try dsimp only); (try k_fold)))) | (((with_reducible show wpAny _ _ (compareOp CmpOp.NotEq (Value.ref _) (Value.ref _)) _ _ _); k_here; k_dflt ((refine' ne_rows ?kNZ9 ?kFZ9 ?kDZ9 ?u1Z9 ?u2Z9 ?_); (case kFZ9 => assumption); (case kDZ9 => assumption); (case kNZ9 => assumption); (case u1Z9 => (simp only [units_in1, units_deeper, units_caller]; decide)); (case u2Z9 => (simp only [units_in1, units_deeper, units_caller]; decide)); (try dsimp only); (try k_fold)))) | (((with_reducible show wpAny _ _ (call (Value.ref 108) [Value.str _ _, Value.str _ _, Value.int _ _]) _ _ _); ((k_here; k_dflt ((refine' use_cl (lev_claim _ _ _ _ _ _ _ (by rw [leadS_len]; omega) (by rw [leadS_len]; omega) (by omega)) ?k1Z9 ?kFZ9 ?k3Z9 ?kNZ9 ?k5Z9 ?kKZ9 ?kdZ9 ?kuZ9 ?kHZ9 ?_); (case kFZ9 => assumption); (case kNZ9 => assumption); (case k1Z9 => k_asm); (case k3Z9 => k_asm); (case k5Z9 => k_asm); (case kKZ9 => first | exact rfl | assumption); (case kdZ9 => ktr_room); (case kuZ9 => ktr_units); (case kHZ9 => trivial)))); intro v9 h9 tk9 F9 N9 st9 o9; obtain ⟨t9, e9⟩ := o9; subst e9; (try dsimp only); (try k_fold))) | (((with_reducible show wpAny _ _ (call (Value.ref 136) _) _ _ _); k_here; k_dflt ((refine' due_claim _ _ _ _ _ _ _ _ _ _ _ _ _ ?htZ9 ?hbZ9 ?hiZ9 ?hjZ9 ?hsZ9 _ _ _ _ _ _ _ _ _ _ _ _ _ _ _ _ _ _ _ _ _ ?k1Z9 ?kFZ9 ?k3Z9 ?kNZ9 ?k5Z9 ?w1Z9 ?w2Z9 ?kKZ9 ?kdZ9 ?kuZ9 ?_); (case kFZ9 => assumption); (case kNZ9 => assumption); (case w1Z9 => k_mem); (case w2Z9 => k_mem); (case htZ9 => omega); (case hbZ9 => omega); (case hiZ9 => omega); (case hjZ9 => omega); (case hsZ9 => omega); (case k1Z9 => k_asm); (case k3Z9 => k_asm); (case k5Z9 => k_asm); (case kKZ9 => first | exact rfl | assumption); (case kdZ9 => ktr_room); (case kuZ9 => ktr_units); intro h9 tk9 t9 F9 N9; (try dsimp only); (try k_fold)))) | (((with_reducible show wpAny _ _ (call (Value.ref 52) _) _ _ _); k_here; k_dflt ((refine' indent_use _ _ _ _ _ _ ?kpZ9 ?kqZ9 ?ksZ9 _ _ _ _ _ _ _ _ _ _ _ _ _ _ _ _ _ _ _ _ _ ?k1Z9 ?kFZ9 ?k3Z9 ?kNZ9 ?k5Z9 ?w1Z9 ?kKZ9 ?kdZ9 ?kuZ9 ?_); (case kFZ9 => assumption); (case kNZ9 => assumption); (case w1Z9 => assumption); (case kpZ9 => omega); (case kqZ9 => omega); (case ksZ9 => omega); (case k1Z9 => k_asm); (case k3Z9 => k_asm); (case k5Z9 => k_asm); (case kKZ9 => first | exact rfl | assumption); (case kdZ9 => ktr_room); (case kuZ9 => ktr_units); intro t9 h9 tk9 F9 N9; (try dsimp only); (try k_fold)))) | (((with_reducible show wpAny _ _ (call (Value.builtin "len") [Value.ref _]) _ _ _); k_here; k_dflt ((rename News _ _ _ _ => lN'); (refine' kst_len lN' ?kmZ9 ?keZ9 ?kfZ9 ?_); (case kmZ9 => k_mem); (case keZ9 => assumption); (case kfZ9 => omega); (try dsimp only); (try k_fold)))) | (((with_reducible show wpAny _ _ (call (Value.type _) [Value.int _ _]) _ _ _); k_here; k_dflt ((rename Fr _ _ _ _ => lF'); (rename News _ _ _ _ => lN'); (refine' range_led lF' lN' ?_); clear lF' lN'; intro r9 h9 tk9 t9 u9 v9 F9 N9; (try dsimp only); (try k_fold)))) | ((k_here; (with_reducible show wpAny _ _ (call (Value.type _) [Value.ref _]) _ _ _); (rename IsRange _ _ _ _ _ _ _ _ => rgX); (with_unfolding_all refine' list_step ?k0Z9 ?k1Z9 ?k2Z9 ?k3Z9 ?k4Z9 ?k5Z9 ?k6Z9 ?_; (case k0Z9 => rfl); (case k1Z9 => k_asm); (case k2Z9 => k_asm); (case k3Z9 => exact rgX); (case k4Z9 => exact small_two (by omega) (by omega)); (case k5Z9 => exact range_two (by omega)); (case k6Z9 => omega)); intro _ _ _ _ _ _ _ l1 _; (try k_lt l1))) | ((k_here; (with_reducible show wpAny _ _ (subscriptTail _ (Expr.Slice none (some _) none _) _ _) _ _ _); (with_reducible rename Fr _ _ _ _ => F'); (with_reducible rename News _ _ _ _ => N'); (refine slice_none (s := ⟨_, _, _, _, _⟩) F' N' ?_ (hsz := ?hszZ9)); (case hszZ9 => (rw [sizeLine_eq]; omega)); intro _ _ _ _ _)) | ((k_here; k_openite; first | (refine ite_pos ?hxZ9 ?_; (case hxZ9 => first | with_reducible assumption | (simp only [decide_eq_true_eq, decide_eq_false_iff_not, Bool.not_eq_true', Bool.not_eq_false', bne_iff_ne, ne_eq]; omega))) | (refine ite_neg ?hxZ9 ?_; (case hxZ9 => first | with_reducible assumption | (simp only [decide_eq_true_eq, decide_eq_false_iff_not, Bool.not_eq_true', Bool.not_eq_false', bne_iff_ne, ne_eq, Bool.not_eq_true, Decidable.not_not]; omega))) | (refine ite_b (fun hc => ?_) (fun hc => ?_) <;> (try simp only [decide_eq_true_eq, decide_eq_false_iff_not, Bool.not_eq_true', Bool.not_eq_false', bne_iff_ne, ne_eq, bne_eq_false_iff_eq, Decidable.not_not, Int.not_lt, Int.not_le] at hc)))) | (fail_if_success (with_reducible show LCg.CompSrc _ _ _ _ _ _ _ _ _ _ _ _ _ _)); (fail_if_success (with_reducible show LCg.CompEnd _ _ _ _ _ _ _ _ _ _ _ _ _ _)); (fail_if_success (with_reducible show wpAny _ _ (exec (Stmt.For _ _ _ _ _) _) _ _ _)); (fail_if_success (with_reducible show wpAny _ _ (pyIter _) _ _ _)); first | (k_unfold; (try dsimp only)) | walk1 | (dsimp only; walk1) | (leave1; try dsimp only) | fail "no step"))
        (rename Fr _ _ _ _ => F9; rename News _ _ _ _ => N9)
        k_dflt (refine' cend_same (X := [_, _, _]) (nx := [(I, oI), (C, oC), (D, LCg.lst ds), (cx, ox)] ++ (cellsL s1.heap.objs.size v1 o2 o3 o4 o5 o6 ++ R'')) F9 N9 off2 trivial ⟨_, rfl, hR'', hB'', hA'', ap'', ?eZ⟩)
        case eZ =>
          rw [take_snoc (dueRow_get hlq)]
          exact ints_snoc hz

-- l2_c7
  clear N3 F3 hR hB R
  intro h tk qq1
  refine hideG fun Gx hG => ?_
  obtain ⟨o1, Du, ds, cD, R, F3, N3, hR, ho1, hB, hD1, hD2⟩ := qq1
  refine hG ?_
  clear hG
  have hDu : RowsIn Du ds cD (dueRows (toldL ns)) R := ⟨hD1, hD2⟩
  clear hD1 hD2
  k_dflt (refine' execs_cutF (fun h₀ L m _ h => ∃ Fa fs cF R, Fr h₀ L h (fun z => if z = PySem.Str.ofString "far" then some (.ref Fa) else m z) ∧ News h₀ L h (cellsL L o1 o2 o3 o4 o5 o6 ++ R) ∧ NCell R ∧ B6 w ns T ys cT r t1 t2 t3 P ps cP M ms cM size Cl cs cC R ∧ RowsIn Du ds cD (dueRows (toldL ns)) R ∧ RowsIn Fa fs cF (dueRows (toldL ns)) R) F3 N3 ?_ ?_)

-- l2_b8
  · k_dflt (refine' Assign_ListComp_C (x := PySem.Str.ofString "i") F3 ?q0 ?qs ?q1 ?q2 ?q3 ?q4 ?q5 ?q6 ?qy ?qp ?_ ?q7)
    case q0 => rfl
    case qs => with_unfolding_all rfl
    case q1 => with_unfolding_all rfl
    case q2 => rfl
    case q3 => decide
    case q4 => exact fun n acc => rfl
    case q5 => exact fun h => rfl
    case q6 => exact fun C c => rfl
    case qy => rfl
    case qp => rfl
    case q7 => (intro _; rfl)
    have N3e := N3
    dsimp only [cellsL, List.cons_append, List.nil_append] at N3e
    (repeat' (first | ((k_here; (with_reducible show wpAny _ _ (subscriptTail _ _ (Value.ref _) (Value.int _ _)) _ _ _); k_dflt (refine' item_at ?k1Z9 ?k2Z9 ?k3Z9 ?k4Z9 ?_ ?k6Z9; (case k1Z9 => exact News.isList (by k_asm) (by k_mem)); (case k4Z9 => with_reducible assumption); (case k2Z9 => omega); (case k3Z9 => omega); (case k6Z9 => with_unfolding_all rfl); k_whole))) | (((with_reducible show wpAny _ _ (call (Value.ref 129) _) _ _ _); k_here; k_dflt ((refine' ways_claim _ _ _ _ _ _ _ _ _ _ _ _ _ _ _ _ _ _ _ ?htZ9 ?hbZ9 ?hpZ9 ?hqZ9 ?hiZ9 ?hjZ9 ?e1Z9 ?e2Z9 ?e3Z9 ?e4Z9 _ _ _ _ _ _ _ _ _ _ _ _ _ _ _ _ _ _ _ _ _ ?k1Z9 ?kFZ9 ?k3Z9 ?kNZ9 ?k5Z9 ?m1Z9 ?m2Z9 ?w1Z9 ?w2Z9 ?w3Z9 ?w4Z9 ?kKZ9 ?kdZ9 ?kuZ9 ?_); (case kFZ9 => assumption); (case kNZ9 => assumption); (case m1Z9 => k_mem); (case m2Z9 => k_mem); (case e1Z9 => with_reducible assumption); (case e2Z9 => with_reducible assumption); (case e3Z9 => with_reducible assumption); (case e4Z9 => with_reducible assumption); (case w1Z9 => assumption); (case w2Z9 => assumption); (case w3Z9 => assumption); (case w4Z9 => assumption); (case htZ9 => omega); (case hbZ9 => omega); (case hpZ9 => omega); (case hqZ9 => omega); (case hiZ9 => omega); (case hjZ9 => omega); (case k1Z9 => k_asm); (case k3Z9 => k_asm); (case k5Z9 => k_asm); (case kKZ9 => first | exact rfl | assumption); (case kdZ9 => ktr_room); (case kuZ9 => ktr_units); intro h9 tk9 v9 F9 N9 st9 o9; (try dsimp only); (try k_fold)))) | (((with_reducible show wpAny _ _ (compareOp CmpOp.NotEq (Value.ref _) (Value.ref _)) _ _ _); k_here; k_dflt ((refine' ne_rows ?kNZ9 ?kFZ9 ?kDZ9 ?u1Z9 ?u2Z9 ?_); (case kFZ9 => assumption); (case kDZ9 => assumption); (case kNZ9 => assumption); (case u1Z9 => (simp only [units_in1, units_deeper, units_caller]; decide)); (case u2Z9 => (simp only [units_in1, units_deeper, units_caller]; decide)); (try dsimp only); (try k_fold)))) | (((with_reducible show wpAny _ _ (call (Value.ref 108) [Value.str _ _, Value.str _ _, Value.int _ _]) _ _ _); ((k_here; k_dflt ((refine' use_cl (lev_claim _ _ _ _ _ _ _ (by rw [leadS_len]; omega) (by rw [leadS_len]; omega) (by omega)) ?k1Z9 ?kFZ9 ?k3Z9 ?kNZ9 ?k5Z9 ?kKZ9 ?kdZ9 ?kuZ9 ?kHZ9 ?_); (case kFZ9 => assumption); (case kNZ9 => assumption); (case k1Z9 => k_asm); (case k3Z9 => k_asm); (case k5Z9 => k_asm); (case kKZ9 => first | exact rfl | assumption); (case kdZ9 => ktr_room); (case kuZ9 => ktr_units); (case kHZ9 => trivial)))); intro v9 h9 tk9 F9 N9 st9 o9; obtain ⟨t9, e9⟩ := o9; subst e9; (try dsimp only); (try k_fold))) | (((with_reducible show wpAny _ _ (call (Value.ref 136) _) _ _ _); k_here; k_dflt ((refine' due_claim _ _ _ _ _ _ _ _ _ _ _ _ _ ?htZ9 ?hbZ9 ?hiZ9 ?hjZ9 ?hsZ9 _ _ _ _ _ _ _ _ _ _ _ _ _ _ _ _ _ _ _ _ _ ?k1Z9 ?kFZ9 ?k3Z9 ?kNZ9 ?k5Z9 ?w1Z9 ?w2Z9 ?kKZ9 ?kdZ9 ?kuZ9 ?_); (case kFZ9 => assumption); (case kNZ9 => assumption); (case w1Z9 => k_mem); (case w2Z9 => k_mem); (case htZ9 => omega); (case hbZ9 => omega); (case hiZ9 => omega); (case hjZ9 => omega); (case hsZ9 => omega); (case k1Z9 => k_asm); (case k3Z9 => k_asm); (case k5Z9 => k_asm); (case kKZ9 => first | exact rfl | assumption); (case kdZ9 => ktr_room); (case kuZ9 => ktr_units); intro h9 tk9 t9 F9 N9; (try dsimp only); (try k_fold)))) | (((with_reducible show wpAny _ _ (call (Value.ref 52) _) _ _ _); k_here; k_dflt ((refine' indent_use _ _ _ _ _ _ ?kpZ9 ?kqZ9 ?ksZ9 _ _ _ _ _ _ _ _ _ _ _ _ _ _ _ _ _ _ _ _ _ ?k1Z9 ?kFZ9 ?k3Z9 ?kNZ9 ?k5Z9 ?w1Z9 ?kKZ9 ?kdZ9 ?kuZ9 ?_); (case kFZ9 => assumption); (case kNZ9 => assumption); (case w1Z9 => assumption); (case kpZ9 => omega); (case kqZ9 => omega); (case ksZ9 => omega); (case k1Z9 => k_asm); (case k3Z9 => k_asm); (case k5Z9 => k_asm); (case kKZ9 => first | exact rfl | assumption); (case kdZ9 => ktr_room); (case kuZ9 => ktr_units); intro t9 h9 tk9 F9 N9; (try dsimp only); (try k_fold)))) | (((with_reducible show wpAny _ _ (call (Value.builtin "len") [Value.ref _]) _ _ _); k_here; k_dflt ((rename News _ _ _ _ => lN'); (refine' kst_len lN' ?kmZ9 ?keZ9 ?kfZ9 ?_); (case kmZ9 => k_mem); (case keZ9 => assumption); (case kfZ9 => omega); (try dsimp only); (try k_fold)))) | (((with_reducible show wpAny _ _ (call (Value.type _) [Value.int _ _]) _ _ _); k_here; k_dflt ((rename Fr _ _ _ _ => lF'); (rename News _ _ _ _ => lN'); (refine' range_led lF' lN' ?_); clear lF' lN'; intro r9 h9 tk9 t9 u9 v9 F9 N9; (try dsimp only); (try k_fold)))) | ((k_here; (with_reducible show wpAny _ _ (call (Value.type _) [Value.ref _]) _ _ _); (rename IsRange _ _ _ _ _ _ _ _ => rgX); (with_unfolding_all refine' list_step ?k0Z9 ?k1Z9 ?k2Z9 ?k3Z9 ?k4Z9 ?k5Z9 ?k6Z9 ?_; (case k0Z9 => rfl); (case k1Z9 => k_asm); (case k2Z9 => k_asm); (case k3Z9 => exact rgX); (case k4Z9 => exact small_two (by omega) (by omega)); (case k5Z9 => exact range_two (by omega)); (case k6Z9 => omega)); intro _ _ _ _ _ _ _ l1 _; (try k_lt l1))) | ((k_here; (with_reducible show wpAny _ _ (subscriptTail _ (Expr.Slice none (some _) none _) _ _) _ _ _); (with_reducible rename Fr _ _ _ _ => F'); (with_reducible rename News _ _ _ _ => N'); (refine slice_none (s := ⟨_, _, _, _, _⟩) F' N' ?_ (hsz := ?hszZ9)); (case hszZ9 => (rw [sizeLine_eq]; omega)); intro _ _ _ _ _)) | ((k_here; k_openite; first | (refine ite_pos ?hxZ9 ?_; (case hxZ9 => first | with_reducible assumption | (simp only [decide_eq_true_eq, decide_eq_false_iff_not, Bool.not_eq_true', Bool.not_eq_false', bne_iff_ne, ne_eq]; omega))) | (refine ite_neg ?hxZ9 ?_; (case hxZ9 => first | with_reducible assumption | (simp only [decide_eq_true_eq, decide_eq_false_iff_not, Bool.not_eq_true', Bool.not_eq_false', bne_iff_ne, ne_eq, Bool.not_eq_true, Decidable.not_not]; omega))) | (refine ite_b (fun hc => ?_) (fun hc => ?_) <;> (try simp only [decide_eq_true_eq, decide_eq_false_iff_not, Bool.not_eq_true', Bool.not_eq_false', bne_iff_ne, ne_eq, bne_eq_false_iff_eq, Decidable.not_not, Int.not_lt, Int.not_le] at hc)))) | (fail_if_success (with_reducible show wpAny _ _ (eval (PySem.Expr.ListComp _ _ _ _) _) _ _ _)); (fail_if_success (with_reducible show LCp.SrcLP _ _ _ _ _ _ _ _ _ _ _ _ _ _ _)); (fail_if_success (with_reducible show wpAny _ _ (call (Value.ref _) _) _ _ _)); (fail_if_success (with_reducible show LCg.CompSrc _ _ _ _ _ _ _ _ _ _ _ _ _ _)); (fail_if_success (with_reducible show wpAny _ _ (storeName _ _ _) _ _ _)); (fail_if_success (with_reducible show LCg.CompEnd _ _ _ _ _ _ _ _ _ _ _ _ _ _)); (fail_if_success (with_reducible show wpAny _ _ (exec (Stmt.For _ _ _ _ _) _) _ _ _)); (fail_if_success (with_reducible show wpAny _ _ (pyIter _) _ _ _)); first | (k_unfold; (try dsimp only)) | walk1 | (dsimp only; walk1) | (leave1; try dsimp only) | fail "no step"))
    clear N3e
    refine ⟨r, (toldL ns).length, t1, t2, t3, _, fun i fs nx => ∃ R, nx = cellsL s1.heap.objs.size o1 o2 o3 o4 o5 o6 ++ R ∧ NCell R ∧ B6 w ns T ys cT r t1 t2 t3 P ps cP M ms cM size Cl cs cC R ∧ RowsIn Du ds cD (dueRows (toldL ns)) R ∧ AllIn (RowR R) fs ((dueRows (toldL ns)).take i), rfl, rfl, F3, N3, (N3 _ (List.mem_append_right _ hB.b2.rng)).1, by omega, ⟨_, rfl, hR, hB, hDu, trivial⟩, ?turn, ?fin⟩
    case fin =>
      intro h₉ fs nx qq1 D h tk F7 N7
      refine hideG fun Gx hG => ?_
      obtain ⟨R', rfl, hR', hB', hDu', hA⟩ := qq1
      refine hG ?_
      clear hG
      rw [show (toldL ns).length = (dueRows (toldL ns)).length by simp [dueRows], List.take_length] at hA
      refine ⟨rfl, h, tk, rfl, D, fs, fs.length, (D, LCg.lst fs) :: R', F7, kst_newsOf N7 fun z hz => ?_, NCell.cons rfl hR', hB'.mono fun z hz => .tail _ hz, hDu'.mono fun z hz => .tail _ hz, .head _, AllIn.mono (RowR.mono fun z hz => .tail _ hz) hA⟩
      rcases List.mem_append.mp hz with hz | hz
      · exact .tail _ (List.mem_append_left _ hz)
      · rcases List.mem_cons.mp hz with rfl | hz
        · exact .head _
        · exact .tail _ (List.mem_append_right _ hz)
    case turn =>
      clear F3 N3
      intro h₉
      intro i fs nx I oI C oC D cx ox t h tk E' hi qq1 hox F7 N7 ap
      refine hideG fun Gx hG => ?_
      obtain ⟨R', rfl, hR', hB', hDu', hA⟩ := qq1
      obtain ⟨p, hl⟩ : ∃ p, (toldL ns)[i]? = some p := ⟨_, List.getElem?_eq_getElem hi⟩
      refine hG ?_
      clear hG
      have hlp := told_lt hl
      k_dflt (refine LCg.ListComp_U (F₀ := F7) (by with_unfolding_all rfl) (by decide) (by rfl) (by decide) (by rfl) ?_)
      have N7e := N7
      dsimp only [cellsL, List.cons_append, List.nil_append] at N7e
      (repeat' (first | ((k_here; (with_reducible show wpAny _ _ (subscriptTail _ _ (Value.ref _) (Value.int _ _)) _ _ _); k_dflt (refine' item_at ?k1Z9 ?k2Z9 ?k3Z9 ?k4Z9 ?_ ?k6Z9; (case k1Z9 => exact News.isList (by k_asm) (by k_mem)); (case k4Z9 => with_reducible assumption); (case k2Z9 => omega); (case k3Z9 => omega); (case k6Z9 => with_unfolding_all rfl); k_whole))) | (((with_reducible show wpAny _ _ (call (Value.ref 129) _) _ _ _); k_here; k_dflt ((refine' ways_claim _ _ _ _ _ _ _ _ _ _ _ _ _ _ _ _ _ _ _ ?htZ9 ?hbZ9 ?hpZ9 ?hqZ9 ?hiZ9 ?hjZ9 ?e1Z9 ?e2Z9 ?e3Z9 ?e4Z9 _ _ _ _ _ _ _ _ _ _ _ _ _ _ _ _ _ _ _ _ _ ?k1Z9 ?kFZ9 ?k3Z9 ?kNZ9 ?k5Z9 ?m1Z9 ?m2Z9 ?w1Z9 ?w2Z9 ?w3Z9 ?w4Z9 ?kKZ9 ?kdZ9 ?kuZ9 ?_); (case kFZ9 => assumption); (case kNZ9 => assumption); (case m1Z9 => k_mem); (case m2Z9 => k_mem); (case e1Z9 => with_reducible assumption); (case e2Z9 => with_reducible assumption); (case e3Z9 => with_reducible assumption); (case e4Z9 => with_reducible assumption); (case w1Z9 => assumption); (case w2Z9 => assumption); (case w3Z9 => assumption); (case w4Z9 => assumption); (case htZ9 => omega); (case hbZ9 => omega); (case hpZ9 => omega); (case hqZ9 => omega); (case hiZ9 => omega); (case hjZ9 => omega); (case k1Z9 => k_asm); (case k3Z9 => k_asm); (case k5Z9 => k_asm); (case kKZ9 => first | exact rfl | assumption); (case kdZ9 => ktr_room); (case kuZ9 => ktr_units); intro h9 tk9 v9 F9 N9 st9 o9; (try dsimp only); (try k_fold)))) | (((with_reducible show wpAny _ _ (compareOp CmpOp.NotEq (Value.ref _) (Value.ref _)) _ _ _); k_here; k_dflt ((refine' ne_rows ?kNZ9 ?kFZ9 ?kDZ9 ?u1Z9 ?u2Z9 ?_); (case kFZ9 => assumption); (case kDZ9 => assumption); (case kNZ9 => assumption); (case u1Z9 => (simp only [units_in1, units_deeper, units_caller]; decide)); (case u2Z9 => (simp only [units_in1, units_deeper, units_caller]; decide)); (try dsimp only); (try k_fold)))) | (((with_reducible show wpAny _ _ (call (Value.ref 108) [Value.str _ _, Value.str _ _, Value.int _ _]) _ _ _); ((k_here; k_dflt ((refine' use_cl (lev_claim _ _ _ _ _ _ _ (by rw [leadS_len]; omega) (by rw [leadS_len]; omega) (by omega)) ?k1Z9 ?kFZ9 ?k3Z9 ?kNZ9 ?k5Z9 ?kKZ9 ?kdZ9 ?kuZ9 ?kHZ9 ?_); (case kFZ9 => assumption); (case kNZ9 => assumption); (case k1Z9 => k_asm); (case k3Z9 => k_asm); (case k5Z9 => k_asm); (case kKZ9 => first | exact rfl | assumption); (case kdZ9 => ktr_room); (case kuZ9 => ktr_units); (case kHZ9 => trivial)))); intro v9 h9 tk9 F9 N9 st9 o9; obtain ⟨t9, e9⟩ := o9; subst e9; (try dsimp only); (try k_fold))) | (((with_reducible show wpAny _ _ (call (Value.ref 136) _) _ _ _); k_here; k_dflt ((refine' due_claim _ _ _ _ _ _ _ _ _ _ _ _ _ ?htZ9 ?hbZ9 ?hiZ9 ?hjZ9 ?hsZ9 _ _ _ _ _ _ _ _ _ _ _ _ _ _ _ _ _ _ _ _ _ ?k1Z9 ?kFZ9 ?k3Z9 ?kNZ9 ?k5Z9 ?w1Z9 ?w2Z9 ?kKZ9 ?kdZ9 ?kuZ9 ?_); (case kFZ9 => assumption); (case kNZ9 => assumption); (case w1Z9 => k_mem); (case w2Z9 => k_mem); (case htZ9 => omega); (case hbZ9 => omega); (case hiZ9 => omega); (case hjZ9 => omega); (case hsZ9 => omega); (case k1Z9 => k_asm); (case k3Z9 => k_asm); (case k5Z9 => k_asm); (case kKZ9 => first | exact rfl | assumption); (case kdZ9 => ktr_room); (case kuZ9 => ktr_units); intro h9 tk9 t9 F9 N9; (try dsimp only); (try k_fold)))) | (((with_reducible show wpAny _ _ (call (Value.ref 52) _) _ _ _); k_here; k_dflt ((refine' indent_use _ _ _ _ _ _ ?kpZ9 ?kqZ9 ?ksZ9 _ _ _ _ _ _ _ _ _ _ _ _ _ _ _ _ _ _ _ _ _ ?k1Z9 ?kFZ9 ?k3Z9 ?kNZ9 ?k5Z9 ?w1Z9 ?kKZ9 ?kdZ9 ?kuZ9 ?_); (case kFZ9 => assumption); (case kNZ9 => assumption); (case w1Z9 => assumption); (case kpZ9 => omega); (case kqZ9 => omega); (case ksZ9 => omega); (case k1Z9 => k_asm); (case k3Z9 => k_asm); (case k5Z9 => k_asm); (case kKZ9 => first | exact rfl | assumption); (case kdZ9 => ktr_room); (case kuZ9 => ktr_units); intro t9 h9 tk9 F9 N9; (try dsimp only); (try k_fold)))) | (((with_reducible show wpAny _ _ (call (Value.builtin "len") [Value.ref _]) _ _ _); k_here; k_dflt ((rename News _ _ _ _ => lN'); (refine' kst_len lN' ?kmZ9 ?keZ9 ?kfZ9 ?_); (case kmZ9 => k_mem); (case keZ9 => assumption); (case kfZ9 => omega); (try dsimp only); (try k_fold)))) | (((with_reducible show wpAny _ _ (call (Value.type _) [Value.int _ _]) _ _ _); k_here; k_dflt ((rename Fr _ _ _ _ => lF'); (rename News _ _ _ _ => lN'); (refine' range_led lF' lN' ?_); clear lF' lN'; intro r9 h9 tk9 t9 u9 v9 F9 N9; (try dsimp only); (try k_fold)))) | ((k_here; (with_reducible show wpAny _ _ (call (Value.type _) [Value.ref _]) _ _ _); (rename IsRange _ _ _ _ _ _ _ _ => rgX); (with_unfolding_all refine' list_step ?k0Z9 ?k1Z9 ?k2Z9 ?k3Z9 ?k4Z9 ?k5Z9 ?k6Z9 ?_; (case k0Z9 => rfl); (case k1Z9 => k_asm); (case k2Z9 => k_asm); (case k3Z9 => exact rgX); (case k4Z9 => exact small_two (by omega) (by omega)); (case k5Z9 => exact range_two (by omega)); (case k6Z9 => omega)); intro _ _ _ _ _ _ _ l1 _; (try k_lt l1))) | ((k_here; (with_reducible show wpAny _ _ (subscriptTail _ (Expr.Slice none (some _) none _) _ _) _ _ _); (with_reducible rename Fr _ _ _ _ => F'); (with_reducible rename News _ _ _ _ => N'); (refine slice_none (s := ⟨_, _, _, _, _⟩) F' N' ?_ (hsz := ?hszZ9)); (case hszZ9 => (rw [sizeLine_eq]; omega)); intro _ _ _ _ _)) | ((k_here; k_openite; first | (refine ite_pos ?hxZ9 ?_; (case hxZ9 => first | with_reducible assumption | (simp only [decide_eq_true_eq, decide_eq_false_iff_not, Bool.not_eq_true', Bool.not_eq_false', bne_iff_ne, ne_eq]; omega))) | (refine ite_neg ?hxZ9 ?_; (case hxZ9 => first | with_reducible assumption | (simp only [decide_eq_true_eq, decide_eq_false_iff_not, Bool.not_eq_true', Bool.not_eq_false', bne_iff_ne, ne_eq, Bool.not_eq_true, Decidable.not_not]; omega))) | (refine ite_b (fun hc => ?_) (fun hc => ?_) <;> (try simp only [decide_eq_true_eq, decide_eq_false_iff_not, Bool.not_eq_true', Bool.not_eq_false', bne_iff_ne, ne_eq, bne_eq_false_iff_eq, Decidable.not_not, Int.not_lt, Int.not_le] at hc)))) | (fail_if_success (with_reducible show wpAny _ _ (eval (PySem.Expr.ListComp _ _ _ _) _) _ _ _)); (fail_if_success (with_reducible show LCp.SrcLP _ _ _ _ _ _ _ _ _ _ _ _ _ _ _)); (fail_if_success (with_reducible show wpAny _ _ (call (Value.ref _) _) _ _ _)); (fail_if_success (with_reducible show LCg.CompSrc _ _ _ _ _ _ _ _ _ _ _ _ _ _)); (fail_if_success (with_reducible show wpAny _ _ (storeName _ _ _) _ _ _)); (fail_if_success (with_reducible show LCg.CompEnd _ _ _ _ _ _ _ _ _ _ _ _ _ _)); (fail_if_success (with_reducible show wpAny _ _ (exec (Stmt.For _ _ _ _ _) _) _ _ _)); (fail_if_success (with_reducible show wpAny _ _ (pyIter _) _ _ _)); first | (k_unfold; (try dsimp only)) | walk1 | (dsimp only; walk1) | (leave1; try dsimp only) | fail "no step"))
      clear N7e
      k_dflt (refine' LCg.CompSrc.range rfl F7 N7 (N7 _ (.tail _ (.tail _ (.tail _ (.tail _ (List.mem_append_right _ hB'.b2.rng)))))).1 (small_0 (by omega) (by omega)) (range_to rfl) ?hsz (fun g => ?_))
      case hsz => exact Nat.le_trans htl.2 (by decide)
      k_dflt (refine' comp_ind (fun j zs nx => ∃ R, nx = [(I, oI), (C, oC), (D, LCg.lst fs), (cx, ox)] ++ (cellsL s1.heap.objs.size o1 o2 o3 o4 o5 o6 ++ R) ∧ NCell R ∧ B6 w ns T ys cT r t1 t2 t3 P ps cP M ms cM size Cl cs cC R ∧ RowsIn Du ds cD (dueRows (toldL ns)) R ∧ AllIn (RowR R) fs ((dueRows (toldL ns)).take i) ∧ Apart4 I C D cx (cellsL s1.heap.objs.size o1 o2 o3 o4 o5 o6 ++ R) ∧ IntsAre zs ((dueRow (toldL ns) p).take j)) ?hJ ?turn2 ?fin2)
      case hJ => exact ⟨_, rfl, hR', hB', hDu', hA, ap, .nil⟩
      case fin2 =>
        intro zs nx qq1 D2 h tk F8 N8 off1
        refine hideG fun Gx hG => ?_
        obtain ⟨R'', rfl, hR'', hB'', hDu'', hA'', ap'', hz⟩ := qq1
        refine hG ?_
        clear hG
        rw [← dueRow_len (toldL ns) p, List.take_length] at hz
        refine cendC_row rfl F8 N8 off1 ap'' ⟨_, rfl, NCell.cons rfl hR'', hB''.mono fun z hz => .tail _ hz, hDu''.mono fun z hz => .tail _ hz, ?_⟩
        rw [take_snoc (dueRows_get hl)]
        exact AllIn.snoc ⟨D2, zs, _, rfl, .head _, hz⟩ (AllIn.mono (RowR.mono fun z hz => .tail _ hz) hA'')
      case turn2 =>
        clear F7 N7
        intro j zs nx v I2 oI2 C2 oC2 D2 m₂ h tk E' hj qq1 qq2 hC2 hx2 F8 N8 off2 qq3
        refine hideG fun Gx hG => ?_
        obtain ⟨R'', rfl, hR'', hB'', hDu'', hA'', ap'', hz⟩ := qq1
        obtain ⟨tj, rfl⟩ := qq2
        obtain ⟨ne1, ne2, ne3⟩ := qq3
        rw [Int.zero_add] at hx2
        obtain ⟨q, hlq⟩ : ∃ q, (toldL ns)[j]? = some q := ⟨_, List.getElem?_eq_getElem hj⟩
        have hlq2 := told_lt hlq
        obtain ⟨_, hpi, Di, x1, x2, k1, k2, k3, rfl, mi, _⟩ := AllIn.get hB''.kp.2 hl
        obtain ⟨_, hpj, Dj, y1, y2, k4, k5, k6, rfl, mj, _⟩ := AllIn.get hB''.kp.2 hlq
        obtain ⟨_, hdi, Ri, us, cu, rfl, mr, hI⟩ := AllIn.get hDu''.2 (dueRows_get hl)
        obtain ⟨td, hdj⟩ := ints_at hI (dueRow_get hlq)
        refine hG ?_
        clear hG
        have hd8 := dueN_le p.1 hlp.1 p.2 hlp.2 q.1 hlq2.1 q.2 hlq2.2
        rw [← Int.toNat_natCast i] at hpi hdi
        rw [← Int.toNat_natCast j] at hpj hdj
        have N9 := kst_newsOf N8 (l' := (P, W.listOf (List.toArray ps) cP) :: (Di, wsTup [.str (tabsS p.1) k1, .str (blanksS p.2) k2, .str (leadS p.1 p.2) k3, .ref x1, .ref x2]) :: (Dj, wsTup [.str (tabsS q.1) k4, .str (blanksS q.2) k5, .str (leadS q.1 q.2) k6, .ref y1, .ref y2]) :: (Du, W.listOf (List.toArray ds) cD) :: (Ri, W.listOf (List.toArray us) cu) :: (I2, oI2) :: (C2, oC2) :: (D2, LCg.lst zs) :: ([(I, oI), (C, oC), (D, LCg.lst fs), (cx, ox)] ++ (cellsL s1.heap.objs.size o1 o2 o3 o4 o5 o6 ++ R''))) ((sub_cons (.tail _ (.tail _ (.tail _ (List.mem_append_right _ (List.mem_append_right _ hB''.kp.1))))) (sub_cons (.tail _ (.tail _ (.tail _ (List.mem_append_right _ (List.mem_append_right _ mi))))) (sub_cons (.tail _ (.tail _ (.tail _ (List.mem_append_right _ (List.mem_append_right _ mj))))) (sub_cons (.tail _ (.tail _ (.tail _ (List.mem_append_right _ (List.mem_append_right _ hDu''.1))))) (sub_cons (.tail _ (.tail _ (.tail _ (List.mem_append_right _ (List.mem_append_right _ mr))))) (fun z hz => hz)))))))
        clear N8
        dsimp only [cellsL, List.cons_append, List.nil_append] at N9
        (repeat' (first | ((k_here; (with_reducible show wpAny _ _ (subscriptTail _ _ (Value.ref _) (Value.int _ _)) _ _ _); k_dflt (refine' item_at ?k1Z9 ?k2Z9 ?k3Z9 ?k4Z9 ?_ ?k6Z9; (case k1Z9 => exact News.isList (by k_asm) (by k_mem)); (case k4Z9 => with_reducible assumption); (case k2Z9 => omega); (case k3Z9 => omega); (case k6Z9 => with_unfolding_all rfl); k_whole))) | (((with_reducible show wpAny _ _ (call (Value.ref 129) _) _ _ _); k_here; k_dflt ((refine' ways_claim _ _ _ _ _ _ _ _ _ _ _ _ _ _ _ _ _ _ _ ?htZ9 ?hbZ9 ?hpZ9 ?hqZ9 ?hiZ9 ?hjZ9 ?e1Z9 ?e2Z9 ?e3Z9 ?e4Z9 _ _ _ _ _ _ _ _ _ _ _ _ _ _ _ _ _ _ _ _ _ ?k1Z9 ?kFZ9 ?k3Z9 ?kNZ9 ?k5Z9 ?m1Z9 ?m2Z9 ?w1Z9 ?w2Z9 ?w3Z9 ?w4Z9 ?kKZ9 ?kdZ9 ?kuZ9 ?_); (case kFZ9 => assumption); (case kNZ9 => assumption); (case m1Z9 => k_mem); (case m2Z9 => k_mem); (case e1Z9 => with_reducible assumption); (case e2Z9 => with_reducible assumption); (case e3Z9 => with_reducible assumption); (case e4Z9 => with_reducible assumption); (case w1Z9 => assumption); (case w2Z9 => assumption); (case w3Z9 => assumption); (case w4Z9 => assumption); (case htZ9 => omega); (case hbZ9 => omega); (case hpZ9 => omega); (case hqZ9 => omega); (case hiZ9 => omega); (case hjZ9 => omega); (case k1Z9 => k_asm); (case k3Z9 => k_asm); (case k5Z9 => k_asm); (case kKZ9 => first | exact rfl | assumption); (case kdZ9 => ktr_room); (case kuZ9 => ktr_units); intro h9 tk9 v9 F9 N9 st9 o9; (try dsimp only); (try k_fold)))) | (((with_reducible show wpAny _ _ (compareOp CmpOp.NotEq (Value.ref _) (Value.ref _)) _ _ _); k_here; k_dflt ((refine' ne_rows ?kNZ9 ?kFZ9 ?kDZ9 ?u1Z9 ?u2Z9 ?_); (case kFZ9 => assumption); (case kDZ9 => assumption); (case kNZ9 => assumption); (case u1Z9 => (simp only [units_in1, units_deeper, units_caller]; decide)); (case u2Z9 => (simp only [units_in1, units_deeper, units_caller]; decide)); (try dsimp only); (try k_fold)))) | (((with_reducible show wpAny _ _ (call (Value.ref 108) [Value.str _ _, Value.str _ _, Value.int _ _]) _ _ _); ((k_here; k_dflt ((refine' use_cl (lev_claim _ _ _ _ _ _ _ (by rw [leadS_len]; omega) (by rw [leadS_len]; omega) (by omega)) ?k1Z9 ?kFZ9 ?k3Z9 ?kNZ9 ?k5Z9 ?kKZ9 ?kdZ9 ?kuZ9 ?kHZ9 ?_); (case kFZ9 => assumption); (case kNZ9 => assumption); (case k1Z9 => k_asm); (case k3Z9 => k_asm); (case k5Z9 => k_asm); (case kKZ9 => first | exact rfl | assumption); (case kdZ9 => ktr_room); (case kuZ9 => ktr_units); (case kHZ9 => trivial)))); intro v9 h9 tk9 F9 N9 st9 o9; obtain ⟨t9, e9⟩ := o9; subst e9; (try dsimp only); (try k_fold))) | (((with_reducible show wpAny _ _ (call (Value.ref 136) _) _ _ _); k_here; k_dflt ((refine' due_claim _ _ _ _ _ _ _ _ _ _ _ _ _ ?htZ9 ?hbZ9 ?hiZ9 ?hjZ9 ?hsZ9 _ _ _ _ _ _ _ _ _ _ _ _ _ _ _ _ _ _ _ _ _ ?k1Z9 ?kFZ9 ?k3Z9 ?kNZ9 ?k5Z9 ?w1Z9 ?w2Z9 ?kKZ9 ?kdZ9 ?kuZ9 ?_); (case kFZ9 => assumption); (case kNZ9 => assumption); (case w1Z9 => k_mem); (case w2Z9 => k_mem); (case htZ9 => omega); (case hbZ9 => omega); (case hiZ9 => omega); (case hjZ9 => omega); (case hsZ9 => omega); (case k1Z9 => k_asm); (case k3Z9 => k_asm); (case k5Z9 => k_asm); (case kKZ9 => first | exact rfl | assumption); (case kdZ9 => ktr_room); (case kuZ9 => ktr_units); intro h9 tk9 t9 F9 N9; (try dsimp only); (try k_fold)))) | (((with_reducible show wpAny _ _ (call (Value.ref 52) _) _ _ _); k_here; k_dflt ((refine' indent_use _ _ _ _ _ _ ?kpZ9 ?kqZ9 ?ksZ9 _ _ _ _ _ _ _ _ _ _ _ _ _ _ _ _ _ _ _ _ _ ?k1Z9 ?kFZ9 ?k3Z9 ?kNZ9 ?k5Z9 ?w1Z9 ?kKZ9 ?kdZ9 ?kuZ9 ?_); (case kFZ9 => assumption); (case kNZ9 => assumption); (case w1Z9 => assumption); (case kpZ9 => omega); (case kqZ9 => omega); (case ksZ9 => omega); (case k1Z9 => k_asm); (case k3Z9 => k_asm); (case k5Z9 => k_asm); (case kKZ9 => first | exact rfl | assumption); (case kdZ9 => ktr_room); (case kuZ9 => ktr_units); intro t9 h9 tk9 F9 N9; (try dsimp only); (try k_fold)))) | (((with_reducible show wpAny _ _ (call (Value.builtin "len") [Value.ref _]) _ _ _); k_here; k_dflt ((rename News _ _ _ _ => lN'); (refine' kst_len lN' ?kmZ9 ?keZ9 ?kfZ9 ?_); (case kmZ9 => k_mem); (case keZ9 => assumption); (case kfZ9 => omega); (try dsimp only); (try k_fold)))) | (((with_reducible show wpAny _ _ (call (Value.type _) [Value.int _ _]) _ _ _); k_here; k_dflt ((rename Fr _ _ _ _ => lF'); (rename News _ _ _ _ => lN'); (refine' range_led lF' lN' ?_); clear lF' lN'; intro r9 h9 tk9 t9 u9 v9 F9 N9; (try dsimp only); (try k_fold)))) | ((k_here; (with_reducible show wpAny _ _ (call (Value.type _) [Value.ref _]) _ _ _); (rename IsRange _ _ _ _ _ _ _ _ => rgX); (with_unfolding_all refine' list_step ?k0Z9 ?k1Z9 ?k2Z9 ?k3Z9 ?k4Z9 ?k5Z9 ?k6Z9 ?_; (case k0Z9 => rfl); (case k1Z9 => k_asm); (case k2Z9 => k_asm); (case k3Z9 => exact rgX); (case k4Z9 => exact small_two (by omega) (by omega)); (case k5Z9 => exact range_two (by omega)); (case k6Z9 => omega)); intro _ _ _ _ _ _ _ l1 _; (try k_lt l1))) | ((k_here; (with_reducible show wpAny _ _ (subscriptTail _ (Expr.Slice none (some _) none _) _ _) _ _ _); (with_reducible rename Fr _ _ _ _ => F'); (with_reducible rename News _ _ _ _ => N'); (refine slice_none (s := ⟨_, _, _, _, _⟩) F' N' ?_ (hsz := ?hszZ9)); (case hszZ9 => (rw [sizeLine_eq]; omega)); intro _ _ _ _ _)) | ((k_here; k_openite; first | (refine ite_pos ?hxZ9 ?_; (case hxZ9 => first | with_reducible assumption | (simp only [decide_eq_true_eq, decide_eq_false_iff_not, Bool.not_eq_true', Bool.not_eq_false', bne_iff_ne, ne_eq]; omega))) | (refine ite_neg ?hxZ9 ?_; (case hxZ9 => first | with_reducible assumption | (simp only [decide_eq_true_eq, decide_eq_false_iff_not, Bool.not_eq_true', Bool.not_eq_false', bne_iff_ne, ne_eq, Bool.not_eq_true, Decidable.not_not]; omega))) | (refine ite_b (fun hc => ?_) (fun hc => ?_) <;> (try simp only [decide_eq_true_eq, decide_eq_false_iff_not, Bool.not_eq_true', Bool.not_eq_false', bne_iff_ne, ne_eq, bne_eq_false_iff_eq, Decidable.not_not, Int.not_lt, Int.not_le] at hc)))) | (fail_if_success (with_reducible show LCg.CompSrc _ _ _ _ _ _ _ _ _ _ _ _ _ _)); (fail_if_success (with_reducible show LCg.CompEnd _ _ _ _ _ _ _ _ _ _ _ _ _ _)); (fail_if_success (with_reducible show wpAny _ _ (exec (Stmt.For _ _ _ _ _) _) _ _ _)); (fail_if_success (with_reducible show wpAny _ _ (pyIter _) _ _ _)); first | (k_unfold; (try dsimp only)) | walk1 | (dsimp only; walk1) | (leave1; try dsimp only) | fail "no step"))
        · (rename Fr _ _ _ _ => F9; rename News _ _ _ _ => N9)
          k_dflt (refine' cend_same (X := [_, _, _, _, _]) (nx := [(I, oI), (C, oC), (D, LCg.lst fs), (cx, ox)] ++ (cellsL s1.heap.objs.size o1 o2 o3 o4 o5 o6 ++ R'')) F9 N9 off2 trivial ⟨_, rfl, hR'', hB'', hDu'', hA'', ap'', ?eZ⟩)
          case eZ =>
            rw [take_snoc (dueRow_get hlq), far_ne hlp.1 hlp.2 hlq2.1 hlq2.2]
            exact ints_snoc hz
        · (rename Fr _ _ _ _ => F9; rename News _ _ _ _ => N9)
          have hij : i = j := by omega
          have hpq : p = q := by
            rw [hij] at hl
            exact Option.some.inj (hl.symm.trans hlq)
          have e0 : 2 * ((dueN p.1 p.2 q.1 q.2 : Nat) : Int) = 0 := by rw [← hpq, dueN_self]; rfl
          k_dflt (refine' cend_same (X := [_, _, _, _, _]) (nx := [(I, oI), (C, oC), (D, LCg.lst fs), (cx, ox)] ++ (cellsL s1.heap.objs.size o1 o2 o3 o4 o5 o6 ++ R'')) F9 N9 off2 trivial ⟨_, rfl, hR'', hB'', hDu'', hA'', ap'', ?eZ⟩)
          case eZ =>
            rw [take_snoc (dueRow_get hlq), e0]
            exact ints_snoc hz

-- l2_c8
  clear N3 F3 hR hB hDu R
  intro h tk qq1
  refine hideG fun Gx hG => ?_
  obtain ⟨Fa, fs, cF, R, F3, N3, hR, hB, hDu, hFa⟩ := qq1
  refine hG ?_
  clear hG
  k_dflt (refine' execs_cutG (fun h₀ L m news h => Fr h₀ L h m ∧ News h₀ L h news) F3 N3 ?_ ?_)

-- l2_b9
  · have hF2 := hFa.mono (R' := cellsL s1.heap.objs.size o1 o2 o3 o4 o5 o6 ++ R) (fun z hz => List.mem_append_right _ hz)
    have hD2 := hDu.mono (R' := cellsL s1.heap.objs.size o1 o2 o3 o4 o5 o6 ++ R) (fun z hz => List.mem_append_right _ hz)
    clear hFa hDu
    have N3e := N3
    dsimp only [cellsL, List.cons_append, List.nil_append] at N3e
    (repeat' (first | ((k_here; (with_reducible show wpAny _ _ (subscriptTail _ _ (Value.ref _) (Value.int _ _)) _ _ _); k_dflt (refine' item_at ?k1Z9 ?k2Z9 ?k3Z9 ?k4Z9 ?_ ?k6Z9; (case k1Z9 => exact News.isList (by k_asm) (by k_mem)); (case k4Z9 => with_reducible assumption); (case k2Z9 => omega); (case k3Z9 => omega); (case k6Z9 => with_unfolding_all rfl); k_whole))) | (((with_reducible show wpAny _ _ (call (Value.ref 129) _) _ _ _); k_here; k_dflt ((refine' ways_claim _ _ _ _ _ _ _ _ _ _ _ _ _ _ _ _ _ _ _ ?htZ9 ?hbZ9 ?hpZ9 ?hqZ9 ?hiZ9 ?hjZ9 ?e1Z9 ?e2Z9 ?e3Z9 ?e4Z9 _ _ _ _ _ _ _ _ _ _ _ _ _ _ _ _ _ _ _ _ _ ?k1Z9 ?kFZ9 ?k3Z9 ?kNZ9 ?k5Z9 ?m1Z9 ?m2Z9 ?w1Z9 ?w2Z9 ?w3Z9 ?w4Z9 ?kKZ9 ?kdZ9 ?kuZ9 ?_); (case kFZ9 => assumption); (case kNZ9 => assumption); (case m1Z9 => k_mem); (case m2Z9 => k_mem); (case e1Z9 => with_reducible assumption); (case e2Z9 => with_reducible assumption); (case e3Z9 => with_reducible assumption); (case e4Z9 => with_reducible assumption); (case w1Z9 => assumption); (case w2Z9 => assumption); (case w3Z9 => assumption); (case w4Z9 => assumption); (case htZ9 => omega); (case hbZ9 => omega); (case hpZ9 => omega); (case hqZ9 => omega); (case hiZ9 => omega); (case hjZ9 => omega); (case k1Z9 => k_asm); (case k3Z9 => k_asm); (case k5Z9 => k_asm); (case kKZ9 => first | exact rfl | assumption); (case kdZ9 => ktr_room); (case kuZ9 => ktr_units); intro h9 tk9 v9 F9 N9 st9 o9; (try dsimp only); (try k_fold)))) | (((with_reducible show wpAny _ _ (compareOp CmpOp.NotEq (Value.ref _) (Value.ref _)) _ _ _); k_here; k_dflt ((refine' ne_rows ?kNZ9 ?kFZ9 ?kDZ9 ?u1Z9 ?u2Z9 ?_); (case kFZ9 => assumption); (case kDZ9 => assumption); (case kNZ9 => assumption); (case u1Z9 => (simp only [units_in1, units_deeper, units_caller]; decide)); (case u2Z9 => (simp only [units_in1, units_deeper, units_caller]; decide)); (try dsimp only); (try k_fold)))) | (((with_reducible show wpAny _ _ (call (Value.ref 108) [Value.str _ _, Value.str _ _, Value.int _ _]) _ _ _); ((k_here; k_dflt ((refine' use_cl (lev_claim _ _ _ _ _ _ _ (by rw [leadS_len]; omega) (by rw [leadS_len]; omega) (by omega)) ?k1Z9 ?kFZ9 ?k3Z9 ?kNZ9 ?k5Z9 ?kKZ9 ?kdZ9 ?kuZ9 ?kHZ9 ?_); (case kFZ9 => assumption); (case kNZ9 => assumption); (case k1Z9 => k_asm); (case k3Z9 => k_asm); (case k5Z9 => k_asm); (case kKZ9 => first | exact rfl | assumption); (case kdZ9 => ktr_room); (case kuZ9 => ktr_units); (case kHZ9 => trivial)))); intro v9 h9 tk9 F9 N9 st9 o9; obtain ⟨t9, e9⟩ := o9; subst e9; (try dsimp only); (try k_fold))) | (((with_reducible show wpAny _ _ (call (Value.ref 136) _) _ _ _); k_here; k_dflt ((refine' due_claim _ _ _ _ _ _ _ _ _ _ _ _ _ ?htZ9 ?hbZ9 ?hiZ9 ?hjZ9 ?hsZ9 _ _ _ _ _ _ _ _ _ _ _ _ _ _ _ _ _ _ _ _ _ ?k1Z9 ?kFZ9 ?k3Z9 ?kNZ9 ?k5Z9 ?w1Z9 ?w2Z9 ?kKZ9 ?kdZ9 ?kuZ9 ?_); (case kFZ9 => assumption); (case kNZ9 => assumption); (case w1Z9 => k_mem); (case w2Z9 => k_mem); (case htZ9 => omega); (case hbZ9 => omega); (case hiZ9 => omega); (case hjZ9 => omega); (case hsZ9 => omega); (case k1Z9 => k_asm); (case k3Z9 => k_asm); (case k5Z9 => k_asm); (case kKZ9 => first | exact rfl | assumption); (case kdZ9 => ktr_room); (case kuZ9 => ktr_units); intro h9 tk9 t9 F9 N9; (try dsimp only); (try k_fold)))) | (((with_reducible show wpAny _ _ (call (Value.ref 52) _) _ _ _); k_here; k_dflt ((refine' indent_use _ _ _ _ _ _ ?kpZ9 ?kqZ9 ?ksZ9 _ _ _ _ _ _ _ _ _ _ _ _ _ _ _ _ _ _ _ _ _ ?k1Z9 ?kFZ9 ?k3Z9 ?kNZ9 ?k5Z9 ?w1Z9 ?kKZ9 ?kdZ9 ?kuZ9 ?_); (case kFZ9 => assumption); (case kNZ9 => assumption); (case w1Z9 => assumption); (case kpZ9 => omega); (case kqZ9 => omega); (case ksZ9 => omega); (case k1Z9 => k_asm); (case k3Z9 => k_asm); (case k5Z9 => k_asm); (case kKZ9 => first | exact rfl | assumption); (case kdZ9 => ktr_room); (case kuZ9 => ktr_units); intro t9 h9 tk9 F9 N9; (try dsimp only); (try k_fold)))) | (((with_reducible show wpAny _ _ (call (Value.builtin "len") [Value.ref _]) _ _ _); k_here; k_dflt ((rename News _ _ _ _ => lN'); (refine' kst_len lN' ?kmZ9 ?keZ9 ?kfZ9 ?_); (case kmZ9 => k_mem); (case keZ9 => assumption); (case kfZ9 => omega); (try dsimp only); (try k_fold)))) | (((with_reducible show wpAny _ _ (call (Value.type _) [Value.int _ _]) _ _ _); k_here; k_dflt ((rename Fr _ _ _ _ => lF'); (rename News _ _ _ _ => lN'); (refine' range_led lF' lN' ?_); clear lF' lN'; intro r9 h9 tk9 t9 u9 v9 F9 N9; (try dsimp only); (try k_fold)))) | ((k_here; (with_reducible show wpAny _ _ (call (Value.type _) [Value.ref _]) _ _ _); (rename IsRange _ _ _ _ _ _ _ _ => rgX); (with_unfolding_all refine' list_step ?k0Z9 ?k1Z9 ?k2Z9 ?k3Z9 ?k4Z9 ?k5Z9 ?k6Z9 ?_; (case k0Z9 => rfl); (case k1Z9 => k_asm); (case k2Z9 => k_asm); (case k3Z9 => exact rgX); (case k4Z9 => exact small_two (by omega) (by omega)); (case k5Z9 => exact range_two (by omega)); (case k6Z9 => omega)); intro _ _ _ _ _ _ _ l1 _; (try k_lt l1))) | ((k_here; (with_reducible show wpAny _ _ (subscriptTail _ (Expr.Slice none (some _) none _) _ _) _ _ _); (with_reducible rename Fr _ _ _ _ => F'); (with_reducible rename News _ _ _ _ => N'); (refine slice_none (s := ⟨_, _, _, _, _⟩) F' N' ?_ (hsz := ?hszZ9)); (case hszZ9 => (rw [sizeLine_eq]; omega)); intro _ _ _ _ _)) | ((k_here; k_openite; first | (refine ite_pos ?hxZ9 ?_; (case hxZ9 => first | with_reducible assumption | (simp only [decide_eq_true_eq, decide_eq_false_iff_not, Bool.not_eq_true', Bool.not_eq_false', bne_iff_ne, ne_eq]; omega))) | (refine ite_neg ?hxZ9 ?_; (case hxZ9 => first | with_reducible assumption | (simp only [decide_eq_true_eq, decide_eq_false_iff_not, Bool.not_eq_true', Bool.not_eq_false', bne_iff_ne, ne_eq, Bool.not_eq_true, Decidable.not_not]; omega))) | (refine ite_b (fun hc => ?_) (fun hc => ?_) <;> (try simp only [decide_eq_true_eq, decide_eq_false_iff_not, Bool.not_eq_true', Bool.not_eq_false', bne_iff_ne, ne_eq, bne_eq_false_iff_eq, Decidable.not_not, Int.not_lt, Int.not_le] at hc)))) | (fail_if_success (with_reducible show wpAny _ _ (eval (PySem.Expr.ListComp _ _ _ _) _) _ _ _)); (fail_if_success (with_reducible show LCp.SrcLP _ _ _ _ _ _ _ _ _ _ _ _ _ _ _)); (fail_if_success (with_reducible show wpAny _ _ (call (Value.ref _) _) _ _ _)); (fail_if_success (with_reducible show LCg.CompSrc _ _ _ _ _ _ _ _ _ _ _ _ _ _)); (fail_if_success (with_reducible show wpAny _ _ (storeName _ _ _) _ _ _)); (fail_if_success (with_reducible show LCg.CompEnd _ _ _ _ _ _ _ _ _ _ _ _ _ _)); (fail_if_success (with_reducible show wpAny _ _ (exec (Stmt.For _ _ _ _ _) _) _ _ _)); (fail_if_success (with_reducible show wpAny _ _ (pyIter _) _ _ _)); first | (k_unfold; (try dsimp only)) | walk1 | (dsimp only; walk1) | (leave1; try dsimp only) | fail "no step"))
    (rename Fr _ _ _ _ => F9)
    exact cutPost_ rfl ⟨F9, N3⟩

-- l2_c9
  clear N3 F3
  rintro h tk ⟨F3, N3⟩
  k_dflt (refine' execs_cutF (fun h₀ L m _ h => ∃ Wa ws cW R, Fr h₀ L h (fun z => if z = PySem.Str.ofString "ways" then some (.ref Wa) else m z) ∧ News h₀ L h (cellsL L o1 o2 o3 o4 o5 o6 ++ R) ∧ NCell R ∧ B6 w ns T ys cT r t1 t2 t3 P ps cP M ms cM size Cl cs cC R ∧ RowsIn Fa fs cF (dueRows (toldL ns)) R ∧ WaysIn Wa ws cW (toldL ns) R) F3 N3 ?_ ?_)

-- l2_b10
  · k_dflt (refine' Assign_ListComp_C (x := PySem.Str.ofString "i") F3 ?q0 ?qs ?q1 ?q2 ?q3 ?q4 ?q5 ?q6 ?qy ?qp ?_ ?q7)
    case q0 => rfl
    case qs => with_unfolding_all rfl
    case q1 => with_unfolding_all rfl
    case q2 => rfl
    case q3 => decide
    case q4 => exact fun n acc => rfl
    case q5 => exact fun h => rfl
    case q6 => exact fun C c => rfl
    case qy => rfl
    case qp => rfl
    case q7 => (intro _; rfl)
    have N3e := N3
    dsimp only [cellsL, List.cons_append, List.nil_append] at N3e
    (repeat' (first | ((k_here; (with_reducible show wpAny _ _ (subscriptTail _ _ (Value.ref _) (Value.int _ _)) _ _ _); k_dflt (refine' item_at ?k1Z9 ?k2Z9 ?k3Z9 ?k4Z9 ?_ ?k6Z9; (case k1Z9 => exact News.isList (by k_asm) (by k_mem)); (case k4Z9 => with_reducible assumption); (case k2Z9 => omega); (case k3Z9 => omega); (case k6Z9 => with_unfolding_all rfl); k_whole))) | (((with_reducible show wpAny _ _ (call (Value.ref 129) _) _ _ _); k_here; k_dflt ((refine' ways_claim _ _ _ _ _ _ _ _ _ _ _ _ _ _ _ _ _ _ _ ?htZ9 ?hbZ9 ?hpZ9 ?hqZ9 ?hiZ9 ?hjZ9 ?e1Z9 ?e2Z9 ?e3Z9 ?e4Z9 _ _ _ _ _ _ _ _ _ _ _ _ _ _ _ _ _ _ _ _ _ ?k1Z9 ?kFZ9 ?k3Z9 ?kNZ9 ?k5Z9 ?m1Z9 ?m2Z9 ?w1Z9 ?w2Z9 ?w3Z9 ?w4Z9 ?kKZ9 ?kdZ9 ?kuZ9 ?_); (case kFZ9 => assumption); (case kNZ9 => assumption); (case m1Z9 => k_mem); (case m2Z9 => k_mem); (case e1Z9 => with_reducible assumption); (case e2Z9 => with_reducible assumption); (case e3Z9 => with_reducible assumption); (case e4Z9 => with_reducible assumption); (case w1Z9 => assumption); (case w2Z9 => assumption); (case w3Z9 => assumption); (case w4Z9 => assumption); (case htZ9 => omega); (case hbZ9 => omega); (case hpZ9 => omega); (case hqZ9 => omega); (case hiZ9 => omega); (case hjZ9 => omega); (case k1Z9 => k_asm); (case k3Z9 => k_asm); (case k5Z9 => k_asm); (case kKZ9 => first | exact rfl | assumption); (case kdZ9 => ktr_room); (case kuZ9 => ktr_units); intro h9 tk9 v9 F9 N9 st9 o9; (try dsimp only); (try k_fold)))) | (((with_reducible show wpAny _ _ (compareOp CmpOp.NotEq (Value.ref _) (Value.ref _)) _ _ _); k_here; k_dflt ((refine' ne_rows ?kNZ9 ?kFZ9 ?kDZ9 ?u1Z9 ?u2Z9 ?_); (case kFZ9 => assumption); (case kDZ9 => assumption); (case kNZ9 => assumption); (case u1Z9 => (simp only [units_in1, units_deeper, units_caller]; decide)); (case u2Z9 => (simp only [units_in1, units_deeper, units_caller]; decide)); (try dsimp only); (try k_fold)))) | (((with_reducible show wpAny _ _ (call (Value.ref 108) [Value.str _ _, Value.str _ _, Value.int _ _]) _ _ _); ((k_here; k_dflt ((refine' use_cl (lev_claim _ _ _ _ _ _ _ (by rw [leadS_len]; omega) (by rw [leadS_len]; omega) (by omega)) ?k1Z9 ?kFZ9 ?k3Z9 ?kNZ9 ?k5Z9 ?kKZ9 ?kdZ9 ?kuZ9 ?kHZ9 ?_); (case kFZ9 => assumption); (case kNZ9 => assumption); (case k1Z9 => k_asm); (case k3Z9 => k_asm); (case k5Z9 => k_asm); (case kKZ9 => first | exact rfl | assumption); (case kdZ9 => ktr_room); (case kuZ9 => ktr_units); (case kHZ9 => trivial)))); intro v9 h9 tk9 F9 N9 st9 o9; obtain ⟨t9, e9⟩ := o9; subst e9; (try dsimp only); (try k_fold))) | (((with_reducible show wpAny _ _ (call (Value.ref 136) _) _ _ _); k_here; k_dflt ((refine' due_claim _ _ _ _ _ _ _ _ _ _ _ _ _ ?htZ9 ?hbZ9 ?hiZ9 ?hjZ9 ?hsZ9 _ _ _ _ _ _ _ _ _ _ _ _ _ _ _ _ _ _ _ _ _ ?k1Z9 ?kFZ9 ?k3Z9 ?kNZ9 ?k5Z9 ?w1Z9 ?w2Z9 ?kKZ9 ?kdZ9 ?kuZ9 ?_); (case kFZ9 => assumption); (case kNZ9 => assumption); (case w1Z9 => k_mem); (case w2Z9 => k_mem); (case htZ9 => omega); (case hbZ9 => omega); (case hiZ9 => omega); (case hjZ9 => omega); (case hsZ9 => omega); (case k1Z9 => k_asm); (case k3Z9 => k_asm); (case k5Z9 => k_asm); (case kKZ9 => first | exact rfl | assumption); (case kdZ9 => ktr_room); (case kuZ9 => ktr_units); intro h9 tk9 t9 F9 N9; (try dsimp only); (try k_fold)))) | (((with_reducible show wpAny _ _ (call (Value.ref 52) _) _ _ _); k_here; k_dflt ((refine' indent_use _ _ _ _ _ _ ?kpZ9 ?kqZ9 ?ksZ9 _ _ _ _ _ _ _ _ _ _ _ _ _ _ _ _ _ _ _ _ _ ?k1Z9 ?kFZ9 ?k3Z9 ?kNZ9 ?k5Z9 ?w1Z9 ?kKZ9 ?kdZ9 ?kuZ9 ?_); (case kFZ9 => assumption); (case kNZ9 => assumption); (case w1Z9 => assumption); (case kpZ9 => omega); (case kqZ9 => omega); (case ksZ9 => omega); (case k1Z9 => k_asm); (case k3Z9 => k_asm); (case k5Z9 => k_asm); (case kKZ9 => first | exact rfl | assumption); (case kdZ9 => ktr_room); (case kuZ9 => ktr_units); intro t9 h9 tk9 F9 N9; (try dsimp only); (try k_fold)))) | (((with_reducible show wpAny _ _ (call (Value.builtin "len") [Value.ref _]) _ _ _); k_here; k_dflt ((rename News _ _ _ _ => lN'); (refine' kst_len lN' ?kmZ9 ?keZ9 ?kfZ9 ?_); (case kmZ9 => k_mem); (case keZ9 => assumption); (case kfZ9 => omega); (try dsimp only); (try k_fold)))) | (((with_reducible show wpAny _ _ (call (Value.type _) [Value.int _ _]) _ _ _); k_here; k_dflt ((rename Fr _ _ _ _ => lF'); (rename News _ _ _ _ => lN'); (refine' range_led lF' lN' ?_); clear lF' lN'; intro r9 h9 tk9 t9 u9 v9 F9 N9; (try dsimp only); (try k_fold)))) | ((k_here; (with_reducible show wpAny _ _ (call (Value.type _) [Value.ref _]) _ _ _); (rename IsRange _ _ _ _ _ _ _ _ => rgX); (with_unfolding_all refine' list_step ?k0Z9 ?k1Z9 ?k2Z9 ?k3Z9 ?k4Z9 ?k5Z9 ?k6Z9 ?_; (case k0Z9 => rfl); (case k1Z9 => k_asm); (case k2Z9 => k_asm); (case k3Z9 => exact rgX); (case k4Z9 => exact small_two (by omega) (by omega)); (case k5Z9 => exact range_two (by omega)); (case k6Z9 => omega)); intro _ _ _ _ _ _ _ l1 _; (try k_lt l1))) | ((k_here; (with_reducible show wpAny _ _ (subscriptTail _ (Expr.Slice none (some _) none _) _ _) _ _ _); (with_reducible rename Fr _ _ _ _ => F'); (with_reducible rename News _ _ _ _ => N'); (refine slice_none (s := ⟨_, _, _, _, _⟩) F' N' ?_ (hsz := ?hszZ9)); (case hszZ9 => (rw [sizeLine_eq]; omega)); intro _ _ _ _ _)) | ((k_here; k_openite; first | (refine ite_pos ?hxZ9 ?_; (case hxZ9 => first | with_reducible assumption | (simp only [decide_eq_true_eq, decide_eq_false_iff_not, Bool.not_eq_true', Bool.not_eq_false', bne_iff_ne, ne_eq]; omega))) | (refine ite_neg ?hxZ9 ?_; (case hxZ9 => first | with_reducible assumption | (simp only [decide_eq_true_eq, decide_eq_false_iff_not, Bool.not_eq_true', Bool.not_eq_false', bne_iff_ne, ne_eq, Bool.not_eq_true, Decidable.not_not]; omega))) | (refine ite_b (fun hc => ?_) (fun hc => ?_) <;> (try simp only [decide_eq_true_eq, decide_eq_false_iff_not, Bool.not_eq_true', Bool.not_eq_false', bne_iff_ne, ne_eq, bne_eq_false_iff_eq, Decidable.not_not, Int.not_lt, Int.not_le] at hc)))) | (fail_if_success (with_reducible show wpAny _ _ (eval (PySem.Expr.ListComp _ _ _ _) _) _ _ _)); (fail_if_success (with_reducible show LCp.SrcLP _ _ _ _ _ _ _ _ _ _ _ _ _ _ _)); (fail_if_success (with_reducible show wpAny _ _ (call (Value.ref _) _) _ _ _)); (fail_if_success (with_reducible show LCg.CompSrc _ _ _ _ _ _ _ _ _ _ _ _ _ _)); (fail_if_success (with_reducible show wpAny _ _ (storeName _ _ _) _ _ _)); (fail_if_success (with_reducible show LCg.CompEnd _ _ _ _ _ _ _ _ _ _ _ _ _ _)); (fail_if_success (with_reducible show wpAny _ _ (exec (Stmt.For _ _ _ _ _) _) _ _ _)); (fail_if_success (with_reducible show wpAny _ _ (pyIter _) _ _ _)); first | (k_unfold; (try dsimp only)) | walk1 | (dsimp only; walk1) | (leave1; try dsimp only) | fail "no step"))
    clear N3e
    refine ⟨r, (toldL ns).length, t1, t2, t3, _, fun i ws nx => ∃ R, nx = cellsL s1.heap.objs.size o1 o2 o3 o4 o5 o6 ++ R ∧ NCell R ∧ B6 w ns T ys cT r t1 t2 t3 P ps cP M ms cM size Cl cs cC R ∧ RowsIn Fa fs cF (dueRows (toldL ns)) R ∧ AllIn (WRow (toldL ns) R) ws (List.range i), rfl, rfl, F3, N3, (N3 _ (List.mem_append_right _ hB.b2.rng)).1, by omega, ⟨_, rfl, hR, hB, hFa, trivial⟩, ?turn, ?fin⟩
    case fin =>
      intro h₉ ws nx qq1 D h tk F7 N7
      refine hideG fun Gx hG => ?_
      obtain ⟨R', rfl, hR', hB', hFa', hA⟩ := qq1
      refine hG ?_
      clear hG
      refine ⟨rfl, h, tk, rfl, D, ws, ws.length, (D, LCg.lst ws) :: R', F7, kst_newsOf N7 fun z hz => ?_, NCell.cons rfl hR', hB'.mono fun z hz => .tail _ hz, hFa'.mono fun z hz => .tail _ hz, .head _, AllIn.mono (WRow.mono fun z hz => .tail _ hz) hA⟩
      rcases List.mem_append.mp hz with hz | hz
      · exact .tail _ (List.mem_append_left _ hz)
      · rcases List.mem_cons.mp hz with rfl | hz
        · exact .head _
        · exact .tail _ (List.mem_append_right _ hz)
    case turn =>
      clear F3 N3
      intro h₉
      intro i ws nx I oI C oC D cx ox t h tk E' hi qq1 hox F7 N7 ap
      refine hideG fun Gx hG => ?_
      obtain ⟨R', rfl, hR', hB', hFa', hA⟩ := qq1
      obtain ⟨p, hl⟩ : ∃ p, (toldL ns)[i]? = some p := ⟨_, List.getElem?_eq_getElem hi⟩
      refine hG ?_
      clear hG
      have hlp := told_lt hl
      k_dflt (refine LCg.ListComp_U (F₀ := F7) (by with_unfolding_all rfl) (by decide) (by rfl) (by decide) (by rfl) ?_)
      have N7e := N7
      dsimp only [cellsL, List.cons_append, List.nil_append] at N7e
      (repeat' (first | ((k_here; (with_reducible show wpAny _ _ (subscriptTail _ _ (Value.ref _) (Value.int _ _)) _ _ _); k_dflt (refine' item_at ?k1Z9 ?k2Z9 ?k3Z9 ?k4Z9 ?_ ?k6Z9; (case k1Z9 => exact News.isList (by k_asm) (by k_mem)); (case k4Z9 => with_reducible assumption); (case k2Z9 => omega); (case k3Z9 => omega); (case k6Z9 => with_unfolding_all rfl); k_whole))) | (((with_reducible show wpAny _ _ (call (Value.ref 129) _) _ _ _); k_here; k_dflt ((refine' ways_claim _ _ _ _ _ _ _ _ _ _ _ _ _ _ _ _ _ _ _ ?htZ9 ?hbZ9 ?hpZ9 ?hqZ9 ?hiZ9 ?hjZ9 ?e1Z9 ?e2Z9 ?e3Z9 ?e4Z9 _ _ _ _ _ _ _ _ _ _ _ _ _ _ _ _ _ _ _ _ _ ?k1Z9 ?kFZ9 ?k3Z9 ?kNZ9 ?k5Z9 ?m1Z9 ?m2Z9 ?w1Z9 ?w2Z9 ?w3Z9 ?w4Z9 ?kKZ9 ?kdZ9 ?kuZ9 ?_); (case kFZ9 => assumption); (case kNZ9 => assumption); (case m1Z9 => k_mem); (case m2Z9 => k_mem); (case e1Z9 => with_reducible assumption); (case e2Z9 => with_reducible assumption); (case e3Z9 => with_reducible assumption); (case e4Z9 => with_reducible assumption); (case w1Z9 => assumption); (case w2Z9 => assumption); (case w3Z9 => assumption); (case w4Z9 => assumption); (case htZ9 => omega); (case hbZ9 => omega); (case hpZ9 => omega); (case hqZ9 => omega); (case hiZ9 => omega); (case hjZ9 => omega); (case k1Z9 => k_asm); (case k3Z9 => k_asm); (case k5Z9 => k_asm); (case kKZ9 => first | exact rfl | assumption); (case kdZ9 => ktr_room); (case kuZ9 => ktr_units); intro h9 tk9 v9 F9 N9 st9 o9; (try dsimp only); (try k_fold)))) | (((with_reducible show wpAny _ _ (compareOp CmpOp.NotEq (Value.ref _) (Value.ref _)) _ _ _); k_here; k_dflt ((refine' ne_rows ?kNZ9 ?kFZ9 ?kDZ9 ?u1Z9 ?u2Z9 ?_); (case kFZ9 => assumption); (case kDZ9 => assumption); (case kNZ9 => assumption); (case u1Z9 => (simp only [units_in1, units_deeper, units_caller]; decide)); (case u2Z9 => (simp only [units_in1, units_deeper, units_caller]; decide)); (try dsimp only); (try k_fold)))) | (((with_reducible show wpAny _ _ (call (Value.ref 108) [Value.str _ _, Value.str _ _, Value.int _ _]) _ _ _); ((k_here; k_dflt ((refine' use_cl (lev_claim _ _ _ _ _ _ _ (by rw [leadS_len]; omega) (by rw [leadS_len]; omega) (by omega)) ?k1Z9 ?kFZ9 ?k3Z9 ?kNZ9 ?k5Z9 ?kKZ9 ?kdZ9 ?kuZ9 ?kHZ9 ?_); (case kFZ9 => assumption); (case kNZ9 => assumption); (case k1Z9 => k_asm); (case k3Z9 => k_asm); (case k5Z9 => k_asm); (case kKZ9 => first | exact rfl | assumption); (case kdZ9 => ktr_room); (case kuZ9 => ktr_units); (case kHZ9 => trivial)))); intro v9 h9 tk9 F9 N9 st9 o9; obtain ⟨t9, e9⟩ := o9; subst e9; (try dsimp only); (try k_fold))) | (((with_reducible show wpAny _ _ (call (Value.ref 136) _) _ _ _); k_here; k_dflt ((refine' due_claim _ _ _ _ _ _ _ _ _ _ _ _ _ ?htZ9 ?hbZ9 ?hiZ9 ?hjZ9 ?hsZ9 _ _ _ _ _ _ _ _ _ _ _ _ _ _ _ _ _ _ _ _ _ ?k1Z9 ?kFZ9 ?k3Z9 ?kNZ9 ?k5Z9 ?w1Z9 ?w2Z9 ?kKZ9 ?kdZ9 ?kuZ9 ?_); (case kFZ9 => assumption); (case kNZ9 => assumption); (case w1Z9 => k_mem); (case w2Z9 => k_mem); (case htZ9 => omega); (case hbZ9 => omega); (case hiZ9 => omega); (case hjZ9 => omega); (case hsZ9 => omega); (case k1Z9 => k_asm); (case k3Z9 => k_asm); (case k5Z9 => k_asm); (case kKZ9 => first | exact rfl | assumption); (case kdZ9 => ktr_room); (case kuZ9 => ktr_units); intro h9 tk9 t9 F9 N9; (try dsimp only); (try k_fold)))) | (((with_reducible show wpAny _ _ (call (Value.ref 52) _) _ _ _); k_here; k_dflt ((refine' indent_use _ _ _ _ _ _ ?kpZ9 ?kqZ9 ?ksZ9 _ _ _ _ _ _ _ _ _ _ _ _ _ _ _ _ _ _ _ _ _ ?k1Z9 ?kFZ9 ?k3Z9 ?kNZ9 ?k5Z9 ?w1Z9 ?kKZ9 ?kdZ9 ?kuZ9 ?_); (case kFZ9 => assumption); (case kNZ9 => assumption); (case w1Z9 => assumption); (case kpZ9 => omega); (case kqZ9 => omega); (case ksZ9 => omega); (case k1Z9 => k_asm); (case k3Z9 => k_asm); (case k5Z9 => k_asm); (case kKZ9 => first | exact rfl | assumption); (case kdZ9 => ktr_room); (case kuZ9 => ktr_units); intro t9 h9 tk9 F9 N9; (try dsimp only); (try k_fold)))) | (((with_reducible show wpAny _ _ (call (Value.builtin "len") [Value.ref _]) _ _ _); k_here; k_dflt ((rename News _ _ _ _ => lN'); (refine' kst_len lN' ?kmZ9 ?keZ9 ?kfZ9 ?_); (case kmZ9 => k_mem); (case keZ9 => assumption); (case kfZ9 => omega); (try dsimp only); (try k_fold)))) | (((with_reducible show wpAny _ _ (call (Value.type _) [Value.int _ _]) _ _ _); k_here; k_dflt ((rename Fr _ _ _ _ => lF'); (rename News _ _ _ _ => lN'); (refine' range_led lF' lN' ?_); clear lF' lN'; intro r9 h9 tk9 t9 u9 v9 F9 N9; (try dsimp only); (try k_fold)))) | ((k_here; (with_reducible show wpAny _ _ (call (Value.type _) [Value.ref _]) _ _ _); (rename IsRange _ _ _ _ _ _ _ _ => rgX); (with_unfolding_all refine' list_step ?k0Z9 ?k1Z9 ?k2Z9 ?k3Z9 ?k4Z9 ?k5Z9 ?k6Z9 ?_; (case k0Z9 => rfl); (case k1Z9 => k_asm); (case k2Z9 => k_asm); (case k3Z9 => exact rgX); (case k4Z9 => exact small_two (by omega) (by omega)); (case k5Z9 => exact range_two (by omega)); (case k6Z9 => omega)); intro _ _ _ _ _ _ _ l1 _; (try k_lt l1))) | ((k_here; (with_reducible show wpAny _ _ (subscriptTail _ (Expr.Slice none (some _) none _) _ _) _ _ _); (with_reducible rename Fr _ _ _ _ => F'); (with_reducible rename News _ _ _ _ => N'); (refine slice_none (s := ⟨_, _, _, _, _⟩) F' N' ?_ (hsz := ?hszZ9)); (case hszZ9 => (rw [sizeLine_eq]; omega)); intro _ _ _ _ _)) | ((k_here; k_openite; first | (refine ite_pos ?hxZ9 ?_; (case hxZ9 => first | with_reducible assumption | (simp only [decide_eq_true_eq, decide_eq_false_iff_not, Bool.not_eq_true', Bool.not_eq_false', bne_iff_ne, ne_eq]; omega))) | (refine ite_neg ?hxZ9 ?_; (case hxZ9 => first | with_reducible assumption | (simp only [decide_eq_true_eq, decide_eq_false_iff_not, Bool.not_eq_true', Bool.not_eq_false', bne_iff_ne, ne_eq, Bool.not_eq_true, Decidable.not_not]; omega))) | (refine ite_b (fun hc => ?_) (fun hc => ?_) <;> (try simp only [decide_eq_true_eq, decide_eq_false_iff_not, Bool.not_eq_true', Bool.not_eq_false', bne_iff_ne, ne_eq, bne_eq_false_iff_eq, Decidable.not_not, Int.not_lt, Int.not_le] at hc)))) | (fail_if_success (with_reducible show wpAny _ _ (eval (PySem.Expr.ListComp _ _ _ _) _) _ _ _)); (fail_if_success (with_reducible show LCp.SrcLP _ _ _ _ _ _ _ _ _ _ _ _ _ _ _)); (fail_if_success (with_reducible show wpAny _ _ (call (Value.ref _) _) _ _ _)); (fail_if_success (with_reducible show LCg.CompSrc _ _ _ _ _ _ _ _ _ _ _ _ _ _)); (fail_if_success (with_reducible show wpAny _ _ (storeName _ _ _) _ _ _)); (fail_if_success (with_reducible show LCg.CompEnd _ _ _ _ _ _ _ _ _ _ _ _ _ _)); (fail_if_success (with_reducible show wpAny _ _ (exec (Stmt.For _ _ _ _ _) _) _ _ _)); (fail_if_success (with_reducible show wpAny _ _ (pyIter _) _ _ _)); first | (k_unfold; (try dsimp only)) | walk1 | (dsimp only; walk1) | (leave1; try dsimp only) | fail "no step"))
      clear N7e
      k_dflt (refine' LCg.CompSrc.range rfl F7 N7 (N7 _ (.tail _ (.tail _ (.tail _ (.tail _ (List.mem_append_right _ hB'.b2.rng)))))).1 (small_0 (by omega) (by omega)) (range_to rfl) ?hsz (fun g => ?_))
      case hsz => exact Nat.le_trans htl.2 (by decide)
      k_dflt (refine' comp_ind (fun j zs nx => ∃ R, nx = [(I, oI), (C, oC), (D, LCg.lst ws), (cx, ox)] ++ (cellsL s1.heap.objs.size o1 o2 o3 o4 o5 o6 ++ R) ∧ NCell R ∧ B6 w ns T ys cT r t1 t2 t3 P ps cP M ms cM size Cl cs cC R ∧ RowsIn Fa fs cF (dueRows (toldL ns)) R ∧ AllIn (WRow (toldL ns) R) ws (List.range i) ∧ Apart4 I C D cx (cellsL s1.heap.objs.size o1 o2 o3 o4 o5 o6 ++ R) ∧ AllIn (fun u j => RowR R u (wayE (toldL ns) i j)) zs (List.range j)) ?hJ ?turn2 ?fin2)
      case hJ => exact ⟨_, rfl, hR', hB', hFa', hA, ap, trivial⟩
      case fin2 =>
        intro zs nx qq1 D2 h tk F8 N8 off1
        refine hideG fun Gx hG => ?_
        obtain ⟨R'', rfl, hR'', hB'', hFa'', hA'', ap'', hz⟩ := qq1
        refine hG ?_
        clear hG
        refine cendC_row rfl F8 N8 off1 ap'' ⟨_, rfl, NCell.cons rfl hR'', hB''.mono fun z hz => .tail _ hz, hFa''.mono fun z hz => .tail _ hz, ?_⟩
        rw [List.range_succ]
        exact AllIn.snoc ⟨D2, zs, _, rfl, .head _, AllIn.mono (fun _ _ q => RowR.mono (fun z hz => .tail _ hz) _ _ q) hz⟩ (AllIn.mono (WRow.mono fun z hz => .tail _ hz) hA'')
      case turn2 =>
        clear F7 N7
        intro j zs nx v I2 oI2 C2 oC2 D2 m₂ h tk E' hj qq1 qq2 hC2 hx2 F8 N8 off2 qq3
        refine hideG fun Gx hG => ?_
        obtain ⟨R'', rfl, hR'', hB'', hFa'', hA'', ap'', hz⟩ := qq1
        obtain ⟨tj, rfl⟩ := qq2
        obtain ⟨ne1, ne2, ne3⟩ := qq3
        rw [Int.zero_add] at hx2
        obtain ⟨q, hlq⟩ : ∃ q, (toldL ns)[j]? = some q := ⟨_, List.getElem?_eq_getElem hj⟩
        have hlq2 := told_lt hlq
        obtain ⟨vi, hpi, Ki⟩ := AllIn.get hB''.kp.2 hl
        obtain ⟨vj, hpj, Kj⟩ := AllIn.get hB''.kp.2 hlq
        obtain ⟨mi, hmi, Li⟩ := AllIn.get hB''.km.2 hl
        obtain ⟨mj, hmj, Lj⟩ := AllIn.get hB''.km.2 hlq
        refine hG ?_
        clear hG
        rw [← Int.toNat_natCast i] at hpi hmi
        rw [← Int.toNat_natCast j] at hpj hmj
        have hsub : ∀ z ∈ R'', z ∈ (P, W.listOf (List.toArray ps) cP) :: (M, W.listOf (List.toArray ms) cM) :: (I2, oI2) :: (C2, oC2) :: (D2, LCg.lst zs) :: ([(I, oI), (C, oC), (D, LCg.lst ws), (cx, ox)] ++ (cellsL s1.heap.objs.size o1 o2 o3 o4 o5 o6 ++ R'')) := fun z hz => .tail _ (.tail _ (.tail _ (.tail _ (.tail _ (List.mem_append_right _ (List.mem_append_right _ hz))))))
        have Ki' := Ki.mono hsub
        have Kj' := Kj.mono hsub
        have Li' := Li.mono hsub
        have Lj' := Lj.mono hsub
        have N9 := kst_newsOf N8 (l' := (P, W.listOf (List.toArray ps) cP) :: (M, W.listOf (List.toArray ms) cM) :: (I2, oI2) :: (C2, oC2) :: (D2, LCg.lst zs) :: ([(I, oI), (C, oC), (D, LCg.lst ws), (cx, ox)] ++ (cellsL s1.heap.objs.size o1 o2 o3 o4 o5 o6 ++ R''))) ((sub_cons (.tail _ (.tail _ (.tail _ (List.mem_append_right _ (List.mem_append_right _ hB''.kp.1))))) (sub_cons (.tail _ (.tail _ (.tail _ (List.mem_append_right _ (List.mem_append_right _ hB''.km.1))))) (fun z hz => hz))))
        have N8' := N8
        clear N8 Ki Kj Li Lj hsub
        dsimp only [cellsL, List.cons_append, List.nil_append] at N9 Ki' Kj' Li' Lj'
        (repeat' (first | (fail_if_success (with_reducible show wpAny _ _ (call (Value.ref _) _) _ _ _)); ((first | ((k_here; (with_reducible show wpAny _ _ (subscriptTail _ _ (Value.ref _) (Value.int _ _)) _ _ _); k_dflt (refine' item_at ?k1Z9 ?k2Z9 ?k3Z9 ?k4Z9 ?_ ?k6Z9; (case k1Z9 => exact News.isList (by k_asm) (by k_mem)); (case k4Z9 => with_reducible assumption); (case k2Z9 => omega); (case k3Z9 => omega); (case k6Z9 => with_unfolding_all rfl); k_whole))) | (((with_reducible show wpAny _ _ (call (Value.ref 129) _) _ _ _); k_here; k_dflt ((refine' ways_claim _ _ _ _ _ _ _ _ _ _ _ _ _ _ _ _ _ _ _ ?htZ9 ?hbZ9 ?hpZ9 ?hqZ9 ?hiZ9 ?hjZ9 ?e1Z9 ?e2Z9 ?e3Z9 ?e4Z9 _ _ _ _ _ _ _ _ _ _ _ _ _ _ _ _ _ _ _ _ _ ?k1Z9 ?kFZ9 ?k3Z9 ?kNZ9 ?k5Z9 ?m1Z9 ?m2Z9 ?w1Z9 ?w2Z9 ?w3Z9 ?w4Z9 ?kKZ9 ?kdZ9 ?kuZ9 ?_); (case kFZ9 => assumption); (case kNZ9 => assumption); (case m1Z9 => k_mem); (case m2Z9 => k_mem); (case e1Z9 => with_reducible assumption); (case e2Z9 => with_reducible assumption); (case e3Z9 => with_reducible assumption); (case e4Z9 => with_reducible assumption); (case w1Z9 => assumption); (case w2Z9 => assumption); (case w3Z9 => assumption); (case w4Z9 => assumption); (case htZ9 => omega); (case hbZ9 => omega); (case hpZ9 => omega); (case hqZ9 => omega); (case hiZ9 => omega); (case hjZ9 => omega); (case k1Z9 => k_asm); (case k3Z9 => k_asm); (case k5Z9 => k_asm); (case kKZ9 => first | exact rfl | assumption); (case kdZ9 => ktr_room); (case kuZ9 => ktr_units); intro h9 tk9 v9 F9 N9 st9 o9; (try dsimp only); (try k_fold)))) | (((with_reducible show wpAny _ _ (compareOp CmpOp.NotEq (Value.ref _) (Value.ref _)) _ _ _); k_here; k_dflt ((refine' ne_rows ?kNZ9 ?kFZ9 ?kDZ9 ?u1Z9 ?u2Z9 ?_); (case kFZ9 => assumption); (case kDZ9 => assumption); (case kNZ9 => assumption); (case u1Z9 => (simp only [units_in1, units_deeper, units_caller]; decide)); (case u2Z9 => (simp only [units_in1, units_deeper, units_caller]; decide)); (try dsimp only); (try k_fold)))) | (((with_reducible show wpAny _ _ (call (Value.ref 108) [Value.str _ _, Value.str _ _, Value.int _ _]) _ _ _); ((k_here; k_dflt ((refine' use_cl (lev_claim _ _ _ _ _ _ _ (by rw [leadS_len]; omega) (by rw [leadS_len]; omega) (by omega)) ?k1Z9 ?kFZ9 ?k3Z9 ?kNZ9 ?k5Z9 ?kKZ9 ?kdZ9 ?kuZ9 ?kHZ9 ?_); (case kFZ9 => assumption); (case kNZ9 => assumption); (case k1Z9 => k_asm); (case k3Z9 => k_asm); (case k5Z9 => k_asm); (case kKZ9 => first | exact rfl | assumption); (case kdZ9 => ktr_room); (case kuZ9 => ktr_units); (case kHZ9 => trivial)))); intro v9 h9 tk9 F9 N9 st9 o9; obtain ⟨t9, e9⟩ := o9; subst e9; (try dsimp only); (try k_fold))) | (((with_reducible show wpAny _ _ (call (Value.ref 136) _) _ _ _); k_here; k_dflt ((refine' due_claim _ _ _ _ _ _ _ _ _ _ _ _ _ ?htZ9 ?hbZ9 ?hiZ9 ?hjZ9 ?hsZ9 _ _ _ _ _ _ _ _ _ _ _ _ _ _ _ _ _ _ _ _ _ ?k1Z9 ?kFZ9 ?k3Z9 ?kNZ9 ?k5Z9 ?w1Z9 ?w2Z9 ?kKZ9 ?kdZ9 ?kuZ9 ?_); (case kFZ9 => assumption); (case kNZ9 => assumption); (case w1Z9 => k_mem); (case w2Z9 => k_mem); (case htZ9 => omega); (case hbZ9 => omega); (case hiZ9 => omega); (case hjZ9 => omega); (case hsZ9 => omega); (case k1Z9 => k_asm); (case k3Z9 => k_asm); (case k5Z9 => k_asm); (case kKZ9 => first | exact rfl | assumption); (case kdZ9 => ktr_room); (case kuZ9 => ktr_units); intro h9 tk9 t9 F9 N9; (try dsimp only); (try k_fold)))) | (((with_reducible show wpAny _ _ (call (Value.ref 52) _) _ _ _); k_here; k_dflt ((refine' indent_use _ _ _ _ _ _ ?kpZ9 ?kqZ9 ?ksZ9 _ _ _ _ _ _ _ _ _ _ _ _ _ _ _ _ _ _ _ _ _ ?k1Z9 ?kFZ9 ?k3Z9 ?kNZ9 ?k5Z9 ?w1Z9 ?kKZ9 ?kdZ9 ?kuZ9 ?_); (case kFZ9 => assumption); (case kNZ9 => assumption); (case w1Z9 => assumption); (case kpZ9 => omega); (case kqZ9 => omega); (case ksZ9 => omega); (case k1Z9 => k_asm); (case k3Z9 => k_asm); (case k5Z9 => k_asm); (case kKZ9 => first | exact rfl | assumption); (case kdZ9 => ktr_room); (case kuZ9 => ktr_units); intro t9 h9 tk9 F9 N9; (try dsimp only); (try k_fold)))) | (((with_reducible show wpAny _ _ (call (Value.builtin "len") [Value.ref _]) _ _ _); k_here; k_dflt ((rename News _ _ _ _ => lN'); (refine' kst_len lN' ?kmZ9 ?keZ9 ?kfZ9 ?_); (case kmZ9 => k_mem); (case keZ9 => assumption); (case kfZ9 => omega); (try dsimp only); (try k_fold)))) | (((with_reducible show wpAny _ _ (call (Value.type _) [Value.int _ _]) _ _ _); k_here; k_dflt ((rename Fr _ _ _ _ => lF'); (rename News _ _ _ _ => lN'); (refine' range_led lF' lN' ?_); clear lF' lN'; intro r9 h9 tk9 t9 u9 v9 F9 N9; (try dsimp only); (try k_fold)))) | ((k_here; (with_reducible show wpAny _ _ (call (Value.type _) [Value.ref _]) _ _ _); (rename IsRange _ _ _ _ _ _ _ _ => rgX); (with_unfolding_all refine' list_step ?k0Z9 ?k1Z9 ?k2Z9 ?k3Z9 ?k4Z9 ?k5Z9 ?k6Z9 ?_; (case k0Z9 => rfl); (case k1Z9 => k_asm); (case k2Z9 => k_asm); (case k3Z9 => exact rgX); (case k4Z9 => exact small_two (by omega) (by omega)); (case k5Z9 => exact range_two (by omega)); (case k6Z9 => omega)); intro _ _ _ _ _ _ _ l1 _; (try k_lt l1))) | ((k_here; (with_reducible show wpAny _ _ (subscriptTail _ (Expr.Slice none (some _) none _) _ _) _ _ _); (with_reducible rename Fr _ _ _ _ => F'); (with_reducible rename News _ _ _ _ => N'); (refine slice_none (s := ⟨_, _, _, _, _⟩) F' N' ?_ (hsz := ?hszZ9)); (case hszZ9 => (rw [sizeLine_eq]; omega)); intro _ _ _ _ _)) | ((k_here; k_openite; first | (refine ite_pos ?hxZ9 ?_; (case hxZ9 => first | with_reducible assumption | (simp only [decide_eq_true_eq, decide_eq_false_iff_not, Bool.not_eq_true', Bool.not_eq_false', bne_iff_ne, ne_eq]; omega))) | (refine ite_neg ?hxZ9 ?_; (case hxZ9 => first | with_reducible assumption | (simp only [decide_eq_true_eq, decide_eq_false_iff_not, Bool.not_eq_true', Bool.not_eq_false', bne_iff_ne, ne_eq, Bool.not_eq_true, Decidable.not_not]; omega))) | (refine ite_b (fun hc => ?_) (fun hc => ?_) <;> (try simp only [decide_eq_true_eq, decide_eq_false_iff_not, Bool.not_eq_true', Bool.not_eq_false', bne_iff_ne, ne_eq, bne_eq_false_iff_eq, Decidable.not_not, Int.not_lt, Int.not_le] at hc)))) | (k_unfold; (try dsimp only)) | walk1 | (dsimp only; walk1)))))
        · k_dflt (refine' ways_claim _ _ _ _ _ _ _ _ _ _ _ _ _ _ _ _ _ _ _ ?ht ?hb ?hp ?hq ?hi ?hj ?e1 ?e2 ?e3 ?e4 _ _ _ _ _ _ _ _ _ _ _ _ _ _ _ _ _ _ _ _ _ ?k1 ?kF ?k3 ?kN ?k5 ?m1 ?m2 ?w1 ?w2 ?w3 ?w4 ?kK ?kd ?ku ?_)
          case kF => assumption
          case kN => exact N9
          case m1 => k_mem
          case m2 => k_mem
          case e1 => with_reducible assumption
          case e2 => with_reducible assumption
          case e3 => with_reducible assumption
          case e4 => with_reducible assumption
          case w1 => exact Ki'
          case w2 => exact Kj'
          case w3 => exact Li'
          case w4 => exact Lj'
          case ht => omega
          case hb => omega
          case hp => omega
          case hq => omega
          case hi => omega
          case hj => omega
          case k1 => k_asm
          case k3 => k_asm
          case k5 => k_asm
          case kK => first | exact rfl | assumption
          case kd => ktr_room
          case ku => ktr_units
          intro h9 tk9 v9 F9 N9 st9 qq1
          refine hideG fun Gx hG => ?_
          obtain ⟨objs, ⟨D9, us, c9, rfl, hm9, hi9⟩, ho⟩ := qq1
          refine hG ?_
          clear hG
          have hij : i ≠ j := by omega
          k_dflt (refine' cend_new (cells := [(I, oI), (C, oC), (D, LCg.lst ws), (cx, ox)] ++ cellsL s1.heap.objs.size o1 o2 o3 o4 o5 o6) (R := R'') (objs := noC objs) ?gF N8' st9 (fun p hp => ho p (noC_sub p hp)) off2 trivial ⟨noC objs ++ R'', rfl, NCell.app (noC_ncell _) hR'', hB''.mono (fun z hz => List.mem_append_right _ hz), hFa''.mono (fun z hz => List.mem_append_right _ hz), AllIn.mono (WRow.mono fun z hz => List.mem_append_right _ hz) hA'', apart_new (X := [_, _, _]) N8' (fun p hp => ho p (noC_sub p hp)) ap'', ?eZ⟩)
          case gF => assumption
          case eZ =>
            rw [List.range_succ]
            refine AllIn.snoc ⟨D9, us, c9, rfl, List.mem_append_left _ (noC_mem hm9 rfl), ?_⟩ (AllIn.mono (fun _ _ q => RowR.mono (fun z hz => List.mem_append_right _ hz) _ _ q) hz)
            rw [wayE_ne hij hl hlq]
            exact hi9
        · (rename Fr _ _ _ _ => F9; rename News _ _ _ _ => N9)
          have hij : i = j := by omega
          k_dflt (refine' cend_focus (X := []) (cells := [(I, oI), (C, oC), (D, LCg.lst ws), (cx, ox)] ++ cellsL s1.heap.objs.size o1 o2 o3 o4 o5 o6) (R := R'') F9 N9 ?el off2 trivial ⟨_, rfl, NCell.cons ?ec hR'', hB''.mono (fun z hz => .tail _ hz), hFa''.mono (fun z hz => .tail _ hz), AllIn.mono (WRow.mono fun z hz => .tail _ hz) hA'', apart_one (X := [(I2, oI2), (C2, oC2), (D2, LCg.lst zs)]) ?ea ap'', ?eZ⟩)
          case el => assumption
          case ec => rfl
          case ea => assumption
          case eZ =>
            rw [List.range_succ]
            refine AllIn.snoc ⟨_, [], 0, rfl, .head _, ?_⟩ (AllIn.mono (fun _ _ q => RowR.mono (fun z hz => .tail _ hz) _ _ q) hz)
            rw [hij, wayE_eq]
            exact .nil

-- l2_c10
  clear N3 F3 hR hB hDu hFa R
  intro h tk qq1
  refine hideG fun Gx hG => ?_
  obtain ⟨Wa, ws, cW, R, F3, N3, hR, hB, hFa, hWa⟩ := qq1
  refine hG ?_
  clear hG

-- l2_b13
  have N3e := N3
  dsimp only [cellsL, List.cons_append, List.nil_append] at N3e
  (repeat' (first | ((k_here; (with_reducible show wpAny _ _ (subscriptTail _ _ (Value.ref _) (Value.int _ _)) _ _ _); k_dflt (refine' item_at ?k1Z9 ?k2Z9 ?k3Z9 ?k4Z9 ?_ ?k6Z9; (case k1Z9 => exact News.isList (by k_asm) (by k_mem)); (case k4Z9 => with_reducible assumption); (case k2Z9 => omega); (case k3Z9 => omega); (case k6Z9 => with_unfolding_all rfl); k_whole))) | (((with_reducible show wpAny _ _ (call (Value.ref 129) _) _ _ _); k_here; k_dflt ((refine' ways_claim _ _ _ _ _ _ _ _ _ _ _ _ _ _ _ _ _ _ _ ?htZ9 ?hbZ9 ?hpZ9 ?hqZ9 ?hiZ9 ?hjZ9 ?e1Z9 ?e2Z9 ?e3Z9 ?e4Z9 _ _ _ _ _ _ _ _ _ _ _ _ _ _ _ _ _ _ _ _ _ ?k1Z9 ?kFZ9 ?k3Z9 ?kNZ9 ?k5Z9 ?m1Z9 ?m2Z9 ?w1Z9 ?w2Z9 ?w3Z9 ?w4Z9 ?kKZ9 ?kdZ9 ?kuZ9 ?_); (case kFZ9 => assumption); (case kNZ9 => assumption); (case m1Z9 => k_mem); (case m2Z9 => k_mem); (case e1Z9 => with_reducible assumption); (case e2Z9 => with_reducible assumption); (case e3Z9 => with_reducible assumption); (case e4Z9 => with_reducible assumption); (case w1Z9 => assumption); (case w2Z9 => assumption); (case w3Z9 => assumption); (case w4Z9 => assumption); (case htZ9 => omega); (case hbZ9 => omega); (case hpZ9 => omega); (case hqZ9 => omega); (case hiZ9 => omega); (case hjZ9 => omega); (case k1Z9 => k_asm); (case k3Z9 => k_asm); (case k5Z9 => k_asm); (case kKZ9 => first | exact rfl | assumption); (case kdZ9 => ktr_room); (case kuZ9 => ktr_units); intro h9 tk9 v9 F9 N9 st9 o9; (try dsimp only); (try k_fold)))) | (((with_reducible show wpAny _ _ (compareOp CmpOp.NotEq (Value.ref _) (Value.ref _)) _ _ _); k_here; k_dflt ((refine' ne_rows ?kNZ9 ?kFZ9 ?kDZ9 ?u1Z9 ?u2Z9 ?_); (case kFZ9 => assumption); (case kDZ9 => assumption); (case kNZ9 => assumption); (case u1Z9 => (simp only [units_in1, units_deeper, units_caller]; decide)); (case u2Z9 => (simp only [units_in1, units_deeper, units_caller]; decide)); (try dsimp only); (try k_fold)))) | (((with_reducible show wpAny _ _ (call (Value.ref 108) [Value.str _ _, Value.str _ _, Value.int _ _]) _ _ _); ((k_here; k_dflt ((refine' use_cl (lev_claim _ _ _ _ _ _ _ (by rw [leadS_len]; omega) (by rw [leadS_len]; omega) (by omega)) ?k1Z9 ?kFZ9 ?k3Z9 ?kNZ9 ?k5Z9 ?kKZ9 ?kdZ9 ?kuZ9 ?kHZ9 ?_); (case kFZ9 => assumption); (case kNZ9 => assumption); (case k1Z9 => k_asm); (case k3Z9 => k_asm); (case k5Z9 => k_asm); (case kKZ9 => first | exact rfl | assumption); (case kdZ9 => ktr_room); (case kuZ9 => ktr_units); (case kHZ9 => trivial)))); intro v9 h9 tk9 F9 N9 st9 o9; obtain ⟨t9, e9⟩ := o9; subst e9; (try dsimp only); (try k_fold))) | (((with_reducible show wpAny _ _ (call (Value.ref 136) _) _ _ _); k_here; k_dflt ((refine' due_claim _ _ _ _ _ _ _ _ _ _ _ _ _ ?htZ9 ?hbZ9 ?hiZ9 ?hjZ9 ?hsZ9 _ _ _ _ _ _ _ _ _ _ _ _ _ _ _ _ _ _ _ _ _ ?k1Z9 ?kFZ9 ?k3Z9 ?kNZ9 ?k5Z9 ?w1Z9 ?w2Z9 ?kKZ9 ?kdZ9 ?kuZ9 ?_); (case kFZ9 => assumption); (case kNZ9 => assumption); (case w1Z9 => k_mem); (case w2Z9 => k_mem); (case htZ9 => omega); (case hbZ9 => omega); (case hiZ9 => omega); (case hjZ9 => omega); (case hsZ9 => omega); (case k1Z9 => k_asm); (case k3Z9 => k_asm); (case k5Z9 => k_asm); (case kKZ9 => first | exact rfl | assumption); (case kdZ9 => ktr_room); (case kuZ9 => ktr_units); intro h9 tk9 t9 F9 N9; (try dsimp only); (try k_fold)))) | (((with_reducible show wpAny _ _ (call (Value.ref 52) _) _ _ _); k_here; k_dflt ((refine' indent_use _ _ _ _ _ _ ?kpZ9 ?kqZ9 ?ksZ9 _ _ _ _ _ _ _ _ _ _ _ _ _ _ _ _ _ _ _ _ _ ?k1Z9 ?kFZ9 ?k3Z9 ?kNZ9 ?k5Z9 ?w1Z9 ?kKZ9 ?kdZ9 ?kuZ9 ?_); (case kFZ9 => assumption); (case kNZ9 => assumption); (case w1Z9 => assumption); (case kpZ9 => omega); (case kqZ9 => omega); (case ksZ9 => omega); (case k1Z9 => k_asm); (case k3Z9 => k_asm); (case k5Z9 => k_asm); (case kKZ9 => first | exact rfl | assumption); (case kdZ9 => ktr_room); (case kuZ9 => ktr_units); intro t9 h9 tk9 F9 N9; (try dsimp only); (try k_fold)))) | (((with_reducible show wpAny _ _ (call (Value.builtin "len") [Value.ref _]) _ _ _); k_here; k_dflt ((rename News _ _ _ _ => lN'); (refine' kst_len lN' ?kmZ9 ?keZ9 ?kfZ9 ?_); (case kmZ9 => k_mem); (case keZ9 => assumption); (case kfZ9 => omega); (try dsimp only); (try k_fold)))) | (((with_reducible show wpAny _ _ (call (Value.type _) [Value.int _ _]) _ _ _); k_here; k_dflt ((rename Fr _ _ _ _ => lF'); (rename News _ _ _ _ => lN'); (refine' range_led lF' lN' ?_); clear lF' lN'; intro r9 h9 tk9 t9 u9 v9 F9 N9; (try dsimp only); (try k_fold)))) | ((k_here; (with_reducible show wpAny _ _ (call (Value.type _) [Value.ref _]) _ _ _); (rename IsRange _ _ _ _ _ _ _ _ => rgX); (with_unfolding_all refine' list_step ?k0Z9 ?k1Z9 ?k2Z9 ?k3Z9 ?k4Z9 ?k5Z9 ?k6Z9 ?_; (case k0Z9 => rfl); (case k1Z9 => k_asm); (case k2Z9 => k_asm); (case k3Z9 => exact rgX); (case k4Z9 => exact small_two (by omega) (by omega)); (case k5Z9 => exact range_two (by omega)); (case k6Z9 => omega)); intro _ _ _ _ _ _ _ l1 _; (try k_lt l1))) | ((k_here; (with_reducible show wpAny _ _ (subscriptTail _ (Expr.Slice none (some _) none _) _ _) _ _ _); (with_reducible rename Fr _ _ _ _ => F'); (with_reducible rename News _ _ _ _ => N'); (refine slice_none (s := ⟨_, _, _, _, _⟩) F' N' ?_ (hsz := ?hszZ9)); (case hszZ9 => (rw [sizeLine_eq]; omega)); intro _ _ _ _ _)) | ((k_here; k_openite; first | (refine ite_pos ?hxZ9 ?_; (case hxZ9 => first | with_reducible assumption | (simp only [decide_eq_true_eq, decide_eq_false_iff_not, Bool.not_eq_true', Bool.not_eq_false', bne_iff_ne, ne_eq]; omega))) | (refine ite_neg ?hxZ9 ?_; (case hxZ9 => first | with_reducible assumption | (simp only [decide_eq_true_eq, decide_eq_false_iff_not, Bool.not_eq_true', Bool.not_eq_false', bne_iff_ne, ne_eq, Bool.not_eq_true, Decidable.not_not]; omega))) | (refine ite_b (fun hc => ?_) (fun hc => ?_) <;> (try simp only [decide_eq_true_eq, decide_eq_false_iff_not, Bool.not_eq_true', Bool.not_eq_false', bne_iff_ne, ne_eq, bne_eq_false_iff_eq, Decidable.not_not, Int.not_lt, Int.not_le] at hc)))) | (fail_if_success (with_reducible show wpAny _ _ (eval (PySem.Expr.ListComp _ _ _ _) _) _ _ _)); (fail_if_success (with_reducible show LCp.SrcLP _ _ _ _ _ _ _ _ _ _ _ _ _ _ _)); (fail_if_success (with_reducible show wpAny _ _ (call (Value.ref _) _) _ _ _)); (fail_if_success (with_reducible show LCg.CompSrc _ _ _ _ _ _ _ _ _ _ _ _ _ _)); (fail_if_success (with_reducible show wpAny _ _ (storeName _ _ _) _ _ _)); (fail_if_success (with_reducible show LCg.CompEnd _ _ _ _ _ _ _ _ _ _ _ _ _ _)); (fail_if_success (with_reducible show wpAny _ _ (exec (Stmt.For _ _ _ _ _) _) _ _ _)); (fail_if_success (with_reducible show wpAny _ _ (pyIter _) _ _ _)); first | (k_unfold; (try dsimp only)) | walk1 | (dsimp only; walk1) | (leave1; try dsimp only) | fail "no step"))
  (with_unfolding_all refine' For_invVF F3 ?k1 ?k2 ?_; (case k1 => exact rfl); (case k2 => exact rfl); k_whole)
  (repeat' (first | ((k_here; (with_reducible show wpAny _ _ (subscriptTail _ _ (Value.ref _) (Value.int _ _)) _ _ _); k_dflt (refine' item_at ?k1Z9 ?k2Z9 ?k3Z9 ?k4Z9 ?_ ?k6Z9; (case k1Z9 => exact News.isList (by k_asm) (by k_mem)); (case k4Z9 => with_reducible assumption); (case k2Z9 => omega); (case k3Z9 => omega); (case k6Z9 => with_unfolding_all rfl); k_whole))) | (((with_reducible show wpAny _ _ (call (Value.ref 129) _) _ _ _); k_here; k_dflt ((refine' ways_claim _ _ _ _ _ _ _ _ _ _ _ _ _ _ _ _ _ _ _ ?htZ9 ?hbZ9 ?hpZ9 ?hqZ9 ?hiZ9 ?hjZ9 ?e1Z9 ?e2Z9 ?e3Z9 ?e4Z9 _ _ _ _ _ _ _ _ _ _ _ _ _ _ _ _ _ _ _ _ _ ?k1Z9 ?kFZ9 ?k3Z9 ?kNZ9 ?k5Z9 ?m1Z9 ?m2Z9 ?w1Z9 ?w2Z9 ?w3Z9 ?w4Z9 ?kKZ9 ?kdZ9 ?kuZ9 ?_); (case kFZ9 => assumption); (case kNZ9 => assumption); (case m1Z9 => k_mem); (case m2Z9 => k_mem); (case e1Z9 => with_reducible assumption); (case e2Z9 => with_reducible assumption); (case e3Z9 => with_reducible assumption); (case e4Z9 => with_reducible assumption); (case w1Z9 => assumption); (case w2Z9 => assumption); (case w3Z9 => assumption); (case w4Z9 => assumption); (case htZ9 => omega); (case hbZ9 => omega); (case hpZ9 => omega); (case hqZ9 => omega); (case hiZ9 => omega); (case hjZ9 => omega); (case k1Z9 => k_asm); (case k3Z9 => k_asm); (case k5Z9 => k_asm); (case kKZ9 => first | exact rfl | assumption); (case kdZ9 => ktr_room); (case kuZ9 => ktr_units); intro h9 tk9 v9 F9 N9 st9 o9; (try dsimp only); (try k_fold)))) | (((with_reducible show wpAny _ _ (compareOp CmpOp.NotEq (Value.ref _) (Value.ref _)) _ _ _); k_here; k_dflt ((refine' ne_rows ?kNZ9 ?kFZ9 ?kDZ9 ?u1Z9 ?u2Z9 ?_); (case kFZ9 => assumption); (case kDZ9 => assumption); (case kNZ9 => assumption); (case u1Z9 => (simp only [units_in1, units_deeper, units_caller]; decide)); (case u2Z9 => (simp only [units_in1, units_deeper, units_caller]; decide)); (try dsimp only); (try k_fold)))) | (((with_reducible show wpAny _ _ (call (Value.ref 108) [Value.str _ _, Value.str _ _, Value.int _ _]) _ _ _); ((k_here; k_dflt ((refine' use_cl (lev_claim _ _ _ _ _ _ _ (by rw [leadS_len]; omega) (by rw [leadS_len]; omega) (by omega)) ?k1Z9 ?kFZ9 ?k3Z9 ?kNZ9 ?k5Z9 ?kKZ9 ?kdZ9 ?kuZ9 ?kHZ9 ?_); (case kFZ9 => assumption); (case kNZ9 => assumption); (case k1Z9 => k_asm); (case k3Z9 => k_asm); (case k5Z9 => k_asm); (case kKZ9 => first | exact rfl | assumption); (case kdZ9 => ktr_room); (case kuZ9 => ktr_units); (case kHZ9 => trivial)))); intro v9 h9 tk9 F9 N9 st9 o9; obtain ⟨t9, e9⟩ := o9; subst e9; (try dsimp only); (try k_fold))) | (((with_reducible show wpAny _ _ (call (Value.ref 136) _) _ _ _); k_here; k_dflt ((refine' due_claim _ _ _ _ _ _ _ _ _ _ _ _ _ ?htZ9 ?hbZ9 ?hiZ9 ?hjZ9 ?hsZ9 _ _ _ _ _ _ _ _ _ _ _ _ _ _ _ _ _ _ _ _ _ ?k1Z9 ?kFZ9 ?k3Z9 ?kNZ9 ?k5Z9 ?w1Z9 ?w2Z9 ?kKZ9 ?kdZ9 ?kuZ9 ?_); (case kFZ9 => assumption); (case kNZ9 => assumption); (case w1Z9 => k_mem); (case w2Z9 => k_mem); (case htZ9 => omega); (case hbZ9 => omega); (case hiZ9 => omega); (case hjZ9 => omega); (case hsZ9 => omega); (case k1Z9 => k_asm); (case k3Z9 => k_asm); (case k5Z9 => k_asm); (case kKZ9 => first | exact rfl | assumption); (case kdZ9 => ktr_room); (case kuZ9 => ktr_units); intro h9 tk9 t9 F9 N9; (try dsimp only); (try k_fold)))) | (((with_reducible show wpAny _ _ (call (Value.ref 52) _) _ _ _); k_here; k_dflt ((refine' indent_use _ _ _ _ _ _ ?kpZ9 ?kqZ9 ?ksZ9 _ _ _ _ _ _ _ _ _ _ _ _ _ _ _ _ _ _ _ _ _ ?k1Z9 ?kFZ9 ?k3Z9 ?kNZ9 ?k5Z9 ?w1Z9 ?kKZ9 ?kdZ9 ?kuZ9 ?_); (case kFZ9 => assumption); (case kNZ9 => assumption); (case w1Z9 => assumption); (case kpZ9 => omega); (case kqZ9 => omega); (case ksZ9 => omega); (case k1Z9 => k_asm); (case k3Z9 => k_asm); (case k5Z9 => k_asm); (case kKZ9 => first | exact rfl | assumption); (case kdZ9 => ktr_room); (case kuZ9 => ktr_units); intro t9 h9 tk9 F9 N9; (try dsimp only); (try k_fold)))) | (((with_reducible show wpAny _ _ (call (Value.builtin "len") [Value.ref _]) _ _ _); k_here; k_dflt ((rename News _ _ _ _ => lN'); (refine' kst_len lN' ?kmZ9 ?keZ9 ?kfZ9 ?_); (case kmZ9 => k_mem); (case keZ9 => assumption); (case kfZ9 => omega); (try dsimp only); (try k_fold)))) | (((with_reducible show wpAny _ _ (call (Value.type _) [Value.int _ _]) _ _ _); k_here; k_dflt ((rename Fr _ _ _ _ => lF'); (rename News _ _ _ _ => lN'); (refine' range_led lF' lN' ?_); clear lF' lN'; intro r9 h9 tk9 t9 u9 v9 F9 N9; (try dsimp only); (try k_fold)))) | ((k_here; (with_reducible show wpAny _ _ (call (Value.type _) [Value.ref _]) _ _ _); (rename IsRange _ _ _ _ _ _ _ _ => rgX); (with_unfolding_all refine' list_step ?k0Z9 ?k1Z9 ?k2Z9 ?k3Z9 ?k4Z9 ?k5Z9 ?k6Z9 ?_; (case k0Z9 => rfl); (case k1Z9 => k_asm); (case k2Z9 => k_asm); (case k3Z9 => exact rgX); (case k4Z9 => exact small_two (by omega) (by omega)); (case k5Z9 => exact range_two (by omega)); (case k6Z9 => omega)); intro _ _ _ _ _ _ _ l1 _; (try k_lt l1))) | ((k_here; (with_reducible show wpAny _ _ (subscriptTail _ (Expr.Slice none (some _) none _) _ _) _ _ _); (with_reducible rename Fr _ _ _ _ => F'); (with_reducible rename News _ _ _ _ => N'); (refine slice_none (s := ⟨_, _, _, _, _⟩) F' N' ?_ (hsz := ?hszZ9)); (case hszZ9 => (rw [sizeLine_eq]; omega)); intro _ _ _ _ _)) | ((k_here; k_openite; first | (refine ite_pos ?hxZ9 ?_; (case hxZ9 => first | with_reducible assumption | (simp only [decide_eq_true_eq, decide_eq_false_iff_not, Bool.not_eq_true', Bool.not_eq_false', bne_iff_ne, ne_eq]; omega))) | (refine ite_neg ?hxZ9 ?_; (case hxZ9 => first | with_reducible assumption | (simp only [decide_eq_true_eq, decide_eq_false_iff_not, Bool.not_eq_true', Bool.not_eq_false', bne_iff_ne, ne_eq, Bool.not_eq_true, Decidable.not_not]; omega))) | (refine ite_b (fun hc => ?_) (fun hc => ?_) <;> (try simp only [decide_eq_true_eq, decide_eq_false_iff_not, Bool.not_eq_true', Bool.not_eq_false', bne_iff_ne, ne_eq, bne_eq_false_iff_eq, Decidable.not_not, Int.not_lt, Int.not_le] at hc)))) | (fail_if_success (with_reducible show wpAny _ _ (eval (PySem.Expr.ListComp _ _ _ _) _) _ _ _)); (fail_if_success (with_reducible show LCp.SrcLP _ _ _ _ _ _ _ _ _ _ _ _ _ _ _)); (fail_if_success (with_reducible show wpAny _ _ (call (Value.ref _) _) _ _ _)); (fail_if_success (with_reducible show LCg.CompSrc _ _ _ _ _ _ _ _ _ _ _ _ _ _)); (fail_if_success (with_reducible show wpAny _ _ (storeName _ _ _) _ _ _)); (fail_if_success (with_reducible show LCg.CompEnd _ _ _ _ _ _ _ _ _ _ _ _ _ _)); (fail_if_success (with_reducible show wpAny _ _ (exec (Stmt.For _ _ _ _ _) _) _ _ _)); (fail_if_success (with_reducible show wpAny _ _ (pyIter _) _ _ _)); first | (k_unfold; (try dsimp only)) | walk1 | (dsimp only; walk1) | (leave1; try dsimp only) | fail "no step"))
  clear N3e
  k_dflt (refine' kst_range (n := (toldL ns).length) (σ := Unit) (fun _ => cellsL s1.heap.objs.size o1 o2 o3 o4 o5 o6 ++ R) (fun _ => []) (fun _ => True) [PySem.Str.ofString "j", PySem.Str.ofString "k"] (fun _ _ => True) () rfl (N3 _ (List.mem_append_right _ hB.b2.rng)).1 (small_0 (by omega) (by omega)) (range_to rfl) F3 N3 trivial ?hkk trivial ?kt ?kd)
  case hkk => exact fun p hp => by cases hp
  case kd =>
    clear F3 N3
    intro _ u h tk _ _ F4 N4
    (try dsimp only at F4 N4)
    (try k_fold)
    k_steps
  clear F3 N3
  intro _ pre i ti u h tk own hi hpre hoff _ _ F4 N4
  dsimp only [kstB] at F4
  (try dsimp only at N4)
  have hi0 : 0 ≤ i ∧ i < (toldL ns).length := by omega
  have N4e := N4
  dsimp only [cellsL, List.cons_append, List.nil_append] at N4e
  (try k_fold)
  (repeat' (first | ((k_here; (with_reducible show wpAny _ _ (subscriptTail _ _ (Value.ref _) (Value.int _ _)) _ _ _); k_dflt (refine' item_at ?k1Z9 ?k2Z9 ?k3Z9 ?k4Z9 ?_ ?k6Z9; (case k1Z9 => exact News.isList (by k_asm) (by k_mem)); (case k4Z9 => with_reducible assumption); (case k2Z9 => omega); (case k3Z9 => omega); (case k6Z9 => with_unfolding_all rfl); k_whole))) | (((with_reducible show wpAny _ _ (call (Value.ref 129) _) _ _ _); k_here; k_dflt ((refine' ways_claim _ _ _ _ _ _ _ _ _ _ _ _ _ _ _ _ _ _ _ ?htZ9 ?hbZ9 ?hpZ9 ?hqZ9 ?hiZ9 ?hjZ9 ?e1Z9 ?e2Z9 ?e3Z9 ?e4Z9 _ _ _ _ _ _ _ _ _ _ _ _ _ _ _ _ _ _ _ _ _ ?k1Z9 ?kFZ9 ?k3Z9 ?kNZ9 ?k5Z9 ?m1Z9 ?m2Z9 ?w1Z9 ?w2Z9 ?w3Z9 ?w4Z9 ?kKZ9 ?kdZ9 ?kuZ9 ?_); (case kFZ9 => assumption); (case kNZ9 => assumption); (case m1Z9 => k_mem); (case m2Z9 => k_mem); (case e1Z9 => with_reducible assumption); (case e2Z9 => with_reducible assumption); (case e3Z9 => with_reducible assumption); (case e4Z9 => with_reducible assumption); (case w1Z9 => assumption); (case w2Z9 => assumption); (case w3Z9 => assumption); (case w4Z9 => assumption); (case htZ9 => omega); (case hbZ9 => omega); (case hpZ9 => omega); (case hqZ9 => omega); (case hiZ9 => omega); (case hjZ9 => omega); (case k1Z9 => k_asm); (case k3Z9 => k_asm); (case k5Z9 => k_asm); (case kKZ9 => first | exact rfl | assumption); (case kdZ9 => ktr_room); (case kuZ9 => ktr_units); intro h9 tk9 v9 F9 N9 st9 o9; (try dsimp only); (try k_fold)))) | (((with_reducible show wpAny _ _ (compareOp CmpOp.NotEq (Value.ref _) (Value.ref _)) _ _ _); k_here; k_dflt ((refine' ne_rows ?kNZ9 ?kFZ9 ?kDZ9 ?u1Z9 ?u2Z9 ?_); (case kFZ9 => assumption); (case kDZ9 => assumption); (case kNZ9 => assumption); (case u1Z9 => (simp only [units_in1, units_deeper, units_caller]; decide)); (case u2Z9 => (simp only [units_in1, units_deeper, units_caller]; decide)); (try dsimp only); (try k_fold)))) | (((with_reducible show wpAny _ _ (call (Value.ref 108) [Value.str _ _, Value.str _ _, Value.int _ _]) _ _ _); ((k_here; k_dflt ((refine' use_cl (lev_claim _ _ _ _ _ _ _ (by rw [leadS_len]; omega) (by rw [leadS_len]; omega) (by omega)) ?k1Z9 ?kFZ9 ?k3Z9 ?kNZ9 ?k5Z9 ?kKZ9 ?kdZ9 ?kuZ9 ?kHZ9 ?_); (case kFZ9 => assumption); (case kNZ9 => assumption); (case k1Z9 => k_asm); (case k3Z9 => k_asm); (case k5Z9 => k_asm); (case kKZ9 => first | exact rfl | assumption); (case kdZ9 => ktr_room); (case kuZ9 => ktr_units); (case kHZ9 => trivial)))); intro v9 h9 tk9 F9 N9 st9 o9; obtain ⟨t9, e9⟩ := o9; subst e9; (try dsimp only); (try k_fold))) | (((with_reducible show wpAny _ _ (call (Value.ref 136) _) _ _ _); k_here; k_dflt ((refine' due_claim _ _ _ _ _ _ _ _ _ _ _ _ _ ?htZ9 ?hbZ9 ?hiZ9 ?hjZ9 ?hsZ9 _ _ _ _ _ _ _ _ _ _ _ _ _ _ _ _ _ _ _ _ _ ?k1Z9 ?kFZ9 ?k3Z9 ?kNZ9 ?k5Z9 ?w1Z9 ?w2Z9 ?kKZ9 ?kdZ9 ?kuZ9 ?_); (case kFZ9 => assumption); (case kNZ9 => assumption); (case w1Z9 => k_mem); (case w2Z9 => k_mem); (case htZ9 => omega); (case hbZ9 => omega); (case hiZ9 => omega); (case hjZ9 => omega); (case hsZ9 => omega); (case k1Z9 => k_asm); (case k3Z9 => k_asm); (case k5Z9 => k_asm); (case kKZ9 => first | exact rfl | assumption); (case kdZ9 => ktr_room); (case kuZ9 => ktr_units); intro h9 tk9 t9 F9 N9; (try dsimp only); (try k_fold)))) | (((with_reducible show wpAny _ _ (call (Value.ref 52) _) _ _ _); k_here; k_dflt ((refine' indent_use _ _ _ _ _ _ ?kpZ9 ?kqZ9 ?ksZ9 _ _ _ _ _ _ _ _ _ _ _ _ _ _ _ _ _ _ _ _ _ ?k1Z9 ?kFZ9 ?k3Z9 ?kNZ9 ?k5Z9 ?w1Z9 ?kKZ9 ?kdZ9 ?kuZ9 ?_); (case kFZ9 => assumption); (case kNZ9 => assumption); (case w1Z9 => assumption); (case kpZ9 => omega); (case kqZ9 => omega); (case ksZ9 => omega); (case k1Z9 => k_asm); (case k3Z9 => k_asm); (case k5Z9 => k_asm); (case kKZ9 => first | exact rfl | assumption); (case kdZ9 => ktr_room); (case kuZ9 => ktr_units); intro t9 h9 tk9 F9 N9; (try dsimp only); (try k_fold)))) | (((with_reducible show wpAny _ _ (call (Value.builtin "len") [Value.ref _]) _ _ _); k_here; k_dflt ((rename News _ _ _ _ => lN'); (refine' kst_len lN' ?kmZ9 ?keZ9 ?kfZ9 ?_); (case kmZ9 => k_mem); (case keZ9 => assumption); (case kfZ9 => omega); (try dsimp only); (try k_fold)))) | (((with_reducible show wpAny _ _ (call (Value.type _) [Value.int _ _]) _ _ _); k_here; k_dflt ((rename Fr _ _ _ _ => lF'); (rename News _ _ _ _ => lN'); (refine' range_led lF' lN' ?_); clear lF' lN'; intro r9 h9 tk9 t9 u9 v9 F9 N9; (try dsimp only); (try k_fold)))) | ((k_here; (with_reducible show wpAny _ _ (call (Value.type _) [Value.ref _]) _ _ _); (rename IsRange _ _ _ _ _ _ _ _ => rgX); (with_unfolding_all refine' list_step ?k0Z9 ?k1Z9 ?k2Z9 ?k3Z9 ?k4Z9 ?k5Z9 ?k6Z9 ?_; (case k0Z9 => rfl); (case k1Z9 => k_asm); (case k2Z9 => k_asm); (case k3Z9 => exact rgX); (case k4Z9 => exact small_two (by omega) (by omega)); (case k5Z9 => exact range_two (by omega)); (case k6Z9 => omega)); intro _ _ _ _ _ _ _ l1 _; (try k_lt l1))) | ((k_here; (with_reducible show wpAny _ _ (subscriptTail _ (Expr.Slice none (some _) none _) _ _) _ _ _); (with_reducible rename Fr _ _ _ _ => F'); (with_reducible rename News _ _ _ _ => N'); (refine slice_none (s := ⟨_, _, _, _, _⟩) F' N' ?_ (hsz := ?hszZ9)); (case hszZ9 => (rw [sizeLine_eq]; omega)); intro _ _ _ _ _)) | ((k_here; k_openite; first | (refine ite_pos ?hxZ9 ?_; (case hxZ9 => first | with_reducible assumption | (simp only [decide_eq_true_eq, decide_eq_false_iff_not, Bool.not_eq_true', Bool.not_eq_false', bne_iff_ne, ne_eq]; omega))) | (refine ite_neg ?hxZ9 ?_; (case hxZ9 => first | with_reducible assumption | (simp only [decide_eq_true_eq, decide_eq_false_iff_not, Bool.not_eq_true', Bool.not_eq_false', bne_iff_ne, ne_eq, Bool.not_eq_true, Decidable.not_not]; omega))) | (refine ite_b (fun hc => ?_) (fun hc => ?_) <;> (try simp only [decide_eq_true_eq, decide_eq_false_iff_not, Bool.not_eq_true', Bool.not_eq_false', bne_iff_ne, ne_eq, bne_eq_false_iff_eq, Decidable.not_not, Int.not_lt, Int.not_le] at hc)))) | (fail_if_success (with_reducible show wpAny _ _ (eval (PySem.Expr.ListComp _ _ _ _) _) _ _ _)); (fail_if_success (with_reducible show LCp.SrcLP _ _ _ _ _ _ _ _ _ _ _ _ _ _ _)); (fail_if_success (with_reducible show wpAny _ _ (call (Value.ref _) _) _ _ _)); (fail_if_success (with_reducible show LCg.CompSrc _ _ _ _ _ _ _ _ _ _ _ _ _ _)); (fail_if_success (with_reducible show wpAny _ _ (storeName _ _ _) _ _ _)); (fail_if_success (with_reducible show LCg.CompEnd _ _ _ _ _ _ _ _ _ _ _ _ _ _)); (fail_if_success (with_reducible show wpAny _ _ (exec (Stmt.For _ _ _ _ _) _) _ _ _)); (fail_if_success (with_reducible show wpAny _ _ (pyIter _) _ _ _)); first | (k_unfold; (try dsimp only)) | walk1 | (dsimp only; walk1) | (leave1; try dsimp only) | fail "no step"))
  (rename Fr _ _ _ _ => F5; with_unfolding_all refine' For_invVF F5 ?k1 ?k2 ?_; (case k1 => exact rfl); (case k2 => exact rfl); k_whole)
  (repeat' (first | ((k_here; (with_reducible show wpAny _ _ (subscriptTail _ _ (Value.ref _) (Value.int _ _)) _ _ _); k_dflt (refine' item_at ?k1Z9 ?k2Z9 ?k3Z9 ?k4Z9 ?_ ?k6Z9; (case k1Z9 => exact News.isList (by k_asm) (by k_mem)); (case k4Z9 => with_reducible assumption); (case k2Z9 => omega); (case k3Z9 => omega); (case k6Z9 => with_unfolding_all rfl); k_whole))) | (((with_reducible show wpAny _ _ (call (Value.ref 129) _) _ _ _); k_here; k_dflt ((refine' ways_claim _ _ _ _ _ _ _ _ _ _ _ _ _ _ _ _ _ _ _ ?htZ9 ?hbZ9 ?hpZ9 ?hqZ9 ?hiZ9 ?hjZ9 ?e1Z9 ?e2Z9 ?e3Z9 ?e4Z9 _ _ _ _ _ _ _ _ _ _ _ _ _ _ _ _ _ _ _ _ _ ?k1Z9 ?kFZ9 ?k3Z9 ?kNZ9 ?k5Z9 ?m1Z9 ?m2Z9 ?w1Z9 ?w2Z9 ?w3Z9 ?w4Z9 ?kKZ9 ?kdZ9 ?kuZ9 ?_); (case kFZ9 => assumption); (case kNZ9 => assumption); (case m1Z9 => k_mem); (case m2Z9 => k_mem); (case e1Z9 => with_reducible assumption); (case e2Z9 => with_reducible assumption); (case e3Z9 => with_reducible assumption); (case e4Z9 => with_reducible assumption); (case w1Z9 => assumption); (case w2Z9 => assumption); (case w3Z9 => assumption); (case w4Z9 => assumption); (case htZ9 => omega); (case hbZ9 => omega); (case hpZ9 => omega); (case hqZ9 => omega); (case hiZ9 => omega); (case hjZ9 => omega); (case k1Z9 => k_asm); (case k3Z9 => k_asm); (case k5Z9 => k_asm); (case kKZ9 => first | exact rfl | assumption); (case kdZ9 => ktr_room); (case kuZ9 => ktr_units); intro h9 tk9 v9 F9 N9 st9 o9; (try dsimp only); (try k_fold)))) | (((with_reducible show wpAny _ _ (compareOp CmpOp.NotEq (Value.ref _) (Value.ref _)) _ _ _); k_here; k_dflt ((refine' ne_rows ?kNZ9 ?kFZ9 ?kDZ9 ?u1Z9 ?u2Z9 ?_); (case kFZ9 => assumption); (case kDZ9 => assumption); (case kNZ9 => assumption); (case u1Z9 => (simp only [units_in1, units_deeper, units_caller]; decide)); (case u2Z9 => (simp only [units_in1, units_deeper, units_caller]; decide)); (try dsimp only); (try k_fold)))) | (((with_reducible show wpAny _ _ (call (Value.ref 108) [Value.str _ _, Value.str _ _, Value.int _ _]) _ _ _); ((k_here; k_dflt ((refine' use_cl (lev_claim _ _ _ _ _ _ _ (by rw [leadS_len]; omega) (by rw [leadS_len]; omega) (by omega)) ?k1Z9 ?kFZ9 ?k3Z9 ?kNZ9 ?k5Z9 ?kKZ9 ?kdZ9 ?kuZ9 ?kHZ9 ?_); (case kFZ9 => assumption); (case kNZ9 => assumption); (case k1Z9 => k_asm); (case k3Z9 => k_asm); (case k5Z9 => k_asm); (case kKZ9 => first | exact rfl | assumption); (case kdZ9 => ktr_room); (case kuZ9 => ktr_units); (case kHZ9 => trivial)))); intro v9 h9 tk9 F9 N9 st9 o9; obtain ⟨t9, e9⟩ := o9; subst e9; (try dsimp only); (try k_fold))) | (((with_reducible show wpAny _ _ (call (Value.ref 136) _) _ _ _); k_here; k_dflt ((refine' due_claim _ _ _ _ _ _ _ _ _ _ _ _ _ ?htZ9 ?hbZ9 ?hiZ9 ?hjZ9 ?hsZ9 _ _ _ _ _ _ _ _ _ _ _ _ _ _ _ _ _ _ _ _ _ ?k1Z9 ?kFZ9 ?k3Z9 ?kNZ9 ?k5Z9 ?w1Z9 ?w2Z9 ?kKZ9 ?kdZ9 ?kuZ9 ?_); (case kFZ9 => assumption); (case kNZ9 => assumption); (case w1Z9 => k_mem); (case w2Z9 => k_mem); (case htZ9 => omega); (case hbZ9 => omega); (case hiZ9 => omega); (case hjZ9 => omega); (case hsZ9 => omega); (case k1Z9 => k_asm); (case k3Z9 => k_asm); (case k5Z9 => k_asm); (case kKZ9 => first | exact rfl | assumption); (case kdZ9 => ktr_room); (case kuZ9 => ktr_units); intro h9 tk9 t9 F9 N9; (try dsimp only); (try k_fold)))) | (((with_reducible show wpAny _ _ (call (Value.ref 52) _) _ _ _); k_here; k_dflt ((refine' indent_use _ _ _ _ _ _ ?kpZ9 ?kqZ9 ?ksZ9 _ _ _ _ _ _ _ _ _ _ _ _ _ _ _ _ _ _ _ _ _ ?k1Z9 ?kFZ9 ?k3Z9 ?kNZ9 ?k5Z9 ?w1Z9 ?kKZ9 ?kdZ9 ?kuZ9 ?_); (case kFZ9 => assumption); (case kNZ9 => assumption); (case w1Z9 => assumption); (case kpZ9 => omega); (case kqZ9 => omega); (case ksZ9 => omega); (case k1Z9 => k_asm); (case k3Z9 => k_asm); (case k5Z9 => k_asm); (case kKZ9 => first | exact rfl | assumption); (case kdZ9 => ktr_room); (case kuZ9 => ktr_units); intro t9 h9 tk9 F9 N9; (try dsimp only); (try k_fold)))) | (((with_reducible show wpAny _ _ (call (Value.builtin "len") [Value.ref _]) _ _ _); k_here; k_dflt ((rename News _ _ _ _ => lN'); (refine' kst_len lN' ?kmZ9 ?keZ9 ?kfZ9 ?_); (case kmZ9 => k_mem); (case keZ9 => assumption); (case kfZ9 => omega); (try dsimp only); (try k_fold)))) | (((with_reducible show wpAny _ _ (call (Value.type _) [Value.int _ _]) _ _ _); k_here; k_dflt ((rename Fr _ _ _ _ => lF'); (rename News _ _ _ _ => lN'); (refine' range_led lF' lN' ?_); clear lF' lN'; intro r9 h9 tk9 t9 u9 v9 F9 N9; (try dsimp only); (try k_fold)))) | ((k_here; (with_reducible show wpAny _ _ (call (Value.type _) [Value.ref _]) _ _ _); (rename IsRange _ _ _ _ _ _ _ _ => rgX); (with_unfolding_all refine' list_step ?k0Z9 ?k1Z9 ?k2Z9 ?k3Z9 ?k4Z9 ?k5Z9 ?k6Z9 ?_; (case k0Z9 => rfl); (case k1Z9 => k_asm); (case k2Z9 => k_asm); (case k3Z9 => exact rgX); (case k4Z9 => exact small_two (by omega) (by omega)); (case k5Z9 => exact range_two (by omega)); (case k6Z9 => omega)); intro _ _ _ _ _ _ _ l1 _; (try k_lt l1))) | ((k_here; (with_reducible show wpAny _ _ (subscriptTail _ (Expr.Slice none (some _) none _) _ _) _ _ _); (with_reducible rename Fr _ _ _ _ => F'); (with_reducible rename News _ _ _ _ => N'); (refine slice_none (s := ⟨_, _, _, _, _⟩) F' N' ?_ (hsz := ?hszZ9)); (case hszZ9 => (rw [sizeLine_eq]; omega)); intro _ _ _ _ _)) | ((k_here; k_openite; first | (refine ite_pos ?hxZ9 ?_; (case hxZ9 => first | with_reducible assumption | (simp only [decide_eq_true_eq, decide_eq_false_iff_not, Bool.not_eq_true', Bool.not_eq_false', bne_iff_ne, ne_eq]; omega))) | (refine ite_neg ?hxZ9 ?_; (case hxZ9 => first | with_reducible assumption | (simp only [decide_eq_true_eq, decide_eq_false_iff_not, Bool.not_eq_true', Bool.not_eq_false', bne_iff_ne, ne_eq, Bool.not_eq_true, Decidable.not_not]; omega))) | (refine ite_b (fun hc => ?_) (fun hc => ?_) <;> (try simp only [decide_eq_true_eq, decide_eq_false_iff_not, Bool.not_eq_true', Bool.not_eq_false', bne_iff_ne, ne_eq, bne_eq_false_iff_eq, Decidable.not_not, Int.not_lt, Int.not_le] at hc)))) | (fail_if_success (with_reducible show wpAny _ _ (eval (PySem.Expr.ListComp _ _ _ _) _) _ _ _)); (fail_if_success (with_reducible show LCp.SrcLP _ _ _ _ _ _ _ _ _ _ _ _ _ _ _)); (fail_if_success (with_reducible show wpAny _ _ (call (Value.ref _) _) _ _ _)); (fail_if_success (with_reducible show LCg.CompSrc _ _ _ _ _ _ _ _ _ _ _ _ _ _)); (fail_if_success (with_reducible show wpAny _ _ (storeName _ _ _) _ _ _)); (fail_if_success (with_reducible show LCg.CompEnd _ _ _ _ _ _ _ _ _ _ _ _ _ _)); (fail_if_success (with_reducible show wpAny _ _ (exec (Stmt.For _ _ _ _ _) _) _ _ _)); (fail_if_success (with_reducible show wpAny _ _ (pyIter _) _ _ _)); first | (k_unfold; (try dsimp only)) | walk1 | (dsimp only; walk1) | (leave1; try dsimp only) | fail "no step"))
  (rename Fr _ _ _ _ => F9; rename News _ _ _ _ => N9)
  have N10 := kst_newsOf N9 (l' := (cellsL s1.heap.objs.size o1 o2 o3 o4 o5 o6 ++ R) ++ own) (fun z hz => .tail _ hz)
  k_dflt (refine' kst_range (n := i.toNat) (σ := Unit) (fun _ => (cellsL s1.heap.objs.size o1 o2 o3 o4 o5 o6 ++ R) ++ own) (fun _ => []) (fun _ => True) [PySem.Str.ofString "k"] (fun _ _ => True) () rfl (N9 _ (.head _)).1 (small_0 (by omega) (by omega)) (range_to (by omega)) F9 N10 trivial ?hkk2 trivial ?kt2 ?kd2)
  case hkk2 => exact fun p hp => by cases hp
  case kd2 =>
    clear F9 N9 N10
    intro _ u2 h tk _ _ F6 N6
    (try dsimp only at F6 N6)
    (try k_fold)
    iterate 12 (try ((fail_if_success (with_reducible show InvEndN _ _ _ _ _ _ _)); ((first | ((k_here; (with_reducible show wpAny _ _ (subscriptTail _ _ (Value.ref _) (Value.int _ _)) _ _ _); k_dflt (refine' item_at ?k1Z9 ?k2Z9 ?k3Z9 ?k4Z9 ?_ ?k6Z9; (case k1Z9 => exact News.isList (by k_asm) (by k_mem)); (case k4Z9 => with_reducible assumption); (case k2Z9 => omega); (case k3Z9 => omega); (case k6Z9 => with_unfolding_all rfl); k_whole))) | (((with_reducible show wpAny _ _ (call (Value.ref 129) _) _ _ _); k_here; k_dflt ((refine' ways_claim _ _ _ _ _ _ _ _ _ _ _ _ _ _ _ _ _ _ _ ?htZ9 ?hbZ9 ?hpZ9 ?hqZ9 ?hiZ9 ?hjZ9 ?e1Z9 ?e2Z9 ?e3Z9 ?e4Z9 _ _ _ _ _ _ _ _ _ _ _ _ _ _ _ _ _ _ _ _ _ ?k1Z9 ?kFZ9 ?k3Z9 ?kNZ9 ?k5Z9 ?m1Z9 ?m2Z9 ?w1Z9 ?w2Z9 ?w3Z9 ?w4Z9 ?kKZ9 ?kdZ9 ?kuZ9 ?_); (case kFZ9 => assumption); (case kNZ9 => assumption); (case m1Z9 => k_mem); (case m2Z9 => k_mem); (case e1Z9 => with_reducible assumption); (case e2Z9 => with_reducible assumption); (case e3Z9 => with_reducible assumption); (case e4Z9 => with_reducible assumption); (case w1Z9 => assumption); (case w2Z9 => assumption); (case w3Z9 => assumption); (case w4Z9 => assumption); (case htZ9 => omega); (case hbZ9 => omega); (case hpZ9 => omega); (case hqZ9 => omega); (case hiZ9 => omega); (case hjZ9 => omega); (case k1Z9 => k_asm); (case k3Z9 => k_asm); (case k5Z9 => k_asm); (case kKZ9 => first | exact rfl | assumption); (case kdZ9 => ktr_room); (case kuZ9 => ktr_units); intro h9 tk9 v9 F9 N9 st9 o9; (try dsimp only); (try k_fold)))) | (((with_reducible show wpAny _ _ (compareOp CmpOp.NotEq (Value.ref _) (Value.ref _)) _ _ _); k_here; k_dflt ((refine' ne_rows ?kNZ9 ?kFZ9 ?kDZ9 ?u1Z9 ?u2Z9 ?_); (case kFZ9 => assumption); (case kDZ9 => assumption); (case kNZ9 => assumption); (case u1Z9 => (simp only [units_in1, units_deeper, units_caller]; decide)); (case u2Z9 => (simp only [units_in1, units_deeper, units_caller]; decide)); (try dsimp only); (try k_fold)))) | (((with_reducible show wpAny _ _ (call (Value.ref 108) [Value.str _ _, Value.str _ _, Value.int _ _]) _ _ _); ((k_here; k_dflt ((refine' use_cl (lev_claim _ _ _ _ _ _ _ (by rw [leadS_len]; omega) (by rw [leadS_len]; omega) (by omega)) ?k1Z9 ?kFZ9 ?k3Z9 ?kNZ9 ?k5Z9 ?kKZ9 ?kdZ9 ?kuZ9 ?kHZ9 ?_); (case kFZ9 => assumption); (case kNZ9 => assumption); (case k1Z9 => k_asm); (case k3Z9 => k_asm); (case k5Z9 => k_asm); (case kKZ9 => first | exact rfl | assumption); (case kdZ9 => ktr_room); (case kuZ9 => ktr_units); (case kHZ9 => trivial)))); intro v9 h9 tk9 F9 N9 st9 o9; obtain ⟨t9, e9⟩ := o9; subst e9; (try dsimp only); (try k_fold))) | (((with_reducible show wpAny _ _ (call (Value.ref 136) _) _ _ _); k_here; k_dflt ((refine' due_claim _ _ _ _ _ _ _ _ _ _ _ _ _ ?htZ9 ?hbZ9 ?hiZ9 ?hjZ9 ?hsZ9 _ _ _ _ _ _ _ _ _ _ _ _ _ _ _ _ _ _ _ _ _ ?k1Z9 ?kFZ9 ?k3Z9 ?kNZ9 ?k5Z9 ?w1Z9 ?w2Z9 ?kKZ9 ?kdZ9 ?kuZ9 ?_); (case kFZ9 => assumption); (case kNZ9 => assumption); (case w1Z9 => k_mem); (case w2Z9 => k_mem); (case htZ9 => omega); (case hbZ9 => omega); (case hiZ9 => omega); (case hjZ9 => omega); (case hsZ9 => omega); (case k1Z9 => k_asm); (case k3Z9 => k_asm); (case k5Z9 => k_asm); (case kKZ9 => first | exact rfl | assumption); (case kdZ9 => ktr_room); (case kuZ9 => ktr_units); intro h9 tk9 t9 F9 N9; (try dsimp only); (try k_fold)))) | (((with_reducible show wpAny _ _ (call (Value.ref 52) _) _ _ _); k_here; k_dflt ((refine' indent_use _ _ _ _ _ _ ?kpZ9 ?kqZ9 ?ksZ9 _ _ _ _ _ _ _ _ _ _ _ _ _ _ _ _ _ _ _ _ _ ?k1Z9 ?kFZ9 ?k3Z9 ?kNZ9 ?k5Z9 ?w1Z9 ?kKZ9 ?kdZ9 ?kuZ9 ?_); (case kFZ9 => assumption); (case kNZ9 => assumption); (case w1Z9 => assumption); (case kpZ9 => omega); (case kqZ9 => omega); (case ksZ9 => omega); (case k1Z9 => k_asm); (case k3Z9 => k_asm); (case k5Z9 => k_asm); (case kKZ9 => first | exact rfl | assumption); (case kdZ9 => ktr_room); (case kuZ9 => ktr_units); intro t9 h9 tk9 F9 N9; (try dsimp only); (try k_fold)))) | (((with_reducible show wpAny _ _ (call (Value.builtin "len") [Value.ref _]) _ _ _); k_here; k_dflt ((rename News _ _ _ _ => lN'); (refine' kst_len lN' ?kmZ9 ?keZ9 ?kfZ9 ?_); (case kmZ9 => k_mem); (case keZ9 => assumption); (case kfZ9 => omega); (try dsimp only); (try k_fold)))) | (((with_reducible show wpAny _ _ (call (Value.type _) [Value.int _ _]) _ _ _); k_here; k_dflt ((rename Fr _ _ _ _ => lF'); (rename News _ _ _ _ => lN'); (refine' range_led lF' lN' ?_); clear lF' lN'; intro r9 h9 tk9 t9 u9 v9 F9 N9; (try dsimp only); (try k_fold)))) | ((k_here; (with_reducible show wpAny _ _ (call (Value.type _) [Value.ref _]) _ _ _); (rename IsRange _ _ _ _ _ _ _ _ => rgX); (with_unfolding_all refine' list_step ?k0Z9 ?k1Z9 ?k2Z9 ?k3Z9 ?k4Z9 ?k5Z9 ?k6Z9 ?_; (case k0Z9 => rfl); (case k1Z9 => k_asm); (case k2Z9 => k_asm); (case k3Z9 => exact rgX); (case k4Z9 => exact small_two (by omega) (by omega)); (case k5Z9 => exact range_two (by omega)); (case k6Z9 => omega)); intro _ _ _ _ _ _ _ l1 _; (try k_lt l1))) | ((k_here; (with_reducible show wpAny _ _ (subscriptTail _ (Expr.Slice none (some _) none _) _ _) _ _ _); (with_reducible rename Fr _ _ _ _ => F'); (with_reducible rename News _ _ _ _ => N'); (refine slice_none (s := ⟨_, _, _, _, _⟩) F' N' ?_ (hsz := ?hszZ9)); (case hszZ9 => (rw [sizeLine_eq]; omega)); intro _ _ _ _ _)) | ((k_here; k_openite; first | (refine ite_pos ?hxZ9 ?_; (case hxZ9 => first | with_reducible assumption | (simp only [decide_eq_true_eq, decide_eq_false_iff_not, Bool.not_eq_true', Bool.not_eq_false', bne_iff_ne, ne_eq]; omega))) | (refine ite_neg ?hxZ9 ?_; (case hxZ9 => first | with_reducible assumption | (simp only [decide_eq_true_eq, decide_eq_false_iff_not, Bool.not_eq_true', Bool.not_eq_false', bne_iff_ne, ne_eq, Bool.not_eq_true, Decidable.not_not]; omega))) | (refine ite_b (fun hc => ?_) (fun hc => ?_) <;> (try simp only [decide_eq_true_eq, decide_eq_false_iff_not, Bool.not_eq_true', Bool.not_eq_false', bne_iff_ne, ne_eq, bne_eq_false_iff_eq, Decidable.not_not, Int.not_lt, Int.not_le] at hc)))) | (k_unfold; (try dsimp only)) | walk1 | (dsimp only; walk1)))))
    refine' kst_end () ?eF ?eN ?en ?eo rfl trivial ?ek ?er trivial
    case eF => assumption
    case eN => assumption
    case en => exact fun z hz => List.mem_append_left _ hz
    case eo => exact fun z hz => List.mem_append_right _ hz
    case ek => (intro p hp; cases hp)
    case er => (intro z h1 h2 h3; simp only [List.contains_cons, List.contains_nil, Bool.or_false, Bool.or_eq_false_iff, beq_eq_false_iff_ne, ne_eq] at h3; simp only [h1, h3, if_false, kstB, List.contains_cons, List.contains_nil, beq_iff_eq, Bool.or_eq_true, Bool.false_eq_true, or_self, false_or, or_false])
  clear F9 N9 N10
  intro _ pre2 j tj u2 h tk own2 hj hpre2 hoff2 _ _ F6 N6
  dsimp only [kstB] at F6
  (try dsimp only at N6)
  have hj0 : 0 ≤ j ∧ j < i := by omega
  have N6e := N6
  dsimp only [cellsL, List.cons_append, List.nil_append] at N6e
  (try k_fold)
  (repeat' (first | ((k_here; (with_reducible show wpAny _ _ (subscriptTail _ _ (Value.ref _) (Value.int _ _)) _ _ _); k_dflt (refine' item_at ?k1Z9 ?k2Z9 ?k3Z9 ?k4Z9 ?_ ?k6Z9; (case k1Z9 => exact News.isList (by k_asm) (by k_mem)); (case k4Z9 => with_reducible assumption); (case k2Z9 => omega); (case k3Z9 => omega); (case k6Z9 => with_unfolding_all rfl); k_whole))) | (((with_reducible show wpAny _ _ (call (Value.ref 129) _) _ _ _); k_here; k_dflt ((refine' ways_claim _ _ _ _ _ _ _ _ _ _ _ _ _ _ _ _ _ _ _ ?htZ9 ?hbZ9 ?hpZ9 ?hqZ9 ?hiZ9 ?hjZ9 ?e1Z9 ?e2Z9 ?e3Z9 ?e4Z9 _ _ _ _ _ _ _ _ _ _ _ _ _ _ _ _ _ _ _ _ _ ?k1Z9 ?kFZ9 ?k3Z9 ?kNZ9 ?k5Z9 ?m1Z9 ?m2Z9 ?w1Z9 ?w2Z9 ?w3Z9 ?w4Z9 ?kKZ9 ?kdZ9 ?kuZ9 ?_); (case kFZ9 => assumption); (case kNZ9 => assumption); (case m1Z9 => k_mem); (case m2Z9 => k_mem); (case e1Z9 => with_reducible assumption); (case e2Z9 => with_reducible assumption); (case e3Z9 => with_reducible assumption); (case e4Z9 => with_reducible assumption); (case w1Z9 => assumption); (case w2Z9 => assumption); (case w3Z9 => assumption); (case w4Z9 => assumption); (case htZ9 => omega); (case hbZ9 => omega); (case hpZ9 => omega); (case hqZ9 => omega); (case hiZ9 => omega); (case hjZ9 => omega); (case k1Z9 => k_asm); (case k3Z9 => k_asm); (case k5Z9 => k_asm); (case kKZ9 => first | exact rfl | assumption); (case kdZ9 => ktr_room); (case kuZ9 => ktr_units); intro h9 tk9 v9 F9 N9 st9 o9; (try dsimp only); (try k_fold)))) | (((with_reducible show wpAny _ _ (compareOp CmpOp.NotEq (Value.ref _) (Value.ref _)) _ _ _); k_here; k_dflt ((refine' ne_rows ?kNZ9 ?kFZ9 ?kDZ9 ?u1Z9 ?u2Z9 ?_); (case kFZ9 => assumption); (case kDZ9 => assumption); (case kNZ9 => assumption); (case u1Z9 => (simp only [units_in1, units_deeper, units_caller]; decide)); (case u2Z9 => (simp only [units_in1, units_deeper, units_caller]; decide)); (try dsimp only); (try k_fold)))) | (((with_reducible show wpAny _ _ (call (Value.ref 108) [Value.str _ _, Value.str _ _, Value.int _ _]) _ _ _); ((k_here; k_dflt ((refine' use_cl (lev_claim _ _ _ _ _ _ _ (by rw [leadS_len]; omega) (by rw [leadS_len]; omega) (by omega)) ?k1Z9 ?kFZ9 ?k3Z9 ?kNZ9 ?k5Z9 ?kKZ9 ?kdZ9 ?kuZ9 ?kHZ9 ?_); (case kFZ9 => assumption); (case kNZ9 => assumption); (case k1Z9 => k_asm); (case k3Z9 => k_asm); (case k5Z9 => k_asm); (case kKZ9 => first | exact rfl | assumption); (case kdZ9 => ktr_room); (case kuZ9 => ktr_units); (case kHZ9 => trivial)))); intro v9 h9 tk9 F9 N9 st9 o9; obtain ⟨t9, e9⟩ := o9; subst e9; (try dsimp only); (try k_fold))) | (((with_reducible show wpAny _ _ (call (Value.ref 136) _) _ _ _); k_here; k_dflt ((refine' due_claim _ _ _ _ _ _ _ _ _ _ _ _ _ ?htZ9 ?hbZ9 ?hiZ9 ?hjZ9 ?hsZ9 _ _ _ _ _ _ _ _ _ _ _ _ _ _ _ _ _ _ _ _ _ ?k1Z9 ?kFZ9 ?k3Z9 ?kNZ9 ?k5Z9 ?w1Z9 ?w2Z9 ?kKZ9 ?kdZ9 ?kuZ9 ?_); (case kFZ9 => assumption); (case kNZ9 => assumption); (case w1Z9 => k_mem); (case w2Z9 => k_mem); (case htZ9 => omega); (case hbZ9 => omega); (case hiZ9 => omega); (case hjZ9 => omega); (case hsZ9 => omega); (case k1Z9 => k_asm); (case k3Z9 => k_asm); (case k5Z9 => k_asm); (case kKZ9 => first | exact rfl | assumption); (case kdZ9 => ktr_room); (case kuZ9 => ktr_units); intro h9 tk9 t9 F9 N9; (try dsimp only); (try k_fold)))) | (((with_reducible show wpAny _ _ (call (Value.ref 52) _) _ _ _); k_here; k_dflt ((refine' indent_use _ _ _ _ _ _ ?kpZ9 ?kqZ9 ?ksZ9 _ _ _ _ _ _ _ _ _ _ _ _ _ _ _ _ _ _ _ _ _ ?k1Z9 ?kFZ9 ?k3Z9 ?kNZ9 ?k5Z9 ?w1Z9 ?kKZ9 ?kdZ9 ?kuZ9 ?_); (case kFZ9 => assumption); (case kNZ9 => assumption); (case w1Z9 => assumption); (case kpZ9 => omega); (case kqZ9 => omega); (case ksZ9 => omega); (case k1Z9 => k_asm); (case k3Z9 => k_asm); (case k5Z9 => k_asm); (case kKZ9 => first | exact rfl | assumption); (case kdZ9 => ktr_room); (case kuZ9 => ktr_units); intro t9 h9 tk9 F9 N9; (try dsimp only); (try k_fold)))) | (((with_reducible show wpAny _ _ (call (Value.builtin "len") [Value.ref _]) _ _ _); k_here; k_dflt ((rename News _ _ _ _ => lN'); (refine' kst_len lN' ?kmZ9 ?keZ9 ?kfZ9 ?_); (case kmZ9 => k_mem); (case keZ9 => assumption); (case kfZ9 => omega); (try dsimp only); (try k_fold)))) | (((with_reducible show wpAny _ _ (call (Value.type _) [Value.int _ _]) _ _ _); k_here; k_dflt ((rename Fr _ _ _ _ => lF'); (rename News _ _ _ _ => lN'); (refine' range_led lF' lN' ?_); clear lF' lN'; intro r9 h9 tk9 t9 u9 v9 F9 N9; (try dsimp only); (try k_fold)))) | ((k_here; (with_reducible show wpAny _ _ (call (Value.type _) [Value.ref _]) _ _ _); (rename IsRange _ _ _ _ _ _ _ _ => rgX); (with_unfolding_all refine' list_step ?k0Z9 ?k1Z9 ?k2Z9 ?k3Z9 ?k4Z9 ?k5Z9 ?k6Z9 ?_; (case k0Z9 => rfl); (case k1Z9 => k_asm); (case k2Z9 => k_asm); (case k3Z9 => exact rgX); (case k4Z9 => exact small_two (by omega) (by omega)); (case k5Z9 => exact range_two (by omega)); (case k6Z9 => omega)); intro _ _ _ _ _ _ _ l1 _; (try k_lt l1))) | ((k_here; (with_reducible show wpAny _ _ (subscriptTail _ (Expr.Slice none (some _) none _) _ _) _ _ _); (with_reducible rename Fr _ _ _ _ => F'); (with_reducible rename News _ _ _ _ => N'); (refine slice_none (s := ⟨_, _, _, _, _⟩) F' N' ?_ (hsz := ?hszZ9)); (case hszZ9 => (rw [sizeLine_eq]; omega)); intro _ _ _ _ _)) | ((k_here; k_openite; first | (refine ite_pos ?hxZ9 ?_; (case hxZ9 => first | with_reducible assumption | (simp only [decide_eq_true_eq, decide_eq_false_iff_not, Bool.not_eq_true', Bool.not_eq_false', bne_iff_ne, ne_eq]; omega))) | (refine ite_neg ?hxZ9 ?_; (case hxZ9 => first | with_reducible assumption | (simp only [decide_eq_true_eq, decide_eq_false_iff_not, Bool.not_eq_true', Bool.not_eq_false', bne_iff_ne, ne_eq, Bool.not_eq_true, Decidable.not_not]; omega))) | (refine ite_b (fun hc => ?_) (fun hc => ?_) <;> (try simp only [decide_eq_true_eq, decide_eq_false_iff_not, Bool.not_eq_true', Bool.not_eq_false', bne_iff_ne, ne_eq, bne_eq_false_iff_eq, Decidable.not_not, Int.not_lt, Int.not_le] at hc)))) | (fail_if_success (with_reducible show wpAny _ _ (eval (PySem.Expr.ListComp _ _ _ _) _) _ _ _)); (fail_if_success (with_reducible show LCp.SrcLP _ _ _ _ _ _ _ _ _ _ _ _ _ _ _)); (fail_if_success (with_reducible show wpAny _ _ (call (Value.ref _) _) _ _ _)); (fail_if_success (with_reducible show LCg.CompSrc _ _ _ _ _ _ _ _ _ _ _ _ _ _)); (fail_if_success (with_reducible show wpAny _ _ (storeName _ _ _) _ _ _)); (fail_if_success (with_reducible show LCg.CompEnd _ _ _ _ _ _ _ _ _ _ _ _ _ _)); (fail_if_success (with_reducible show wpAny _ _ (exec (Stmt.For _ _ _ _ _) _) _ _ _)); (fail_if_success (with_reducible show wpAny _ _ (pyIter _) _ _ _)); first | (k_unfold; (try dsimp only)) | walk1 | (dsimp only; walk1) | (leave1; try dsimp only) | fail "no step"))
  (rename Fr _ _ _ _ => F7; with_unfolding_all refine' For_invVF F7 ?k1 ?k2 ?_; (case k1 => exact rfl); (case k2 => exact rfl); k_whole)
  (repeat' (first | ((k_here; (with_reducible show wpAny _ _ (subscriptTail _ _ (Value.ref _) (Value.int _ _)) _ _ _); k_dflt (refine' item_at ?k1Z9 ?k2Z9 ?k3Z9 ?k4Z9 ?_ ?k6Z9; (case k1Z9 => exact News.isList (by k_asm) (by k_mem)); (case k4Z9 => with_reducible assumption); (case k2Z9 => omega); (case k3Z9 => omega); (case k6Z9 => with_unfolding_all rfl); k_whole))) | (((with_reducible show wpAny _ _ (call (Value.ref 129) _) _ _ _); k_here; k_dflt ((refine' ways_claim _ _ _ _ _ _ _ _ _ _ _ _ _ _ _ _ _ _ _ ?htZ9 ?hbZ9 ?hpZ9 ?hqZ9 ?hiZ9 ?hjZ9 ?e1Z9 ?e2Z9 ?e3Z9 ?e4Z9 _ _ _ _ _ _ _ _ _ _ _ _ _ _ _ _ _ _ _ _ _ ?k1Z9 ?kFZ9 ?k3Z9 ?kNZ9 ?k5Z9 ?m1Z9 ?m2Z9 ?w1Z9 ?w2Z9 ?w3Z9 ?w4Z9 ?kKZ9 ?kdZ9 ?kuZ9 ?_); (case kFZ9 => assumption); (case kNZ9 => assumption); (case m1Z9 => k_mem); (case m2Z9 => k_mem); (case e1Z9 => with_reducible assumption); (case e2Z9 => with_reducible assumption); (case e3Z9 => with_reducible assumption); (case e4Z9 => with_reducible assumption); (case w1Z9 => assumption); (case w2Z9 => assumption); (case w3Z9 => assumption); (case w4Z9 => assumption); (case htZ9 => omega); (case hbZ9 => omega); (case hpZ9 => omega); (case hqZ9 => omega); (case hiZ9 => omega); (case hjZ9 => omega); (case k1Z9 => k_asm); (case k3Z9 => k_asm); (case k5Z9 => k_asm); (case kKZ9 => first | exact rfl | assumption); (case kdZ9 => ktr_room); (case kuZ9 => ktr_units); intro h9 tk9 v9 F9 N9 st9 o9; (try dsimp only); (try k_fold)))) | (((with_reducible show wpAny _ _ (compareOp CmpOp.NotEq (Value.ref _) (Value.ref _)) _ _ _); k_here; k_dflt ((refine' ne_rows ?kNZ9 ?kFZ9 ?kDZ9 ?u1Z9 ?u2Z9 ?_); (case kFZ9 => assumption); (case kDZ9 => assumption); (case kNZ9 => assumption); (case u1Z9 => (simp only [units_in1, units_deeper, units_caller]; decide)); (case u2Z9 => (simp only [units_in1, units_deeper, units_caller]; decide)); (try dsimp only); (try k_fold)))) | (((with_reducible show wpAny _ _ (call (Value.ref 108) [Value.str _ _, Value.str _ _, Value.int _ _]) _ _ _); ((k_here; k_dflt ((refine' use_cl (lev_claim _ _ _ _ _ _ _ (by rw [leadS_len]; omega) (by rw [leadS_len]; omega) (by omega)) ?k1Z9 ?kFZ9 ?k3Z9 ?kNZ9 ?k5Z9 ?kKZ9 ?kdZ9 ?kuZ9 ?kHZ9 ?_); (case kFZ9 => assumption); (case kNZ9 => assumption); (case k1Z9 => k_asm); (case k3Z9 => k_asm); (case k5Z9 => k_asm); (case kKZ9 => first | exact rfl | assumption); (case kdZ9 => ktr_room); (case kuZ9 => ktr_units); (case kHZ9 => trivial)))); intro v9 h9 tk9 F9 N9 st9 o9; obtain ⟨t9, e9⟩ := o9; subst e9; (try dsimp only); (try k_fold))) | (((with_reducible show wpAny _ _ (call (Value.ref 136) _) _ _ _); k_here; k_dflt ((refine' due_claim _ _ _ _ _ _ _ _ _ _ _ _ _ ?htZ9 ?hbZ9 ?hiZ9 ?hjZ9 ?hsZ9 _ _ _ _ _ _ _ _ _ _ _ _ _ _ _ _ _ _ _ _ _ ?k1Z9 ?kFZ9 ?k3Z9 ?kNZ9 ?k5Z9 ?w1Z9 ?w2Z9 ?kKZ9 ?kdZ9 ?kuZ9 ?_); (case kFZ9 => assumption); (case kNZ9 => assumption); (case w1Z9 => k_mem); (case w2Z9 => k_mem); (case htZ9 => omega); (case hbZ9 => omega); (case hiZ9 => omega); (case hjZ9 => omega); (case hsZ9 => omega); (case k1Z9 => k_asm); (case k3Z9 => k_asm); (case k5Z9 => k_asm); (case kKZ9 => first | exact rfl | assumption); (case kdZ9 => ktr_room); (case kuZ9 => ktr_units); intro h9 tk9 t9 F9 N9; (try dsimp only); (try k_fold)))) | (((with_reducible show wpAny _ _ (call (Value.ref 52) _) _ _ _); k_here; k_dflt ((refine' indent_use _ _ _ _ _ _ ?kpZ9 ?kqZ9 ?ksZ9 _ _ _ _ _ _ _ _ _ _ _ _ _ _ _ _ _ _ _ _ _ ?k1Z9 ?kFZ9 ?k3Z9 ?kNZ9 ?k5Z9 ?w1Z9 ?kKZ9 ?kdZ9 ?kuZ9 ?_); (case kFZ9 => assumption); (case kNZ9 => assumption); (case w1Z9 => assumption); (case kpZ9 => omega); (case kqZ9 => omega); (case ksZ9 => omega); (case k1Z9 => k_asm); (case k3Z9 => k_asm); (case k5Z9 => k_asm); (case kKZ9 => first | exact rfl | assumption); (case kdZ9 => ktr_room); (case kuZ9 => ktr_units); intro t9 h9 tk9 F9 N9; (try dsimp only); (try k_fold)))) | (((with_reducible show wpAny _ _ (call (Value.builtin "len") [Value.ref _]) _ _ _); k_here; k_dflt ((rename News _ _ _ _ => lN'); (refine' kst_len lN' ?kmZ9 ?keZ9 ?kfZ9 ?_); (case kmZ9 => k_mem); (case keZ9 => assumption); (case kfZ9 => omega); (try dsimp only); (try k_fold)))) | (((with_reducible show wpAny _ _ (call (Value.type _) [Value.int _ _]) _ _ _); k_here; k_dflt ((rename Fr _ _ _ _ => lF'); (rename News _ _ _ _ => lN'); (refine' range_led lF' lN' ?_); clear lF' lN'; intro r9 h9 tk9 t9 u9 v9 F9 N9; (try dsimp only); (try k_fold)))) | ((k_here; (with_reducible show wpAny _ _ (call (Value.type _) [Value.ref _]) _ _ _); (rename IsRange _ _ _ _ _ _ _ _ => rgX); (with_unfolding_all refine' list_step ?k0Z9 ?k1Z9 ?k2Z9 ?k3Z9 ?k4Z9 ?k5Z9 ?k6Z9 ?_; (case k0Z9 => rfl); (case k1Z9 => k_asm); (case k2Z9 => k_asm); (case k3Z9 => exact rgX); (case k4Z9 => exact small_two (by omega) (by omega)); (case k5Z9 => exact range_two (by omega)); (case k6Z9 => omega)); intro _ _ _ _ _ _ _ l1 _; (try k_lt l1))) | ((k_here; (with_reducible show wpAny _ _ (subscriptTail _ (Expr.Slice none (some _) none _) _ _) _ _ _); (with_reducible rename Fr _ _ _ _ => F'); (with_reducible rename News _ _ _ _ => N'); (refine slice_none (s := ⟨_, _, _, _, _⟩) F' N' ?_ (hsz := ?hszZ9)); (case hszZ9 => (rw [sizeLine_eq]; omega)); intro _ _ _ _ _)) | ((k_here; k_openite; first | (refine ite_pos ?hxZ9 ?_; (case hxZ9 => first | with_reducible assumption | (simp only [decide_eq_true_eq, decide_eq_false_iff_not, Bool.not_eq_true', Bool.not_eq_false', bne_iff_ne, ne_eq]; omega))) | (refine ite_neg ?hxZ9 ?_; (case hxZ9 => first | with_reducible assumption | (simp only [decide_eq_true_eq, decide_eq_false_iff_not, Bool.not_eq_true', Bool.not_eq_false', bne_iff_ne, ne_eq, Bool.not_eq_true, Decidable.not_not]; omega))) | (refine ite_b (fun hc => ?_) (fun hc => ?_) <;> (try simp only [decide_eq_true_eq, decide_eq_false_iff_not, Bool.not_eq_true', Bool.not_eq_false', bne_iff_ne, ne_eq, bne_eq_false_iff_eq, Decidable.not_not, Int.not_lt, Int.not_le] at hc)))) | (fail_if_success (with_reducible show wpAny _ _ (eval (PySem.Expr.ListComp _ _ _ _) _) _ _ _)); (fail_if_success (with_reducible show LCp.SrcLP _ _ _ _ _ _ _ _ _ _ _ _ _ _ _)); (fail_if_success (with_reducible show wpAny _ _ (call (Value.ref _) _) _ _ _)); (fail_if_success (with_reducible show LCg.CompSrc _ _ _ _ _ _ _ _ _ _ _ _ _ _)); (fail_if_success (with_reducible show wpAny _ _ (storeName _ _ _) _ _ _)); (fail_if_success (with_reducible show LCg.CompEnd _ _ _ _ _ _ _ _ _ _ _ _ _ _)); (fail_if_success (with_reducible show wpAny _ _ (exec (Stmt.For _ _ _ _ _) _) _ _ _)); (fail_if_success (with_reducible show wpAny _ _ (pyIter _) _ _ _)); first | (k_unfold; (try dsimp only)) | walk1 | (dsimp only; walk1) | (leave1; try dsimp only) | fail "no step"))
  clear N6e
  k_dflt (refine' kst_range (n := (toldL ns).length) (σ := Unit) (fun _ => ((cellsL s1.heap.objs.size o1 o2 o3 o4 o5 o6 ++ R) ++ own) ++ own2) (fun _ => []) (fun _ => True) [] (fun _ _ => True) () rfl (N6 _ (List.mem_append_left _ (List.mem_append_left _ (List.mem_append_right _ hB.b2.rng)))).1 (small_0 (by omega) (by omega)) (range_to rfl) F7 N6 trivial ?hkk3 trivial ?kt3 ?kd3)
  case hkk3 => exact fun p hp => by cases hp
  case kd3 =>
    clear F7 N6
    intro _ u3 h tk _ _ F8 N8
    (try dsimp only at F8 N8)
    (try k_fold)
    iterate 12 (try ((fail_if_success (with_reducible show InvEndN _ _ _ _ _ _ _)); ((first | ((k_here; (with_reducible show wpAny _ _ (subscriptTail _ _ (Value.ref _) (Value.int _ _)) _ _ _); k_dflt (refine' item_at ?k1Z9 ?k2Z9 ?k3Z9 ?k4Z9 ?_ ?k6Z9; (case k1Z9 => exact News.isList (by k_asm) (by k_mem)); (case k4Z9 => with_reducible assumption); (case k2Z9 => omega); (case k3Z9 => omega); (case k6Z9 => with_unfolding_all rfl); k_whole))) | (((with_reducible show wpAny _ _ (call (Value.ref 129) _) _ _ _); k_here; k_dflt ((refine' ways_claim _ _ _ _ _ _ _ _ _ _ _ _ _ _ _ _ _ _ _ ?htZ9 ?hbZ9 ?hpZ9 ?hqZ9 ?hiZ9 ?hjZ9 ?e1Z9 ?e2Z9 ?e3Z9 ?e4Z9 _ _ _ _ _ _ _ _ _ _ _ _ _ _ _ _ _ _ _ _ _ ?k1Z9 ?kFZ9 ?k3Z9 ?kNZ9 ?k5Z9 ?m1Z9 ?m2Z9 ?w1Z9 ?w2Z9 ?w3Z9 ?w4Z9 ?kKZ9 ?kdZ9 ?kuZ9 ?_); (case kFZ9 => assumption); (case kNZ9 => assumption); (case m1Z9 => k_mem); (case m2Z9 => k_mem); (case e1Z9 => with_reducible assumption); (case e2Z9 => with_reducible assumption); (case e3Z9 => with_reducible assumption); (case e4Z9 => with_reducible assumption); (case w1Z9 => assumption); (case w2Z9 => assumption); (case w3Z9 => assumption); (case w4Z9 => assumption); (case htZ9 => omega); (case hbZ9 => omega); (case hpZ9 => omega); (case hqZ9 => omega); (case hiZ9 => omega); (case hjZ9 => omega); (case k1Z9 => k_asm); (case k3Z9 => k_asm); (case k5Z9 => k_asm); (case kKZ9 => first | exact rfl | assumption); (case kdZ9 => ktr_room); (case kuZ9 => ktr_units); intro h9 tk9 v9 F9 N9 st9 o9; (try dsimp only); (try k_fold)))) | (((with_reducible show wpAny _ _ (compareOp CmpOp.NotEq (Value.ref _) (Value.ref _)) _ _ _); k_here; k_dflt ((refine' ne_rows ?kNZ9 ?kFZ9 ?kDZ9 ?u1Z9 ?u2Z9 ?_); (case kFZ9 => assumption); (case kDZ9 => assumption); (case kNZ9 => assumption); (case u1Z9 => (simp only [units_in1, units_deeper, units_caller]; decide)); (case u2Z9 => (simp only [units_in1, units_deeper, units_caller]; decide)); (try dsimp only); (try k_fold)))) | (((with_reducible show wpAny _ _ (call (Value.ref 108) [Value.str _ _, Value.str _ _, Value.int _ _]) _ _ _); ((k_here; k_dflt ((refine' use_cl (lev_claim _ _ _ _ _ _ _ (by rw [leadS_len]; omega) (by rw [leadS_len]; omega) (by omega)) ?k1Z9 ?kFZ9 ?k3Z9 ?kNZ9 ?k5Z9 ?kKZ9 ?kdZ9 ?kuZ9 ?kHZ9 ?_); (case kFZ9 => assumption); (case kNZ9 => assumption); (case k1Z9 => k_asm); (case k3Z9 => k_asm); (case k5Z9 => k_asm); (case kKZ9 => first | exact rfl | assumption); (case kdZ9 => ktr_room); (case kuZ9 => ktr_units); (case kHZ9 => trivial)))); intro v9 h9 tk9 F9 N9 st9 o9; obtain ⟨t9, e9⟩ := o9; subst e9; (try dsimp only); (try k_fold))) | (((with_reducible show wpAny _ _ (call (Value.ref 136) _) _ _ _); k_here; k_dflt ((refine' due_claim _ _ _ _ _ _ _ _ _ _ _ _ _ ?htZ9 ?hbZ9 ?hiZ9 ?hjZ9 ?hsZ9 _ _ _ _ _ _ _ _ _ _ _ _ _ _ _ _ _ _ _ _ _ ?k1Z9 ?kFZ9 ?k3Z9 ?kNZ9 ?k5Z9 ?w1Z9 ?w2Z9 ?kKZ9 ?kdZ9 ?kuZ9 ?_); (case kFZ9 => assumption); (case kNZ9 => assumption); (case w1Z9 => k_mem); (case w2Z9 => k_mem); (case htZ9 => omega); (case hbZ9 => omega); (case hiZ9 => omega); (case hjZ9 => omega); (case hsZ9 => omega); (case k1Z9 => k_asm); (case k3Z9 => k_asm); (case k5Z9 => k_asm); (case kKZ9 => first | exact rfl | assumption); (case kdZ9 => ktr_room); (case kuZ9 => ktr_units); intro h9 tk9 t9 F9 N9; (try dsimp only); (try k_fold)))) | (((with_reducible show wpAny _ _ (call (Value.ref 52) _) _ _ _); k_here; k_dflt ((refine' indent_use _ _ _ _ _ _ ?kpZ9 ?kqZ9 ?ksZ9 _ _ _ _ _ _ _ _ _ _ _ _ _ _ _ _ _ _ _ _ _ ?k1Z9 ?kFZ9 ?k3Z9 ?kNZ9 ?k5Z9 ?w1Z9 ?kKZ9 ?kdZ9 ?kuZ9 ?_); (case kFZ9 => assumption); (case kNZ9 => assumption); (case w1Z9 => assumption); (case kpZ9 => omega); (case kqZ9 => omega); (case ksZ9 => omega); (case k1Z9 => k_asm); (case k3Z9 => k_asm); (case k5Z9 => k_asm); (case kKZ9 => first | exact rfl | assumption); (case kdZ9 => ktr_room); (case kuZ9 => ktr_units); intro t9 h9 tk9 F9 N9; (try dsimp only); (try k_fold)))) | (((with_reducible show wpAny _ _ (call (Value.builtin "len") [Value.ref _]) _ _ _); k_here; k_dflt ((rename News _ _ _ _ => lN'); (refine' kst_len lN' ?kmZ9 ?keZ9 ?kfZ9 ?_); (case kmZ9 => k_mem); (case keZ9 => assumption); (case kfZ9 => omega); (try dsimp only); (try k_fold)))) | (((with_reducible show wpAny _ _ (call (Value.type _) [Value.int _ _]) _ _ _); k_here; k_dflt ((rename Fr _ _ _ _ => lF'); (rename News _ _ _ _ => lN'); (refine' range_led lF' lN' ?_); clear lF' lN'; intro r9 h9 tk9 t9 u9 v9 F9 N9; (try dsimp only); (try k_fold)))) | ((k_here; (with_reducible show wpAny _ _ (call (Value.type _) [Value.ref _]) _ _ _); (rename IsRange _ _ _ _ _ _ _ _ => rgX); (with_unfolding_all refine' list_step ?k0Z9 ?k1Z9 ?k2Z9 ?k3Z9 ?k4Z9 ?k5Z9 ?k6Z9 ?_; (case k0Z9 => rfl); (case k1Z9 => k_asm); (case k2Z9 => k_asm); (case k3Z9 => exact rgX); (case k4Z9 => exact small_two (by omega) (by omega)); (case k5Z9 => exact range_two (by omega)); (case k6Z9 => omega)); intro _ _ _ _ _ _ _ l1 _; (try k_lt l1))) | ((k_here; (with_reducible show wpAny _ _ (subscriptTail _ (Expr.Slice none (some _) none _) _ _) _ _ _); (with_reducible rename Fr _ _ _ _ => F'); (with_reducible rename News _ _ _ _ => N'); (refine slice_none (s := ⟨_, _, _, _, _⟩) F' N' ?_ (hsz := ?hszZ9)); (case hszZ9 => (rw [sizeLine_eq]; omega)); intro _ _ _ _ _)) | ((k_here; k_openite; first | (refine ite_pos ?hxZ9 ?_; (case hxZ9 => first | with_reducible assumption | (simp only [decide_eq_true_eq, decide_eq_false_iff_not, Bool.not_eq_true', Bool.not_eq_false', bne_iff_ne, ne_eq]; omega))) | (refine ite_neg ?hxZ9 ?_; (case hxZ9 => first | with_reducible assumption | (simp only [decide_eq_true_eq, decide_eq_false_iff_not, Bool.not_eq_true', Bool.not_eq_false', bne_iff_ne, ne_eq, Bool.not_eq_true, Decidable.not_not]; omega))) | (refine ite_b (fun hc => ?_) (fun hc => ?_) <;> (try simp only [decide_eq_true_eq, decide_eq_false_iff_not, Bool.not_eq_true', Bool.not_eq_false', bne_iff_ne, ne_eq, bne_eq_false_iff_eq, Decidable.not_not, Int.not_lt, Int.not_le] at hc)))) | (k_unfold; (try dsimp only)) | walk1 | (dsimp only; walk1)))))
    refine' kst_end () ?eF ?eN ?en ?eo rfl trivial ?ek ?er trivial
    case eF => assumption
    case eN => assumption
    case en => exact fun z hz => List.mem_append_left _ hz
    case eo => exact fun z hz => List.mem_append_right _ hz
    case ek => (intro p hp; cases hp)
    case er => (intro z h1 h2 h3; simp only [List.contains_cons, List.contains_nil, Bool.or_false, Bool.or_eq_false_iff, beq_eq_false_iff_ne, ne_eq] at h3; simp only [h1, h3, if_false, kstB, List.contains_cons, List.contains_nil, beq_iff_eq, Bool.or_eq_true, Bool.false_eq_true, or_self, false_or, or_false])
  clear F7 N6
  intro _ pre3 k tk3 u3 h tk own3 hk hpre3 hoff3 _ _ F8 N8
  dsimp only [kstB] at F8
  (try dsimp only at N8)
  have hk0 : 0 ≤ k ∧ k < (toldL ns).length := by omega
  refine hideG fun Gx hG => ?_
  obtain ⟨p, hli⟩ : ∃ p, (toldL ns)[i.toNat]? = some p := ⟨_, List.getElem?_eq_getElem (by omega)⟩
  obtain ⟨q, hlk⟩ : ∃ q, (toldL ns)[k.toNat]? = some q := ⟨_, List.getElem?_eq_getElem (by omega)⟩
  obtain ⟨e, hlj⟩ : ∃ e, (toldL ns)[j.toNat]? = some e := ⟨_, List.getElem?_eq_getElem (by omega)⟩
  have hp5 := told_lt hli
  have hq5 := told_lt hlk
  have he5 := told_lt hlj
  obtain ⟨_, hfi, Ri, ui, ci, rfl, mri, hIi⟩ := AllIn.get hFa.2 (dueRows_get hli)
  obtain ⟨_, hfk, Rk, uk, ck, rfl, mrk, hIk⟩ := AllIn.get hFa.2 (dueRows_get hlk)
  obtain ⟨ta, hik⟩ := ints_at hIi (dueRow_get hlk)
  obtain ⟨tb, hkj⟩ := ints_at hIk (dueRow_get hlj)
  obtain ⟨tc, hij⟩ := ints_at hIi (dueRow_get hlj)
  obtain ⟨_, hwi, Wi, vi, wi, rfl, mwi, hAi⟩ := AllIn.get hWa.2 (List.getElem?_range (n := (toldL ns).length) (i := i.toNat) (by omega))
  obtain ⟨_, hwk, Wk, vk, wk, rfl, mwk, hAk⟩ := AllIn.get hWa.2 (List.getElem?_range (n := (toldL ns).length) (i := k.toNat) (by omega))
  obtain ⟨_, hwj, Wj, vj, wj, rfl, mwj, hAj⟩ := AllIn.get hWa.2 (List.getElem?_range (n := (toldL ns).length) (i := j.toNat) (by omega))
  obtain ⟨_, g1, D1, u1, c1, rfl, n1, I1⟩ := AllIn.get hAi (List.getElem?_range (n := (toldL ns).length) (i := k.toNat) (by omega))
  obtain ⟨_, g2, D2, u2', c2, rfl, n2, I2⟩ := AllIn.get hAk (List.getElem?_range (n := (toldL ns).length) (i := j.toNat) (by omega))
  obtain ⟨_, g3, D3, u3', c3, rfl, n3, I3⟩ := AllIn.get hAj (List.getElem?_range (n := (toldL ns).length) (i := k.toNat) (by omega))
  obtain ⟨_, g4, D4, u4', c4, rfl, n4, I4⟩ := AllIn.get hAk (List.getElem?_range (n := (toldL ns).length) (i := i.toNat) (by omega))
  refine hG ?_
  clear hG
  have hs8 : ∀ z ∈ [(Wa, W.listOf (List.toArray ws) cW), (Wi, W.listOf (List.toArray vi) wi), (Wk, W.listOf (List.toArray vk) wk), (Wj, W.listOf (List.toArray vj) wj), (D1, W.listOf (List.toArray u1) c1), (D2, W.listOf (List.toArray u2') c2), (D3, W.listOf (List.toArray u3') c3), (D4, W.listOf (List.toArray u4') c4)], z ∈ R := sub_cons (hWa.1) (sub_cons (mwi) (sub_cons (mwk) (sub_cons (mwj) (sub_cons (n1) (sub_cons (n2) (sub_cons (n3) (sub_cons (n4) (sub_nil))))))))
  have N9 := kst_newsOf N8 (l' := (Fa, W.listOf (List.toArray fs) cF) :: (Ri, W.listOf (List.toArray ui) ci) :: (Rk, W.listOf (List.toArray uk) ck) :: (Wa, W.listOf (List.toArray ws) cW) :: ((((cellsL s1.heap.objs.size o1 o2 o3 o4 o5 o6 ++ R) ++ own) ++ own2) ++ own3)) (sub_cons (List.mem_append_left _ (List.mem_append_left _ (List.mem_append_left _ (List.mem_append_right _ hFa.1)))) (sub_cons (List.mem_append_left _ (List.mem_append_left _ (List.mem_append_left _ (List.mem_append_right _ mri)))) (sub_cons (List.mem_append_left _ (List.mem_append_left _ (List.mem_append_left _ (List.mem_append_right _ mrk)))) (sub_cons (List.mem_append_left _ (List.mem_append_left _ (List.mem_append_left _ (List.mem_append_right _ hWa.1)))) (fun z hz => hz)))))
  dsimp only [cellsL, List.cons_append, List.nil_append] at N9
  (try k_fold)
  iterate 70 (try ((fail_if_success (with_reducible show wpAny _ _ (call (Value.ref _) _) _ _ _)); ((first | ((k_here; (with_reducible show wpAny _ _ (subscriptTail _ _ (Value.ref _) (Value.int _ _)) _ _ _); k_dflt (refine' item_at ?k1Z9 ?k2Z9 ?k3Z9 ?k4Z9 ?_ ?k6Z9; (case k1Z9 => exact News.isList (by k_asm) (by k_mem)); (case k4Z9 => with_reducible assumption); (case k2Z9 => omega); (case k3Z9 => omega); (case k6Z9 => with_unfolding_all rfl); k_whole))) | (((with_reducible show wpAny _ _ (call (Value.ref 129) _) _ _ _); k_here; k_dflt ((refine' ways_claim _ _ _ _ _ _ _ _ _ _ _ _ _ _ _ _ _ _ _ ?htZ9 ?hbZ9 ?hpZ9 ?hqZ9 ?hiZ9 ?hjZ9 ?e1Z9 ?e2Z9 ?e3Z9 ?e4Z9 _ _ _ _ _ _ _ _ _ _ _ _ _ _ _ _ _ _ _ _ _ ?k1Z9 ?kFZ9 ?k3Z9 ?kNZ9 ?k5Z9 ?m1Z9 ?m2Z9 ?w1Z9 ?w2Z9 ?w3Z9 ?w4Z9 ?kKZ9 ?kdZ9 ?kuZ9 ?_); (case kFZ9 => assumption); (case kNZ9 => assumption); (case m1Z9 => k_mem); (case m2Z9 => k_mem); (case e1Z9 => with_reducible assumption); (case e2Z9 => with_reducible assumption); (case e3Z9 => with_reducible assumption); (case e4Z9 => with_reducible assumption); (case w1Z9 => assumption); (case w2Z9 => assumption); (case w3Z9 => assumption); (case w4Z9 => assumption); (case htZ9 => omega); (case hbZ9 => omega); (case hpZ9 => omega); (case hqZ9 => omega); (case hiZ9 => omega); (case hjZ9 => omega); (case k1Z9 => k_asm); (case k3Z9 => k_asm); (case k5Z9 => k_asm); (case kKZ9 => first | exact rfl | assumption); (case kdZ9 => ktr_room); (case kuZ9 => ktr_units); intro h9 tk9 v9 F9 N9 st9 o9; (try dsimp only); (try k_fold)))) | (((with_reducible show wpAny _ _ (compareOp CmpOp.NotEq (Value.ref _) (Value.ref _)) _ _ _); k_here; k_dflt ((refine' ne_rows ?kNZ9 ?kFZ9 ?kDZ9 ?u1Z9 ?u2Z9 ?_); (case kFZ9 => assumption); (case kDZ9 => assumption); (case kNZ9 => assumption); (case u1Z9 => (simp only [units_in1, units_deeper, units_caller]; decide)); (case u2Z9 => (simp only [units_in1, units_deeper, units_caller]; decide)); (try dsimp only); (try k_fold)))) | (((with_reducible show wpAny _ _ (call (Value.ref 108) [Value.str _ _, Value.str _ _, Value.int _ _]) _ _ _); ((k_here; k_dflt ((refine' use_cl (lev_claim _ _ _ _ _ _ _ (by rw [leadS_len]; omega) (by rw [leadS_len]; omega) (by omega)) ?k1Z9 ?kFZ9 ?k3Z9 ?kNZ9 ?k5Z9 ?kKZ9 ?kdZ9 ?kuZ9 ?kHZ9 ?_); (case kFZ9 => assumption); (case kNZ9 => assumption); (case k1Z9 => k_asm); (case k3Z9 => k_asm); (case k5Z9 => k_asm); (case kKZ9 => first | exact rfl | assumption); (case kdZ9 => ktr_room); (case kuZ9 => ktr_units); (case kHZ9 => trivial)))); intro v9 h9 tk9 F9 N9 st9 o9; obtain ⟨t9, e9⟩ := o9; subst e9; (try dsimp only); (try k_fold))) | (((with_reducible show wpAny _ _ (call (Value.ref 136) _) _ _ _); k_here; k_dflt ((refine' due_claim _ _ _ _ _ _ _ _ _ _ _ _ _ ?htZ9 ?hbZ9 ?hiZ9 ?hjZ9 ?hsZ9 _ _ _ _ _ _ _ _ _ _ _ _ _ _ _ _ _ _ _ _ _ ?k1Z9 ?kFZ9 ?k3Z9 ?kNZ9 ?k5Z9 ?w1Z9 ?w2Z9 ?kKZ9 ?kdZ9 ?kuZ9 ?_); (case kFZ9 => assumption); (case kNZ9 => assumption); (case w1Z9 => k_mem); (case w2Z9 => k_mem); (case htZ9 => omega); (case hbZ9 => omega); (case hiZ9 => omega); (case hjZ9 => omega); (case hsZ9 => omega); (case k1Z9 => k_asm); (case k3Z9 => k_asm); (case k5Z9 => k_asm); (case kKZ9 => first | exact rfl | assumption); (case kdZ9 => ktr_room); (case kuZ9 => ktr_units); intro h9 tk9 t9 F9 N9; (try dsimp only); (try k_fold)))) | (((with_reducible show wpAny _ _ (call (Value.ref 52) _) _ _ _); k_here; k_dflt ((refine' indent_use _ _ _ _ _ _ ?kpZ9 ?kqZ9 ?ksZ9 _ _ _ _ _ _ _ _ _ _ _ _ _ _ _ _ _ _ _ _ _ ?k1Z9 ?kFZ9 ?k3Z9 ?kNZ9 ?k5Z9 ?w1Z9 ?kKZ9 ?kdZ9 ?kuZ9 ?_); (case kFZ9 => assumption); (case kNZ9 => assumption); (case w1Z9 => assumption); (case kpZ9 => omega); (case kqZ9 => omega); (case ksZ9 => omega); (case k1Z9 => k_asm); (case k3Z9 => k_asm); (case k5Z9 => k_asm); (case kKZ9 => first | exact rfl | assumption); (case kdZ9 => ktr_room); (case kuZ9 => ktr_units); intro t9 h9 tk9 F9 N9; (try dsimp only); (try k_fold)))) | (((with_reducible show wpAny _ _ (call (Value.builtin "len") [Value.ref _]) _ _ _); k_here; k_dflt ((rename News _ _ _ _ => lN'); (refine' kst_len lN' ?kmZ9 ?keZ9 ?kfZ9 ?_); (case kmZ9 => k_mem); (case keZ9 => assumption); (case kfZ9 => omega); (try dsimp only); (try k_fold)))) | (((with_reducible show wpAny _ _ (call (Value.type _) [Value.int _ _]) _ _ _); k_here; k_dflt ((rename Fr _ _ _ _ => lF'); (rename News _ _ _ _ => lN'); (refine' range_led lF' lN' ?_); clear lF' lN'; intro r9 h9 tk9 t9 u9 v9 F9 N9; (try dsimp only); (try k_fold)))) | ((k_here; (with_reducible show wpAny _ _ (call (Value.type _) [Value.ref _]) _ _ _); (rename IsRange _ _ _ _ _ _ _ _ => rgX); (with_unfolding_all refine' list_step ?k0Z9 ?k1Z9 ?k2Z9 ?k3Z9 ?k4Z9 ?k5Z9 ?k6Z9 ?_; (case k0Z9 => rfl); (case k1Z9 => k_asm); (case k2Z9 => k_asm); (case k3Z9 => exact rgX); (case k4Z9 => exact small_two (by omega) (by omega)); (case k5Z9 => exact range_two (by omega)); (case k6Z9 => omega)); intro _ _ _ _ _ _ _ l1 _; (try k_lt l1))) | ((k_here; (with_reducible show wpAny _ _ (subscriptTail _ (Expr.Slice none (some _) none _) _ _) _ _ _); (with_reducible rename Fr _ _ _ _ => F'); (with_reducible rename News _ _ _ _ => N'); (refine slice_none (s := ⟨_, _, _, _, _⟩) F' N' ?_ (hsz := ?hszZ9)); (case hszZ9 => (rw [sizeLine_eq]; omega)); intro _ _ _ _ _)) | ((k_here; k_openite; first | (refine ite_pos ?hxZ9 ?_; (case hxZ9 => first | with_reducible assumption | (simp only [decide_eq_true_eq, decide_eq_false_iff_not, Bool.not_eq_true', Bool.not_eq_false', bne_iff_ne, ne_eq]; omega))) | (refine ite_neg ?hxZ9 ?_; (case hxZ9 => first | with_reducible assumption | (simp only [decide_eq_true_eq, decide_eq_false_iff_not, Bool.not_eq_true', Bool.not_eq_false', bne_iff_ne, ne_eq, Bool.not_eq_true, Decidable.not_not]; omega))) | (refine ite_b (fun hc => ?_) (fun hc => ?_) <;> (try simp only [decide_eq_true_eq, decide_eq_false_iff_not, Bool.not_eq_true', Bool.not_eq_false', bne_iff_ne, ne_eq, bne_eq_false_iff_eq, Decidable.not_not, Int.not_lt, Int.not_le] at hc)))) | (k_unfold; (try dsimp only)) | walk1 | (dsimp only; walk1)))))
  · k_here
    k_dflt (refine' straight_claim w Wa Wi Wk Wj D1 D2 D3 D4 ws vi vk vj u1 u2' u3' u4' cW wi wk wj c1 c2 c3 c4 _ _ _ _ i k j _ _ _ ?hi ?hk ?hj ?e1 ?e2 ?e3 ?e4 ?e5 ?e6 ?e7 ?i1 ?i2 ?i3 ?i4 _ _ _ _ _ _ _ _ _ _ _ _ _ _ _ _ _ _ _ _ _ ?k1 ?kF ?k3 ?kN ?k5 ?ks ?kK ?kd ?ku ?_)
    case kF => assumption
    case kN => assumption
    case e1 => exact hwi
    case e2 => exact hwk
    case e3 => exact hwj
    case e4 => exact g1
    case e5 => exact g2
    case e6 => exact g3
    case e7 => exact g4
    case i1 => exact I1
    case i2 => exact I2
    case i3 => exact I3
    case i4 => exact I4
    case ks => (intro z hz; have h8 := hs8 z hz; simp only [List.mem_cons, List.mem_append, h8, true_or, or_true])
    case hi => omega
    case hk => omega
    case hj => omega
    case k1 => k_asm
    case k3 => k_asm
    case k5 => k_asm
    case kK => first | exact rfl | assumption
    case kd => ktr_room
    case ku => ktr_units
    intro h9 tk9 F9 N11
    (try dsimp only)
    (try k_fold)
    iterate 3 ((first | ((k_here; (with_reducible show wpAny _ _ (subscriptTail _ _ (Value.ref _) (Value.int _ _)) _ _ _); k_dflt (refine' item_at ?k1Z9 ?k2Z9 ?k3Z9 ?k4Z9 ?_ ?k6Z9; (case k1Z9 => exact News.isList (by k_asm) (by k_mem)); (case k4Z9 => with_reducible assumption); (case k2Z9 => omega); (case k3Z9 => omega); (case k6Z9 => with_unfolding_all rfl); k_whole))) | (((with_reducible show wpAny _ _ (call (Value.ref 129) _) _ _ _); k_here; k_dflt ((refine' ways_claim _ _ _ _ _ _ _ _ _ _ _ _ _ _ _ _ _ _ _ ?htZ9 ?hbZ9 ?hpZ9 ?hqZ9 ?hiZ9 ?hjZ9 ?e1Z9 ?e2Z9 ?e3Z9 ?e4Z9 _ _ _ _ _ _ _ _ _ _ _ _ _ _ _ _ _ _ _ _ _ ?k1Z9 ?kFZ9 ?k3Z9 ?kNZ9 ?k5Z9 ?m1Z9 ?m2Z9 ?w1Z9 ?w2Z9 ?w3Z9 ?w4Z9 ?kKZ9 ?kdZ9 ?kuZ9 ?_); (case kFZ9 => assumption); (case kNZ9 => assumption); (case m1Z9 => k_mem); (case m2Z9 => k_mem); (case e1Z9 => with_reducible assumption); (case e2Z9 => with_reducible assumption); (case e3Z9 => with_reducible assumption); (case e4Z9 => with_reducible assumption); (case w1Z9 => assumption); (case w2Z9 => assumption); (case w3Z9 => assumption); (case w4Z9 => assumption); (case htZ9 => omega); (case hbZ9 => omega); (case hpZ9 => omega); (case hqZ9 => omega); (case hiZ9 => omega); (case hjZ9 => omega); (case k1Z9 => k_asm); (case k3Z9 => k_asm); (case k5Z9 => k_asm); (case kKZ9 => first | exact rfl | assumption); (case kdZ9 => ktr_room); (case kuZ9 => ktr_units); intro h9 tk9 v9 F9 N9 st9 o9; (try dsimp only); (try k_fold)))) | (((with_reducible show wpAny _ _ (compareOp CmpOp.NotEq (Value.ref _) (Value.ref _)) _ _ _); k_here; k_dflt ((refine' ne_rows ?kNZ9 ?kFZ9 ?kDZ9 ?u1Z9 ?u2Z9 ?_); (case kFZ9 => assumption); (case kDZ9 => assumption); (case kNZ9 => assumption); (case u1Z9 => (simp only [units_in1, units_deeper, units_caller]; decide)); (case u2Z9 => (simp only [units_in1, units_deeper, units_caller]; decide)); (try dsimp only); (try k_fold)))) | (((with_reducible show wpAny _ _ (call (Value.ref 108) [Value.str _ _, Value.str _ _, Value.int _ _]) _ _ _); ((k_here; k_dflt ((refine' use_cl (lev_claim _ _ _ _ _ _ _ (by rw [leadS_len]; omega) (by rw [leadS_len]; omega) (by omega)) ?k1Z9 ?kFZ9 ?k3Z9 ?kNZ9 ?k5Z9 ?kKZ9 ?kdZ9 ?kuZ9 ?kHZ9 ?_); (case kFZ9 => assumption); (case kNZ9 => assumption); (case k1Z9 => k_asm); (case k3Z9 => k_asm); (case k5Z9 => k_asm); (case kKZ9 => first | exact rfl | assumption); (case kdZ9 => ktr_room); (case kuZ9 => ktr_units); (case kHZ9 => trivial)))); intro v9 h9 tk9 F9 N9 st9 o9; obtain ⟨t9, e9⟩ := o9; subst e9; (try dsimp only); (try k_fold))) | (((with_reducible show wpAny _ _ (call (Value.ref 136) _) _ _ _); k_here; k_dflt ((refine' due_claim _ _ _ _ _ _ _ _ _ _ _ _ _ ?htZ9 ?hbZ9 ?hiZ9 ?hjZ9 ?hsZ9 _ _ _ _ _ _ _ _ _ _ _ _ _ _ _ _ _ _ _ _ _ ?k1Z9 ?kFZ9 ?k3Z9 ?kNZ9 ?k5Z9 ?w1Z9 ?w2Z9 ?kKZ9 ?kdZ9 ?kuZ9 ?_); (case kFZ9 => assumption); (case kNZ9 => assumption); (case w1Z9 => k_mem); (case w2Z9 => k_mem); (case htZ9 => omega); (case hbZ9 => omega); (case hiZ9 => omega); (case hjZ9 => omega); (case hsZ9 => omega); (case k1Z9 => k_asm); (case k3Z9 => k_asm); (case k5Z9 => k_asm); (case kKZ9 => first | exact rfl | assumption); (case kdZ9 => ktr_room); (case kuZ9 => ktr_units); intro h9 tk9 t9 F9 N9; (try dsimp only); (try k_fold)))) | (((with_reducible show wpAny _ _ (call (Value.ref 52) _) _ _ _); k_here; k_dflt ((refine' indent_use _ _ _ _ _ _ ?kpZ9 ?kqZ9 ?ksZ9 _ _ _ _ _ _ _ _ _ _ _ _ _ _ _ _ _ _ _ _ _ ?k1Z9 ?kFZ9 ?k3Z9 ?kNZ9 ?k5Z9 ?w1Z9 ?kKZ9 ?kdZ9 ?kuZ9 ?_); (case kFZ9 => assumption); (case kNZ9 => assumption); (case w1Z9 => assumption); (case kpZ9 => omega); (case kqZ9 => omega); (case ksZ9 => omega); (case k1Z9 => k_asm); (case k3Z9 => k_asm); (case k5Z9 => k_asm); (case kKZ9 => first | exact rfl | assumption); (case kdZ9 => ktr_room); (case kuZ9 => ktr_units); intro t9 h9 tk9 F9 N9; (try dsimp only); (try k_fold)))) | (((with_reducible show wpAny _ _ (call (Value.builtin "len") [Value.ref _]) _ _ _); k_here; k_dflt ((rename News _ _ _ _ => lN'); (refine' kst_len lN' ?kmZ9 ?keZ9 ?kfZ9 ?_); (case kmZ9 => k_mem); (case keZ9 => assumption); (case kfZ9 => omega); (try dsimp only); (try k_fold)))) | (((with_reducible show wpAny _ _ (call (Value.type _) [Value.int _ _]) _ _ _); k_here; k_dflt ((rename Fr _ _ _ _ => lF'); (rename News _ _ _ _ => lN'); (refine' range_led lF' lN' ?_); clear lF' lN'; intro r9 h9 tk9 t9 u9 v9 F9 N9; (try dsimp only); (try k_fold)))) | ((k_here; (with_reducible show wpAny _ _ (call (Value.type _) [Value.ref _]) _ _ _); (rename IsRange _ _ _ _ _ _ _ _ => rgX); (with_unfolding_all refine' list_step ?k0Z9 ?k1Z9 ?k2Z9 ?k3Z9 ?k4Z9 ?k5Z9 ?k6Z9 ?_; (case k0Z9 => rfl); (case k1Z9 => k_asm); (case k2Z9 => k_asm); (case k3Z9 => exact rgX); (case k4Z9 => exact small_two (by omega) (by omega)); (case k5Z9 => exact range_two (by omega)); (case k6Z9 => omega)); intro _ _ _ _ _ _ _ l1 _; (try k_lt l1))) | ((k_here; (with_reducible show wpAny _ _ (subscriptTail _ (Expr.Slice none (some _) none _) _ _) _ _ _); (with_reducible rename Fr _ _ _ _ => F'); (with_reducible rename News _ _ _ _ => N'); (refine slice_none (s := ⟨_, _, _, _, _⟩) F' N' ?_ (hsz := ?hszZ9)); (case hszZ9 => (rw [sizeLine_eq]; omega)); intro _ _ _ _ _)) | ((k_here; k_openite; first | (refine ite_pos ?hxZ9 ?_; (case hxZ9 => first | with_reducible assumption | (simp only [decide_eq_true_eq, decide_eq_false_iff_not, Bool.not_eq_true', Bool.not_eq_false', bne_iff_ne, ne_eq]; omega))) | (refine ite_neg ?hxZ9 ?_; (case hxZ9 => first | with_reducible assumption | (simp only [decide_eq_true_eq, decide_eq_false_iff_not, Bool.not_eq_true', Bool.not_eq_false', bne_iff_ne, ne_eq, Bool.not_eq_true, Decidable.not_not]; omega))) | (refine ite_b (fun hc => ?_) (fun hc => ?_) <;> (try simp only [decide_eq_true_eq, decide_eq_false_iff_not, Bool.not_eq_true', Bool.not_eq_false', bne_iff_ne, ne_eq, bne_eq_false_iff_eq, Decidable.not_not, Int.not_lt, Int.not_le] at hc)))) | (k_unfold; (try dsimp only)) | walk1 | (dsimp only; walk1)))
    refine ite_neg ?hx ?_
    case hx =>
      rw [wayE_ne (by omega) hli hlk, wayE_ne (by omega) hlk hlj, wayE_ne (by omega) hlj hlk, wayE_ne (by omega) hlk hli, tri_false hp5.1 hp5.2 hq5.1 hq5.2 he5.1 he5.2]
      exact Bool.false_ne_true
    iterate 6 (try ((fail_if_success (with_reducible show InvEndN _ _ _ _ _ _ _)); ((first | ((k_here; (with_reducible show wpAny _ _ (subscriptTail _ _ (Value.ref _) (Value.int _ _)) _ _ _); k_dflt (refine' item_at ?k1Z9 ?k2Z9 ?k3Z9 ?k4Z9 ?_ ?k6Z9; (case k1Z9 => exact News.isList (by k_asm) (by k_mem)); (case k4Z9 => with_reducible assumption); (case k2Z9 => omega); (case k3Z9 => omega); (case k6Z9 => with_unfolding_all rfl); k_whole))) | (((with_reducible show wpAny _ _ (call (Value.ref 129) _) _ _ _); k_here; k_dflt ((refine' ways_claim _ _ _ _ _ _ _ _ _ _ _ _ _ _ _ _ _ _ _ ?htZ9 ?hbZ9 ?hpZ9 ?hqZ9 ?hiZ9 ?hjZ9 ?e1Z9 ?e2Z9 ?e3Z9 ?e4Z9 _ _ _ _ _ _ _ _ _ _ _ _ _ _ _ _ _ _ _ _ _ ?k1Z9 ?kFZ9 ?k3Z9 ?kNZ9 ?k5Z9 ?m1Z9 ?m2Z9 ?w1Z9 ?w2Z9 ?w3Z9 ?w4Z9 ?kKZ9 ?kdZ9 ?kuZ9 ?_); (case kFZ9 => assumption); (case kNZ9 => assumption); (case m1Z9 => k_mem); (case m2Z9 => k_mem); (case e1Z9 => with_reducible assumption); (case e2Z9 => with_reducible assumption); (case e3Z9 => with_reducible assumption); (case e4Z9 => with_reducible assumption); (case w1Z9 => assumption); (case w2Z9 => assumption); (case w3Z9 => assumption); (case w4Z9 => assumption); (case htZ9 => omega); (case hbZ9 => omega); (case hpZ9 => omega); (case hqZ9 => omega); (case hiZ9 => omega); (case hjZ9 => omega); (case k1Z9 => k_asm); (case k3Z9 => k_asm); (case k5Z9 => k_asm); (case kKZ9 => first | exact rfl | assumption); (case kdZ9 => ktr_room); (case kuZ9 => ktr_units); intro h9 tk9 v9 F9 N9 st9 o9; (try dsimp only); (try k_fold)))) | (((with_reducible show wpAny _ _ (compareOp CmpOp.NotEq (Value.ref _) (Value.ref _)) _ _ _); k_here; k_dflt ((refine' ne_rows ?kNZ9 ?kFZ9 ?kDZ9 ?u1Z9 ?u2Z9 ?_); (case kFZ9 => assumption); (case kDZ9 => assumption); (case kNZ9 => assumption); (case u1Z9 => (simp only [units_in1, units_deeper, units_caller]; decide)); (case u2Z9 => (simp only [units_in1, units_deeper, units_caller]; decide)); (try dsimp only); (try k_fold)))) | (((with_reducible show wpAny _ _ (call (Value.ref 108) [Value.str _ _, Value.str _ _, Value.int _ _]) _ _ _); ((k_here; k_dflt ((refine' use_cl (lev_claim _ _ _ _ _ _ _ (by rw [leadS_len]; omega) (by rw [leadS_len]; omega) (by omega)) ?k1Z9 ?kFZ9 ?k3Z9 ?kNZ9 ?k5Z9 ?kKZ9 ?kdZ9 ?kuZ9 ?kHZ9 ?_); (case kFZ9 => assumption); (case kNZ9 => assumption); (case k1Z9 => k_asm); (case k3Z9 => k_asm); (case k5Z9 => k_asm); (case kKZ9 => first | exact rfl | assumption); (case kdZ9 => ktr_room); (case kuZ9 => ktr_units); (case kHZ9 => trivial)))); intro v9 h9 tk9 F9 N9 st9 o9; obtain ⟨t9, e9⟩ := o9; subst e9; (try dsimp only); (try k_fold))) | (((with_reducible show wpAny _ _ (call (Value.ref 136) _) _ _ _); k_here; k_dflt ((refine' due_claim _ _ _ _ _ _ _ _ _ _ _ _ _ ?htZ9 ?hbZ9 ?hiZ9 ?hjZ9 ?hsZ9 _ _ _ _ _ _ _ _ _ _ _ _ _ _ _ _ _ _ _ _ _ ?k1Z9 ?kFZ9 ?k3Z9 ?kNZ9 ?k5Z9 ?w1Z9 ?w2Z9 ?kKZ9 ?kdZ9 ?kuZ9 ?_); (case kFZ9 => assumption); (case kNZ9 => assumption); (case w1Z9 => k_mem); (case w2Z9 => k_mem); (case htZ9 => omega); (case hbZ9 => omega); (case hiZ9 => omega); (case hjZ9 => omega); (case hsZ9 => omega); (case k1Z9 => k_asm); (case k3Z9 => k_asm); (case k5Z9 => k_asm); (case kKZ9 => first | exact rfl | assumption); (case kdZ9 => ktr_room); (case kuZ9 => ktr_units); intro h9 tk9 t9 F9 N9; (try dsimp only); (try k_fold)))) | (((with_reducible show wpAny _ _ (call (Value.ref 52) _) _ _ _); k_here; k_dflt ((refine' indent_use _ _ _ _ _ _ ?kpZ9 ?kqZ9 ?ksZ9 _ _ _ _ _ _ _ _ _ _ _ _ _ _ _ _ _ _ _ _ _ ?k1Z9 ?kFZ9 ?k3Z9 ?kNZ9 ?k5Z9 ?w1Z9 ?kKZ9 ?kdZ9 ?kuZ9 ?_); (case kFZ9 => assumption); (case kNZ9 => assumption); (case w1Z9 => assumption); (case kpZ9 => omega); (case kqZ9 => omega); (case ksZ9 => omega); (case k1Z9 => k_asm); (case k3Z9 => k_asm); (case k5Z9 => k_asm); (case kKZ9 => first | exact rfl | assumption); (case kdZ9 => ktr_room); (case kuZ9 => ktr_units); intro t9 h9 tk9 F9 N9; (try dsimp only); (try k_fold)))) | (((with_reducible show wpAny _ _ (call (Value.builtin "len") [Value.ref _]) _ _ _); k_here; k_dflt ((rename News _ _ _ _ => lN'); (refine' kst_len lN' ?kmZ9 ?keZ9 ?kfZ9 ?_); (case kmZ9 => k_mem); (case keZ9 => assumption); (case kfZ9 => omega); (try dsimp only); (try k_fold)))) | (((with_reducible show wpAny _ _ (call (Value.type _) [Value.int _ _]) _ _ _); k_here; k_dflt ((rename Fr _ _ _ _ => lF'); (rename News _ _ _ _ => lN'); (refine' range_led lF' lN' ?_); clear lF' lN'; intro r9 h9 tk9 t9 u9 v9 F9 N9; (try dsimp only); (try k_fold)))) | ((k_here; (with_reducible show wpAny _ _ (call (Value.type _) [Value.ref _]) _ _ _); (rename IsRange _ _ _ _ _ _ _ _ => rgX); (with_unfolding_all refine' list_step ?k0Z9 ?k1Z9 ?k2Z9 ?k3Z9 ?k4Z9 ?k5Z9 ?k6Z9 ?_; (case k0Z9 => rfl); (case k1Z9 => k_asm); (case k2Z9 => k_asm); (case k3Z9 => exact rgX); (case k4Z9 => exact small_two (by omega) (by omega)); (case k5Z9 => exact range_two (by omega)); (case k6Z9 => omega)); intro _ _ _ _ _ _ _ l1 _; (try k_lt l1))) | ((k_here; (with_reducible show wpAny _ _ (subscriptTail _ (Expr.Slice none (some _) none _) _ _) _ _ _); (with_reducible rename Fr _ _ _ _ => F'); (with_reducible rename News _ _ _ _ => N'); (refine slice_none (s := ⟨_, _, _, _, _⟩) F' N' ?_ (hsz := ?hszZ9)); (case hszZ9 => (rw [sizeLine_eq]; omega)); intro _ _ _ _ _)) | ((k_here; k_openite; first | (refine ite_pos ?hxZ9 ?_; (case hxZ9 => first | with_reducible assumption | (simp only [decide_eq_true_eq, decide_eq_false_iff_not, Bool.not_eq_true', Bool.not_eq_false', bne_iff_ne, ne_eq]; omega))) | (refine ite_neg ?hxZ9 ?_; (case hxZ9 => first | with_reducible assumption | (simp only [decide_eq_true_eq, decide_eq_false_iff_not, Bool.not_eq_true', Bool.not_eq_false', bne_iff_ne, ne_eq, Bool.not_eq_true, Decidable.not_not]; omega))) | (refine ite_b (fun hc => ?_) (fun hc => ?_) <;> (try simp only [decide_eq_true_eq, decide_eq_false_iff_not, Bool.not_eq_true', Bool.not_eq_false', bne_iff_ne, ne_eq, bne_eq_false_iff_eq, Decidable.not_not, Int.not_lt, Int.not_le] at hc)))) | (k_unfold; (try dsimp only)) | walk1 | (dsimp only; walk1)))))
    refine' kst_end () ?eF ?eN ?en ?eo rfl trivial ?ek ?er trivial
    case eF => assumption
    case eN => assumption
    case en => (intro z hz; have h9 := List.mem_append_left own3 hz; exact .tail _ (.tail _ (.tail _ (.tail _ h9))))
    case eo => (intro z hz; have h9 := List.mem_append_right (((cellsL s1.heap.objs.size o1 o2 o3 o4 o5 o6 ++ R) ++ own) ++ own2) hz; exact .tail _ (.tail _ (.tail _ (.tail _ h9))))
    case ek => (intro p hp; cases hp)
    case er => (intro z h1 h2 h3; simp only [List.contains_cons, List.contains_nil, Bool.or_false, Bool.or_eq_false_iff, beq_eq_false_iff_ne, ne_eq] at h3; simp only [h1, h3, if_false, kstB, List.contains_cons, List.contains_nil, beq_iff_eq, Bool.or_eq_true, Bool.false_eq_true, or_self, false_or, or_false])
  · refine ite_neg Bool.false_ne_true ?_
    iterate 6 (try ((fail_if_success (with_reducible show InvEndN _ _ _ _ _ _ _)); ((first | ((k_here; (with_reducible show wpAny _ _ (subscriptTail _ _ (Value.ref _) (Value.int _ _)) _ _ _); k_dflt (refine' item_at ?k1Z9 ?k2Z9 ?k3Z9 ?k4Z9 ?_ ?k6Z9; (case k1Z9 => exact News.isList (by k_asm) (by k_mem)); (case k4Z9 => with_reducible assumption); (case k2Z9 => omega); (case k3Z9 => omega); (case k6Z9 => with_unfolding_all rfl); k_whole))) | (((with_reducible show wpAny _ _ (call (Value.ref 129) _) _ _ _); k_here; k_dflt ((refine' ways_claim _ _ _ _ _ _ _ _ _ _ _ _ _ _ _ _ _ _ _ ?htZ9 ?hbZ9 ?hpZ9 ?hqZ9 ?hiZ9 ?hjZ9 ?e1Z9 ?e2Z9 ?e3Z9 ?e4Z9 _ _ _ _ _ _ _ _ _ _ _ _ _ _ _ _ _ _ _ _ _ ?k1Z9 ?kFZ9 ?k3Z9 ?kNZ9 ?k5Z9 ?m1Z9 ?m2Z9 ?w1Z9 ?w2Z9 ?w3Z9 ?w4Z9 ?kKZ9 ?kdZ9 ?kuZ9 ?_); (case kFZ9 => assumption); (case kNZ9 => assumption); (case m1Z9 => k_mem); (case m2Z9 => k_mem); (case e1Z9 => with_reducible assumption); (case e2Z9 => with_reducible assumption); (case e3Z9 => with_reducible assumption); (case e4Z9 => with_reducible assumption); (case w1Z9 => assumption); (case w2Z9 => assumption); (case w3Z9 => assumption); (case w4Z9 => assumption); (case htZ9 => omega); (case hbZ9 => omega); (case hpZ9 => omega); (case hqZ9 => omega); (case hiZ9 => omega); (case hjZ9 => omega); (case k1Z9 => k_asm); (case k3Z9 => k_asm); (case k5Z9 => k_asm); (case kKZ9 => first | exact rfl | assumption); (case kdZ9 => ktr_room); (case kuZ9 => ktr_units); intro h9 tk9 v9 F9 N9 st9 o9; (try dsimp only); (try k_fold)))) | (((with_reducible show wpAny _ _ (compareOp CmpOp.NotEq (Value.ref _) (Value.ref _)) _ _ _); k_here; k_dflt ((refine' ne_rows ?kNZ9 ?kFZ9 ?kDZ9 ?u1Z9 ?u2Z9 ?_); (case kFZ9 => assumption); (case kDZ9 => assumption); (case kNZ9 => assumption); (case u1Z9 => (simp only [units_in1, units_deeper, units_caller]; decide)); (case u2Z9 => (simp only [units_in1, units_deeper, units_caller]; decide)); (try dsimp only); (try k_fold)))) | (((with_reducible show wpAny _ _ (call (Value.ref 108) [Value.str _ _, Value.str _ _, Value.int _ _]) _ _ _); ((k_here; k_dflt ((refine' use_cl (lev_claim _ _ _ _ _ _ _ (by rw [leadS_len]; omega) (by rw [leadS_len]; omega) (by omega)) ?k1Z9 ?kFZ9 ?k3Z9 ?kNZ9 ?k5Z9 ?kKZ9 ?kdZ9 ?kuZ9 ?kHZ9 ?_); (case kFZ9 => assumption); (case kNZ9 => assumption); (case k1Z9 => k_asm); (case k3Z9 => k_asm); (case k5Z9 => k_asm); (case kKZ9 => first | exact rfl | assumption); (case kdZ9 => ktr_room); (case kuZ9 => ktr_units); (case kHZ9 => trivial)))); intro v9 h9 tk9 F9 N9 st9 o9; obtain ⟨t9, e9⟩ := o9; subst e9; (try dsimp only); (try k_fold))) | (((with_reducible show wpAny _ _ (call (Value.ref 136) _) _ _ _); k_here; k_dflt ((refine' due_claim _ _ _ _ _ _ _ _ _ _ _ _ _ ?htZ9 ?hbZ9 ?hiZ9 ?hjZ9 ?hsZ9 _ _ _ _ _ _ _ _ _ _ _ _ _ _ _ _ _ _ _ _ _ ?k1Z9 ?kFZ9 ?k3Z9 ?kNZ9 ?k5Z9 ?w1Z9 ?w2Z9 ?kKZ9 ?kdZ9 ?kuZ9 ?_); (case kFZ9 => assumption); (case kNZ9 => assumption); (case w1Z9 => k_mem); (case w2Z9 => k_mem); (case htZ9 => omega); (case hbZ9 => omega); (case hiZ9 => omega); (case hjZ9 => omega); (case hsZ9 => omega); (case k1Z9 => k_asm); (case k3Z9 => k_asm); (case k5Z9 => k_asm); (case kKZ9 => first | exact rfl | assumption); (case kdZ9 => ktr_room); (case kuZ9 => ktr_units); intro h9 tk9 t9 F9 N9; (try dsimp only); (try k_fold)))) | (((with_reducible show wpAny _ _ (call (Value.ref 52) _) _ _ _); k_here; k_dflt ((refine' indent_use _ _ _ _ _ _ ?kpZ9 ?kqZ9 ?ksZ9 _ _ _ _ _ _ _ _ _ _ _ _ _ _ _ _ _ _ _ _ _ ?k1Z9 ?kFZ9 ?k3Z9 ?kNZ9 ?k5Z9 ?w1Z9 ?kKZ9 ?kdZ9 ?kuZ9 ?_); (case kFZ9 => assumption); (case kNZ9 => assumption); (case w1Z9 => assumption); (case kpZ9 => omega); (case kqZ9 => omega); (case ksZ9 => omega); (case k1Z9 => k_asm); (case k3Z9 => k_asm); (case k5Z9 => k_asm); (case kKZ9 => first | exact rfl | assumption); (case kdZ9 => ktr_room); (case kuZ9 => ktr_units); intro t9 h9 tk9 F9 N9; (try dsimp only); (try k_fold)))) | (((with_reducible show wpAny _ _ (call (Value.builtin "len") [Value.ref _]) _ _ _); k_here; k_dflt ((rename News _ _ _ _ => lN'); (refine' kst_len lN' ?kmZ9 ?keZ9 ?kfZ9 ?_); (case kmZ9 => k_mem); (case keZ9 => assumption); (case kfZ9 => omega); (try dsimp only); (try k_fold)))) | (((with_reducible show wpAny _ _ (call (Value.type _) [Value.int _ _]) _ _ _); k_here; k_dflt ((rename Fr _ _ _ _ => lF'); (rename News _ _ _ _ => lN'); (refine' range_led lF' lN' ?_); clear lF' lN'; intro r9 h9 tk9 t9 u9 v9 F9 N9; (try dsimp only); (try k_fold)))) | ((k_here; (with_reducible show wpAny _ _ (call (Value.type _) [Value.ref _]) _ _ _); (rename IsRange _ _ _ _ _ _ _ _ => rgX); (with_unfolding_all refine' list_step ?k0Z9 ?k1Z9 ?k2Z9 ?k3Z9 ?k4Z9 ?k5Z9 ?k6Z9 ?_; (case k0Z9 => rfl); (case k1Z9 => k_asm); (case k2Z9 => k_asm); (case k3Z9 => exact rgX); (case k4Z9 => exact small_two (by omega) (by omega)); (case k5Z9 => exact range_two (by omega)); (case k6Z9 => omega)); intro _ _ _ _ _ _ _ l1 _; (try k_lt l1))) | ((k_here; (with_reducible show wpAny _ _ (subscriptTail _ (Expr.Slice none (some _) none _) _ _) _ _ _); (with_reducible rename Fr _ _ _ _ => F'); (with_reducible rename News _ _ _ _ => N'); (refine slice_none (s := ⟨_, _, _, _, _⟩) F' N' ?_ (hsz := ?hszZ9)); (case hszZ9 => (rw [sizeLine_eq]; omega)); intro _ _ _ _ _)) | ((k_here; k_openite; first | (refine ite_pos ?hxZ9 ?_; (case hxZ9 => first | with_reducible assumption | (simp only [decide_eq_true_eq, decide_eq_false_iff_not, Bool.not_eq_true', Bool.not_eq_false', bne_iff_ne, ne_eq]; omega))) | (refine ite_neg ?hxZ9 ?_; (case hxZ9 => first | with_reducible assumption | (simp only [decide_eq_true_eq, decide_eq_false_iff_not, Bool.not_eq_true', Bool.not_eq_false', bne_iff_ne, ne_eq, Bool.not_eq_true, Decidable.not_not]; omega))) | (refine ite_b (fun hc => ?_) (fun hc => ?_) <;> (try simp only [decide_eq_true_eq, decide_eq_false_iff_not, Bool.not_eq_true', Bool.not_eq_false', bne_iff_ne, ne_eq, bne_eq_false_iff_eq, Decidable.not_not, Int.not_lt, Int.not_le] at hc)))) | (k_unfold; (try dsimp only)) | walk1 | (dsimp only; walk1)))))
    refine' kst_end () ?eF ?eN ?en ?eo rfl trivial ?ek ?er trivial
    case eF => assumption
    case eN => assumption
    case en => (intro z hz; have h9 := List.mem_append_left own3 hz; exact .tail _ (.tail _ (.tail _ (.tail _ h9))))
    case eo => (intro z hz; have h9 := List.mem_append_right (((cellsL s1.heap.objs.size o1 o2 o3 o4 o5 o6 ++ R) ++ own) ++ own2) hz; exact .tail _ (.tail _ (.tail _ (.tail _ h9))))
    case ek => (intro p hp; cases hp)
    case er => (intro z h1 h2 h3; simp only [List.contains_cons, List.contains_nil, Bool.or_false, Bool.or_eq_false_iff, beq_eq_false_iff_ne, ne_eq] at h3; simp only [h1, h3, if_false, kstB, List.contains_cons, List.contains_nil, beq_iff_eq, Bool.or_eq_true, Bool.false_eq_true, or_self, false_or, or_false])
  · refine ite_neg Bool.false_ne_true ?_
    iterate 6 (try ((fail_if_success (with_reducible show InvEndN _ _ _ _ _ _ _)); ((first | ((k_here; (with_reducible show wpAny _ _ (subscriptTail _ _ (Value.ref _) (Value.int _ _)) _ _ _); k_dflt (refine' item_at ?k1Z9 ?k2Z9 ?k3Z9 ?k4Z9 ?_ ?k6Z9; (case k1Z9 => exact News.isList (by k_asm) (by k_mem)); (case k4Z9 => with_reducible assumption); (case k2Z9 => omega); (case k3Z9 => omega); (case k6Z9 => with_unfolding_all rfl); k_whole))) | (((with_reducible show wpAny _ _ (call (Value.ref 129) _) _ _ _); k_here; k_dflt ((refine' ways_claim _ _ _ _ _ _ _ _ _ _ _ _ _ _ _ _ _ _ _ ?htZ9 ?hbZ9 ?hpZ9 ?hqZ9 ?hiZ9 ?hjZ9 ?e1Z9 ?e2Z9 ?e3Z9 ?e4Z9 _ _ _ _ _ _ _ _ _ _ _ _ _ _ _ _ _ _ _ _ _ ?k1Z9 ?kFZ9 ?k3Z9 ?kNZ9 ?k5Z9 ?m1Z9 ?m2Z9 ?w1Z9 ?w2Z9 ?w3Z9 ?w4Z9 ?kKZ9 ?kdZ9 ?kuZ9 ?_); (case kFZ9 => assumption); (case kNZ9 => assumption); (case m1Z9 => k_mem); (case m2Z9 => k_mem); (case e1Z9 => with_reducible assumption); (case e2Z9 => with_reducible assumption); (case e3Z9 => with_reducible assumption); (case e4Z9 => with_reducible assumption); (case w1Z9 => assumption); (case w2Z9 => assumption); (case w3Z9 => assumption); (case w4Z9 => assumption); (case htZ9 => omega); (case hbZ9 => omega); (case hpZ9 => omega); (case hqZ9 => omega); (case hiZ9 => omega); (case hjZ9 => omega); (case k1Z9 => k_asm); (case k3Z9 => k_asm); (case k5Z9 => k_asm); (case kKZ9 => first | exact rfl | assumption); (case kdZ9 => ktr_room); (case kuZ9 => ktr_units); intro h9 tk9 v9 F9 N9 st9 o9; (try dsimp only); (try k_fold)))) | (((with_reducible show wpAny _ _ (compareOp CmpOp.NotEq (Value.ref _) (Value.ref _)) _ _ _); k_here; k_dflt ((refine' ne_rows ?kNZ9 ?kFZ9 ?kDZ9 ?u1Z9 ?u2Z9 ?_); (case kFZ9 => assumption); (case kDZ9 => assumption); (case kNZ9 => assumption); (case u1Z9 => (simp only [units_in1, units_deeper, units_caller]; decide)); (case u2Z9 => (simp only [units_in1, units_deeper, units_caller]; decide)); (try dsimp only); (try k_fold)))) | (((with_reducible show wpAny _ _ (call (Value.ref 108) [Value.str _ _, Value.str _ _, Value.int _ _]) _ _ _); ((k_here; k_dflt ((refine' use_cl (lev_claim _ _ _ _ _ _ _ (by rw [leadS_len]; omega) (by rw [leadS_len]; omega) (by omega)) ?k1Z9 ?kFZ9 ?k3Z9 ?kNZ9 ?k5Z9 ?kKZ9 ?kdZ9 ?kuZ9 ?kHZ9 ?_); (case kFZ9 => assumption); (case kNZ9 => assumption); (case k1Z9 => k_asm); (case k3Z9 => k_asm); (case k5Z9 => k_asm); (case kKZ9 => first | exact rfl | assumption); (case kdZ9 => ktr_room); (case kuZ9 => ktr_units); (case kHZ9 => trivial)))); intro v9 h9 tk9 F9 N9 st9 o9; obtain ⟨t9, e9⟩ := o9; subst e9; (try dsimp only); (try k_fold))) | (((with_reducible show wpAny _ _ (call (Value.ref 136) _) _ _ _); k_here; k_dflt ((refine' due_claim _ _ _ _ _ _ _ _ _ _ _ _ _ ?htZ9 ?hbZ9 ?hiZ9 ?hjZ9 ?hsZ9 _ _ _ _ _ _ _ _ _ _ _ _ _ _ _ _ _ _ _ _ _ ?k1Z9 ?kFZ9 ?k3Z9 ?kNZ9 ?k5Z9 ?w1Z9 ?w2Z9 ?kKZ9 ?kdZ9 ?kuZ9 ?_); (case kFZ9 => assumption); (case kNZ9 => assumption); (case w1Z9 => k_mem); (case w2Z9 => k_mem); (case htZ9 => omega); (case hbZ9 => omega); (case hiZ9 => omega); (case hjZ9 => omega); (case hsZ9 => omega); (case k1Z9 => k_asm); (case k3Z9 => k_asm); (case k5Z9 => k_asm); (case kKZ9 => first | exact rfl | assumption); (case kdZ9 => ktr_room); (case kuZ9 => ktr_units); intro h9 tk9 t9 F9 N9; (try dsimp only); (try k_fold)))) | (((with_reducible show wpAny _ _ (call (Value.ref 52) _) _ _ _); k_here; k_dflt ((refine' indent_use _ _ _ _ _ _ ?kpZ9 ?kqZ9 ?ksZ9 _ _ _ _ _ _ _ _ _ _ _ _ _ _ _ _ _ _ _ _ _ ?k1Z9 ?kFZ9 ?k3Z9 ?kNZ9 ?k5Z9 ?w1Z9 ?kKZ9 ?kdZ9 ?kuZ9 ?_); (case kFZ9 => assumption); (case kNZ9 => assumption); (case w1Z9 => assumption); (case kpZ9 => omega); (case kqZ9 => omega); (case ksZ9 => omega); (case k1Z9 => k_asm); (case k3Z9 => k_asm); (case k5Z9 => k_asm); (case kKZ9 => first | exact rfl | assumption); (case kdZ9 => ktr_room); (case kuZ9 => ktr_units); intro t9 h9 tk9 F9 N9; (try dsimp only); (try k_fold)))) | (((with_reducible show wpAny _ _ (call (Value.builtin "len") [Value.ref _]) _ _ _); k_here; k_dflt ((rename News _ _ _ _ => lN'); (refine' kst_len lN' ?kmZ9 ?keZ9 ?kfZ9 ?_); (case kmZ9 => k_mem); (case keZ9 => assumption); (case kfZ9 => omega); (try dsimp only); (try k_fold)))) | (((with_reducible show wpAny _ _ (call (Value.type _) [Value.int _ _]) _ _ _); k_here; k_dflt ((rename Fr _ _ _ _ => lF'); (rename News _ _ _ _ => lN'); (refine' range_led lF' lN' ?_); clear lF' lN'; intro r9 h9 tk9 t9 u9 v9 F9 N9; (try dsimp only); (try k_fold)))) | ((k_here; (with_reducible show wpAny _ _ (call (Value.type _) [Value.ref _]) _ _ _); (rename IsRange _ _ _ _ _ _ _ _ => rgX); (with_unfolding_all refine' list_step ?k0Z9 ?k1Z9 ?k2Z9 ?k3Z9 ?k4Z9 ?k5Z9 ?k6Z9 ?_; (case k0Z9 => rfl); (case k1Z9 => k_asm); (case k2Z9 => k_asm); (case k3Z9 => exact rgX); (case k4Z9 => exact small_two (by omega) (by omega)); (case k5Z9 => exact range_two (by omega)); (case k6Z9 => omega)); intro _ _ _ _ _ _ _ l1 _; (try k_lt l1))) | ((k_here; (with_reducible show wpAny _ _ (subscriptTail _ (Expr.Slice none (some _) none _) _ _) _ _ _); (with_reducible rename Fr _ _ _ _ => F'); (with_reducible rename News _ _ _ _ => N'); (refine slice_none (s := ⟨_, _, _, _, _⟩) F' N' ?_ (hsz := ?hszZ9)); (case hszZ9 => (rw [sizeLine_eq]; omega)); intro _ _ _ _ _)) | ((k_here; k_openite; first | (refine ite_pos ?hxZ9 ?_; (case hxZ9 => first | with_reducible assumption | (simp only [decide_eq_true_eq, decide_eq_false_iff_not, Bool.not_eq_true', Bool.not_eq_false', bne_iff_ne, ne_eq]; omega))) | (refine ite_neg ?hxZ9 ?_; (case hxZ9 => first | with_reducible assumption | (simp only [decide_eq_true_eq, decide_eq_false_iff_not, Bool.not_eq_true', Bool.not_eq_false', bne_iff_ne, ne_eq, Bool.not_eq_true, Decidable.not_not]; omega))) | (refine ite_b (fun hc => ?_) (fun hc => ?_) <;> (try simp only [decide_eq_true_eq, decide_eq_false_iff_not, Bool.not_eq_true', Bool.not_eq_false', bne_iff_ne, ne_eq, bne_eq_false_iff_eq, Decidable.not_not, Int.not_lt, Int.not_le] at hc)))) | (k_unfold; (try dsimp only)) | walk1 | (dsimp only; walk1)))))
    refine' kst_end () ?eF ?eN ?en ?eo rfl trivial ?ek ?er trivial
    case eF => assumption
    case eN => assumption
    case en => (intro z hz; have h9 := List.mem_append_left own3 hz; exact .tail _ (.tail _ (.tail _ (.tail _ h9))))
    case eo => (intro z hz; have h9 := List.mem_append_right (((cellsL s1.heap.objs.size o1 o2 o3 o4 o5 o6 ++ R) ++ own) ++ own2) hz; exact .tail _ (.tail _ (.tail _ (.tail _ h9))))
    case ek => (intro p hp; cases hp)
    case er => (intro z h1 h2 h3; simp only [List.contains_cons, List.contains_nil, Bool.or_false, Bool.or_eq_false_iff, beq_eq_false_iff_ne, ne_eq] at h3; simp only [h1, h3, if_false, kstB, List.contains_cons, List.contains_nil, beq_iff_eq, Bool.or_eq_true, Bool.false_eq_true, or_self, false_or, or_false])

end Mine
theorem PySem.Challenge.cw_pg0263_02_holds : PySem.Challenge.rw_pg0263_02.Holds := by
  exact Mine.law_t
