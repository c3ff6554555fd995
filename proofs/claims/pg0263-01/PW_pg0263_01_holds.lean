import PyProof.Rows.All
import Wide.All
import OpenK.AllK
import Wide.FinOn
import PySem.Challenge.RW_pg0263_01
open PySem PySem.W PyProof.Rows
set_option Elab.async false
set_option maxRecDepth 100000
set_option maxHeartbeats 8000000
set_option linter.all false
namespace Mine
open_top hd for PySem.Challenge.rw_pg0263_01
theorem table : PySem.Challenge.rw_pg0263_01 = PySem.Challenge.rw_pg0263_01 ∧ hd.heap_39 = hd.heap_39 := by
  k_fill
  exact ⟨rfl, rfl⟩
-- Cp1

/-- how many first signs are the same -/
def cpl : List Nat → List Nat → Nat
  | x :: xs, y :: ys => if x = y then cpl xs ys + 1 else 0
  | _, _ => 0
theorem cpl_lt : ∀ (xs ys : List Nat) (n : Nat), n ≤ cpl xs ys → (n < cpl xs ys ↔ n < xs.length ∧ n < ys.length ∧ xs.getD n 0 = ys.getD n 0)
  | [], ys, n, h => by simp [cpl] at h ⊢
  | x :: xs, [], n, h => by simp [cpl] at h ⊢
  | x :: xs, y :: ys, n, h => by
    unfold cpl at h ⊢
    by_cases e : x = y
    · rw [if_pos e] at h ⊢
      cases n with
      | zero => simp [e]
      | succ n =>
        have := cpl_lt xs ys n (by omega)
        simp only [List.length_cons, List.getD_cons_succ]
        omega
    · rw [if_neg e] at h ⊢
      have : n = 0 := by omega
      subst this
      simp [e]
/-- the common start, the common end of two texts -/
def cplS (a b : PySem.Str) : Nat := cpl a.cps.toList b.cps.toList
def cslS (a b : PySem.Str) : Nat := cpl a.cps.toList.reverse b.cps.toList.reverse
theorem getD_toList (x : PySem.Str) (n : Nat) : x.cps.toList.getD n 0 = x.cps.getD n 0 := by
  obtain ⟨⟨l⟩⟩ := x
  simp [Array.getD, List.getD]
  split
  · rename_i h; rw [List.getElem?_eq_getElem h]; rfl
  · rename_i h; rw [List.getElem?_eq_none (by omega)]; rfl
theorem str_one {p q : Nat} : ((⟨#[p]⟩ : PySem.Str) == ⟨#[q]⟩) = decide (p = q) := by
  by_cases h : p = q
  · subst h; simp
  · rw [decide_eq_false h, beq_eq_false_iff_ne]
    intro e; injection e with e; simp at e; exact h e
theorem item_nat {x : PySem.Str} {n : Nat} (h : n < x.length) : Txt.item x (n : Int) = ⟨#[x.cps.toList.getD n 0]⟩ := by
  rw [item_meets ⟨by omega, by omega⟩, getD_toList]
  rfl
theorem item_back {x : PySem.Str} {n : Nat} (h : n < x.length) : Txt.item x (-(n : Int) - 1) = ⟨#[x.cps.toList.reverse.getD n 0]⟩ := by
  have hl : x.cps.toList.length = x.length := rfl
  have e1 : (-(n : Int) - 1 + (x.length : Int)).toNat = x.length - 1 - n := by omega
  have e2 : x.cps.toList.reverse[n]? = x.cps.toList[x.length - 1 - n]? := by rw [List.getElem?_reverse (by omega)]; rfl
  have hlt : x.length - 1 - n < x.cps.toList.length := by omega
  have hn : x.cps[(-(n : Int) - 1 + (x.length : Int)).toNat]? = some x.cps.toList[x.length - 1 - n] := by
    rw [e1, ← Array.getElem?_toList, List.getElem?_eq_getElem hlt]
  unfold Txt.item Txt.charAt
  rw [StrLaws.at_neg (by omega) (by omega) hn]
  simp only [List.getD, e2, List.getElem?_eq_getElem hlt, Option.getD_some]
/-- what a test of the two loops says -/
theorem cplS_lt {a b : PySem.Str} {n : Nat} (h : n ≤ cplS a b) : n < cplS a b ↔ n < a.length ∧ n < b.length ∧ Txt.item a (n : Int) = Txt.item b (n : Int) := by
  unfold cplS at h ⊢
  rw [cpl_lt _ _ _ h]
  have e1 : a.cps.toList.length = a.length := rfl
  have e2 : b.cps.toList.length = b.length := rfl
  rw [e1, e2]
  constructor
  · rintro ⟨p, q, r⟩; exact ⟨p, q, by rw [item_nat p, item_nat q, r]⟩
  · rintro ⟨p, q, r⟩
    rw [item_nat p, item_nat q] at r
    injection r with r
    exact ⟨p, q, by simpa using r⟩
theorem cslS_lt {a b : PySem.Str} {n : Nat} (h : n ≤ cslS a b) : n < cslS a b ↔ n < a.length ∧ n < b.length ∧ Txt.item a (-(n : Int) - 1) = Txt.item b (-(n : Int) - 1) := by
  unfold cslS at h ⊢
  rw [cpl_lt _ _ _ h]
  have e1 : a.cps.toList.reverse.length = a.length := by simp [PySem.Str.length]
  have e2 : b.cps.toList.reverse.length = b.length := by simp [PySem.Str.length]
  rw [e1, e2]
  constructor
  · rintro ⟨p, q, r⟩; exact ⟨p, q, by rw [item_back p, item_back q, r]⟩
  · rintro ⟨p, q, r⟩
    rw [item_back p, item_back q] at r
    injection r with r
    exact ⟨p, q, by simpa using r⟩
theorem cpl_le : ∀ (xs ys : List Nat), cpl xs ys ≤ xs.length ∧ cpl xs ys ≤ ys.length
  | [], _ => by simp [cpl]
  | _ :: _, [] => by simp [cpl]
  | x :: xs, y :: ys => by
    unfold cpl
    have := cpl_le xs ys
    split <;> simp <;> omega
theorem cplS_le (a b : PySem.Str) : cplS a b ≤ a.length ∧ cplS a b ≤ b.length := cpl_le _ _
theorem cslS_le (a b : PySem.Str) : cslS a b ≤ a.length ∧ cslS a b ≤ b.length := by
  have := cpl_le a.cps.toList.reverse b.cps.toList.reverse
  unfold cslS
  simpa [PySem.Str.length] using this
section
variable {a b : PySem.Str} {n : Nat}
theorem cpl_tt (h : n ≤ cplS a b) (ha : n < a.length) (hb : n < b.length) (e : (Txt.item a (n : Int) == Txt.item b (n : Int)) = true) : true = decide (n < cplS a b) :=
  (decide_eq_true ((cplS_lt h).mpr ⟨ha, hb, beq_iff_eq.mp e⟩)).symm
theorem cpl_fa (h : n ≤ cplS a b) (ha : ¬ n < a.length) : false = decide (n < cplS a b) := (decide_eq_false fun q => ha ((cplS_lt h).mp q).1).symm
theorem cpl_fb (h : n ≤ cplS a b) (hb : ¬ n < b.length) : false = decide (n < cplS a b) := (decide_eq_false fun q => hb ((cplS_lt h).mp q).2.1).symm
theorem cpl_fe (h : n ≤ cplS a b) (e : (Txt.item a (n : Int) == Txt.item b (n : Int)) = false) : false = decide (n < cplS a b) := (decide_eq_false fun q => beq_eq_false_iff_ne.mp e ((cplS_lt h).mp q).2.2).symm
theorem csl_tt (h : n ≤ cslS a b) (ha : n < a.length) (hb : n < b.length) (e : (Txt.item a (-(n : Int) - 1) == Txt.item b (-(n : Int) - 1)) = true) : true = decide (n < cslS a b) :=
  (decide_eq_true ((cslS_lt h).mpr ⟨ha, hb, beq_iff_eq.mp e⟩)).symm
theorem csl_fa (h : n ≤ cslS a b) (ha : ¬ n < a.length) : false = decide (n < cslS a b) := (decide_eq_false fun q => ha ((cslS_lt h).mp q).1).symm
theorem csl_fb (h : n ≤ cslS a b) (hb : ¬ n < b.length) : false = decide (n < cslS a b) := (decide_eq_false fun q => hb ((cslS_lt h).mp q).2.1).symm
theorem csl_fe (h : n ≤ cslS a b) (e : (Txt.item a (-(n : Int) - 1) == Txt.item b (-(n : Int) - 1)) = false) : false = decide (n < cslS a b) := (decide_eq_false fun q => beq_eq_false_iff_ne.mp e ((cslS_lt h).mp q).2.2).symm
end
theorem slice_all (x : PySem.Str) : Txt.slice x none none = x := by
  have e : Txt.slice x none none = StrLaws.sliceText x (some ((0 : Nat) : Int)) (some ((x.length : Nat) : Int)) := by
    show StrLaws.sliceText x none none = _
    unfold StrLaws.sliceText
    rw [StrLaws.sliceIdx_none_hi, StrLaws.sliceIdx_none_lo]
    rfl
  rw [e, StrLaws.sliceText_nat x (Nat.zero_le _) (Nat.le_refl _)]
  apply PySem.Str.ext'
  show ((x.cps.toList.drop 0).take (x.length - 0)).toArray = x.cps
  have hl : x.length = x.cps.toList.length := rfl
  rw [List.drop_zero, Nat.sub_zero, hl, List.take_length, Array.toArray_toList]
theorem slice_back {x : PySem.Str} {n : Nat} (h0 : 0 < n) (h : n ≤ x.length) : (Txt.slice x none (some (-(n : Int)))).cps.toList = x.cps.toList.take (x.length - n) := by
  have e : Txt.slice x none (some (-(n : Int))) = StrLaws.sliceText x none (some (-(n : Int))) := rfl
  rw [e, StrLaws.sliceText_to_neg (by omega) (by omega), List.drop_zero, show (-(n : Int) + (x.length : Int) - 0).toNat = x.length - n by omega]
theorem slice_back_len {x : PySem.Str} {n : Nat} (h0 : 0 < n) (h : n ≤ x.length) : (Txt.slice x none (some (-(n : Int)))).length = x.length - n := by
  have := congrArg List.length (slice_back h0 h)
  rw [List.length_take] at this
  have hl : x.length = x.cps.toList.length := rfl
  show (Txt.slice x none (some (-(n : Int)))).cps.toList.length = _
  omega
theorem slice_from {x : PySem.Str} {n : Nat} (h : n ≤ x.length) : (Txt.slice x (some (n : Int)) none).cps.toList = x.cps.toList.drop n := by
  have e : Txt.slice x (some (n : Int)) none = StrLaws.sliceText x (some (n : Int)) none := rfl
  have hl : x.length = x.cps.toList.length := rfl
  rw [e, StrLaws.sliceText_from ⟨by omega, by omega⟩]
  show ((x.cps.toList.drop (n : Int).toNat).take ((x.cps.toList.length : Int) - n).toNat) = _
  rw [Int.toNat_natCast, List.take_of_length_le (by rw [List.length_drop]; omega)]
theorem slice_from_len {x : PySem.Str} {n : Nat} (h : n ≤ x.length) : (Txt.slice x (some (n : Int)) none).length = x.length - n := by
  have := congrArg List.length (slice_from h)
  rw [List.length_drop] at this
  exact this
/-- a text without its last k signs, as the loop leaves it -/
def cutBack (x : PySem.Str) (k : Nat) : PySem.Str := if k = 0 then x else Txt.slice x none (some (-(k : Int)))
theorem cutBack_len {x : PySem.Str} {k : Nat} (h : k ≤ x.length) : (cutBack x k).length = x.length - k := by
  unfold cutBack
  by_cases h0 : k = 0
  · rw [if_pos h0]; omega
  · rw [if_neg h0]; exact slice_back_len (by omega) h

-- Lp1

/-- the end of a loop's test: what it says, and nothing stored -/
def MTest (h₀ : Heap) (L : Addr) (s : Shared) (m : PySem.Str → Option Value) (news : List (Addr × Obj)) (want : Bool) (b : Bool) (s₂ : Shared) : Prop :=
  b = want ∧ ∃ h' tk', s₂ = { s with heap := h', toks := tk' } ∧ Fr h₀ L h' m ∧ News h₀ L h' news
/-- the end of a turn that stores the one int y -/
def MTurn (h₀ : Heap) (L : Addr) (s : Shared) (y : PySem.Str) (m₀ : PySem.Str → Option Value) (news : List (Addr × Obj)) (c : Int) (f : Flow) (s₂ : Shared) : Prop :=
  f = .next ∧ ∃ h' tk' t, s₂ = { s with heap := h', toks := tk' } ∧ Fr h₀ L h' (fun z => if z = y then some (.int c t) else m₀ z) ∧ News h₀ L h' news

theorem mtest_ {h₀ : Heap} {L : Addr} {s s₂ : Shared} {m : PySem.Str → Option Value} {news : List (Addr × Obj)} {want b : Bool} (e : s₂ = { s with heap := s₂.heap, toks := s₂.toks }) (F : Fr h₀ L s₂.heap m) (N : News h₀ L s₂.heap news) (hb : b = want) : MTest h₀ L s m news want b s₂ :=
  ⟨hb, _, _, e, F, N⟩
theorem mturn_ {h₀ : Heap} {L : Addr} {s s₂ : Shared} {y : PySem.Str} {m₀ m' : PySem.Str → Option Value} {news : List (Addr × Obj)} {c c' : Int} {t : Tok} (e : s₂ = { s with heap := s₂.heap, toks := s₂.toks }) (F : Fr h₀ L s₂.heap m') (N : News h₀ L s₂.heap news)
    (hy : m' y = some (.int c' t)) (hc : c' = c) (hm : ∀ z, z ≠ y → m' z = m₀ z) : MTurn h₀ L s y m₀ news c .next s₂ := by
  subst hc
  refine ⟨rfl, _, _, t, e, ?_, N⟩
  have em : (fun z => if z = y then some (Value.int c' t) else m₀ z) = m' := by
    funext z
    by_cases h : z = y
    · rw [if_pos h, h, hy]
    · rw [if_neg h, hm z h]
  rw [em]; exact F

theorem ite_b {b : Bool} {P Q : Prop} (h1 : b = true → P) (h2 : b = false → Q) : if b = true then P else Q := by
  cases b with
  | true => exact h1 rfl
  | false => exact h2 rfl
section
variable {prog : Program} {w : World} {A : Around} {E : Value → Shared → Prop} {Q : Flow → Shared → Prop} {s : Shared} {env : Env} {h₀ : Heap} {L : Addr}
/-- a while that counts: the test says whether n < N, a turn makes c n into c (n + 1) -/
theorem while_count {test : Expr} {body : List Stmt} {pos : Pos} {m₀ : PySem.Str → Option Value} {news : List (Addr × Obj)} {t₀ : Tok} {c₀ : Int} (y : PySem.Str) (c : Nat → Int) (N : Nat) (hc : c 0 = c₀)
    (F : Fr h₀ L s.heap m₀) (Nw : News h₀ L s.heap news) (hy : m₀ y = some (.int c₀ t₀))
    (htest : ∀ n t h tk, n ≤ N → Fr h₀ L h (fun z => if z = y then some (.int (c n) t) else m₀ z) → News h₀ L h news →
      wpAny (model prog w) A (isTrue test env (eval test env)) (MTest h₀ L { s with heap := h, toks := tk } (fun z => if z = y then some (.int (c n) t) else m₀ z) news (decide (n < N))) E { s with heap := h, toks := tk })
    (hbody : ∀ n t h tk, n < N → Fr h₀ L h (fun z => if z = y then some (.int (c n) t) else m₀ z) → News h₀ L h news →
      wpAny (model prog w) A (execs body env) (MTurn h₀ L { s with heap := h, toks := tk } y m₀ news (c (n + 1))) E { s with heap := h, toks := tk })
    (done : ∀ t h tk, Fr h₀ L h (fun z => if z = y then some (.int (c N) t) else m₀ z) → News h₀ L h news → Q .next { s with heap := h, toks := tk })
    (hE : PassesOwn (model prog w) A env E := by passes_own) :
    wpAny (model prog w) A (exec (.While test body [] pos) env) Q E s := by
  refine While_inv2 (fun k m nx => ∃ n t, k = N - n ∧ n ≤ N ∧ nx = news ∧ m = fun z => if z = y then some (.int (c n) t) else m₀ z) F Nw ⟨0, t₀, rfl, Nat.zero_le _, rfl, ?_⟩ ?_ hE
  · funext z
    by_cases h : z = y
    · rw [if_pos h, h, hy, hc]
    · rw [if_neg h]
  rintro k m₁ nx h tk F₁ N₁ ⟨n, t, rfl, hn, rfl, rfl⟩
  refine wpAny_mono (htest n t h tk hn F₁ N₁) (fun b s₂ p => ?_) fun _ _ x => x
  obtain ⟨rfl, h', tk', rfl, F', N'⟩ := p
  by_cases hlt : n < N
  · rw [if_pos (decide_eq_true hlt)]
    refine wpAny_mono (hbody n t h' tk' hlt F' N') (fun f s₃ q => ?_) fun _ _ x => x
    obtain ⟨rfl, h'', tk'', t', rfl, F'', N''⟩ := q
    exact ⟨h'', tk'', _, nx, N - (n + 1), rfl, F'', N'', by omega, n + 1, t', rfl, hlt, rfl, rfl⟩
  · rw [if_neg (by rw [decide_eq_true_eq]; exact hlt)]
    have : n = N := by omega
    subst this
    exact done t h' tk' F' N'
/-- a slice whose ends came out as None -/
theorem slice_none {x : PySem.Str} {t : Tok} {value slice : PySem.Expr} {m : PySem.Str → Option Value} {news : List (Addr × Obj)} {Q : Value → Shared → Prop} (hF : Fr h₀ L s.heap m) (hN : News h₀ L s.heap news)
    (h : ∀ h' t' k, Fr h₀ L h' m → News h₀ L h' news → Q (.str x t') { s with heap := h', toks := k })
    (hs : subscripted slice false (.str x t) (.ref s.heap.objs.size) = operate [.ref s.heap.objs.size, .str x t] (getItem (.str x t) (.ref s.heap.objs.size)) := by with_unfolding_all rfl)
    (ht : ∀ r, letTemporaryGo value (.str x t) r = pure () := by intro _; with_unfolding_all rfl) (hsz : x.length ≤ sizeLine) :
    wpAny (model prog w) A (subscriptTail value slice (.str x t) (.ref s.heap.objs.size)) Q E { s with heap := s.heap.push { cls := .type "slice", data := .fields #[.none, .none, .none] } } :=
  slice_strN_nn hF hN (fun h' t' k F N => by rw [slice_all]; exact h h' t' k F N) hs ht hsz
end
/-- the end of a statement that stores y (y₁, y₂) -/
def MStore (h₀ : Heap) (L : Addr) (s : Shared) (y : PySem.Str) (m₀ : PySem.Str → Option Value) (news : List (Addr × Obj)) (V : Value → Prop) (f : Flow) (s₂ : Shared) : Prop :=
  f = .next ∧ ∃ h' tk' v, V v ∧ s₂ = { s with heap := h', toks := tk' } ∧ Fr h₀ L h' (fun z => if z = y then some v else m₀ z) ∧ News h₀ L h' news
def MStore2 (h₀ : Heap) (L : Addr) (s : Shared) (y₁ y₂ : PySem.Str) (m₀ : PySem.Str → Option Value) (news : List (Addr × Obj)) (V : Value → Value → Prop) (f : Flow) (s₂ : Shared) : Prop :=
  f = .next ∧ ∃ h' tk' v₁ v₂, V v₁ v₂ ∧ s₂ = { s with heap := h', toks := tk' } ∧ Fr h₀ L h' (fun z => if z = y₁ then some v₁ else if z = y₂ then some v₂ else m₀ z) ∧ News h₀ L h' news
theorem mstore_ {h₀ : Heap} {L : Addr} {s s₂ : Shared} {y : PySem.Str} {m₀ m' : PySem.Str → Option Value} {news news' : List (Addr × Obj)} {V : Value → Prop} {v : Value} (e : s₂ = { s with heap := s₂.heap, toks := s₂.toks }) (F : Fr h₀ L s₂.heap m') (N : News h₀ L s₂.heap news') (hn : ∀ p ∈ news, p ∈ news')
    (hy : m' y = some v) (hm : ∀ z, z ≠ y → m' z = m₀ z) (hv : V v) : MStore h₀ L s y m₀ news V .next s₂ := by
  refine ⟨rfl, _, _, v, hv, e, ?_, fun p hp => N p (hn p hp)⟩
  have em : (fun z => if z = y then some v else m₀ z) = m' := by
    funext z
    by_cases h : z = y
    · rw [if_pos h, h, hy]
    · rw [if_neg h, hm z h]
  rw [em]; exact F
theorem mstore2_ {h₀ : Heap} {L : Addr} {s s₂ : Shared} {y₁ y₂ : PySem.Str} {m₀ m' : PySem.Str → Option Value} {news news' : List (Addr × Obj)} {V : Value → Value → Prop} {v₁ v₂ : Value} (e : s₂ = { s with heap := s₂.heap, toks := s₂.toks }) (F : Fr h₀ L s₂.heap m') (N : News h₀ L s₂.heap news') (hn : ∀ p ∈ news, p ∈ news')
    (hy₁ : m' y₁ = some v₁) (hy₂ : m' y₂ = some v₂) (hm : ∀ z, z ≠ y₁ → z ≠ y₂ → m' z = m₀ z) (hv : V v₁ v₂) : MStore2 h₀ L s y₁ y₂ m₀ news V .next s₂ := by
  refine ⟨rfl, _, _, v₁, v₂, hv, e, ?_, fun p hp => N p (hn p hp)⟩
  have em : (fun z => if z = y₁ then some v₁ else if z = y₂ then some v₂ else m₀ z) = m' := by
    funext z
    by_cases h : z = y₁
    · rw [if_pos h, h, hy₁]
    · rw [if_neg h]
      by_cases h' : z = y₂
      · rw [if_pos h', h', hy₂]
      · rw [if_neg h', hm z h h']
  rw [em]; exact F
section
variable {prog : Program} {w : World} {A : Around} {E : Value → Shared → Prop} {Q : Flow → Shared → Prop} {s : Shared} {env : Env} {h₀ : Heap} {L : Addr} {m₀ : PySem.Str → Option Value} {news : List (Addr × Obj)} {st : Stmt} {rest : List Stmt}
theorem execs_store (y : PySem.Str) (V : Value → Prop) (_ : Fr h₀ L s.heap m₀) (_ : News h₀ L s.heap news) (h1 : wpAny (model prog w) A (exec st env) (MStore h₀ L s y m₀ news V) E s)
    (h2 : ∀ v h tk, V v → Fr h₀ L h (fun z => if z = y then some v else m₀ z) → News h₀ L h news → wpAny (model prog w) A (execs rest env) Q E { s with heap := h, toks := tk }) : wpAny (model prog w) A (execs (st :: rest) env) Q E s := by
  refine wpAny_execs_cons (wpAny_mono h1 (fun f s₂ p => ?_) fun _ _ x => x)
  obtain ⟨rfl, h', tk', v, hv, rfl, F, N⟩ := p
  exact h2 v h' tk' hv F N
theorem execs_store2 (y₁ y₂ : PySem.Str) (V : Value → Value → Prop) (_ : Fr h₀ L s.heap m₀) (_ : News h₀ L s.heap news) (h1 : wpAny (model prog w) A (exec st env) (MStore2 h₀ L s y₁ y₂ m₀ news V) E s)
    (h2 : ∀ v₁ v₂ h tk, V v₁ v₂ → Fr h₀ L h (fun z => if z = y₁ then some v₁ else if z = y₂ then some v₂ else m₀ z) → News h₀ L h news → wpAny (model prog w) A (execs rest env) Q E { s with heap := h, toks := tk }) : wpAny (model prog w) A (execs (st :: rest) env) Q E s := by
  refine wpAny_execs_cons (wpAny_mono h1 (fun f s₂ p => ?_) fun _ _ x => x)
  obtain ⟨rfl, h', tk', v₁, v₂, hv, rfl, F, N⟩ := p
  exact h2 v₁ v₂ h' tk' hv F N
end
/-- the end of an if that goes on with nothing stored, or leaves -/
def MIf (h₀ : Heap) (L : Addr) (s : Shared) (m₀ : PySem.Str → Option Value) (news : List (Addr × Obj)) (P : Prop) (Q : Flow → Shared → Prop) (f : Flow) (s₂ : Shared) : Prop :=
  (f = .next ∧ P ∧ ∃ h' tk', s₂ = { s with heap := h', toks := tk' } ∧ Fr h₀ L h' m₀ ∧ News h₀ L h' news) ∨ ∃ v, f = .ret v ∧ Q (.ret v) s₂
theorem mif_next {h₀ : Heap} {L : Addr} {s s₂ : Shared} {m₀ : PySem.Str → Option Value} {news news' : List (Addr × Obj)} {P : Prop} {Q : Flow → Shared → Prop} (e : s₂ = { s with heap := s₂.heap, toks := s₂.toks }) (F : Fr h₀ L s₂.heap m₀) (N : News h₀ L s₂.heap news') (hn : ∀ p ∈ news, p ∈ news')
    (hp : P) : MIf h₀ L s m₀ news P Q .next s₂ := .inl ⟨rfl, hp, _, _, e, F, fun p hq => N p (hn p hq)⟩
theorem mif_ret {h₀ : Heap} {L : Addr} {s s₂ : Shared} {m₀ : PySem.Str → Option Value} {news : List (Addr × Obj)} {P : Prop} {Q : Flow → Shared → Prop} {v : Value} (h : Q (.ret v) s₂) : MIf h₀ L s m₀ news P Q (.ret v) s₂ := .inr ⟨v, rfl, h⟩
section
variable {prog : Program} {w : World} {A : Around} {E : Value → Shared → Prop} {Q : Flow → Shared → Prop} {s : Shared} {env : Env} {h₀ : Heap} {L : Addr} {m₀ : PySem.Str → Option Value} {news : List (Addr × Obj)} {st : Stmt} {rest : List Stmt}
theorem execs_if (P : Prop) (_ : Fr h₀ L s.heap m₀) (_ : News h₀ L s.heap news) (h1 : wpAny (model prog w) A (exec st env) (MIf h₀ L s m₀ news P Q) E s)
    (h2 : ∀ h tk, P → Fr h₀ L h m₀ → News h₀ L h news → wpAny (model prog w) A (execs rest env) Q E { s with heap := h, toks := tk }) : wpAny (model prog w) A (execs (st :: rest) env) Q E s := by
  refine wpAny_execs_cons (wpAny_mono h1 (fun f s₂ p => ?_) fun _ _ x => x)
  rcases p with ⟨rfl, hp, h', tk', rfl, F, N⟩ | ⟨v, rfl, h⟩
  · exact h2 h' tk' hp F N
  · exact h
end
section
variable {prog : Program} {w : World} {A : Around} {E : Value → Shared → Prop} {s : Shared} {h₀ : Heap} {L : Addr} {m : PySem.Str → Option Value} {Q : Value → Shared → Prop}
/-- list(range(a, b, c)) -/
theorem list_step {r : Addr} {a b c : Int} {t u v : Tok} {n : Nat} {news : List (Addr × Obj)} (hh : A.handled = none) (F : Fr h₀ L s.heap m) (N : News h₀ L s.heap news)
    (hr : IsRange s.heap r a b c t u v) (hsmall : Builtin.Range.small a b c = true) (hn : Builtin.Range.rangeSize a b c = (n : Int)) (hlen : n ≤ 2 ^ 24)
    (h : ∀ D us k h' tk, Fr h₀ L h' m → News h₀ L h' ((D, listOf (List.toArray us) k) :: news) → (∀ p ∈ news, p.1 < D) → IntsAre us (rangeInts a c n) → Q (.ref D) { s with heap := h', toks := tk }) :
    wpAny (model prog w) A (call (.type "list") [.ref r]) Q E s := by
  refine list_rangeD hh F N hr hsmall hn hlen fun h' tk ys F' _ hk _ _ P C => ?_
  obtain ⟨⟨k, hD⟩, _⟩ := P
  have C' : IntsAre ys ((rangeInts a c n).map id) := CarriedAll.intsOf C
  rw [List.map_id] at C'
  exact h _ ys k h' tk F' (news_pushed F N hk hD rfl) (fun p hp => Heap.lt_size (N p hp).1) C'
end
theorem range_two {n : Nat} (h : 1 ≤ n) : Builtin.Range.rangeSize 2 (2 * ((n : Int) + 1)) 2 = (n : Int) := by
  unfold Builtin.Range.rangeSize
  rw [if_pos (by decide), if_pos (by omega)]
  omega
theorem small_two {b : Int} (h : 0 ≤ b) (h' : b ≤ 1000) : Builtin.Range.small 2 b 2 = true := by
  unfold Builtin.Range.small Builtin.Range.rangeSize Builtin.Range.rangeFitsLong
  simp only [Bool.and_eq_true, Bool.or_eq_true, decide_eq_true_eq, beq_iff_eq, show (2 : Int) > 0 by decide, if_true]
  split <;> omega
theorem range_one (n : Nat) : Builtin.Range.rangeSize 0 (n : Int) 1 = (n : Int) := by
  unfold Builtin.Range.rangeSize
  rw [if_pos (by decide)]
  split <;> omega
theorem small_0 {b : Int} (h : 0 ≤ b) (h' : b ≤ 1000000) : Builtin.Range.small 0 b 1 = true := small_one (by omega) (by omega) (by omega) (by omega)
theorem news_flat {h₀ h : Heap} {L : Addr} {p : Addr × Obj} {own own2 : List (Addr × Obj)} (N : News h₀ L h (([p] ++ own) ++ own2)) : News h₀ L h (p :: (own ++ own2)) := by
  simpa only [List.append_assoc, List.cons_append, List.nil_append] using N
/-- a loop over a range that turns the one int y -/
abbrev oneLed (led : List (Addr × Obj)) (_ : Int × Tok) : List (Addr × Obj) := led
abbrev onePs (y : PySem.Str) (q : Int × Tok) : List (PySem.Str × Value) := [(y, .int q.1 q.2)]
abbrev oneFa (_ : Int × Tok) : Prop := True
abbrev oneP (P : List Int → Int → Prop) (pre : List Int) (q : Int × Tok) : Prop := P pre q.1
theorem one_end {h₀ h' : Heap} {L : Addr} {led own news' : List (Addr × Obj)} {m₀ m' : PySem.Str → Option Value} {x y : PySem.Str} {stored : List PySem.Str} {P : List Int → Int → Prop} {pre : List Int} {c : Int} {t : Tok} {s₁ : Shared} {tk : Nat}
    (F : Fr h₀ L h' m') (N : News h₀ L h' news') (hn : ∀ p ∈ led, p ∈ news') (ho : ∀ p ∈ own, p ∈ news') (ky : m' y = some (.int c t)) (hr : ∀ z, z ≠ x → z ≠ y → stored.contains z = false → m' z = m₀ z) (hp : P pre c) :
    InvEndN h₀ L (KstS (oneLed led) (onePs y) oneFa x stored m₀ (oneP P) pre) own (led.map (·.1)) s₁ { s₁ with heap := h', toks := tk } :=
  kst_end (c, t) F N hn ho rfl trivial (fun p hp => by rw [List.mem_singleton.mp hp]; exact ky) (fun z h1 h2 h3 => hr z h1 (h2 _ (List.mem_cons_self ..)) h3) hp

-- B1

/-- what a way of the body hands back (a mark: the walk stops here) -/
def Ret (Q : Value → Shared → Prop) (v : Value) (s : Shared) : Prop := Q v s

section
variable {prog : Program} {w : World} {A₀ A : Around} {E : Value → Shared → Prop} {s : Shared} {K : Frag} {L : Addr} {h₀ base : Heap} {m mg mb : PySem.Str → Option Value} {p : Program} {loose : List PySem.Str} {mean : ExcName → Option Value} {Q : Value → Shared → Prop}

/-- entering a def with every object of the heap, but those of `own`, as the fixed base -/
theorem enter_own {env : Env} {outer : List Env} {name qual : PySem.Str} {params : Arguments} {body : List Stmt} {scope : Scope} {dV kV doc pm cdv ct oc : Value} {an od : Option Addr} {osl : Array (Option Value)} {f : Addr} {args : List Value} {binds : List (PySem.Str × Value)}
    (own : List (Addr × Obj)) (B : Below A₀ base outer h₀) (F : Fr h₀ L s.heap m) (X₀ : K.In h₀) (N : News h₀ L s.heap own) (T : Top p loose mean mg mb h₀) (hA : A.frames = some (env :: outer)) (hf : env.frame = some L) (hke : env.scope.kind = .function)
    (ho : K.lookup f = some ⟨oc, od, .func (fnOf name qual params body scope dV kV doc pm an cdv ct), osl⟩) (hcd : codeIn K cdv qual = true) (hroom : A.depth < recursionLimit)
    (hbind : BindsTo s (fnOf name qual params body scope dV kV doc pm an cdv ct) ⟨args, []⟩ binds) (hloc : ∀ y ∈ binds, scope.names.lookup y.1 = some .local)
    (h : ∀ g L' h₁, g = hideAll s.heap (own.map (·.1)) → Fr g L' h₁ (fun y => binds.reverse.lookup y) → News g L' h₁ own → Below A base (env :: outer) g → K.In g → Top p loose mean mg mb g →
      wpAny (model prog w) (A.deeper (envOf qual scope L' f cdv)) (execs body (envOf qual scope L' f cdv))
        (fun fl s' => Ret Q (match fl with | .ret v => v | _ => .none) s')
        (fun e s' => wpAny (model prog w) (A.deeper (envOf qual scope L' f cdv)) (leaving (envOf qual scope L' f cdv) e) (fun _ s'' => E e s'') (fun e' s'' => E e' s'') s')
        { s with heap := h₁, toks := s.toks + binds.length })
    (hco : scope.isCoroutine = false) (hgen : scope.isGenerator = false) (hk : scope.kind = .function)
    (hcell : ∀ x ∈ scope.names, x.2 ≠ .cell) : wpAny (model prog w) A (call (.ref f) args) Q E s := by
  refine wpAny_call ?_
  obtain ⟨_, BG, st, _⟩ := groundX (R := fun _ _ => True) B F N hA hf hke
  refine PySem.codeAny_call_def (fd := fnOf name qual params body scope dV kV doc pm an cdv ct) (body := body) (binds := binds) hroom ((X₀.keeps F.keep) _ _ ho) rfl (T.nolimit.keeps F.keep) (codeRec_of (X₀.keeps F.keep) hcd) rfl hbind hcell hloc (fun h₁ hns hk₁ => ?_) hco hgen hk
  exact h _ s.heap.objs.size h₁ rfl ⟨hns, fun b o e => hk₁ b o (of_hideAll _ e), Nat.le_of_eq (hideAll_size _ _)⟩
    (fun p hp => ⟨hk₁ _ _ (N p hp).1, Nat.ne_of_lt (Heap.lt_size (N p hp).1), hideAll_none _ (List.mem_map_of_mem hp)⟩) BG (X₀.keeps st) (T.keeps st)

theorem enter_pure {env : Env} {outer : List Env} {name qual : PySem.Str} {params : Arguments} {body : List Stmt} {scope : Scope} {dV kV doc pm cdv ct oc : Value} {an od : Option Addr} {osl : Array (Option Value)} {f : Addr} {args : List Value} {binds : List (PySem.Str × Value)}
    (B : Below A₀ base outer h₀) (F : Fr h₀ L s.heap m) (X₀ : K.In h₀) (T : Top p loose mean mg mb h₀) (hA : A.frames = some (env :: outer)) (hf : env.frame = some L) (hke : env.scope.kind = .function)
    (ho : K.lookup f = some ⟨oc, od, .func (fnOf name qual params body scope dV kV doc pm an cdv ct), osl⟩) (hcd : codeIn K cdv qual = true) (hroom : A.depth < recursionLimit)
    (hbind : BindsTo s (fnOf name qual params body scope dV kV doc pm an cdv ct) ⟨args, []⟩ binds) (hloc : ∀ y ∈ binds, scope.names.lookup y.1 = some .local)
    (h : ∀ g L' h₁, g = s.heap → Fr g L' h₁ (fun y => binds.reverse.lookup y) → News g L' h₁ [] → Below A base (env :: outer) g → K.In g → Top p loose mean mg mb g →
      wpAny (model prog w) (A.deeper (envOf qual scope L' f cdv)) (execs body (envOf qual scope L' f cdv))
        (fun fl s' => Ret Q (match fl with | .ret v => v | _ => .none) s')
        (fun e s' => wpAny (model prog w) (A.deeper (envOf qual scope L' f cdv)) (leaving (envOf qual scope L' f cdv) e) (fun _ s'' => E e s'') (fun e' s'' => E e' s'') s')
        { s with heap := h₁, toks := s.toks + binds.length })
    (hco : scope.isCoroutine = false) (hgen : scope.isGenerator = false) (hk : scope.kind = .function)
    (hcell : ∀ x ∈ scope.names, x.2 ≠ .cell) : wpAny (model prog w) A (call (.ref f) args) Q E s :=
  enter_own [] B F X₀ .nil T hA hf hke ho hcd hroom hbind hloc h hco hgen hk hcell

/-- what stood stays: the caller's frame and ledger behind a call that changed nothing of it -/
theorem fr_stays {h h' : Heap} (F : Fr h₀ L h m) (st : h.StaysIn h') : Fr h₀ L h' m := by
  obtain ⟨⟨oL, es, ep, hL, r⟩, k, a⟩ := F
  exact ⟨⟨oL, es, ep, st _ _ hL, r⟩, fun b o e => st b o (k b o e), a⟩
theorem news_stays {h h' : Heap} {news : List (Addr × Obj)} (N : News h₀ L h news) (st : h.StaysIn h') : News h₀ L h' news :=
  fun p hp => ⟨st _ _ (N p hp).1, (N p hp).2⟩
end

/-- a def that leaves all that stood as it was: `n` frames deep, `H` what it asks, `Out` what it gives -/
def PCl (prog : Program) (K : Params → Frag) (p : Program) (loose : List PySem.Str) (n : Nat) (f : Nat) (w : World) (H : Heap → Prop) (vs : List Value) (Out : Heap → Heap → Value → Prop) : Prop :=
  ∀ (mean : ExcName → Option Value) (mg mb : PySem.Str → Option Value) (dp un : Nat) (gd : Option (List Code)) (cn : PySem.Str) (cs : Scope) (a : Addr) (ccd : Value) (cl : List (PySem.Str × Addr)) (outer : List Env) (A₀ : Around) (base h₀ : Heap) (L : Addr) (m : PySem.Str → Option Value) (s : Shared) (Q E : Value → Shared → Prop),
    Below A₀ base outer h₀ → Fr h₀ L s.heap m → (K w.params).In h₀ → Top p loose mean mg mb h₀ → cs.kind = .function → dp + n < recursionLimit → un + 8 * n < cLine → H s.heap →
    (∀ v h' tk', s.heap.StaysIn h' → Out s.heap h' v → Q v { s with heap := h', toks := tk' }) →
    wpAny (model prog w) (ktrTop dp un gd cn cs L a ccd cl outer) (call (.ref f) vs) Q E s

/-- an int, a bool, a str come back -/
abbrev OInt (x : Int) : Heap → Heap → Value → Prop := fun _ _ v => ∃ t, v = .int x t
abbrev OBool (x : Bool) : Heap → Heap → Value → Prop := fun _ _ v => v = .bool x
abbrev OStr (x : PySem.Str) : Heap → Heap → Value → Prop := fun _ _ v => ∃ t, v = .str x t

section
variable {g : Heap} {L : Addr} {m : PySem.Str → Option Value} {s : Shared} {Q : Value → Shared → Prop} {h' : Heap} {tk : Nat} {t : Tok} {Out : Heap → Heap → Value → Prop} {v : Value}
theorem ret_ {s' : Shared} (hret : ∀ v h' tk', s.heap.StaysIn h' → Out s.heap h' v → Q v { s with heap := h', toks := tk' }) (hg : g = s.heap) (F : Fr g L s'.heap m) (e : s' = { s with heap := s'.heap, toks := s'.toks }) (ho : Out s.heap s'.heap v) : Ret Q v s' := by
  subst hg
  show Q v s'
  rw [e]
  exact hret v s'.heap s'.toks F.keep ho
end
theorem oInt {h h' : Heap} {x y : Int} {t : Tok} (e : x = y) : OInt y h h' (.int x t) := ⟨t, by rw [e]⟩
theorem oBool {h h' : Heap} {x y : Bool} (e : x = y) : OBool y h h' (.bool x) := by rw [e]
theorem oStr {h h' : Heap} {x y : PySem.Str} {t : Tok} (e : x = y) : OStr y h h' (.str x t) := ⟨t, by rw [e]⟩
section
variable {prog : Program} {w : World} {K : Params → Frag} {p : Program} {loose : List PySem.Str} {n f : Nat} {H : Heap → Prop} {vs : List Value} {Out : Heap → Heap → Value → Prop}
/-- the use of what was shown of a def, with the caller's frame and ledger kept -/
theorem use_cl {mean : ExcName → Option Value} {mg mb : PySem.Str → Option Value} {dp un : Nat} {gd : Option (List Code)} {cn : PySem.Str} {cs : Scope} {a : Addr} {ccd : Value} {cl : List (PySem.Str × Addr)} {outer : List Env} {A₀ : Around} {base h₀ : Heap} {L : Addr} {m : PySem.Str → Option Value} {s : Shared} {Q E : Value → Shared → Prop} {news : List (Addr × Obj)}
    (C : PCl prog K p loose n f w H vs Out) (B : Below A₀ base outer h₀) (F : Fr h₀ L s.heap m) (X : (K w.params).In h₀) (N : News h₀ L s.heap news) (T : Top p loose mean mg mb h₀) (hk : cs.kind = .function) (hd : dp + n < recursionLimit) (hu : un + 8 * n < cLine) (hH : H s.heap)
    (hret : ∀ v h' tk', Fr h₀ L h' m → News h₀ L h' news → s.heap.StaysIn h' → Out s.heap h' v → Q v { s with heap := h', toks := tk' }) :
    wpAny (model prog w) (ktrTop dp un gd cn cs L a ccd cl outer) (call (.ref f) vs) Q E s :=
  C mean mg mb dp un gd cn cs a ccd cl outer A₀ base h₀ L m s Q E B F X T hk hd hu hH fun v h' tk' st ho => hret v h' tk' (fr_stays F st) (news_stays N st) st ho
end

def RetC (R : Result → Shared → Prop) (v : Value) (s : Shared) : Prop := R (.ok (.ret v)) s
section
variable {prog : Program} {w : World} {A₀ A : Around} {s : Shared} {K : Frag} {L : Addr} {h₀ base : Heap} {m mg mb : PySem.Str → Option Value} {p : Program} {loose : List PySem.Str} {mean : ExcName → Option Value} {R : Result → Shared → Prop}
theorem enter_code {env : Env} {outer : List Env} {name qual : PySem.Str} {params : Arguments} {body : List Stmt} {scope : Scope} {dV kV doc pm cdv ct oc : Value} {an od : Option Addr} {osl : Array (Option Value)} {f : Addr} {args : List Value} {binds : List (PySem.Str × Value)}
    (own : List (Addr × Obj)) (B : Below A₀ base outer h₀) (F : Fr h₀ L s.heap m) (X₀ : K.In h₀) (N : News h₀ L s.heap own) (T : Top p loose mean mg mb h₀) (hA : A.frames = some (env :: outer)) (hf : env.frame = some L) (hke : env.scope.kind = .function)
    (ho : K.lookup f = some ⟨oc, od, .func (fnOf name qual params body scope dV kV doc pm an cdv ct), osl⟩) (hcd : codeIn K cdv qual = true) (hroom : A.depth < recursionLimit)
    (hbind : BindsTo s (fnOf name qual params body scope dV kV doc pm an cdv ct) ⟨args, []⟩ binds) (hloc : ∀ y ∈ binds, scope.names.lookup y.1 = some .local)
    (h : ∀ g L' h₁, g = hideAll s.heap (own.map (·.1)) → Fr g L' h₁ (fun y => binds.reverse.lookup y) → News g L' h₁ own → Below A base (env :: outer) g → K.In g → Top p loose mean mg mb g →
      wpAny (model prog w) (A.deeper (envOf qual scope L' f cdv)) (execs body (envOf qual scope L' f cdv))
        (fun fl s' => RetC R (match fl with | .ret v => v | _ => .none) s')
        (fun e s' => wpAny (model prog w) (A.deeper (envOf qual scope L' f cdv)) (leaving (envOf qual scope L' f cdv) e) (fun _ s'' => R (.error e) s'') (fun e' s'' => R (.error e') s'') s')
        { s with heap := h₁, toks := s.toks + binds.length })
    (hco : scope.isCoroutine = false) (hgen : scope.isGenerator = false) (hk : scope.kind = .function)
    (hcell : ∀ x ∈ scope.names, x.2 ≠ .cell) : codeAny (model prog w) A (.call (.ref f) ⟨args, []⟩) R s := by
  obtain ⟨_, BG, st, _⟩ := groundX (R := fun _ _ => True) B F N hA hf hke
  refine PySem.codeAny_call_def (fd := fnOf name qual params body scope dV kV doc pm an cdv ct) (body := body) (binds := binds) hroom ((X₀.keeps F.keep) _ _ ho) rfl (T.nolimit.keeps F.keep) (codeRec_of (X₀.keeps F.keep) hcd) rfl hbind hcell hloc (fun h₁ hns hk₁ => ?_) hco hgen hk
  exact h _ s.heap.objs.size h₁ rfl ⟨hns, fun b o e => hk₁ b o (of_hideAll _ e), Nat.le_of_eq (hideAll_size _ _)⟩
    (fun p hp => ⟨hk₁ _ _ (N p hp).1, Nat.ne_of_lt (Heap.lt_size (N p hp).1), hideAll_none _ (List.mem_map_of_mem hp)⟩) BG (X₀.keeps st) (T.keeps st)
end
theorem ret_int {s s' : Shared} {Q : Value → Shared → Prop} {x v : Int} {t : Tok} (hret : ∀ t h' tk', s.heap.StaysIn h' → Q (.int v t) { s with heap := h', toks := tk' }) (st : s.heap.StaysIn s'.heap) (e : s' = { s with heap := s'.heap, toks := s'.toks }) (hv : x = v) : Ret Q (.int x t) s' := by
  subst hv
  show Q _ s'
  rw [e]
  exact hret t s'.heap s'.toks st
/-- a new tuple of two ints -/
def OTup (x y : Int) (h h' : Heap) (v : Value) : Prop := ∃ D tx ty, v = .ref D ∧ h.get? D = none ∧ h'.get? D = some ({ cls := .type "tuple", data := .seq #[.int x tx, .int y ty] } : Obj)
theorem oTup {g h h' : Heap} {L D : Addr} {x y x' y' : Int} {tx ty : Tok} {all : List (Addr × Obj)} (hg : g = h) (N : News g L h' all) (hm : (D, ({ cls := .type "tuple", data := .seq #[.int x' tx, .int y' ty] } : Obj)) ∈ all) (hx : x' = x) (hy : y' = y) : OTup x y h h' (.ref D) := by
  subst hg hx hy
  exact ⟨D, tx, ty, rfl, (N _ hm).2.2, (N _ hm).1⟩
theorem news_add {h₀ h h' : Heap} {L D : Addr} {o : Obj} {m : PySem.Str → Option Value} {news : List (Addr × Obj)} (F : Fr h₀ L h m) (N : News h₀ L h news) (st : h.StaysIn h') (hn : h.get? D = none) (hD : h'.get? D = some o) : News h₀ L h' ((D, o) :: news) := fun p hp => by
  rcases List.mem_cons.mp hp with rfl | hp
  · refine ⟨hD, fun e => ?_, ?_⟩
    · obtain ⟨oL, _, _, hL, _⟩ := F.ns
      have e2 : D = L := e
      rw [e2, hL] at hn; cases hn
    · cases q : h₀.get? D with
      | none => rfl
      | some o' => rw [F.keep _ _ q] at hn; cases hn
  · exact ⟨st _ _ (N p hp).1, (N p hp).2⟩
abbrev Cl (n : Nat) (f : Nat) (w : World) (H : Heap → Prop) (vs : List Value) (Out : Heap → Heap → Value → Prop) : Prop :=
  PCl PySem.Challenge.pw_pg0263_01 hd.heap_39 hd.view_39 (looseW hd.view_39 [PySem.Str.ofString "Whitespace"]) n f w H vs Out

-- S1

open PySem.Builtin PySem.Builtin.Str PySem.StrLaws in
theorem occ_empty {x y : PySem.Str} {lo hi : Nat} (hy : y.length = 0) (h : lo ≤ hi) : ∃ r, occurrences x y lo hi 1 = lo :: r := by
  have he : ∀ i, subAt x y i = true := by
    intro i
    obtain ⟨⟨l⟩⟩ := y
    have hl : l = [] := List.length_eq_zero_iff.mp hy
    subst hl
    unfold subAt
    simp [PySem.Str.length]; omega
  rw [occ_eq]
  rcases occ_first x y hi 1 (Nat.le_refl 1) (List.range' lo (hi + 1 - lo)) lo (fun i hi => by have := List.mem_range'_1.mp hi; omega) with ⟨_, hn⟩ | ⟨pre, a, post, e, h0, _, hn⟩
  · exact absurd ⟨by omega, he lo⟩ (hn lo (by rw [List.mem_range'_1]; omega))
  · have hpre : pre = [] := by
      cases pre with
      | nil => rfl
      | cons b p =>
        have hb : b ∈ List.range' lo (hi + 1 - lo) := by rw [e]; simp
        have := List.mem_range'_1.mp hb
        exact absurd ⟨by omega, he b⟩ (hn b (.head _))
    subst hpre
    have ha : a = lo := by
      have h2 : (List.range' lo (hi + 1 - lo))[0]? = some a := by rw [e]; rfl
      rw [List.getElem?_range' (by omega)] at h2
      simpa using h2.symm
    subst ha
    generalize (forIn (List.range' a (hi + 1 - a)) ((#[] : Array Nat), a) (occBody x y hi 1)).run.fst = arr at h0
    have h1 : arr.toList[0]? = some a := by simpa using h0
    cases hL : arr.toList with
    | nil => rw [hL] at h1; cases h1
    | cons b r => rw [hL] at h1; simp at h1; exact ⟨r, by rw [h1]⟩

section
variable {prog : Program} {w : World} {A : Around} {E : Value → Shared → Prop} {s : Shared} {x y : PySem.Str} {t u v z : Tok} {i j : Int} {Q : Value → Shared → Prop}
open PySem.Builtin PySem.Builtin.Str in
theorem gives_find4 (x y : PySem.Str) (i j : Int) (t u v z : Tok) : Gives (Builtin.«str.find» ⟨[.str x t, .str y u, .int i v, .int j z], []⟩) (.int (match occurrences x y (fromIndex x.length i) (min (fromIndex x.length j) x.length) 1 with | k :: _ => (k : Int) | [] => -1)) := by
  show Gives (match occurrences x y (fromIndex x.length i) (min (fromIndex x.length j) x.length) 1 with | k :: _ => retInt k | [] => (do rule "str.find.not-found"; retInt (-1))) _
  cases occurrences x y (fromIndex x.length i) (min (fromIndex x.length j) x.length) 1 with
  | nil => exact .rule (.of_eq rfl)
  | cons k _ => exact .of_eq rfl
theorem find4_empty (hy : y.length = 0) (h0 : 0 ≤ i) (hij : i ≤ j) (hj : j ≤ (x.length : Int)) (h : Q (.int i s.toks) { s with toks := s.toks + 1 }) :
    wpAny (model prog w) A (call (.builtin "str.find") [.str x t, .str y u, .int i v, .int j z]) Q E s := by
  refine call_gives F.slot_str_find (typeIs_str _ _ _) F.entry_str_find (F.args_str_find_4 _ _ _ _) (gives_find4 x y i j t u v z) ?_
  have e1 : PySem.fromIndex x.length i = i.toNat := by unfold PySem.fromIndex; rw [if_neg (by omega)]; omega
  have e2 : min (PySem.fromIndex x.length j) x.length = j.toNat := by unfold PySem.fromIndex; rw [if_neg (by omega)]; omega
  rw [e1, e2]
  obtain ⟨r, hr⟩ := occ_empty (x := x) (lo := i.toNat) (hi := j.toNat) hy (by omega)
  rw [hr]
  show Q (.int ((i.toNat : Nat) : Int) s.toks) { s with toks := s.toks + 1 }
  rw [Int.toNat_of_nonneg h0]
  exact h
end
open PySem.Builtin PySem.Builtin.Str in
theorem sub_empty {x y : PySem.Str} (hy : y.length = 0) (i : Nat) : subAt x y i = true := by
  obtain ⟨⟨l⟩⟩ := y
  have hl : l = [] := List.length_eq_zero_iff.mp hy
  subst hl
  unfold subAt
  simp [PySem.Str.length]; omega
theorem starts_empty {x y : PySem.Str} (hy : y.length = 0) : Txt.startswith x y = true := by
  unfold Txt.startswith; rw [sub_empty hy]; simp; omega
theorem ends_empty {x y : PySem.Str} (hy : y.length = 0) : Txt.endswith x y = true := by
  unfold Txt.endswith; rw [sub_empty hy]; simp; omega

-- Lf1

def subF (a b : PySem.Str) : Int := if a = b then 0 else if Txt.lower a = Txt.lower b then 1 else 2
/-- one cell of the table, out of distance, result, row -/
def cell (A bc : PySem.Str) (d r : Int) (row : List Int) (i : Int) : Int :=
  if d + subF bc (Txt.item A i) < (if row.getD i.toNat 0 < r then row.getD i.toNat 0 else r) + 2 then d + subF bc (Txt.item A i) else (if row.getD i.toNat 0 < r then row.getD i.toNat 0 else r) + 2
def inStep (A bc : PySem.Str) (st : Int × Int × Int × List Int) (i : Int) : Int × Int × Int × List Int :=
  (st.2.2.2.getD i.toNat 0, cell A bc st.1 st.2.1 st.2.2.2 i, if cell A bc st.1 st.2.1 st.2.2.2 i < st.2.2.1 then cell A bc st.1 st.2.1 st.2.2.2 i else st.2.2.1, st.2.2.2.set i.toNat (cell A bc st.1 st.2.1 st.2.2.2 i))
theorem in_turn {A bc : PySem.Str} {d r mn mn' i : Int} {row pre : List Int} {st : Int × Int × Int × List Int} (hP : (d, r, mn, row) = pre.foldl (inStep A bc) st) (hm : mn' = if cell A bc d r row i < mn then cell A bc d r row i else mn) :
    (row.getD i.toNat 0, cell A bc d r row i, mn', row.set i.toNat (cell A bc d r row i)) = (pre ++ [i]).foldl (inStep A bc) st := by
  rw [List.foldl_append, ← hP, hm]; rfl
def inner (A bc : PySem.Str) (j : Int) (row : List Int) : Int × Int × Int × List Int := (rangeKs 0 A.length).foldl (inStep A bc) (j * 2, j * 2, 9223372036854775807, row)
def outer (A B : PySem.Str) (mc : Int) : List Int → Int → List Int → Int
  | [], res, _ => res
  | j :: js, _, row =>
    let st := inner A (Txt.item B j) j row
    if st.2.2.1 > mc then mc + 1 else outer A B mc js st.2.1 st.2.2.2
def levTail (A B : PySem.Str) (mc : Int) : Int := if ((B.length : Int) - A.length) * 2 > mc then mc + 1 else outer A B mc (rangeKs 0 B.length) 0 (rangeInts 2 2 A.length)
def levF (a b : PySem.Str) (mc : Int) : Int :=
  if a = b then 0 else
  let A := Txt.slice a (some (cplS a b : Int)) none
  let B := Txt.slice b (some (cplS a b : Int)) none
  let A2 := cutBack A (cslS A B)
  let B2 := cutBack B (cslS A B)
  if A2.length = 0 ∨ B2.length = 0 then 2 * ((A2.length : Int) + B2.length) else
  levTail (if B2.length < A2.length then B2 else A2) (if B2.length < A2.length then A2 else B2) mc
theorem inStep_row (A bc : PySem.Str) (st : Int × Int × Int × List Int) (i : Int) : (inStep A bc st i).2.2.2.length = st.2.2.2.length := by simp [inStep]
theorem fold_row (A bc : PySem.Str) (ks : List Int) (st : Int × Int × Int × List Int) : (ks.foldl (inStep A bc) st).2.2.2.length = st.2.2.2.length := by
  induction ks generalizing st with
  | nil => rfl
  | cons k r ih => rw [List.foldl_cons, ih, inStep_row]
theorem inner_row (A bc : PySem.Str) (j : Int) (row : List Int) : (inner A bc j row).2.2.2.length = row.length := fold_row _ _ _ _
section
variable {a b A B A2 B2 A3 B3 : PySem.Str} {mc : Int}
theorem lev_same (h : (a == b) = true) : 0 = levF a b mc := by
  unfold levF; rw [if_pos (beq_iff_eq.mp h)]
theorem lev_short (h : (a == b) = false) (hA : Txt.slice a (some (cplS a b : Int)) none = A) (hB : Txt.slice b (some (cplS a b : Int)) none = B) (hA2 : cutBack A (cslS A B) = A2) (hB2 : cutBack B (cslS A B) = B2)
    (h0 : A2.length = 0 ∨ B2.length = 0) : 2 * ((A2.length : Int) + B2.length) = levF a b mc := by
  subst hA hB hA2 hB2
  unfold levF
  rw [if_neg (beq_eq_false_iff_ne.mp h)]
  exact (if_pos h0).symm
theorem lev_long (h : (a == b) = false) (hA : Txt.slice a (some (cplS a b : Int)) none = A) (hB : Txt.slice b (some (cplS a b : Int)) none = B) (hA2 : cutBack A (cslS A B) = A2) (hB2 : cutBack B (cslS A B) = B2)
    (h0 : 1 ≤ A2.length ∧ 1 ≤ B2.length) (hA3 : (if B2.length < A2.length then B2 else A2) = A3) (hB3 : (if B2.length < A2.length then A2 else B2) = B3) : levTail A3 B3 mc = levF a b mc := by
  subst hA hB hA2 hB2 hA3 hB3
  unfold levF
  rw [if_neg (beq_eq_false_iff_ne.mp h)]
  exact (if_neg (by omega)).symm
theorem tail_far (h : ((B3.length : Int) - A3.length) * 2 > mc) : mc + 1 = levTail A3 B3 mc := by unfold levTail; rw [if_pos h]
theorem tail_near (h : ((B3.length : Int) - A3.length) * 2 ≤ mc) : outer A3 B3 mc (rangeKs 0 B3.length) 0 (rangeInts 2 2 A3.length) = levTail A3 B3 mc := by unfold levTail; rw [if_neg (by omega)]
end

-- Sp1

abbrev dots : PySem.Str := PySem.Str.ofString "..."
section
open PySem.Builtin PySem.Builtin.Str PySem.StrLaws
theorem dots_list : dots.cps.toList = [46, 46, 46] := by decide +kernel
theorem dots_len : dots.length = 3 := by decide +kernel
theorem at_46 {ps ss : List Nat} (hp : 46 ∉ ps) (hs : 46 ∉ ss) {j : Nat} (h : (ps ++ [46, 46, 46] ++ ss)[j]? = some 46) : ps.length ≤ j ∧ j < ps.length + 3 := by
  have h1 : ps.length ≤ j := by
    apply Nat.le_of_not_lt
    intro hj
    rw [List.append_assoc, List.getElem?_append_left hj] at h
    exact hp (List.mem_of_getElem? h)
  refine ⟨h1, ?_⟩
  apply Nat.lt_of_not_le
  intro hj
  rw [List.getElem?_append_right (by simp; omega)] at h
  exact hs (List.mem_of_getElem? h)
theorem at_dots {P S : PySem.Str} (hp : 46 ∉ P.cps.toList) (hs : 46 ∉ S.cps.toList) (i : Nat) : At (P ++ dots ++ S) dots (P ++ dots ++ S).length i ↔ i = P.length := by
  have hl : P.length = P.cps.toList.length := rfl
  have hx : (P ++ dots ++ S).cps.toList = P.cps.toList ++ [46, 46, 46] ++ S.cps.toList := by
    rw [PySem.Str.cps_append, PySem.Str.cps_append, Array.toList_append, Array.toList_append, dots_list]
  have hlen : (P ++ dots ++ S).length = P.length + 3 + S.length := by rw [PySem.Str.length_append, PySem.Str.length_append, dots_len]
  unfold At
  rw [subAt_eq, hx, dots_len, dots_list, hlen, beq_iff_eq]
  constructor
  · rintro ⟨h1, h2⟩
    have g0 : (P.cps.toList ++ [46, 46, 46] ++ S.cps.toList)[i]? = some 46 := by
      have := congrArg (fun l => l[0]?) h2
      simpa [List.getElem?_take, List.getElem?_drop] using this
    have g2 : (P.cps.toList ++ [46, 46, 46] ++ S.cps.toList)[i + 2]? = some 46 := by
      have := congrArg (fun l => l[2]?) h2
      simpa [List.getElem?_take, List.getElem?_drop] using this
    have a0 := at_46 hp hs g0
    have a2 := at_46 hp hs g2
    omega
  · rintro rfl
    refine ⟨by omega, ?_⟩
    rw [List.append_assoc, hl, List.drop_left]
    rfl
theorem occ_dots {P S : PySem.Str} (hp : 46 ∉ P.cps.toList) (hs : 46 ∉ S.cps.toList) : occurrences (P ++ dots ++ S) dots 0 (P ++ dots ++ S).length ((P ++ dots ++ S).length + 1) = [P.length] := by
  obtain ⟨f, hc, hn⟩ := occ_tight (P ++ dots ++ S) dots (by decide +kernel)
  cases ho : occurrences (P ++ dots ++ S) dots 0 (P ++ dots ++ S).length ((P ++ dots ++ S).length + 1) with
  | nil =>
    rw [ho] at hc
    have e : f = 0 := hc
    exact absurd ((at_dots hp hs P.length).mpr rfl) (hn _ (by omega))
  | cons c r =>
    rw [ho] at hc
    obtain ⟨_, hA, _, hc2⟩ := hc
    have e := (at_dots hp hs c).mp hA
    subst e
    cases r with
    | nil => rfl
    | cons c2 r2 =>
      obtain ⟨h1, hA2, _⟩ := hc2
      have e2 := (at_dots hp hs c2).mp hA2
      rw [dots_len] at h1
      omega
theorem occ_dots1 {P S : PySem.Str} (hp : 46 ∉ P.cps.toList) (hs : 46 ∉ S.cps.toList) : (occurrences (P ++ dots ++ S) dots 0 (P ++ dots ++ S).length 1).isEmpty = false := by
  have := (found_iff (P ++ dots ++ S) dots).mpr ⟨P.length, (at_dots hp hs P.length).mpr rfl⟩
  simpa using this
theorem split_dots {P S : PySem.Str} (hp : 46 ∉ P.cps.toList) (hs : 46 ∉ S.cps.toList) : Txt.split (P ++ dots ++ S) dots = [P, S] := by
  have hlen : (P ++ dots ++ S).length = P.length + 3 + S.length := by rw [PySem.Str.length_append, PySem.Str.length_append, dots_len]
  have hl : P.length = P.cps.toList.length := rfl
  have hl2 : S.length = S.cps.toList.length := rfl
  have hx : (P ++ dots ++ S).cps.toList = P.cps.toList ++ ([46, 46, 46] ++ S.cps.toList) := by
    rw [PySem.Str.cps_append, PySem.Str.cps_append, Array.toList_append, Array.toList_append, dots_list, List.append_assoc]
  unfold Txt.split
  have hk : PySem.Builtin.Str.strKind dots = 1 := by decide +kernel
  have hk2 : 1 ≤ PySem.Builtin.Str.strKind (P ++ dots ++ S) := by unfold PySem.Builtin.Str.strKind; split <;> (try split) <;> omega
  rw [occ_dots hp hs, hk, dots_len]
  rw [if_neg (by simp; omega), if_neg (by simp), partsBetween_eq]
  show [strSub _ 0 P.length, strSub _ (P.length + 3) _] = _
  congr 1
  · apply PySem.Str.ext'
    apply Array.toList_inj.mp
    rw [strSub_toList, hx, List.drop_zero, Nat.sub_zero, hl, List.take_left]
  · congr 1
    apply PySem.Str.ext'
    apply Array.toList_inj.mp
    rw [strSub_toList, hx, hlen, ← List.drop_drop, hl, List.drop_left, List.drop_left' (by rfl)]
    rw [List.take_of_length_le (by omega)]
end

-- Sf1

def ellF (P S got : PySem.Str) : Bool := Txt.startswith got P && (Txt.endswith got S && decide (P.length + S.length ≤ got.length))
/-- the slips at one width -/
def slipAt (line other : PySem.Str) (width : Int) : Int := if width < (other.length : Int) - line.length + width then (other.length : Int) - line.length + width else width
def slipStep (line other : PySem.Str) (width : Int) (fewest k : Int) : Int :=
  if slipAt line other width < fewest ∧ ellF (Txt.slice line none (some k)) (Txt.slice line (some (k + width)) none) other = true then slipAt line other width else fewest
def slipIn (line other : PySem.Str) (fewest width : Int) : Int := (rangeKs 0 (line.length + 1 - width.toNat)).foldl (slipStep line other width) fewest
def slipsF (line other : PySem.Str) : Int := (rangeKs 0 5).foldl (slipIn line other) ((line.length : Int) + other.length)
theorem slice_upto {x : PySem.Str} {n : Nat} (h : n ≤ x.length) : (Txt.slice x none (some (n : Int))).cps.toList = x.cps.toList.take n := by
  have e : Txt.slice x none (some (n : Int)) = StrLaws.sliceText x none (some (n : Int)) := rfl
  have hl : x.length = x.cps.toList.length := rfl
  rw [e, StrLaws.sliceText_to ⟨by omega, by omega⟩]
  show ((x.cps.toList.drop 0).take ((n : Int) - 0).toNat) = _
  rw [List.drop_zero, show ((n : Int) - 0).toNat = n by omega]
theorem slice_upto_len {x : PySem.Str} {n : Nat} (h : n ≤ x.length) : (Txt.slice x none (some (n : Int))).length = n := by
  have := congrArg List.length (slice_upto h)
  rw [List.length_take] at this
  have hl : x.length = x.cps.toList.length := rfl
  have e : (Txt.slice x none (some (n : Int))).length = (Txt.slice x none (some (n : Int))).cps.toList.length := rfl
  omega
theorem nodot_upto {x : PySem.Str} {n : Nat} (h : n ≤ x.length) (hx : 46 ∉ x.cps.toList) : 46 ∉ (Txt.slice x none (some (n : Int))).cps.toList := by
  rw [slice_upto h]; exact fun q => hx (List.mem_of_mem_take q)
theorem nodot_from {x : PySem.Str} {n : Nat} (h : n ≤ x.length) (hx : 46 ∉ x.cps.toList) : 46 ∉ (Txt.slice x (some (n : Int)) none).cps.toList := by
  rw [slice_from h]; exact fun q => hx (List.mem_of_mem_drop q)
theorem range_to {b : Int} {n : Nat} (h : b = (n : Int)) : Builtin.Range.rangeSize 0 b 1 = (n : Int) := by
  subst h
  unfold Builtin.Range.rangeSize
  rw [if_pos (by decide)]
  split <;> omega
theorem slip_hit {line other : PySem.Str} {width fewest0 c k : Int} {pre : List Int} (hP : c = pre.foldl (slipStep line other width) fewest0) (h1 : slipAt line other width < c) (h2 : ellF (Txt.slice line none (some k)) (Txt.slice line (some (k + width)) none) other = true) :
    slipAt line other width = (pre ++ [k]).foldl (slipStep line other width) fewest0 := by
  rw [List.foldl_append, ← hP]
  exact (if_pos ⟨h1, h2⟩).symm
theorem slip_no1 {line other : PySem.Str} {width fewest0 c k : Int} {pre : List Int} (hP : c = pre.foldl (slipStep line other width) fewest0) (h1 : c ≤ slipAt line other width) :
    c = (pre ++ [k]).foldl (slipStep line other width) fewest0 := by
  rw [List.foldl_append, ← hP]
  exact (if_neg fun q => Int.not_lt.mpr h1 q.1).symm
theorem slip_no2 {line other : PySem.Str} {width fewest0 c k : Int} {pre : List Int} (hP : c = pre.foldl (slipStep line other width) fewest0) (h2 : ellF (Txt.slice line none (some k)) (Txt.slice line (some (k + width)) none) other = false) :
    c = (pre ++ [k]).foldl (slipStep line other width) fewest0 := by
  rw [List.foldl_append, ← hP]
  exact (if_neg fun q => by rw [h2] at q; cases q.2).symm
theorem slip_out {line other : PySem.Str} {width c c' s : Int} {n : Nat} {pre : List Int} (hP : c = pre.foldl (slipIn line other) s) (h : c' = (rangeKs 0 n).foldl (slipStep line other width) c) (hn : n = line.length + 1 - width.toNat) :
    c' = (pre ++ [width]).foldl (slipIn line other) s := by
  rw [List.foldl_append, ← hP, h, hn]; rfl

-- Sl1

section
open PySem.Builtin PySem.Builtin.Str PySem.StrLaws
theorem starts_list (x y : PySem.Str) : Txt.startswith x y = y.cps.toList.isPrefixOf x.cps.toList := by
  have hx : x.length = x.cps.toList.length := rfl
  have hy : y.length = y.cps.toList.length := rfl
  unfold Txt.startswith
  rw [subAt_eq, List.drop_zero, Bool.eq_iff_iff, Bool.and_eq_true, decide_eq_true_eq, beq_iff_eq, List.isPrefixOf_iff_prefix, List.prefix_iff_eq_take, hx, hy]
  constructor
  · rintro ⟨_, h⟩; exact h.symm
  · intro h
    have := congrArg List.length h
    rw [List.length_take] at this
    exact ⟨by omega, h.symm⟩
theorem ends_list (x y : PySem.Str) : Txt.endswith x y = y.cps.toList.isSuffixOf x.cps.toList := by
  have hx : x.length = x.cps.toList.length := rfl
  have hy : y.length = y.cps.toList.length := rfl
  unfold Txt.endswith
  rw [subAt_eq, Bool.eq_iff_iff, Bool.and_eq_true, decide_eq_true_eq, beq_iff_eq, List.isSuffixOf_iff_suffix, List.suffix_iff_eq_drop, hx, hy]
  constructor
  · rintro ⟨h1, h⟩
    rw [List.take_of_length_le (by rw [List.length_drop]; omega)] at h
    exact h.symm
  · intro h
    have hl := congrArg List.length h
    rw [List.length_drop] at hl
    refine ⟨by omega, ?_⟩
    rw [List.take_of_length_le (by rw [List.length_drop]; omega)]
    exact h.symm
end
/-- the match and the slips over plain lists -/
def ellL (ps ss gs : List Nat) : Bool := ps.isPrefixOf gs && (ss.isSuffixOf gs && Nat.ble (ps.length + ss.length) gs.length)
def slipLAt (a b width : Nat) : Nat := Nat.max width (b + width - a)
def slipLStep (xs ys : List Nat) (width : Nat) (slip : Nat) (fewest k : Nat) : Nat := if slip < fewest then (match ellL (xs.take k) (xs.drop (k + width)) ys with | true => slip | false => fewest) else fewest
def slipLIn (xs ys : List Nat) (fewest width : Nat) : Nat := (List.range (xs.length + 1 - width)).foldl (slipLStep xs ys width (slipLAt xs.length ys.length width)) fewest
def slipsL (xs ys : List Nat) : Nat := (List.range 5).foldl (slipLIn xs ys) (xs.length + ys.length)
theorem ellF_list (P S got : PySem.Str) : ellF P S got = ellL P.cps.toList S.cps.toList got.cps.toList := by
  unfold ellF ellL
  rw [starts_list, ends_list]
  congr 1
  congr 1
  exact (Bool.eq_iff_iff.mpr (by rw [decide_eq_true_eq, Nat.ble_eq]; exact Iff.rfl))
theorem fold_cast {f : Int → Int → Int} {g : Nat → Nat → Nat} : ∀ (n : Nat) (c : Nat), (∀ a i, i < n → f (a : Nat) ((i : Nat) : Int) = (g a i : Nat)) → (rangeKs 0 n).foldl f (c : Int) = ((List.range n).foldl g c : Nat) := by
  intro n c h
  have e : rangeKs 0 n = (List.range n).map fun i => ((i : Nat) : Int) := by simp [rangeKs]
  rw [e, List.foldl_map]
  have key : ∀ (l : List Nat), (∀ i ∈ l, i < n) → ∀ a : Nat, l.foldl (fun x y => f x ((y : Nat) : Int)) (a : Int) = (l.foldl g a : Nat) := by
    intro l
    induction l with
    | nil => intro _ a; rfl
    | cons x r ih =>
      intro hl a
      rw [List.foldl_cons, List.foldl_cons, h a x (hl x (.head _))]
      exact ih (fun i hi => hl i (.tail _ hi)) _
  exact key _ (fun i hi => List.mem_range.mp hi) c
theorem slips_list {line other : PySem.Str} (h4 : 4 ≤ line.length) : slipsF line other = (slipsL line.cps.toList other.cps.toList : Nat) := by
  have hx : line.length = line.cps.toList.length := rfl
  have hy : other.length = other.cps.toList.length := rfl
  unfold slipsF slipsL
  have e0 : (line.length : Int) + other.length = ((line.cps.toList.length + other.cps.toList.length : Nat) : Int) := by omega
  rw [e0]
  refine fold_cast 5 _ fun a w hw => ?_
  unfold slipIn slipLIn
  rw [show ((w : Int)).toNat = w by omega, hx]
  refine fold_cast _ a fun c k hk => ?_
  unfold slipStep slipLStep
  have es : slipAt line other (w : Int) = (slipLAt line.cps.toList.length other.cps.toList.length w : Nat) := by
    unfold slipAt slipLAt
    have hm : ∀ x y : Nat, Nat.max x y = if x < y then y else x := by intro x y; show max x y = _; split <;> omega
    rw [hm, hx, hy]
    split <;> split <;> omega
  have ek : ((k : Int) + (w : Int)) = ((k + w : Nat) : Int) := by omega
  rw [es, ek, ellF_list, slice_upto (by omega), slice_from (by omega)]
  by_cases h1 : slipLAt line.cps.toList.length other.cps.toList.length w < c
  · rw [if_pos h1]
    cases hE : ellL (List.take k line.cps.toList) (List.drop (k + w) line.cps.toList) other.cps.toList with
    | true => rw [if_pos ⟨by omega, rfl⟩]
    | false => rw [if_neg (by simp)]
  · rw [if_neg h1, if_neg (by omega)]
def lineL (t b : Nat) : List Nat := List.replicate t 9 ++ (List.replicate b 32 ++ [120])
def lineS (t b : Nat) : PySem.Str := ⟨(lineL t b).toArray⟩
/-- what is due: the greatest of the three differences -/
def dueN (t b i j : Nat) : Nat := Nat.max (Nat.max ((i - t) + (t - i)) ((j - b) + (b - j))) ((i + j - (t + b)) + (t + b - (i + j)))
theorem slips_all : ∀ t < 4, ∀ b < 4, ∀ i < 5, ∀ j < 5, slipsL (lineL (t+2) (b+2)) (lineL (t+i) (b+j)) = dueN (t+2) (b+2) (t+i) (b+j) := by decide +kernel

-- Gr1

/-- the end of a turn of a loop whose made objects may grow in number -/
def GEnd (h₀ : Heap) (L : Addr) (J : (PySem.Str → Option Value) → List (Addr × Obj) → Prop) (I : Addr) (it : Obj) (s₁ s₂ : Shared) : Prop :=
  ∃ h' tk m' nx, s₂ = { s₁ with heap := h', toks := tk } ∧ Fr h₀ L h' m' ∧ News h₀ L h' ((I, it) :: nx) ∧ (∀ p ∈ nx, p.1 ≠ I) ∧ J m' nx
def GPost (h₀ : Heap) (L : Addr) (J : (PySem.Str → Option Value) → List (Addr × Obj) → Prop) (I : Addr) (it : Obj) (s₁ : Shared) (Q : Flow → Shared → Prop) (f : Flow) (s₂ : Shared) : Prop :=
  match f with
  | .ret v => Q (.ret v) s₂
  | .brk => Q .next s₂
  | _ => GEnd h₀ L J I it s₁ s₂
theorem gend_ {h₀ : Heap} {L : Addr} {J : (PySem.Str → Option Value) → List (Addr × Obj) → Prop} {I : Addr} {it : Obj} {s₁ s₂ : Shared} {m' : PySem.Str → Option Value} {all : List (Addr × Obj)} (e : s₂ = { s₁ with heap := s₂.heap, toks := s₂.toks }) (F : Fr h₀ L s₂.heap m') (N : News h₀ L s₂.heap all)
    (hI : (I, it) ∈ all) (nx : List (Addr × Obj)) (sub : ∀ p ∈ nx, p ∈ all) (off : ∀ p ∈ nx, p.1 ≠ I) (hJ : J m' nx) : GEnd h₀ L J I it s₁ s₂ :=
  ⟨_, _, m', nx, e, F, (fun p hp => by rcases List.mem_cons.mp hp with rfl | hp; exact N _ hI; exact N _ (sub p hp)), off, hJ⟩
section
variable {prog : Program} {w : World} {A : Around} {E : Value → Shared → Prop} {s : Shared} {env : Env} {h₀ : Heap} {x : PySem.Str} {body : List Stmt} {Q : Flow → Shared → Prop} {m₀ : PySem.Str → Option Value} {news : List (Addr × Obj)}
theorem grow_of {I : Addr} {n : Nat} {P : Nat → Value → Prop} {St : Nat → Heap → Prop} {ty : String} (W : Walks prog w A I [I] [I] n P St) (hSt : ∀ i h, St i h → ∃ it, h.get? I = some it ∧ it.cls = .type ty) (hI : h₀.get? I = none) (hIL : env.locals ≠ I)
    (F : Fr h₀ env.locals s.heap m₀) (N : News h₀ env.locals s.heap news) (hne : ∀ p ∈ news, p.1 ≠ I) (hst : St 0 s.heap) (J : Nat → (PySem.Str → Option Value) → List (Addr × Obj) → Prop) (hJ : J 0 m₀ news)
    (turn : ∀ i v it m₁ nx h tk, it.cls = .type ty → i < n → P i v → J i m₁ nx → (∀ p ∈ nx, p.1 ≠ I) → Fr h₀ env.locals h (fun y => if y = x then some v else m₁ y) → News h₀ env.locals h ((I, it) :: nx) →
      wpAny (model prog w) A (execs body env) (GPost h₀ env.locals (J (i + 1)) I it { s with heap := h, toks := tk } Q) E { s with heap := h, toks := tk })
    (done : ∀ m₁ nx h tk, J n m₁ nx → Fr h₀ env.locals h m₁ → News h₀ env.locals h nx → Q .next { s with heap := h, toks := tk }) :
    LoopAtV prog w A h₀ env x body Q E (.ref I) s := by
  refine ⟨I, [I], [I], n, P, St, m₀, news, J, rfl, W, fun hm => hIL (List.mem_singleton.mp hm), fun b hb => (List.mem_singleton.mp hb) ▸ hI, fun p hp hm => hne p hp (List.mem_singleton.mp hm), hst, F, N, hJ, ?_, ?_⟩
  · rintro i v m₁ nx s₁ own ⟨h, tk, rfl⟩ hin hP hJ hoff hown hget hall hst' F₁ N₁
    obtain ⟨it, hit, hcls⟩ := hSt _ _ hst'
    have hm := hall I (List.mem_singleton.mpr rfl) hI it hit
    have hoff' : ∀ p ∈ nx, p.1 ≠ I := fun p hp e => hoff p hp (List.mem_singleton.mpr e)
    have N₂ : News h₀ env.locals h ((I, it) :: nx) := fun p hp => by
      rcases List.mem_cons.mp hp with rfl | hp
      · exact N₁ _ (List.mem_append_left _ hm)
      · exact N₁ _ (List.mem_append_right _ hp)
    refine wpAny_mono (turn i v it m₁ nx h tk hcls hin hP hJ hoff' F₁ N₂) (fun f s₂ p => ?_) fun _ _ e => e
    have fin : GEnd h₀ env.locals (J (i + 1)) I it { s with heap := h, toks := tk } s₂ → LoopStepU h₀ env.locals [I] own (J (i + 1)) { s with heap := h, toks := tk } .next s₂ := by
      rintro ⟨h', tk', m', nx', e, F', N', ho, hJ'⟩
      refine ⟨rfl, h', tk', m', nx', e, F', fun p hp => ?_, fun p hp hI => ho p hp (List.mem_singleton.mp hI), hJ'⟩
      rcases List.mem_append.mp hp with hp | hp
      · have h1 : p.1 = I := List.mem_singleton.mp (hown p hp)
        have h2 : h.get? p.1 = some p.2 := hget p hp
        have h3 : p = (I, it) := by
          rw [h1, hit] at h2
          exact Prod.ext h1 (Option.some.inj h2).symm
        rw [h3]; exact N' _ (List.mem_cons_self ..)
      · exact N' _ (List.mem_cons_of_mem _ hp)
    cases f with
    | ret v => exact .ret p
    | brk => exact .brk p
    | next => exact .next (fin p)
    | cont => exact .cont (fin p)
  · rintro h' tk m' nx' F' N' _ hJ
    exact done m' nx' h' tk hJ F' N'
theorem grow_range {r : Addr} {a₀ b₀ : Int} {t₀ u₀ v₀ : Tok} {n : Nat} (J : Nat → (PySem.Str → Option Value) → List (Addr × Obj) → Prop)
    (hh : A.handled = none) (hr : IsRange s.heap r a₀ b₀ 1 t₀ u₀ v₀) (hsmall : Builtin.Range.small a₀ b₀ 1 = true) (hn : Builtin.Range.rangeSize a₀ b₀ 1 = (n : Int)) (F : Fr h₀ env.locals s.heap m₀) (N : News h₀ env.locals s.heap news) (hJ : J 0 m₀ news)
    (turn : ∀ I i t it m₁ nx h tk, it.cls = .type "range_iterator" → i < n → J i m₁ nx → (∀ p ∈ nx, p.1 ≠ I) → Fr h₀ env.locals h (fun y => if y = x then some (.int (a₀ + (i : Int)) t) else m₁ y) → News h₀ env.locals h ((I, it) :: nx) →
      wpAny (model prog w) A (execs body env) (GPost h₀ env.locals (J (i + 1)) I it { s with heap := h, toks := tk } Q) E { s with heap := h, toks := tk })
    (done : ∀ m₁ nx h tk, J n m₁ nx → Fr h₀ env.locals h m₁ → News h₀ env.locals h nx → Q .next { s with heap := h, toks := tk }) :
    wpAny (model prog w) A (pyIter (.ref r)) (fun it s₂ => LoopAtV prog w A h₀ env x body Q E it s₂) E s := by
  refine wpAny_pyIter_range hr hsmall ?_
  have W : Walks prog w A s.heap.objs.size [s.heap.objs.size] [s.heap.objs.size] n (fun i v => i < n ∧ ∃ t, v = .int (a₀ + i * 1) t)
      (fun i h => IsRangeIter h s.heap.objs.size (a₀ + (i : Nat) * 1) ((n : Int) - (i : Nat)) 1) := (Walks.range hh _ a₀ 1 n).bound
  refine grow_of (ty := "range_iterator") W (fun i h hi => ⟨_, hi, rfl⟩) (next_is_new F) (Nat.ne_of_lt F.ns.lt) (F.push _) (fun p hp => ⟨Heap.get?_push_of_some _ (N p hp).1, (N p hp).2⟩) (fun p hp => Nat.ne_of_lt (Heap.lt_size (N p hp).1))
    (by show IsRangeIter _ _ _ _ _; rw [hn]; simpa using Heap.get?_push_size _ rfl) J hJ ?_ ?_
  · rintro i v it m₁ nx h tk hc hi ⟨_, t, rfl⟩ hJ hoff F₁ N₁
    rw [Int.mul_one] at F₁
    exact turn _ i t it m₁ nx h tk hc hi hJ hoff F₁ N₁
  · exact done
theorem grow_str {y : PySem.Str} {ty : Tok} (J : Nat → (PySem.Str → Option Value) → List (Addr × Obj) → Prop)
    (hh : A.handled = none) (ha : y.cps.all (· < 128) = true) (F : Fr h₀ env.locals s.heap m₀) (N : News h₀ env.locals s.heap news) (hJ : J 0 m₀ news)
    (turn : ∀ I i c t it m₁ nx h tk, it.cls = .type "str_ascii_iterator" → i < y.cps.size → y.cps[i]? = some c → J i m₁ nx → (∀ p ∈ nx, p.1 ≠ I) → Fr h₀ env.locals h (fun z => if z = x then some (.str ⟨#[c]⟩ t) else m₁ z) → News h₀ env.locals h ((I, it) :: nx) →
      wpAny (model prog w) A (execs body env) (GPost h₀ env.locals (J (i + 1)) I it { s with heap := h, toks := tk } Q) E { s with heap := h, toks := tk })
    (done : ∀ m₁ nx h tk, J y.cps.size m₁ nx → Fr h₀ env.locals h m₁ → News h₀ env.locals h nx → Q .next { s with heap := h, toks := tk }) :
    wpAny (model prog w) A (pyIter (.str y ty)) (fun it s₂ => LoopAtV prog w A h₀ env x body Q E it s₂) E s := by
  refine wpAny_pyIter_ascii ha ?_
  refine grow_of (ty := "str_ascii_iterator") (Walks.strAscii hh _ y ty) (fun i h hi => ⟨_, hi.choose_spec.1, hi.choose_spec.2.1⟩) (next_is_new F) (Nat.ne_of_lt F.ns.lt) (F.push _) (fun p hp => ⟨Heap.get?_push_of_some _ (N p hp).1, (N p hp).2⟩) (fun p hp => Nat.ne_of_lt (Heap.lt_size (N p hp).1))
    ⟨_, Heap.get?_push_size _ rfl, rfl, rfl⟩ J hJ ?_ ?_
  · rintro i v it m₁ nx h tk hc hi ⟨c, t, hc', rfl⟩ hJ hoff F₁ N₁
    exact turn _ i c t it m₁ nx h tk hc hi hc' hJ hoff F₁ N₁
  · exact done
end

-- Wf1

/-- the sign at a place of tabs, blanks and a tail -/
theorem sign_tab {y : PySem.Str} {p q i c : Nat} {tail : List Nat} (hy : y.cps.toList = List.replicate p 9 ++ (List.replicate q 32 ++ tail)) (hi : i < p) (h : y.cps[i]? = some c) : c = 9 := by
  rw [← Array.getElem?_toList, hy, List.getElem?_append_left (by simpa using hi), List.getElem?_replicate, if_pos hi] at h
  exact (Option.some.inj h).symm
theorem sign_blank {y : PySem.Str} {p q i c : Nat} {tail : List Nat} (hy : y.cps.toList = List.replicate p 9 ++ (List.replicate q 32 ++ tail)) (h1 : p ≤ i) (h2 : i < p + q) (h : y.cps[i]? = some c) : c = 32 := by
  rw [← Array.getElem?_toList, hy, List.getElem?_append_right (by simpa using h1), List.length_replicate, List.getElem?_append_left (by simp; omega), List.getElem?_replicate, if_pos (by omega)] at h
  exact (Option.some.inj h).symm
theorem sign_tail {y : PySem.Str} {p q c : Nat} {tail : List Nat} (hy : y.cps.toList = List.replicate p 9 ++ (List.replicate q 32 ++ tail)) (ht : tail = [] ∨ tail = [120]) (h : y.cps[p + q]? = some c) : c = 120 := by
  rw [← Array.getElem?_toList, hy, List.getElem?_append_right (by simp), List.length_replicate, List.getElem?_append_right (by simp), List.length_replicate, show p + q - p - q = 0 by omega] at h
  rcases ht with rfl | rfl
  · cases h
  · exact (Option.some.inj h).symm
theorem size_of {y : PySem.Str} {p q : Nat} {tail : List Nat} (hy : y.cps.toList = List.replicate p 9 ++ (List.replicate q 32 ++ tail)) : y.cps.size = p + q + tail.length := by
  have := congrArg List.length hy
  simpa [Nat.add_assoc] using this
theorem ascii_of {y : PySem.Str} {p q : Nat} {tail : List Nat} (hy : y.cps.toList = List.replicate p 9 ++ (List.replicate q 32 ++ tail)) (ht : tail = [] ∨ tail = [120]) : y.cps.all (· < 128) = true := by
  rw [← Array.all_toList, hy, List.all_append, List.all_append]
  rcases ht with rfl | rfl <;> simp [List.all_replicate]
/-- the loop's frame -/
abbrev wsMap (m₀ u : PySem.Str → Option Value) (D : Addr) (b n nt : Int) (tb tn tt : Tok) : PySem.Str → Option Value := fun z => if z = PySem.Str.ofString "ch" then u z else if z = PySem.Str.ofString "count" then some (.ref D) else if z = PySem.Str.ofString "b" then some (.int b tb) else if z = PySem.Str.ofString "n" then some (.int n tn) else if z = PySem.Str.ofString "nt" then some (.int nt tt) else m₀ z
theorem wsMap_eq {m₀ m : PySem.Str → Option Value} {D : Addr} {b n nt : Int} {tb tn tt : Tok} (h1 : m (PySem.Str.ofString "count") = some (.ref D)) (h2 : m (PySem.Str.ofString "b") = some (.int b tb)) (h3 : m (PySem.Str.ofString "n") = some (.int n tn)) (h4 : m (PySem.Str.ofString "nt") = some (.int nt tt))
    (hr : ∀ z, z ≠ PySem.Str.ofString "ch" → z ≠ PySem.Str.ofString "count" → z ≠ PySem.Str.ofString "b" → z ≠ PySem.Str.ofString "n" → z ≠ PySem.Str.ofString "nt" → m z = m₀ z) : m = wsMap m₀ m D b n nt tb tn tt := by
  funext z
  unfold wsMap
  by_cases e : z = PySem.Str.ofString "ch"
  · rw [if_pos e]
  rw [if_neg e]
  by_cases e1 : z = PySem.Str.ofString "count"
  · rw [if_pos e1, e1, h1]
  rw [if_neg e1]
  by_cases e2 : z = PySem.Str.ofString "b"
  · rw [if_pos e2, e2, h2]
  rw [if_neg e2]
  by_cases e3 : z = PySem.Str.ofString "n"
  · rw [if_pos e3, e3, h3]
  rw [if_neg e3]
  by_cases e4 : z = PySem.Str.ofString "nt"
  · rw [if_pos e4, e4, h4]
  rw [if_neg e4]
  exact hr z e e1 e2 e3 e4
/-- what holds between two turns of __init__'s loop -/
def wsJ (p q : Nat) (x : Addr) (R : List (Addr × Obj)) (m₀ : PySem.Str → Option Value) (i : Nat) (m : PySem.Str → Option Value) (nx : List (Addr × Obj)) : Prop :=
  ∃ (D : Addr) (vs : List Value) (c : Nat) (tb tn tt : Tok) (u : PySem.Str → Option Value), i ≤ p + q ∧ @LT.lt Nat _ x D ∧ ((min i p = 0 ∧ vs = []) ∨ (0 < min i p ∧ ∃ tc, vs = [.int (min i p : Nat) tc])) ∧ nx = (D, W.listOf vs.toArray c) :: R ∧ m = wsMap m₀ u D (i - p : Nat) (i : Nat) (min i p : Nat) tb tn tt
theorem wsJ_intro {p q : Nat} {x D : Addr} {R : List (Addr × Obj)} {m₀ m : PySem.Str → Option Value} {i : Nat} {vs : List Value} {c : Nat} {b n nt : Int} {tb tn tt : Tok} (hi : i ≤ p + q) (hx : @LT.lt Nat _ x D) (hv : (min i p = 0 ∧ vs = []) ∨ (0 < min i p ∧ ∃ tc, vs = [.int (min i p : Nat) tc]))
    (h1 : m (PySem.Str.ofString "count") = some (.ref D)) (h2 : m (PySem.Str.ofString "b") = some (.int b tb)) (h3 : m (PySem.Str.ofString "n") = some (.int n tn)) (h4 : m (PySem.Str.ofString "nt") = some (.int nt tt)) (eb : b = (i - p : Nat)) (en : n = (i : Nat)) (et : nt = (min i p : Nat))
    (hr : ∀ z, z ≠ PySem.Str.ofString "ch" → z ≠ PySem.Str.ofString "count" → z ≠ PySem.Str.ofString "b" → z ≠ PySem.Str.ofString "n" → z ≠ PySem.Str.ofString "nt" → m z = m₀ z) : wsJ p q x R m₀ i m ((D, W.listOf vs.toArray c) :: R) := by
  subst eb en et
  exact ⟨D, vs, c, tb, tn, tt, m, hi, hx, hv, rfl, wsMap_eq h1 h2 h3 h4 hr⟩
theorem news_drop2 {h₀ h : Heap} {L : Addr} {a b : Addr × Obj} {r : List (Addr × Obj)} (N : News h₀ L h (a :: b :: r)) : News h₀ L h (a :: r) := fun p hp => N p (by
  rcases List.mem_cons.mp hp with rfl | hp
  · exact List.mem_cons_self ..
  · exact List.mem_cons_of_mem _ (List.mem_cons_of_mem _ hp))
theorem ints_one {vs : List Value} {ns : List Int} {k : Int} (h : IntsAre vs ns) (e : ns = [k]) : ∃ t, vs = [.int k t] := by
  subst e
  cases h with
  | cons n t r => cases r; exact ⟨t, rfl⟩
theorem ws_end {h₀ h' : Heap} {L : Addr} {p q i : Nat} {x D I : Addr} {it : Obj} {R all : List (Addr × Obj)} {m₀ m' : PySem.Str → Option Value} {vs : List Value} {c : Nat} {b n nt : Int} {tb tn tt : Tok} {s₁ : Shared} {tk : Nat}
    (F : Fr h₀ L h' m') (N : News h₀ L h' all) (h1 : m' (PySem.Str.ofString "count") = some (.ref D)) (h2 : m' (PySem.Str.ofString "b") = some (.int b tb)) (h3 : m' (PySem.Str.ofString "n") = some (.int n tn)) (h4 : m' (PySem.Str.ofString "nt") = some (.int nt tt))
    (hI : (I, it) ∈ all) (hD : (D, W.listOf vs.toArray c) ∈ all) (hR : ∀ p ∈ R, p ∈ all) (offD : D ≠ I) (offR : ∀ p ∈ R, p.1 ≠ I) (hi : i + 1 ≤ p + q) (hx : @LT.lt Nat _ x D) (hv : (min (i + 1) p = 0 ∧ vs = []) ∨ (0 < min (i + 1) p ∧ ∃ tc, vs = [.int (min (i + 1) p : Nat) tc]))
    (eb : b = (i + 1 - p : Nat)) (en : n = (i + 1 : Nat)) (et : nt = (min (i + 1) p : Nat))
    (hr : ∀ z, z ≠ PySem.Str.ofString "ch" → z ≠ PySem.Str.ofString "count" → z ≠ PySem.Str.ofString "b" → z ≠ PySem.Str.ofString "n" → z ≠ PySem.Str.ofString "nt" → m' z = m₀ z) :
    GEnd h₀ L (wsJ p q x R m₀ (i + 1)) I it s₁ { s₁ with heap := h', toks := tk } :=
  gend_ rfl F N hI ((D, W.listOf vs.toArray c) :: R) (fun p hp => by rcases List.mem_cons.mp hp with rfl | hp; exact hD; exact hR p hp) (fun p hp => by rcases List.mem_cons.mp hp with rfl | hp; exact offD; exact offR p hp)
    (wsJ_intro hi hx hv h1 h2 h3 h4 eb en et hr)
theorem val_eq {a b : Int} {t : Tok} (h : a = b) : ∃ tc, [Value.int a t] = [Value.int b tc] := ⟨t, by rw [h]⟩
/-- behind a def that was entered with `own` alone in its hand: the caller's frame and all made objects -/
theorem back_ {h₀ h1 g : Heap} {L : Addr} {m : PySem.Str → Option Value} {own news : List (Addr × Obj)} (F1 : Fr h₀ L h1 m) (N1 : News h₀ L h1 (own ++ news)) (hd : ∀ p ∈ news, p.1 ∉ own.map (·.1)) (hg : g = hideAll h1 (own.map (·.1))) :
    ∀ (L' : Addr) (m' : PySem.Str → Option Value) (h' : Heap) (objs : List (Addr × Obj)), Fr g L' h' m' → News g L' h' objs → Fr h₀ L h' m ∧ News h₀ L h' (objs ++ news) := by
  intro L' m' h' objs F' N'
  subst hg
  have hL : ∀ o, h1.get? L = some o → (hideAll h1 (own.map (·.1))).get? L = some o := fun o e => hideAll_get _ e fun q => by
    obtain ⟨p, hp, e2⟩ := List.mem_map.mp q
    exact (N1 p (List.mem_append_left _ hp)).2.1 e2
  have h0 : ∀ b o, h₀.get? b = some o → (hideAll h1 (own.map (·.1))).get? b = some o := fun b o e => hideAll_get _ (F1.keep b o e) fun q => by
    obtain ⟨p, hp, rfl⟩ := List.mem_map.mp q
    rw [(N1 p (List.mem_append_left _ hp)).2.2] at e; cases e
  obtain ⟨⟨oL, es, ep, hLo, r⟩, k, ab⟩ := F1
  refine ⟨⟨⟨oL, es, ep, F'.keep _ _ (hL _ hLo), r⟩, fun b o e => F'.keep b o (h0 b o e), ab⟩, fun p hp => ?_⟩
  rcases List.mem_append.mp hp with hp | hp
  · refine ⟨(N' p hp).1, fun e => ?_, ?_⟩
    · have := (N' p hp).2.2
      rw [e, hL _ hLo] at this; cases this
    · cases q : h₀.get? p.1 with
      | none => rfl
      | some o => have := (N' p hp).2.2; rw [h0 _ _ q] at this; cases this
  · exact ⟨F'.keep _ _ (hideAll_get _ (N1 p (List.mem_append_right _ hp)).1 (hd p hp)), (N1 p (List.mem_append_right _ hp)).2⟩
/-- a Whitespace, as its ledger -/
abbrev wsTup (vs : List Value) : Obj := { cls := .type "tuple", data := .seq vs.toArray }
structure WsToks where
  (t1 t2 t3 t4 t5 t6 t7 t8 t9 : Tok)
abbrev wsObjs (C : Addr) (w : World) (x dx nm ct : Addr) (y : PySem.Str) (n nt b : Int) (cs : List Value) (T : WsToks) : List (Addr × Obj) :=
  [(x, instObj C dx), (dx, dictOf [⟨PyData.keyHash w.params (PySem.Str.ofString "raw"), .str (PySem.Str.ofString "raw") T.t1, .str y T.t2⟩, ⟨PyData.keyHash w.params (PySem.Str.ofString "n"), .str (PySem.Str.ofString "n") T.t3, .int n T.t4⟩, ⟨PyData.keyHash w.params (PySem.Str.ofString "nt"), .str (PySem.Str.ofString "nt") T.t5, .int nt T.t6⟩, ⟨PyData.keyHash w.params (PySem.Str.ofString "norm"), .str (PySem.Str.ofString "norm") T.t7, .ref nm⟩, ⟨PyData.keyHash w.params (PySem.Str.ofString "is_simple"), .str (PySem.Str.ofString "is_simple") T.t8, .bool true⟩] 5), (nm, wsTup [.ref ct, .int b T.t9]), (ct, wsTup cs)]
theorem ws_ret {h₀ g : Heap} {L : Addr} {m : PySem.Str → Option Value} {news : List (Addr × Obj)} (hback : ∀ (L' : Addr) (m' : PySem.Str → Option Value) (h' : Heap) (objs : List (Addr × Obj)), Fr g L' h' m' → News g L' h' objs → Fr h₀ L h' m ∧ News h₀ L h' (objs ++ news))
    {C : Addr} {w : World} {x dx nm ct L' : Addr} {y : PySem.Str} {n nt b : Int} {cs : List Value} {t1 t2 t3 t4 t5 t6 t7 t8 t9 : Tok} {m' : PySem.Str → Option Value} {h' : Heap} {all : List (Addr × Obj)} (F' : Fr g L' h' m') (N' : News g L' h' all)
    (hx : (x, instObj C dx) ∈ all) (hdx : (dx, dictOf [⟨PyData.keyHash w.params (PySem.Str.ofString "raw"), .str (PySem.Str.ofString "raw") t1, .str y t2⟩, ⟨PyData.keyHash w.params (PySem.Str.ofString "n"), .str (PySem.Str.ofString "n") t3, .int n t4⟩, ⟨PyData.keyHash w.params (PySem.Str.ofString "nt"), .str (PySem.Str.ofString "nt") t5, .int nt t6⟩, ⟨PyData.keyHash w.params (PySem.Str.ofString "norm"), .str (PySem.Str.ofString "norm") t7, .ref nm⟩, ⟨PyData.keyHash w.params (PySem.Str.ofString "is_simple"), .str (PySem.Str.ofString "is_simple") t8, .bool true⟩] 5) ∈ all)
    (hnm : (nm, wsTup [.ref ct, .int b t9]) ∈ all) (hct : (ct, wsTup cs) ∈ all) : Fr h₀ L h' m ∧ News h₀ L h' (wsObjs C w x dx nm ct y n nt b cs ⟨t1, t2, t3, t4, t5, t6, t7, t8, t9⟩ ++ news) :=
  hback L' m' h' _ F' fun p hp => N' p (by
    simp only [wsObjs, List.mem_cons, List.not_mem_nil, or_false] at hp
    rcases hp with rfl | rfl | rfl | rfl
    · exact hx
    · exact hdx
    · exact hnm
    · exact hct)
theorem stays_own {h₀ h h' g : Heap} {L L' : Addr} {own : List (Addr × Obj)} {m' : PySem.Str → Option Value} (N : News h₀ L h own) (hg : g = hideAll h (own.map (·.1))) (F' : Fr g L' h' m') (N' : News g L' h' own) : h.StaysIn h' := by
  subst hg
  intro b o e
  by_cases hb : b ∈ own.map (·.1)
  · obtain ⟨p, hp, rfl⟩ := List.mem_map.mp hb
    have h1 := (N p hp).1
    rw [e] at h1
    rw [Option.some.inj h1]
    exact (N' p hp).1
  · exact F'.keep _ _ (hideAll_get _ e hb)
theorem range_none {a b : Int} (h : b ≤ a) : Builtin.Range.rangeSize a b 1 = ((0 : Nat) : Int) := by
  unfold Builtin.Range.rangeSize
  rw [if_pos (by decide), if_neg (by omega)]; rfl
section
variable {prog : Program} {w : World} {A : Around} {E : Value → Shared → Prop} {s : Shared} {env : Env} {h₀ : Heap} {x : PySem.Str} {body : List Stmt} {Q : Flow → Shared → Prop} {m₀ : PySem.Str → Option Value} {news : List (Addr × Obj)}
/-- a loop over an empty range -/
theorem iter_none {r : Addr} {a b : Int} {t₀ u₀ v₀ : Tok} (hh : A.handled = none) (hr : IsRange s.heap r a b 1 t₀ u₀ v₀) (hab : b ≤ a) (h1 : -1000000 ≤ b) (h2 : a ≤ 1000000) (F : Fr h₀ env.locals s.heap m₀) (N : News h₀ env.locals s.heap news)
    (done : ∀ h tk, Fr h₀ env.locals h m₀ → News h₀ env.locals h news → Q .next { s with heap := h, toks := tk }) :
    wpAny (model prog w) A (pyIter (.ref r)) (fun it s₂ => LoopAtV prog w A h₀ env x body Q E it s₂) E s := by
  refine grow_range (n := 0) (fun _ m nx => m = m₀ ∧ nx = news) hh hr (small_one (by omega) (by omega) (by omega) (by omega)) (range_none hab) F N ⟨rfl, rfl⟩ ?_ ?_
  · intro I i _ _ _ _ _ _ _ hi
    exact absurd hi (Nat.not_lt_zero _)
  · rintro m₁ nx h tk ⟨rfl, rfl⟩ F N
    exact done h tk F N
end

-- Nf1

theorem lev_all : ∀ t < 4, ∀ b < 4, ∀ i < 5, ∀ j < 5, levF (lineS (t+2) (b+2)) (lineS (t+i) (b+j)) 8 = 2 * (dueN (t+2) (b+2) (t+i) (b+j) : Nat) := by decide +kernel
/-- one of the 25 lines hits -/
def hitB (tabs blanks rest size i j : Int) : Bool := ((j + size * i).fmod 19 == rest) && decide (dueN tabs.toNat blanks.toNat i.toNat j.toNat ≤ 2)
def nearStep (tabs blanks rest size i : Int) (l : List (Int × Int)) (j : Int) : List (Int × Int) := if hitB tabs blanks rest size i j then l ++ [(i, j)] else l
def nearIn (tabs blanks rest size : Int) (l : List (Int × Int)) (i : Int) : List (Int × Int) := (rangeKs (blanks - 2) 5).foldl (nearStep tabs blanks rest size i) l
def nearF (tabs blanks rest size : Int) : List (Int × Int) := (rangeKs (tabs - 2) 5).foldl (nearIn tabs blanks rest size) []
def max3 (a b c : Int) : Int := if b > a then (if c > b then c else b) else (if c > a then c else a)
def absI (x : Int) : Int := if x < 0 then -x else x
theorem max_all : ∀ t < 4, ∀ b < 4, ∀ k < 5, ∀ l < 5, max3 (absI (((t + k : Nat) : Int) - ((t + 2 : Nat) : Int))) (absI (((b + l : Nat) : Int) - ((b + 2 : Nat) : Int))) (absI (((t + k : Nat) : Int) + ((b + l : Nat) : Int) - ((t + 2 : Nat) : Int) - ((b + 2 : Nat) : Int))) = ((dueN (t + 2) (b + 2) (t + k) (b + l) : Nat) : Int) := by decide +kernel
/-- what is known of a line beside the line -/
theorem near_fact {tabs blanks i j : Int} (ht : 2 ≤ tabs ∧ tabs ≤ 5) (hb : 2 ≤ blanks ∧ blanks ≤ 5) (hi : tabs - 2 ≤ i ∧ i ≤ tabs + 2) (hj : blanks - 2 ≤ j ∧ j ≤ blanks + 2) :
    slipsF (lineS tabs.toNat blanks.toNat) (lineS i.toNat j.toNat) = (dueN tabs.toNat blanks.toNat i.toNat j.toNat : Nat) ∧ levF (lineS tabs.toNat blanks.toNat) (lineS i.toNat j.toNat) 8 = 2 * (dueN tabs.toNat blanks.toNat i.toNat j.toNat : Nat) ∧
    (if (if j - blanks < 0 then -(j - blanks) else j - blanks) > (if i - tabs < 0 then -(i - tabs) else i - tabs) then (if (if i + j - tabs - blanks < 0 then -(i + j - tabs - blanks) else i + j - tabs - blanks) > (if j - blanks < 0 then -(j - blanks) else j - blanks) then (if i + j - tabs - blanks < 0 then -(i + j - tabs - blanks) else i + j - tabs - blanks) else (if j - blanks < 0 then -(j - blanks) else j - blanks)) else (if (if i + j - tabs - blanks < 0 then -(i + j - tabs - blanks) else i + j - tabs - blanks) > (if i - tabs < 0 then -(i - tabs) else i - tabs) then (if i + j - tabs - blanks < 0 then -(i + j - tabs - blanks) else i + j - tabs - blanks) else (if i - tabs < 0 then -(i - tabs) else i - tabs))) = ((dueN tabs.toNat blanks.toNat i.toNat j.toNat : Nat) : Int) := by
  obtain ⟨t, rfl⟩ : ∃ t : Nat, tabs = ((t + 2 : Nat) : Int) := ⟨(tabs - 2).toNat, by omega⟩
  obtain ⟨b, rfl⟩ : ∃ b : Nat, blanks = ((b + 2 : Nat) : Int) := ⟨(blanks - 2).toNat, by omega⟩
  obtain ⟨k, rfl⟩ : ∃ k : Nat, i = ((t + k : Nat) : Int) := ⟨(i - t).toNat, by omega⟩
  obtain ⟨l, rfl⟩ : ∃ l : Nat, j = ((b + l : Nat) : Int) := ⟨(j - b).toNat, by omega⟩
  simp only [Int.toNat_natCast]
  have h1 := slips_all t (by omega) b (by omega) k (by omega) l (by omega)
  have h2 := lev_all t (by omega) b (by omega) k (by omega) l (by omega)
  have hl : (lineS (t + 2) (b + 2)).length = (t + 2) + ((b + 2) + 1) := by simp [lineS, lineL, PySem.Str.length]
  refine ⟨?_, h2, max_all t (by omega) b (by omega) k (by omega) l (by omega)⟩
  rw [slips_list (by omega)]
  have e : ∀ x y, (lineS x y).cps.toList = lineL x y := fun x y => rfl
  rw [e, e, h1]
theorem lineS_len (t b : Nat) : (lineS t b).length = t + b + 1 := by simp [lineS, lineL, PySem.Str.length]; omega
theorem lineS_nodot (t b : Nat) : 46 ∉ (lineS t b).cps.toList := by
  show 46 ∉ lineL t b
  unfold lineL
  simp [List.mem_append, List.mem_replicate]
theorem lineS_list (t b : Nat) : (lineS t b).cps.toList = List.replicate t 9 ++ (List.replicate b 32 ++ [120]) := rfl

-- Nj1

def TupsAre : List (Addr × Obj) → List (Int × Int) → Prop
  | [], [] => True
  | d :: ds, p :: ps => (∃ tx ty, d.2 = wsTup [.int p.1 tx, .int p.2 ty]) ∧ TupsAre ds ps
  | _, _ => False
theorem TupsAre.snoc {D : Addr} {x y : Int} {tx ty : Tok} : ∀ {ds : List (Addr × Obj)} {l : List (Int × Int)}, TupsAre ds l → TupsAre (ds ++ [(D, wsTup [.int x tx, .int y ty])]) (l ++ [(x, y)])
  | [], [], _ => ⟨⟨tx, ty, rfl⟩, trivial⟩
  | _ :: _, _ :: _, h => ⟨h.1, TupsAre.snoc h.2⟩
  | [], _ :: _, h => h.elim
  | _ :: _, [], h => h.elim
/-- between two turns of the loops of _law_near -/
def nrJ (nA : Addr) (R : List (Addr × Obj)) (S : List PySem.Str) (m₀ : PySem.Str → Option Value) (l : List (Int × Int)) (m : PySem.Str → Option Value) (nx : List (Addr × Obj)) : Prop :=
  ∃ (ds : List (Addr × Obj)) (c : Nat) (u : PySem.Str → Option Value), nx = (nA, W.listOf (ds.map fun p => Value.ref p.1).toArray c) :: (R ++ ds) ∧ (∀ p ∈ ds, p.1 ≠ nA) ∧ TupsAre ds l ∧ m = fun z => if S.contains z then u z else m₀ z
theorem nrJ_intro {nA : Addr} {R : List (Addr × Obj)} {S : List PySem.Str} {m₀ m : PySem.Str → Option Value} {l : List (Int × Int)} {ds : List (Addr × Obj)} {c : Nat} (hne : ∀ p ∈ ds, p.1 ≠ nA) (ht : TupsAre ds l) (hm : ∀ z, S.contains z = false → m z = m₀ z) :
    nrJ nA R S m₀ l m ((nA, W.listOf (ds.map fun p => Value.ref p.1).toArray c) :: (R ++ ds)) := by
  refine ⟨ds, c, m, rfl, hne, ht, ?_⟩
  funext z
  by_cases h : S.contains z = true
  · rw [if_pos h]
  · rw [if_neg h]; exact hm z (by simpa using h)
theorem range_len {a b : Int} {n : Nat} (h : b = a + n) : Builtin.Range.rangeSize a b 1 = (n : Int) := by
  subst h
  unfold Builtin.Range.rangeSize
  rw [if_pos (by decide)]
  split <;> omega
theorem rangeKs_succ (a : Int) (n : Nat) : rangeKs a (n + 1) = rangeKs a n ++ [a + (n : Int)] := by simp [rangeKs, List.range_succ]
section
variable {prog : Program} {w : World} {A : Around} {E : Value → Shared → Prop} {s : Shared} {env : Env} {h₀ : Heap} {x : PySem.Str} {body : List Stmt} {Q : Flow → Shared → Prop} {m₀ : PySem.Str → Option Value} {news : List (Addr × Obj)}
theorem grow_rangeM {r : Addr} {a₀ b₀ : Int} {t₀ u₀ v₀ : Tok} {n : Nat} (J : (PySem.Str → Option Value) → Nat → (PySem.Str → Option Value) → List (Addr × Obj) → Prop)
    (hh : A.handled = none) (hr : IsRange s.heap r a₀ b₀ 1 t₀ u₀ v₀) (hsmall : Builtin.Range.small a₀ b₀ 1 = true) (hn : Builtin.Range.rangeSize a₀ b₀ 1 = (n : Int)) (F : Fr h₀ env.locals s.heap m₀) (N : News h₀ env.locals s.heap news) (hJ : J m₀ 0 m₀ news)
    (turn : ∀ I i t it m₁ nx h tk, it.cls = .type "range_iterator" → i < n → J m₀ i m₁ nx → (∀ p ∈ nx, p.1 ≠ I) → Fr h₀ env.locals h (fun y => if y = x then some (.int (a₀ + (i : Int)) t) else m₁ y) → News h₀ env.locals h ((I, it) :: nx) →
      wpAny (model prog w) A (execs body env) (GPost h₀ env.locals (J m₀ (i + 1)) I it { s with heap := h, toks := tk } Q) E { s with heap := h, toks := tk })
    (done : ∀ m₁ nx h tk, J m₀ n m₁ nx → Fr h₀ env.locals h m₁ → News h₀ env.locals h nx → Q .next { s with heap := h, toks := tk }) :
    wpAny (model prog w) A (pyIter (.ref r)) (fun it s₂ => LoopAtV prog w A h₀ env x body Q E it s₂) E s :=
  grow_range (J m₀) hh hr hsmall hn F N hJ turn done
end
theorem news_swap {h₀ h : Heap} {L : Addr} {a b : Addr × Obj} {r : List (Addr × Obj)} (N : News h₀ L h (a :: b :: r)) : News h₀ L h (b :: ([a] ++ r)) := fun p hp => N p (by
  simp only [List.cons_append, List.nil_append, List.mem_cons] at hp ⊢
  rcases hp with hp | hp | hp <;> simp only [hp, true_or, or_true])

-- Nm1

def mendF (missed size : Int) : Int × Int :=
  let sign : Int := if missed < 0 then -1 else 1
  let turn : Int := if (size.fmod 19 == 8) = true then 1 else -1
  let miss : Int := if missed < 0 then -missed else missed
  if miss < 3 then (0, sign * miss) else if miss < 6 then (-2 * turn * sign, sign * (miss - 4 + turn)) else (turn * sign, sign * (miss - (15 + turn).fdiv 2))
theorem mend_a {missed size sgn trn : Int} (hs : sgn = if missed < 0 then -1 else 1) (ht : trn = if (size.fmod 19 == 8) = true then 1 else -1) (h : (if missed < 0 then -missed else missed) < 3) : (0, sgn * (if missed < 0 then -missed else missed)) = mendF missed size := by
  subst hs ht; exact (if_pos h).symm
theorem mend_b {missed size sgn trn : Int} (hs : sgn = if missed < 0 then -1 else 1) (ht : trn = if (size.fmod 19 == 8) = true then 1 else -1) (h : 3 ≤ (if missed < 0 then -missed else missed)) (h2 : (if missed < 0 then -missed else missed) < 6) : (-2 * trn * sgn, sgn * ((if missed < 0 then -missed else missed) - 4 + trn)) = mendF missed size := by
  subst hs ht; exact ((if_neg (Int.not_lt.mpr h)).trans (if_pos h2)).symm
theorem mend_c {missed size sgn trn : Int} (hs : sgn = if missed < 0 then -1 else 1) (ht : trn = if (size.fmod 19 == 8) = true then 1 else -1) (h : 3 ≤ (if missed < 0 then -missed else missed)) (h2 : 6 ≤ (if missed < 0 then -missed else missed)) : (trn * sgn, sgn * ((if missed < 0 then -missed else missed) - (15 + trn).fdiv 2)) = mendF missed size := by
  subst hs ht; exact ((if_neg (Int.not_lt.mpr h)).trans (if_neg (Int.not_lt.mpr h2))).symm
theorem sgn_n {missed : Int} (h : missed < 0) : (-1 : Int) = if missed < 0 then -1 else 1 := (if_pos h).symm
theorem sgn_p {missed : Int} (h : 0 ≤ missed) : (1 : Int) = if missed < 0 then -1 else 1 := (if_neg (Int.not_lt.mpr h)).symm
theorem trn_p {b : Bool} (h : b = true) : (1 : Int) = if b = true then 1 else -1 := (if_pos h).symm
theorem trn_n {b : Bool} (h : b = false) : (-1 : Int) = if b = true then 1 else -1 := (if_neg (Bool.eq_false_iff.mp h)).symm
def sizeOf (n : Nat) : Int := if n % 4 = 0 then 8 else if n % 4 = 1 then 12 else if n % 4 = 2 then 27 else 31
def missF (tabs blanks rest size : Int) : Int := (rest - (blanks + size * tabs) + 9).fmod 19 - 9
def nearOk (k t b r : Nat) : Bool :=
  let size := sizeOf k
  let tabs : Int := (t + 2 : Nat)
  let blanks : Int := (b + 2 : Nat)
  let m := mendF (missF tabs blanks r size) size
  nearF tabs blanks r size == [(tabs + m.1, blanks + m.2)]
theorem near_all : ∀ k < 4, ∀ t < 4, ∀ b < 4, ∀ r < 19, nearOk k t b r = true := by decide +kernel
theorem near_fin {tabs blanks rest : Int} {n : Nat} (ht : 2 ≤ tabs ∧ tabs ≤ 5) (hb : 2 ≤ blanks ∧ blanks ≤ 5) (hr : 0 ≤ rest ∧ rest < 19) :
    nearF tabs blanks rest (sizeOf n) = [(tabs + (mendF (missF tabs blanks rest (sizeOf n)) (sizeOf n)).1, blanks + (mendF (missF tabs blanks rest (sizeOf n)) (sizeOf n)).2)] := by
  have e : sizeOf n = sizeOf (n % 4) := by unfold sizeOf; rw [Nat.mod_mod]
  have h := near_all (n % 4) (Nat.mod_lt _ (by decide)) (tabs - 2).toNat (by omega) (blanks - 2).toNat (by omega) rest.toNat (by omega)
  unfold nearOk at h
  have h1 : (((tabs - 2).toNat + 2 : Nat) : Int) = tabs := by omega
  have h2 : (((blanks - 2).toNat + 2 : Nat) : Int) = blanks := by omega
  have h3 : ((rest.toNat : Nat) : Int) = rest := by omega
  rw [h1, h2, h3, ← e] at h
  exact eq_of_beq h
theorem sizeOf_le (n : Nat) : 8 ≤ sizeOf n ∧ sizeOf n ≤ 31 := by unfold sizeOf; split; omega; split; omega; split <;> omega

local macro_rules | `(tactic| walk_at "call type:list") => `(tactic| (k_here; (with_reducible show wpAny _ _ (call (Value.type _) [Value.ref _]) _ _ _); (rename IsRange _ _ _ _ _ _ _ _ => rgX); (with_unfolding_all refine' list_step ?k0 ?k1 ?k2 ?k3 ?k4 ?k5 ?k6 ?_; (case k0 => rfl); (case k1 => k_asm); (case k2 => k_asm); (case k3 => exact rgX); (case k4 => exact small_two (by omega) (by omega)); (case k5 => exact range_two (by omega)); (case k6 => omega)); intro D' us' c' h' tk' F' N' l1 hI'; (try k_lt l1)))

-- sub_body

theorem sub_claim (w : World) (a b : PySem.Str) (ta tb : Tok) (ha : a.length ≤ 100) (hb : b.length ≤ 100) : Cl 1 101 w (fun _ => True) [.str a ta, .str b tb] (OInt (subF a b)) := by
  w_on
  (( unfold Cl PCl; intro meanZ mgZ mbZ dpZ unZ gdZ cnZ csZ aZ ccdZ clZ outerZ AZ baseZ hZ0 LZ mZ sZ QZ EZ BZ FZ XZ TZ hkZ hdZ huZ hHZ hretZ; k_dflt (refine' enter_pure ?k1Z9 ?k2Z9 ?k3Z9 ?k5Z9 ?kAZ9 ?kFZ9 ?kKZ9 ?k6Z9 ?k7Z9 ?k8Z9 ?k9Z9 ?kBZ9 ?_ ?c2Z9 ?c3Z9 ?c4Z9 ?c5Z9; (case kAZ9 => exact rfl); (case kFZ9 => exact rfl); (case kKZ9 => assumption); (case k1Z9 => k_asm); (case k2Z9 => k_asm); (case k3Z9 => k_asm); (case k5Z9 => k_asm); (case k6Z9 => k_is); (case k7Z9 => k_is); (case k8Z9 => ktr_room); (case k9Z9 => exact BindsTo.of_eq rfl); (case c5Z9 => decide); (case kBZ9 => exact locs rfl); (case c2Z9 => exact rfl); (case c3Z9 => exact rfl); (case c4Z9 => exact rfl); k_whole; intro gY LY hY hgY FY NY BY XY TY; (try dsimp only); (try k_lift BY); (try k_fold))))
  (repeat' (first | ((k_here; (with_reducible show wpAny _ _ (call (Value.builtin "str.lower") [Value.str _ _]) _ _ _); (refine SCL.lower (by omega) ?_); intro _)) | ((k_here; (with_reducible show wpAny _ _ (subscriptTail _ (Expr.Slice none (some _) none _) _ _) _ _ _); (with_reducible rename Fr _ _ _ _ => F'); (with_reducible rename News _ _ _ _ => N'); (refine slice_none (s := ⟨_, _, _, _, _⟩) F' N' ?_ (hsz := ?hszZ9)); (case hszZ9 => (rw [sizeLine_eq]; omega)); intro _ _ _ _ _)) | ((k_here; k_openite; first | (refine ite_pos ?hxZ9 ?_; (case hxZ9 => first | with_reducible assumption | (simp only [decide_eq_true_eq, decide_eq_false_iff_not, Bool.not_eq_true', Bool.not_eq_false', bne_iff_ne, ne_eq]; omega))) | (refine ite_neg ?hxZ9 ?_; (case hxZ9 => first | with_reducible assumption | (simp only [decide_eq_true_eq, decide_eq_false_iff_not, Bool.not_eq_true', Bool.not_eq_false', bne_iff_ne, ne_eq, Bool.not_eq_true, Decidable.not_not]; omega))) | (refine ite_b (fun hc => ?_) (fun hc => ?_) <;> (try simp only [decide_eq_true_eq, decide_eq_false_iff_not, Bool.not_eq_true', Bool.not_eq_false', bne_iff_ne, ne_eq, bne_eq_false_iff_eq, Decidable.not_not, Int.not_lt, Int.not_le] at hc)))) | (fail_if_success (with_reducible show wpAny _ _ (exec (Stmt.While _ _ _ _) _) _ _ _)); (fail_if_success (with_reducible show wpAny _ _ (exec (Stmt.For _ _ _ _ _) _) _ _ _)); (fail_if_success (with_reducible show wpAny _ _ (pyIter _) _ _ _)); (fail_if_success (with_reducible show InvEndN _ _ _ _ _ _ _)); (fail_if_success (with_reducible show GEnd _ _ _ _ _ _ _)); (fail_if_success (with_reducible show GPost _ _ _ _ _ _ _ _ _)); first | (k_unfold; (try dsimp only)) | walk1 | (dsimp only; walk1) | (leave1; try dsimp only) | fail "no step"))
  all_goals ((( (rename (∀ (v : Value) (h' : Heap) (tk' : Nat), Heap.StaysIn _ h' → _ → _) => hret9); (rename (_ = Shared.heap _) => hg9); refine' ret_ hret9 hg9 ?kFZ9 ?keZ9 ?_; (case kFZ9 => assumption); (case keZ9 => exact rfl); (try dsimp only))); refine oInt ?_; unfold subF; simp_all)

-- ell_body

theorem ell_f1 {P S got : PySem.Str} (h : Txt.startswith got P = false) : false = ellF P S got := by unfold ellF; rw [h]; rfl
theorem ell_f2 {P S got : PySem.Str} (h : Txt.endswith got S = false) : false = ellF P S got := by unfold ellF; rw [h]; simp
theorem ell_f3 {P S got : PySem.Str} (h : ¬ P.length + S.length ≤ got.length) : false = ellF P S got := by unfold ellF; simp [h]
theorem ell_t {P S got : PySem.Str} (h1 : Txt.startswith got P = true) (h2 : Txt.endswith got S = true) (h : P.length + S.length ≤ got.length) : true = ellF P S got := by unfold ellF; rw [h1, h2]; simp [h]

theorem ell_claim (w : World) (want P S got : PySem.Str) (tw tg : Tok)
    (hw : want.length ≤ 100) (hP : P.length ≤ 100) (hS : S.length ≤ 100) (hg : got.length ≤ 100) (hocc : (Builtin.Str.occurrences want dots 0 want.length 1).isEmpty = false) (hspl : Txt.split want dots = [P, S]) :
    Cl 1 94 w (fun _ => True) [.str want tw, .str got tg] (OBool (ellF P S got)) := by
  w_on
  (( unfold Cl PCl; intro meanZ mgZ mbZ dpZ unZ gdZ cnZ csZ aZ ccdZ clZ outerZ AZ baseZ hZ0 LZ mZ sZ QZ EZ BZ FZ XZ TZ hkZ hdZ huZ hHZ hretZ; k_dflt (refine' enter_pure ?k1Z9 ?k2Z9 ?k3Z9 ?k5Z9 ?kAZ9 ?kFZ9 ?kKZ9 ?k6Z9 ?k7Z9 ?k8Z9 ?k9Z9 ?kBZ9 ?_ ?c2Z9 ?c3Z9 ?c4Z9 ?c5Z9; (case kAZ9 => exact rfl); (case kFZ9 => exact rfl); (case kKZ9 => assumption); (case k1Z9 => k_asm); (case k2Z9 => k_asm); (case k3Z9 => k_asm); (case k5Z9 => k_asm); (case k6Z9 => k_is); (case k7Z9 => k_is); (case k8Z9 => ktr_room); (case k9Z9 => exact BindsTo.of_eq rfl); (case c5Z9 => decide); (case kBZ9 => exact locs rfl); (case c2Z9 => exact rfl); (case c3Z9 => exact rfl); (case c4Z9 => exact rfl); k_whole; intro gY LY hY hgY FY NY BY XY TY; (try dsimp only); (try k_lift BY); (try k_fold))))
  (repeat' (first | ((k_here; (with_reducible show wpAny _ _ (pyIter (Value.ref _)) (fun it s₂ => LoopAtV _ _ _ _ _ _ _ _ _ it s₂) _ _); k_listUnr)) | ((k_here; (with_reducible show wpAny _ _ (call (Value.builtin "str.find") _) _ _ _); (refine' find4_empty ?k1Z9 ?k2Z9 ?k3Z9 ?k4Z9 ?_; (case k1Z9 => omega); (case k2Z9 => omega); (case k3Z9 => omega); (case k4Z9 => omega)))) | ((k_here; (with_reducible show wpAny _ _ (call (Value.builtin "str.split") _) _ _ _); (with_reducible rename (Txt.split _ _ = [_, _]) => hspl9); (refine KSpl.split1 (by k_asm) (by k_asm) (by decide) ?_ (by rw [sizeLine_eq]; omega)); (intro D' l' h' k' e' a' F' N' l1); (try k_lt l1); (rw [hspl9] at e'); (kspl_open e'); (simp only [strValues, List.map_cons, List.map_nil] at N' a'))) | ((k_here; (with_reducible show wpAny _ _ (subscriptTail _ (Expr.Slice none (some _) none _) _ _) _ _ _); (with_reducible rename Fr _ _ _ _ => F'); (with_reducible rename News _ _ _ _ => N'); (refine slice_none (s := ⟨_, _, _, _, _⟩) F' N' ?_ (hsz := ?hszZ9)); (case hszZ9 => (rw [sizeLine_eq]; omega)); intro _ _ _ _ _)) | ((k_here; k_openite; first | (refine ite_pos ?hxZ9 ?_; (case hxZ9 => first | with_reducible assumption | (simp only [decide_eq_true_eq, decide_eq_false_iff_not, Bool.not_eq_true', Bool.not_eq_false', bne_iff_ne, ne_eq]; omega))) | (refine ite_neg ?hxZ9 ?_; (case hxZ9 => first | with_reducible assumption | (simp only [decide_eq_true_eq, decide_eq_false_iff_not, Bool.not_eq_true', Bool.not_eq_false', bne_iff_ne, ne_eq, Bool.not_eq_true, Decidable.not_not]; omega))) | (refine ite_b (fun hc => ?_) (fun hc => ?_) <;> (try simp only [decide_eq_true_eq, decide_eq_false_iff_not, Bool.not_eq_true', Bool.not_eq_false', bne_iff_ne, ne_eq, bne_eq_false_iff_eq, Decidable.not_not, Int.not_lt, Int.not_le] at hc)))) | (k_unfold; (try dsimp only)) | (k_end; wrow_close) | walk1 | (dsimp only; walk1) | (leave1; walk_say "STEP leave1"; try dsimp only) | fail "no step"))
  all_goals (try k_data)
  all_goals ((( (rename (∀ (v : Value) (h' : Heap) (tk' : Nat), Heap.StaysIn _ h' → _ → _) => hret9); (rename (_ = Shared.heap _) => hg9); refine' ret_ hret9 hg9 ?kFZ9 ?keZ9 ?_; (case kFZ9 => assumption); (case keZ9 => exact rfl); (try dsimp only))); refine oBool ?_)
  all_goals (first
    | exact ell_f1 (by assumption)
    | exact ell_f2 (by assumption)
    | exact ell_t (by first | assumption | exact starts_empty (by omega)) (by first | assumption | exact ends_empty (by omega)) (by omega)
    | exact ell_f3 (by omega))

-- levend_body
abbrev InSt := (Int × Tok) × (Int × Tok) × (Int × Tok) × (List Value × List Int × Nat)
abbrev inLed (D : Addr) (own : List (Addr × Obj)) (q : InSt) : List (Addr × Obj) := [(D, W.listOf q.2.2.2.1.toArray q.2.2.2.2.2)] ++ own
abbrev inPs (q : InSt) : List (PySem.Str × Value) := [(PySem.Str.ofString "distance", .int q.1.1 q.1.2), (PySem.Str.ofString "result", .int q.2.1.1 q.2.1.2), (PySem.Str.ofString "minimum", .int q.2.2.1.1 q.2.2.1.2)]
abbrev inFa (q : InSt) : Prop := IntsAre q.2.2.2.1 q.2.2.2.2.1
abbrev inStored : List PySem.Str := [PySem.Str.ofString "substitute", PySem.Str.ofString "insert_delete"]
abbrev inP (A bc : PySem.Str) (k : Int) (row1 : List Int) (pre : List Int) (q : InSt) : Prop := (q.1.1, q.2.1.1, q.2.2.1.1, q.2.2.2.2.1) = pre.foldl (inStep A bc) (k * 2, k * 2, 9223372036854775807, row1)
theorem inner_end {h₀ h' : Heap} {L D : Addr} {own own2 rest : List (Addr × Obj)} {m₀ m' : PySem.Str → Option Value} {A bc : PySem.Str} {k : Int} {row1 row' pre : List Int} {us' : List Value} {c2 : Nat} {d' r' mn' i : Int} {td tr tm : Tok} {s₁ : Shared} {tk : Nat}
    (F : Fr h₀ L h' m') (N : News h₀ L h' ((D, W.listOf us'.toArray c2) :: rest)) (hrest : own ++ own2 = rest) (hI : IntsAre us' row') (kd : m' (PySem.Str.ofString "distance") = some (.int d' td)) (kr : m' (PySem.Str.ofString "result") = some (.int r' tr)) (km : m' (PySem.Str.ofString "minimum") = some (.int mn' tm))
    (hr : ∀ z, z ≠ PySem.Str.ofString "index" → z ≠ PySem.Str.ofString "distance" → z ≠ PySem.Str.ofString "result" → z ≠ PySem.Str.ofString "minimum" → z ≠ PySem.Str.ofString "substitute" → z ≠ PySem.Str.ofString "insert_delete" → m' z = m₀ z) (hp : (d', r', mn', row') = (pre ++ [i]).foldl (inStep A bc) (k * 2, k * 2, 9223372036854775807, row1)) :
    InvEndN h₀ L (KstS (inLed D own) inPs inFa (PySem.Str.ofString "index") inStored m₀ (inP A bc k row1) (pre ++ [i])) own2 (D :: own.map (·.1)) s₁ { s₁ with heap := h', toks := tk } := by
  subst hrest
  refine kst_end ((d', td), (r', tr), (mn', tm), (us', row', c2)) F N (fun p hp => ?_) (fun p hp => ?_) rfl hI (fun p hp => ?_) (fun z h1 h2 h3 => ?_) hp
  · simp only [List.cons_append, List.nil_append, List.mem_cons, List.mem_append] at hp ⊢
    rcases hp with hp | hp
    · exact .inl hp
    · exact .inr (.inl hp)
  · exact List.mem_cons_of_mem _ (List.mem_append_right _ hp)
  · simp only [List.mem_cons, List.not_mem_nil, or_false] at hp
    rcases hp with rfl | rfl | rfl
    · exact kd
    · exact kr
    · exact km
  · simp only [List.contains_cons, List.contains_nil, Bool.or_false, Bool.or_eq_false_iff, beq_eq_false_iff_ne] at h3
    exact hr z h1 (h2 _ (List.mem_cons_self ..)) (h2 _ (List.mem_cons_of_mem _ (List.mem_cons_self ..))) (h2 _ (List.mem_cons_of_mem _ (List.mem_cons_of_mem _ (List.mem_cons_self ..)))) h3.1 h3.2
abbrev OutSt := (Int × Tok) × (List Value × List Int × Nat)
abbrev outLed (D : Addr) (q : OutSt) : List (Addr × Obj) := [(D, W.listOf q.2.1.toArray q.2.2.2)]
abbrev outPs (q : OutSt) : List (PySem.Str × Value) := [(PySem.Str.ofString "result", .int q.1.1 q.1.2)]
abbrev outFa (q : OutSt) : Prop := IntsAre q.2.1 q.2.2.1
abbrev outStored : List PySem.Str := [PySem.Str.ofString "bchar", PySem.Str.ofString "distance", PySem.Str.ofString "minimum", PySem.Str.ofString "index", PySem.Str.ofString "substitute", PySem.Str.ofString "insert_delete"]
abbrev outP (A B : PySem.Str) (mc : Int) (pre : List Int) (q : OutSt) : Prop := outer A B mc (rangeKs 0 B.length) 0 (rangeInts 2 2 A.length) = outer A B mc ((rangeKs 0 B.length).drop pre.length) q.1.1 q.2.2.1 ∧ q.2.2.1.length = A.length
theorem drop_range {N n : Nat} {k : Int} (hk : k = 0 + (n : Int)) (hn : n < N) : (rangeKs 0 N).drop n = k :: (rangeKs 0 N).drop (n + 1) := by
  have hlt : n < (rangeKs 0 N).length := by rw [rangeKs_length]; exact hn
  rw [List.drop_eq_getElem_cons hlt]
  congr 1
  subst hk
  simp [rangeKs]
section
variable {A B : PySem.Str} {mc d r mn res k : Int} {n : Nat} {row row2 : List Int} {X : Int}
theorem outer_ret (hP : X = outer A B mc ((rangeKs 0 B.length).drop n) res row) (hk : k = 0 + (n : Int)) (hn : n < B.length) (hin : (d, r, mn, row2) = inner A (Txt.item B k) k row) (h : mc < mn) : mc + 1 = X := by
  rw [hP, drop_range hk hn, outer, ← hin]
  exact (if_pos h).symm
theorem outer_next (hP : X = outer A B mc ((rangeKs 0 B.length).drop n) res row) (hk : k = 0 + (n : Int)) (hn : n < B.length) (hin : (d, r, mn, row2) = inner A (Txt.item B k) k row) (h : mn ≤ mc) : X = outer A B mc ((rangeKs 0 B.length).drop (n + 1)) r row2 := by
  rw [hP, drop_range hk hn, outer, ← hin]
  exact if_neg (Int.not_lt.mpr h)
theorem outer_done (hP : X = outer A B mc ((rangeKs 0 B.length).drop (rangeKs 0 B.length).length) res row) : res = X := by
  rw [hP, List.drop_length]; rfl
end
theorem outer_end {h₀ h' : Heap} {L D : Addr} {own : List (Addr × Obj)} {m₀ m' : PySem.Str → Option Value} {A B : PySem.Str} {k mc d r mn res : Int} {row row2 pre : List Int} {us2 : List Value} {c2 : Nat} {tr : Tok} {s₁ : Shared} {tk : Nat}
    (F : Fr h₀ L h' m') (N : News h₀ L h' ([(D, W.listOf us2.toArray c2)] ++ own)) (hI : IntsAre us2 row2) (kr : m' (PySem.Str.ofString "result") = some (.int r tr))
    (hr : ∀ z, z ≠ PySem.Str.ofString "bindex" → z ≠ PySem.Str.ofString "result" → z ≠ PySem.Str.ofString "bchar" → z ≠ PySem.Str.ofString "distance" → z ≠ PySem.Str.ofString "minimum" → z ≠ PySem.Str.ofString "index" → z ≠ PySem.Str.ofString "substitute" → z ≠ PySem.Str.ofString "insert_delete" → m' z = m₀ z)
    (hP : outer A B mc (rangeKs 0 B.length) 0 (rangeInts 2 2 A.length) = outer A B mc ((rangeKs 0 B.length).drop pre.length) res row) (hl : row.length = A.length) (hk : k = 0 + (pre.length : Int)) (hn : pre.length < B.length) (hin : (d, r, mn, row2) = inner A (Txt.item B k) k row) (h : mn ≤ mc) :
    InvEndN h₀ L (KstS (outLed D) outPs outFa (PySem.Str.ofString "bindex") outStored m₀ (outP A B mc) (pre ++ [k])) own ([D]) s₁ { s₁ with heap := h', toks := tk } := by
  refine kst_end ((r, tr), (us2, row2, c2)) F N (fun p hp => ?_) (fun p hp => ?_) rfl hI (fun p hp => ?_) (fun z h1 h2 h3 => ?_) ⟨?_, ?_⟩
  · exact List.mem_append_left _ hp
  · exact List.mem_append_right _ hp
  · rw [List.mem_singleton.mp hp]; exact kr
  · simp only [List.contains_cons, List.contains_nil, Bool.or_false, Bool.or_eq_false_iff, beq_eq_false_iff_ne] at h3
    exact hr z h1 (h2 _ (List.mem_cons_self ..)) h3.1 h3.2.1 h3.2.2.1 h3.2.2.2.1 h3.2.2.2.2.1 h3.2.2.2.2.2
  · rw [List.length_append, List.length_singleton]
    exact outer_next hP hk hn hin h
  · have h1 := congrArg (fun x : Int × Int × Int × List Int => x.2.2.2.length) hin
    dsimp only at h1
    rw [inner_row] at h1
    exact h1.trans hl

-- lev_mac

-- lev_body
set_option maxHeartbeats 3000000 in
theorem lev_claim (w : World) (a b : PySem.Str) (mc : Int) (ta tb tc : Tok) (ha : a.length ≤ 40) (hb : b.length ≤ 40) (hm : 0 ≤ mc ∧ mc ≤ 1000) :
    Cl 2 108 w (fun _ => True) [.str a ta, .str b tb, .int mc tc] (OInt (levF a b mc)) := by
  w_on
  (( unfold Cl PCl; intro meanZ mgZ mbZ dpZ unZ gdZ cnZ csZ aZ ccdZ clZ outerZ AZ baseZ hZ0 LZ mZ sZ QZ EZ BZ FZ XZ TZ hkZ hdZ huZ hHZ hretZ; k_dflt (refine' enter_pure ?k1Z9 ?k2Z9 ?k3Z9 ?k5Z9 ?kAZ9 ?kFZ9 ?kKZ9 ?k6Z9 ?k7Z9 ?k8Z9 ?k9Z9 ?kBZ9 ?_ ?c2Z9 ?c3Z9 ?c4Z9 ?c5Z9; (case kAZ9 => exact rfl); (case kFZ9 => exact rfl); (case kKZ9 => assumption); (case k1Z9 => k_asm); (case k2Z9 => k_asm); (case k3Z9 => k_asm); (case k5Z9 => k_asm); (case k6Z9 => k_is); (case k7Z9 => k_is); (case k8Z9 => ktr_room); (case k9Z9 => exact BindsTo.of_eq rfl); (case c5Z9 => decide); (case kBZ9 => exact locs rfl); (case c2Z9 => exact rfl); (case c3Z9 => exact rfl); (case c4Z9 => exact rfl); k_whole; intro gY LY hY hgY FY NY BY XY TY; (try dsimp only); (try k_lift BY); (try k_fold))))
  (repeat' (first | ((k_here; (with_reducible show wpAny _ _ (setItem (Value.ref _) (Value.int _ _) (Value.int _ _)) _ _ _); k_dflt (refine' ksa_set ?k1Z9 ?k2Z9 (Upd.head ?k3Z9) ?k4Z9 ?k5Z9 ?k6Z9 ?k7Z9 ?_; (case k1Z9 => k_asm); (case k2Z9 => k_asm); (case k3Z9 => assumption); (case k4Z9 => assumption); (case k5Z9 => omega); (case k6Z9 => omega); (case k7Z9 => omega)); intro h' F' N' hi' hl' hs')) | (((with_reducible show wpAny _ _ (call (Value.ref _) [Value.str _ _, Value.str _ _]) _ _ _); ((k_here; (rename Fr _ _ _ _ => lF'); (rename News _ _ _ _ => lN'); k_dflt (refine' use_cl (sub_claim _ _ _ _ _ (by omega) (by omega)) ?k1Z9 lF' ?k3Z9 lN' ?k5Z9 ?kKZ9 ?kdZ9 ?kuZ9 ?kHZ9 ?_); (case k1Z9 => k_asm); (case k3Z9 => k_asm); (case k5Z9 => k_asm); (case kKZ9 => first | exact rfl | assumption); (case kdZ9 => ktr_room); (case kuZ9 => ktr_units); (case kHZ9 => trivial); clear lF' lN')); intro v9 h9 tk9 F9 N9 st9 o9; obtain ⟨t9, e9⟩ := o9; subst e9; (try dsimp only); (try k_fold))) | ((k_here; (with_reducible show wpAny _ _ (subscriptTail _ (Expr.Slice none (some _) none _) _ _) _ _ _); (with_reducible rename Fr _ _ _ _ => F'); (with_reducible rename News _ _ _ _ => N'); (refine slice_none (s := ⟨_, _, _, _, _⟩) F' N' ?_ (hsz := ?hszZ9)); (case hszZ9 => (rw [sizeLine_eq]; omega)); intro _ _ _ _ _)) | ((k_here; k_openite; first | (refine ite_pos ?hxZ9 ?_; (case hxZ9 => first | with_reducible assumption | (simp only [decide_eq_true_eq, decide_eq_false_iff_not, Bool.not_eq_true', Bool.not_eq_false', bne_iff_ne, ne_eq]; omega))) | (refine ite_neg ?hxZ9 ?_; (case hxZ9 => first | with_reducible assumption | (simp only [decide_eq_true_eq, decide_eq_false_iff_not, Bool.not_eq_true', Bool.not_eq_false', bne_iff_ne, ne_eq, Bool.not_eq_true, Decidable.not_not]; omega))) | (refine ite_b (fun hc => ?_) (fun hc => ?_) <;> (try simp only [decide_eq_true_eq, decide_eq_false_iff_not, Bool.not_eq_true', Bool.not_eq_false', bne_iff_ne, ne_eq, bne_eq_false_iff_eq, Decidable.not_not, Int.not_lt, Int.not_le] at hc)))) | (fail_if_success (with_reducible show wpAny _ _ (exec (Stmt.While _ _ _ _) _) _ _ _)); (fail_if_success (with_reducible show wpAny _ _ (exec (Stmt.For _ _ _ _ _) _) _ _ _)); (fail_if_success (with_reducible show wpAny _ _ (pyIter _) _ _ _)); (fail_if_success (with_reducible show InvEndN _ _ _ _ _ _ _)); (fail_if_success (with_reducible show GEnd _ _ _ _ _ _ _)); (fail_if_success (with_reducible show GPost _ _ _ _ _ _ _ _ _)); first | (k_unfold; (try dsimp only)) | walk1 | (dsimp only; walk1) | (leave1; try dsimp only) | fail "no step"))
  · (( (rename (∀ (v : Value) (h' : Heap) (tk' : Nat), Heap.StaysIn _ h' → _ → _) => hret9); (rename (_ = Shared.heap _) => hg9); refine' ret_ hret9 hg9 ?kFZ9 ?keZ9 ?_; (case kFZ9 => assumption); (case keZ9 => exact rfl); (try dsimp only)))
    exact oInt (lev_same (by assumption))
  (rename Fr _ _ _ _ => F1; k_dflt (refine' while_count (PySem.Str.ofString "pre") (fun n => (n : Int)) (cplS a b) rfl F1 .nil ?hy ?_ ?_ ?_); (case hy => exact rfl); clear F1)
  · intro n t h tk hn F2 N2
    (try k_fold)
    (repeat' (first | ((k_here; (with_reducible show wpAny _ _ (setItem (Value.ref _) (Value.int _ _) (Value.int _ _)) _ _ _); k_dflt (refine' ksa_set ?k1Z9 ?k2Z9 (Upd.head ?k3Z9) ?k4Z9 ?k5Z9 ?k6Z9 ?k7Z9 ?_; (case k1Z9 => k_asm); (case k2Z9 => k_asm); (case k3Z9 => assumption); (case k4Z9 => assumption); (case k5Z9 => omega); (case k6Z9 => omega); (case k7Z9 => omega)); intro h' F' N' hi' hl' hs')) | (((with_reducible show wpAny _ _ (call (Value.ref _) [Value.str _ _, Value.str _ _]) _ _ _); ((k_here; (rename Fr _ _ _ _ => lF'); (rename News _ _ _ _ => lN'); k_dflt (refine' use_cl (sub_claim _ _ _ _ _ (by omega) (by omega)) ?k1Z9 lF' ?k3Z9 lN' ?k5Z9 ?kKZ9 ?kdZ9 ?kuZ9 ?kHZ9 ?_); (case k1Z9 => k_asm); (case k3Z9 => k_asm); (case k5Z9 => k_asm); (case kKZ9 => first | exact rfl | assumption); (case kdZ9 => ktr_room); (case kuZ9 => ktr_units); (case kHZ9 => trivial); clear lF' lN')); intro v9 h9 tk9 F9 N9 st9 o9; obtain ⟨t9, e9⟩ := o9; subst e9; (try dsimp only); (try k_fold))) | ((k_here; (with_reducible show wpAny _ _ (subscriptTail _ (Expr.Slice none (some _) none _) _ _) _ _ _); (with_reducible rename Fr _ _ _ _ => F'); (with_reducible rename News _ _ _ _ => N'); (refine slice_none (s := ⟨_, _, _, _, _⟩) F' N' ?_ (hsz := ?hszZ9)); (case hszZ9 => (rw [sizeLine_eq]; omega)); intro _ _ _ _ _)) | ((k_here; k_openite; first | (refine ite_pos ?hxZ9 ?_; (case hxZ9 => first | with_reducible assumption | (simp only [decide_eq_true_eq, decide_eq_false_iff_not, Bool.not_eq_true', Bool.not_eq_false', bne_iff_ne, ne_eq]; omega))) | (refine ite_neg ?hxZ9 ?_; (case hxZ9 => first | with_reducible assumption | (simp only [decide_eq_true_eq, decide_eq_false_iff_not, Bool.not_eq_true', Bool.not_eq_false', bne_iff_ne, ne_eq, Bool.not_eq_true, Decidable.not_not]; omega))) | (refine ite_b (fun hc => ?_) (fun hc => ?_) <;> (try simp only [decide_eq_true_eq, decide_eq_false_iff_not, Bool.not_eq_true', Bool.not_eq_false', bne_iff_ne, ne_eq, bne_eq_false_iff_eq, Decidable.not_not, Int.not_lt, Int.not_le] at hc)))) | (fail_if_success (with_reducible show wpAny _ _ (exec (Stmt.While _ _ _ _) _) _ _ _)); (fail_if_success (with_reducible show wpAny _ _ (exec (Stmt.For _ _ _ _ _) _) _ _ _)); (fail_if_success (with_reducible show wpAny _ _ (pyIter _) _ _ _)); (fail_if_success (with_reducible show InvEndN _ _ _ _ _ _ _)); (fail_if_success (with_reducible show GEnd _ _ _ _ _ _ _)); (fail_if_success (with_reducible show GPost _ _ _ _ _ _ _ _ _)); first | (k_unfold; (try dsimp only)) | walk1 | (dsimp only; walk1) | (leave1; try dsimp only) | fail "no step"))
    all_goals ((refine' mtest_ ?keZ9 ?kFZ9 ?kNZ9 ?_; (case keZ9 => exact rfl); (case kFZ9 => assumption); (case kNZ9 => assumption)))
    all_goals first
      | exact cpl_tt hn (by omega) (by omega) (by assumption)
      | exact cpl_fa hn (by omega)
      | exact cpl_fb hn (by omega)
      | exact cpl_fe hn (by assumption)
  · intro n t h tk hn F2 N2
    (try k_fold)
    (repeat' (first | ((k_here; (with_reducible show wpAny _ _ (setItem (Value.ref _) (Value.int _ _) (Value.int _ _)) _ _ _); k_dflt (refine' ksa_set ?k1Z9 ?k2Z9 (Upd.head ?k3Z9) ?k4Z9 ?k5Z9 ?k6Z9 ?k7Z9 ?_; (case k1Z9 => k_asm); (case k2Z9 => k_asm); (case k3Z9 => assumption); (case k4Z9 => assumption); (case k5Z9 => omega); (case k6Z9 => omega); (case k7Z9 => omega)); intro h' F' N' hi' hl' hs')) | (((with_reducible show wpAny _ _ (call (Value.ref _) [Value.str _ _, Value.str _ _]) _ _ _); ((k_here; (rename Fr _ _ _ _ => lF'); (rename News _ _ _ _ => lN'); k_dflt (refine' use_cl (sub_claim _ _ _ _ _ (by omega) (by omega)) ?k1Z9 lF' ?k3Z9 lN' ?k5Z9 ?kKZ9 ?kdZ9 ?kuZ9 ?kHZ9 ?_); (case k1Z9 => k_asm); (case k3Z9 => k_asm); (case k5Z9 => k_asm); (case kKZ9 => first | exact rfl | assumption); (case kdZ9 => ktr_room); (case kuZ9 => ktr_units); (case kHZ9 => trivial); clear lF' lN')); intro v9 h9 tk9 F9 N9 st9 o9; obtain ⟨t9, e9⟩ := o9; subst e9; (try dsimp only); (try k_fold))) | ((k_here; (with_reducible show wpAny _ _ (subscriptTail _ (Expr.Slice none (some _) none _) _ _) _ _ _); (with_reducible rename Fr _ _ _ _ => F'); (with_reducible rename News _ _ _ _ => N'); (refine slice_none (s := ⟨_, _, _, _, _⟩) F' N' ?_ (hsz := ?hszZ9)); (case hszZ9 => (rw [sizeLine_eq]; omega)); intro _ _ _ _ _)) | ((k_here; k_openite; first | (refine ite_pos ?hxZ9 ?_; (case hxZ9 => first | with_reducible assumption | (simp only [decide_eq_true_eq, decide_eq_false_iff_not, Bool.not_eq_true', Bool.not_eq_false', bne_iff_ne, ne_eq]; omega))) | (refine ite_neg ?hxZ9 ?_; (case hxZ9 => first | with_reducible assumption | (simp only [decide_eq_true_eq, decide_eq_false_iff_not, Bool.not_eq_true', Bool.not_eq_false', bne_iff_ne, ne_eq, Bool.not_eq_true, Decidable.not_not]; omega))) | (refine ite_b (fun hc => ?_) (fun hc => ?_) <;> (try simp only [decide_eq_true_eq, decide_eq_false_iff_not, Bool.not_eq_true', Bool.not_eq_false', bne_iff_ne, ne_eq, bne_eq_false_iff_eq, Decidable.not_not, Int.not_lt, Int.not_le] at hc)))) | (fail_if_success (with_reducible show wpAny _ _ (exec (Stmt.While _ _ _ _) _) _ _ _)); (fail_if_success (with_reducible show wpAny _ _ (exec (Stmt.For _ _ _ _ _) _) _ _ _)); (fail_if_success (with_reducible show wpAny _ _ (pyIter _) _ _ _)); (fail_if_success (with_reducible show InvEndN _ _ _ _ _ _ _)); (fail_if_success (with_reducible show GEnd _ _ _ _ _ _ _)); (fail_if_success (with_reducible show GPost _ _ _ _ _ _ _ _ _)); first | (k_unfold; (try dsimp only)) | walk1 | (dsimp only; walk1) | (leave1; try dsimp only) | fail "no step"))
    ((refine' mturn_ ?keZ9 ?kFZ9 ?kNZ9 ?kyZ9 ?kcZ9 ?kmZ9; (case keZ9 => exact rfl); (case kFZ9 => assumption); (case kNZ9 => assumption); (case kyZ9 => exact rfl); (case kcZ9 => omega); (case kmZ9 => (intro z hz; first | (simp only [hz, if_false]; done) | (simp [hz]; done)))))
  · intro t h tk F2 N2
    (try k_fold)
    (repeat' (first | ((k_here; (with_reducible show wpAny _ _ (setItem (Value.ref _) (Value.int _ _) (Value.int _ _)) _ _ _); k_dflt (refine' ksa_set ?k1Z9 ?k2Z9 (Upd.head ?k3Z9) ?k4Z9 ?k5Z9 ?k6Z9 ?k7Z9 ?_; (case k1Z9 => k_asm); (case k2Z9 => k_asm); (case k3Z9 => assumption); (case k4Z9 => assumption); (case k5Z9 => omega); (case k6Z9 => omega); (case k7Z9 => omega)); intro h' F' N' hi' hl' hs')) | (((with_reducible show wpAny _ _ (call (Value.ref _) [Value.str _ _, Value.str _ _]) _ _ _); ((k_here; (rename Fr _ _ _ _ => lF'); (rename News _ _ _ _ => lN'); k_dflt (refine' use_cl (sub_claim _ _ _ _ _ (by omega) (by omega)) ?k1Z9 lF' ?k3Z9 lN' ?k5Z9 ?kKZ9 ?kdZ9 ?kuZ9 ?kHZ9 ?_); (case k1Z9 => k_asm); (case k3Z9 => k_asm); (case k5Z9 => k_asm); (case kKZ9 => first | exact rfl | assumption); (case kdZ9 => ktr_room); (case kuZ9 => ktr_units); (case kHZ9 => trivial); clear lF' lN')); intro v9 h9 tk9 F9 N9 st9 o9; obtain ⟨t9, e9⟩ := o9; subst e9; (try dsimp only); (try k_fold))) | ((k_here; (with_reducible show wpAny _ _ (subscriptTail _ (Expr.Slice none (some _) none _) _ _) _ _ _); (with_reducible rename Fr _ _ _ _ => F'); (with_reducible rename News _ _ _ _ => N'); (refine slice_none (s := ⟨_, _, _, _, _⟩) F' N' ?_ (hsz := ?hszZ9)); (case hszZ9 => (rw [sizeLine_eq]; omega)); intro _ _ _ _ _)) | ((k_here; k_openite; first | (refine ite_pos ?hxZ9 ?_; (case hxZ9 => first | with_reducible assumption | (simp only [decide_eq_true_eq, decide_eq_false_iff_not, Bool.not_eq_true', Bool.not_eq_false', bne_iff_ne, ne_eq]; omega))) | (refine ite_neg ?hxZ9 ?_; (case hxZ9 => first | with_reducible assumption | (simp only [decide_eq_true_eq, decide_eq_false_iff_not, Bool.not_eq_true', Bool.not_eq_false', bne_iff_ne, ne_eq, Bool.not_eq_true, Decidable.not_not]; omega))) | (refine ite_b (fun hc => ?_) (fun hc => ?_) <;> (try simp only [decide_eq_true_eq, decide_eq_false_iff_not, Bool.not_eq_true', Bool.not_eq_false', bne_iff_ne, ne_eq, bne_eq_false_iff_eq, Decidable.not_not, Int.not_lt, Int.not_le] at hc)))) | (fail_if_success (with_reducible show wpAny _ _ (exec (Stmt.While _ _ _ _) _) _ _ _)); (fail_if_success (with_reducible show wpAny _ _ (exec (Stmt.For _ _ _ _ _) _) _ _ _)); (fail_if_success (with_reducible show wpAny _ _ (pyIter _) _ _ _)); (fail_if_success (with_reducible show InvEndN _ _ _ _ _ _ _)); (fail_if_success (with_reducible show GEnd _ _ _ _ _ _ _)); (fail_if_success (with_reducible show GPost _ _ _ _ _ _ _ _ _)); first | (k_unfold; (try dsimp only)) | walk1 | (dsimp only; walk1) | (leave1; try dsimp only) | fail "no step"))
    have hle := cplS_le a b
    have hA : (Txt.slice a (some (cplS a b : Int)) none).length ≤ 40 := by rw [slice_from_len hle.1]; omega
    have hB : (Txt.slice b (some (cplS a b : Int)) none).length ≤ 40 := by rw [slice_from_len hle.2]; omega
    skip
    generalize hAe : Txt.slice a (some (cplS a b : Int)) none = A at *
    generalize hBe : Txt.slice b (some (cplS a b : Int)) none = B at *
    have hle2 := cslS_le A B
    have hAll := slice_all A
    have hBll := slice_all B
    rename Fr _ _ _ _ => F1
    k_dflt (refine' while_count (PySem.Str.ofString "post") (fun n => -(n : Int)) (cslS A B) rfl F1 .nil ?hy ?_ ?_ ?_)
    case hy => exact rfl
    · clear F1
      intro n t h tk hn F2 N2
      have hsA := @slice_back_len A n
      have hsB := @slice_back_len B n
      dsimp only at F2
      (try k_fold)
      (repeat' (first | ((k_here; (with_reducible show wpAny _ _ (setItem (Value.ref _) (Value.int _ _) (Value.int _ _)) _ _ _); k_dflt (refine' ksa_set ?k1Z9 ?k2Z9 (Upd.head ?k3Z9) ?k4Z9 ?k5Z9 ?k6Z9 ?k7Z9 ?_; (case k1Z9 => k_asm); (case k2Z9 => k_asm); (case k3Z9 => assumption); (case k4Z9 => assumption); (case k5Z9 => omega); (case k6Z9 => omega); (case k7Z9 => omega)); intro h' F' N' hi' hl' hs')) | (((with_reducible show wpAny _ _ (call (Value.ref _) [Value.str _ _, Value.str _ _]) _ _ _); ((k_here; (rename Fr _ _ _ _ => lF'); (rename News _ _ _ _ => lN'); k_dflt (refine' use_cl (sub_claim _ _ _ _ _ (by omega) (by omega)) ?k1Z9 lF' ?k3Z9 lN' ?k5Z9 ?kKZ9 ?kdZ9 ?kuZ9 ?kHZ9 ?_); (case k1Z9 => k_asm); (case k3Z9 => k_asm); (case k5Z9 => k_asm); (case kKZ9 => first | exact rfl | assumption); (case kdZ9 => ktr_room); (case kuZ9 => ktr_units); (case kHZ9 => trivial); clear lF' lN')); intro v9 h9 tk9 F9 N9 st9 o9; obtain ⟨t9, e9⟩ := o9; subst e9; (try dsimp only); (try k_fold))) | ((k_here; (with_reducible show wpAny _ _ (subscriptTail _ (Expr.Slice none (some _) none _) _ _) _ _ _); (with_reducible rename Fr _ _ _ _ => F'); (with_reducible rename News _ _ _ _ => N'); (refine slice_none (s := ⟨_, _, _, _, _⟩) F' N' ?_ (hsz := ?hszZ9)); (case hszZ9 => (rw [sizeLine_eq]; omega)); intro _ _ _ _ _)) | ((k_here; k_openite; first | (refine ite_pos ?hxZ9 ?_; (case hxZ9 => first | with_reducible assumption | (simp only [decide_eq_true_eq, decide_eq_false_iff_not, Bool.not_eq_true', Bool.not_eq_false', bne_iff_ne, ne_eq]; omega))) | (refine ite_neg ?hxZ9 ?_; (case hxZ9 => first | with_reducible assumption | (simp only [decide_eq_true_eq, decide_eq_false_iff_not, Bool.not_eq_true', Bool.not_eq_false', bne_iff_ne, ne_eq, Bool.not_eq_true, Decidable.not_not]; omega))) | (refine ite_b (fun hc => ?_) (fun hc => ?_) <;> (try simp only [decide_eq_true_eq, decide_eq_false_iff_not, Bool.not_eq_true', Bool.not_eq_false', bne_iff_ne, ne_eq, bne_eq_false_iff_eq, Decidable.not_not, Int.not_lt, Int.not_le] at hc)))) | (fail_if_success (with_reducible show wpAny _ _ (exec (Stmt.While _ _ _ _) _) _ _ _)); (fail_if_success (with_reducible show wpAny _ _ (exec (Stmt.For _ _ _ _ _) _) _ _ _)); (fail_if_success (with_reducible show wpAny _ _ (pyIter _) _ _ _)); (fail_if_success (with_reducible show InvEndN _ _ _ _ _ _ _)); (fail_if_success (with_reducible show GEnd _ _ _ _ _ _ _)); (fail_if_success (with_reducible show GPost _ _ _ _ _ _ _ _ _)); first | (k_unfold; (try dsimp only)) | walk1 | (dsimp only; walk1) | (leave1; try dsimp only) | fail "no step"))
      all_goals ((refine' mtest_ ?keZ9 ?kFZ9 ?kNZ9 ?_; (case keZ9 => exact rfl); (case kFZ9 => assumption); (case kNZ9 => assumption)))
      all_goals first
        | exact csl_tt hn (by omega) (by omega) (by assumption)
        | exact csl_fa hn (by omega)
        | exact csl_fb hn (by omega)
        | exact csl_fe hn (by assumption)
    · clear F1
      intro n t h tk hn F2 N2
      (try k_fold)
      (repeat' (first | ((k_here; (with_reducible show wpAny _ _ (setItem (Value.ref _) (Value.int _ _) (Value.int _ _)) _ _ _); k_dflt (refine' ksa_set ?k1Z9 ?k2Z9 (Upd.head ?k3Z9) ?k4Z9 ?k5Z9 ?k6Z9 ?k7Z9 ?_; (case k1Z9 => k_asm); (case k2Z9 => k_asm); (case k3Z9 => assumption); (case k4Z9 => assumption); (case k5Z9 => omega); (case k6Z9 => omega); (case k7Z9 => omega)); intro h' F' N' hi' hl' hs')) | (((with_reducible show wpAny _ _ (call (Value.ref _) [Value.str _ _, Value.str _ _]) _ _ _); ((k_here; (rename Fr _ _ _ _ => lF'); (rename News _ _ _ _ => lN'); k_dflt (refine' use_cl (sub_claim _ _ _ _ _ (by omega) (by omega)) ?k1Z9 lF' ?k3Z9 lN' ?k5Z9 ?kKZ9 ?kdZ9 ?kuZ9 ?kHZ9 ?_); (case k1Z9 => k_asm); (case k3Z9 => k_asm); (case k5Z9 => k_asm); (case kKZ9 => first | exact rfl | assumption); (case kdZ9 => ktr_room); (case kuZ9 => ktr_units); (case kHZ9 => trivial); clear lF' lN')); intro v9 h9 tk9 F9 N9 st9 o9; obtain ⟨t9, e9⟩ := o9; subst e9; (try dsimp only); (try k_fold))) | ((k_here; (with_reducible show wpAny _ _ (subscriptTail _ (Expr.Slice none (some _) none _) _ _) _ _ _); (with_reducible rename Fr _ _ _ _ => F'); (with_reducible rename News _ _ _ _ => N'); (refine slice_none (s := ⟨_, _, _, _, _⟩) F' N' ?_ (hsz := ?hszZ9)); (case hszZ9 => (rw [sizeLine_eq]; omega)); intro _ _ _ _ _)) | ((k_here; k_openite; first | (refine ite_pos ?hxZ9 ?_; (case hxZ9 => first | with_reducible assumption | (simp only [decide_eq_true_eq, decide_eq_false_iff_not, Bool.not_eq_true', Bool.not_eq_false', bne_iff_ne, ne_eq]; omega))) | (refine ite_neg ?hxZ9 ?_; (case hxZ9 => first | with_reducible assumption | (simp only [decide_eq_true_eq, decide_eq_false_iff_not, Bool.not_eq_true', Bool.not_eq_false', bne_iff_ne, ne_eq, Bool.not_eq_true, Decidable.not_not]; omega))) | (refine ite_b (fun hc => ?_) (fun hc => ?_) <;> (try simp only [decide_eq_true_eq, decide_eq_false_iff_not, Bool.not_eq_true', Bool.not_eq_false', bne_iff_ne, ne_eq, bne_eq_false_iff_eq, Decidable.not_not, Int.not_lt, Int.not_le] at hc)))) | (fail_if_success (with_reducible show wpAny _ _ (exec (Stmt.While _ _ _ _) _) _ _ _)); (fail_if_success (with_reducible show wpAny _ _ (exec (Stmt.For _ _ _ _ _) _) _ _ _)); (fail_if_success (with_reducible show wpAny _ _ (pyIter _) _ _ _)); (fail_if_success (with_reducible show InvEndN _ _ _ _ _ _ _)); (fail_if_success (with_reducible show GEnd _ _ _ _ _ _ _)); (fail_if_success (with_reducible show GPost _ _ _ _ _ _ _ _ _)); first | (k_unfold; (try dsimp only)) | walk1 | (dsimp only; walk1) | (leave1; try dsimp only) | fail "no step"))
      ((refine' mturn_ ?keZ9 ?kFZ9 ?kNZ9 ?kyZ9 ?kcZ9 ?kmZ9; (case keZ9 => exact rfl); (case kFZ9 => assumption); (case kNZ9 => assumption); (case kyZ9 => exact rfl); (case kcZ9 => omega); (case kmZ9 => (intro z hz; first | (simp only [hz, if_false]; done) | (simp [hz]; done)))))
    · clear F1
      intro t h tk F2 N2
      dsimp only at F2
      k_dflt (refine' execs_store (PySem.Str.ofString "a") (fun v => ∃ t, v = .str (cutBack A (cslS A B)) t) F2 N2 ?_ ?_)
      · (try k_fold)
        (repeat' (first | ((k_here; (with_reducible show wpAny _ _ (setItem (Value.ref _) (Value.int _ _) (Value.int _ _)) _ _ _); k_dflt (refine' ksa_set ?k1Z9 ?k2Z9 (Upd.head ?k3Z9) ?k4Z9 ?k5Z9 ?k6Z9 ?k7Z9 ?_; (case k1Z9 => k_asm); (case k2Z9 => k_asm); (case k3Z9 => assumption); (case k4Z9 => assumption); (case k5Z9 => omega); (case k6Z9 => omega); (case k7Z9 => omega)); intro h' F' N' hi' hl' hs')) | (((with_reducible show wpAny _ _ (call (Value.ref _) [Value.str _ _, Value.str _ _]) _ _ _); ((k_here; (rename Fr _ _ _ _ => lF'); (rename News _ _ _ _ => lN'); k_dflt (refine' use_cl (sub_claim _ _ _ _ _ (by omega) (by omega)) ?k1Z9 lF' ?k3Z9 lN' ?k5Z9 ?kKZ9 ?kdZ9 ?kuZ9 ?kHZ9 ?_); (case k1Z9 => k_asm); (case k3Z9 => k_asm); (case k5Z9 => k_asm); (case kKZ9 => first | exact rfl | assumption); (case kdZ9 => ktr_room); (case kuZ9 => ktr_units); (case kHZ9 => trivial); clear lF' lN')); intro v9 h9 tk9 F9 N9 st9 o9; obtain ⟨t9, e9⟩ := o9; subst e9; (try dsimp only); (try k_fold))) | ((k_here; (with_reducible show wpAny _ _ (subscriptTail _ (Expr.Slice none (some _) none _) _ _) _ _ _); (with_reducible rename Fr _ _ _ _ => F'); (with_reducible rename News _ _ _ _ => N'); (refine slice_none (s := ⟨_, _, _, _, _⟩) F' N' ?_ (hsz := ?hszZ9)); (case hszZ9 => (rw [sizeLine_eq]; omega)); intro _ _ _ _ _)) | ((k_here; k_openite; first | (refine ite_pos ?hxZ9 ?_; (case hxZ9 => first | with_reducible assumption | (simp only [decide_eq_true_eq, decide_eq_false_iff_not, Bool.not_eq_true', Bool.not_eq_false', bne_iff_ne, ne_eq]; omega))) | (refine ite_neg ?hxZ9 ?_; (case hxZ9 => first | with_reducible assumption | (simp only [decide_eq_true_eq, decide_eq_false_iff_not, Bool.not_eq_true', Bool.not_eq_false', bne_iff_ne, ne_eq, Bool.not_eq_true, Decidable.not_not]; omega))) | (refine ite_b (fun hc => ?_) (fun hc => ?_) <;> (try simp only [decide_eq_true_eq, decide_eq_false_iff_not, Bool.not_eq_true', Bool.not_eq_false', bne_iff_ne, ne_eq, bne_eq_false_iff_eq, Decidable.not_not, Int.not_lt, Int.not_le] at hc)))) | (fail_if_success (with_reducible show wpAny _ _ (exec (Stmt.While _ _ _ _) _) _ _ _)); (fail_if_success (with_reducible show wpAny _ _ (exec (Stmt.For _ _ _ _ _) _) _ _ _)); (fail_if_success (with_reducible show wpAny _ _ (pyIter _) _ _ _)); (fail_if_success (with_reducible show InvEndN _ _ _ _ _ _ _)); (fail_if_success (with_reducible show GEnd _ _ _ _ _ _ _)); (fail_if_success (with_reducible show GPost _ _ _ _ _ _ _ _ _)); first | (k_unfold; (try dsimp only)) | walk1 | (dsimp only; walk1) | (leave1; try dsimp only) | fail "no step"))
        all_goals (((refine' mstore_ ?keZ9 ?kFZ9 ?kNZ9 ?knZ9 ?kyZ9 ?kmZ9 ?_; (case keZ9 => exact rfl); (case kFZ9 => assumption); (case kNZ9 => assumption); (case knZ9 => first | (intro p hp; cases hp; done) | exact fun p hp => hp); (case kyZ9 => exact rfl); (case kmZ9 => (intro z hz; first | (simp only [hz, if_false]; done) | (simp [hz]; done))))); first | exact ⟨_, by rw [cutBack, if_pos (by omega)]⟩ | exact ⟨_, by rw [cutBack, if_neg (by omega)]⟩)
      clear F2 N2
      rintro _ h tk ⟨t2, rfl⟩ F2 N2
      k_dflt (refine' execs_store (PySem.Str.ofString "b") (fun v => ∃ t, v = .str (cutBack B (cslS A B)) t) F2 N2 ?_ ?_)
      · (try k_fold)
        (repeat' (first | ((k_here; (with_reducible show wpAny _ _ (setItem (Value.ref _) (Value.int _ _) (Value.int _ _)) _ _ _); k_dflt (refine' ksa_set ?k1Z9 ?k2Z9 (Upd.head ?k3Z9) ?k4Z9 ?k5Z9 ?k6Z9 ?k7Z9 ?_; (case k1Z9 => k_asm); (case k2Z9 => k_asm); (case k3Z9 => assumption); (case k4Z9 => assumption); (case k5Z9 => omega); (case k6Z9 => omega); (case k7Z9 => omega)); intro h' F' N' hi' hl' hs')) | (((with_reducible show wpAny _ _ (call (Value.ref _) [Value.str _ _, Value.str _ _]) _ _ _); ((k_here; (rename Fr _ _ _ _ => lF'); (rename News _ _ _ _ => lN'); k_dflt (refine' use_cl (sub_claim _ _ _ _ _ (by omega) (by omega)) ?k1Z9 lF' ?k3Z9 lN' ?k5Z9 ?kKZ9 ?kdZ9 ?kuZ9 ?kHZ9 ?_); (case k1Z9 => k_asm); (case k3Z9 => k_asm); (case k5Z9 => k_asm); (case kKZ9 => first | exact rfl | assumption); (case kdZ9 => ktr_room); (case kuZ9 => ktr_units); (case kHZ9 => trivial); clear lF' lN')); intro v9 h9 tk9 F9 N9 st9 o9; obtain ⟨t9, e9⟩ := o9; subst e9; (try dsimp only); (try k_fold))) | ((k_here; (with_reducible show wpAny _ _ (subscriptTail _ (Expr.Slice none (some _) none _) _ _) _ _ _); (with_reducible rename Fr _ _ _ _ => F'); (with_reducible rename News _ _ _ _ => N'); (refine slice_none (s := ⟨_, _, _, _, _⟩) F' N' ?_ (hsz := ?hszZ9)); (case hszZ9 => (rw [sizeLine_eq]; omega)); intro _ _ _ _ _)) | ((k_here; k_openite; first | (refine ite_pos ?hxZ9 ?_; (case hxZ9 => first | with_reducible assumption | (simp only [decide_eq_true_eq, decide_eq_false_iff_not, Bool.not_eq_true', Bool.not_eq_false', bne_iff_ne, ne_eq]; omega))) | (refine ite_neg ?hxZ9 ?_; (case hxZ9 => first | with_reducible assumption | (simp only [decide_eq_true_eq, decide_eq_false_iff_not, Bool.not_eq_true', Bool.not_eq_false', bne_iff_ne, ne_eq, Bool.not_eq_true, Decidable.not_not]; omega))) | (refine ite_b (fun hc => ?_) (fun hc => ?_) <;> (try simp only [decide_eq_true_eq, decide_eq_false_iff_not, Bool.not_eq_true', Bool.not_eq_false', bne_iff_ne, ne_eq, bne_eq_false_iff_eq, Decidable.not_not, Int.not_lt, Int.not_le] at hc)))) | (fail_if_success (with_reducible show wpAny _ _ (exec (Stmt.While _ _ _ _) _) _ _ _)); (fail_if_success (with_reducible show wpAny _ _ (exec (Stmt.For _ _ _ _ _) _) _ _ _)); (fail_if_success (with_reducible show wpAny _ _ (pyIter _) _ _ _)); (fail_if_success (with_reducible show InvEndN _ _ _ _ _ _ _)); (fail_if_success (with_reducible show GEnd _ _ _ _ _ _ _)); (fail_if_success (with_reducible show GPost _ _ _ _ _ _ _ _ _)); first | (k_unfold; (try dsimp only)) | walk1 | (dsimp only; walk1) | (leave1; try dsimp only) | fail "no step"))
        all_goals (((refine' mstore_ ?keZ9 ?kFZ9 ?kNZ9 ?knZ9 ?kyZ9 ?kmZ9 ?_; (case keZ9 => exact rfl); (case kFZ9 => assumption); (case kNZ9 => assumption); (case knZ9 => first | (intro p hp; cases hp; done) | exact fun p hp => hp); (case kyZ9 => exact rfl); (case kmZ9 => (intro z hz; first | (simp only [hz, if_false]; done) | (simp [hz]; done))))); first | exact ⟨_, by rw [cutBack, if_pos (by omega)]⟩ | exact ⟨_, by rw [cutBack, if_neg (by omega)]⟩)
      clear F2 N2
      rintro _ h tk ⟨t3, rfl⟩ F2 N2
      have hA2 : (cutBack A (cslS A B)).length ≤ 40 := by rw [cutBack_len hle2.1]; omega
      have hB2 : (cutBack B (cslS A B)).length ≤ 40 := by rw [cutBack_len hle2.2]; omega
      generalize hA2e : cutBack A (cslS A B) = A2 at *
      generalize hB2e : cutBack B (cslS A B) = B2 at *
      k_dflt (refine' execs_if (1 ≤ A2.length ∧ 1 ≤ B2.length) F2 N2 ?_ ?_)
      · (try k_fold)
        (repeat' (first | ((k_here; (with_reducible show wpAny _ _ (setItem (Value.ref _) (Value.int _ _) (Value.int _ _)) _ _ _); k_dflt (refine' ksa_set ?k1Z9 ?k2Z9 (Upd.head ?k3Z9) ?k4Z9 ?k5Z9 ?k6Z9 ?k7Z9 ?_; (case k1Z9 => k_asm); (case k2Z9 => k_asm); (case k3Z9 => assumption); (case k4Z9 => assumption); (case k5Z9 => omega); (case k6Z9 => omega); (case k7Z9 => omega)); intro h' F' N' hi' hl' hs')) | (((with_reducible show wpAny _ _ (call (Value.ref _) [Value.str _ _, Value.str _ _]) _ _ _); ((k_here; (rename Fr _ _ _ _ => lF'); (rename News _ _ _ _ => lN'); k_dflt (refine' use_cl (sub_claim _ _ _ _ _ (by omega) (by omega)) ?k1Z9 lF' ?k3Z9 lN' ?k5Z9 ?kKZ9 ?kdZ9 ?kuZ9 ?kHZ9 ?_); (case k1Z9 => k_asm); (case k3Z9 => k_asm); (case k5Z9 => k_asm); (case kKZ9 => first | exact rfl | assumption); (case kdZ9 => ktr_room); (case kuZ9 => ktr_units); (case kHZ9 => trivial); clear lF' lN')); intro v9 h9 tk9 F9 N9 st9 o9; obtain ⟨t9, e9⟩ := o9; subst e9; (try dsimp only); (try k_fold))) | ((k_here; (with_reducible show wpAny _ _ (subscriptTail _ (Expr.Slice none (some _) none _) _ _) _ _ _); (with_reducible rename Fr _ _ _ _ => F'); (with_reducible rename News _ _ _ _ => N'); (refine slice_none (s := ⟨_, _, _, _, _⟩) F' N' ?_ (hsz := ?hszZ9)); (case hszZ9 => (rw [sizeLine_eq]; omega)); intro _ _ _ _ _)) | ((k_here; k_openite; first | (refine ite_pos ?hxZ9 ?_; (case hxZ9 => first | with_reducible assumption | (simp only [decide_eq_true_eq, decide_eq_false_iff_not, Bool.not_eq_true', Bool.not_eq_false', bne_iff_ne, ne_eq]; omega))) | (refine ite_neg ?hxZ9 ?_; (case hxZ9 => first | with_reducible assumption | (simp only [decide_eq_true_eq, decide_eq_false_iff_not, Bool.not_eq_true', Bool.not_eq_false', bne_iff_ne, ne_eq, Bool.not_eq_true, Decidable.not_not]; omega))) | (refine ite_b (fun hc => ?_) (fun hc => ?_) <;> (try simp only [decide_eq_true_eq, decide_eq_false_iff_not, Bool.not_eq_true', Bool.not_eq_false', bne_iff_ne, ne_eq, bne_eq_false_iff_eq, Decidable.not_not, Int.not_lt, Int.not_le] at hc)))) | (fail_if_success (with_reducible show wpAny _ _ (exec (Stmt.While _ _ _ _) _) _ _ _)); (fail_if_success (with_reducible show wpAny _ _ (exec (Stmt.For _ _ _ _ _) _) _ _ _)); (fail_if_success (with_reducible show wpAny _ _ (pyIter _) _ _ _)); (fail_if_success (with_reducible show InvEndN _ _ _ _ _ _ _)); (fail_if_success (with_reducible show GEnd _ _ _ _ _ _ _)); (fail_if_success (with_reducible show GPost _ _ _ _ _ _ _ _ _)); first | (k_unfold; (try dsimp only)) | walk1 | (dsimp only; walk1) | (leave1; try dsimp only) | fail "no step"))
        all_goals (first | (refine' mif_ret ?_) | (refine' mif_next ?keZ9 ?kFZ9 ?kNZ9 ?knZ9 ?_; (case keZ9 => exact rfl); (case kFZ9 => assumption); (case kNZ9 => assumption); (case knZ9 => first | (intro p hp; cases hp; done) | exact fun p hp => hp)))
        all_goals first
          | (k_unfold; (try dsimp only); (( (rename (∀ (v : Value) (h' : Heap) (tk' : Nat), Heap.StaysIn _ h' → _ → _) => hret9); (rename (_ = Shared.heap _) => hg9); refine' ret_ hret9 hg9 ?kFZ9 ?keZ9 ?_; (case kFZ9 => assumption); (case keZ9 => exact rfl); (try dsimp only))); exact oInt (lev_short (by assumption) hAe hBe hA2e hB2e (by omega)))
          | omega
      clear F2 N2
      intro h tk hlen F2 N2
      k_dflt (refine' execs_if True F2 N2 ?_ ?_)
      · (try k_fold)
        (repeat' (first | ((k_here; (with_reducible show wpAny _ _ (setItem (Value.ref _) (Value.int _ _) (Value.int _ _)) _ _ _); k_dflt (refine' ksa_set ?k1Z9 ?k2Z9 (Upd.head ?k3Z9) ?k4Z9 ?k5Z9 ?k6Z9 ?k7Z9 ?_; (case k1Z9 => k_asm); (case k2Z9 => k_asm); (case k3Z9 => assumption); (case k4Z9 => assumption); (case k5Z9 => omega); (case k6Z9 => omega); (case k7Z9 => omega)); intro h' F' N' hi' hl' hs')) | (((with_reducible show wpAny _ _ (call (Value.ref _) [Value.str _ _, Value.str _ _]) _ _ _); ((k_here; (rename Fr _ _ _ _ => lF'); (rename News _ _ _ _ => lN'); k_dflt (refine' use_cl (sub_claim _ _ _ _ _ (by omega) (by omega)) ?k1Z9 lF' ?k3Z9 lN' ?k5Z9 ?kKZ9 ?kdZ9 ?kuZ9 ?kHZ9 ?_); (case k1Z9 => k_asm); (case k3Z9 => k_asm); (case k5Z9 => k_asm); (case kKZ9 => first | exact rfl | assumption); (case kdZ9 => ktr_room); (case kuZ9 => ktr_units); (case kHZ9 => trivial); clear lF' lN')); intro v9 h9 tk9 F9 N9 st9 o9; obtain ⟨t9, e9⟩ := o9; subst e9; (try dsimp only); (try k_fold))) | ((k_here; (with_reducible show wpAny _ _ (subscriptTail _ (Expr.Slice none (some _) none _) _ _) _ _ _); (with_reducible rename Fr _ _ _ _ => F'); (with_reducible rename News _ _ _ _ => N'); (refine slice_none (s := ⟨_, _, _, _, _⟩) F' N' ?_ (hsz := ?hszZ9)); (case hszZ9 => (rw [sizeLine_eq]; omega)); intro _ _ _ _ _)) | ((k_here; k_openite; first | (refine ite_pos ?hxZ9 ?_; (case hxZ9 => first | with_reducible assumption | (simp only [decide_eq_true_eq, decide_eq_false_iff_not, Bool.not_eq_true', Bool.not_eq_false', bne_iff_ne, ne_eq]; omega))) | (refine ite_neg ?hxZ9 ?_; (case hxZ9 => first | with_reducible assumption | (simp only [decide_eq_true_eq, decide_eq_false_iff_not, Bool.not_eq_true', Bool.not_eq_false', bne_iff_ne, ne_eq, Bool.not_eq_true, Decidable.not_not]; omega))) | (refine ite_b (fun hc => ?_) (fun hc => ?_) <;> (try simp only [decide_eq_true_eq, decide_eq_false_iff_not, Bool.not_eq_true', Bool.not_eq_false', bne_iff_ne, ne_eq, bne_eq_false_iff_eq, Decidable.not_not, Int.not_lt, Int.not_le] at hc)))) | (fail_if_success (with_reducible show wpAny _ _ (exec (Stmt.While _ _ _ _) _) _ _ _)); (fail_if_success (with_reducible show wpAny _ _ (exec (Stmt.For _ _ _ _ _) _) _ _ _)); (fail_if_success (with_reducible show wpAny _ _ (pyIter _) _ _ _)); (fail_if_success (with_reducible show InvEndN _ _ _ _ _ _ _)); (fail_if_success (with_reducible show GEnd _ _ _ _ _ _ _)); (fail_if_success (with_reducible show GPost _ _ _ _ _ _ _ _ _)); first | (k_unfold; (try dsimp only)) | walk1 | (dsimp only; walk1) | (leave1; try dsimp only) | fail "no step"))
        all_goals (first | (refine' mif_ret ?_) | (refine' mif_next ?keZ9 ?kFZ9 ?kNZ9 ?knZ9 ?_; (case keZ9 => exact rfl); (case kFZ9 => assumption); (case kNZ9 => assumption); (case knZ9 => first | (intro p hp; cases hp; done) | exact fun p hp => hp)))
        all_goals trivial
      clear F2 N2
      intro h tk _ F2 N2
      k_dflt (refine' execs_store2 (PySem.Str.ofString "a") (PySem.Str.ofString "b") (fun v1 v2 => ∃ t1 t2, v1 = .str (if B2.length < A2.length then B2 else A2) t1 ∧ v2 = .str (if B2.length < A2.length then A2 else B2) t2) F2 N2 ?_ ?_)
      · (try k_fold)
        (repeat' (first | ((k_here; (with_reducible show wpAny _ _ (setItem (Value.ref _) (Value.int _ _) (Value.int _ _)) _ _ _); k_dflt (refine' ksa_set ?k1Z9 ?k2Z9 (Upd.head ?k3Z9) ?k4Z9 ?k5Z9 ?k6Z9 ?k7Z9 ?_; (case k1Z9 => k_asm); (case k2Z9 => k_asm); (case k3Z9 => assumption); (case k4Z9 => assumption); (case k5Z9 => omega); (case k6Z9 => omega); (case k7Z9 => omega)); intro h' F' N' hi' hl' hs')) | (((with_reducible show wpAny _ _ (call (Value.ref _) [Value.str _ _, Value.str _ _]) _ _ _); ((k_here; (rename Fr _ _ _ _ => lF'); (rename News _ _ _ _ => lN'); k_dflt (refine' use_cl (sub_claim _ _ _ _ _ (by omega) (by omega)) ?k1Z9 lF' ?k3Z9 lN' ?k5Z9 ?kKZ9 ?kdZ9 ?kuZ9 ?kHZ9 ?_); (case k1Z9 => k_asm); (case k3Z9 => k_asm); (case k5Z9 => k_asm); (case kKZ9 => first | exact rfl | assumption); (case kdZ9 => ktr_room); (case kuZ9 => ktr_units); (case kHZ9 => trivial); clear lF' lN')); intro v9 h9 tk9 F9 N9 st9 o9; obtain ⟨t9, e9⟩ := o9; subst e9; (try dsimp only); (try k_fold))) | ((k_here; (with_reducible show wpAny _ _ (subscriptTail _ (Expr.Slice none (some _) none _) _ _) _ _ _); (with_reducible rename Fr _ _ _ _ => F'); (with_reducible rename News _ _ _ _ => N'); (refine slice_none (s := ⟨_, _, _, _, _⟩) F' N' ?_ (hsz := ?hszZ9)); (case hszZ9 => (rw [sizeLine_eq]; omega)); intro _ _ _ _ _)) | ((k_here; k_openite; first | (refine ite_pos ?hxZ9 ?_; (case hxZ9 => first | with_reducible assumption | (simp only [decide_eq_true_eq, decide_eq_false_iff_not, Bool.not_eq_true', Bool.not_eq_false', bne_iff_ne, ne_eq]; omega))) | (refine ite_neg ?hxZ9 ?_; (case hxZ9 => first | with_reducible assumption | (simp only [decide_eq_true_eq, decide_eq_false_iff_not, Bool.not_eq_true', Bool.not_eq_false', bne_iff_ne, ne_eq, Bool.not_eq_true, Decidable.not_not]; omega))) | (refine ite_b (fun hc => ?_) (fun hc => ?_) <;> (try simp only [decide_eq_true_eq, decide_eq_false_iff_not, Bool.not_eq_true', Bool.not_eq_false', bne_iff_ne, ne_eq, bne_eq_false_iff_eq, Decidable.not_not, Int.not_lt, Int.not_le] at hc)))) | (fail_if_success (with_reducible show wpAny _ _ (exec (Stmt.While _ _ _ _) _) _ _ _)); (fail_if_success (with_reducible show wpAny _ _ (exec (Stmt.For _ _ _ _ _) _) _ _ _)); (fail_if_success (with_reducible show wpAny _ _ (pyIter _) _ _ _)); (fail_if_success (with_reducible show InvEndN _ _ _ _ _ _ _)); (fail_if_success (with_reducible show GEnd _ _ _ _ _ _ _)); (fail_if_success (with_reducible show GPost _ _ _ _ _ _ _ _ _)); first | (k_unfold; (try dsimp only)) | walk1 | (dsimp only; walk1) | (leave1; try dsimp only) | fail "no step"))
        all_goals ((refine' mstore2_ ?keZ9 ?kFZ9 ?kNZ9 ?knZ9 ?kyZ9 ?ky2Z9 ?kmZ9 ?_; (case keZ9 => exact rfl); (case kFZ9 => assumption); (case kNZ9 => assumption); (case knZ9 => first | (intro p hp; cases hp; done) | exact fun p hp => hp); (case kyZ9 => exact rfl); (case ky2Z9 => exact rfl); (case kmZ9 => (intro z hz hz2; first | (simp only [hz, hz2, if_false]; done) | (simp [hz, hz2]; done)))))
        all_goals first | exact ⟨_, _, by rw [if_pos (by omega)], by rw [if_pos (by omega)]⟩ | exact ⟨_, _, by rw [if_neg (by omega)], by rw [if_neg (by omega)]⟩
      clear F2 N2
      rintro _ _ h tk ⟨t4, t5, rfl, rfl⟩ F2 N2
      have hA3 : (if B2.length < A2.length then B2 else A2).length ≤ (if B2.length < A2.length then A2 else B2).length := by split <;> omega
      have hA4 : 1 ≤ (if B2.length < A2.length then B2 else A2).length := by split <;> omega
      have hB4 : (if B2.length < A2.length then A2 else B2).length ≤ 40 := by split <;> omega
      generalize hA3e : (if B2.length < A2.length then B2 else A2) = A3 at *
      generalize hB3e : (if B2.length < A2.length then A2 else B2) = B3 at *
      (try k_fold)
      (repeat' (first | ((k_here; (with_reducible show wpAny _ _ (setItem (Value.ref _) (Value.int _ _) (Value.int _ _)) _ _ _); k_dflt (refine' ksa_set ?k1Z9 ?k2Z9 (Upd.head ?k3Z9) ?k4Z9 ?k5Z9 ?k6Z9 ?k7Z9 ?_; (case k1Z9 => k_asm); (case k2Z9 => k_asm); (case k3Z9 => assumption); (case k4Z9 => assumption); (case k5Z9 => omega); (case k6Z9 => omega); (case k7Z9 => omega)); intro h' F' N' hi' hl' hs')) | (((with_reducible show wpAny _ _ (call (Value.ref _) [Value.str _ _, Value.str _ _]) _ _ _); ((k_here; (rename Fr _ _ _ _ => lF'); (rename News _ _ _ _ => lN'); k_dflt (refine' use_cl (sub_claim _ _ _ _ _ (by omega) (by omega)) ?k1Z9 lF' ?k3Z9 lN' ?k5Z9 ?kKZ9 ?kdZ9 ?kuZ9 ?kHZ9 ?_); (case k1Z9 => k_asm); (case k3Z9 => k_asm); (case k5Z9 => k_asm); (case kKZ9 => first | exact rfl | assumption); (case kdZ9 => ktr_room); (case kuZ9 => ktr_units); (case kHZ9 => trivial); clear lF' lN')); intro v9 h9 tk9 F9 N9 st9 o9; obtain ⟨t9, e9⟩ := o9; subst e9; (try dsimp only); (try k_fold))) | ((k_here; (with_reducible show wpAny _ _ (subscriptTail _ (Expr.Slice none (some _) none _) _ _) _ _ _); (with_reducible rename Fr _ _ _ _ => F'); (with_reducible rename News _ _ _ _ => N'); (refine slice_none (s := ⟨_, _, _, _, _⟩) F' N' ?_ (hsz := ?hszZ9)); (case hszZ9 => (rw [sizeLine_eq]; omega)); intro _ _ _ _ _)) | ((k_here; k_openite; first | (refine ite_pos ?hxZ9 ?_; (case hxZ9 => first | with_reducible assumption | (simp only [decide_eq_true_eq, decide_eq_false_iff_not, Bool.not_eq_true', Bool.not_eq_false', bne_iff_ne, ne_eq]; omega))) | (refine ite_neg ?hxZ9 ?_; (case hxZ9 => first | with_reducible assumption | (simp only [decide_eq_true_eq, decide_eq_false_iff_not, Bool.not_eq_true', Bool.not_eq_false', bne_iff_ne, ne_eq, Bool.not_eq_true, Decidable.not_not]; omega))) | (refine ite_b (fun hc => ?_) (fun hc => ?_) <;> (try simp only [decide_eq_true_eq, decide_eq_false_iff_not, Bool.not_eq_true', Bool.not_eq_false', bne_iff_ne, ne_eq, bne_eq_false_iff_eq, Decidable.not_not, Int.not_lt, Int.not_le] at hc)))) | (fail_if_success (with_reducible show wpAny _ _ (exec (Stmt.While _ _ _ _) _) _ _ _)); (fail_if_success (with_reducible show wpAny _ _ (exec (Stmt.For _ _ _ _ _) _) _ _ _)); (fail_if_success (with_reducible show wpAny _ _ (pyIter _) _ _ _)); (fail_if_success (with_reducible show InvEndN _ _ _ _ _ _ _)); (fail_if_success (with_reducible show GEnd _ _ _ _ _ _ _)); (fail_if_success (with_reducible show GPost _ _ _ _ _ _ _ _ _)); first | (k_unfold; (try dsimp only)) | walk1 | (dsimp only; walk1) | (leave1; try dsimp only) | fail "no step"))
      · (( (rename (∀ (v : Value) (h' : Heap) (tk' : Nat), Heap.StaysIn _ h' → _ → _) => hret9); (rename (_ = Shared.heap _) => hg9); refine' ret_ hret9 hg9 ?kFZ9 ?keZ9 ?_; (case kFZ9 => assumption); (case keZ9 => exact rfl); (try dsimp only)))
        exact oInt ((tail_far (by omega)).trans (lev_long (by assumption) hAe hBe hA2e hB2e hlen hA3e hB3e))
      have hcn : ((B3.length : Int) - A3.length) * 2 ≤ mc := by assumption
      (((with_unfolding_all refine' For_invVF ?kZZ9 ?k1Z9 ?k2Z9 ?_); (case kZZ9 => k_dflt assumption); (with_unfolding_all ((case k1Z9 => exact rfl); (case k2Z9 => exact rfl); k_whole)); (repeat' (first | ((k_here; (with_reducible show wpAny _ _ (setItem (Value.ref _) (Value.int _ _) (Value.int _ _)) _ _ _); k_dflt (refine' ksa_set ?k1Z9 ?k2Z9 (Upd.head ?k3Z9) ?k4Z9 ?k5Z9 ?k6Z9 ?k7Z9 ?_; (case k1Z9 => k_asm); (case k2Z9 => k_asm); (case k3Z9 => assumption); (case k4Z9 => assumption); (case k5Z9 => omega); (case k6Z9 => omega); (case k7Z9 => omega)); intro h' F' N' hi' hl' hs')) | (((with_reducible show wpAny _ _ (call (Value.ref _) [Value.str _ _, Value.str _ _]) _ _ _); ((k_here; (rename Fr _ _ _ _ => lF'); (rename News _ _ _ _ => lN'); k_dflt (refine' use_cl (sub_claim _ _ _ _ _ (by omega) (by omega)) ?k1Z9 lF' ?k3Z9 lN' ?k5Z9 ?kKZ9 ?kdZ9 ?kuZ9 ?kHZ9 ?_); (case k1Z9 => k_asm); (case k3Z9 => k_asm); (case k5Z9 => k_asm); (case kKZ9 => first | exact rfl | assumption); (case kdZ9 => ktr_room); (case kuZ9 => ktr_units); (case kHZ9 => trivial); clear lF' lN')); intro v9 h9 tk9 F9 N9 st9 o9; obtain ⟨t9, e9⟩ := o9; subst e9; (try dsimp only); (try k_fold))) | ((k_here; (with_reducible show wpAny _ _ (subscriptTail _ (Expr.Slice none (some _) none _) _ _) _ _ _); (with_reducible rename Fr _ _ _ _ => F'); (with_reducible rename News _ _ _ _ => N'); (refine slice_none (s := ⟨_, _, _, _, _⟩) F' N' ?_ (hsz := ?hszZ9)); (case hszZ9 => (rw [sizeLine_eq]; omega)); intro _ _ _ _ _)) | ((k_here; k_openite; first | (refine ite_pos ?hxZ9 ?_; (case hxZ9 => first | with_reducible assumption | (simp only [decide_eq_true_eq, decide_eq_false_iff_not, Bool.not_eq_true', Bool.not_eq_false', bne_iff_ne, ne_eq]; omega))) | (refine ite_neg ?hxZ9 ?_; (case hxZ9 => first | with_reducible assumption | (simp only [decide_eq_true_eq, decide_eq_false_iff_not, Bool.not_eq_true', Bool.not_eq_false', bne_iff_ne, ne_eq, Bool.not_eq_true, Decidable.not_not]; omega))) | (refine ite_b (fun hc => ?_) (fun hc => ?_) <;> (try simp only [decide_eq_true_eq, decide_eq_false_iff_not, Bool.not_eq_true', Bool.not_eq_false', bne_iff_ne, ne_eq, bne_eq_false_iff_eq, Decidable.not_not, Int.not_lt, Int.not_le] at hc)))) | (fail_if_success (with_reducible show wpAny _ _ (exec (Stmt.While _ _ _ _) _) _ _ _)); (fail_if_success (with_reducible show wpAny _ _ (exec (Stmt.For _ _ _ _ _) _) _ _ _)); (fail_if_success (with_reducible show wpAny _ _ (pyIter _) _ _ _)); (fail_if_success (with_reducible show InvEndN _ _ _ _ _ _ _)); (fail_if_success (with_reducible show GEnd _ _ _ _ _ _ _)); (fail_if_success (with_reducible show GPost _ _ _ _ _ _ _ _ _)); first | (k_unfold; (try dsimp only)) | walk1 | (dsimp only; walk1) | (leave1; try dsimp only) | fail "no step"))))
      rename_i D us c h9 tk9 hI l1 h8 h7 F8 N8 e9 h6 tk6 t1 u1 v1 hR F9 N9 st9
      k_dflt (refine' kst_range (n := B3.length) (σ := OutSt) (outLed D) outPs outFa outStored (outP A3 B3 mc) ((0, _), (us, rangeInts 2 2 A3.length, c))
                    rfl hR (small_0 (by omega) (by omega)) (range_one _) F9 N9 hI ?kk ⟨rfl, rangeInts_length _ _ _⟩ ?kt ?kd)
      case kk => kst_all
      case kd =>
        clear F8 N8 F9 N9 st9 hR
        rintro ⟨⟨res, tres⟩, us1, row1, c1⟩ u h tk hI1 ⟨hP, hlen1⟩ F9 N9
        dsimp only at hP hlen1
        dsimp only [outLed] at N9
        dsimp only [outPs, outStored] at F9
        (try k_fold)
        (repeat' (first | ((k_here; (with_reducible show wpAny _ _ (setItem (Value.ref _) (Value.int _ _) (Value.int _ _)) _ _ _); k_dflt (refine' ksa_set ?k1Z9 ?k2Z9 (Upd.head ?k3Z9) ?k4Z9 ?k5Z9 ?k6Z9 ?k7Z9 ?_; (case k1Z9 => k_asm); (case k2Z9 => k_asm); (case k3Z9 => assumption); (case k4Z9 => assumption); (case k5Z9 => omega); (case k6Z9 => omega); (case k7Z9 => omega)); intro h' F' N' hi' hl' hs')) | (((with_reducible show wpAny _ _ (call (Value.ref _) [Value.str _ _, Value.str _ _]) _ _ _); ((k_here; (rename Fr _ _ _ _ => lF'); (rename News _ _ _ _ => lN'); k_dflt (refine' use_cl (sub_claim _ _ _ _ _ (by omega) (by omega)) ?k1Z9 lF' ?k3Z9 lN' ?k5Z9 ?kKZ9 ?kdZ9 ?kuZ9 ?kHZ9 ?_); (case k1Z9 => k_asm); (case k3Z9 => k_asm); (case k5Z9 => k_asm); (case kKZ9 => first | exact rfl | assumption); (case kdZ9 => ktr_room); (case kuZ9 => ktr_units); (case kHZ9 => trivial); clear lF' lN')); intro v9 h9 tk9 F9 N9 st9 o9; obtain ⟨t9, e9⟩ := o9; subst e9; (try dsimp only); (try k_fold))) | ((k_here; (with_reducible show wpAny _ _ (subscriptTail _ (Expr.Slice none (some _) none _) _ _) _ _ _); (with_reducible rename Fr _ _ _ _ => F'); (with_reducible rename News _ _ _ _ => N'); (refine slice_none (s := ⟨_, _, _, _, _⟩) F' N' ?_ (hsz := ?hszZ9)); (case hszZ9 => (rw [sizeLine_eq]; omega)); intro _ _ _ _ _)) | ((k_here; k_openite; first | (refine ite_pos ?hxZ9 ?_; (case hxZ9 => first | with_reducible assumption | (simp only [decide_eq_true_eq, decide_eq_false_iff_not, Bool.not_eq_true', Bool.not_eq_false', bne_iff_ne, ne_eq]; omega))) | (refine ite_neg ?hxZ9 ?_; (case hxZ9 => first | with_reducible assumption | (simp only [decide_eq_true_eq, decide_eq_false_iff_not, Bool.not_eq_true', Bool.not_eq_false', bne_iff_ne, ne_eq, Bool.not_eq_true, Decidable.not_not]; omega))) | (refine ite_b (fun hc => ?_) (fun hc => ?_) <;> (try simp only [decide_eq_true_eq, decide_eq_false_iff_not, Bool.not_eq_true', Bool.not_eq_false', bne_iff_ne, ne_eq, bne_eq_false_iff_eq, Decidable.not_not, Int.not_lt, Int.not_le] at hc)))) | (fail_if_success (with_reducible show wpAny _ _ (exec (Stmt.While _ _ _ _) _) _ _ _)); (fail_if_success (with_reducible show wpAny _ _ (exec (Stmt.For _ _ _ _ _) _) _ _ _)); (fail_if_success (with_reducible show wpAny _ _ (pyIter _) _ _ _)); (fail_if_success (with_reducible show InvEndN _ _ _ _ _ _ _)); (fail_if_success (with_reducible show GEnd _ _ _ _ _ _ _)); (fail_if_success (with_reducible show GPost _ _ _ _ _ _ _ _ _)); first | (k_unfold; (try dsimp only)) | walk1 | (dsimp only; walk1) | (leave1; try dsimp only) | fail "no step"))
        (( (rename (∀ (v : Value) (h' : Heap) (tk' : Nat), Heap.StaysIn _ h' → _ → _) => hret9); (rename (_ = Shared.heap _) => hg9); refine' ret_ hret9 hg9 ?kFZ9 ?keZ9 ?_; (case kFZ9 => assumption); (case keZ9 => exact rfl); (try dsimp only)))
        exact oInt ((outer_done hP).trans ((tail_near hcn).trans (lev_long (by assumption) hAe hBe hA2e hB2e hlen hA3e hB3e)))
      clear F8 N8 F9 N9 st9 hR
      rintro ⟨⟨res, tres⟩, us1, row1, c1⟩ pre k t u h tk own hk hpre hoff hI1 ⟨hP, hlen1⟩ F9 N9
      dsimp only at hP hlen1
      dsimp only [outLed] at N9
      dsimp only [outPs, outStored] at F9
      have hI1 : IntsAre us1 row1 := hI1
      (try k_fold)
      (repeat' (first | ((k_here; (with_reducible show wpAny _ _ (setItem (Value.ref _) (Value.int _ _) (Value.int _ _)) _ _ _); k_dflt (refine' ksa_set ?k1Z9 ?k2Z9 (Upd.head ?k3Z9) ?k4Z9 ?k5Z9 ?k6Z9 ?k7Z9 ?_; (case k1Z9 => k_asm); (case k2Z9 => k_asm); (case k3Z9 => assumption); (case k4Z9 => assumption); (case k5Z9 => omega); (case k6Z9 => omega); (case k7Z9 => omega)); intro h' F' N' hi' hl' hs')) | (((with_reducible show wpAny _ _ (call (Value.ref _) [Value.str _ _, Value.str _ _]) _ _ _); ((k_here; (rename Fr _ _ _ _ => lF'); (rename News _ _ _ _ => lN'); k_dflt (refine' use_cl (sub_claim _ _ _ _ _ (by omega) (by omega)) ?k1Z9 lF' ?k3Z9 lN' ?k5Z9 ?kKZ9 ?kdZ9 ?kuZ9 ?kHZ9 ?_); (case k1Z9 => k_asm); (case k3Z9 => k_asm); (case k5Z9 => k_asm); (case kKZ9 => first | exact rfl | assumption); (case kdZ9 => ktr_room); (case kuZ9 => ktr_units); (case kHZ9 => trivial); clear lF' lN')); intro v9 h9 tk9 F9 N9 st9 o9; obtain ⟨t9, e9⟩ := o9; subst e9; (try dsimp only); (try k_fold))) | ((k_here; (with_reducible show wpAny _ _ (subscriptTail _ (Expr.Slice none (some _) none _) _ _) _ _ _); (with_reducible rename Fr _ _ _ _ => F'); (with_reducible rename News _ _ _ _ => N'); (refine slice_none (s := ⟨_, _, _, _, _⟩) F' N' ?_ (hsz := ?hszZ9)); (case hszZ9 => (rw [sizeLine_eq]; omega)); intro _ _ _ _ _)) | ((k_here; k_openite; first | (refine ite_pos ?hxZ9 ?_; (case hxZ9 => first | with_reducible assumption | (simp only [decide_eq_true_eq, decide_eq_false_iff_not, Bool.not_eq_true', Bool.not_eq_false', bne_iff_ne, ne_eq]; omega))) | (refine ite_neg ?hxZ9 ?_; (case hxZ9 => first | with_reducible assumption | (simp only [decide_eq_true_eq, decide_eq_false_iff_not, Bool.not_eq_true', Bool.not_eq_false', bne_iff_ne, ne_eq, Bool.not_eq_true, Decidable.not_not]; omega))) | (refine ite_b (fun hc => ?_) (fun hc => ?_) <;> (try simp only [decide_eq_true_eq, decide_eq_false_iff_not, Bool.not_eq_true', Bool.not_eq_false', bne_iff_ne, ne_eq, bne_eq_false_iff_eq, Decidable.not_not, Int.not_lt, Int.not_le] at hc)))) | (fail_if_success (with_reducible show wpAny _ _ (exec (Stmt.While _ _ _ _) _) _ _ _)); (fail_if_success (with_reducible show wpAny _ _ (exec (Stmt.For _ _ _ _ _) _) _ _ _)); (fail_if_success (with_reducible show wpAny _ _ (pyIter _) _ _ _)); (fail_if_success (with_reducible show InvEndN _ _ _ _ _ _ _)); (fail_if_success (with_reducible show GEnd _ _ _ _ _ _ _)); (fail_if_success (with_reducible show GPost _ _ _ _ _ _ _ _ _)); first | (k_unfold; (try dsimp only)) | walk1 | (dsimp only; walk1) | (leave1; try dsimp only) | fail "no step"))
      clear F9 N9
      (((with_unfolding_all refine' For_invVF ?kZZ9 ?k1Z9 ?k2Z9 ?_); (case kZZ9 => k_dflt assumption); (with_unfolding_all ((case k1Z9 => exact rfl); (case k2Z9 => exact rfl); k_whole)); (repeat' (first | ((k_here; (with_reducible show wpAny _ _ (setItem (Value.ref _) (Value.int _ _) (Value.int _ _)) _ _ _); k_dflt (refine' ksa_set ?k1Z9 ?k2Z9 (Upd.head ?k3Z9) ?k4Z9 ?k5Z9 ?k6Z9 ?k7Z9 ?_; (case k1Z9 => k_asm); (case k2Z9 => k_asm); (case k3Z9 => assumption); (case k4Z9 => assumption); (case k5Z9 => omega); (case k6Z9 => omega); (case k7Z9 => omega)); intro h' F' N' hi' hl' hs')) | (((with_reducible show wpAny _ _ (call (Value.ref _) [Value.str _ _, Value.str _ _]) _ _ _); ((k_here; (rename Fr _ _ _ _ => lF'); (rename News _ _ _ _ => lN'); k_dflt (refine' use_cl (sub_claim _ _ _ _ _ (by omega) (by omega)) ?k1Z9 lF' ?k3Z9 lN' ?k5Z9 ?kKZ9 ?kdZ9 ?kuZ9 ?kHZ9 ?_); (case k1Z9 => k_asm); (case k3Z9 => k_asm); (case k5Z9 => k_asm); (case kKZ9 => first | exact rfl | assumption); (case kdZ9 => ktr_room); (case kuZ9 => ktr_units); (case kHZ9 => trivial); clear lF' lN')); intro v9 h9 tk9 F9 N9 st9 o9; obtain ⟨t9, e9⟩ := o9; subst e9; (try dsimp only); (try k_fold))) | ((k_here; (with_reducible show wpAny _ _ (subscriptTail _ (Expr.Slice none (some _) none _) _ _) _ _ _); (with_reducible rename Fr _ _ _ _ => F'); (with_reducible rename News _ _ _ _ => N'); (refine slice_none (s := ⟨_, _, _, _, _⟩) F' N' ?_ (hsz := ?hszZ9)); (case hszZ9 => (rw [sizeLine_eq]; omega)); intro _ _ _ _ _)) | ((k_here; k_openite; first | (refine ite_pos ?hxZ9 ?_; (case hxZ9 => first | with_reducible assumption | (simp only [decide_eq_true_eq, decide_eq_false_iff_not, Bool.not_eq_true', Bool.not_eq_false', bne_iff_ne, ne_eq]; omega))) | (refine ite_neg ?hxZ9 ?_; (case hxZ9 => first | with_reducible assumption | (simp only [decide_eq_true_eq, decide_eq_false_iff_not, Bool.not_eq_true', Bool.not_eq_false', bne_iff_ne, ne_eq, Bool.not_eq_true, Decidable.not_not]; omega))) | (refine ite_b (fun hc => ?_) (fun hc => ?_) <;> (try simp only [decide_eq_true_eq, decide_eq_false_iff_not, Bool.not_eq_true', Bool.not_eq_false', bne_iff_ne, ne_eq, bne_eq_false_iff_eq, Decidable.not_not, Int.not_lt, Int.not_le] at hc)))) | (fail_if_success (with_reducible show wpAny _ _ (exec (Stmt.While _ _ _ _) _) _ _ _)); (fail_if_success (with_reducible show wpAny _ _ (exec (Stmt.For _ _ _ _ _) _) _ _ _)); (fail_if_success (with_reducible show wpAny _ _ (pyIter _) _ _ _)); (fail_if_success (with_reducible show InvEndN _ _ _ _ _ _ _)); (fail_if_success (with_reducible show GEnd _ _ _ _ _ _ _)); (fail_if_success (with_reducible show GPost _ _ _ _ _ _ _ _ _)); first | (k_unfold; (try dsimp only)) | walk1 | (dsimp only; walk1) | (leave1; try dsimp only) | fail "no step"))))
      rename_i e9 h6 tk6 t1 u1 v1 hR F9 N9 st9
      k_dflt (refine' kst_range (n := A3.length) (σ := InSt) (inLed D own) inPs inFa inStored (inP A3 (Txt.item B3 k) k row1) ((k * 2, _), (k * 2, _), (9223372036854775807, _), (us1, row1, c1))
                    rfl hR (small_0 (by omega) (by omega)) (range_one _) F9 N9 hI1 ?kk2 rfl ?kt2 ?kd2)
      case kk2 => kst_all
      case kt2 =>
        clear F9 N9 st9 hR
        rintro ⟨⟨d, td⟩, ⟨r, tr⟩, ⟨mn, tm⟩, us2, row2, c2⟩ pre2 i t2 u2 h tk own2 hi hpre2 hoff2 hI2 hP2 F9 N9
        have hlen2 : row2.length = A3.length := by
          have h1 := congrArg (fun x : Int × Int × Int × List Int => x.2.2.2.length) hP2
          dsimp only [inP] at h1
          rw [fold_row] at h1
          exact h1.trans hlen1
        have hI2 : IntsAre us2 row2 := hI2
        have hne : ∀ p ∈ own ++ own2, p.1 ≠ D := by
          intro p hp
          rcases List.mem_append.mp hp with hp | hp
          · exact hoff p hp D (by simp)
          · exact hoff2 p hp D (by simp)
        dsimp only [inLed] at N9
        replace N9 := news_flat N9
        generalize hrest : own ++ own2 = rest at hne N9
        dsimp only [inPs, inStored] at F9
        dsimp only [inP] at hP2
        (try k_fold)
        (repeat' (first | ((k_here; (with_reducible show wpAny _ _ (setItem (Value.ref _) (Value.int _ _) (Value.int _ _)) _ _ _); k_dflt (refine' ksa_set ?k1Z9 ?k2Z9 (Upd.head ?k3Z9) ?k4Z9 ?k5Z9 ?k6Z9 ?k7Z9 ?_; (case k1Z9 => k_asm); (case k2Z9 => k_asm); (case k3Z9 => assumption); (case k4Z9 => assumption); (case k5Z9 => omega); (case k6Z9 => omega); (case k7Z9 => omega)); intro h' F' N' hi' hl' hs')) | (((with_reducible show wpAny _ _ (call (Value.ref _) [Value.str _ _, Value.str _ _]) _ _ _); ((k_here; (rename Fr _ _ _ _ => lF'); (rename News _ _ _ _ => lN'); k_dflt (refine' use_cl (sub_claim _ _ _ _ _ (by omega) (by omega)) ?k1Z9 lF' ?k3Z9 lN' ?k5Z9 ?kKZ9 ?kdZ9 ?kuZ9 ?kHZ9 ?_); (case k1Z9 => k_asm); (case k3Z9 => k_asm); (case k5Z9 => k_asm); (case kKZ9 => first | exact rfl | assumption); (case kdZ9 => ktr_room); (case kuZ9 => ktr_units); (case kHZ9 => trivial); clear lF' lN')); intro v9 h9 tk9 F9 N9 st9 o9; obtain ⟨t9, e9⟩ := o9; subst e9; (try dsimp only); (try k_fold))) | ((k_here; (with_reducible show wpAny _ _ (subscriptTail _ (Expr.Slice none (some _) none _) _ _) _ _ _); (with_reducible rename Fr _ _ _ _ => F'); (with_reducible rename News _ _ _ _ => N'); (refine slice_none (s := ⟨_, _, _, _, _⟩) F' N' ?_ (hsz := ?hszZ9)); (case hszZ9 => (rw [sizeLine_eq]; omega)); intro _ _ _ _ _)) | ((k_here; k_openite; first | (refine ite_pos ?hxZ9 ?_; (case hxZ9 => first | with_reducible assumption | (simp only [decide_eq_true_eq, decide_eq_false_iff_not, Bool.not_eq_true', Bool.not_eq_false', bne_iff_ne, ne_eq]; omega))) | (refine ite_neg ?hxZ9 ?_; (case hxZ9 => first | with_reducible assumption | (simp only [decide_eq_true_eq, decide_eq_false_iff_not, Bool.not_eq_true', Bool.not_eq_false', bne_iff_ne, ne_eq, Bool.not_eq_true, Decidable.not_not]; omega))) | (refine ite_b (fun hc => ?_) (fun hc => ?_) <;> (try simp only [decide_eq_true_eq, decide_eq_false_iff_not, Bool.not_eq_true', Bool.not_eq_false', bne_iff_ne, ne_eq, bne_eq_false_iff_eq, Decidable.not_not, Int.not_lt, Int.not_le] at hc)))) | (fail_if_success (with_reducible show wpAny _ _ (exec (Stmt.While _ _ _ _) _) _ _ _)); (fail_if_success (with_reducible show wpAny _ _ (exec (Stmt.For _ _ _ _ _) _) _ _ _)); (fail_if_success (with_reducible show wpAny _ _ (pyIter _) _ _ _)); (fail_if_success (with_reducible show InvEndN _ _ _ _ _ _ _)); (fail_if_success (with_reducible show GEnd _ _ _ _ _ _ _)); (fail_if_success (with_reducible show GPost _ _ _ _ _ _ _ _ _)); first | (k_unfold; (try dsimp only)) | walk1 | (dsimp only; walk1) | (leave1; try dsimp only) | fail "no step"))
        all_goals ((refine' inner_end ?eFZ9 ?eNZ9 ?erZ9 ?eIZ9 ?kdZ9 ?krZ9 ?kmZ9 ?hrZ9 ?hpZ9; (case eFZ9 => assumption); (case eNZ9 => assumption); (case erZ9 => assumption); (case eIZ9 => assumption); (case kdZ9 => exact rfl); (case krZ9 => exact rfl); (case kmZ9 => exact rfl); (case hrZ9 => (intro z h1 h2 h3 h4 h5 h6; simp only [h1, h2, h3, h4, h5, h6, if_false, kstB, List.contains_cons, List.contains_nil, beq_iff_eq, Bool.or_eq_true, Bool.false_eq_true, or_self, false_or, or_false])); (case hpZ9 => first | exact in_turn (by assumption) ((if_pos (by assumption)).symm) | exact in_turn (by assumption) ((if_neg (Int.not_lt.mpr (by assumption))).symm))))
      clear F9 N9 st9 hR
      rintro ⟨⟨d, td⟩, ⟨r, tr⟩, ⟨mn, tm⟩, us2, row2, c2⟩ u2 h tk hI2 hP2 F9 N9
      have hin : (d, r, mn, row2) = inner A3 (Txt.item B3 k) k row1 := hP2
      have hI2 : IntsAre us2 row2 := hI2
      dsimp only [inLed] at N9
      dsimp only [inPs, inStored] at F9
      (try k_fold)
      (repeat' (first | ((k_here; (with_reducible show wpAny _ _ (setItem (Value.ref _) (Value.int _ _) (Value.int _ _)) _ _ _); k_dflt (refine' ksa_set ?k1Z9 ?k2Z9 (Upd.head ?k3Z9) ?k4Z9 ?k5Z9 ?k6Z9 ?k7Z9 ?_; (case k1Z9 => k_asm); (case k2Z9 => k_asm); (case k3Z9 => assumption); (case k4Z9 => assumption); (case k5Z9 => omega); (case k6Z9 => omega); (case k7Z9 => omega)); intro h' F' N' hi' hl' hs')) | (((with_reducible show wpAny _ _ (call (Value.ref _) [Value.str _ _, Value.str _ _]) _ _ _); ((k_here; (rename Fr _ _ _ _ => lF'); (rename News _ _ _ _ => lN'); k_dflt (refine' use_cl (sub_claim _ _ _ _ _ (by omega) (by omega)) ?k1Z9 lF' ?k3Z9 lN' ?k5Z9 ?kKZ9 ?kdZ9 ?kuZ9 ?kHZ9 ?_); (case k1Z9 => k_asm); (case k3Z9 => k_asm); (case k5Z9 => k_asm); (case kKZ9 => first | exact rfl | assumption); (case kdZ9 => ktr_room); (case kuZ9 => ktr_units); (case kHZ9 => trivial); clear lF' lN')); intro v9 h9 tk9 F9 N9 st9 o9; obtain ⟨t9, e9⟩ := o9; subst e9; (try dsimp only); (try k_fold))) | ((k_here; (with_reducible show wpAny _ _ (subscriptTail _ (Expr.Slice none (some _) none _) _ _) _ _ _); (with_reducible rename Fr _ _ _ _ => F'); (with_reducible rename News _ _ _ _ => N'); (refine slice_none (s := ⟨_, _, _, _, _⟩) F' N' ?_ (hsz := ?hszZ9)); (case hszZ9 => (rw [sizeLine_eq]; omega)); intro _ _ _ _ _)) | ((k_here; k_openite; first | (refine ite_pos ?hxZ9 ?_; (case hxZ9 => first | with_reducible assumption | (simp only [decide_eq_true_eq, decide_eq_false_iff_not, Bool.not_eq_true', Bool.not_eq_false', bne_iff_ne, ne_eq]; omega))) | (refine ite_neg ?hxZ9 ?_; (case hxZ9 => first | with_reducible assumption | (simp only [decide_eq_true_eq, decide_eq_false_iff_not, Bool.not_eq_true', Bool.not_eq_false', bne_iff_ne, ne_eq, Bool.not_eq_true, Decidable.not_not]; omega))) | (refine ite_b (fun hc => ?_) (fun hc => ?_) <;> (try simp only [decide_eq_true_eq, decide_eq_false_iff_not, Bool.not_eq_true', Bool.not_eq_false', bne_iff_ne, ne_eq, bne_eq_false_iff_eq, Decidable.not_not, Int.not_lt, Int.not_le] at hc)))) | (fail_if_success (with_reducible show wpAny _ _ (exec (Stmt.While _ _ _ _) _) _ _ _)); (fail_if_success (with_reducible show wpAny _ _ (exec (Stmt.For _ _ _ _ _) _) _ _ _)); (fail_if_success (with_reducible show wpAny _ _ (pyIter _) _ _ _)); (fail_if_success (with_reducible show InvEndN _ _ _ _ _ _ _)); (fail_if_success (with_reducible show GEnd _ _ _ _ _ _ _)); (fail_if_success (with_reducible show GPost _ _ _ _ _ _ _ _ _)); first | (k_unfold; (try dsimp only)) | walk1 | (dsimp only; walk1) | (leave1; try dsimp only) | fail "no step"))
      · (( (rename (∀ (v : Value) (h' : Heap) (tk' : Nat), Heap.StaysIn _ h' → _ → _) => hret9); (rename (_ = Shared.heap _) => hg9); refine' ret_ hret9 hg9 ?kFZ9 ?keZ9 ?_; (case kFZ9 => assumption); (case keZ9 => exact rfl); (try dsimp only)))
        exact oInt ((outer_ret hP hk hpre hin (by assumption)).trans ((tail_near hcn).trans (lev_long (by assumption) hAe hBe hA2e hB2e hlen hA3e hB3e)))
      ((refine' outer_end ?eFZ9 ?eNZ9 ?eIZ9 ?krZ9 ?hrZ9 ?hPZ9 ?hlZ9 ?hkZ9 ?hnZ9 ?hinZ9 ?hZ9; (case eFZ9 => assumption); (case eNZ9 => assumption); (case eIZ9 => assumption); (case krZ9 => exact rfl); (case hrZ9 => (intro z h1 h2 h3 h4 h5 h6 h7 h8; simp only [h1, h2, h3, h4, h5, h6, h7, h8, if_false, kstB, List.contains_cons, List.contains_nil, beq_iff_eq, Bool.or_eq_true, Bool.false_eq_true, or_self, false_or, or_false])); (case hPZ9 => assumption); (case hlZ9 => assumption); (case hkZ9 => assumption); (case hnZ9 => assumption); (case hinZ9 => assumption); (case hZ9 => assumption)))

-- slips_body
theorem ell_use (w : World) (line other : PySem.Str) (k width : Int) (tw tg : Tok) (hl : line.length ≤ 40) (ho : other.length ≤ 40) (h0 : 0 ≤ k) (hw : 0 ≤ width) (hk : k + width ≤ line.length) (hd : 46 ∉ line.cps.toList) :
    Cl 1 94 w (fun _ => True) [.str (Txt.slice line none (some k) ++ PySem.Str.ofString "..." ++ Txt.slice line (some (k + width)) none) tw, .str other tg] (OBool (ellF (Txt.slice line none (some k)) (Txt.slice line (some (k + width)) none) other)) := by
  obtain ⟨a, rfl⟩ := Int.eq_ofNat_of_zero_le h0
  obtain ⟨b, rfl⟩ := Int.eq_ofNat_of_zero_le hw
  have e : ((a : Int) + (b : Int)) = ((a + b : Nat) : Int) := by omega
  rw [e]
  have h1 : (Txt.slice line none (some (a : Int))).length = a := slice_upto_len (by omega)
  have h2 : (Txt.slice line (some ((a + b : Nat) : Int)) none).length = line.length - (a + b) := slice_from_len (by omega)
  have n1 := nodot_upto (n := a) (x := line) (by omega) hd
  have n2 := nodot_from (n := a + b) (x := line) (by omega) hd
  exact ell_claim w _ _ _ other tw tg (by rw [PySem.Str.length_append, PySem.Str.length_append, h1, h2]; have : (PySem.Str.ofString "...").length = 3 := dots_len; omega) (by omega) (by omega) (by omega) (occ_dots1 n1 n2) (split_dots n1 n2)

set_option maxHeartbeats 3000000 in
theorem slips_claim (w : World) (line other : PySem.Str) (ta tb : Tok) (hl : line.length ≤ 40) (ho : other.length ≤ 40) (h4 : 4 ≤ line.length) (hd : 46 ∉ line.cps.toList) :
    Cl 2 122 w (fun _ => True) [.str line ta, .str other tb] (OInt (slipsF line other)) := by
  w_on
  (( unfold Cl PCl; intro meanZ mgZ mbZ dpZ unZ gdZ cnZ csZ aZ ccdZ clZ outerZ AZ baseZ hZ0 LZ mZ sZ QZ EZ BZ FZ XZ TZ hkZ hdZ huZ hHZ hretZ; k_dflt (refine' enter_pure ?k1Z9 ?k2Z9 ?k3Z9 ?k5Z9 ?kAZ9 ?kFZ9 ?kKZ9 ?k6Z9 ?k7Z9 ?k8Z9 ?k9Z9 ?kBZ9 ?_ ?c2Z9 ?c3Z9 ?c4Z9 ?c5Z9; (case kAZ9 => exact rfl); (case kFZ9 => exact rfl); (case kKZ9 => assumption); (case k1Z9 => k_asm); (case k2Z9 => k_asm); (case k3Z9 => k_asm); (case k5Z9 => k_asm); (case k6Z9 => k_is); (case k7Z9 => k_is); (case k8Z9 => ktr_room); (case k9Z9 => exact BindsTo.of_eq rfl); (case c5Z9 => decide); (case kBZ9 => exact locs rfl); (case c2Z9 => exact rfl); (case c3Z9 => exact rfl); (case c4Z9 => exact rfl); k_whole; intro gY LY hY hgY FY NY BY XY TY; (try dsimp only); (try k_lift BY); (try k_fold))))
  (repeat' (first | (((with_reducible show wpAny _ _ (call (Value.ref _) [Value.str _ _, Value.str _ _]) _ _ _); ((k_here; (rename Fr _ _ _ _ => lF'); (rename News _ _ _ _ => lN'); k_dflt (refine' use_cl (ell_use _ _ _ _ _ _ _ (by assumption) (by assumption) (by omega) (by omega) (by omega) (by assumption)) ?k1Z9 lF' ?k3Z9 lN' ?k5Z9 ?kKZ9 ?kdZ9 ?kuZ9 ?kHZ9 ?_); (case k1Z9 => k_asm); (case k3Z9 => k_asm); (case k5Z9 => k_asm); (case kKZ9 => first | exact rfl | assumption); (case kdZ9 => ktr_room); (case kuZ9 => ktr_units); (case kHZ9 => trivial); clear lF' lN')); intro v9 h9 tk9 F9 N9 st9 o9; subst o9; (try dsimp only); (try k_fold))) | ((k_here; (with_reducible show wpAny _ _ (subscriptTail _ (Expr.Slice none (some _) none _) _ _) _ _ _); (with_reducible rename Fr _ _ _ _ => F'); (with_reducible rename News _ _ _ _ => N'); (refine slice_none (s := ⟨_, _, _, _, _⟩) F' N' ?_ (hsz := ?hszZ9)); (case hszZ9 => (rw [sizeLine_eq]; omega)); intro _ _ _ _ _)) | ((k_here; k_openite; first | (refine ite_pos ?hxZ9 ?_; (case hxZ9 => first | with_reducible assumption | (simp only [decide_eq_true_eq, decide_eq_false_iff_not, Bool.not_eq_true', Bool.not_eq_false', bne_iff_ne, ne_eq]; omega))) | (refine ite_neg ?hxZ9 ?_; (case hxZ9 => first | with_reducible assumption | (simp only [decide_eq_true_eq, decide_eq_false_iff_not, Bool.not_eq_true', Bool.not_eq_false', bne_iff_ne, ne_eq, Bool.not_eq_true, Decidable.not_not]; omega))) | (refine ite_b (fun hc => ?_) (fun hc => ?_) <;> (try simp only [decide_eq_true_eq, decide_eq_false_iff_not, Bool.not_eq_true', Bool.not_eq_false', bne_iff_ne, ne_eq, bne_eq_false_iff_eq, Decidable.not_not, Int.not_lt, Int.not_le] at hc)))) | (fail_if_success (with_reducible show wpAny _ _ (exec (Stmt.While _ _ _ _) _) _ _ _)); (fail_if_success (with_reducible show wpAny _ _ (exec (Stmt.For _ _ _ _ _) _) _ _ _)); (fail_if_success (with_reducible show wpAny _ _ (pyIter _) _ _ _)); (fail_if_success (with_reducible show InvEndN _ _ _ _ _ _ _)); (fail_if_success (with_reducible show GEnd _ _ _ _ _ _ _)); (fail_if_success (with_reducible show GPost _ _ _ _ _ _ _ _ _)); first | (k_unfold; (try dsimp only)) | walk1 | (dsimp only; walk1) | (leave1; try dsimp only) | fail "no step"))
  (((with_unfolding_all refine' For_invVF ?kZZ9 ?k1Z9 ?k2Z9 ?_); (case kZZ9 => k_dflt assumption); (with_unfolding_all ((case k1Z9 => exact rfl); (case k2Z9 => exact rfl); k_whole)); (repeat' (first | (((with_reducible show wpAny _ _ (call (Value.ref _) [Value.str _ _, Value.str _ _]) _ _ _); ((k_here; (rename Fr _ _ _ _ => lF'); (rename News _ _ _ _ => lN'); k_dflt (refine' use_cl (ell_use _ _ _ _ _ _ _ (by assumption) (by assumption) (by omega) (by omega) (by omega) (by assumption)) ?k1Z9 lF' ?k3Z9 lN' ?k5Z9 ?kKZ9 ?kdZ9 ?kuZ9 ?kHZ9 ?_); (case k1Z9 => k_asm); (case k3Z9 => k_asm); (case k5Z9 => k_asm); (case kKZ9 => first | exact rfl | assumption); (case kdZ9 => ktr_room); (case kuZ9 => ktr_units); (case kHZ9 => trivial); clear lF' lN')); intro v9 h9 tk9 F9 N9 st9 o9; subst o9; (try dsimp only); (try k_fold))) | ((k_here; (with_reducible show wpAny _ _ (subscriptTail _ (Expr.Slice none (some _) none _) _ _) _ _ _); (with_reducible rename Fr _ _ _ _ => F'); (with_reducible rename News _ _ _ _ => N'); (refine slice_none (s := ⟨_, _, _, _, _⟩) F' N' ?_ (hsz := ?hszZ9)); (case hszZ9 => (rw [sizeLine_eq]; omega)); intro _ _ _ _ _)) | ((k_here; k_openite; first | (refine ite_pos ?hxZ9 ?_; (case hxZ9 => first | with_reducible assumption | (simp only [decide_eq_true_eq, decide_eq_false_iff_not, Bool.not_eq_true', Bool.not_eq_false', bne_iff_ne, ne_eq]; omega))) | (refine ite_neg ?hxZ9 ?_; (case hxZ9 => first | with_reducible assumption | (simp only [decide_eq_true_eq, decide_eq_false_iff_not, Bool.not_eq_true', Bool.not_eq_false', bne_iff_ne, ne_eq, Bool.not_eq_true, Decidable.not_not]; omega))) | (refine ite_b (fun hc => ?_) (fun hc => ?_) <;> (try simp only [decide_eq_true_eq, decide_eq_false_iff_not, Bool.not_eq_true', Bool.not_eq_false', bne_iff_ne, ne_eq, bne_eq_false_iff_eq, Decidable.not_not, Int.not_lt, Int.not_le] at hc)))) | (fail_if_success (with_reducible show wpAny _ _ (exec (Stmt.While _ _ _ _) _) _ _ _)); (fail_if_success (with_reducible show wpAny _ _ (exec (Stmt.For _ _ _ _ _) _) _ _ _)); (fail_if_success (with_reducible show wpAny _ _ (pyIter _) _ _ _)); (fail_if_success (with_reducible show InvEndN _ _ _ _ _ _ _)); (fail_if_success (with_reducible show GEnd _ _ _ _ _ _ _)); (fail_if_success (with_reducible show GPost _ _ _ _ _ _ _ _ _)); first | (k_unfold; (try dsimp only)) | walk1 | (dsimp only; walk1) | (leave1; try dsimp only) | fail "no step"))))
  rename_i h6 tk6 t1 u1 v1 hR F9 N9 st9
  k_dflt (refine' kst_range (n := 5) (oneLed []) (onePs (PySem.Str.ofString "fewest")) oneFa [PySem.Str.ofString "slips", PySem.Str.ofString "k"] (oneP (fun pre c => c = pre.foldl (slipIn line other) ((line.length : Int) + other.length))) ((line.length : Int) + other.length, _)
                rfl hR (small_0 (by omega) (by omega)) (range_to rfl) F9 N9 trivial ?kk rfl ?kt ?kd)
  case kk => kst_all
  case kd =>
    clear F9 N9 st9 hR
    rintro ⟨c, tc⟩ u h tk _ hP F9 N9
    dsimp only [oneP] at hP
    dsimp only [onePs] at F9
    (try k_fold)
    (repeat' (first | (((with_reducible show wpAny _ _ (call (Value.ref _) [Value.str _ _, Value.str _ _]) _ _ _); ((k_here; (rename Fr _ _ _ _ => lF'); (rename News _ _ _ _ => lN'); k_dflt (refine' use_cl (ell_use _ _ _ _ _ _ _ (by assumption) (by assumption) (by omega) (by omega) (by omega) (by assumption)) ?k1Z9 lF' ?k3Z9 lN' ?k5Z9 ?kKZ9 ?kdZ9 ?kuZ9 ?kHZ9 ?_); (case k1Z9 => k_asm); (case k3Z9 => k_asm); (case k5Z9 => k_asm); (case kKZ9 => first | exact rfl | assumption); (case kdZ9 => ktr_room); (case kuZ9 => ktr_units); (case kHZ9 => trivial); clear lF' lN')); intro v9 h9 tk9 F9 N9 st9 o9; subst o9; (try dsimp only); (try k_fold))) | ((k_here; (with_reducible show wpAny _ _ (subscriptTail _ (Expr.Slice none (some _) none _) _ _) _ _ _); (with_reducible rename Fr _ _ _ _ => F'); (with_reducible rename News _ _ _ _ => N'); (refine slice_none (s := ⟨_, _, _, _, _⟩) F' N' ?_ (hsz := ?hszZ9)); (case hszZ9 => (rw [sizeLine_eq]; omega)); intro _ _ _ _ _)) | ((k_here; k_openite; first | (refine ite_pos ?hxZ9 ?_; (case hxZ9 => first | with_reducible assumption | (simp only [decide_eq_true_eq, decide_eq_false_iff_not, Bool.not_eq_true', Bool.not_eq_false', bne_iff_ne, ne_eq]; omega))) | (refine ite_neg ?hxZ9 ?_; (case hxZ9 => first | with_reducible assumption | (simp only [decide_eq_true_eq, decide_eq_false_iff_not, Bool.not_eq_true', Bool.not_eq_false', bne_iff_ne, ne_eq, Bool.not_eq_true, Decidable.not_not]; omega))) | (refine ite_b (fun hc => ?_) (fun hc => ?_) <;> (try simp only [decide_eq_true_eq, decide_eq_false_iff_not, Bool.not_eq_true', Bool.not_eq_false', bne_iff_ne, ne_eq, bne_eq_false_iff_eq, Decidable.not_not, Int.not_lt, Int.not_le] at hc)))) | (fail_if_success (with_reducible show wpAny _ _ (exec (Stmt.While _ _ _ _) _) _ _ _)); (fail_if_success (with_reducible show wpAny _ _ (exec (Stmt.For _ _ _ _ _) _) _ _ _)); (fail_if_success (with_reducible show wpAny _ _ (pyIter _) _ _ _)); (fail_if_success (with_reducible show InvEndN _ _ _ _ _ _ _)); (fail_if_success (with_reducible show GEnd _ _ _ _ _ _ _)); (fail_if_success (with_reducible show GPost _ _ _ _ _ _ _ _ _)); first | (k_unfold; (try dsimp only)) | walk1 | (dsimp only; walk1) | (leave1; try dsimp only) | fail "no step"))
    (( (rename (∀ (v : Value) (h' : Heap) (tk' : Nat), Heap.StaysIn _ h' → _ → _) => hret9); (rename (_ = Shared.heap _) => hg9); refine' ret_ hret9 hg9 ?kFZ9 ?keZ9 ?_; (case kFZ9 => assumption); (case keZ9 => exact rfl); (try dsimp only)))
    exact oInt hP
  clear F9 N9 st9 hR
  rintro ⟨c, tc⟩ pre width t u h tk own hw hpre hoff _ hP F9 N9
  dsimp only [oneP] at hP
  dsimp only [onePs] at F9
  dsimp only [oneLed, List.nil_append] at N9
  (try k_fold)
  (repeat' (first | (((with_reducible show wpAny _ _ (call (Value.ref _) [Value.str _ _, Value.str _ _]) _ _ _); ((k_here; (rename Fr _ _ _ _ => lF'); (rename News _ _ _ _ => lN'); k_dflt (refine' use_cl (ell_use _ _ _ _ _ _ _ (by assumption) (by assumption) (by omega) (by omega) (by omega) (by assumption)) ?k1Z9 lF' ?k3Z9 lN' ?k5Z9 ?kKZ9 ?kdZ9 ?kuZ9 ?kHZ9 ?_); (case k1Z9 => k_asm); (case k3Z9 => k_asm); (case k5Z9 => k_asm); (case kKZ9 => first | exact rfl | assumption); (case kdZ9 => ktr_room); (case kuZ9 => ktr_units); (case kHZ9 => trivial); clear lF' lN')); intro v9 h9 tk9 F9 N9 st9 o9; subst o9; (try dsimp only); (try k_fold))) | ((k_here; (with_reducible show wpAny _ _ (subscriptTail _ (Expr.Slice none (some _) none _) _ _) _ _ _); (with_reducible rename Fr _ _ _ _ => F'); (with_reducible rename News _ _ _ _ => N'); (refine slice_none (s := ⟨_, _, _, _, _⟩) F' N' ?_ (hsz := ?hszZ9)); (case hszZ9 => (rw [sizeLine_eq]; omega)); intro _ _ _ _ _)) | ((k_here; k_openite; first | (refine ite_pos ?hxZ9 ?_; (case hxZ9 => first | with_reducible assumption | (simp only [decide_eq_true_eq, decide_eq_false_iff_not, Bool.not_eq_true', Bool.not_eq_false', bne_iff_ne, ne_eq]; omega))) | (refine ite_neg ?hxZ9 ?_; (case hxZ9 => first | with_reducible assumption | (simp only [decide_eq_true_eq, decide_eq_false_iff_not, Bool.not_eq_true', Bool.not_eq_false', bne_iff_ne, ne_eq, Bool.not_eq_true, Decidable.not_not]; omega))) | (refine ite_b (fun hc => ?_) (fun hc => ?_) <;> (try simp only [decide_eq_true_eq, decide_eq_false_iff_not, Bool.not_eq_true', Bool.not_eq_false', bne_iff_ne, ne_eq, bne_eq_false_iff_eq, Decidable.not_not, Int.not_lt, Int.not_le] at hc)))) | (fail_if_success (with_reducible show wpAny _ _ (exec (Stmt.While _ _ _ _) _) _ _ _)); (fail_if_success (with_reducible show wpAny _ _ (exec (Stmt.For _ _ _ _ _) _) _ _ _)); (fail_if_success (with_reducible show wpAny _ _ (pyIter _) _ _ _)); (fail_if_success (with_reducible show InvEndN _ _ _ _ _ _ _)); (fail_if_success (with_reducible show GEnd _ _ _ _ _ _ _)); (fail_if_success (with_reducible show GPost _ _ _ _ _ _ _ _ _)); first | (k_unfold; (try dsimp only)) | walk1 | (dsimp only; walk1) | (leave1; try dsimp only) | fail "no step"))
  (((with_unfolding_all refine' For_invVF ?kZZ9 ?k1Z9 ?k2Z9 ?_); (case kZZ9 => k_dflt assumption); (with_unfolding_all ((case k1Z9 => exact rfl); (case k2Z9 => exact rfl); k_whole)); (repeat' (first | (((with_reducible show wpAny _ _ (call (Value.ref _) [Value.str _ _, Value.str _ _]) _ _ _); ((k_here; (rename Fr _ _ _ _ => lF'); (rename News _ _ _ _ => lN'); k_dflt (refine' use_cl (ell_use _ _ _ _ _ _ _ (by assumption) (by assumption) (by omega) (by omega) (by omega) (by assumption)) ?k1Z9 lF' ?k3Z9 lN' ?k5Z9 ?kKZ9 ?kdZ9 ?kuZ9 ?kHZ9 ?_); (case k1Z9 => k_asm); (case k3Z9 => k_asm); (case k5Z9 => k_asm); (case kKZ9 => first | exact rfl | assumption); (case kdZ9 => ktr_room); (case kuZ9 => ktr_units); (case kHZ9 => trivial); clear lF' lN')); intro v9 h9 tk9 F9 N9 st9 o9; subst o9; (try dsimp only); (try k_fold))) | ((k_here; (with_reducible show wpAny _ _ (subscriptTail _ (Expr.Slice none (some _) none _) _ _) _ _ _); (with_reducible rename Fr _ _ _ _ => F'); (with_reducible rename News _ _ _ _ => N'); (refine slice_none (s := ⟨_, _, _, _, _⟩) F' N' ?_ (hsz := ?hszZ9)); (case hszZ9 => (rw [sizeLine_eq]; omega)); intro _ _ _ _ _)) | ((k_here; k_openite; first | (refine ite_pos ?hxZ9 ?_; (case hxZ9 => first | with_reducible assumption | (simp only [decide_eq_true_eq, decide_eq_false_iff_not, Bool.not_eq_true', Bool.not_eq_false', bne_iff_ne, ne_eq]; omega))) | (refine ite_neg ?hxZ9 ?_; (case hxZ9 => first | with_reducible assumption | (simp only [decide_eq_true_eq, decide_eq_false_iff_not, Bool.not_eq_true', Bool.not_eq_false', bne_iff_ne, ne_eq, Bool.not_eq_true, Decidable.not_not]; omega))) | (refine ite_b (fun hc => ?_) (fun hc => ?_) <;> (try simp only [decide_eq_true_eq, decide_eq_false_iff_not, Bool.not_eq_true', Bool.not_eq_false', bne_iff_ne, ne_eq, bne_eq_false_iff_eq, Decidable.not_not, Int.not_lt, Int.not_le] at hc)))) | (fail_if_success (with_reducible show wpAny _ _ (exec (Stmt.While _ _ _ _) _) _ _ _)); (fail_if_success (with_reducible show wpAny _ _ (exec (Stmt.For _ _ _ _ _) _) _ _ _)); (fail_if_success (with_reducible show wpAny _ _ (pyIter _) _ _ _)); (fail_if_success (with_reducible show InvEndN _ _ _ _ _ _ _)); (fail_if_success (with_reducible show GEnd _ _ _ _ _ _ _)); (fail_if_success (with_reducible show GPost _ _ _ _ _ _ _ _ _)); first | (k_unfold; (try dsimp only)) | walk1 | (dsimp only; walk1) | (leave1; try dsimp only) | fail "no step"))))
  rename_i h6 tk6 t1 u1 v1 hR F9 N9 st9
  have hw5 : 0 ≤ width ∧ width ≤ 4 := by omega
  have hslip : slipAt line other width = if (other.length : Int) - line.length + width > width then (other.length : Int) - line.length + width else width := rfl
  k_dflt (refine' kst_range (n := line.length + 1 - width.toNat) (oneLed own) (onePs (PySem.Str.ofString "fewest")) oneFa [] (oneP (fun pre x => x = pre.foldl (slipStep line other width) c)) (c, _)
                rfl hR (small_0 (by omega) (by omega)) (range_to (by omega)) F9 N9 trivial ?kk2 rfl ?kt2 ?kd2)
  case kk2 => kst_all
  case kd2 =>
    clear F9 N9 st9 hR
    rintro ⟨c2, tc2⟩ u2 h tk _ hP2 F9 N9
    dsimp only [oneP] at hP2
    dsimp only [onePs] at F9
    dsimp only [oneLed] at N9
    (try k_fold)
    (repeat' (first | (((with_reducible show wpAny _ _ (call (Value.ref _) [Value.str _ _, Value.str _ _]) _ _ _); ((k_here; (rename Fr _ _ _ _ => lF'); (rename News _ _ _ _ => lN'); k_dflt (refine' use_cl (ell_use _ _ _ _ _ _ _ (by assumption) (by assumption) (by omega) (by omega) (by omega) (by assumption)) ?k1Z9 lF' ?k3Z9 lN' ?k5Z9 ?kKZ9 ?kdZ9 ?kuZ9 ?kHZ9 ?_); (case k1Z9 => k_asm); (case k3Z9 => k_asm); (case k5Z9 => k_asm); (case kKZ9 => first | exact rfl | assumption); (case kdZ9 => ktr_room); (case kuZ9 => ktr_units); (case kHZ9 => trivial); clear lF' lN')); intro v9 h9 tk9 F9 N9 st9 o9; subst o9; (try dsimp only); (try k_fold))) | ((k_here; (with_reducible show wpAny _ _ (subscriptTail _ (Expr.Slice none (some _) none _) _ _) _ _ _); (with_reducible rename Fr _ _ _ _ => F'); (with_reducible rename News _ _ _ _ => N'); (refine slice_none (s := ⟨_, _, _, _, _⟩) F' N' ?_ (hsz := ?hszZ9)); (case hszZ9 => (rw [sizeLine_eq]; omega)); intro _ _ _ _ _)) | ((k_here; k_openite; first | (refine ite_pos ?hxZ9 ?_; (case hxZ9 => first | with_reducible assumption | (simp only [decide_eq_true_eq, decide_eq_false_iff_not, Bool.not_eq_true', Bool.not_eq_false', bne_iff_ne, ne_eq]; omega))) | (refine ite_neg ?hxZ9 ?_; (case hxZ9 => first | with_reducible assumption | (simp only [decide_eq_true_eq, decide_eq_false_iff_not, Bool.not_eq_true', Bool.not_eq_false', bne_iff_ne, ne_eq, Bool.not_eq_true, Decidable.not_not]; omega))) | (refine ite_b (fun hc => ?_) (fun hc => ?_) <;> (try simp only [decide_eq_true_eq, decide_eq_false_iff_not, Bool.not_eq_true', Bool.not_eq_false', bne_iff_ne, ne_eq, bne_eq_false_iff_eq, Decidable.not_not, Int.not_lt, Int.not_le] at hc)))) | (fail_if_success (with_reducible show wpAny _ _ (exec (Stmt.While _ _ _ _) _) _ _ _)); (fail_if_success (with_reducible show wpAny _ _ (exec (Stmt.For _ _ _ _ _) _) _ _ _)); (fail_if_success (with_reducible show wpAny _ _ (pyIter _) _ _ _)); (fail_if_success (with_reducible show InvEndN _ _ _ _ _ _ _)); (fail_if_success (with_reducible show GEnd _ _ _ _ _ _ _)); (fail_if_success (with_reducible show GPost _ _ _ _ _ _ _ _ _)); first | (k_unfold; (try dsimp only)) | walk1 | (dsimp only; walk1) | (leave1; try dsimp only) | fail "no step"))
    ((refine' one_end ?eFZ9 ?eNZ9 ?enZ9 ?eoZ9 ?kyZ9 ?hrZ9 ?_; (case eFZ9 => assumption); (case eNZ9 => assumption); (case enZ9 => first | (intro p hp; cases hp; done) | (intro p hp; simp only [List.mem_append, List.mem_cons, List.nil_append, List.cons_append] at hp ⊢; simp only [hp, true_or, or_true]; done)); (case eoZ9 => first | (intro p hp; exact hp) | (intro p hp; simp only [List.mem_append, List.mem_cons, List.nil_append, List.cons_append] at hp ⊢; simp only [hp, true_or, or_true]; done)); (case kyZ9 => exact rfl); (case hrZ9 => (intro z h1 h2 h3; simp only [List.contains_cons, List.contains_nil, Bool.or_false, Bool.or_eq_false_iff, beq_eq_false_iff_ne, ne_eq] at h3; simp only [h1, h2, h3, if_false, kstB, List.contains_cons, List.contains_nil, beq_iff_eq, Bool.or_eq_true, Bool.false_eq_true, or_self, false_or, or_false]))))
    exact slip_out hP hP2 rfl
  clear F9 N9 st9 hR
  rintro ⟨c2, tc2⟩ pre2 k t2 u2 h tk own2 hk hpre2 hoff2 _ hP2 F9 N9
  dsimp only [oneP] at hP2
  dsimp only [onePs] at F9
  dsimp only [oneLed] at N9
  have hk0 : 0 ≤ k ∧ k + width ≤ line.length := by omega
  (try k_fold)
  (repeat' (first | (((with_reducible show wpAny _ _ (call (Value.ref _) [Value.str _ _, Value.str _ _]) _ _ _); ((k_here; (rename Fr _ _ _ _ => lF'); (rename News _ _ _ _ => lN'); k_dflt (refine' use_cl (ell_use _ _ _ _ _ _ _ (by assumption) (by assumption) (by omega) (by omega) (by omega) (by assumption)) ?k1Z9 lF' ?k3Z9 lN' ?k5Z9 ?kKZ9 ?kdZ9 ?kuZ9 ?kHZ9 ?_); (case k1Z9 => k_asm); (case k3Z9 => k_asm); (case k5Z9 => k_asm); (case kKZ9 => first | exact rfl | assumption); (case kdZ9 => ktr_room); (case kuZ9 => ktr_units); (case kHZ9 => trivial); clear lF' lN')); intro v9 h9 tk9 F9 N9 st9 o9; subst o9; (try dsimp only); (try k_fold))) | ((k_here; (with_reducible show wpAny _ _ (subscriptTail _ (Expr.Slice none (some _) none _) _ _) _ _ _); (with_reducible rename Fr _ _ _ _ => F'); (with_reducible rename News _ _ _ _ => N'); (refine slice_none (s := ⟨_, _, _, _, _⟩) F' N' ?_ (hsz := ?hszZ9)); (case hszZ9 => (rw [sizeLine_eq]; omega)); intro _ _ _ _ _)) | ((k_here; k_openite; first | (refine ite_pos ?hxZ9 ?_; (case hxZ9 => first | with_reducible assumption | (simp only [decide_eq_true_eq, decide_eq_false_iff_not, Bool.not_eq_true', Bool.not_eq_false', bne_iff_ne, ne_eq]; omega))) | (refine ite_neg ?hxZ9 ?_; (case hxZ9 => first | with_reducible assumption | (simp only [decide_eq_true_eq, decide_eq_false_iff_not, Bool.not_eq_true', Bool.not_eq_false', bne_iff_ne, ne_eq, Bool.not_eq_true, Decidable.not_not]; omega))) | (refine ite_b (fun hc => ?_) (fun hc => ?_) <;> (try simp only [decide_eq_true_eq, decide_eq_false_iff_not, Bool.not_eq_true', Bool.not_eq_false', bne_iff_ne, ne_eq, bne_eq_false_iff_eq, Decidable.not_not, Int.not_lt, Int.not_le] at hc)))) | (fail_if_success (with_reducible show wpAny _ _ (exec (Stmt.While _ _ _ _) _) _ _ _)); (fail_if_success (with_reducible show wpAny _ _ (exec (Stmt.For _ _ _ _ _) _) _ _ _)); (fail_if_success (with_reducible show wpAny _ _ (pyIter _) _ _ _)); (fail_if_success (with_reducible show InvEndN _ _ _ _ _ _ _)); (fail_if_success (with_reducible show GEnd _ _ _ _ _ _ _)); (fail_if_success (with_reducible show GPost _ _ _ _ _ _ _ _ _)); first | (k_unfold; (try dsimp only)) | walk1 | (dsimp only; walk1) | (leave1; try dsimp only) | fail "no step"))
  all_goals (((refine' one_end ?eFZ9 ?eNZ9 ?enZ9 ?eoZ9 ?kyZ9 ?hrZ9 ?_; (case eFZ9 => assumption); (case eNZ9 => assumption); (case enZ9 => first | (intro p hp; cases hp; done) | (intro p hp; simp only [List.mem_append, List.mem_cons, List.nil_append, List.cons_append] at hp ⊢; simp only [hp, true_or, or_true]; done)); (case eoZ9 => first | (intro p hp; exact hp) | (intro p hp; simp only [List.mem_append, List.mem_cons, List.nil_append, List.cons_append] at hp ⊢; simp only [hp, true_or, or_true]; done)); (case kyZ9 => exact rfl); (case hrZ9 => (intro z h1 h2 h3; simp only [List.contains_cons, List.contains_nil, Bool.or_false, Bool.or_eq_false_iff, beq_eq_false_iff_ne, ne_eq] at h3; simp only [h1, h2, h3, if_false, kstB, List.contains_cons, List.contains_nil, beq_iff_eq, Bool.or_eq_true, Bool.false_eq_true, or_self, false_or, or_false])))); first | exact slip_hit hP2 (by assumption) (by assumption) | exact slip_no1 hP2 (by assumption) | exact slip_no2 hP2 (by assumption))

-- line_body
theorem line_fin : ∀ t < 8, ∀ b < 8, Txt.mul (PySem.Str.ofString "\t") ((t : Nat) : Int) ++ Txt.mul (PySem.Str.ofString " ") ((b : Nat) : Int) ++ PySem.Str.ofString "x" = lineS t b := by decide +kernel
theorem line_claim (w : World) (t b : Int) (tt tb : Tok) (ht : 0 ≤ t ∧ t ≤ 7) (hb : 0 ≤ b ∧ b ≤ 7) : Cl 1 115 w (fun _ => True) [.int t tt, .int b tb] (OStr (lineS t.toNat b.toNat)) := by
  w_on
  (( unfold Cl PCl; intro meanZ mgZ mbZ dpZ unZ gdZ cnZ csZ aZ ccdZ clZ outerZ AZ baseZ hZ0 LZ mZ sZ QZ EZ BZ FZ XZ TZ hkZ hdZ huZ hHZ hretZ; k_dflt (refine' enter_pure ?k1Z9 ?k2Z9 ?k3Z9 ?k5Z9 ?kAZ9 ?kFZ9 ?kKZ9 ?k6Z9 ?k7Z9 ?k8Z9 ?k9Z9 ?kBZ9 ?_ ?c2Z9 ?c3Z9 ?c4Z9 ?c5Z9; (case kAZ9 => exact rfl); (case kFZ9 => exact rfl); (case kKZ9 => assumption); (case k1Z9 => k_asm); (case k2Z9 => k_asm); (case k3Z9 => k_asm); (case k5Z9 => k_asm); (case k6Z9 => k_is); (case k7Z9 => k_is); (case k8Z9 => ktr_room); (case k9Z9 => exact BindsTo.of_eq rfl); (case c5Z9 => decide); (case kBZ9 => exact locs rfl); (case c2Z9 => exact rfl); (case c3Z9 => exact rfl); (case c4Z9 => exact rfl); k_whole; intro gY LY hY hgY FY NY BY XY TY; (try dsimp only); (try k_lift BY); (try k_fold))))
  (repeat' (first | ((k_here; (with_reducible show wpAny _ _ (subscriptTail _ (Expr.Slice none (some _) none _) _ _) _ _ _); (with_reducible rename Fr _ _ _ _ => F'); (with_reducible rename News _ _ _ _ => N'); (refine slice_none (s := ⟨_, _, _, _, _⟩) F' N' ?_ (hsz := ?hszZ9)); (case hszZ9 => (rw [sizeLine_eq]; omega)); intro _ _ _ _ _)) | ((k_here; k_openite; first | (refine ite_pos ?hxZ9 ?_; (case hxZ9 => first | with_reducible assumption | (simp only [decide_eq_true_eq, decide_eq_false_iff_not, Bool.not_eq_true', Bool.not_eq_false', bne_iff_ne, ne_eq]; omega))) | (refine ite_neg ?hxZ9 ?_; (case hxZ9 => first | with_reducible assumption | (simp only [decide_eq_true_eq, decide_eq_false_iff_not, Bool.not_eq_true', Bool.not_eq_false', bne_iff_ne, ne_eq, Bool.not_eq_true, Decidable.not_not]; omega))) | (refine ite_b (fun hc => ?_) (fun hc => ?_) <;> (try simp only [decide_eq_true_eq, decide_eq_false_iff_not, Bool.not_eq_true', Bool.not_eq_false', bne_iff_ne, ne_eq, bne_eq_false_iff_eq, Decidable.not_not, Int.not_lt, Int.not_le] at hc)))) | (fail_if_success (with_reducible show wpAny _ _ (exec (Stmt.While _ _ _ _) _) _ _ _)); (fail_if_success (with_reducible show wpAny _ _ (exec (Stmt.For _ _ _ _ _) _) _ _ _)); (fail_if_success (with_reducible show wpAny _ _ (pyIter _) _ _ _)); (fail_if_success (with_reducible show InvEndN _ _ _ _ _ _ _)); (fail_if_success (with_reducible show GEnd _ _ _ _ _ _ _)); (fail_if_success (with_reducible show GPost _ _ _ _ _ _ _ _ _)); first | (k_unfold; (try dsimp only)) | walk1 | (dsimp only; walk1) | (leave1; try dsimp only) | fail "no step"))
  (( (rename (∀ (v : Value) (h' : Heap) (tk' : Nat), Heap.StaysIn _ h' → _ → _) => hret9); (rename (_ = Shared.heap _) => hg9); refine' ret_ hret9 hg9 ?kFZ9 ?keZ9 ?_; (case kFZ9 => assumption); (case keZ9 => exact rfl); (try dsimp only)))
  refine oStr ?_
  have h9 := line_fin t.toNat (by omega) b.toNat (by omega)
  rw [Int.toNat_of_nonneg ht.1, Int.toNat_of_nonneg hb.1] at h9
  exact h9

-- ws_mac

-- ws_body
/-- the world of a call: what a walk needs of its caller -/
theorem ws_claim (w : World) (y : PySem.Str) (ty : Tok) (p q : Nat) (tail : List Nat) (hy : y.cps.toList = List.replicate p 9 ++ (List.replicate q 32 ++ tail)) (htail : tail = [] ∨ tail = [120]) (hp : p ≤ 20) (hq : q ≤ 20)
    (mean : ExcName → Option Value) (mg mb : PySem.Str → Option Value) (dp un : Nat) (gd : Option (List Code)) (cn : PySem.Str) (cs : Scope) (a : Addr) (ccd : Value) (cl : List (PySem.Str × Addr)) (outer : List Env) (A₀ : Around) (base h₀ : Heap) (L : Addr) (m : PySem.Str → Option Value) (s : Shared) (Q E : Value → Shared → Prop) (news : List (Addr × Obj))
    (B : Below A₀ base outer h₀) (F : Fr h₀ L s.heap m) (X : (hd.heap_39 w.params).In h₀) (N : News h₀ L s.heap news) (T : Top hd.view_39 (looseW hd.view_39 [PySem.Str.ofString "Whitespace"]) mean mg mb h₀) (hk : cs.kind = .function) (hdp : dp + 2 < recursionLimit) (hu : un + 16 < cLine)
    (hret : ∀ x dx nm ct cs T h' tk', ((p = 0 ∧ cs = []) ∨ (0 < p ∧ ∃ tc, cs = [.int (p : Nat) tc])) → Fr h₀ L h' m → News h₀ L h' (wsObjs 83 w x dx nm ct y (p + q : Nat) (p : Nat) (q : Nat) cs T ++ news) → (∀ p ∈ news, p.1 < dx) → @LT.lt Nat _ dx x → @LT.lt Nat _ x ct → @LT.lt Nat _ ct nm → Q (.ref x) { s with heap := h', toks := tk' }) :
    wpAny (model PySem.Challenge.pw_pg0263_01 w) (ktrTop dp un gd cn cs L a ccd cl outer) (call (.ref 83) [.str y ty]) Q E s := by
  w_on
  k_dflt (refine' call_cls ?k1 ?k2 ?k3 ?k4 ?k5 ?k6 ?_; (case k1 => k_asm); (case k2 => k_asm); (case k3 => k_asm); (case k4 => k_is); (case k5 => k_is); (case k6 => k_is))
  intro x dx h1 F1 N1 l1 l2
  k_dflt (refine' enter_code [(x, instObj 83 dx), (dx, dictOf [] 0)] B F1 X ?c1 T ?cA ?cF ?cK ?c6 ?c7 ?c8 ?c9 ?cB ?_ ?d2 ?d3 ?d4 ?d5)
  case c1 => exact fun p hp => N1 p (by simp only [List.mem_cons, List.not_mem_nil, or_false] at hp ⊢; rcases hp with rfl | rfl <;> simp)
  case cA => exact rfl
  case cF => exact rfl
  case cK => assumption
  case c6 => k_is
  case c7 => k_is
  case c8 => ktr_room
  case c9 => exact BindsTo.of_eq rfl
  case cB => exact locs rfl
  case d2 => exact rfl
  case d3 => exact rfl
  case d4 => exact rfl
  case d5 => decide
  intro g L' h2 hg F2 N2 B2 X2 T2
  have hback := back_ (own := [(x, instObj 83 dx), (dx, dictOf [] 0)]) F1 N1 (fun p hp => by have h1 := l1 p hp; intro hm; simp only [List.map_cons, List.map_nil, List.mem_cons, List.not_mem_nil, or_false] at hm; rcases hm with hm | hm <;> rw [hm] at h1; exact Nat.lt_irrefl _ (Nat.lt_trans h1 l2); exact Nat.lt_irrefl _ h1) hg
  clear F1 N1
  (try dsimp only); (try k_lift B2); (try k_fold)
  k_lt2 l2
  (repeat' (first | ((k_here; (with_reducible show wpAny _ _ (subscriptTail _ (Expr.Slice none (some _) none _) _ _) _ _ _); (with_reducible rename Fr _ _ _ _ => F'); (with_reducible rename News _ _ _ _ => N'); (refine slice_none (s := ⟨_, _, _, _, _⟩) F' N' ?_ (hsz := ?hszZ9)); (case hszZ9 => (rw [sizeLine_eq]; omega)); intro _ _ _ _ _)) | ((k_here; k_openite; first | (refine ite_pos ?hxZ9 ?_; (case hxZ9 => first | with_reducible assumption | (simp only [decide_eq_true_eq, decide_eq_false_iff_not, Bool.not_eq_true', Bool.not_eq_false', bne_iff_ne, ne_eq]; omega))) | (refine ite_neg ?hxZ9 ?_; (case hxZ9 => first | with_reducible assumption | (simp only [decide_eq_true_eq, decide_eq_false_iff_not, Bool.not_eq_true', Bool.not_eq_false', bne_iff_ne, ne_eq, Bool.not_eq_true, Decidable.not_not]; omega))) | (refine ite_b (fun hc => ?_) (fun hc => ?_) <;> (try simp only [decide_eq_true_eq, decide_eq_false_iff_not, Bool.not_eq_true', Bool.not_eq_false', bne_iff_ne, ne_eq, bne_eq_false_iff_eq, Decidable.not_not, Int.not_lt, Int.not_le] at hc)))) | (fail_if_success (with_reducible show wpAny _ _ (exec (Stmt.While _ _ _ _) _) _ _ _)); (fail_if_success (with_reducible show wpAny _ _ (exec (Stmt.For _ _ _ _ _) _) _ _ _)); (fail_if_success (with_reducible show wpAny _ _ (pyIter _) _ _ _)); (fail_if_success (with_reducible show InvEndN _ _ _ _ _ _ _)); (fail_if_success (with_reducible show GEnd _ _ _ _ _ _ _)); (fail_if_success (with_reducible show GPost _ _ _ _ _ _ _ _ _)); first | (k_unfold; (try dsimp only)) | walk1 | (dsimp only; walk1) | (leave1; try dsimp only) | fail "no step"))
  (((with_unfolding_all refine' For_invVF ?kZZ9 ?k1Z9 ?k2Z9 ?_); (case kZZ9 => k_dflt assumption); (with_unfolding_all ((case k1Z9 => exact rfl); (case k2Z9 => exact rfl); k_whole)); (repeat' (first | ((k_here; (with_reducible show wpAny _ _ (subscriptTail _ (Expr.Slice none (some _) none _) _ _) _ _ _); (with_reducible rename Fr _ _ _ _ => F'); (with_reducible rename News _ _ _ _ => N'); (refine slice_none (s := ⟨_, _, _, _, _⟩) F' N' ?_ (hsz := ?hszZ9)); (case hszZ9 => (rw [sizeLine_eq]; omega)); intro _ _ _ _ _)) | ((k_here; k_openite; first | (refine ite_pos ?hxZ9 ?_; (case hxZ9 => first | with_reducible assumption | (simp only [decide_eq_true_eq, decide_eq_false_iff_not, Bool.not_eq_true', Bool.not_eq_false', bne_iff_ne, ne_eq]; omega))) | (refine ite_neg ?hxZ9 ?_; (case hxZ9 => first | with_reducible assumption | (simp only [decide_eq_true_eq, decide_eq_false_iff_not, Bool.not_eq_true', Bool.not_eq_false', bne_iff_ne, ne_eq, Bool.not_eq_true, Decidable.not_not]; omega))) | (refine ite_b (fun hc => ?_) (fun hc => ?_) <;> (try simp only [decide_eq_true_eq, decide_eq_false_iff_not, Bool.not_eq_true', Bool.not_eq_false', bne_iff_ne, ne_eq, bne_eq_false_iff_eq, Decidable.not_not, Int.not_lt, Int.not_le] at hc)))) | (fail_if_success (with_reducible show wpAny _ _ (exec (Stmt.While _ _ _ _) _) _ _ _)); (fail_if_success (with_reducible show wpAny _ _ (exec (Stmt.For _ _ _ _ _) _) _ _ _)); (fail_if_success (with_reducible show wpAny _ _ (pyIter _) _ _ _)); (fail_if_success (with_reducible show InvEndN _ _ _ _ _ _ _)); (fail_if_success (with_reducible show GEnd _ _ _ _ _ _ _)); (fail_if_success (with_reducible show GPost _ _ _ _ _ _ _ _ _)); first | (k_unfold; (try dsimp only)) | walk1 | (dsimp only; walk1) | (leave1; try dsimp only) | fail "no step"))))
  rename_i h9 D1 h8 l1a h7 h6 h5 l0 h4 l1b h3 h2' h1' h0' F3 N3
  k_dflt (refine' grow_str (wsJ p q x _ _) rfl (ascii_of hy htail) F3 (news_drop2 N3) ?hJ ?turn ?done)
  case hJ =>
    refine' wsJ_intro (Nat.zero_le _) l1b.2.1 (.inl ⟨by simp, rfl⟩) rfl rfl rfl rfl ?_ ?_ ?_ (fun z _ _ _ _ _ => rfl)
    all_goals simp
  case turn =>
    rintro I i c t it m₁ nx h tk hc hi hci ⟨D, vs, cc, tb, tn, tt, u, hip, hxD, hvs, rfl, rfl⟩ hoff F4 N4
    clear F3 N3
    have o1 := neN (hoff _ (List.mem_cons_self ..))
    have o2 := neN (hoff _ (List.mem_cons_of_mem _ (List.mem_cons_self ..)))
    have o3 := neN (hoff _ (List.mem_cons_of_mem _ (List.mem_cons_of_mem _ (List.mem_cons_self ..))))
    dsimp only at o1 o2 o3
    dsimp only [wsMap] at F4
    have hsz := size_of hy
    have htri : i < p ∨ (p ≤ i ∧ i < p + q) ∨ i = p + q := by omega
    rcases htri with hip1 | ⟨hip1, hip2⟩ | rfl
    · have hc9 := sign_tab hy hip1 hci
      subst hc9
      have e0 : ((i - p : Nat) : Int) = 0 := by omega
      have e1 : ((min i p : Nat) : Int) = (i : Int) := by omega
      simp only [e0, e1] at F4
      rcases hvs with ⟨h0, rfl⟩ | ⟨h1, tc, rfl⟩
      · (try k_fold)
        (repeat' (first | ((k_here; (with_reducible show wpAny _ _ (subscriptTail _ (Expr.Slice none (some _) none _) _ _) _ _ _); (with_reducible rename Fr _ _ _ _ => F'); (with_reducible rename News _ _ _ _ => N'); (refine slice_none (s := ⟨_, _, _, _, _⟩) F' N' ?_ (hsz := ?hszZ9)); (case hszZ9 => (rw [sizeLine_eq]; omega)); intro _ _ _ _ _)) | ((k_here; k_openite; first | (refine ite_pos ?hxZ9 ?_; (case hxZ9 => first | with_reducible assumption | (simp only [decide_eq_true_eq, decide_eq_false_iff_not, Bool.not_eq_true', Bool.not_eq_false', bne_iff_ne, ne_eq]; omega))) | (refine ite_neg ?hxZ9 ?_; (case hxZ9 => first | with_reducible assumption | (simp only [decide_eq_true_eq, decide_eq_false_iff_not, Bool.not_eq_true', Bool.not_eq_false', bne_iff_ne, ne_eq, Bool.not_eq_true, Decidable.not_not]; omega))) | (refine ite_b (fun hc => ?_) (fun hc => ?_) <;> (try simp only [decide_eq_true_eq, decide_eq_false_iff_not, Bool.not_eq_true', Bool.not_eq_false', bne_iff_ne, ne_eq, bne_eq_false_iff_eq, Decidable.not_not, Int.not_lt, Int.not_le] at hc)))) | (fail_if_success (with_reducible show wpAny _ _ (exec (Stmt.While _ _ _ _) _) _ _ _)); (fail_if_success (with_reducible show wpAny _ _ (exec (Stmt.For _ _ _ _ _) _) _ _ _)); (fail_if_success (with_reducible show wpAny _ _ (pyIter _) _ _ _)); (fail_if_success (with_reducible show InvEndN _ _ _ _ _ _ _)); (fail_if_success (with_reducible show GEnd _ _ _ _ _ _ _)); (fail_if_success (with_reducible show GPost _ _ _ _ _ _ _ _ _)); first | (k_unfold; (try dsimp only)) | walk1 | (dsimp only; walk1) | (leave1; try dsimp only) | fail "no step"))
        ((dsimp only [GPost]; refine' ws_end ?eFZ9 ?eNZ9 ?h1Z9 ?h2Z9 ?h3Z9 ?h4Z9 ?hIZ9 ?hDZ9 ?hRZ9 ?oDZ9 ?oRZ9 ?hiZ9 ?hxZ9 ?_ ?ebZ9 ?enZ9 ?etZ9 ?hrZ9; (case eFZ9 => assumption); (case eNZ9 => assumption); (case h1Z9 => exact rfl); (case h2Z9 => exact rfl); (case h3Z9 => exact rfl); (case h4Z9 => exact rfl); (case hIZ9 => k_mem); (case hDZ9 => k_mem); (case hRZ9 => (intro p hp; simp only [List.mem_cons, List.not_mem_nil, or_false] at hp ⊢; simp only [hp, true_or, or_true])); (case oDZ9 => (refine neN ?_; omega)); (case oRZ9 => (intro p hp; simp only [List.mem_cons, List.not_mem_nil, or_false] at hp; rcases hp with hp | hp <;> (rw [hp]; refine neN ?_; dsimp only; omega))); (case hiZ9 => omega); (case hxZ9 => omega); (case ebZ9 => omega); (case enZ9 => omega); (case etZ9 => omega); (case hrZ9 => (intro z z1 z2 z3 z4 z5; simp only [z1, z2, z3, z4, z5, if_false]))))
        have h00 : i = 0 := by omega
        subst h00
        exact .inr ⟨by omega, val_eq (by show (0 : Int) + 1 = _; omega)⟩
      · simp only [e1] at N4
        (try k_fold)
        (repeat' (first | ((k_here; (with_reducible show wpAny _ _ (subscriptTail _ (Expr.Slice none (some _) none _) _ _) _ _ _); (with_reducible rename Fr _ _ _ _ => F'); (with_reducible rename News _ _ _ _ => N'); (refine slice_none (s := ⟨_, _, _, _, _⟩) F' N' ?_ (hsz := ?hszZ9)); (case hszZ9 => (rw [sizeLine_eq]; omega)); intro _ _ _ _ _)) | ((k_here; k_openite; first | (refine ite_pos ?hxZ9 ?_; (case hxZ9 => first | with_reducible assumption | (simp only [decide_eq_true_eq, decide_eq_false_iff_not, Bool.not_eq_true', Bool.not_eq_false', bne_iff_ne, ne_eq]; omega))) | (refine ite_neg ?hxZ9 ?_; (case hxZ9 => first | with_reducible assumption | (simp only [decide_eq_true_eq, decide_eq_false_iff_not, Bool.not_eq_true', Bool.not_eq_false', bne_iff_ne, ne_eq, Bool.not_eq_true, Decidable.not_not]; omega))) | (refine ite_b (fun hc => ?_) (fun hc => ?_) <;> (try simp only [decide_eq_true_eq, decide_eq_false_iff_not, Bool.not_eq_true', Bool.not_eq_false', bne_iff_ne, ne_eq, bne_eq_false_iff_eq, Decidable.not_not, Int.not_lt, Int.not_le] at hc)))) | (fail_if_success (with_reducible show wpAny _ _ (exec (Stmt.While _ _ _ _) _) _ _ _)); (fail_if_success (with_reducible show wpAny _ _ (exec (Stmt.For _ _ _ _ _) _) _ _ _)); (fail_if_success (with_reducible show wpAny _ _ (pyIter _) _ _ _)); (fail_if_success (with_reducible show InvEndN _ _ _ _ _ _ _)); (fail_if_success (with_reducible show GEnd _ _ _ _ _ _ _)); (fail_if_success (with_reducible show GPost _ _ _ _ _ _ _ _ _)); first | (k_unfold; (try dsimp only)) | walk1 | (dsimp only; walk1) | (leave1; try dsimp only) | fail "no step"))
        ((dsimp only [GPost]; refine' ws_end ?eFZ9 ?eNZ9 ?h1Z9 ?h2Z9 ?h3Z9 ?h4Z9 ?hIZ9 ?hDZ9 ?hRZ9 ?oDZ9 ?oRZ9 ?hiZ9 ?hxZ9 ?_ ?ebZ9 ?enZ9 ?etZ9 ?hrZ9; (case eFZ9 => assumption); (case eNZ9 => assumption); (case h1Z9 => exact rfl); (case h2Z9 => exact rfl); (case h3Z9 => exact rfl); (case h4Z9 => exact rfl); (case hIZ9 => k_mem); (case hDZ9 => k_mem); (case hRZ9 => (intro p hp; simp only [List.mem_cons, List.not_mem_nil, or_false] at hp ⊢; simp only [hp, true_or, or_true])); (case oDZ9 => (refine neN ?_; omega)); (case oRZ9 => (intro p hp; simp only [List.mem_cons, List.not_mem_nil, or_false] at hp; rcases hp with hp | hp <;> (rw [hp]; refine neN ?_; dsimp only; omega))); (case hiZ9 => omega); (case hxZ9 => omega); (case ebZ9 => omega); (case enZ9 => omega); (case etZ9 => omega); (case hrZ9 => (intro z z1 z2 z3 z4 z5; simp only [z1, z2, z3, z4, z5, if_false]))))
        exact .inr ⟨by omega, val_eq (by show (i : Int) + 1 = _; omega)⟩
    · have hc9 := sign_blank hy hip1 hip2 hci
      subst hc9
      (try k_fold)
      (repeat' (first | ((k_here; (with_reducible show wpAny _ _ (subscriptTail _ (Expr.Slice none (some _) none _) _ _) _ _ _); (with_reducible rename Fr _ _ _ _ => F'); (with_reducible rename News _ _ _ _ => N'); (refine slice_none (s := ⟨_, _, _, _, _⟩) F' N' ?_ (hsz := ?hszZ9)); (case hszZ9 => (rw [sizeLine_eq]; omega)); intro _ _ _ _ _)) | ((k_here; k_openite; first | (refine ite_pos ?hxZ9 ?_; (case hxZ9 => first | with_reducible assumption | (simp only [decide_eq_true_eq, decide_eq_false_iff_not, Bool.not_eq_true', Bool.not_eq_false', bne_iff_ne, ne_eq]; omega))) | (refine ite_neg ?hxZ9 ?_; (case hxZ9 => first | with_reducible assumption | (simp only [decide_eq_true_eq, decide_eq_false_iff_not, Bool.not_eq_true', Bool.not_eq_false', bne_iff_ne, ne_eq, Bool.not_eq_true, Decidable.not_not]; omega))) | (refine ite_b (fun hc => ?_) (fun hc => ?_) <;> (try simp only [decide_eq_true_eq, decide_eq_false_iff_not, Bool.not_eq_true', Bool.not_eq_false', bne_iff_ne, ne_eq, bne_eq_false_iff_eq, Decidable.not_not, Int.not_lt, Int.not_le] at hc)))) | (fail_if_success (with_reducible show wpAny _ _ (exec (Stmt.While _ _ _ _) _) _ _ _)); (fail_if_success (with_reducible show wpAny _ _ (exec (Stmt.For _ _ _ _ _) _) _ _ _)); (fail_if_success (with_reducible show wpAny _ _ (pyIter _) _ _ _)); (fail_if_success (with_reducible show InvEndN _ _ _ _ _ _ _)); (fail_if_success (with_reducible show GEnd _ _ _ _ _ _ _)); (fail_if_success (with_reducible show GPost _ _ _ _ _ _ _ _ _)); first | (k_unfold; (try dsimp only)) | walk1 | (dsimp only; walk1) | (leave1; try dsimp only) | fail "no step"))
      ((dsimp only [GPost]; refine' ws_end ?eFZ9 ?eNZ9 ?h1Z9 ?h2Z9 ?h3Z9 ?h4Z9 ?hIZ9 ?hDZ9 ?hRZ9 ?oDZ9 ?oRZ9 ?hiZ9 ?hxZ9 ?_ ?ebZ9 ?enZ9 ?etZ9 ?hrZ9; (case eFZ9 => assumption); (case eNZ9 => assumption); (case h1Z9 => exact rfl); (case h2Z9 => exact rfl); (case h3Z9 => exact rfl); (case h4Z9 => exact rfl); (case hIZ9 => k_mem); (case hDZ9 => k_mem); (case hRZ9 => (intro p hp; simp only [List.mem_cons, List.not_mem_nil, or_false] at hp ⊢; simp only [hp, true_or, or_true])); (case oDZ9 => (refine neN ?_; omega)); (case oRZ9 => (intro p hp; simp only [List.mem_cons, List.not_mem_nil, or_false] at hp; rcases hp with hp | hp <;> (rw [hp]; refine neN ?_; dsimp only; omega))); (case hiZ9 => omega); (case hxZ9 => omega); (case ebZ9 => omega); (case enZ9 => omega); (case etZ9 => omega); (case hrZ9 => (intro z z1 z2 z3 z4 z5; simp only [z1, z2, z3, z4, z5, if_false]))))
      rcases hvs with ⟨h0, h1⟩ | ⟨h0, h1⟩
      · exact .inl ⟨by omega, h1⟩
      · have e1 : min (i + 1) p = min i p := by omega
        rw [e1]
        exact .inr ⟨h0, h1⟩
    · have hc9 := sign_tail hy htail hci
      subst hc9
      have e1 : min (p + q) p = p := by omega
      have e2 : p + q - p = q := by omega
      simp only [e1] at hvs
      rcases hvs with ⟨h0, rfl⟩ | ⟨h1, tc, rfl⟩
      · (try k_fold)
        (repeat' (first | ((k_here; (with_reducible show wpAny _ _ (subscriptTail _ (Expr.Slice none (some _) none _) _ _) _ _ _); (with_reducible rename Fr _ _ _ _ => F'); (with_reducible rename News _ _ _ _ => N'); (refine slice_none (s := ⟨_, _, _, _, _⟩) F' N' ?_ (hsz := ?hszZ9)); (case hszZ9 => (rw [sizeLine_eq]; omega)); intro _ _ _ _ _)) | ((k_here; k_openite; first | (refine ite_pos ?hxZ9 ?_; (case hxZ9 => first | with_reducible assumption | (simp only [decide_eq_true_eq, decide_eq_false_iff_not, Bool.not_eq_true', Bool.not_eq_false', bne_iff_ne, ne_eq]; omega))) | (refine ite_neg ?hxZ9 ?_; (case hxZ9 => first | with_reducible assumption | (simp only [decide_eq_true_eq, decide_eq_false_iff_not, Bool.not_eq_true', Bool.not_eq_false', bne_iff_ne, ne_eq, Bool.not_eq_true, Decidable.not_not]; omega))) | (refine ite_b (fun hc => ?_) (fun hc => ?_) <;> (try simp only [decide_eq_true_eq, decide_eq_false_iff_not, Bool.not_eq_true', Bool.not_eq_false', bne_iff_ne, ne_eq, bne_eq_false_iff_eq, Decidable.not_not, Int.not_lt, Int.not_le] at hc)))) | (fail_if_success (with_reducible show wpAny _ _ (exec (Stmt.While _ _ _ _) _) _ _ _)); (fail_if_success (with_reducible show wpAny _ _ (exec (Stmt.For _ _ _ _ _) _) _ _ _)); (fail_if_success (with_reducible show wpAny _ _ (pyIter _) _ _ _)); (fail_if_success (with_reducible show InvEndN _ _ _ _ _ _ _)); (fail_if_success (with_reducible show GEnd _ _ _ _ _ _ _)); (fail_if_success (with_reducible show GPost _ _ _ _ _ _ _ _ _)); first | (k_unfold; (try dsimp only)) | walk1 | (dsimp only; walk1) | (leave1; try dsimp only) | fail "no step"))
        dsimp only [GPost]
        (repeat' (first | ((k_here; (with_reducible show wpAny _ _ (subscriptTail _ (Expr.Slice none (some _) none _) _ _) _ _ _); (with_reducible rename Fr _ _ _ _ => F'); (with_reducible rename News _ _ _ _ => N'); (refine slice_none (s := ⟨_, _, _, _, _⟩) F' N' ?_ (hsz := ?hszZ9)); (case hszZ9 => (rw [sizeLine_eq]; omega)); intro _ _ _ _ _)) | ((k_here; k_openite; first | (refine ite_pos ?hxZ9 ?_; (case hxZ9 => first | with_reducible assumption | (simp only [decide_eq_true_eq, decide_eq_false_iff_not, Bool.not_eq_true', Bool.not_eq_false', bne_iff_ne, ne_eq]; omega))) | (refine ite_neg ?hxZ9 ?_; (case hxZ9 => first | with_reducible assumption | (simp only [decide_eq_true_eq, decide_eq_false_iff_not, Bool.not_eq_true', Bool.not_eq_false', bne_iff_ne, ne_eq, Bool.not_eq_true, Decidable.not_not]; omega))) | (refine ite_b (fun hc => ?_) (fun hc => ?_) <;> (try simp only [decide_eq_true_eq, decide_eq_false_iff_not, Bool.not_eq_true', Bool.not_eq_false', bne_iff_ne, ne_eq, bne_eq_false_iff_eq, Decidable.not_not, Int.not_lt, Int.not_le] at hc)))) | (k_unfold; (try dsimp only)) | walk1))
        clear hoff
        rename Fr g _ _ _ => F5
        rename News g _ _ _ => N5
        have b2 := ws_ret hback F5 N5 (by k_mem) (by k_mem) (by k_mem) (by k_mem)
        simp only [e1, e2] at b2
        refine ⟨rfl, ?_⟩
        exact hret x dx _ _ _ _ _ _ (.inl ⟨by omega, rfl⟩) b2.1 b2.2 l1 l2 (by omega) (by omega)
      · (try k_fold)
        (repeat' (first | ((k_here; (with_reducible show wpAny _ _ (subscriptTail _ (Expr.Slice none (some _) none _) _ _) _ _ _); (with_reducible rename Fr _ _ _ _ => F'); (with_reducible rename News _ _ _ _ => N'); (refine slice_none (s := ⟨_, _, _, _, _⟩) F' N' ?_ (hsz := ?hszZ9)); (case hszZ9 => (rw [sizeLine_eq]; omega)); intro _ _ _ _ _)) | ((k_here; k_openite; first | (refine ite_pos ?hxZ9 ?_; (case hxZ9 => first | with_reducible assumption | (simp only [decide_eq_true_eq, decide_eq_false_iff_not, Bool.not_eq_true', Bool.not_eq_false', bne_iff_ne, ne_eq]; omega))) | (refine ite_neg ?hxZ9 ?_; (case hxZ9 => first | with_reducible assumption | (simp only [decide_eq_true_eq, decide_eq_false_iff_not, Bool.not_eq_true', Bool.not_eq_false', bne_iff_ne, ne_eq, Bool.not_eq_true, Decidable.not_not]; omega))) | (refine ite_b (fun hc => ?_) (fun hc => ?_) <;> (try simp only [decide_eq_true_eq, decide_eq_false_iff_not, Bool.not_eq_true', Bool.not_eq_false', bne_iff_ne, ne_eq, bne_eq_false_iff_eq, Decidable.not_not, Int.not_lt, Int.not_le] at hc)))) | (fail_if_success (with_reducible show wpAny _ _ (exec (Stmt.While _ _ _ _) _) _ _ _)); (fail_if_success (with_reducible show wpAny _ _ (exec (Stmt.For _ _ _ _ _) _) _ _ _)); (fail_if_success (with_reducible show wpAny _ _ (pyIter _) _ _ _)); (fail_if_success (with_reducible show InvEndN _ _ _ _ _ _ _)); (fail_if_success (with_reducible show GEnd _ _ _ _ _ _ _)); (fail_if_success (with_reducible show GPost _ _ _ _ _ _ _ _ _)); first | (k_unfold; (try dsimp only)) | walk1 | (dsimp only; walk1) | (leave1; try dsimp only) | fail "no step"))
        dsimp only [GPost]
        (repeat' (first | ((k_here; (with_reducible show wpAny _ _ (subscriptTail _ (Expr.Slice none (some _) none _) _ _) _ _ _); (with_reducible rename Fr _ _ _ _ => F'); (with_reducible rename News _ _ _ _ => N'); (refine slice_none (s := ⟨_, _, _, _, _⟩) F' N' ?_ (hsz := ?hszZ9)); (case hszZ9 => (rw [sizeLine_eq]; omega)); intro _ _ _ _ _)) | ((k_here; k_openite; first | (refine ite_pos ?hxZ9 ?_; (case hxZ9 => first | with_reducible assumption | (simp only [decide_eq_true_eq, decide_eq_false_iff_not, Bool.not_eq_true', Bool.not_eq_false', bne_iff_ne, ne_eq]; omega))) | (refine ite_neg ?hxZ9 ?_; (case hxZ9 => first | with_reducible assumption | (simp only [decide_eq_true_eq, decide_eq_false_iff_not, Bool.not_eq_true', Bool.not_eq_false', bne_iff_ne, ne_eq, Bool.not_eq_true, Decidable.not_not]; omega))) | (refine ite_b (fun hc => ?_) (fun hc => ?_) <;> (try simp only [decide_eq_true_eq, decide_eq_false_iff_not, Bool.not_eq_true', Bool.not_eq_false', bne_iff_ne, ne_eq, bne_eq_false_iff_eq, Decidable.not_not, Int.not_lt, Int.not_le] at hc)))) | (k_unfold; (try dsimp only)) | walk1))
        clear hoff
        rename Fr g _ _ _ => F5
        rename News g _ _ _ => N5
        have b2 := ws_ret hback F5 N5 (by k_mem) (by k_mem) (by k_mem) (by k_mem)
        simp only [e1, e2] at b2
        refine ⟨rfl, ?_⟩
        exact hret x dx _ _ _ _ _ _ (.inr ⟨by omega, tc, rfl⟩) b2.1 b2.2 l1 l2 (by omega) (by omega)
  case done =>
    intro m₁ nx h tk hJ F4 N4
    have e : y.cps.size = p + q := by
      have hsz := size_of hy
      obtain ⟨_, _, _, _, _, _, _, h1, _⟩ := hJ
      omega
    rw [e] at hJ
    obtain ⟨D, vs, cc, tb, tn, tt, u, hip, hxD, hvs, rfl, rfl⟩ := hJ
    clear F3 N3
    dsimp only [wsMap] at F4
    have e1 : min (p + q) p = p := by omega
    have e2 : p + q - p = q := by omega
    simp only [e1] at hvs
    rcases hvs with ⟨h0, rfl⟩ | ⟨h1, tc, rfl⟩
    · (try k_fold)
      (repeat' (first | ((k_here; (with_reducible show wpAny _ _ (subscriptTail _ (Expr.Slice none (some _) none _) _ _) _ _ _); (with_reducible rename Fr _ _ _ _ => F'); (with_reducible rename News _ _ _ _ => N'); (refine slice_none (s := ⟨_, _, _, _, _⟩) F' N' ?_ (hsz := ?hszZ9)); (case hszZ9 => (rw [sizeLine_eq]; omega)); intro _ _ _ _ _)) | ((k_here; k_openite; first | (refine ite_pos ?hxZ9 ?_; (case hxZ9 => first | with_reducible assumption | (simp only [decide_eq_true_eq, decide_eq_false_iff_not, Bool.not_eq_true', Bool.not_eq_false', bne_iff_ne, ne_eq]; omega))) | (refine ite_neg ?hxZ9 ?_; (case hxZ9 => first | with_reducible assumption | (simp only [decide_eq_true_eq, decide_eq_false_iff_not, Bool.not_eq_true', Bool.not_eq_false', bne_iff_ne, ne_eq, Bool.not_eq_true, Decidable.not_not]; omega))) | (refine ite_b (fun hc => ?_) (fun hc => ?_) <;> (try simp only [decide_eq_true_eq, decide_eq_false_iff_not, Bool.not_eq_true', Bool.not_eq_false', bne_iff_ne, ne_eq, bne_eq_false_iff_eq, Decidable.not_not, Int.not_lt, Int.not_le] at hc)))) | (fail_if_success (with_reducible show wpAny _ _ (exec (Stmt.While _ _ _ _) _) _ _ _)); (fail_if_success (with_reducible show wpAny _ _ (exec (Stmt.For _ _ _ _ _) _) _ _ _)); (fail_if_success (with_reducible show wpAny _ _ (pyIter _) _ _ _)); (fail_if_success (with_reducible show InvEndN _ _ _ _ _ _ _)); (fail_if_success (with_reducible show GEnd _ _ _ _ _ _ _)); (fail_if_success (with_reducible show GPost _ _ _ _ _ _ _ _ _)); first | (k_unfold; (try dsimp only)) | walk1 | (dsimp only; walk1) | (leave1; try dsimp only) | fail "no step"))
      rename Fr g _ _ _ => F5
      rename News g _ _ _ => N5
      have b2 := ws_ret hback F5 N5 (by k_mem) (by k_mem) (by k_mem) (by k_mem)
      simp only [e1, e2] at b2
      refine ⟨rfl, ?_⟩
      exact hret x dx _ _ _ _ _ _ (.inl ⟨by omega, rfl⟩) b2.1 b2.2 l1 l2 (by omega) (by omega)
    · (try k_fold)
      (repeat' (first | ((k_here; (with_reducible show wpAny _ _ (subscriptTail _ (Expr.Slice none (some _) none _) _ _) _ _ _); (with_reducible rename Fr _ _ _ _ => F'); (with_reducible rename News _ _ _ _ => N'); (refine slice_none (s := ⟨_, _, _, _, _⟩) F' N' ?_ (hsz := ?hszZ9)); (case hszZ9 => (rw [sizeLine_eq]; omega)); intro _ _ _ _ _)) | ((k_here; k_openite; first | (refine ite_pos ?hxZ9 ?_; (case hxZ9 => first | with_reducible assumption | (simp only [decide_eq_true_eq, decide_eq_false_iff_not, Bool.not_eq_true', Bool.not_eq_false', bne_iff_ne, ne_eq]; omega))) | (refine ite_neg ?hxZ9 ?_; (case hxZ9 => first | with_reducible assumption | (simp only [decide_eq_true_eq, decide_eq_false_iff_not, Bool.not_eq_true', Bool.not_eq_false', bne_iff_ne, ne_eq, Bool.not_eq_true, Decidable.not_not]; omega))) | (refine ite_b (fun hc => ?_) (fun hc => ?_) <;> (try simp only [decide_eq_true_eq, decide_eq_false_iff_not, Bool.not_eq_true', Bool.not_eq_false', bne_iff_ne, ne_eq, bne_eq_false_iff_eq, Decidable.not_not, Int.not_lt, Int.not_le] at hc)))) | (fail_if_success (with_reducible show wpAny _ _ (exec (Stmt.While _ _ _ _) _) _ _ _)); (fail_if_success (with_reducible show wpAny _ _ (exec (Stmt.For _ _ _ _ _) _) _ _ _)); (fail_if_success (with_reducible show wpAny _ _ (pyIter _) _ _ _)); (fail_if_success (with_reducible show InvEndN _ _ _ _ _ _ _)); (fail_if_success (with_reducible show GEnd _ _ _ _ _ _ _)); (fail_if_success (with_reducible show GPost _ _ _ _ _ _ _ _ _)); first | (k_unfold; (try dsimp only)) | walk1 | (dsimp only; walk1) | (leave1; try dsimp only) | fail "no step"))
      rename Fr g _ _ _ => F5
      rename News g _ _ _ => N5
      have b2 := ws_ret hback F5 N5 (by k_mem) (by k_mem) (by k_mem) (by k_mem)
      simp only [e1, e2] at b2
      refine ⟨rfl, ?_⟩
      exact hret x dx _ _ _ _ _ _ (.inr ⟨by omega, tc, rfl⟩) b2.1 b2.2 l1 l2 (by omega) (by omega)

-- ind_mac

-- ind_body
theorem indent_claim (w : World) (x dx nm ct : Addr) (y : PySem.Str) (p q : Nat) (cs : List Value) (WT : WsToks) (size : Int) (ts : Tok) (hcs : (p = 0 ∧ cs = []) ∨ (0 < p ∧ ∃ tc, cs = [.int (p : Nat) tc])) (hp : p ≤ 20) (hq : q ≤ 20) (hsz : 1 ≤ size ∧ size ≤ 100)
    (mean : ExcName → Option Value) (mg mb : PySem.Str → Option Value) (dp un : Nat) (gd : Option (List Code)) (cn : PySem.Str) (cs' : Scope) (a : Addr) (ccd : Value) (cl : List (PySem.Str × Addr)) (outer : List Env) (A₀ : Around) (base h₀ : Heap) (L : Addr) (m : PySem.Str → Option Value) (s : Shared) (Q E : Value → Shared → Prop)
    (B : Below A₀ base outer h₀) (F : Fr h₀ L s.heap m) (X : (hd.heap_39 w.params).In h₀) (N : News h₀ L s.heap (wsObjs 83 w x dx nm ct y (p + q : Nat) (p : Nat) (q : Nat) cs WT)) (T : Top hd.view_39 (looseW hd.view_39 [PySem.Str.ofString "Whitespace"]) mean mg mb h₀) (hk : cs'.kind = .function) (hdp : dp + 1 < recursionLimit) (hu : un + 8 < cLine)
    (hret : ∀ t h' tk', s.heap.StaysIn h' → Q (.int ((q : Int) + size * p) t) { s with heap := h', toks := tk' }) :
    wpAny (model PySem.Challenge.pw_pg0263_01 w) (ktrTop dp un gd cn cs' L a ccd cl outer) (call (.ref 52) [.ref x, .int size ts]) Q E s := by
  w_on
  k_dflt (refine' enter_own (wsObjs 83 w x dx nm ct y (p + q : Nat) (p : Nat) (q : Nat) cs WT) B F X N T ?cA ?cF ?cK ?c6 ?c7 ?c8 ?c9 ?cB ?_ ?d2 ?d3 ?d4 ?d5)
  case cA => exact rfl
  case cF => exact rfl
  case cK => assumption
  case c6 => k_is
  case c7 => k_is
  case c8 => ktr_room
  case c9 => exact BindsTo.of_eq rfl
  case cB => exact locs rfl
  case d2 => exact rfl
  case d3 => exact rfl
  case d4 => exact rfl
  case d5 => decide
  intro g L' h2 hg F2 N2 B2 X2 T2
  have hst := fun (h' : Heap) (m' : PySem.Str → Option Value) (F' : Fr g L' h' m') (N' : News g L' h' (wsObjs 83 w x dx nm ct y (p + q : Nat) (p : Nat) (q : Nat) cs WT)) => stays_own N hg F' N'
  dsimp only [wsObjs] at N2
  (try dsimp only); (try k_lift B2); (try k_fold)
  rcases hcs with ⟨h0, rfl⟩ | ⟨h0, tc, rfl⟩
  all_goals
    (repeat' (first | ((k_here; (with_reducible show wpAny _ _ (subscriptTail _ (Expr.Slice none (some _) none _) _ _) _ _ _); (with_reducible rename Fr _ _ _ _ => F'); (with_reducible rename News _ _ _ _ => N'); (refine slice_none (s := ⟨_, _, _, _, _⟩) F' N' ?_ (hsz := ?hszZ9)); (case hszZ9 => (rw [sizeLine_eq]; omega)); intro _ _ _ _ _)) | ((k_here; k_openite; first | (refine ite_pos ?hxZ9 ?_; (case hxZ9 => first | with_reducible assumption | (simp only [decide_eq_true_eq, decide_eq_false_iff_not, Bool.not_eq_true', Bool.not_eq_false', bne_iff_ne, ne_eq]; omega))) | (refine ite_neg ?hxZ9 ?_; (case hxZ9 => first | with_reducible assumption | (simp only [decide_eq_true_eq, decide_eq_false_iff_not, Bool.not_eq_true', Bool.not_eq_false', bne_iff_ne, ne_eq, Bool.not_eq_true, Decidable.not_not]; omega))) | (refine ite_b (fun hc => ?_) (fun hc => ?_) <;> (try simp only [decide_eq_true_eq, decide_eq_false_iff_not, Bool.not_eq_true', Bool.not_eq_false', bne_iff_ne, ne_eq, bne_eq_false_iff_eq, Decidable.not_not, Int.not_lt, Int.not_le] at hc)))) | (fail_if_success (with_reducible show wpAny _ _ (exec (Stmt.While _ _ _ _) _) _ _ _)); (fail_if_success (with_reducible show wpAny _ _ (exec (Stmt.For _ _ _ _ _) _) _ _ _)); (fail_if_success (with_reducible show wpAny _ _ (pyIter _) _ _ _)); (fail_if_success (with_reducible show InvEndN _ _ _ _ _ _ _)); (fail_if_success (with_reducible show GEnd _ _ _ _ _ _ _)); (fail_if_success (with_reducible show GPost _ _ _ _ _ _ _ _ _)); first | (k_unfold; (try dsimp only)) | walk1 | (dsimp only; walk1) | (leave1; try dsimp only) | fail "no step"))
    (((with_unfolding_all refine' For_invVF ?kZZ9 ?k1Z9 ?k2Z9 ?_); (case kZZ9 => k_dflt assumption); (with_unfolding_all ((case k1Z9 => exact rfl); (case k2Z9 => exact rfl); k_whole)); (repeat' (first | ((k_here; (with_reducible show wpAny _ _ (subscriptTail _ (Expr.Slice none (some _) none _) _ _) _ _ _); (with_reducible rename Fr _ _ _ _ => F'); (with_reducible rename News _ _ _ _ => N'); (refine slice_none (s := ⟨_, _, _, _, _⟩) F' N' ?_ (hsz := ?hszZ9)); (case hszZ9 => (rw [sizeLine_eq]; omega)); intro _ _ _ _ _)) | ((k_here; k_openite; first | (refine ite_pos ?hxZ9 ?_; (case hxZ9 => first | with_reducible assumption | (simp only [decide_eq_true_eq, decide_eq_false_iff_not, Bool.not_eq_true', Bool.not_eq_false', bne_iff_ne, ne_eq]; omega))) | (refine ite_neg ?hxZ9 ?_; (case hxZ9 => first | with_reducible assumption | (simp only [decide_eq_true_eq, decide_eq_false_iff_not, Bool.not_eq_true', Bool.not_eq_false', bne_iff_ne, ne_eq, Bool.not_eq_true, Decidable.not_not]; omega))) | (refine ite_b (fun hc => ?_) (fun hc => ?_) <;> (try simp only [decide_eq_true_eq, decide_eq_false_iff_not, Bool.not_eq_true', Bool.not_eq_false', bne_iff_ne, ne_eq, bne_eq_false_iff_eq, Decidable.not_not, Int.not_lt, Int.not_le] at hc)))) | (fail_if_success (with_reducible show wpAny _ _ (exec (Stmt.While _ _ _ _) _) _ _ _)); (fail_if_success (with_reducible show wpAny _ _ (exec (Stmt.For _ _ _ _ _) _) _ _ _)); (fail_if_success (with_reducible show wpAny _ _ (pyIter _) _ _ _)); (fail_if_success (with_reducible show InvEndN _ _ _ _ _ _ _)); (fail_if_success (with_reducible show GEnd _ _ _ _ _ _ _)); (fail_if_success (with_reducible show GPost _ _ _ _ _ _ _ _ _)); first | (k_unfold; (try dsimp only)) | walk1 | (dsimp only; walk1) | (leave1; try dsimp only) | fail "no step"))))
    (((rename Fr _ _ _ _ => F5); (rename News _ _ _ _ => N5); (rename IsRange _ _ _ _ _ _ _ _ => hR); k_dflt (refine' iter_none rfl hR ?r1Z9 ?r2Z9 ?r3Z9 F5 N5 ?_); (case r1Z9 => omega); (case r2Z9 => omega); (case r3Z9 => omega); clear F5 N5; intro h5 tk5 F6 N6; (try dsimp only); (try k_fold)))
    (repeat' (first | ((k_here; (with_reducible show wpAny _ _ (subscriptTail _ (Expr.Slice none (some _) none _) _ _) _ _ _); (with_reducible rename Fr _ _ _ _ => F'); (with_reducible rename News _ _ _ _ => N'); (refine slice_none (s := ⟨_, _, _, _, _⟩) F' N' ?_ (hsz := ?hszZ9)); (case hszZ9 => (rw [sizeLine_eq]; omega)); intro _ _ _ _ _)) | ((k_here; k_openite; first | (refine ite_pos ?hxZ9 ?_; (case hxZ9 => first | with_reducible assumption | (simp only [decide_eq_true_eq, decide_eq_false_iff_not, Bool.not_eq_true', Bool.not_eq_false', bne_iff_ne, ne_eq]; omega))) | (refine ite_neg ?hxZ9 ?_; (case hxZ9 => first | with_reducible assumption | (simp only [decide_eq_true_eq, decide_eq_false_iff_not, Bool.not_eq_true', Bool.not_eq_false', bne_iff_ne, ne_eq, Bool.not_eq_true, Decidable.not_not]; omega))) | (refine ite_b (fun hc => ?_) (fun hc => ?_) <;> (try simp only [decide_eq_true_eq, decide_eq_false_iff_not, Bool.not_eq_true', Bool.not_eq_false', bne_iff_ne, ne_eq, bne_eq_false_iff_eq, Decidable.not_not, Int.not_lt, Int.not_le] at hc)))) | (fail_if_success (with_reducible show wpAny _ _ (exec (Stmt.While _ _ _ _) _) _ _ _)); (fail_if_success (with_reducible show wpAny _ _ (exec (Stmt.For _ _ _ _ _) _) _ _ _)); (fail_if_success (with_reducible show wpAny _ _ (pyIter _) _ _ _)); (fail_if_success (with_reducible show InvEndN _ _ _ _ _ _ _)); (fail_if_success (with_reducible show GEnd _ _ _ _ _ _ _)); (fail_if_success (with_reducible show GPost _ _ _ _ _ _ _ _ _)); first | (k_unfold; (try dsimp only)) | walk1 | (dsimp only; walk1) | (leave1; try dsimp only) | fail "no step"))
    (rename Fr g _ _ _ => F7; rename News g _ _ _ => N7)
    refine ret_int hret (hst _ _ F7 N7) rfl ?_
  all_goals rw [Int.zero_add]

-- mend_walk
theorem mend_claim (w : World) (missed size : Int) (tm ts : Tok) (hm : -9 ≤ missed ∧ missed ≤ 9) (hs : 1 ≤ size ∧ size ≤ 100) : Cl 1 129 w (fun _ => True) [.int missed tm, .int size ts] (OTup (mendF missed size).1 (mendF missed size).2) := by
  w_on
  (( unfold Cl PCl; intro meanZ mgZ mbZ dpZ unZ gdZ cnZ csZ aZ ccdZ clZ outerZ AZ baseZ hZ0 LZ mZ sZ QZ EZ BZ FZ XZ TZ hkZ hdZ huZ hHZ hretZ; k_dflt (refine' enter_pure ?k1Z9 ?k2Z9 ?k3Z9 ?k5Z9 ?kAZ9 ?kFZ9 ?kKZ9 ?k6Z9 ?k7Z9 ?k8Z9 ?k9Z9 ?kBZ9 ?_ ?c2Z9 ?c3Z9 ?c4Z9 ?c5Z9; (case kAZ9 => exact rfl); (case kFZ9 => exact rfl); (case kKZ9 => assumption); (case k1Z9 => k_asm); (case k2Z9 => k_asm); (case k3Z9 => k_asm); (case k5Z9 => k_asm); (case k6Z9 => k_is); (case k7Z9 => k_is); (case k8Z9 => ktr_room); (case k9Z9 => exact BindsTo.of_eq rfl); (case c5Z9 => decide); (case kBZ9 => exact locs rfl); (case c2Z9 => exact rfl); (case c3Z9 => exact rfl); (case c4Z9 => exact rfl); k_whole; intro gY LY hY hgY FY NY BY XY TY; (try dsimp only); (try k_lift BY); (try k_fold))))
  (repeat' (first | ((k_here; (with_reducible show wpAny _ _ (subscriptTail _ (Expr.Slice none (some _) none _) _ _) _ _ _); (with_reducible rename Fr _ _ _ _ => F'); (with_reducible rename News _ _ _ _ => N'); (refine slice_none (s := ⟨_, _, _, _, _⟩) F' N' ?_ (hsz := ?hszZ9)); (case hszZ9 => (rw [sizeLine_eq]; omega)); intro _ _ _ _ _)) | ((k_here; k_openite; first | (refine ite_pos ?hxZ9 ?_; (case hxZ9 => first | with_reducible assumption | (simp only [decide_eq_true_eq, decide_eq_false_iff_not, Bool.not_eq_true', Bool.not_eq_false', bne_iff_ne, ne_eq]; omega))) | (refine ite_neg ?hxZ9 ?_; (case hxZ9 => first | with_reducible assumption | (simp only [decide_eq_true_eq, decide_eq_false_iff_not, Bool.not_eq_true', Bool.not_eq_false', bne_iff_ne, ne_eq, Bool.not_eq_true, Decidable.not_not]; omega))) | (refine ite_b (fun hc => ?_) (fun hc => ?_) <;> (try simp only [decide_eq_true_eq, decide_eq_false_iff_not, Bool.not_eq_true', Bool.not_eq_false', bne_iff_ne, ne_eq, bne_eq_false_iff_eq, Decidable.not_not, Int.not_lt, Int.not_le] at hc)))) | (fail_if_success (with_reducible show wpAny _ _ (exec (Stmt.While _ _ _ _) _) _ _ _)); (fail_if_success (with_reducible show wpAny _ _ (exec (Stmt.For _ _ _ _ _) _) _ _ _)); (fail_if_success (with_reducible show wpAny _ _ (pyIter _) _ _ _)); (fail_if_success (with_reducible show InvEndN _ _ _ _ _ _ _)); (fail_if_success (with_reducible show GEnd _ _ _ _ _ _ _)); (fail_if_success (with_reducible show GPost _ _ _ _ _ _ _ _ _)); first | (k_unfold; (try dsimp only)) | walk1 | (dsimp only; walk1) | (leave1; try dsimp only) | fail "no step"))
  all_goals ((( (rename (∀ (v : Value) (h' : Heap) (tk' : Nat), Heap.StaysIn _ h' → _ → _) => hret9); (rename (_ = Shared.heap _) => hg9); refine' ret_ hret9 hg9 ?kFZ9 ?keZ9 ?_; (case kFZ9 => assumption); (case keZ9 => exact rfl); (try dsimp only))); rename (_ = Shared.heap _) => hg9; rename News _ _ _ _ => N9)
  all_goals first
    | (have e9 := mend_a (sgn_n (missed := missed) (by assumption)) (trn_p (b := (size.fmod 19 == 8)) (by assumption)) (by assumption); exact oTup hg9 N9 (by k_mem) (congrArg Prod.fst e9) (congrArg Prod.snd e9))
    | (have e9 := mend_a (sgn_n (missed := missed) (by assumption)) (trn_n (b := (size.fmod 19 == 8)) (by assumption)) (by assumption); exact oTup hg9 N9 (by k_mem) (congrArg Prod.fst e9) (congrArg Prod.snd e9))
    | (have e9 := mend_a (sgn_p (missed := missed) (by assumption)) (trn_p (b := (size.fmod 19 == 8)) (by assumption)) (by assumption); exact oTup hg9 N9 (by k_mem) (congrArg Prod.fst e9) (congrArg Prod.snd e9))
    | (have e9 := mend_a (sgn_p (missed := missed) (by assumption)) (trn_n (b := (size.fmod 19 == 8)) (by assumption)) (by assumption); exact oTup hg9 N9 (by k_mem) (congrArg Prod.fst e9) (congrArg Prod.snd e9))
    | (have e9 := mend_b (sgn_n (missed := missed) (by assumption)) (trn_p (b := (size.fmod 19 == 8)) (by assumption)) (by assumption) (by assumption); exact oTup hg9 N9 (by k_mem) (congrArg Prod.fst e9) (congrArg Prod.snd e9))
    | (have e9 := mend_b (sgn_n (missed := missed) (by assumption)) (trn_n (b := (size.fmod 19 == 8)) (by assumption)) (by assumption) (by assumption); exact oTup hg9 N9 (by k_mem) (congrArg Prod.fst e9) (congrArg Prod.snd e9))
    | (have e9 := mend_b (sgn_p (missed := missed) (by assumption)) (trn_p (b := (size.fmod 19 == 8)) (by assumption)) (by assumption) (by assumption); exact oTup hg9 N9 (by k_mem) (congrArg Prod.fst e9) (congrArg Prod.snd e9))
    | (have e9 := mend_b (sgn_p (missed := missed) (by assumption)) (trn_n (b := (size.fmod 19 == 8)) (by assumption)) (by assumption) (by assumption); exact oTup hg9 N9 (by k_mem) (congrArg Prod.fst e9) (congrArg Prod.snd e9))
    | (have e9 := mend_c (sgn_n (missed := missed) (by assumption)) (trn_p (b := (size.fmod 19 == 8)) (by assumption)) (by assumption) (by assumption); exact oTup hg9 N9 (by k_mem) (congrArg Prod.fst e9) (congrArg Prod.snd e9))
    | (have e9 := mend_c (sgn_n (missed := missed) (by assumption)) (trn_n (b := (size.fmod 19 == 8)) (by assumption)) (by assumption) (by assumption); exact oTup hg9 N9 (by k_mem) (congrArg Prod.fst e9) (congrArg Prod.snd e9))
    | (have e9 := mend_c (sgn_p (missed := missed) (by assumption)) (trn_p (b := (size.fmod 19 == 8)) (by assumption)) (by assumption) (by assumption); exact oTup hg9 N9 (by k_mem) (congrArg Prod.fst e9) (congrArg Prod.snd e9))
    | (have e9 := mend_c (sgn_p (missed := missed) (by assumption)) (trn_n (b := (size.fmod 19 == 8)) (by assumption)) (by assumption) (by assumption); exact oTup hg9 N9 (by k_mem) (congrArg Prod.fst e9) (congrArg Prod.snd e9))

-- wssub
def WsIn (a b : List (Addr × Obj)) : Prop := ∀ z ∈ a, z ∈ b
theorem wsIn_of {h₀ h : Heap} {L : Addr} {a b : List (Addr × Obj)} (_N : News h₀ L h (a ++ b)) : WsIn a (a ++ b) := fun _ hz => List.mem_append_left _ hz
theorem wsIn_news {h₀ h : Heap} {L : Addr} {a b : List (Addr × Obj)} (N : News h₀ L h b) (W : WsIn a b) : News h₀ L h a := kst_newsOf N W

-- max3
theorem max_threeD {prog : Program} {w : World} {A : Around} {E : Value → Shared → Prop} {s : Shared} {h₀ : Heap} {L : Addr} {m : PySem.Str → Option Value} {news : List (Addr × Obj)} {a b c d : Int} {t u x : Tok} {Q : Value → Shared → Prop} (hh : A.handled = none) (F : Fr h₀ L s.heap m) (N : News h₀ L s.heap news)
    (he : (if b > a then (if c > b then c else b) else (if c > a then c else a)) = d) (h : ∀ tok h' tk, Fr h₀ L h' m → News h₀ L h' news → Q (.int d tok) { s with heap := h', toks := tk }) :
    wpAny (model prog w) A (call (.builtin "max") [.int a t, .int b u, .int c x]) Q E s := by
  refine PySem.max_three_ints hh fun h' tk hk => ?_
  have key := fun tok => h tok h' tk (fr_stays F hk) (news_stays N hk)
  subst he
  by_cases hba : b > a <;> by_cases hc1 : c > b <;> by_cases hc2 : c > a <;> simp only [hba, hc1, hc2, if_true, if_false] at key ⊢ <;> exact key _

-- near_mac

-- near_end
theorem nearStep_miss {tabs blanks rest size i j : Int} {l : List (Int × Int)} (hi : 0 ≤ i) (hj : 0 ≤ j) (h : ((((j.toNat : Nat) : Int) + size * ((i.toNat : Nat) : Int)).fmod 19 == rest) = false) : nearStep tabs blanks rest size i l j = l := by
  rw [Int.toNat_of_nonneg hi, Int.toNat_of_nonneg hj] at h
  unfold nearStep hitB
  rw [h]; rfl
theorem nearStep_far {tabs blanks rest size i j : Int} {l : List (Int × Int)} {dn : Nat} (hd : dueN tabs.toNat blanks.toNat i.toNat j.toNat = dn) (h : 2 < (dn : Int)) : nearStep tabs blanks rest size i l j = l := by
  unfold nearStep hitB
  rw [hd, decide_eq_false (by omega), Bool.and_false]; rfl
theorem nearStep_hit {tabs blanks rest size i j : Int} {l : List (Int × Int)} {dn : Nat} (hi : 0 ≤ i) (hj : 0 ≤ j) (h : ((((j.toNat : Nat) : Int) + size * ((i.toNat : Nat) : Int)).fmod 19 == rest) = true) (hd : dueN tabs.toNat blanks.toNat i.toNat j.toNat = dn) (h2 : (dn : Int) ≤ 2) :
    nearStep tabs blanks rest size i l j = l ++ [(i, j)] := by
  rw [Int.toNat_of_nonneg hi, Int.toNat_of_nonneg hj] at h
  unfold nearStep hitB
  rw [hd, h, decide_eq_true (by omega)]; rfl
theorem nearStep_len (tabs blanks rest size i : Int) : ∀ (ks : List Int) (l : List (Int × Int)), (ks.foldl (nearStep tabs blanks rest size i) l).length ≤ l.length + ks.length
  | [], l => Nat.le_refl _
  | k :: ks, l => by
    have h1 : (nearStep tabs blanks rest size i l k).length ≤ l.length + 1 := by
      unfold nearStep; split <;> simp
    have h2 := nearStep_len tabs blanks rest size i ks (nearStep tabs blanks rest size i l k)
    simp only [List.foldl_cons, List.length_cons]; omega
theorem rangeKs_len (a : Int) (n : Nat) : (rangeKs a n).length = n := by simp [rangeKs]
theorem nearIn_len (tabs blanks rest size : Int) : ∀ (ks : List Int) (l : List (Int × Int)), (ks.foldl (nearIn tabs blanks rest size) l).length ≤ l.length + 5 * ks.length
  | [], l => Nat.le_refl _
  | k :: ks, l => by
    have h1 : (nearIn tabs blanks rest size l k).length ≤ l.length + 5 := by
      have := nearStep_len tabs blanks rest size k (rangeKs (blanks - 2) 5) l
      rw [rangeKs_len] at this; exact this
    have h2 := nearIn_len tabs blanks rest size ks (nearIn tabs blanks rest size l k)
    simp only [List.foldl_cons, List.length_cons]; omega
theorem TupsAre.len : ∀ {ds : List (Addr × Obj)} {l : List (Int × Int)}, TupsAre ds l → ds.length = l.length
  | [], [], _ => rfl
  | _ :: _, _ :: _, h => by simp only [List.length_cons, TupsAre.len h.2]
  | [], _ :: _, h => h.elim
  | _ :: _, [], h => h.elim
theorem append_mine {prog : Program} {w : World} {A : Around} {E : Value → Shared → Prop} {s : Shared} {h₀ : Heap} {L D : Addr} {m : PySem.Str → Option Value} {pre post : List (Addr × Obj)} {its : Array Value} {n : Nat} {x : Value} {Q : Value → Shared → Prop}
    (F : Fr h₀ L s.heap m) (N : News h₀ L s.heap (pre ++ (D, W.listOf its n) :: post)) (a : ∀ p ∈ pre, p.1 ≠ D) (b : ∀ p ∈ post, p.1 ≠ D) (hsz : its.size ≤ sizeLine)
    (h : ∀ h', Fr h₀ L h' m → News h₀ L h' (pre ++ (D, W.listOf (its.push x) (n + 1)) :: post) → Q .none { s with heap := h' }) : wpAny (model prog w) A (call (.builtin "list.append") [.ref D, x]) Q E s := by
  have z := N (D, W.listOf its n) (List.mem_append.mpr (.inr (.head _)))
  exact PyProof.Rows.append_at (hsz := hsz) z.1 fun h' hs ho' => h h' (F.change hs z.2.1 z.2.2) (W.news_set N a b hs ho')
theorem TupsAre.cls : ∀ {ds : List (Addr × Obj)} {l : List (Int × Int)}, TupsAre ds l → ∀ p ∈ ds, p.2.cls = .type "tuple"
  | [], _, _, _, hp => nomatch hp
  | d :: ds, q :: l, h, p, hp => by
    rcases List.mem_cons.mp hp with rfl | hp
    · obtain ⟨tx, ty, e⟩ := h.1
      rw [e]
    · exact TupsAre.cls h.2 p hp
  | _ :: _, [], h, _, _ => h.elim
theorem tups_off {h₀ h : Heap} {L I : Addr} {it : Obj} {all ds : List (Addr × Obj)} {l : List (Int × Int)} (N : News h₀ L h all) (hI : (I, it) ∈ all) (hds : ∀ p ∈ ds, p ∈ all) (htu : TupsAre ds l) (hit : it.cls = .type "range_iterator") : ∀ p ∈ ds, p.1 ≠ I := by
  intro p hp e
  have h1 := (N _ hI).1
  have h2 := (N _ (hds p hp)).1
  rw [e] at h2
  have h3 := h1.symm.trans h2
  injection h3 with h3
  have h4 := htu.cls p hp
  rw [← h3, hit] at h4
  injection h4 with h4
  exact absurd h4 (by decide)
/-- a new list of new pairs comes back -/
def OTups (l : List (Int × Int)) (h h' : Heap) (v : Value) : Prop := ∃ nA c ds, v = .ref nA ∧ TupsAre ds l ∧ (∀ p ∈ (nA, W.listOf (ds.map fun p => Value.ref p.1).toArray c) :: ds, h.get? p.1 = none ∧ h'.get? p.1 = some p.2)
theorem oTups {g h h' : Heap} {L nA : Addr} {c : Nat} {ds all : List (Addr × Obj)} {l : List (Int × Int)} (hg : g = h) (N : News g L h' all) (ht : TupsAre ds l) (hm : ∀ p ∈ (nA, W.listOf (ds.map fun p => Value.ref p.1).toArray c) :: ds, p ∈ all) : OTups l h h' (.ref nA) := by
  subst hg
  exact ⟨nA, c, ds, rfl, ht, fun p hp => ⟨(N _ (hm p hp)).2.2, (N _ (hm p hp)).1⟩⟩

-- near_hit
structure NHit (h₀ : Heap) (L : Addr) (h' : Heap) (nA D I I2 : Addr) (it it2 : Obj) (ds : List (Addr × Obj)) (c : Nat) (iv jv : Int) (t t2 : Tok) : Prop where
  N : News h₀ L h' ([(D, wsTup [.int iv t, .int jv t2])] ++ (nA, W.listOf ((ds ++ [(D, wsTup [.int iv t, .int jv t2])]).map fun p => Value.ref p.1).toArray (c + 1)) :: ((I2, it2) :: (I, it) :: ds))
  nD : D ≠ nA
  nD2 : D ≠ I2
theorem near_hit {prog : Program} {w : World} {A : Around} {E : Value → Shared → Prop} {s : Shared} {h₀ : Heap} {L nA D I I2 : Addr} {it it2 : Obj} {m : PySem.Str → Option Value} {all ds : List (Addr × Obj)} {c : Nat} {iv jv : Int} {t t2 : Tok} {Q : Value → Shared → Prop}
    (F : Fr h₀ L s.heap m) (N : News h₀ L s.heap ((D, wsTup [.int iv t, .int jv t2]) :: all)) (hn : (nA, W.listOf (ds.map fun p => Value.ref p.1).toArray c) ∈ all) (h2 : (I2, it2) ∈ all) (h1 : (I, it) ∈ all) (hds : ∀ p ∈ ds, p ∈ all)
    (hit2 : it2.cls = .type "range_iterator") (o1 : nA ≠ I2) (oI : nA ≠ I) (hne : ∀ p ∈ ds, p.1 ≠ nA) (hlen : ds.length ≤ 25)
    (h : ∀ h', Fr h₀ L h' m → NHit h₀ L h' nA D I I2 it it2 ds c iv jv t t2 → Q .none { s with heap := h' }) :
    wpAny (model prog w) A (call (.builtin "list.append") [.ref nA, .ref D]) Q E s := by
  have zD := (N _ (List.mem_cons_self ..)).1
  have zn := (N _ (List.mem_cons_of_mem _ hn)).1
  have z2 := (N _ (List.mem_cons_of_mem _ h2)).1
  have nD : D ≠ nA := by
    rintro rfl
    have := zD.symm.trans zn
    injection this with this
    injection this with a b
    injection a with a
    exact absurd a (by decide)
  have nD2 : D ≠ I2 := by
    rintro rfl
    have := zD.symm.trans z2
    injection this with this
    subst this
    injection hit2 with a
    exact absurd a (by decide)
  have N2 : News h₀ L s.heap ([(D, wsTup [.int iv t, .int jv t2])] ++ (nA, W.listOf (ds.map fun p => Value.ref p.1).toArray c) :: ((I2, it2) :: (I, it) :: ds)) := by
    intro p hp
    simp only [List.mem_append, List.mem_cons, List.not_mem_nil, or_false] at hp
    rcases hp with hp | hp | hp | hp | hp
    · exact N p (hp ▸ List.mem_cons_self ..)
    · exact N p (hp ▸ List.mem_cons_of_mem _ hn)
    · exact N p (hp ▸ List.mem_cons_of_mem _ h2)
    · exact N p (hp ▸ List.mem_cons_of_mem _ h1)
    · exact N p (List.mem_cons_of_mem _ (hds p hp))
  refine append_mine F N2 (fun p hp => by rw [List.mem_singleton.mp hp]; exact nD) (fun p hp => ?_) ?_ fun h' F' N' => h h' F' ⟨?_, nD, nD2⟩
  · simp only [List.mem_cons] at hp
    rcases hp with hp | hp | hp
    · rw [hp]; exact fun q => o1 q.symm
    · rw [hp]; exact fun q => oI q.symm
    · exact hne p hp
  · have : (25 : Nat) ≤ sizeLine := by decide
    simp only [List.size_toArray, List.length_map]; omega
  · have e : (ds.map fun p => Value.ref p.1).toArray.push (.ref D) = ((ds ++ [(D, wsTup [.int iv t, .int jv t2])]).map fun p => Value.ref p.1).toArray := by simp
    rw [e] at N'
    exact N'
theorem near_hitE {h₀ h' : Heap} {L nA D I I2 : Addr} {it it2 : Obj} {m' m₀ : PySem.Str → Option Value} {ds : List (Addr × Obj)} {c : Nat} {l : List (Int × Int)} {iv jv : Int} {t t2 : Tok} {S : List PySem.Str} {l' : List (Int × Int)} {s₁ s₂ : Shared}
    (H : NHit h₀ L h' nA D I I2 it it2 ds c iv jv t t2) (F' : Fr h₀ L h' m') (hs : s₂ = { s₁ with heap := h', toks := s₂.toks }) (o1 : nA ≠ I2) (o2 : I ≠ I2) (hne : ∀ p ∈ ds, p.1 ≠ nA) (hoff : ∀ p ∈ ds, p.1 ≠ I2) (htu : TupsAre ds l)
    (hJ : l' = l ++ [(iv, jv)]) (hm : ∀ z, S.contains z = false → m' z = m₀ z) : GEnd h₀ L (fun m nx => nrJ nA [(I, it)] S m₀ l' m nx) I2 it2 s₁ s₂ := by
  obtain ⟨N', nD, nD2⟩ := H
  subst hJ
  have hs2 : s₂.heap = h' := by rw [hs]
  refine gend_ (s₂ := s₂) (by rw [hs2]; exact hs) (hs2 ▸ F') (hs2 ▸ N') (by simp only [List.mem_append, List.mem_cons, true_or, or_true]) ((nA, W.listOf ((ds ++ [(D, wsTup [.int iv t, .int jv t2])]).map fun p => Value.ref p.1).toArray (c + 1)) :: ([(I, it)] ++ (ds ++ [(D, wsTup [.int iv t, .int jv t2])]))) (fun p hp => ?_) (fun p hp => ?_) (nrJ_intro (fun p hp => ?_) htu.snoc hm)
  · simp only [List.mem_append, List.mem_cons, List.not_mem_nil, or_false] at hp ⊢
    rcases hp with hp | hp | hp | hp <;> simp only [hp, true_or, or_true]
  · simp only [List.mem_append, List.mem_cons, List.not_mem_nil, or_false] at hp
    rcases hp with hp | hp | hp | hp
    · rw [hp]; exact o1
    · rw [hp]; exact o2
    · exact hoff p hp
    · rw [hp]; exact nD2
  · rcases List.mem_append.mp hp with hp | hp
    · exact hne p hp
    · rw [List.mem_singleton.mp hp]; exact nD

-- near_body
theorem near_claim (w : World) (tabs blanks rest size : Int) (tl tt tb tr ts : Tok) (ht : 2 ≤ tabs ∧ tabs ≤ 5) (hb : 2 ≤ blanks ∧ blanks ≤ 5) (hs : 1 ≤ size ∧ size ≤ 100) :
    Cl 4 136 w (fun _ => True) [.str (lineS tabs.toNat blanks.toNat) tl, .int tabs tt, .int blanks tb, .int rest tr, .int size ts] (OTups (nearF tabs blanks rest size)) := by
  have htH := PySem.Flt.Hid.mk ht
  have hbH := PySem.Flt.Hid.mk hb
  have ht2 : 2 ≤ tabs ∧ tabs ≤ 20 := by omega
  have hb2 : 2 ≤ blanks ∧ blanks ≤ 20 := by omega
  clear ht hb
  w_on
  (( unfold Cl PCl; intro meanZ mgZ mbZ dpZ unZ gdZ cnZ csZ aZ ccdZ clZ outerZ AZ baseZ hZ0 LZ mZ sZ QZ EZ BZ FZ XZ TZ hkZ hdZ huZ hHZ hretZ; k_dflt (refine' enter_pure ?k1Z9 ?k2Z9 ?k3Z9 ?k5Z9 ?kAZ9 ?kFZ9 ?kKZ9 ?k6Z9 ?k7Z9 ?k8Z9 ?k9Z9 ?kBZ9 ?_ ?c2Z9 ?c3Z9 ?c4Z9 ?c5Z9; (case kAZ9 => exact rfl); (case kFZ9 => exact rfl); (case kKZ9 => assumption); (case k1Z9 => k_asm); (case k2Z9 => k_asm); (case k3Z9 => k_asm); (case k5Z9 => k_asm); (case k6Z9 => k_is); (case k7Z9 => k_is); (case k8Z9 => ktr_room); (case k9Z9 => exact BindsTo.of_eq rfl); (case c5Z9 => decide); (case kBZ9 => exact locs rfl); (case c2Z9 => exact rfl); (case c3Z9 => exact rfl); (case c4Z9 => exact rfl); k_whole; intro gY LY hY hgY FY NY BY XY TY; (try dsimp only); (try k_lift BY); (try k_fold))))
  (repeat' (first | (((with_reducible show wpAny _ _ (call (Value.ref 52) _) _ _ _); k_here; k_dflt ((rename Fr _ _ _ _ => lF'); (rename News _ _ _ _ => lN'); (rename WsIn _ _ => lW'); k_dflt (refine' indent_claim _ _ _ _ _ _ _ _ _ _ _ _ ?kcZ9 ?kpZ9 ?kqZ9 ?ksZ9 _ _ _ _ _ _ _ _ _ _ _ _ _ _ _ _ _ _ _ _ ?k1Z9 lF' ?k3Z9 (wsIn_news lN' lW') ?k5Z9 ?kKZ9 ?kdZ9 ?kuZ9 ?_); (case kcZ9 => assumption); (case kpZ9 => omega); (case kqZ9 => omega); (case ksZ9 => omega); (case k1Z9 => k_asm); (case k3Z9 => k_asm); (case k5Z9 => k_asm); (case kKZ9 => first | exact rfl | assumption); (case kdZ9 => ktr_room); (case kuZ9 => ktr_units); intro t9 h9 tk9 st9; (have F9 := fr_stays lF' st9); (have N9 := news_stays lN' st9); clear lF' lN' lW'; (try dsimp only); (try k_fold)))) | (((with_reducible show wpAny _ _ (call (Value.ref 83) [Value.str _ _]) _ _ _); k_here; (rename Fr _ _ _ _ => lF'); (rename News _ _ _ _ => lN'); k_dflt (refine' ws_claim _ _ _ _ _ _ (lineS_list _ _) (.inr rfl) ?kpZ9 ?kqZ9 _ _ _ _ _ _ _ _ _ _ _ _ _ _ _ _ _ _ _ _ _ ?k1Z9 lF' ?k3Z9 lN' ?k5Z9 ?kKZ9 ?kdZ9 ?kuZ9 ?_); (case kpZ9 => omega); (case kqZ9 => omega); (case k1Z9 => k_asm); (case k3Z9 => k_asm); (case k5Z9 => k_asm); (case kKZ9 => first | exact rfl | assumption); (case kdZ9 => ktr_room); (case kuZ9 => ktr_units); clear lF' lN'; intro x9 dx9 nm9 ct9 cs9 T9 h9 tk9 hcs9 F9 N9 lZ1 lZ2 lZ3 lZ4; (try k_lt lZ1); k_lt2 lZ2; k_lt2 lZ3; k_lt2 lZ4; (have W9 := wsIn_of N9); dsimp only [wsObjs, List.cons_append, List.nil_append] at N9; (try dsimp only); (try k_fold))) | (((with_reducible show wpAny _ _ (call (Value.ref 108) [Value.str _ _, Value.str _ _, Value.int _ _]) _ _ _); ((k_here; (rename Fr _ _ _ _ => lF'); (rename News _ _ _ _ => lN'); k_dflt (refine' use_cl (lev_claim _ _ _ _ _ _ _ (by rw [lineS_len]; omega) (by rw [lineS_len]; omega) (by omega)) ?k1Z9 lF' ?k3Z9 lN' ?k5Z9 ?kKZ9 ?kdZ9 ?kuZ9 ?kHZ9 ?_); (case k1Z9 => k_asm); (case k3Z9 => k_asm); (case k5Z9 => k_asm); (case kKZ9 => first | exact rfl | assumption); (case kdZ9 => ktr_room); (case kuZ9 => ktr_units); (case kHZ9 => trivial); clear lF' lN')); intro v9 h9 tk9 F9 N9 st9 o9; obtain ⟨t9, e9⟩ := o9; subst e9; (try dsimp only); (try k_fold))) | (((with_reducible show wpAny _ _ (call (Value.ref 122) [Value.str _ _, Value.str _ _]) _ _ _); ((k_here; (rename Fr _ _ _ _ => lF'); (rename News _ _ _ _ => lN'); k_dflt (refine' use_cl (slips_claim _ _ _ _ _ (by rw [lineS_len]; omega) (by rw [lineS_len]; omega) (by rw [lineS_len]; omega) (lineS_nodot _ _)) ?k1Z9 lF' ?k3Z9 lN' ?k5Z9 ?kKZ9 ?kdZ9 ?kuZ9 ?kHZ9 ?_); (case k1Z9 => k_asm); (case k3Z9 => k_asm); (case k5Z9 => k_asm); (case kKZ9 => first | exact rfl | assumption); (case kdZ9 => ktr_room); (case kuZ9 => ktr_units); (case kHZ9 => trivial); clear lF' lN')); intro v9 h9 tk9 F9 N9 st9 o9; obtain ⟨t9, e9⟩ := o9; subst e9; (try dsimp only); (try k_fold))) | (((with_reducible show wpAny _ _ (call (Value.ref 115) [Value.int _ _, Value.int _ _]) _ _ _); ((k_here; (rename Fr _ _ _ _ => lF'); (rename News _ _ _ _ => lN'); k_dflt (refine' use_cl (line_claim _ _ _ _ _ (by omega) (by omega)) ?k1Z9 lF' ?k3Z9 lN' ?k5Z9 ?kKZ9 ?kdZ9 ?kuZ9 ?kHZ9 ?_); (case k1Z9 => k_asm); (case k3Z9 => k_asm); (case k5Z9 => k_asm); (case kKZ9 => first | exact rfl | assumption); (case kdZ9 => ktr_room); (case kuZ9 => ktr_units); (case kHZ9 => trivial); clear lF' lN')); intro v9 h9 tk9 F9 N9 st9 o9; obtain ⟨t9, e9⟩ := o9; subst e9; (try dsimp only); (try k_fold))) | (((with_reducible show wpAny _ _ (call (Value.builtin _) [Value.int _ _, Value.int _ _, Value.int _ _]) _ _ _); k_here; (rename Fr _ _ _ _ => lF'); (rename News _ _ _ _ => lN'); (with_unfolding_all refine' max_threeD ?hhZ9 lF' lN' ?heZ9 ?_; (case hhZ9 => with_unfolding_all rfl); (case heZ9 => assumption); k_whole); clear lF' lN'; intro t9 h9 tk9 F9 N9; (try dsimp only); (try k_fold))) | ((k_here; (with_reducible show wpAny _ _ (subscriptTail _ (Expr.Slice none (some _) none _) _ _) _ _ _); (with_reducible rename Fr _ _ _ _ => F'); (with_reducible rename News _ _ _ _ => N'); (refine slice_none (s := ⟨_, _, _, _, _⟩) F' N' ?_ (hsz := ?hszZ9)); (case hszZ9 => (rw [sizeLine_eq]; omega)); intro _ _ _ _ _)) | ((k_here; k_openite; first | (refine ite_pos ?hxZ9 ?_; (case hxZ9 => first | with_reducible assumption | (simp only [decide_eq_true_eq, decide_eq_false_iff_not, Bool.not_eq_true', Bool.not_eq_false', bne_iff_ne, ne_eq]; omega))) | (refine ite_neg ?hxZ9 ?_; (case hxZ9 => first | with_reducible assumption | (simp only [decide_eq_true_eq, decide_eq_false_iff_not, Bool.not_eq_true', Bool.not_eq_false', bne_iff_ne, ne_eq, Bool.not_eq_true, Decidable.not_not]; omega))) | (refine ite_b (fun hc => ?_) (fun hc => ?_) <;> (try simp only [decide_eq_true_eq, decide_eq_false_iff_not, Bool.not_eq_true', Bool.not_eq_false', bne_iff_ne, ne_eq, bne_eq_false_iff_eq, Decidable.not_not, Int.not_lt, Int.not_le] at hc)))) | (fail_if_success (with_reducible show wpAny _ _ (exec (Stmt.While _ _ _ _) _) _ _ _)); (fail_if_success (with_reducible show wpAny _ _ (exec (Stmt.For _ _ _ _ _) _) _ _ _)); (fail_if_success (with_reducible show wpAny _ _ (pyIter _) _ _ _)); (fail_if_success (with_reducible show InvEndN _ _ _ _ _ _ _)); (fail_if_success (with_reducible show GEnd _ _ _ _ _ _ _)); (fail_if_success (with_reducible show GPost _ _ _ _ _ _ _ _ _)); first | (k_unfold; (try dsimp only)) | walk1 | (dsimp only; walk1) | (leave1; try dsimp only) | fail "no step"))
  (((with_unfolding_all refine' For_invVF ?kZZ9 ?k1Z9 ?k2Z9 ?_); (case kZZ9 => k_dflt assumption); (with_unfolding_all ((case k1Z9 => exact rfl); (case k2Z9 => exact rfl); k_whole)); (repeat' (first | (((with_reducible show wpAny _ _ (call (Value.ref 52) _) _ _ _); k_here; k_dflt ((rename Fr _ _ _ _ => lF'); (rename News _ _ _ _ => lN'); (rename WsIn _ _ => lW'); k_dflt (refine' indent_claim _ _ _ _ _ _ _ _ _ _ _ _ ?kcZ9 ?kpZ9 ?kqZ9 ?ksZ9 _ _ _ _ _ _ _ _ _ _ _ _ _ _ _ _ _ _ _ _ ?k1Z9 lF' ?k3Z9 (wsIn_news lN' lW') ?k5Z9 ?kKZ9 ?kdZ9 ?kuZ9 ?_); (case kcZ9 => assumption); (case kpZ9 => omega); (case kqZ9 => omega); (case ksZ9 => omega); (case k1Z9 => k_asm); (case k3Z9 => k_asm); (case k5Z9 => k_asm); (case kKZ9 => first | exact rfl | assumption); (case kdZ9 => ktr_room); (case kuZ9 => ktr_units); intro t9 h9 tk9 st9; (have F9 := fr_stays lF' st9); (have N9 := news_stays lN' st9); clear lF' lN' lW'; (try dsimp only); (try k_fold)))) | (((with_reducible show wpAny _ _ (call (Value.ref 83) [Value.str _ _]) _ _ _); k_here; (rename Fr _ _ _ _ => lF'); (rename News _ _ _ _ => lN'); k_dflt (refine' ws_claim _ _ _ _ _ _ (lineS_list _ _) (.inr rfl) ?kpZ9 ?kqZ9 _ _ _ _ _ _ _ _ _ _ _ _ _ _ _ _ _ _ _ _ _ ?k1Z9 lF' ?k3Z9 lN' ?k5Z9 ?kKZ9 ?kdZ9 ?kuZ9 ?_); (case kpZ9 => omega); (case kqZ9 => omega); (case k1Z9 => k_asm); (case k3Z9 => k_asm); (case k5Z9 => k_asm); (case kKZ9 => first | exact rfl | assumption); (case kdZ9 => ktr_room); (case kuZ9 => ktr_units); clear lF' lN'; intro x9 dx9 nm9 ct9 cs9 T9 h9 tk9 hcs9 F9 N9 lZ1 lZ2 lZ3 lZ4; (try k_lt lZ1); k_lt2 lZ2; k_lt2 lZ3; k_lt2 lZ4; (have W9 := wsIn_of N9); dsimp only [wsObjs, List.cons_append, List.nil_append] at N9; (try dsimp only); (try k_fold))) | (((with_reducible show wpAny _ _ (call (Value.ref 108) [Value.str _ _, Value.str _ _, Value.int _ _]) _ _ _); ((k_here; (rename Fr _ _ _ _ => lF'); (rename News _ _ _ _ => lN'); k_dflt (refine' use_cl (lev_claim _ _ _ _ _ _ _ (by rw [lineS_len]; omega) (by rw [lineS_len]; omega) (by omega)) ?k1Z9 lF' ?k3Z9 lN' ?k5Z9 ?kKZ9 ?kdZ9 ?kuZ9 ?kHZ9 ?_); (case k1Z9 => k_asm); (case k3Z9 => k_asm); (case k5Z9 => k_asm); (case kKZ9 => first | exact rfl | assumption); (case kdZ9 => ktr_room); (case kuZ9 => ktr_units); (case kHZ9 => trivial); clear lF' lN')); intro v9 h9 tk9 F9 N9 st9 o9; obtain ⟨t9, e9⟩ := o9; subst e9; (try dsimp only); (try k_fold))) | (((with_reducible show wpAny _ _ (call (Value.ref 122) [Value.str _ _, Value.str _ _]) _ _ _); ((k_here; (rename Fr _ _ _ _ => lF'); (rename News _ _ _ _ => lN'); k_dflt (refine' use_cl (slips_claim _ _ _ _ _ (by rw [lineS_len]; omega) (by rw [lineS_len]; omega) (by rw [lineS_len]; omega) (lineS_nodot _ _)) ?k1Z9 lF' ?k3Z9 lN' ?k5Z9 ?kKZ9 ?kdZ9 ?kuZ9 ?kHZ9 ?_); (case k1Z9 => k_asm); (case k3Z9 => k_asm); (case k5Z9 => k_asm); (case kKZ9 => first | exact rfl | assumption); (case kdZ9 => ktr_room); (case kuZ9 => ktr_units); (case kHZ9 => trivial); clear lF' lN')); intro v9 h9 tk9 F9 N9 st9 o9; obtain ⟨t9, e9⟩ := o9; subst e9; (try dsimp only); (try k_fold))) | (((with_reducible show wpAny _ _ (call (Value.ref 115) [Value.int _ _, Value.int _ _]) _ _ _); ((k_here; (rename Fr _ _ _ _ => lF'); (rename News _ _ _ _ => lN'); k_dflt (refine' use_cl (line_claim _ _ _ _ _ (by omega) (by omega)) ?k1Z9 lF' ?k3Z9 lN' ?k5Z9 ?kKZ9 ?kdZ9 ?kuZ9 ?kHZ9 ?_); (case k1Z9 => k_asm); (case k3Z9 => k_asm); (case k5Z9 => k_asm); (case kKZ9 => first | exact rfl | assumption); (case kdZ9 => ktr_room); (case kuZ9 => ktr_units); (case kHZ9 => trivial); clear lF' lN')); intro v9 h9 tk9 F9 N9 st9 o9; obtain ⟨t9, e9⟩ := o9; subst e9; (try dsimp only); (try k_fold))) | (((with_reducible show wpAny _ _ (call (Value.builtin _) [Value.int _ _, Value.int _ _, Value.int _ _]) _ _ _); k_here; (rename Fr _ _ _ _ => lF'); (rename News _ _ _ _ => lN'); (with_unfolding_all refine' max_threeD ?hhZ9 lF' lN' ?heZ9 ?_; (case hhZ9 => with_unfolding_all rfl); (case heZ9 => assumption); k_whole); clear lF' lN'; intro t9 h9 tk9 F9 N9; (try dsimp only); (try k_fold))) | ((k_here; (with_reducible show wpAny _ _ (subscriptTail _ (Expr.Slice none (some _) none _) _ _) _ _ _); (with_reducible rename Fr _ _ _ _ => F'); (with_reducible rename News _ _ _ _ => N'); (refine slice_none (s := ⟨_, _, _, _, _⟩) F' N' ?_ (hsz := ?hszZ9)); (case hszZ9 => (rw [sizeLine_eq]; omega)); intro _ _ _ _ _)) | ((k_here; k_openite; first | (refine ite_pos ?hxZ9 ?_; (case hxZ9 => first | with_reducible assumption | (simp only [decide_eq_true_eq, decide_eq_false_iff_not, Bool.not_eq_true', Bool.not_eq_false', bne_iff_ne, ne_eq]; omega))) | (refine ite_neg ?hxZ9 ?_; (case hxZ9 => first | with_reducible assumption | (simp only [decide_eq_true_eq, decide_eq_false_iff_not, Bool.not_eq_true', Bool.not_eq_false', bne_iff_ne, ne_eq, Bool.not_eq_true, Decidable.not_not]; omega))) | (refine ite_b (fun hc => ?_) (fun hc => ?_) <;> (try simp only [decide_eq_true_eq, decide_eq_false_iff_not, Bool.not_eq_true', Bool.not_eq_false', bne_iff_ne, ne_eq, bne_eq_false_iff_eq, Decidable.not_not, Int.not_lt, Int.not_le] at hc)))) | (fail_if_success (with_reducible show wpAny _ _ (exec (Stmt.While _ _ _ _) _) _ _ _)); (fail_if_success (with_reducible show wpAny _ _ (exec (Stmt.For _ _ _ _ _) _) _ _ _)); (fail_if_success (with_reducible show wpAny _ _ (pyIter _) _ _ _)); (fail_if_success (with_reducible show InvEndN _ _ _ _ _ _ _)); (fail_if_success (with_reducible show GEnd _ _ _ _ _ _ _)); (fail_if_success (with_reducible show GPost _ _ _ _ _ _ _ _ _)); first | (k_unfold; (try dsimp only)) | walk1 | (dsimp only; walk1) | (leave1; try dsimp only) | fail "no step"))))
  rename_i nA h8 l1n h7 F8 N8 h6 tk6 t1 u1 v1 hR F9 N9 st9
  clear F8 N8
  k_dflt (refine' grow_rangeM (n := 5) (fun m₀ k m nx => nrJ nA [] [PySem.Str.ofString "i", PySem.Str.ofString "j", PySem.Str.ofString "other", PySem.Str.ofString "slips"] m₀ ((rangeKs (tabs - 2) k).foldl (nearIn tabs blanks rest size) []) m nx) rfl hR (small_one (by omega) (by omega) (by omega) (by omega)) (range_len (by omega)) F9 N9 ?hJ ?turn ?done)
  case hJ => exact nrJ_intro (ds := []) (fun p hp => by cases hp) trivial (fun z _ => rfl)
  case done =>
    rintro m₁ nx h tk ⟨ds, c, u, rfl, hne, htu, rfl⟩ F4 N4
    clear F9 N9 st9 hR
    dsimp only [List.nil_append] at N4
    (try k_fold)
    (repeat' (first | (((with_reducible show wpAny _ _ (call (Value.ref 52) _) _ _ _); k_here; k_dflt ((rename Fr _ _ _ _ => lF'); (rename News _ _ _ _ => lN'); (rename WsIn _ _ => lW'); k_dflt (refine' indent_claim _ _ _ _ _ _ _ _ _ _ _ _ ?kcZ9 ?kpZ9 ?kqZ9 ?ksZ9 _ _ _ _ _ _ _ _ _ _ _ _ _ _ _ _ _ _ _ _ ?k1Z9 lF' ?k3Z9 (wsIn_news lN' lW') ?k5Z9 ?kKZ9 ?kdZ9 ?kuZ9 ?_); (case kcZ9 => assumption); (case kpZ9 => omega); (case kqZ9 => omega); (case ksZ9 => omega); (case k1Z9 => k_asm); (case k3Z9 => k_asm); (case k5Z9 => k_asm); (case kKZ9 => first | exact rfl | assumption); (case kdZ9 => ktr_room); (case kuZ9 => ktr_units); intro t9 h9 tk9 st9; (have F9 := fr_stays lF' st9); (have N9 := news_stays lN' st9); clear lF' lN' lW'; (try dsimp only); (try k_fold)))) | (((with_reducible show wpAny _ _ (call (Value.ref 83) [Value.str _ _]) _ _ _); k_here; (rename Fr _ _ _ _ => lF'); (rename News _ _ _ _ => lN'); k_dflt (refine' ws_claim _ _ _ _ _ _ (lineS_list _ _) (.inr rfl) ?kpZ9 ?kqZ9 _ _ _ _ _ _ _ _ _ _ _ _ _ _ _ _ _ _ _ _ _ ?k1Z9 lF' ?k3Z9 lN' ?k5Z9 ?kKZ9 ?kdZ9 ?kuZ9 ?_); (case kpZ9 => omega); (case kqZ9 => omega); (case k1Z9 => k_asm); (case k3Z9 => k_asm); (case k5Z9 => k_asm); (case kKZ9 => first | exact rfl | assumption); (case kdZ9 => ktr_room); (case kuZ9 => ktr_units); clear lF' lN'; intro x9 dx9 nm9 ct9 cs9 T9 h9 tk9 hcs9 F9 N9 lZ1 lZ2 lZ3 lZ4; (try k_lt lZ1); k_lt2 lZ2; k_lt2 lZ3; k_lt2 lZ4; (have W9 := wsIn_of N9); dsimp only [wsObjs, List.cons_append, List.nil_append] at N9; (try dsimp only); (try k_fold))) | (((with_reducible show wpAny _ _ (call (Value.ref 108) [Value.str _ _, Value.str _ _, Value.int _ _]) _ _ _); ((k_here; (rename Fr _ _ _ _ => lF'); (rename News _ _ _ _ => lN'); k_dflt (refine' use_cl (lev_claim _ _ _ _ _ _ _ (by rw [lineS_len]; omega) (by rw [lineS_len]; omega) (by omega)) ?k1Z9 lF' ?k3Z9 lN' ?k5Z9 ?kKZ9 ?kdZ9 ?kuZ9 ?kHZ9 ?_); (case k1Z9 => k_asm); (case k3Z9 => k_asm); (case k5Z9 => k_asm); (case kKZ9 => first | exact rfl | assumption); (case kdZ9 => ktr_room); (case kuZ9 => ktr_units); (case kHZ9 => trivial); clear lF' lN')); intro v9 h9 tk9 F9 N9 st9 o9; obtain ⟨t9, e9⟩ := o9; subst e9; (try dsimp only); (try k_fold))) | (((with_reducible show wpAny _ _ (call (Value.ref 122) [Value.str _ _, Value.str _ _]) _ _ _); ((k_here; (rename Fr _ _ _ _ => lF'); (rename News _ _ _ _ => lN'); k_dflt (refine' use_cl (slips_claim _ _ _ _ _ (by rw [lineS_len]; omega) (by rw [lineS_len]; omega) (by rw [lineS_len]; omega) (lineS_nodot _ _)) ?k1Z9 lF' ?k3Z9 lN' ?k5Z9 ?kKZ9 ?kdZ9 ?kuZ9 ?kHZ9 ?_); (case k1Z9 => k_asm); (case k3Z9 => k_asm); (case k5Z9 => k_asm); (case kKZ9 => first | exact rfl | assumption); (case kdZ9 => ktr_room); (case kuZ9 => ktr_units); (case kHZ9 => trivial); clear lF' lN')); intro v9 h9 tk9 F9 N9 st9 o9; obtain ⟨t9, e9⟩ := o9; subst e9; (try dsimp only); (try k_fold))) | (((with_reducible show wpAny _ _ (call (Value.ref 115) [Value.int _ _, Value.int _ _]) _ _ _); ((k_here; (rename Fr _ _ _ _ => lF'); (rename News _ _ _ _ => lN'); k_dflt (refine' use_cl (line_claim _ _ _ _ _ (by omega) (by omega)) ?k1Z9 lF' ?k3Z9 lN' ?k5Z9 ?kKZ9 ?kdZ9 ?kuZ9 ?kHZ9 ?_); (case k1Z9 => k_asm); (case k3Z9 => k_asm); (case k5Z9 => k_asm); (case kKZ9 => first | exact rfl | assumption); (case kdZ9 => ktr_room); (case kuZ9 => ktr_units); (case kHZ9 => trivial); clear lF' lN')); intro v9 h9 tk9 F9 N9 st9 o9; obtain ⟨t9, e9⟩ := o9; subst e9; (try dsimp only); (try k_fold))) | (((with_reducible show wpAny _ _ (call (Value.builtin _) [Value.int _ _, Value.int _ _, Value.int _ _]) _ _ _); k_here; (rename Fr _ _ _ _ => lF'); (rename News _ _ _ _ => lN'); (with_unfolding_all refine' max_threeD ?hhZ9 lF' lN' ?heZ9 ?_; (case hhZ9 => with_unfolding_all rfl); (case heZ9 => assumption); k_whole); clear lF' lN'; intro t9 h9 tk9 F9 N9; (try dsimp only); (try k_fold))) | ((k_here; (with_reducible show wpAny _ _ (subscriptTail _ (Expr.Slice none (some _) none _) _ _) _ _ _); (with_reducible rename Fr _ _ _ _ => F'); (with_reducible rename News _ _ _ _ => N'); (refine slice_none (s := ⟨_, _, _, _, _⟩) F' N' ?_ (hsz := ?hszZ9)); (case hszZ9 => (rw [sizeLine_eq]; omega)); intro _ _ _ _ _)) | ((k_here; k_openite; first | (refine ite_pos ?hxZ9 ?_; (case hxZ9 => first | with_reducible assumption | (simp only [decide_eq_true_eq, decide_eq_false_iff_not, Bool.not_eq_true', Bool.not_eq_false', bne_iff_ne, ne_eq]; omega))) | (refine ite_neg ?hxZ9 ?_; (case hxZ9 => first | with_reducible assumption | (simp only [decide_eq_true_eq, decide_eq_false_iff_not, Bool.not_eq_true', Bool.not_eq_false', bne_iff_ne, ne_eq, Bool.not_eq_true, Decidable.not_not]; omega))) | (refine ite_b (fun hc => ?_) (fun hc => ?_) <;> (try simp only [decide_eq_true_eq, decide_eq_false_iff_not, Bool.not_eq_true', Bool.not_eq_false', bne_iff_ne, ne_eq, bne_eq_false_iff_eq, Decidable.not_not, Int.not_lt, Int.not_le] at hc)))) | (fail_if_success (with_reducible show wpAny _ _ (exec (Stmt.While _ _ _ _) _) _ _ _)); (fail_if_success (with_reducible show wpAny _ _ (exec (Stmt.For _ _ _ _ _) _) _ _ _)); (fail_if_success (with_reducible show wpAny _ _ (pyIter _) _ _ _)); (fail_if_success (with_reducible show InvEndN _ _ _ _ _ _ _)); (fail_if_success (with_reducible show GEnd _ _ _ _ _ _ _)); (fail_if_success (with_reducible show GPost _ _ _ _ _ _ _ _ _)); first | (k_unfold; (try dsimp only)) | walk1 | (dsimp only; walk1) | (leave1; try dsimp only) | fail "no step"))
    (( (rename (∀ (v : Value) (h' : Heap) (tk' : Nat), Heap.StaysIn _ h' → _ → _) => hret9); (rename (_ = Shared.heap _) => hg9); refine' ret_ hret9 hg9 ?kFZ9 ?keZ9 ?_; (case kFZ9 => assumption); (case keZ9 => exact rfl); (try dsimp only)))
    (rename (_ = Shared.heap _) => hg9; rename News _ _ _ _ => N9)
    exact oTups hg9 N9 htu (fun p hp => hp)
  rintro I i t it m₁ nx h tk hit hi ⟨ds, c, u, rfl, hne, htu, rfl⟩ hoff F4 N4
  clear F9 N9 st9 hR
  generalize hl : (rangeKs (tabs - 2) i).foldl (nearIn tabs blanks rest size) [] = l0 at htu
  have hi2 : tabs - 2 ≤ tabs - 2 + (i : Int) ∧ tabs - 2 + (i : Int) ≤ tabs + 2 := by omega
  generalize hie : tabs - 2 + (i : Int) = iv at *
  dsimp only [List.nil_append] at N4
  have oI := neN (hoff _ (List.mem_cons_self ..))
  dsimp only at oI
  (try k_fold)
  (repeat' (first | (((with_reducible show wpAny _ _ (call (Value.ref 52) _) _ _ _); k_here; k_dflt ((rename Fr _ _ _ _ => lF'); (rename News _ _ _ _ => lN'); (rename WsIn _ _ => lW'); k_dflt (refine' indent_claim _ _ _ _ _ _ _ _ _ _ _ _ ?kcZ9 ?kpZ9 ?kqZ9 ?ksZ9 _ _ _ _ _ _ _ _ _ _ _ _ _ _ _ _ _ _ _ _ ?k1Z9 lF' ?k3Z9 (wsIn_news lN' lW') ?k5Z9 ?kKZ9 ?kdZ9 ?kuZ9 ?_); (case kcZ9 => assumption); (case kpZ9 => omega); (case kqZ9 => omega); (case ksZ9 => omega); (case k1Z9 => k_asm); (case k3Z9 => k_asm); (case k5Z9 => k_asm); (case kKZ9 => first | exact rfl | assumption); (case kdZ9 => ktr_room); (case kuZ9 => ktr_units); intro t9 h9 tk9 st9; (have F9 := fr_stays lF' st9); (have N9 := news_stays lN' st9); clear lF' lN' lW'; (try dsimp only); (try k_fold)))) | (((with_reducible show wpAny _ _ (call (Value.ref 83) [Value.str _ _]) _ _ _); k_here; (rename Fr _ _ _ _ => lF'); (rename News _ _ _ _ => lN'); k_dflt (refine' ws_claim _ _ _ _ _ _ (lineS_list _ _) (.inr rfl) ?kpZ9 ?kqZ9 _ _ _ _ _ _ _ _ _ _ _ _ _ _ _ _ _ _ _ _ _ ?k1Z9 lF' ?k3Z9 lN' ?k5Z9 ?kKZ9 ?kdZ9 ?kuZ9 ?_); (case kpZ9 => omega); (case kqZ9 => omega); (case k1Z9 => k_asm); (case k3Z9 => k_asm); (case k5Z9 => k_asm); (case kKZ9 => first | exact rfl | assumption); (case kdZ9 => ktr_room); (case kuZ9 => ktr_units); clear lF' lN'; intro x9 dx9 nm9 ct9 cs9 T9 h9 tk9 hcs9 F9 N9 lZ1 lZ2 lZ3 lZ4; (try k_lt lZ1); k_lt2 lZ2; k_lt2 lZ3; k_lt2 lZ4; (have W9 := wsIn_of N9); dsimp only [wsObjs, List.cons_append, List.nil_append] at N9; (try dsimp only); (try k_fold))) | (((with_reducible show wpAny _ _ (call (Value.ref 108) [Value.str _ _, Value.str _ _, Value.int _ _]) _ _ _); ((k_here; (rename Fr _ _ _ _ => lF'); (rename News _ _ _ _ => lN'); k_dflt (refine' use_cl (lev_claim _ _ _ _ _ _ _ (by rw [lineS_len]; omega) (by rw [lineS_len]; omega) (by omega)) ?k1Z9 lF' ?k3Z9 lN' ?k5Z9 ?kKZ9 ?kdZ9 ?kuZ9 ?kHZ9 ?_); (case k1Z9 => k_asm); (case k3Z9 => k_asm); (case k5Z9 => k_asm); (case kKZ9 => first | exact rfl | assumption); (case kdZ9 => ktr_room); (case kuZ9 => ktr_units); (case kHZ9 => trivial); clear lF' lN')); intro v9 h9 tk9 F9 N9 st9 o9; obtain ⟨t9, e9⟩ := o9; subst e9; (try dsimp only); (try k_fold))) | (((with_reducible show wpAny _ _ (call (Value.ref 122) [Value.str _ _, Value.str _ _]) _ _ _); ((k_here; (rename Fr _ _ _ _ => lF'); (rename News _ _ _ _ => lN'); k_dflt (refine' use_cl (slips_claim _ _ _ _ _ (by rw [lineS_len]; omega) (by rw [lineS_len]; omega) (by rw [lineS_len]; omega) (lineS_nodot _ _)) ?k1Z9 lF' ?k3Z9 lN' ?k5Z9 ?kKZ9 ?kdZ9 ?kuZ9 ?kHZ9 ?_); (case k1Z9 => k_asm); (case k3Z9 => k_asm); (case k5Z9 => k_asm); (case kKZ9 => first | exact rfl | assumption); (case kdZ9 => ktr_room); (case kuZ9 => ktr_units); (case kHZ9 => trivial); clear lF' lN')); intro v9 h9 tk9 F9 N9 st9 o9; obtain ⟨t9, e9⟩ := o9; subst e9; (try dsimp only); (try k_fold))) | (((with_reducible show wpAny _ _ (call (Value.ref 115) [Value.int _ _, Value.int _ _]) _ _ _); ((k_here; (rename Fr _ _ _ _ => lF'); (rename News _ _ _ _ => lN'); k_dflt (refine' use_cl (line_claim _ _ _ _ _ (by omega) (by omega)) ?k1Z9 lF' ?k3Z9 lN' ?k5Z9 ?kKZ9 ?kdZ9 ?kuZ9 ?kHZ9 ?_); (case k1Z9 => k_asm); (case k3Z9 => k_asm); (case k5Z9 => k_asm); (case kKZ9 => first | exact rfl | assumption); (case kdZ9 => ktr_room); (case kuZ9 => ktr_units); (case kHZ9 => trivial); clear lF' lN')); intro v9 h9 tk9 F9 N9 st9 o9; obtain ⟨t9, e9⟩ := o9; subst e9; (try dsimp only); (try k_fold))) | (((with_reducible show wpAny _ _ (call (Value.builtin _) [Value.int _ _, Value.int _ _, Value.int _ _]) _ _ _); k_here; (rename Fr _ _ _ _ => lF'); (rename News _ _ _ _ => lN'); (with_unfolding_all refine' max_threeD ?hhZ9 lF' lN' ?heZ9 ?_; (case hhZ9 => with_unfolding_all rfl); (case heZ9 => assumption); k_whole); clear lF' lN'; intro t9 h9 tk9 F9 N9; (try dsimp only); (try k_fold))) | ((k_here; (with_reducible show wpAny _ _ (subscriptTail _ (Expr.Slice none (some _) none _) _ _) _ _ _); (with_reducible rename Fr _ _ _ _ => F'); (with_reducible rename News _ _ _ _ => N'); (refine slice_none (s := ⟨_, _, _, _, _⟩) F' N' ?_ (hsz := ?hszZ9)); (case hszZ9 => (rw [sizeLine_eq]; omega)); intro _ _ _ _ _)) | ((k_here; k_openite; first | (refine ite_pos ?hxZ9 ?_; (case hxZ9 => first | with_reducible assumption | (simp only [decide_eq_true_eq, decide_eq_false_iff_not, Bool.not_eq_true', Bool.not_eq_false', bne_iff_ne, ne_eq]; omega))) | (refine ite_neg ?hxZ9 ?_; (case hxZ9 => first | with_reducible assumption | (simp only [decide_eq_true_eq, decide_eq_false_iff_not, Bool.not_eq_true', Bool.not_eq_false', bne_iff_ne, ne_eq, Bool.not_eq_true, Decidable.not_not]; omega))) | (refine ite_b (fun hc => ?_) (fun hc => ?_) <;> (try simp only [decide_eq_true_eq, decide_eq_false_iff_not, Bool.not_eq_true', Bool.not_eq_false', bne_iff_ne, ne_eq, bne_eq_false_iff_eq, Decidable.not_not, Int.not_lt, Int.not_le] at hc)))) | (fail_if_success (with_reducible show wpAny _ _ (exec (Stmt.While _ _ _ _) _) _ _ _)); (fail_if_success (with_reducible show wpAny _ _ (exec (Stmt.For _ _ _ _ _) _) _ _ _)); (fail_if_success (with_reducible show wpAny _ _ (pyIter _) _ _ _)); (fail_if_success (with_reducible show InvEndN _ _ _ _ _ _ _)); (fail_if_success (with_reducible show GEnd _ _ _ _ _ _ _)); (fail_if_success (with_reducible show GPost _ _ _ _ _ _ _ _ _)); first | (k_unfold; (try dsimp only)) | walk1 | (dsimp only; walk1) | (leave1; try dsimp only) | fail "no step"))
  (((with_unfolding_all refine' For_invVF ?kZZ9 ?k1Z9 ?k2Z9 ?_); (case kZZ9 => k_dflt assumption); (with_unfolding_all ((case k1Z9 => exact rfl); (case k2Z9 => exact rfl); k_whole)); (repeat' (first | (((with_reducible show wpAny _ _ (call (Value.ref 52) _) _ _ _); k_here; k_dflt ((rename Fr _ _ _ _ => lF'); (rename News _ _ _ _ => lN'); (rename WsIn _ _ => lW'); k_dflt (refine' indent_claim _ _ _ _ _ _ _ _ _ _ _ _ ?kcZ9 ?kpZ9 ?kqZ9 ?ksZ9 _ _ _ _ _ _ _ _ _ _ _ _ _ _ _ _ _ _ _ _ ?k1Z9 lF' ?k3Z9 (wsIn_news lN' lW') ?k5Z9 ?kKZ9 ?kdZ9 ?kuZ9 ?_); (case kcZ9 => assumption); (case kpZ9 => omega); (case kqZ9 => omega); (case ksZ9 => omega); (case k1Z9 => k_asm); (case k3Z9 => k_asm); (case k5Z9 => k_asm); (case kKZ9 => first | exact rfl | assumption); (case kdZ9 => ktr_room); (case kuZ9 => ktr_units); intro t9 h9 tk9 st9; (have F9 := fr_stays lF' st9); (have N9 := news_stays lN' st9); clear lF' lN' lW'; (try dsimp only); (try k_fold)))) | (((with_reducible show wpAny _ _ (call (Value.ref 83) [Value.str _ _]) _ _ _); k_here; (rename Fr _ _ _ _ => lF'); (rename News _ _ _ _ => lN'); k_dflt (refine' ws_claim _ _ _ _ _ _ (lineS_list _ _) (.inr rfl) ?kpZ9 ?kqZ9 _ _ _ _ _ _ _ _ _ _ _ _ _ _ _ _ _ _ _ _ _ ?k1Z9 lF' ?k3Z9 lN' ?k5Z9 ?kKZ9 ?kdZ9 ?kuZ9 ?_); (case kpZ9 => omega); (case kqZ9 => omega); (case k1Z9 => k_asm); (case k3Z9 => k_asm); (case k5Z9 => k_asm); (case kKZ9 => first | exact rfl | assumption); (case kdZ9 => ktr_room); (case kuZ9 => ktr_units); clear lF' lN'; intro x9 dx9 nm9 ct9 cs9 T9 h9 tk9 hcs9 F9 N9 lZ1 lZ2 lZ3 lZ4; (try k_lt lZ1); k_lt2 lZ2; k_lt2 lZ3; k_lt2 lZ4; (have W9 := wsIn_of N9); dsimp only [wsObjs, List.cons_append, List.nil_append] at N9; (try dsimp only); (try k_fold))) | (((with_reducible show wpAny _ _ (call (Value.ref 108) [Value.str _ _, Value.str _ _, Value.int _ _]) _ _ _); ((k_here; (rename Fr _ _ _ _ => lF'); (rename News _ _ _ _ => lN'); k_dflt (refine' use_cl (lev_claim _ _ _ _ _ _ _ (by rw [lineS_len]; omega) (by rw [lineS_len]; omega) (by omega)) ?k1Z9 lF' ?k3Z9 lN' ?k5Z9 ?kKZ9 ?kdZ9 ?kuZ9 ?kHZ9 ?_); (case k1Z9 => k_asm); (case k3Z9 => k_asm); (case k5Z9 => k_asm); (case kKZ9 => first | exact rfl | assumption); (case kdZ9 => ktr_room); (case kuZ9 => ktr_units); (case kHZ9 => trivial); clear lF' lN')); intro v9 h9 tk9 F9 N9 st9 o9; obtain ⟨t9, e9⟩ := o9; subst e9; (try dsimp only); (try k_fold))) | (((with_reducible show wpAny _ _ (call (Value.ref 122) [Value.str _ _, Value.str _ _]) _ _ _); ((k_here; (rename Fr _ _ _ _ => lF'); (rename News _ _ _ _ => lN'); k_dflt (refine' use_cl (slips_claim _ _ _ _ _ (by rw [lineS_len]; omega) (by rw [lineS_len]; omega) (by rw [lineS_len]; omega) (lineS_nodot _ _)) ?k1Z9 lF' ?k3Z9 lN' ?k5Z9 ?kKZ9 ?kdZ9 ?kuZ9 ?kHZ9 ?_); (case k1Z9 => k_asm); (case k3Z9 => k_asm); (case k5Z9 => k_asm); (case kKZ9 => first | exact rfl | assumption); (case kdZ9 => ktr_room); (case kuZ9 => ktr_units); (case kHZ9 => trivial); clear lF' lN')); intro v9 h9 tk9 F9 N9 st9 o9; obtain ⟨t9, e9⟩ := o9; subst e9; (try dsimp only); (try k_fold))) | (((with_reducible show wpAny _ _ (call (Value.ref 115) [Value.int _ _, Value.int _ _]) _ _ _); ((k_here; (rename Fr _ _ _ _ => lF'); (rename News _ _ _ _ => lN'); k_dflt (refine' use_cl (line_claim _ _ _ _ _ (by omega) (by omega)) ?k1Z9 lF' ?k3Z9 lN' ?k5Z9 ?kKZ9 ?kdZ9 ?kuZ9 ?kHZ9 ?_); (case k1Z9 => k_asm); (case k3Z9 => k_asm); (case k5Z9 => k_asm); (case kKZ9 => first | exact rfl | assumption); (case kdZ9 => ktr_room); (case kuZ9 => ktr_units); (case kHZ9 => trivial); clear lF' lN')); intro v9 h9 tk9 F9 N9 st9 o9; obtain ⟨t9, e9⟩ := o9; subst e9; (try dsimp only); (try k_fold))) | (((with_reducible show wpAny _ _ (call (Value.builtin _) [Value.int _ _, Value.int _ _, Value.int _ _]) _ _ _); k_here; (rename Fr _ _ _ _ => lF'); (rename News _ _ _ _ => lN'); (with_unfolding_all refine' max_threeD ?hhZ9 lF' lN' ?heZ9 ?_; (case hhZ9 => with_unfolding_all rfl); (case heZ9 => assumption); k_whole); clear lF' lN'; intro t9 h9 tk9 F9 N9; (try dsimp only); (try k_fold))) | ((k_here; (with_reducible show wpAny _ _ (subscriptTail _ (Expr.Slice none (some _) none _) _ _) _ _ _); (with_reducible rename Fr _ _ _ _ => F'); (with_reducible rename News _ _ _ _ => N'); (refine slice_none (s := ⟨_, _, _, _, _⟩) F' N' ?_ (hsz := ?hszZ9)); (case hszZ9 => (rw [sizeLine_eq]; omega)); intro _ _ _ _ _)) | ((k_here; k_openite; first | (refine ite_pos ?hxZ9 ?_; (case hxZ9 => first | with_reducible assumption | (simp only [decide_eq_true_eq, decide_eq_false_iff_not, Bool.not_eq_true', Bool.not_eq_false', bne_iff_ne, ne_eq]; omega))) | (refine ite_neg ?hxZ9 ?_; (case hxZ9 => first | with_reducible assumption | (simp only [decide_eq_true_eq, decide_eq_false_iff_not, Bool.not_eq_true', Bool.not_eq_false', bne_iff_ne, ne_eq, Bool.not_eq_true, Decidable.not_not]; omega))) | (refine ite_b (fun hc => ?_) (fun hc => ?_) <;> (try simp only [decide_eq_true_eq, decide_eq_false_iff_not, Bool.not_eq_true', Bool.not_eq_false', bne_iff_ne, ne_eq, bne_eq_false_iff_eq, Decidable.not_not, Int.not_lt, Int.not_le] at hc)))) | (fail_if_success (with_reducible show wpAny _ _ (exec (Stmt.While _ _ _ _) _) _ _ _)); (fail_if_success (with_reducible show wpAny _ _ (exec (Stmt.For _ _ _ _ _) _) _ _ _)); (fail_if_success (with_reducible show wpAny _ _ (pyIter _) _ _ _)); (fail_if_success (with_reducible show InvEndN _ _ _ _ _ _ _)); (fail_if_success (with_reducible show GEnd _ _ _ _ _ _ _)); (fail_if_success (with_reducible show GPost _ _ _ _ _ _ _ _ _)); first | (k_unfold; (try dsimp only)) | walk1 | (dsimp only; walk1) | (leave1; try dsimp only) | fail "no step"))))
  rename_i h6 tk6 t1 u1 v1 hR F9 N9 st9
  k_dflt (refine' grow_rangeM (n := 5) (fun m₀ k m nx => nrJ nA [(I, it)] [PySem.Str.ofString "j", PySem.Str.ofString "other", PySem.Str.ofString "slips"] m₀ ((rangeKs (blanks - 2) k).foldl (nearStep tabs blanks rest size iv) l0) m nx) rfl hR (small_one (by omega) (by omega) (by omega) (by omega)) (range_len (by omega)) F9 (news_swap N9) ?hJ2 ?turn2 ?done2)
  case hJ2 => exact nrJ_intro (ds := ds) hne htu (fun z _ => rfl)
  case done2 =>
    rintro m₂ nx h tk ⟨ds2, c2, u2, rfl, hne2, htu2, rfl⟩ F5 N5
    clear F9 N9 st9 hR
    dsimp only [List.cons_append, List.nil_append] at N5
    (try k_fold)
    (repeat' (first | (((with_reducible show wpAny _ _ (call (Value.ref 52) _) _ _ _); k_here; k_dflt ((rename Fr _ _ _ _ => lF'); (rename News _ _ _ _ => lN'); (rename WsIn _ _ => lW'); k_dflt (refine' indent_claim _ _ _ _ _ _ _ _ _ _ _ _ ?kcZ9 ?kpZ9 ?kqZ9 ?ksZ9 _ _ _ _ _ _ _ _ _ _ _ _ _ _ _ _ _ _ _ _ ?k1Z9 lF' ?k3Z9 (wsIn_news lN' lW') ?k5Z9 ?kKZ9 ?kdZ9 ?kuZ9 ?_); (case kcZ9 => assumption); (case kpZ9 => omega); (case kqZ9 => omega); (case ksZ9 => omega); (case k1Z9 => k_asm); (case k3Z9 => k_asm); (case k5Z9 => k_asm); (case kKZ9 => first | exact rfl | assumption); (case kdZ9 => ktr_room); (case kuZ9 => ktr_units); intro t9 h9 tk9 st9; (have F9 := fr_stays lF' st9); (have N9 := news_stays lN' st9); clear lF' lN' lW'; (try dsimp only); (try k_fold)))) | (((with_reducible show wpAny _ _ (call (Value.ref 83) [Value.str _ _]) _ _ _); k_here; (rename Fr _ _ _ _ => lF'); (rename News _ _ _ _ => lN'); k_dflt (refine' ws_claim _ _ _ _ _ _ (lineS_list _ _) (.inr rfl) ?kpZ9 ?kqZ9 _ _ _ _ _ _ _ _ _ _ _ _ _ _ _ _ _ _ _ _ _ ?k1Z9 lF' ?k3Z9 lN' ?k5Z9 ?kKZ9 ?kdZ9 ?kuZ9 ?_); (case kpZ9 => omega); (case kqZ9 => omega); (case k1Z9 => k_asm); (case k3Z9 => k_asm); (case k5Z9 => k_asm); (case kKZ9 => first | exact rfl | assumption); (case kdZ9 => ktr_room); (case kuZ9 => ktr_units); clear lF' lN'; intro x9 dx9 nm9 ct9 cs9 T9 h9 tk9 hcs9 F9 N9 lZ1 lZ2 lZ3 lZ4; (try k_lt lZ1); k_lt2 lZ2; k_lt2 lZ3; k_lt2 lZ4; (have W9 := wsIn_of N9); dsimp only [wsObjs, List.cons_append, List.nil_append] at N9; (try dsimp only); (try k_fold))) | (((with_reducible show wpAny _ _ (call (Value.ref 108) [Value.str _ _, Value.str _ _, Value.int _ _]) _ _ _); ((k_here; (rename Fr _ _ _ _ => lF'); (rename News _ _ _ _ => lN'); k_dflt (refine' use_cl (lev_claim _ _ _ _ _ _ _ (by rw [lineS_len]; omega) (by rw [lineS_len]; omega) (by omega)) ?k1Z9 lF' ?k3Z9 lN' ?k5Z9 ?kKZ9 ?kdZ9 ?kuZ9 ?kHZ9 ?_); (case k1Z9 => k_asm); (case k3Z9 => k_asm); (case k5Z9 => k_asm); (case kKZ9 => first | exact rfl | assumption); (case kdZ9 => ktr_room); (case kuZ9 => ktr_units); (case kHZ9 => trivial); clear lF' lN')); intro v9 h9 tk9 F9 N9 st9 o9; obtain ⟨t9, e9⟩ := o9; subst e9; (try dsimp only); (try k_fold))) | (((with_reducible show wpAny _ _ (call (Value.ref 122) [Value.str _ _, Value.str _ _]) _ _ _); ((k_here; (rename Fr _ _ _ _ => lF'); (rename News _ _ _ _ => lN'); k_dflt (refine' use_cl (slips_claim _ _ _ _ _ (by rw [lineS_len]; omega) (by rw [lineS_len]; omega) (by rw [lineS_len]; omega) (lineS_nodot _ _)) ?k1Z9 lF' ?k3Z9 lN' ?k5Z9 ?kKZ9 ?kdZ9 ?kuZ9 ?kHZ9 ?_); (case k1Z9 => k_asm); (case k3Z9 => k_asm); (case k5Z9 => k_asm); (case kKZ9 => first | exact rfl | assumption); (case kdZ9 => ktr_room); (case kuZ9 => ktr_units); (case kHZ9 => trivial); clear lF' lN')); intro v9 h9 tk9 F9 N9 st9 o9; obtain ⟨t9, e9⟩ := o9; subst e9; (try dsimp only); (try k_fold))) | (((with_reducible show wpAny _ _ (call (Value.ref 115) [Value.int _ _, Value.int _ _]) _ _ _); ((k_here; (rename Fr _ _ _ _ => lF'); (rename News _ _ _ _ => lN'); k_dflt (refine' use_cl (line_claim _ _ _ _ _ (by omega) (by omega)) ?k1Z9 lF' ?k3Z9 lN' ?k5Z9 ?kKZ9 ?kdZ9 ?kuZ9 ?kHZ9 ?_); (case k1Z9 => k_asm); (case k3Z9 => k_asm); (case k5Z9 => k_asm); (case kKZ9 => first | exact rfl | assumption); (case kdZ9 => ktr_room); (case kuZ9 => ktr_units); (case kHZ9 => trivial); clear lF' lN')); intro v9 h9 tk9 F9 N9 st9 o9; obtain ⟨t9, e9⟩ := o9; subst e9; (try dsimp only); (try k_fold))) | (((with_reducible show wpAny _ _ (call (Value.builtin _) [Value.int _ _, Value.int _ _, Value.int _ _]) _ _ _); k_here; (rename Fr _ _ _ _ => lF'); (rename News _ _ _ _ => lN'); (with_unfolding_all refine' max_threeD ?hhZ9 lF' lN' ?heZ9 ?_; (case hhZ9 => with_unfolding_all rfl); (case heZ9 => assumption); k_whole); clear lF' lN'; intro t9 h9 tk9 F9 N9; (try dsimp only); (try k_fold))) | ((k_here; (with_reducible show wpAny _ _ (subscriptTail _ (Expr.Slice none (some _) none _) _ _) _ _ _); (with_reducible rename Fr _ _ _ _ => F'); (with_reducible rename News _ _ _ _ => N'); (refine slice_none (s := ⟨_, _, _, _, _⟩) F' N' ?_ (hsz := ?hszZ9)); (case hszZ9 => (rw [sizeLine_eq]; omega)); intro _ _ _ _ _)) | ((k_here; k_openite; first | (refine ite_pos ?hxZ9 ?_; (case hxZ9 => first | with_reducible assumption | (simp only [decide_eq_true_eq, decide_eq_false_iff_not, Bool.not_eq_true', Bool.not_eq_false', bne_iff_ne, ne_eq]; omega))) | (refine ite_neg ?hxZ9 ?_; (case hxZ9 => first | with_reducible assumption | (simp only [decide_eq_true_eq, decide_eq_false_iff_not, Bool.not_eq_true', Bool.not_eq_false', bne_iff_ne, ne_eq, Bool.not_eq_true, Decidable.not_not]; omega))) | (refine ite_b (fun hc => ?_) (fun hc => ?_) <;> (try simp only [decide_eq_true_eq, decide_eq_false_iff_not, Bool.not_eq_true', Bool.not_eq_false', bne_iff_ne, ne_eq, bne_eq_false_iff_eq, Decidable.not_not, Int.not_lt, Int.not_le] at hc)))) | (fail_if_success (with_reducible show wpAny _ _ (exec (Stmt.While _ _ _ _) _) _ _ _)); (fail_if_success (with_reducible show wpAny _ _ (exec (Stmt.For _ _ _ _ _) _) _ _ _)); (fail_if_success (with_reducible show wpAny _ _ (pyIter _) _ _ _)); (fail_if_success (with_reducible show InvEndN _ _ _ _ _ _ _)); (fail_if_success (with_reducible show GEnd _ _ _ _ _ _ _)); (fail_if_success (with_reducible show GPost _ _ _ _ _ _ _ _ _)); first | (k_unfold; (try dsimp only)) | walk1 | (dsimp only; walk1) | (leave1; try dsimp only) | fail "no step"))
    dsimp only [GPost]
    have hoff2 := tups_off N5 (I := I) (it := it) (ds := ds2) (by simp only [List.mem_cons, true_or, or_true]) (fun p hp => by simp only [List.mem_cons, hp, or_true]) htu2 hit
    refine' gend_ ?ge ?gF ?gN ?gI ((nA, W.listOf (ds2.map fun p => Value.ref p.1).toArray c2) :: ([] ++ ds2)) ?gs ?gO ?gJ
    case ge => exact rfl
    case gF => assumption
    case gN => assumption
    case gI => simp only [List.mem_cons, true_or, or_true]
    case gs => (intro p hp; simp only [List.mem_cons, List.mem_append, List.cons_append, List.nil_append, List.not_mem_nil, or_false, false_or] at hp ⊢; rcases hp with hp | hp <;> simp only [hp, true_or, or_true])
    case gO => (intro p hp; simp only [List.mem_cons, List.nil_append] at hp; rcases hp with hp | hp; (rw [hp]; exact oI); exact hoff2 p hp)
    case gJ =>
      rw [rangeKs_succ, List.foldl_append, hl, hie]
      exact nrJ_intro (ds := ds2) hne2 htu2 (fun z hz => by
        have hz' := hz
        simp only [List.contains_cons, Bool.or_eq_false_iff, beq_eq_false_iff_ne, ne_eq] at hz'
        simp only [hz, hz'.1, hz'.2.1, hz'.2.2.1, hz'.2.2.2.1, List.contains_cons, List.contains_nil, beq_iff_eq, if_false, Bool.false_eq_true, Bool.or_eq_true, false_or, or_false])
  rintro I2 j t2 it2 m₂ nx h tk hit2 hj ⟨ds2, c2, u2, rfl, hne2, htu2, rfl⟩ hoff2 F5 N5
  clear F9 N9 st9 hR
  generalize hl2 : (rangeKs (blanks - 2) j).foldl (nearStep tabs blanks rest size iv) l0 = l1 at htu2
  have hj2 : blanks - 2 ≤ blanks - 2 + (j : Int) ∧ blanks - 2 + (j : Int) ≤ blanks + 2 := by omega
  generalize hje : blanks - 2 + (j : Int) = jv at *
  have hi3 : 0 ≤ iv ∧ iv ≤ 7 := by have := htH.out; omega
  have hj3 : 0 ≤ jv ∧ jv ≤ 7 := by have := hbH.out; omega
  obtain ⟨hsl, hlv, hdd⟩ := near_fact htH.out hbH.out hi2 hj2
  generalize hdn : dueN tabs.toNat blanks.toNat iv.toNat jv.toNat = dn at *
  dsimp only [List.cons_append, List.nil_append] at N5
  have o1 := neN (hoff2 _ (List.mem_cons_self ..))
  have o2 := neN (hoff2 _ (List.mem_cons_of_mem _ (List.mem_append_left _ (List.mem_cons_self ..))))
  dsimp only at o1 o2
  (try k_fold)
  (repeat' (first | (((with_reducible show wpAny _ _ (call (Value.ref 52) _) _ _ _); k_here; k_dflt ((rename Fr _ _ _ _ => lF'); (rename News _ _ _ _ => lN'); (rename WsIn _ _ => lW'); k_dflt (refine' indent_claim _ _ _ _ _ _ _ _ _ _ _ _ ?kcZ9 ?kpZ9 ?kqZ9 ?ksZ9 _ _ _ _ _ _ _ _ _ _ _ _ _ _ _ _ _ _ _ _ ?k1Z9 lF' ?k3Z9 (wsIn_news lN' lW') ?k5Z9 ?kKZ9 ?kdZ9 ?kuZ9 ?_); (case kcZ9 => assumption); (case kpZ9 => omega); (case kqZ9 => omega); (case ksZ9 => omega); (case k1Z9 => k_asm); (case k3Z9 => k_asm); (case k5Z9 => k_asm); (case kKZ9 => first | exact rfl | assumption); (case kdZ9 => ktr_room); (case kuZ9 => ktr_units); intro t9 h9 tk9 st9; (have F9 := fr_stays lF' st9); (have N9 := news_stays lN' st9); clear lF' lN' lW'; (try dsimp only); (try k_fold)))) | (((with_reducible show wpAny _ _ (call (Value.ref 83) [Value.str _ _]) _ _ _); k_here; (rename Fr _ _ _ _ => lF'); (rename News _ _ _ _ => lN'); k_dflt (refine' ws_claim _ _ _ _ _ _ (lineS_list _ _) (.inr rfl) ?kpZ9 ?kqZ9 _ _ _ _ _ _ _ _ _ _ _ _ _ _ _ _ _ _ _ _ _ ?k1Z9 lF' ?k3Z9 lN' ?k5Z9 ?kKZ9 ?kdZ9 ?kuZ9 ?_); (case kpZ9 => omega); (case kqZ9 => omega); (case k1Z9 => k_asm); (case k3Z9 => k_asm); (case k5Z9 => k_asm); (case kKZ9 => first | exact rfl | assumption); (case kdZ9 => ktr_room); (case kuZ9 => ktr_units); clear lF' lN'; intro x9 dx9 nm9 ct9 cs9 T9 h9 tk9 hcs9 F9 N9 lZ1 lZ2 lZ3 lZ4; (try k_lt lZ1); k_lt2 lZ2; k_lt2 lZ3; k_lt2 lZ4; (have W9 := wsIn_of N9); dsimp only [wsObjs, List.cons_append, List.nil_append] at N9; (try dsimp only); (try k_fold))) | (((with_reducible show wpAny _ _ (call (Value.ref 108) [Value.str _ _, Value.str _ _, Value.int _ _]) _ _ _); ((k_here; (rename Fr _ _ _ _ => lF'); (rename News _ _ _ _ => lN'); k_dflt (refine' use_cl (lev_claim _ _ _ _ _ _ _ (by rw [lineS_len]; omega) (by rw [lineS_len]; omega) (by omega)) ?k1Z9 lF' ?k3Z9 lN' ?k5Z9 ?kKZ9 ?kdZ9 ?kuZ9 ?kHZ9 ?_); (case k1Z9 => k_asm); (case k3Z9 => k_asm); (case k5Z9 => k_asm); (case kKZ9 => first | exact rfl | assumption); (case kdZ9 => ktr_room); (case kuZ9 => ktr_units); (case kHZ9 => trivial); clear lF' lN')); intro v9 h9 tk9 F9 N9 st9 o9; obtain ⟨t9, e9⟩ := o9; subst e9; (try dsimp only); (try k_fold))) | (((with_reducible show wpAny _ _ (call (Value.ref 122) [Value.str _ _, Value.str _ _]) _ _ _); ((k_here; (rename Fr _ _ _ _ => lF'); (rename News _ _ _ _ => lN'); k_dflt (refine' use_cl (slips_claim _ _ _ _ _ (by rw [lineS_len]; omega) (by rw [lineS_len]; omega) (by rw [lineS_len]; omega) (lineS_nodot _ _)) ?k1Z9 lF' ?k3Z9 lN' ?k5Z9 ?kKZ9 ?kdZ9 ?kuZ9 ?kHZ9 ?_); (case k1Z9 => k_asm); (case k3Z9 => k_asm); (case k5Z9 => k_asm); (case kKZ9 => first | exact rfl | assumption); (case kdZ9 => ktr_room); (case kuZ9 => ktr_units); (case kHZ9 => trivial); clear lF' lN')); intro v9 h9 tk9 F9 N9 st9 o9; obtain ⟨t9, e9⟩ := o9; subst e9; (try dsimp only); (try k_fold))) | (((with_reducible show wpAny _ _ (call (Value.ref 115) [Value.int _ _, Value.int _ _]) _ _ _); ((k_here; (rename Fr _ _ _ _ => lF'); (rename News _ _ _ _ => lN'); k_dflt (refine' use_cl (line_claim _ _ _ _ _ (by omega) (by omega)) ?k1Z9 lF' ?k3Z9 lN' ?k5Z9 ?kKZ9 ?kdZ9 ?kuZ9 ?kHZ9 ?_); (case k1Z9 => k_asm); (case k3Z9 => k_asm); (case k5Z9 => k_asm); (case kKZ9 => first | exact rfl | assumption); (case kdZ9 => ktr_room); (case kuZ9 => ktr_units); (case kHZ9 => trivial); clear lF' lN')); intro v9 h9 tk9 F9 N9 st9 o9; obtain ⟨t9, e9⟩ := o9; subst e9; (try dsimp only); (try k_fold))) | (((with_reducible show wpAny _ _ (call (Value.builtin _) [Value.int _ _, Value.int _ _, Value.int _ _]) _ _ _); k_here; (rename Fr _ _ _ _ => lF'); (rename News _ _ _ _ => lN'); (with_unfolding_all refine' max_threeD ?hhZ9 lF' lN' ?heZ9 ?_; (case hhZ9 => with_unfolding_all rfl); (case heZ9 => assumption); k_whole); clear lF' lN'; intro t9 h9 tk9 F9 N9; (try dsimp only); (try k_fold))) | ((k_here; (with_reducible show wpAny _ _ (subscriptTail _ (Expr.Slice none (some _) none _) _ _) _ _ _); (with_reducible rename Fr _ _ _ _ => F'); (with_reducible rename News _ _ _ _ => N'); (refine slice_none (s := ⟨_, _, _, _, _⟩) F' N' ?_ (hsz := ?hszZ9)); (case hszZ9 => (rw [sizeLine_eq]; omega)); intro _ _ _ _ _)) | ((k_here; k_openite; first | (refine ite_pos ?hxZ9 ?_; (case hxZ9 => first | with_reducible assumption | (simp only [decide_eq_true_eq, decide_eq_false_iff_not, Bool.not_eq_true', Bool.not_eq_false', bne_iff_ne, ne_eq]; omega))) | (refine ite_neg ?hxZ9 ?_; (case hxZ9 => first | with_reducible assumption | (simp only [decide_eq_true_eq, decide_eq_false_iff_not, Bool.not_eq_true', Bool.not_eq_false', bne_iff_ne, ne_eq, Bool.not_eq_true, Decidable.not_not]; omega))) | (refine ite_b (fun hc => ?_) (fun hc => ?_) <;> (try simp only [decide_eq_true_eq, decide_eq_false_iff_not, Bool.not_eq_true', Bool.not_eq_false', bne_iff_ne, ne_eq, bne_eq_false_iff_eq, Decidable.not_not, Int.not_lt, Int.not_le] at hc)))) | (fail_if_success (with_reducible show wpAny _ _ (exec (Stmt.While _ _ _ _) _) _ _ _)); (fail_if_success (with_reducible show wpAny _ _ (exec (Stmt.For _ _ _ _ _) _) _ _ _)); (fail_if_success (with_reducible show wpAny _ _ (pyIter _) _ _ _)); (fail_if_success (with_reducible show InvEndN _ _ _ _ _ _ _)); (fail_if_success (with_reducible show GEnd _ _ _ _ _ _ _)); (fail_if_success (with_reducible show GPost _ _ _ _ _ _ _ _ _)); first | (k_unfold; (try dsimp only)) | walk1 | (dsimp only; walk1) | (leave1; try dsimp only) | fail "no step"))
  ·
    (try dsimp only)
    (rename Fr _ _ _ _ => lF'); (rename News _ _ _ _ => lN')
    (rename ((_ : Int) == rest) = true => hc9)
    (rename slipsF _ _ ≤ 2 => hc8)
    rw [hsl] at hc8
    have e1 := nearStep_hit (tabs := tabs) (blanks := blanks) (rest := rest) (size := size) (i := iv) (j := jv) (l := l1) hi3.1 hj3.1 hc9 hdn hc8
    refine' near_hit (it := it) (it2 := it2) (c := c2) (ds := ds2) lF' lN' ?hn ?h2 ?h1 ?hds hit2 o1 oI hne2 ?hlen ?h
    case hn => simp only [List.mem_cons, true_or, or_true]
    case h2 => simp only [List.mem_cons, true_or, or_true]
    case h1 => simp only [List.mem_cons, true_or, or_true]
    case hds => intro p hp; simp only [List.mem_cons, hp, or_true]
    case hlen =>
      have q1 := nearIn_len tabs blanks rest size (rangeKs (tabs - 2) i) []
      have q2 := nearStep_len tabs blanks rest size iv (rangeKs (blanks - 2) j) l0
      rw [hl, rangeKs_len] at q1
      rw [hl2, rangeKs_len] at q2
      have q3 := htu2.len
      simp only [List.length_nil] at q1
      omega
    case h =>
      clear lF' lN'
      intro h' F' hN9
      have N' := hN9.N
      (repeat' (first | (((with_reducible show wpAny _ _ (call (Value.ref 52) _) _ _ _); k_here; k_dflt ((rename Fr _ _ _ _ => lF'); (rename News _ _ _ _ => lN'); (rename WsIn _ _ => lW'); k_dflt (refine' indent_claim _ _ _ _ _ _ _ _ _ _ _ _ ?kcZ9 ?kpZ9 ?kqZ9 ?ksZ9 _ _ _ _ _ _ _ _ _ _ _ _ _ _ _ _ _ _ _ _ ?k1Z9 lF' ?k3Z9 (wsIn_news lN' lW') ?k5Z9 ?kKZ9 ?kdZ9 ?kuZ9 ?_); (case kcZ9 => assumption); (case kpZ9 => omega); (case kqZ9 => omega); (case ksZ9 => omega); (case k1Z9 => k_asm); (case k3Z9 => k_asm); (case k5Z9 => k_asm); (case kKZ9 => first | exact rfl | assumption); (case kdZ9 => ktr_room); (case kuZ9 => ktr_units); intro t9 h9 tk9 st9; (have F9 := fr_stays lF' st9); (have N9 := news_stays lN' st9); clear lF' lN' lW'; (try dsimp only); (try k_fold)))) | (((with_reducible show wpAny _ _ (call (Value.ref 83) [Value.str _ _]) _ _ _); k_here; (rename Fr _ _ _ _ => lF'); (rename News _ _ _ _ => lN'); k_dflt (refine' ws_claim _ _ _ _ _ _ (lineS_list _ _) (.inr rfl) ?kpZ9 ?kqZ9 _ _ _ _ _ _ _ _ _ _ _ _ _ _ _ _ _ _ _ _ _ ?k1Z9 lF' ?k3Z9 lN' ?k5Z9 ?kKZ9 ?kdZ9 ?kuZ9 ?_); (case kpZ9 => omega); (case kqZ9 => omega); (case k1Z9 => k_asm); (case k3Z9 => k_asm); (case k5Z9 => k_asm); (case kKZ9 => first | exact rfl | assumption); (case kdZ9 => ktr_room); (case kuZ9 => ktr_units); clear lF' lN'; intro x9 dx9 nm9 ct9 cs9 T9 h9 tk9 hcs9 F9 N9 lZ1 lZ2 lZ3 lZ4; (try k_lt lZ1); k_lt2 lZ2; k_lt2 lZ3; k_lt2 lZ4; (have W9 := wsIn_of N9); dsimp only [wsObjs, List.cons_append, List.nil_append] at N9; (try dsimp only); (try k_fold))) | (((with_reducible show wpAny _ _ (call (Value.ref 108) [Value.str _ _, Value.str _ _, Value.int _ _]) _ _ _); ((k_here; (rename Fr _ _ _ _ => lF'); (rename News _ _ _ _ => lN'); k_dflt (refine' use_cl (lev_claim _ _ _ _ _ _ _ (by rw [lineS_len]; omega) (by rw [lineS_len]; omega) (by omega)) ?k1Z9 lF' ?k3Z9 lN' ?k5Z9 ?kKZ9 ?kdZ9 ?kuZ9 ?kHZ9 ?_); (case k1Z9 => k_asm); (case k3Z9 => k_asm); (case k5Z9 => k_asm); (case kKZ9 => first | exact rfl | assumption); (case kdZ9 => ktr_room); (case kuZ9 => ktr_units); (case kHZ9 => trivial); clear lF' lN')); intro v9 h9 tk9 F9 N9 st9 o9; obtain ⟨t9, e9⟩ := o9; subst e9; (try dsimp only); (try k_fold))) | (((with_reducible show wpAny _ _ (call (Value.ref 122) [Value.str _ _, Value.str _ _]) _ _ _); ((k_here; (rename Fr _ _ _ _ => lF'); (rename News _ _ _ _ => lN'); k_dflt (refine' use_cl (slips_claim _ _ _ _ _ (by rw [lineS_len]; omega) (by rw [lineS_len]; omega) (by rw [lineS_len]; omega) (lineS_nodot _ _)) ?k1Z9 lF' ?k3Z9 lN' ?k5Z9 ?kKZ9 ?kdZ9 ?kuZ9 ?kHZ9 ?_); (case k1Z9 => k_asm); (case k3Z9 => k_asm); (case k5Z9 => k_asm); (case kKZ9 => first | exact rfl | assumption); (case kdZ9 => ktr_room); (case kuZ9 => ktr_units); (case kHZ9 => trivial); clear lF' lN')); intro v9 h9 tk9 F9 N9 st9 o9; obtain ⟨t9, e9⟩ := o9; subst e9; (try dsimp only); (try k_fold))) | (((with_reducible show wpAny _ _ (call (Value.ref 115) [Value.int _ _, Value.int _ _]) _ _ _); ((k_here; (rename Fr _ _ _ _ => lF'); (rename News _ _ _ _ => lN'); k_dflt (refine' use_cl (line_claim _ _ _ _ _ (by omega) (by omega)) ?k1Z9 lF' ?k3Z9 lN' ?k5Z9 ?kKZ9 ?kdZ9 ?kuZ9 ?kHZ9 ?_); (case k1Z9 => k_asm); (case k3Z9 => k_asm); (case k5Z9 => k_asm); (case kKZ9 => first | exact rfl | assumption); (case kdZ9 => ktr_room); (case kuZ9 => ktr_units); (case kHZ9 => trivial); clear lF' lN')); intro v9 h9 tk9 F9 N9 st9 o9; obtain ⟨t9, e9⟩ := o9; subst e9; (try dsimp only); (try k_fold))) | (((with_reducible show wpAny _ _ (call (Value.builtin _) [Value.int _ _, Value.int _ _, Value.int _ _]) _ _ _); k_here; (rename Fr _ _ _ _ => lF'); (rename News _ _ _ _ => lN'); (with_unfolding_all refine' max_threeD ?hhZ9 lF' lN' ?heZ9 ?_; (case hhZ9 => with_unfolding_all rfl); (case heZ9 => assumption); k_whole); clear lF' lN'; intro t9 h9 tk9 F9 N9; (try dsimp only); (try k_fold))) | ((k_here; (with_reducible show wpAny _ _ (subscriptTail _ (Expr.Slice none (some _) none _) _ _) _ _ _); (with_reducible rename Fr _ _ _ _ => F'); (with_reducible rename News _ _ _ _ => N'); (refine slice_none (s := ⟨_, _, _, _, _⟩) F' N' ?_ (hsz := ?hszZ9)); (case hszZ9 => (rw [sizeLine_eq]; omega)); intro _ _ _ _ _)) | ((k_here; k_openite; first | (refine ite_pos ?hxZ9 ?_; (case hxZ9 => first | with_reducible assumption | (simp only [decide_eq_true_eq, decide_eq_false_iff_not, Bool.not_eq_true', Bool.not_eq_false', bne_iff_ne, ne_eq]; omega))) | (refine ite_neg ?hxZ9 ?_; (case hxZ9 => first | with_reducible assumption | (simp only [decide_eq_true_eq, decide_eq_false_iff_not, Bool.not_eq_true', Bool.not_eq_false', bne_iff_ne, ne_eq, Bool.not_eq_true, Decidable.not_not]; omega))) | (refine ite_b (fun hc => ?_) (fun hc => ?_) <;> (try simp only [decide_eq_true_eq, decide_eq_false_iff_not, Bool.not_eq_true', Bool.not_eq_false', bne_iff_ne, ne_eq, bne_eq_false_iff_eq, Decidable.not_not, Int.not_lt, Int.not_le] at hc)))) | (fail_if_success (with_reducible show wpAny _ _ (exec (Stmt.While _ _ _ _) _) _ _ _)); (fail_if_success (with_reducible show wpAny _ _ (exec (Stmt.For _ _ _ _ _) _) _ _ _)); (fail_if_success (with_reducible show wpAny _ _ (pyIter _) _ _ _)); (fail_if_success (with_reducible show InvEndN _ _ _ _ _ _ _)); (fail_if_success (with_reducible show GEnd _ _ _ _ _ _ _)); (fail_if_success (with_reducible show GPost _ _ _ _ _ _ _ _ _)); first | (k_unfold; (try dsimp only)) | walk1 | (dsimp only; walk1) | (leave1; try dsimp only) | fail "no step"))
      dsimp only [GPost]
      refine' near_hitE (l := l1) hN9 F' rfl o1 o2 hne2 ?hoff htu2 ?hJ ?hm
      case hoff => exact fun p hp => hoff2 p (List.mem_cons_of_mem _ (List.mem_append_right _ hp))
      case hJ =>
        rw [← e1, rangeKs_succ, List.foldl_append, hl2, hje]
        rfl
      case hm => exact (fun z hz => by
        have hz' := hz
        simp only [List.contains_cons, Bool.or_eq_false_iff, beq_eq_false_iff_ne, ne_eq] at hz'
        simp only [hz, hz'.1, hz'.2.1, hz'.2.2.1, if_false, Bool.false_eq_true])
  ·
    (rename 2 < slipsF _ _ => hc9)
    rw [hsl] at hc9
    dsimp only [GPost]
    refine' gend_ ?ge ?gF ?gN ?gI ((nA, W.listOf (ds2.map fun p => Value.ref p.1).toArray c2) :: ([(I, it)] ++ ds2)) ?gs hoff2 ?gJ
    case ge => exact rfl
    case gF => assumption
    case gN => assumption
    case gI => simp only [List.mem_cons, true_or, or_true]
    case gs => (intro p hp; simp only [List.mem_cons, List.mem_append, List.cons_append, List.nil_append, List.not_mem_nil, or_false, false_or] at hp ⊢; rcases hp with hp | hp | hp <;> simp only [hp, true_or, or_true])
    case gJ =>
      rw [rangeKs_succ, List.foldl_append, hl2, hje]
      have e1 := nearStep_far (tabs := tabs) (blanks := blanks) (rest := rest) (size := size) (i := iv) (j := jv) (l := l1) hdn hc9
      simp only [List.foldl_cons, List.foldl_nil]
      rw [e1]
      exact nrJ_intro (ds := ds2) hne2 htu2 (fun z hz => by
        have hz' := hz
        simp only [List.contains_cons, Bool.or_eq_false_iff, beq_eq_false_iff_ne, ne_eq] at hz'
        simp only [hz, hz'.1, hz'.2.1, hz'.2.2.1, if_false, Bool.false_eq_true])
  ·
    (rename ((_ : Int) == rest) = false => hc9)
    dsimp only [GPost]
    refine' gend_ ?ge ?gF ?gN ?gI ((nA, W.listOf (ds2.map fun p => Value.ref p.1).toArray c2) :: ([(I, it)] ++ ds2)) ?gs hoff2 ?gJ
    case ge => exact rfl
    case gF => assumption
    case gN => assumption
    case gI => simp only [List.mem_cons, true_or, or_true]
    case gs => (intro p hp; simp only [List.mem_cons, List.mem_append, List.cons_append, List.nil_append, List.not_mem_nil, or_false, false_or] at hp ⊢; rcases hp with hp | hp | hp <;> simp only [hp, true_or, or_true])
    case gJ =>
      rw [rangeKs_succ, List.foldl_append, hl2, hje]
      have e1 := nearStep_miss (tabs := tabs) (blanks := blanks) (rest := rest) (size := size) (i := iv) (j := jv) (l := l1) hi3.1 hj3.1 hc9
      simp only [List.foldl_cons, List.foldl_nil]
      rw [e1]
      exact nrJ_intro (ds := ds2) hne2 htu2 (fun z hz => by
        have hz' := hz
        simp only [List.contains_cons, Bool.or_eq_false_iff, beq_eq_false_iff_ne, ne_eq] at hz'
        simp only [hz, hz'.1, hz'.2.1, hz'.2.2.1, if_false, Bool.false_eq_true])

-- law_pure
theorem missF_le (tabs blanks rest size : Int) : -9 ≤ missF tabs blanks rest size ∧ missF tabs blanks rest size ≤ 9 := by
  unfold missF
  have h1 := Int.fmod_nonneg_of_pos (rest - (blanks + size * tabs) + 9) (show (0 : Int) < 19 by decide)
  have h2 := Int.fmod_lt_of_pos (rest - (blanks + size * tabs) + 9) (show (0 : Int) < 19 by decide)
  omega
theorem tups_one {ds : List (Addr × Obj)} {x y : Int} (h : TupsAre ds [(x, y)]) : ∃ D tx ty, ds = [(D, wsTup [.int x tx, .int y ty])] := by
  match ds, h with
  | [d], h => obtain ⟨⟨tx, ty, e⟩, _⟩ := h; exact ⟨d.1, tx, ty, by rw [← e]⟩
  | _ :: _ :: _, h => exact h.2.elim
theorem news_add2 {h₀ h h' : Heap} {L D : Addr} {a : Addr × Obj} {m : PySem.Str → Option Value} {news : List (Addr × Obj)} (F : Fr h₀ L h m) (N : News h₀ L h news) (st : h.StaysIn h') {o : Obj} (ho : ∀ p ∈ [a, (D, o)], h.get? p.1 = none ∧ h'.get? p.1 = some p.2) : News h₀ L h' (a :: (D, o) :: news) := by
  have h1 := ho a (List.mem_cons_self ..)
  have h2 := ho (D, o) (List.mem_cons_of_mem _ (List.mem_cons_self ..))
  have k2 := news_add F N st h2.1 h2.2
  have k1 := news_add F N st h1.1 h1.2
  intro p hp
  rcases List.mem_cons.mp hp with rfl | hp
  · exact k1 _ (List.mem_cons_self ..)
  · exact k2 _ hp
theorem fmod4 (x : Int) : 0 ≤ x.fmod 4 ∧ x.fmod 4 ≤ 3 := by
  have h1 := Int.fmod_nonneg_of_pos x (show (0 : Int) < 4 by decide)
  have h2 := Int.fmod_lt_of_pos x (show (0 : Int) < 4 by decide)
  omega
theorem fmod19 (x : Int) : 0 ≤ x.fmod 19 ∧ x.fmod 19 < 19 := ⟨Int.fmod_nonneg_of_pos x (by decide), Int.fmod_lt_of_pos x (by decide)⟩
theorem fmod_nat (n : Nat) : ((n : Nat) : Int).fmod 4 = ((n % 4 : Nat) : Int) := by rw [Int.fmod_eq_emod_of_nonneg _ (by decide)]; omega
theorem size_0 {n : Nat} {T : Tok} (h : ((n : Nat) : Int).fmod 4 = 0) : ∃ t, Value.int 8 T = Value.int (sizeOf n) t := ⟨T, by rw [fmod_nat] at h; unfold sizeOf; rw [if_pos (by omega)]⟩
theorem size_1 {n : Nat} {T : Tok} (h : ((n : Nat) : Int).fmod 4 = 1) : ∃ t, Value.int 12 T = Value.int (sizeOf n) t := ⟨T, by rw [fmod_nat] at h; unfold sizeOf; rw [if_neg (by omega), if_pos (by omega)]⟩
theorem size_2 {n : Nat} {T : Tok} (h : ((n : Nat) : Int).fmod 4 = 2) : ∃ t, Value.int 27 T = Value.int (sizeOf n) t := ⟨T, by rw [fmod_nat] at h; unfold sizeOf; rw [if_neg (by omega), if_neg (by omega), if_pos (by omega)]⟩
theorem size_3 {n : Nat} {T : Tok} (h : ((n : Nat) : Int).fmod 4 = 3) : ∃ t, Value.int 31 T = Value.int (sizeOf n) t := ⟨T, by rw [fmod_nat] at h; unfold sizeOf; rw [if_neg (by omega), if_neg (by omega), if_neg (by omega)]⟩

-- law_calls

-- law_mac

-- law_body
theorem law_t : PySem.Challenge.rw_pg0263_01.Holds := by
  refine hd ?_
  k_go0
  all_goals (try k_fold)
  (try dsimp only)
  rename List Int => ns
  (rename Fr _ _ _ _ => F1; k_dflt (refine' execs_store (PySem.Str.ofString "size") (fun v => ∃ t, v = .int (sizeOf ns.length) t) F1 .nil ?_ ?_))
  · (try k_fold)
    (repeat' (first | ((k_here; (with_reducible show wpAny _ _ (subscriptTail _ (PySem.Expr.Slice (some _) none none _) (Value.ref _) (Value.ref _)) _ _ _); k_dflt (refine kba_turn (value' := PySem.Expr.Name (PySem.Str.ofString "_") ⟨0, 0, 0, 0⟩) (fun _ => rfl) ?_); k_dflt (refine' kmk_slice_ints ?FZ9 ?NZ9 ?lZ9 ?pZ9 ?qZ9 ?iZ9 ?mZ9 ?cZ9 ?_ ?sZ9 ?tZ9 ?zZ9; (case FZ9 => k_asm); (case NZ9 => k_asm); (case lZ9 => kmk_list); (case pZ9 => kmk_part); (case qZ9 => kmk_part); (case iZ9 => exact IntsAre.cons _ _ IntsAre.nil); (case mZ9 => exact kmk_from (IntsAre.cons _ _ IntsAre.nil) (Int.natCast_nonneg _)); (case cZ9 => exact rfl); (case sZ9 => with_unfolding_all rfl); (case tZ9 => kmk_pure); (case zZ9 => exact Nat.le_of_ble_eq_true rfl)); intro D' ws' h' F' N' l1 hI' hC' hL'; (simp only [Int.toNat_natCast] at hI'); clear hC' hL'; (try k_lt l1); (try k_sweep))) | (((with_reducible show wpAny _ _ (call (Value.ref 136) _) _ _ _); k_here; k_dflt ((rename Fr _ _ _ _ => lF'); (rename News _ _ _ _ => lN'); k_dflt (refine' use_cl (near_claim _ _ _ _ _ _ _ _ _ _ (by assumption) (by assumption) (by omega)) ?k1Z9 lF' ?k3Z9 lN' ?k5Z9 ?kKZ9 ?kdZ9 ?kuZ9 ?kHZ9 ?_); (case k1Z9 => k_asm); (case k3Z9 => k_asm); (case k5Z9 => k_asm); (case kKZ9 => first | exact rfl | assumption); (case kdZ9 => ktr_room); (case kuZ9 => ktr_units); (case kHZ9 => trivial); intro v9 h9 tk9 F9 N9 st9 o9; (rename nearF _ _ _ _ = _ => hnr9); rw [hnr9] at o9; obtain ⟨nA9, c9, ds9, e9, htu9, hal9⟩ := o9; obtain ⟨D9, tx9, ty9, e8⟩ := tups_one htu9; subst e9 e8; (have N8 := news_add2 lF' lN' st9 hal9); clear lF' lN' N9; (try dsimp only [List.map_cons, List.map_nil] at N8); (try dsimp only); (try k_fold)))) | (((with_reducible show wpAny _ _ (call (Value.ref 129) [Value.int _ _, Value.int _ _]) _ _ _); k_here; k_dflt ((rename Fr _ _ _ _ => lF'); (rename News _ _ _ _ => lN'); k_dflt (refine' use_cl (mend_claim _ _ _ _ _ (by assumption) (by omega)) ?k1Z9 lF' ?k3Z9 lN' ?k5Z9 ?kKZ9 ?kdZ9 ?kuZ9 ?kHZ9 ?_); (case k1Z9 => k_asm); (case k3Z9 => k_asm); (case k5Z9 => k_asm); (case kKZ9 => first | exact rfl | assumption); (case kdZ9 => ktr_room); (case kuZ9 => ktr_units); (case kHZ9 => trivial); intro v9 h9 tk9 F9 N9 st9 o9; obtain ⟨D9, tx9, ty9, e9, hn9, hg9⟩ := o9; subst e9; (have N8 := news_add lF' lN' st9 hn9 hg9); clear lF' lN' N9; (try dsimp only); (try k_fold)))) | (((with_reducible show wpAny _ _ (call (Value.ref 52) _) _ _ _); k_here; k_dflt ((rename Fr _ _ _ _ => lF'); (rename News _ _ _ _ => lN'); (rename WsIn _ _ => lW'); k_dflt (refine' indent_claim _ _ _ _ _ _ _ _ _ _ _ _ ?kcZ9 ?kpZ9 ?kqZ9 ?ksZ9 _ _ _ _ _ _ _ _ _ _ _ _ _ _ _ _ _ _ _ _ ?k1Z9 lF' ?k3Z9 (wsIn_news lN' lW') ?k5Z9 ?kKZ9 ?kdZ9 ?kuZ9 ?_); (case kcZ9 => assumption); (case kpZ9 => omega); (case kqZ9 => omega); (case ksZ9 => omega); (case k1Z9 => k_asm); (case k3Z9 => k_asm); (case k5Z9 => k_asm); (case kKZ9 => first | exact rfl | assumption); (case kdZ9 => ktr_room); (case kuZ9 => ktr_units); intro t9 h9 tk9 st9; (have F9 := fr_stays lF' st9); (have N9 := news_stays lN' st9); clear lF' lN' lW'; (try dsimp only); (try k_fold)))) | (((with_reducible show wpAny _ _ (call (Value.ref 83) [Value.str _ _]) _ _ _); k_here; (rename Fr _ _ _ _ => lF'); (rename News _ _ _ _ => lN'); k_dflt (refine' ws_claim _ _ _ _ _ _ (lineS_list _ _) (.inr rfl) ?kpZ9 ?kqZ9 _ _ _ _ _ _ _ _ _ _ _ _ _ _ _ _ _ _ _ _ _ ?k1Z9 lF' ?k3Z9 lN' ?k5Z9 ?kKZ9 ?kdZ9 ?kuZ9 ?_); (case kpZ9 => omega); (case kqZ9 => omega); (case k1Z9 => k_asm); (case k3Z9 => k_asm); (case k5Z9 => k_asm); (case kKZ9 => first | exact rfl | assumption); (case kdZ9 => ktr_room); (case kuZ9 => ktr_units); clear lF' lN'; intro x9 dx9 nm9 ct9 cs9 T9 h9 tk9 hcs9 F9 N9 lZ1 lZ2 lZ3 lZ4; (try k_lt lZ1); k_lt2 lZ2; k_lt2 lZ3; k_lt2 lZ4; (have W9 := wsIn_of N9); dsimp only [wsObjs, List.cons_append, List.nil_append] at N9; (try dsimp only); (try k_fold))) | (((with_reducible show wpAny _ _ (call (Value.ref 108) [Value.str _ _, Value.str _ _, Value.int _ _]) _ _ _); ((k_here; (rename Fr _ _ _ _ => lF'); (rename News _ _ _ _ => lN'); k_dflt (refine' use_cl (lev_claim _ _ _ _ _ _ _ (by rw [lineS_len]; omega) (by rw [lineS_len]; omega) (by omega)) ?k1Z9 lF' ?k3Z9 lN' ?k5Z9 ?kKZ9 ?kdZ9 ?kuZ9 ?kHZ9 ?_); (case k1Z9 => k_asm); (case k3Z9 => k_asm); (case k5Z9 => k_asm); (case kKZ9 => first | exact rfl | assumption); (case kdZ9 => ktr_room); (case kuZ9 => ktr_units); (case kHZ9 => trivial); clear lF' lN')); intro v9 h9 tk9 F9 N9 st9 o9; obtain ⟨t9, e9⟩ := o9; subst e9; (try dsimp only); (try k_fold))) | (((with_reducible show wpAny _ _ (call (Value.ref 122) [Value.str _ _, Value.str _ _]) _ _ _); ((k_here; (rename Fr _ _ _ _ => lF'); (rename News _ _ _ _ => lN'); k_dflt (refine' use_cl (slips_claim _ _ _ _ _ (by rw [lineS_len]; omega) (by rw [lineS_len]; omega) (by rw [lineS_len]; omega) (lineS_nodot _ _)) ?k1Z9 lF' ?k3Z9 lN' ?k5Z9 ?kKZ9 ?kdZ9 ?kuZ9 ?kHZ9 ?_); (case k1Z9 => k_asm); (case k3Z9 => k_asm); (case k5Z9 => k_asm); (case kKZ9 => first | exact rfl | assumption); (case kdZ9 => ktr_room); (case kuZ9 => ktr_units); (case kHZ9 => trivial); clear lF' lN')); intro v9 h9 tk9 F9 N9 st9 o9; obtain ⟨t9, e9⟩ := o9; subst e9; (try dsimp only); (try k_fold))) | (((with_reducible show wpAny _ _ (call (Value.ref 115) [Value.int _ _, Value.int _ _]) _ _ _); ((k_here; (rename Fr _ _ _ _ => lF'); (rename News _ _ _ _ => lN'); k_dflt (refine' use_cl (line_claim _ _ _ _ _ (by omega) (by omega)) ?k1Z9 lF' ?k3Z9 lN' ?k5Z9 ?kKZ9 ?kdZ9 ?kuZ9 ?kHZ9 ?_); (case k1Z9 => k_asm); (case k3Z9 => k_asm); (case k5Z9 => k_asm); (case kKZ9 => first | exact rfl | assumption); (case kdZ9 => ktr_room); (case kuZ9 => ktr_units); (case kHZ9 => trivial); clear lF' lN')); intro v9 h9 tk9 F9 N9 st9 o9; obtain ⟨t9, e9⟩ := o9; subst e9; (try dsimp only); (try k_fold))) | ((k_here; (with_reducible show wpAny _ _ (subscriptTail _ (Expr.Slice none (some _) none _) _ _) _ _ _); (with_reducible rename Fr _ _ _ _ => F'); (with_reducible rename News _ _ _ _ => N'); (refine slice_none (s := ⟨_, _, _, _, _⟩) F' N' ?_ (hsz := ?hszZ9)); (case hszZ9 => (rw [sizeLine_eq]; omega)); intro _ _ _ _ _)) | ((k_here; k_openite; first | (refine ite_pos ?hxZ9 ?_; (case hxZ9 => first | with_reducible assumption | (simp only [decide_eq_true_eq, decide_eq_false_iff_not, Bool.not_eq_true', Bool.not_eq_false', bne_iff_ne, ne_eq]; omega))) | (refine ite_neg ?hxZ9 ?_; (case hxZ9 => first | with_reducible assumption | (simp only [decide_eq_true_eq, decide_eq_false_iff_not, Bool.not_eq_true', Bool.not_eq_false', bne_iff_ne, ne_eq, Bool.not_eq_true, Decidable.not_not]; omega))) | (refine ite_b (fun hc => ?_) (fun hc => ?_) <;> (try simp only [decide_eq_true_eq, decide_eq_false_iff_not, Bool.not_eq_true', Bool.not_eq_false', bne_iff_ne, ne_eq, bne_eq_false_iff_eq, Decidable.not_not, Int.not_lt, Int.not_le] at hc)))) | (fail_if_success (with_reducible show wpAny _ _ (exec (Stmt.While _ _ _ _) _) _ _ _)); (fail_if_success (with_reducible show wpAny _ _ (exec (Stmt.For _ _ _ _ _) _) _ _ _)); (fail_if_success (with_reducible show wpAny _ _ (pyIter _) _ _ _)); (fail_if_success (with_reducible show InvEndN _ _ _ _ _ _ _)); (fail_if_success (with_reducible show GEnd _ _ _ _ _ _ _)); (fail_if_success (with_reducible show GPost _ _ _ _ _ _ _ _ _)); first | (k_unfold; (try dsimp only)) | walk1 | (dsimp only; walk1) | (leave1; try dsimp only) | fail "no step"))
    all_goals (((refine' mstore_ ?keZ9 ?kFZ9 ?kNZ9 ?knZ9 ?kyZ9 ?kmZ9 ?_; (case keZ9 => exact rfl); (case kFZ9 => assumption); (case kNZ9 => assumption); (case knZ9 => first | (intro p hp; cases hp; done) | exact fun p hp => hp); (case kyZ9 => exact rfl); (case kmZ9 => (intro z hz; first | (simp only [hz, if_false]; done) | (simp [hz]; done))))))
    all_goals first | exact size_0 (by assumption) | exact size_1 (by assumption) | exact size_2 (by assumption) | exact size_3 (by assumption)
  clear F1
  rintro _ h tk ⟨t4, rfl⟩ F2 N2
  generalize hsz : sizeOf ns.length = size at F2
  have hsz2 : 8 ≤ size ∧ size ≤ 31 := hsz ▸ sizeOf_le _
  (try k_fold)
  (repeat' (first | ((k_here; (with_reducible show wpAny _ _ (subscriptTail _ (PySem.Expr.Slice (some _) none none _) (Value.ref _) (Value.ref _)) _ _ _); k_dflt (refine kba_turn (value' := PySem.Expr.Name (PySem.Str.ofString "_") ⟨0, 0, 0, 0⟩) (fun _ => rfl) ?_); k_dflt (refine' kmk_slice_ints ?FZ9 ?NZ9 ?lZ9 ?pZ9 ?qZ9 ?iZ9 ?mZ9 ?cZ9 ?_ ?sZ9 ?tZ9 ?zZ9; (case FZ9 => k_asm); (case NZ9 => k_asm); (case lZ9 => kmk_list); (case pZ9 => kmk_part); (case qZ9 => kmk_part); (case iZ9 => exact IntsAre.cons _ _ IntsAre.nil); (case mZ9 => exact kmk_from (IntsAre.cons _ _ IntsAre.nil) (Int.natCast_nonneg _)); (case cZ9 => exact rfl); (case sZ9 => with_unfolding_all rfl); (case tZ9 => kmk_pure); (case zZ9 => exact Nat.le_of_ble_eq_true rfl)); intro D' ws' h' F' N' l1 hI' hC' hL'; (simp only [Int.toNat_natCast] at hI'); clear hC' hL'; (try k_lt l1); (try k_sweep))) | (((with_reducible show wpAny _ _ (call (Value.ref 136) _) _ _ _); k_here; k_dflt ((rename Fr _ _ _ _ => lF'); (rename News _ _ _ _ => lN'); k_dflt (refine' use_cl (near_claim _ _ _ _ _ _ _ _ _ _ (by assumption) (by assumption) (by omega)) ?k1Z9 lF' ?k3Z9 lN' ?k5Z9 ?kKZ9 ?kdZ9 ?kuZ9 ?kHZ9 ?_); (case k1Z9 => k_asm); (case k3Z9 => k_asm); (case k5Z9 => k_asm); (case kKZ9 => first | exact rfl | assumption); (case kdZ9 => ktr_room); (case kuZ9 => ktr_units); (case kHZ9 => trivial); intro v9 h9 tk9 F9 N9 st9 o9; (rename nearF _ _ _ _ = _ => hnr9); rw [hnr9] at o9; obtain ⟨nA9, c9, ds9, e9, htu9, hal9⟩ := o9; obtain ⟨D9, tx9, ty9, e8⟩ := tups_one htu9; subst e9 e8; (have N8 := news_add2 lF' lN' st9 hal9); clear lF' lN' N9; (try dsimp only [List.map_cons, List.map_nil] at N8); (try dsimp only); (try k_fold)))) | (((with_reducible show wpAny _ _ (call (Value.ref 129) [Value.int _ _, Value.int _ _]) _ _ _); k_here; k_dflt ((rename Fr _ _ _ _ => lF'); (rename News _ _ _ _ => lN'); k_dflt (refine' use_cl (mend_claim _ _ _ _ _ (by assumption) (by omega)) ?k1Z9 lF' ?k3Z9 lN' ?k5Z9 ?kKZ9 ?kdZ9 ?kuZ9 ?kHZ9 ?_); (case k1Z9 => k_asm); (case k3Z9 => k_asm); (case k5Z9 => k_asm); (case kKZ9 => first | exact rfl | assumption); (case kdZ9 => ktr_room); (case kuZ9 => ktr_units); (case kHZ9 => trivial); intro v9 h9 tk9 F9 N9 st9 o9; obtain ⟨D9, tx9, ty9, e9, hn9, hg9⟩ := o9; subst e9; (have N8 := news_add lF' lN' st9 hn9 hg9); clear lF' lN' N9; (try dsimp only); (try k_fold)))) | (((with_reducible show wpAny _ _ (call (Value.ref 52) _) _ _ _); k_here; k_dflt ((rename Fr _ _ _ _ => lF'); (rename News _ _ _ _ => lN'); (rename WsIn _ _ => lW'); k_dflt (refine' indent_claim _ _ _ _ _ _ _ _ _ _ _ _ ?kcZ9 ?kpZ9 ?kqZ9 ?ksZ9 _ _ _ _ _ _ _ _ _ _ _ _ _ _ _ _ _ _ _ _ ?k1Z9 lF' ?k3Z9 (wsIn_news lN' lW') ?k5Z9 ?kKZ9 ?kdZ9 ?kuZ9 ?_); (case kcZ9 => assumption); (case kpZ9 => omega); (case kqZ9 => omega); (case ksZ9 => omega); (case k1Z9 => k_asm); (case k3Z9 => k_asm); (case k5Z9 => k_asm); (case kKZ9 => first | exact rfl | assumption); (case kdZ9 => ktr_room); (case kuZ9 => ktr_units); intro t9 h9 tk9 st9; (have F9 := fr_stays lF' st9); (have N9 := news_stays lN' st9); clear lF' lN' lW'; (try dsimp only); (try k_fold)))) | (((with_reducible show wpAny _ _ (call (Value.ref 83) [Value.str _ _]) _ _ _); k_here; (rename Fr _ _ _ _ => lF'); (rename News _ _ _ _ => lN'); k_dflt (refine' ws_claim _ _ _ _ _ _ (lineS_list _ _) (.inr rfl) ?kpZ9 ?kqZ9 _ _ _ _ _ _ _ _ _ _ _ _ _ _ _ _ _ _ _ _ _ ?k1Z9 lF' ?k3Z9 lN' ?k5Z9 ?kKZ9 ?kdZ9 ?kuZ9 ?_); (case kpZ9 => omega); (case kqZ9 => omega); (case k1Z9 => k_asm); (case k3Z9 => k_asm); (case k5Z9 => k_asm); (case kKZ9 => first | exact rfl | assumption); (case kdZ9 => ktr_room); (case kuZ9 => ktr_units); clear lF' lN'; intro x9 dx9 nm9 ct9 cs9 T9 h9 tk9 hcs9 F9 N9 lZ1 lZ2 lZ3 lZ4; (try k_lt lZ1); k_lt2 lZ2; k_lt2 lZ3; k_lt2 lZ4; (have W9 := wsIn_of N9); dsimp only [wsObjs, List.cons_append, List.nil_append] at N9; (try dsimp only); (try k_fold))) | (((with_reducible show wpAny _ _ (call (Value.ref 108) [Value.str _ _, Value.str _ _, Value.int _ _]) _ _ _); ((k_here; (rename Fr _ _ _ _ => lF'); (rename News _ _ _ _ => lN'); k_dflt (refine' use_cl (lev_claim _ _ _ _ _ _ _ (by rw [lineS_len]; omega) (by rw [lineS_len]; omega) (by omega)) ?k1Z9 lF' ?k3Z9 lN' ?k5Z9 ?kKZ9 ?kdZ9 ?kuZ9 ?kHZ9 ?_); (case k1Z9 => k_asm); (case k3Z9 => k_asm); (case k5Z9 => k_asm); (case kKZ9 => first | exact rfl | assumption); (case kdZ9 => ktr_room); (case kuZ9 => ktr_units); (case kHZ9 => trivial); clear lF' lN')); intro v9 h9 tk9 F9 N9 st9 o9; obtain ⟨t9, e9⟩ := o9; subst e9; (try dsimp only); (try k_fold))) | (((with_reducible show wpAny _ _ (call (Value.ref 122) [Value.str _ _, Value.str _ _]) _ _ _); ((k_here; (rename Fr _ _ _ _ => lF'); (rename News _ _ _ _ => lN'); k_dflt (refine' use_cl (slips_claim _ _ _ _ _ (by rw [lineS_len]; omega) (by rw [lineS_len]; omega) (by rw [lineS_len]; omega) (lineS_nodot _ _)) ?k1Z9 lF' ?k3Z9 lN' ?k5Z9 ?kKZ9 ?kdZ9 ?kuZ9 ?kHZ9 ?_); (case k1Z9 => k_asm); (case k3Z9 => k_asm); (case k5Z9 => k_asm); (case kKZ9 => first | exact rfl | assumption); (case kdZ9 => ktr_room); (case kuZ9 => ktr_units); (case kHZ9 => trivial); clear lF' lN')); intro v9 h9 tk9 F9 N9 st9 o9; obtain ⟨t9, e9⟩ := o9; subst e9; (try dsimp only); (try k_fold))) | (((with_reducible show wpAny _ _ (call (Value.ref 115) [Value.int _ _, Value.int _ _]) _ _ _); ((k_here; (rename Fr _ _ _ _ => lF'); (rename News _ _ _ _ => lN'); k_dflt (refine' use_cl (line_claim _ _ _ _ _ (by omega) (by omega)) ?k1Z9 lF' ?k3Z9 lN' ?k5Z9 ?kKZ9 ?kdZ9 ?kuZ9 ?kHZ9 ?_); (case k1Z9 => k_asm); (case k3Z9 => k_asm); (case k5Z9 => k_asm); (case kKZ9 => first | exact rfl | assumption); (case kdZ9 => ktr_room); (case kuZ9 => ktr_units); (case kHZ9 => trivial); clear lF' lN')); intro v9 h9 tk9 F9 N9 st9 o9; obtain ⟨t9, e9⟩ := o9; subst e9; (try dsimp only); (try k_fold))) | ((k_here; (with_reducible show wpAny _ _ (subscriptTail _ (Expr.Slice none (some _) none _) _ _) _ _ _); (with_reducible rename Fr _ _ _ _ => F'); (with_reducible rename News _ _ _ _ => N'); (refine slice_none (s := ⟨_, _, _, _, _⟩) F' N' ?_ (hsz := ?hszZ9)); (case hszZ9 => (rw [sizeLine_eq]; omega)); intro _ _ _ _ _)) | ((k_here; k_openite; first | (refine ite_pos ?hxZ9 ?_; (case hxZ9 => first | with_reducible assumption | (simp only [decide_eq_true_eq, decide_eq_false_iff_not, Bool.not_eq_true', Bool.not_eq_false', bne_iff_ne, ne_eq]; omega))) | (refine ite_neg ?hxZ9 ?_; (case hxZ9 => first | with_reducible assumption | (simp only [decide_eq_true_eq, decide_eq_false_iff_not, Bool.not_eq_true', Bool.not_eq_false', bne_iff_ne, ne_eq, Bool.not_eq_true, Decidable.not_not]; omega))) | (refine ite_b (fun hc => ?_) (fun hc => ?_) <;> (try simp only [decide_eq_true_eq, decide_eq_false_iff_not, Bool.not_eq_true', Bool.not_eq_false', bne_iff_ne, ne_eq, bne_eq_false_iff_eq, Decidable.not_not, Int.not_lt, Int.not_le] at hc)))) | (fail_if_success (with_reducible show wpAny _ _ (exec (Stmt.While _ _ _ _) _) _ _ _)); (fail_if_success (with_reducible show wpAny _ _ (exec (Stmt.For _ _ _ _ _) _) _ _ _)); (fail_if_success (with_reducible show wpAny _ _ (pyIter _) _ _ _)); (fail_if_success (with_reducible show InvEndN _ _ _ _ _ _ _)); (fail_if_success (with_reducible show GEnd _ _ _ _ _ _ _)); (fail_if_success (with_reducible show GPost _ _ _ _ _ _ _ _ _)); first | (k_unfold; (try dsimp only)) | walk1 | (dsimp only; walk1) | (leave1; try dsimp only) | fail "no step"))
  (with_unfolding_all refine' For_invVF ?kZ ?k1 ?k2 ?_); (case kZ => k_dflt assumption); (with_unfolding_all ((case k1 => exact rfl); (case k2 => exact rfl); k_whole))
  (repeat' (first | ((k_here; (with_reducible show wpAny _ _ (subscriptTail _ (PySem.Expr.Slice (some _) none none _) (Value.ref _) (Value.ref _)) _ _ _); k_dflt (refine kba_turn (value' := PySem.Expr.Name (PySem.Str.ofString "_") ⟨0, 0, 0, 0⟩) (fun _ => rfl) ?_); k_dflt (refine' kmk_slice_ints ?FZ9 ?NZ9 ?lZ9 ?pZ9 ?qZ9 ?iZ9 ?mZ9 ?cZ9 ?_ ?sZ9 ?tZ9 ?zZ9; (case FZ9 => k_asm); (case NZ9 => k_asm); (case lZ9 => kmk_list); (case pZ9 => kmk_part); (case qZ9 => kmk_part); (case iZ9 => exact IntsAre.cons _ _ IntsAre.nil); (case mZ9 => exact kmk_from (IntsAre.cons _ _ IntsAre.nil) (Int.natCast_nonneg _)); (case cZ9 => exact rfl); (case sZ9 => with_unfolding_all rfl); (case tZ9 => kmk_pure); (case zZ9 => exact Nat.le_of_ble_eq_true rfl)); intro D' ws' h' F' N' l1 hI' hC' hL'; (simp only [Int.toNat_natCast] at hI'); clear hC' hL'; (try k_lt l1); (try k_sweep))) | (((with_reducible show wpAny _ _ (call (Value.ref 136) _) _ _ _); k_here; k_dflt ((rename Fr _ _ _ _ => lF'); (rename News _ _ _ _ => lN'); k_dflt (refine' use_cl (near_claim _ _ _ _ _ _ _ _ _ _ (by assumption) (by assumption) (by omega)) ?k1Z9 lF' ?k3Z9 lN' ?k5Z9 ?kKZ9 ?kdZ9 ?kuZ9 ?kHZ9 ?_); (case k1Z9 => k_asm); (case k3Z9 => k_asm); (case k5Z9 => k_asm); (case kKZ9 => first | exact rfl | assumption); (case kdZ9 => ktr_room); (case kuZ9 => ktr_units); (case kHZ9 => trivial); intro v9 h9 tk9 F9 N9 st9 o9; (rename nearF _ _ _ _ = _ => hnr9); rw [hnr9] at o9; obtain ⟨nA9, c9, ds9, e9, htu9, hal9⟩ := o9; obtain ⟨D9, tx9, ty9, e8⟩ := tups_one htu9; subst e9 e8; (have N8 := news_add2 lF' lN' st9 hal9); clear lF' lN' N9; (try dsimp only [List.map_cons, List.map_nil] at N8); (try dsimp only); (try k_fold)))) | (((with_reducible show wpAny _ _ (call (Value.ref 129) [Value.int _ _, Value.int _ _]) _ _ _); k_here; k_dflt ((rename Fr _ _ _ _ => lF'); (rename News _ _ _ _ => lN'); k_dflt (refine' use_cl (mend_claim _ _ _ _ _ (by assumption) (by omega)) ?k1Z9 lF' ?k3Z9 lN' ?k5Z9 ?kKZ9 ?kdZ9 ?kuZ9 ?kHZ9 ?_); (case k1Z9 => k_asm); (case k3Z9 => k_asm); (case k5Z9 => k_asm); (case kKZ9 => first | exact rfl | assumption); (case kdZ9 => ktr_room); (case kuZ9 => ktr_units); (case kHZ9 => trivial); intro v9 h9 tk9 F9 N9 st9 o9; obtain ⟨D9, tx9, ty9, e9, hn9, hg9⟩ := o9; subst e9; (have N8 := news_add lF' lN' st9 hn9 hg9); clear lF' lN' N9; (try dsimp only); (try k_fold)))) | (((with_reducible show wpAny _ _ (call (Value.ref 52) _) _ _ _); k_here; k_dflt ((rename Fr _ _ _ _ => lF'); (rename News _ _ _ _ => lN'); (rename WsIn _ _ => lW'); k_dflt (refine' indent_claim _ _ _ _ _ _ _ _ _ _ _ _ ?kcZ9 ?kpZ9 ?kqZ9 ?ksZ9 _ _ _ _ _ _ _ _ _ _ _ _ _ _ _ _ _ _ _ _ ?k1Z9 lF' ?k3Z9 (wsIn_news lN' lW') ?k5Z9 ?kKZ9 ?kdZ9 ?kuZ9 ?_); (case kcZ9 => assumption); (case kpZ9 => omega); (case kqZ9 => omega); (case ksZ9 => omega); (case k1Z9 => k_asm); (case k3Z9 => k_asm); (case k5Z9 => k_asm); (case kKZ9 => first | exact rfl | assumption); (case kdZ9 => ktr_room); (case kuZ9 => ktr_units); intro t9 h9 tk9 st9; (have F9 := fr_stays lF' st9); (have N9 := news_stays lN' st9); clear lF' lN' lW'; (try dsimp only); (try k_fold)))) | (((with_reducible show wpAny _ _ (call (Value.ref 83) [Value.str _ _]) _ _ _); k_here; (rename Fr _ _ _ _ => lF'); (rename News _ _ _ _ => lN'); k_dflt (refine' ws_claim _ _ _ _ _ _ (lineS_list _ _) (.inr rfl) ?kpZ9 ?kqZ9 _ _ _ _ _ _ _ _ _ _ _ _ _ _ _ _ _ _ _ _ _ ?k1Z9 lF' ?k3Z9 lN' ?k5Z9 ?kKZ9 ?kdZ9 ?kuZ9 ?_); (case kpZ9 => omega); (case kqZ9 => omega); (case k1Z9 => k_asm); (case k3Z9 => k_asm); (case k5Z9 => k_asm); (case kKZ9 => first | exact rfl | assumption); (case kdZ9 => ktr_room); (case kuZ9 => ktr_units); clear lF' lN'; intro x9 dx9 nm9 ct9 cs9 T9 h9 tk9 hcs9 F9 N9 lZ1 lZ2 lZ3 lZ4; (try k_lt lZ1); k_lt2 lZ2; k_lt2 lZ3; k_lt2 lZ4; (have W9 := wsIn_of N9); dsimp only [wsObjs, List.cons_append, List.nil_append] at N9; (try dsimp only); (try k_fold))) | (((with_reducible show wpAny _ _ (call (Value.ref 108) [Value.str _ _, Value.str _ _, Value.int _ _]) _ _ _); ((k_here; (rename Fr _ _ _ _ => lF'); (rename News _ _ _ _ => lN'); k_dflt (refine' use_cl (lev_claim _ _ _ _ _ _ _ (by rw [lineS_len]; omega) (by rw [lineS_len]; omega) (by omega)) ?k1Z9 lF' ?k3Z9 lN' ?k5Z9 ?kKZ9 ?kdZ9 ?kuZ9 ?kHZ9 ?_); (case k1Z9 => k_asm); (case k3Z9 => k_asm); (case k5Z9 => k_asm); (case kKZ9 => first | exact rfl | assumption); (case kdZ9 => ktr_room); (case kuZ9 => ktr_units); (case kHZ9 => trivial); clear lF' lN')); intro v9 h9 tk9 F9 N9 st9 o9; obtain ⟨t9, e9⟩ := o9; subst e9; (try dsimp only); (try k_fold))) | (((with_reducible show wpAny _ _ (call (Value.ref 122) [Value.str _ _, Value.str _ _]) _ _ _); ((k_here; (rename Fr _ _ _ _ => lF'); (rename News _ _ _ _ => lN'); k_dflt (refine' use_cl (slips_claim _ _ _ _ _ (by rw [lineS_len]; omega) (by rw [lineS_len]; omega) (by rw [lineS_len]; omega) (lineS_nodot _ _)) ?k1Z9 lF' ?k3Z9 lN' ?k5Z9 ?kKZ9 ?kdZ9 ?kuZ9 ?kHZ9 ?_); (case k1Z9 => k_asm); (case k3Z9 => k_asm); (case k5Z9 => k_asm); (case kKZ9 => first | exact rfl | assumption); (case kdZ9 => ktr_room); (case kuZ9 => ktr_units); (case kHZ9 => trivial); clear lF' lN')); intro v9 h9 tk9 F9 N9 st9 o9; obtain ⟨t9, e9⟩ := o9; subst e9; (try dsimp only); (try k_fold))) | (((with_reducible show wpAny _ _ (call (Value.ref 115) [Value.int _ _, Value.int _ _]) _ _ _); ((k_here; (rename Fr _ _ _ _ => lF'); (rename News _ _ _ _ => lN'); k_dflt (refine' use_cl (line_claim _ _ _ _ _ (by omega) (by omega)) ?k1Z9 lF' ?k3Z9 lN' ?k5Z9 ?kKZ9 ?kdZ9 ?kuZ9 ?kHZ9 ?_); (case k1Z9 => k_asm); (case k3Z9 => k_asm); (case k5Z9 => k_asm); (case kKZ9 => first | exact rfl | assumption); (case kdZ9 => ktr_room); (case kuZ9 => ktr_units); (case kHZ9 => trivial); clear lF' lN')); intro v9 h9 tk9 F9 N9 st9 o9; obtain ⟨t9, e9⟩ := o9; subst e9; (try dsimp only); (try k_fold))) | ((k_here; (with_reducible show wpAny _ _ (subscriptTail _ (Expr.Slice none (some _) none _) _ _) _ _ _); (with_reducible rename Fr _ _ _ _ => F'); (with_reducible rename News _ _ _ _ => N'); (refine slice_none (s := ⟨_, _, _, _, _⟩) F' N' ?_ (hsz := ?hszZ9)); (case hszZ9 => (rw [sizeLine_eq]; omega)); intro _ _ _ _ _)) | ((k_here; k_openite; first | (refine ite_pos ?hxZ9 ?_; (case hxZ9 => first | with_reducible assumption | (simp only [decide_eq_true_eq, decide_eq_false_iff_not, Bool.not_eq_true', Bool.not_eq_false', bne_iff_ne, ne_eq]; omega))) | (refine ite_neg ?hxZ9 ?_; (case hxZ9 => first | with_reducible assumption | (simp only [decide_eq_true_eq, decide_eq_false_iff_not, Bool.not_eq_true', Bool.not_eq_false', bne_iff_ne, ne_eq, Bool.not_eq_true, Decidable.not_not]; omega))) | (refine ite_b (fun hc => ?_) (fun hc => ?_) <;> (try simp only [decide_eq_true_eq, decide_eq_false_iff_not, Bool.not_eq_true', Bool.not_eq_false', bne_iff_ne, ne_eq, bne_eq_false_iff_eq, Decidable.not_not, Int.not_lt, Int.not_le] at hc)))) | (walk_at "subscriptTail List Slice ref ref") | (fail_if_success (with_reducible show wpAny _ _ (exec (Stmt.For _ _ _ _ _) _) _ _ _)); (fail_if_success (with_reducible show wpAny _ _ (pyIter _) _ _ _)); first | (k_unfold; (try dsimp only)) | walk1 | (dsimp only; walk1) | (leave1; try dsimp only) | fail "no step"))
  rename_i D1 ws1 h1 F3 N3 hI1 l1
  (replace N3 := kst_newsOf N3 (l' := [(D1, W.listOf ws1.toArray 0)]) (by simp))
  k_dflt (refine' kst_listL (σ := Unit) (fun _ => [(D1, W.listOf ws1.toArray 0)]) (fun _ => []) (fun _ => True) [PySem.Str.ofString "tabs", PySem.Str.ofString "blanks", PySem.Str.ofString "rest", PySem.Str.ofString "line", PySem.Str.ofString "missed", PySem.Str.ofString "mended"] (fun _ _ => True) () rfl ?hl hI1 F3 N3 trivial ?hk trivial ?kt ?kd)
  case hl => exact fun _ => List.mem_cons_self ..
  case hk => exact fun p hp => by cases hp
  case kd =>
    clear F3 N3
    intro _ u h tk _ _ F4 N4
    dsimp only at F4 N4
    (try k_fold)
    k_steps
  clear F3 N3
  intro _ pre post n t u h tk own _ _ hoff _ _ F4 N4
  dsimp only [kstB] at F4
  (try dsimp only [List.cons_append, List.nil_append] at N4)
  k_dflt (refine' execs_store (PySem.Str.ofString "tabs") (fun v => ∃ x t, v = .int x t ∧ 2 ≤ x ∧ x ≤ 5) F4 N4 ?_ ?_)
  · (try k_fold)
    (repeat' (first | ((k_here; (with_reducible show wpAny _ _ (subscriptTail _ (PySem.Expr.Slice (some _) none none _) (Value.ref _) (Value.ref _)) _ _ _); k_dflt (refine kba_turn (value' := PySem.Expr.Name (PySem.Str.ofString "_") ⟨0, 0, 0, 0⟩) (fun _ => rfl) ?_); k_dflt (refine' kmk_slice_ints ?FZ9 ?NZ9 ?lZ9 ?pZ9 ?qZ9 ?iZ9 ?mZ9 ?cZ9 ?_ ?sZ9 ?tZ9 ?zZ9; (case FZ9 => k_asm); (case NZ9 => k_asm); (case lZ9 => kmk_list); (case pZ9 => kmk_part); (case qZ9 => kmk_part); (case iZ9 => exact IntsAre.cons _ _ IntsAre.nil); (case mZ9 => exact kmk_from (IntsAre.cons _ _ IntsAre.nil) (Int.natCast_nonneg _)); (case cZ9 => exact rfl); (case sZ9 => with_unfolding_all rfl); (case tZ9 => kmk_pure); (case zZ9 => exact Nat.le_of_ble_eq_true rfl)); intro D' ws' h' F' N' l1 hI' hC' hL'; (simp only [Int.toNat_natCast] at hI'); clear hC' hL'; (try k_lt l1); (try k_sweep))) | (((with_reducible show wpAny _ _ (call (Value.ref 136) _) _ _ _); k_here; k_dflt ((rename Fr _ _ _ _ => lF'); (rename News _ _ _ _ => lN'); k_dflt (refine' use_cl (near_claim _ _ _ _ _ _ _ _ _ _ (by assumption) (by assumption) (by omega)) ?k1Z9 lF' ?k3Z9 lN' ?k5Z9 ?kKZ9 ?kdZ9 ?kuZ9 ?kHZ9 ?_); (case k1Z9 => k_asm); (case k3Z9 => k_asm); (case k5Z9 => k_asm); (case kKZ9 => first | exact rfl | assumption); (case kdZ9 => ktr_room); (case kuZ9 => ktr_units); (case kHZ9 => trivial); intro v9 h9 tk9 F9 N9 st9 o9; (rename nearF _ _ _ _ = _ => hnr9); rw [hnr9] at o9; obtain ⟨nA9, c9, ds9, e9, htu9, hal9⟩ := o9; obtain ⟨D9, tx9, ty9, e8⟩ := tups_one htu9; subst e9 e8; (have N8 := news_add2 lF' lN' st9 hal9); clear lF' lN' N9; (try dsimp only [List.map_cons, List.map_nil] at N8); (try dsimp only); (try k_fold)))) | (((with_reducible show wpAny _ _ (call (Value.ref 129) [Value.int _ _, Value.int _ _]) _ _ _); k_here; k_dflt ((rename Fr _ _ _ _ => lF'); (rename News _ _ _ _ => lN'); k_dflt (refine' use_cl (mend_claim _ _ _ _ _ (by assumption) (by omega)) ?k1Z9 lF' ?k3Z9 lN' ?k5Z9 ?kKZ9 ?kdZ9 ?kuZ9 ?kHZ9 ?_); (case k1Z9 => k_asm); (case k3Z9 => k_asm); (case k5Z9 => k_asm); (case kKZ9 => first | exact rfl | assumption); (case kdZ9 => ktr_room); (case kuZ9 => ktr_units); (case kHZ9 => trivial); intro v9 h9 tk9 F9 N9 st9 o9; obtain ⟨D9, tx9, ty9, e9, hn9, hg9⟩ := o9; subst e9; (have N8 := news_add lF' lN' st9 hn9 hg9); clear lF' lN' N9; (try dsimp only); (try k_fold)))) | (((with_reducible show wpAny _ _ (call (Value.ref 52) _) _ _ _); k_here; k_dflt ((rename Fr _ _ _ _ => lF'); (rename News _ _ _ _ => lN'); (rename WsIn _ _ => lW'); k_dflt (refine' indent_claim _ _ _ _ _ _ _ _ _ _ _ _ ?kcZ9 ?kpZ9 ?kqZ9 ?ksZ9 _ _ _ _ _ _ _ _ _ _ _ _ _ _ _ _ _ _ _ _ ?k1Z9 lF' ?k3Z9 (wsIn_news lN' lW') ?k5Z9 ?kKZ9 ?kdZ9 ?kuZ9 ?_); (case kcZ9 => assumption); (case kpZ9 => omega); (case kqZ9 => omega); (case ksZ9 => omega); (case k1Z9 => k_asm); (case k3Z9 => k_asm); (case k5Z9 => k_asm); (case kKZ9 => first | exact rfl | assumption); (case kdZ9 => ktr_room); (case kuZ9 => ktr_units); intro t9 h9 tk9 st9; (have F9 := fr_stays lF' st9); (have N9 := news_stays lN' st9); clear lF' lN' lW'; (try dsimp only); (try k_fold)))) | (((with_reducible show wpAny _ _ (call (Value.ref 83) [Value.str _ _]) _ _ _); k_here; (rename Fr _ _ _ _ => lF'); (rename News _ _ _ _ => lN'); k_dflt (refine' ws_claim _ _ _ _ _ _ (lineS_list _ _) (.inr rfl) ?kpZ9 ?kqZ9 _ _ _ _ _ _ _ _ _ _ _ _ _ _ _ _ _ _ _ _ _ ?k1Z9 lF' ?k3Z9 lN' ?k5Z9 ?kKZ9 ?kdZ9 ?kuZ9 ?_); (case kpZ9 => omega); (case kqZ9 => omega); (case k1Z9 => k_asm); (case k3Z9 => k_asm); (case k5Z9 => k_asm); (case kKZ9 => first | exact rfl | assumption); (case kdZ9 => ktr_room); (case kuZ9 => ktr_units); clear lF' lN'; intro x9 dx9 nm9 ct9 cs9 T9 h9 tk9 hcs9 F9 N9 lZ1 lZ2 lZ3 lZ4; (try k_lt lZ1); k_lt2 lZ2; k_lt2 lZ3; k_lt2 lZ4; (have W9 := wsIn_of N9); dsimp only [wsObjs, List.cons_append, List.nil_append] at N9; (try dsimp only); (try k_fold))) | (((with_reducible show wpAny _ _ (call (Value.ref 108) [Value.str _ _, Value.str _ _, Value.int _ _]) _ _ _); ((k_here; (rename Fr _ _ _ _ => lF'); (rename News _ _ _ _ => lN'); k_dflt (refine' use_cl (lev_claim _ _ _ _ _ _ _ (by rw [lineS_len]; omega) (by rw [lineS_len]; omega) (by omega)) ?k1Z9 lF' ?k3Z9 lN' ?k5Z9 ?kKZ9 ?kdZ9 ?kuZ9 ?kHZ9 ?_); (case k1Z9 => k_asm); (case k3Z9 => k_asm); (case k5Z9 => k_asm); (case kKZ9 => first | exact rfl | assumption); (case kdZ9 => ktr_room); (case kuZ9 => ktr_units); (case kHZ9 => trivial); clear lF' lN')); intro v9 h9 tk9 F9 N9 st9 o9; obtain ⟨t9, e9⟩ := o9; subst e9; (try dsimp only); (try k_fold))) | (((with_reducible show wpAny _ _ (call (Value.ref 122) [Value.str _ _, Value.str _ _]) _ _ _); ((k_here; (rename Fr _ _ _ _ => lF'); (rename News _ _ _ _ => lN'); k_dflt (refine' use_cl (slips_claim _ _ _ _ _ (by rw [lineS_len]; omega) (by rw [lineS_len]; omega) (by rw [lineS_len]; omega) (lineS_nodot _ _)) ?k1Z9 lF' ?k3Z9 lN' ?k5Z9 ?kKZ9 ?kdZ9 ?kuZ9 ?kHZ9 ?_); (case k1Z9 => k_asm); (case k3Z9 => k_asm); (case k5Z9 => k_asm); (case kKZ9 => first | exact rfl | assumption); (case kdZ9 => ktr_room); (case kuZ9 => ktr_units); (case kHZ9 => trivial); clear lF' lN')); intro v9 h9 tk9 F9 N9 st9 o9; obtain ⟨t9, e9⟩ := o9; subst e9; (try dsimp only); (try k_fold))) | (((with_reducible show wpAny _ _ (call (Value.ref 115) [Value.int _ _, Value.int _ _]) _ _ _); ((k_here; (rename Fr _ _ _ _ => lF'); (rename News _ _ _ _ => lN'); k_dflt (refine' use_cl (line_claim _ _ _ _ _ (by omega) (by omega)) ?k1Z9 lF' ?k3Z9 lN' ?k5Z9 ?kKZ9 ?kdZ9 ?kuZ9 ?kHZ9 ?_); (case k1Z9 => k_asm); (case k3Z9 => k_asm); (case k5Z9 => k_asm); (case kKZ9 => first | exact rfl | assumption); (case kdZ9 => ktr_room); (case kuZ9 => ktr_units); (case kHZ9 => trivial); clear lF' lN')); intro v9 h9 tk9 F9 N9 st9 o9; obtain ⟨t9, e9⟩ := o9; subst e9; (try dsimp only); (try k_fold))) | ((k_here; (with_reducible show wpAny _ _ (subscriptTail _ (Expr.Slice none (some _) none _) _ _) _ _ _); (with_reducible rename Fr _ _ _ _ => F'); (with_reducible rename News _ _ _ _ => N'); (refine slice_none (s := ⟨_, _, _, _, _⟩) F' N' ?_ (hsz := ?hszZ9)); (case hszZ9 => (rw [sizeLine_eq]; omega)); intro _ _ _ _ _)) | ((k_here; k_openite; first | (refine ite_pos ?hxZ9 ?_; (case hxZ9 => first | with_reducible assumption | (simp only [decide_eq_true_eq, decide_eq_false_iff_not, Bool.not_eq_true', Bool.not_eq_false', bne_iff_ne, ne_eq]; omega))) | (refine ite_neg ?hxZ9 ?_; (case hxZ9 => first | with_reducible assumption | (simp only [decide_eq_true_eq, decide_eq_false_iff_not, Bool.not_eq_true', Bool.not_eq_false', bne_iff_ne, ne_eq, Bool.not_eq_true, Decidable.not_not]; omega))) | (refine ite_b (fun hc => ?_) (fun hc => ?_) <;> (try simp only [decide_eq_true_eq, decide_eq_false_iff_not, Bool.not_eq_true', Bool.not_eq_false', bne_iff_ne, ne_eq, bne_eq_false_iff_eq, Decidable.not_not, Int.not_lt, Int.not_le] at hc)))) | (fail_if_success (with_reducible show wpAny _ _ (exec (Stmt.While _ _ _ _) _) _ _ _)); (fail_if_success (with_reducible show wpAny _ _ (exec (Stmt.For _ _ _ _ _) _) _ _ _)); (fail_if_success (with_reducible show wpAny _ _ (pyIter _) _ _ _)); (fail_if_success (with_reducible show InvEndN _ _ _ _ _ _ _)); (fail_if_success (with_reducible show GEnd _ _ _ _ _ _ _)); (fail_if_success (with_reducible show GPost _ _ _ _ _ _ _ _ _)); first | (k_unfold; (try dsimp only)) | walk1 | (dsimp only; walk1) | (leave1; try dsimp only) | fail "no step"))
    ((refine' mstore_ ?keZ9 ?kFZ9 ?kNZ9 ?knZ9 ?kyZ9 ?kmZ9 ?_; (case keZ9 => exact rfl); (case kFZ9 => assumption); (case kNZ9 => assumption); (case knZ9 => first | (intro p hp; cases hp; done) | exact fun p hp => hp); (case kyZ9 => exact rfl); (case kmZ9 => (intro z hz; first | (simp only [hz, if_false]; done) | (simp [hz]; done)))))
    exact ⟨_, _, rfl, by have := fmod4 n; omega⟩
  clear F4 N4
  rintro _ h tk ⟨tabs, tt, rfl, ht⟩ F4 N4
  k_dflt (refine' execs_store (PySem.Str.ofString "blanks") (fun v => ∃ x t, v = .int x t ∧ 2 ≤ x ∧ x ≤ 5) F4 N4 ?_ ?_)
  · (try k_fold)
    (repeat' (first | ((k_here; (with_reducible show wpAny _ _ (subscriptTail _ (PySem.Expr.Slice (some _) none none _) (Value.ref _) (Value.ref _)) _ _ _); k_dflt (refine kba_turn (value' := PySem.Expr.Name (PySem.Str.ofString "_") ⟨0, 0, 0, 0⟩) (fun _ => rfl) ?_); k_dflt (refine' kmk_slice_ints ?FZ9 ?NZ9 ?lZ9 ?pZ9 ?qZ9 ?iZ9 ?mZ9 ?cZ9 ?_ ?sZ9 ?tZ9 ?zZ9; (case FZ9 => k_asm); (case NZ9 => k_asm); (case lZ9 => kmk_list); (case pZ9 => kmk_part); (case qZ9 => kmk_part); (case iZ9 => exact IntsAre.cons _ _ IntsAre.nil); (case mZ9 => exact kmk_from (IntsAre.cons _ _ IntsAre.nil) (Int.natCast_nonneg _)); (case cZ9 => exact rfl); (case sZ9 => with_unfolding_all rfl); (case tZ9 => kmk_pure); (case zZ9 => exact Nat.le_of_ble_eq_true rfl)); intro D' ws' h' F' N' l1 hI' hC' hL'; (simp only [Int.toNat_natCast] at hI'); clear hC' hL'; (try k_lt l1); (try k_sweep))) | (((with_reducible show wpAny _ _ (call (Value.ref 136) _) _ _ _); k_here; k_dflt ((rename Fr _ _ _ _ => lF'); (rename News _ _ _ _ => lN'); k_dflt (refine' use_cl (near_claim _ _ _ _ _ _ _ _ _ _ (by assumption) (by assumption) (by omega)) ?k1Z9 lF' ?k3Z9 lN' ?k5Z9 ?kKZ9 ?kdZ9 ?kuZ9 ?kHZ9 ?_); (case k1Z9 => k_asm); (case k3Z9 => k_asm); (case k5Z9 => k_asm); (case kKZ9 => first | exact rfl | assumption); (case kdZ9 => ktr_room); (case kuZ9 => ktr_units); (case kHZ9 => trivial); intro v9 h9 tk9 F9 N9 st9 o9; (rename nearF _ _ _ _ = _ => hnr9); rw [hnr9] at o9; obtain ⟨nA9, c9, ds9, e9, htu9, hal9⟩ := o9; obtain ⟨D9, tx9, ty9, e8⟩ := tups_one htu9; subst e9 e8; (have N8 := news_add2 lF' lN' st9 hal9); clear lF' lN' N9; (try dsimp only [List.map_cons, List.map_nil] at N8); (try dsimp only); (try k_fold)))) | (((with_reducible show wpAny _ _ (call (Value.ref 129) [Value.int _ _, Value.int _ _]) _ _ _); k_here; k_dflt ((rename Fr _ _ _ _ => lF'); (rename News _ _ _ _ => lN'); k_dflt (refine' use_cl (mend_claim _ _ _ _ _ (by assumption) (by omega)) ?k1Z9 lF' ?k3Z9 lN' ?k5Z9 ?kKZ9 ?kdZ9 ?kuZ9 ?kHZ9 ?_); (case k1Z9 => k_asm); (case k3Z9 => k_asm); (case k5Z9 => k_asm); (case kKZ9 => first | exact rfl | assumption); (case kdZ9 => ktr_room); (case kuZ9 => ktr_units); (case kHZ9 => trivial); intro v9 h9 tk9 F9 N9 st9 o9; obtain ⟨D9, tx9, ty9, e9, hn9, hg9⟩ := o9; subst e9; (have N8 := news_add lF' lN' st9 hn9 hg9); clear lF' lN' N9; (try dsimp only); (try k_fold)))) | (((with_reducible show wpAny _ _ (call (Value.ref 52) _) _ _ _); k_here; k_dflt ((rename Fr _ _ _ _ => lF'); (rename News _ _ _ _ => lN'); (rename WsIn _ _ => lW'); k_dflt (refine' indent_claim _ _ _ _ _ _ _ _ _ _ _ _ ?kcZ9 ?kpZ9 ?kqZ9 ?ksZ9 _ _ _ _ _ _ _ _ _ _ _ _ _ _ _ _ _ _ _ _ ?k1Z9 lF' ?k3Z9 (wsIn_news lN' lW') ?k5Z9 ?kKZ9 ?kdZ9 ?kuZ9 ?_); (case kcZ9 => assumption); (case kpZ9 => omega); (case kqZ9 => omega); (case ksZ9 => omega); (case k1Z9 => k_asm); (case k3Z9 => k_asm); (case k5Z9 => k_asm); (case kKZ9 => first | exact rfl | assumption); (case kdZ9 => ktr_room); (case kuZ9 => ktr_units); intro t9 h9 tk9 st9; (have F9 := fr_stays lF' st9); (have N9 := news_stays lN' st9); clear lF' lN' lW'; (try dsimp only); (try k_fold)))) | (((with_reducible show wpAny _ _ (call (Value.ref 83) [Value.str _ _]) _ _ _); k_here; (rename Fr _ _ _ _ => lF'); (rename News _ _ _ _ => lN'); k_dflt (refine' ws_claim _ _ _ _ _ _ (lineS_list _ _) (.inr rfl) ?kpZ9 ?kqZ9 _ _ _ _ _ _ _ _ _ _ _ _ _ _ _ _ _ _ _ _ _ ?k1Z9 lF' ?k3Z9 lN' ?k5Z9 ?kKZ9 ?kdZ9 ?kuZ9 ?_); (case kpZ9 => omega); (case kqZ9 => omega); (case k1Z9 => k_asm); (case k3Z9 => k_asm); (case k5Z9 => k_asm); (case kKZ9 => first | exact rfl | assumption); (case kdZ9 => ktr_room); (case kuZ9 => ktr_units); clear lF' lN'; intro x9 dx9 nm9 ct9 cs9 T9 h9 tk9 hcs9 F9 N9 lZ1 lZ2 lZ3 lZ4; (try k_lt lZ1); k_lt2 lZ2; k_lt2 lZ3; k_lt2 lZ4; (have W9 := wsIn_of N9); dsimp only [wsObjs, List.cons_append, List.nil_append] at N9; (try dsimp only); (try k_fold))) | (((with_reducible show wpAny _ _ (call (Value.ref 108) [Value.str _ _, Value.str _ _, Value.int _ _]) _ _ _); ((k_here; (rename Fr _ _ _ _ => lF'); (rename News _ _ _ _ => lN'); k_dflt (refine' use_cl (lev_claim _ _ _ _ _ _ _ (by rw [lineS_len]; omega) (by rw [lineS_len]; omega) (by omega)) ?k1Z9 lF' ?k3Z9 lN' ?k5Z9 ?kKZ9 ?kdZ9 ?kuZ9 ?kHZ9 ?_); (case k1Z9 => k_asm); (case k3Z9 => k_asm); (case k5Z9 => k_asm); (case kKZ9 => first | exact rfl | assumption); (case kdZ9 => ktr_room); (case kuZ9 => ktr_units); (case kHZ9 => trivial); clear lF' lN')); intro v9 h9 tk9 F9 N9 st9 o9; obtain ⟨t9, e9⟩ := o9; subst e9; (try dsimp only); (try k_fold))) | (((with_reducible show wpAny _ _ (call (Value.ref 122) [Value.str _ _, Value.str _ _]) _ _ _); ((k_here; (rename Fr _ _ _ _ => lF'); (rename News _ _ _ _ => lN'); k_dflt (refine' use_cl (slips_claim _ _ _ _ _ (by rw [lineS_len]; omega) (by rw [lineS_len]; omega) (by rw [lineS_len]; omega) (lineS_nodot _ _)) ?k1Z9 lF' ?k3Z9 lN' ?k5Z9 ?kKZ9 ?kdZ9 ?kuZ9 ?kHZ9 ?_); (case k1Z9 => k_asm); (case k3Z9 => k_asm); (case k5Z9 => k_asm); (case kKZ9 => first | exact rfl | assumption); (case kdZ9 => ktr_room); (case kuZ9 => ktr_units); (case kHZ9 => trivial); clear lF' lN')); intro v9 h9 tk9 F9 N9 st9 o9; obtain ⟨t9, e9⟩ := o9; subst e9; (try dsimp only); (try k_fold))) | (((with_reducible show wpAny _ _ (call (Value.ref 115) [Value.int _ _, Value.int _ _]) _ _ _); ((k_here; (rename Fr _ _ _ _ => lF'); (rename News _ _ _ _ => lN'); k_dflt (refine' use_cl (line_claim _ _ _ _ _ (by omega) (by omega)) ?k1Z9 lF' ?k3Z9 lN' ?k5Z9 ?kKZ9 ?kdZ9 ?kuZ9 ?kHZ9 ?_); (case k1Z9 => k_asm); (case k3Z9 => k_asm); (case k5Z9 => k_asm); (case kKZ9 => first | exact rfl | assumption); (case kdZ9 => ktr_room); (case kuZ9 => ktr_units); (case kHZ9 => trivial); clear lF' lN')); intro v9 h9 tk9 F9 N9 st9 o9; obtain ⟨t9, e9⟩ := o9; subst e9; (try dsimp only); (try k_fold))) | ((k_here; (with_reducible show wpAny _ _ (subscriptTail _ (Expr.Slice none (some _) none _) _ _) _ _ _); (with_reducible rename Fr _ _ _ _ => F'); (with_reducible rename News _ _ _ _ => N'); (refine slice_none (s := ⟨_, _, _, _, _⟩) F' N' ?_ (hsz := ?hszZ9)); (case hszZ9 => (rw [sizeLine_eq]; omega)); intro _ _ _ _ _)) | ((k_here; k_openite; first | (refine ite_pos ?hxZ9 ?_; (case hxZ9 => first | with_reducible assumption | (simp only [decide_eq_true_eq, decide_eq_false_iff_not, Bool.not_eq_true', Bool.not_eq_false', bne_iff_ne, ne_eq]; omega))) | (refine ite_neg ?hxZ9 ?_; (case hxZ9 => first | with_reducible assumption | (simp only [decide_eq_true_eq, decide_eq_false_iff_not, Bool.not_eq_true', Bool.not_eq_false', bne_iff_ne, ne_eq, Bool.not_eq_true, Decidable.not_not]; omega))) | (refine ite_b (fun hc => ?_) (fun hc => ?_) <;> (try simp only [decide_eq_true_eq, decide_eq_false_iff_not, Bool.not_eq_true', Bool.not_eq_false', bne_iff_ne, ne_eq, bne_eq_false_iff_eq, Decidable.not_not, Int.not_lt, Int.not_le] at hc)))) | (fail_if_success (with_reducible show wpAny _ _ (exec (Stmt.While _ _ _ _) _) _ _ _)); (fail_if_success (with_reducible show wpAny _ _ (exec (Stmt.For _ _ _ _ _) _) _ _ _)); (fail_if_success (with_reducible show wpAny _ _ (pyIter _) _ _ _)); (fail_if_success (with_reducible show InvEndN _ _ _ _ _ _ _)); (fail_if_success (with_reducible show GEnd _ _ _ _ _ _ _)); (fail_if_success (with_reducible show GPost _ _ _ _ _ _ _ _ _)); first | (k_unfold; (try dsimp only)) | walk1 | (dsimp only; walk1) | (leave1; try dsimp only) | fail "no step"))
    ((refine' mstore_ ?keZ9 ?kFZ9 ?kNZ9 ?knZ9 ?kyZ9 ?kmZ9 ?_; (case keZ9 => exact rfl); (case kFZ9 => assumption); (case kNZ9 => assumption); (case knZ9 => first | (intro p hp; cases hp; done) | exact fun p hp => hp); (case kyZ9 => exact rfl); (case kmZ9 => (intro z hz; first | (simp only [hz, if_false]; done) | (simp [hz]; done)))))
    exact ⟨_, _, rfl, by have := fmod4 (n.fdiv 4); omega⟩
  clear F4 N4
  rintro _ h tk ⟨blanks, tb, rfl, hb⟩ F4 N4
  k_dflt (refine' execs_store (PySem.Str.ofString "rest") (fun v => ∃ x t, v = .int x t ∧ 0 ≤ x ∧ x < 19) F4 N4 ?_ ?_)
  · (try k_fold)
    (repeat' (first | ((k_here; (with_reducible show wpAny _ _ (subscriptTail _ (PySem.Expr.Slice (some _) none none _) (Value.ref _) (Value.ref _)) _ _ _); k_dflt (refine kba_turn (value' := PySem.Expr.Name (PySem.Str.ofString "_") ⟨0, 0, 0, 0⟩) (fun _ => rfl) ?_); k_dflt (refine' kmk_slice_ints ?FZ9 ?NZ9 ?lZ9 ?pZ9 ?qZ9 ?iZ9 ?mZ9 ?cZ9 ?_ ?sZ9 ?tZ9 ?zZ9; (case FZ9 => k_asm); (case NZ9 => k_asm); (case lZ9 => kmk_list); (case pZ9 => kmk_part); (case qZ9 => kmk_part); (case iZ9 => exact IntsAre.cons _ _ IntsAre.nil); (case mZ9 => exact kmk_from (IntsAre.cons _ _ IntsAre.nil) (Int.natCast_nonneg _)); (case cZ9 => exact rfl); (case sZ9 => with_unfolding_all rfl); (case tZ9 => kmk_pure); (case zZ9 => exact Nat.le_of_ble_eq_true rfl)); intro D' ws' h' F' N' l1 hI' hC' hL'; (simp only [Int.toNat_natCast] at hI'); clear hC' hL'; (try k_lt l1); (try k_sweep))) | (((with_reducible show wpAny _ _ (call (Value.ref 136) _) _ _ _); k_here; k_dflt ((rename Fr _ _ _ _ => lF'); (rename News _ _ _ _ => lN'); k_dflt (refine' use_cl (near_claim _ _ _ _ _ _ _ _ _ _ (by assumption) (by assumption) (by omega)) ?k1Z9 lF' ?k3Z9 lN' ?k5Z9 ?kKZ9 ?kdZ9 ?kuZ9 ?kHZ9 ?_); (case k1Z9 => k_asm); (case k3Z9 => k_asm); (case k5Z9 => k_asm); (case kKZ9 => first | exact rfl | assumption); (case kdZ9 => ktr_room); (case kuZ9 => ktr_units); (case kHZ9 => trivial); intro v9 h9 tk9 F9 N9 st9 o9; (rename nearF _ _ _ _ = _ => hnr9); rw [hnr9] at o9; obtain ⟨nA9, c9, ds9, e9, htu9, hal9⟩ := o9; obtain ⟨D9, tx9, ty9, e8⟩ := tups_one htu9; subst e9 e8; (have N8 := news_add2 lF' lN' st9 hal9); clear lF' lN' N9; (try dsimp only [List.map_cons, List.map_nil] at N8); (try dsimp only); (try k_fold)))) | (((with_reducible show wpAny _ _ (call (Value.ref 129) [Value.int _ _, Value.int _ _]) _ _ _); k_here; k_dflt ((rename Fr _ _ _ _ => lF'); (rename News _ _ _ _ => lN'); k_dflt (refine' use_cl (mend_claim _ _ _ _ _ (by assumption) (by omega)) ?k1Z9 lF' ?k3Z9 lN' ?k5Z9 ?kKZ9 ?kdZ9 ?kuZ9 ?kHZ9 ?_); (case k1Z9 => k_asm); (case k3Z9 => k_asm); (case k5Z9 => k_asm); (case kKZ9 => first | exact rfl | assumption); (case kdZ9 => ktr_room); (case kuZ9 => ktr_units); (case kHZ9 => trivial); intro v9 h9 tk9 F9 N9 st9 o9; obtain ⟨D9, tx9, ty9, e9, hn9, hg9⟩ := o9; subst e9; (have N8 := news_add lF' lN' st9 hn9 hg9); clear lF' lN' N9; (try dsimp only); (try k_fold)))) | (((with_reducible show wpAny _ _ (call (Value.ref 52) _) _ _ _); k_here; k_dflt ((rename Fr _ _ _ _ => lF'); (rename News _ _ _ _ => lN'); (rename WsIn _ _ => lW'); k_dflt (refine' indent_claim _ _ _ _ _ _ _ _ _ _ _ _ ?kcZ9 ?kpZ9 ?kqZ9 ?ksZ9 _ _ _ _ _ _ _ _ _ _ _ _ _ _ _ _ _ _ _ _ ?k1Z9 lF' ?k3Z9 (wsIn_news lN' lW') ?k5Z9 ?kKZ9 ?kdZ9 ?kuZ9 ?_); (case kcZ9 => assumption); (case kpZ9 => omega); (case kqZ9 => omega); (case ksZ9 => omega); (case k1Z9 => k_asm); (case k3Z9 => k_asm); (case k5Z9 => k_asm); (case kKZ9 => first | exact rfl | assumption); (case kdZ9 => ktr_room); (case kuZ9 => ktr_units); intro t9 h9 tk9 st9; (have F9 := fr_stays lF' st9); (have N9 := news_stays lN' st9); clear lF' lN' lW'; (try dsimp only); (try k_fold)))) | (((with_reducible show wpAny _ _ (call (Value.ref 83) [Value.str _ _]) _ _ _); k_here; (rename Fr _ _ _ _ => lF'); (rename News _ _ _ _ => lN'); k_dflt (refine' ws_claim _ _ _ _ _ _ (lineS_list _ _) (.inr rfl) ?kpZ9 ?kqZ9 _ _ _ _ _ _ _ _ _ _ _ _ _ _ _ _ _ _ _ _ _ ?k1Z9 lF' ?k3Z9 lN' ?k5Z9 ?kKZ9 ?kdZ9 ?kuZ9 ?_); (case kpZ9 => omega); (case kqZ9 => omega); (case k1Z9 => k_asm); (case k3Z9 => k_asm); (case k5Z9 => k_asm); (case kKZ9 => first | exact rfl | assumption); (case kdZ9 => ktr_room); (case kuZ9 => ktr_units); clear lF' lN'; intro x9 dx9 nm9 ct9 cs9 T9 h9 tk9 hcs9 F9 N9 lZ1 lZ2 lZ3 lZ4; (try k_lt lZ1); k_lt2 lZ2; k_lt2 lZ3; k_lt2 lZ4; (have W9 := wsIn_of N9); dsimp only [wsObjs, List.cons_append, List.nil_append] at N9; (try dsimp only); (try k_fold))) | (((with_reducible show wpAny _ _ (call (Value.ref 108) [Value.str _ _, Value.str _ _, Value.int _ _]) _ _ _); ((k_here; (rename Fr _ _ _ _ => lF'); (rename News _ _ _ _ => lN'); k_dflt (refine' use_cl (lev_claim _ _ _ _ _ _ _ (by rw [lineS_len]; omega) (by rw [lineS_len]; omega) (by omega)) ?k1Z9 lF' ?k3Z9 lN' ?k5Z9 ?kKZ9 ?kdZ9 ?kuZ9 ?kHZ9 ?_); (case k1Z9 => k_asm); (case k3Z9 => k_asm); (case k5Z9 => k_asm); (case kKZ9 => first | exact rfl | assumption); (case kdZ9 => ktr_room); (case kuZ9 => ktr_units); (case kHZ9 => trivial); clear lF' lN')); intro v9 h9 tk9 F9 N9 st9 o9; obtain ⟨t9, e9⟩ := o9; subst e9; (try dsimp only); (try k_fold))) | (((with_reducible show wpAny _ _ (call (Value.ref 122) [Value.str _ _, Value.str _ _]) _ _ _); ((k_here; (rename Fr _ _ _ _ => lF'); (rename News _ _ _ _ => lN'); k_dflt (refine' use_cl (slips_claim _ _ _ _ _ (by rw [lineS_len]; omega) (by rw [lineS_len]; omega) (by rw [lineS_len]; omega) (lineS_nodot _ _)) ?k1Z9 lF' ?k3Z9 lN' ?k5Z9 ?kKZ9 ?kdZ9 ?kuZ9 ?kHZ9 ?_); (case k1Z9 => k_asm); (case k3Z9 => k_asm); (case k5Z9 => k_asm); (case kKZ9 => first | exact rfl | assumption); (case kdZ9 => ktr_room); (case kuZ9 => ktr_units); (case kHZ9 => trivial); clear lF' lN')); intro v9 h9 tk9 F9 N9 st9 o9; obtain ⟨t9, e9⟩ := o9; subst e9; (try dsimp only); (try k_fold))) | (((with_reducible show wpAny _ _ (call (Value.ref 115) [Value.int _ _, Value.int _ _]) _ _ _); ((k_here; (rename Fr _ _ _ _ => lF'); (rename News _ _ _ _ => lN'); k_dflt (refine' use_cl (line_claim _ _ _ _ _ (by omega) (by omega)) ?k1Z9 lF' ?k3Z9 lN' ?k5Z9 ?kKZ9 ?kdZ9 ?kuZ9 ?kHZ9 ?_); (case k1Z9 => k_asm); (case k3Z9 => k_asm); (case k5Z9 => k_asm); (case kKZ9 => first | exact rfl | assumption); (case kdZ9 => ktr_room); (case kuZ9 => ktr_units); (case kHZ9 => trivial); clear lF' lN')); intro v9 h9 tk9 F9 N9 st9 o9; obtain ⟨t9, e9⟩ := o9; subst e9; (try dsimp only); (try k_fold))) | ((k_here; (with_reducible show wpAny _ _ (subscriptTail _ (Expr.Slice none (some _) none _) _ _) _ _ _); (with_reducible rename Fr _ _ _ _ => F'); (with_reducible rename News _ _ _ _ => N'); (refine slice_none (s := ⟨_, _, _, _, _⟩) F' N' ?_ (hsz := ?hszZ9)); (case hszZ9 => (rw [sizeLine_eq]; omega)); intro _ _ _ _ _)) | ((k_here; k_openite; first | (refine ite_pos ?hxZ9 ?_; (case hxZ9 => first | with_reducible assumption | (simp only [decide_eq_true_eq, decide_eq_false_iff_not, Bool.not_eq_true', Bool.not_eq_false', bne_iff_ne, ne_eq]; omega))) | (refine ite_neg ?hxZ9 ?_; (case hxZ9 => first | with_reducible assumption | (simp only [decide_eq_true_eq, decide_eq_false_iff_not, Bool.not_eq_true', Bool.not_eq_false', bne_iff_ne, ne_eq, Bool.not_eq_true, Decidable.not_not]; omega))) | (refine ite_b (fun hc => ?_) (fun hc => ?_) <;> (try simp only [decide_eq_true_eq, decide_eq_false_iff_not, Bool.not_eq_true', Bool.not_eq_false', bne_iff_ne, ne_eq, bne_eq_false_iff_eq, Decidable.not_not, Int.not_lt, Int.not_le] at hc)))) | (fail_if_success (with_reducible show wpAny _ _ (exec (Stmt.While _ _ _ _) _) _ _ _)); (fail_if_success (with_reducible show wpAny _ _ (exec (Stmt.For _ _ _ _ _) _) _ _ _)); (fail_if_success (with_reducible show wpAny _ _ (pyIter _) _ _ _)); (fail_if_success (with_reducible show InvEndN _ _ _ _ _ _ _)); (fail_if_success (with_reducible show GEnd _ _ _ _ _ _ _)); (fail_if_success (with_reducible show GPost _ _ _ _ _ _ _ _ _)); first | (k_unfold; (try dsimp only)) | walk1 | (dsimp only; walk1) | (leave1; try dsimp only) | fail "no step"))
    ((refine' mstore_ ?keZ9 ?kFZ9 ?kNZ9 ?knZ9 ?kyZ9 ?kmZ9 ?_; (case keZ9 => exact rfl); (case kFZ9 => assumption); (case kNZ9 => assumption); (case knZ9 => first | (intro p hp; cases hp; done) | exact fun p hp => hp); (case kyZ9 => exact rfl); (case kmZ9 => (intro z hz; first | (simp only [hz, if_false]; done) | (simp [hz]; done)))))
    exact ⟨_, _, rfl, fmod19 _⟩
  clear F4 N4
  rintro _ h tk ⟨rest, tr, rfl, hr⟩ F4 N4
  have hfin := near_fin (n := ns.length) ht hb hr
  rw [hsz] at hfin
  have hms := missF_le tabs blanks rest size
  have htH := PySem.Flt.Hid.mk ht
  have hbH := PySem.Flt.Hid.mk hb
  have hrH := PySem.Flt.Hid.mk hr
  k_dflt (refine' execs_store (PySem.Str.ofString "line") (fun v => ∃ t, v = .str (lineS tabs.toNat blanks.toNat) t) F4 N4 ?_ ?_)
  · (try k_fold)
    (repeat' (first | ((k_here; (with_reducible show wpAny _ _ (subscriptTail _ (PySem.Expr.Slice (some _) none none _) (Value.ref _) (Value.ref _)) _ _ _); k_dflt (refine kba_turn (value' := PySem.Expr.Name (PySem.Str.ofString "_") ⟨0, 0, 0, 0⟩) (fun _ => rfl) ?_); k_dflt (refine' kmk_slice_ints ?FZ9 ?NZ9 ?lZ9 ?pZ9 ?qZ9 ?iZ9 ?mZ9 ?cZ9 ?_ ?sZ9 ?tZ9 ?zZ9; (case FZ9 => k_asm); (case NZ9 => k_asm); (case lZ9 => kmk_list); (case pZ9 => kmk_part); (case qZ9 => kmk_part); (case iZ9 => exact IntsAre.cons _ _ IntsAre.nil); (case mZ9 => exact kmk_from (IntsAre.cons _ _ IntsAre.nil) (Int.natCast_nonneg _)); (case cZ9 => exact rfl); (case sZ9 => with_unfolding_all rfl); (case tZ9 => kmk_pure); (case zZ9 => exact Nat.le_of_ble_eq_true rfl)); intro D' ws' h' F' N' l1 hI' hC' hL'; (simp only [Int.toNat_natCast] at hI'); clear hC' hL'; (try k_lt l1); (try k_sweep))) | (((with_reducible show wpAny _ _ (call (Value.ref 136) _) _ _ _); k_here; k_dflt ((rename Fr _ _ _ _ => lF'); (rename News _ _ _ _ => lN'); k_dflt (refine' use_cl (near_claim _ _ _ _ _ _ _ _ _ _ (by assumption) (by assumption) (by omega)) ?k1Z9 lF' ?k3Z9 lN' ?k5Z9 ?kKZ9 ?kdZ9 ?kuZ9 ?kHZ9 ?_); (case k1Z9 => k_asm); (case k3Z9 => k_asm); (case k5Z9 => k_asm); (case kKZ9 => first | exact rfl | assumption); (case kdZ9 => ktr_room); (case kuZ9 => ktr_units); (case kHZ9 => trivial); intro v9 h9 tk9 F9 N9 st9 o9; (rename nearF _ _ _ _ = _ => hnr9); rw [hnr9] at o9; obtain ⟨nA9, c9, ds9, e9, htu9, hal9⟩ := o9; obtain ⟨D9, tx9, ty9, e8⟩ := tups_one htu9; subst e9 e8; (have N8 := news_add2 lF' lN' st9 hal9); clear lF' lN' N9; (try dsimp only [List.map_cons, List.map_nil] at N8); (try dsimp only); (try k_fold)))) | (((with_reducible show wpAny _ _ (call (Value.ref 129) [Value.int _ _, Value.int _ _]) _ _ _); k_here; k_dflt ((rename Fr _ _ _ _ => lF'); (rename News _ _ _ _ => lN'); k_dflt (refine' use_cl (mend_claim _ _ _ _ _ (by assumption) (by omega)) ?k1Z9 lF' ?k3Z9 lN' ?k5Z9 ?kKZ9 ?kdZ9 ?kuZ9 ?kHZ9 ?_); (case k1Z9 => k_asm); (case k3Z9 => k_asm); (case k5Z9 => k_asm); (case kKZ9 => first | exact rfl | assumption); (case kdZ9 => ktr_room); (case kuZ9 => ktr_units); (case kHZ9 => trivial); intro v9 h9 tk9 F9 N9 st9 o9; obtain ⟨D9, tx9, ty9, e9, hn9, hg9⟩ := o9; subst e9; (have N8 := news_add lF' lN' st9 hn9 hg9); clear lF' lN' N9; (try dsimp only); (try k_fold)))) | (((with_reducible show wpAny _ _ (call (Value.ref 52) _) _ _ _); k_here; k_dflt ((rename Fr _ _ _ _ => lF'); (rename News _ _ _ _ => lN'); (rename WsIn _ _ => lW'); k_dflt (refine' indent_claim _ _ _ _ _ _ _ _ _ _ _ _ ?kcZ9 ?kpZ9 ?kqZ9 ?ksZ9 _ _ _ _ _ _ _ _ _ _ _ _ _ _ _ _ _ _ _ _ ?k1Z9 lF' ?k3Z9 (wsIn_news lN' lW') ?k5Z9 ?kKZ9 ?kdZ9 ?kuZ9 ?_); (case kcZ9 => assumption); (case kpZ9 => omega); (case kqZ9 => omega); (case ksZ9 => omega); (case k1Z9 => k_asm); (case k3Z9 => k_asm); (case k5Z9 => k_asm); (case kKZ9 => first | exact rfl | assumption); (case kdZ9 => ktr_room); (case kuZ9 => ktr_units); intro t9 h9 tk9 st9; (have F9 := fr_stays lF' st9); (have N9 := news_stays lN' st9); clear lF' lN' lW'; (try dsimp only); (try k_fold)))) | (((with_reducible show wpAny _ _ (call (Value.ref 83) [Value.str _ _]) _ _ _); k_here; (rename Fr _ _ _ _ => lF'); (rename News _ _ _ _ => lN'); k_dflt (refine' ws_claim _ _ _ _ _ _ (lineS_list _ _) (.inr rfl) ?kpZ9 ?kqZ9 _ _ _ _ _ _ _ _ _ _ _ _ _ _ _ _ _ _ _ _ _ ?k1Z9 lF' ?k3Z9 lN' ?k5Z9 ?kKZ9 ?kdZ9 ?kuZ9 ?_); (case kpZ9 => omega); (case kqZ9 => omega); (case k1Z9 => k_asm); (case k3Z9 => k_asm); (case k5Z9 => k_asm); (case kKZ9 => first | exact rfl | assumption); (case kdZ9 => ktr_room); (case kuZ9 => ktr_units); clear lF' lN'; intro x9 dx9 nm9 ct9 cs9 T9 h9 tk9 hcs9 F9 N9 lZ1 lZ2 lZ3 lZ4; (try k_lt lZ1); k_lt2 lZ2; k_lt2 lZ3; k_lt2 lZ4; (have W9 := wsIn_of N9); dsimp only [wsObjs, List.cons_append, List.nil_append] at N9; (try dsimp only); (try k_fold))) | (((with_reducible show wpAny _ _ (call (Value.ref 108) [Value.str _ _, Value.str _ _, Value.int _ _]) _ _ _); ((k_here; (rename Fr _ _ _ _ => lF'); (rename News _ _ _ _ => lN'); k_dflt (refine' use_cl (lev_claim _ _ _ _ _ _ _ (by rw [lineS_len]; omega) (by rw [lineS_len]; omega) (by omega)) ?k1Z9 lF' ?k3Z9 lN' ?k5Z9 ?kKZ9 ?kdZ9 ?kuZ9 ?kHZ9 ?_); (case k1Z9 => k_asm); (case k3Z9 => k_asm); (case k5Z9 => k_asm); (case kKZ9 => first | exact rfl | assumption); (case kdZ9 => ktr_room); (case kuZ9 => ktr_units); (case kHZ9 => trivial); clear lF' lN')); intro v9 h9 tk9 F9 N9 st9 o9; obtain ⟨t9, e9⟩ := o9; subst e9; (try dsimp only); (try k_fold))) | (((with_reducible show wpAny _ _ (call (Value.ref 122) [Value.str _ _, Value.str _ _]) _ _ _); ((k_here; (rename Fr _ _ _ _ => lF'); (rename News _ _ _ _ => lN'); k_dflt (refine' use_cl (slips_claim _ _ _ _ _ (by rw [lineS_len]; omega) (by rw [lineS_len]; omega) (by rw [lineS_len]; omega) (lineS_nodot _ _)) ?k1Z9 lF' ?k3Z9 lN' ?k5Z9 ?kKZ9 ?kdZ9 ?kuZ9 ?kHZ9 ?_); (case k1Z9 => k_asm); (case k3Z9 => k_asm); (case k5Z9 => k_asm); (case kKZ9 => first | exact rfl | assumption); (case kdZ9 => ktr_room); (case kuZ9 => ktr_units); (case kHZ9 => trivial); clear lF' lN')); intro v9 h9 tk9 F9 N9 st9 o9; obtain ⟨t9, e9⟩ := o9; subst e9; (try dsimp only); (try k_fold))) | (((with_reducible show wpAny _ _ (call (Value.ref 115) [Value.int _ _, Value.int _ _]) _ _ _); ((k_here; (rename Fr _ _ _ _ => lF'); (rename News _ _ _ _ => lN'); k_dflt (refine' use_cl (line_claim _ _ _ _ _ (by omega) (by omega)) ?k1Z9 lF' ?k3Z9 lN' ?k5Z9 ?kKZ9 ?kdZ9 ?kuZ9 ?kHZ9 ?_); (case k1Z9 => k_asm); (case k3Z9 => k_asm); (case k5Z9 => k_asm); (case kKZ9 => first | exact rfl | assumption); (case kdZ9 => ktr_room); (case kuZ9 => ktr_units); (case kHZ9 => trivial); clear lF' lN')); intro v9 h9 tk9 F9 N9 st9 o9; obtain ⟨t9, e9⟩ := o9; subst e9; (try dsimp only); (try k_fold))) | ((k_here; (with_reducible show wpAny _ _ (subscriptTail _ (Expr.Slice none (some _) none _) _ _) _ _ _); (with_reducible rename Fr _ _ _ _ => F'); (with_reducible rename News _ _ _ _ => N'); (refine slice_none (s := ⟨_, _, _, _, _⟩) F' N' ?_ (hsz := ?hszZ9)); (case hszZ9 => (rw [sizeLine_eq]; omega)); intro _ _ _ _ _)) | ((k_here; k_openite; first | (refine ite_pos ?hxZ9 ?_; (case hxZ9 => first | with_reducible assumption | (simp only [decide_eq_true_eq, decide_eq_false_iff_not, Bool.not_eq_true', Bool.not_eq_false', bne_iff_ne, ne_eq]; omega))) | (refine ite_neg ?hxZ9 ?_; (case hxZ9 => first | with_reducible assumption | (simp only [decide_eq_true_eq, decide_eq_false_iff_not, Bool.not_eq_true', Bool.not_eq_false', bne_iff_ne, ne_eq, Bool.not_eq_true, Decidable.not_not]; omega))) | (refine ite_b (fun hc => ?_) (fun hc => ?_) <;> (try simp only [decide_eq_true_eq, decide_eq_false_iff_not, Bool.not_eq_true', Bool.not_eq_false', bne_iff_ne, ne_eq, bne_eq_false_iff_eq, Decidable.not_not, Int.not_lt, Int.not_le] at hc)))) | (fail_if_success (with_reducible show wpAny _ _ (exec (Stmt.While _ _ _ _) _) _ _ _)); (fail_if_success (with_reducible show wpAny _ _ (exec (Stmt.For _ _ _ _ _) _) _ _ _)); (fail_if_success (with_reducible show wpAny _ _ (pyIter _) _ _ _)); (fail_if_success (with_reducible show InvEndN _ _ _ _ _ _ _)); (fail_if_success (with_reducible show GEnd _ _ _ _ _ _ _)); (fail_if_success (with_reducible show GPost _ _ _ _ _ _ _ _ _)); first | (k_unfold; (try dsimp only)) | walk1 | (dsimp only; walk1) | (leave1; try dsimp only) | fail "no step"))
    ((refine' mstore_ ?keZ9 ?kFZ9 ?kNZ9 ?knZ9 ?kyZ9 ?kmZ9 ?_; (case keZ9 => exact rfl); (case kFZ9 => assumption); (case kNZ9 => assumption); (case knZ9 => first | (intro p hp; cases hp; done) | exact fun p hp => hp); (case kyZ9 => exact rfl); (case kmZ9 => (intro z hz; first | (simp only [hz, if_false]; done) | (simp [hz]; done)))))
    exact ⟨_, rfl⟩
  clear F4 N4
  rintro _ h tk ⟨tl, rfl⟩ F4 N4
  k_dflt (refine' execs_store (PySem.Str.ofString "missed") (fun v => ∃ t, v = .int (missF tabs blanks rest size) t) F4 N4 ?_ ?_)
  · (try k_fold)
    (repeat' (first | ((k_here; (with_reducible show wpAny _ _ (subscriptTail _ (PySem.Expr.Slice (some _) none none _) (Value.ref _) (Value.ref _)) _ _ _); k_dflt (refine kba_turn (value' := PySem.Expr.Name (PySem.Str.ofString "_") ⟨0, 0, 0, 0⟩) (fun _ => rfl) ?_); k_dflt (refine' kmk_slice_ints ?FZ9 ?NZ9 ?lZ9 ?pZ9 ?qZ9 ?iZ9 ?mZ9 ?cZ9 ?_ ?sZ9 ?tZ9 ?zZ9; (case FZ9 => k_asm); (case NZ9 => k_asm); (case lZ9 => kmk_list); (case pZ9 => kmk_part); (case qZ9 => kmk_part); (case iZ9 => exact IntsAre.cons _ _ IntsAre.nil); (case mZ9 => exact kmk_from (IntsAre.cons _ _ IntsAre.nil) (Int.natCast_nonneg _)); (case cZ9 => exact rfl); (case sZ9 => with_unfolding_all rfl); (case tZ9 => kmk_pure); (case zZ9 => exact Nat.le_of_ble_eq_true rfl)); intro D' ws' h' F' N' l1 hI' hC' hL'; (simp only [Int.toNat_natCast] at hI'); clear hC' hL'; (try k_lt l1); (try k_sweep))) | (((with_reducible show wpAny _ _ (call (Value.ref 136) _) _ _ _); k_here; k_dflt ((rename Fr _ _ _ _ => lF'); (rename News _ _ _ _ => lN'); k_dflt (refine' use_cl (near_claim _ _ _ _ _ _ _ _ _ _ (by assumption) (by assumption) (by omega)) ?k1Z9 lF' ?k3Z9 lN' ?k5Z9 ?kKZ9 ?kdZ9 ?kuZ9 ?kHZ9 ?_); (case k1Z9 => k_asm); (case k3Z9 => k_asm); (case k5Z9 => k_asm); (case kKZ9 => first | exact rfl | assumption); (case kdZ9 => ktr_room); (case kuZ9 => ktr_units); (case kHZ9 => trivial); intro v9 h9 tk9 F9 N9 st9 o9; (rename nearF _ _ _ _ = _ => hnr9); rw [hnr9] at o9; obtain ⟨nA9, c9, ds9, e9, htu9, hal9⟩ := o9; obtain ⟨D9, tx9, ty9, e8⟩ := tups_one htu9; subst e9 e8; (have N8 := news_add2 lF' lN' st9 hal9); clear lF' lN' N9; (try dsimp only [List.map_cons, List.map_nil] at N8); (try dsimp only); (try k_fold)))) | (((with_reducible show wpAny _ _ (call (Value.ref 129) [Value.int _ _, Value.int _ _]) _ _ _); k_here; k_dflt ((rename Fr _ _ _ _ => lF'); (rename News _ _ _ _ => lN'); k_dflt (refine' use_cl (mend_claim _ _ _ _ _ (by assumption) (by omega)) ?k1Z9 lF' ?k3Z9 lN' ?k5Z9 ?kKZ9 ?kdZ9 ?kuZ9 ?kHZ9 ?_); (case k1Z9 => k_asm); (case k3Z9 => k_asm); (case k5Z9 => k_asm); (case kKZ9 => first | exact rfl | assumption); (case kdZ9 => ktr_room); (case kuZ9 => ktr_units); (case kHZ9 => trivial); intro v9 h9 tk9 F9 N9 st9 o9; obtain ⟨D9, tx9, ty9, e9, hn9, hg9⟩ := o9; subst e9; (have N8 := news_add lF' lN' st9 hn9 hg9); clear lF' lN' N9; (try dsimp only); (try k_fold)))) | (((with_reducible show wpAny _ _ (call (Value.ref 52) _) _ _ _); k_here; k_dflt ((rename Fr _ _ _ _ => lF'); (rename News _ _ _ _ => lN'); (rename WsIn _ _ => lW'); k_dflt (refine' indent_claim _ _ _ _ _ _ _ _ _ _ _ _ ?kcZ9 ?kpZ9 ?kqZ9 ?ksZ9 _ _ _ _ _ _ _ _ _ _ _ _ _ _ _ _ _ _ _ _ ?k1Z9 lF' ?k3Z9 (wsIn_news lN' lW') ?k5Z9 ?kKZ9 ?kdZ9 ?kuZ9 ?_); (case kcZ9 => assumption); (case kpZ9 => omega); (case kqZ9 => omega); (case ksZ9 => omega); (case k1Z9 => k_asm); (case k3Z9 => k_asm); (case k5Z9 => k_asm); (case kKZ9 => first | exact rfl | assumption); (case kdZ9 => ktr_room); (case kuZ9 => ktr_units); intro t9 h9 tk9 st9; (have F9 := fr_stays lF' st9); (have N9 := news_stays lN' st9); clear lF' lN' lW'; (try dsimp only); (try k_fold)))) | (((with_reducible show wpAny _ _ (call (Value.ref 83) [Value.str _ _]) _ _ _); k_here; (rename Fr _ _ _ _ => lF'); (rename News _ _ _ _ => lN'); k_dflt (refine' ws_claim _ _ _ _ _ _ (lineS_list _ _) (.inr rfl) ?kpZ9 ?kqZ9 _ _ _ _ _ _ _ _ _ _ _ _ _ _ _ _ _ _ _ _ _ ?k1Z9 lF' ?k3Z9 lN' ?k5Z9 ?kKZ9 ?kdZ9 ?kuZ9 ?_); (case kpZ9 => omega); (case kqZ9 => omega); (case k1Z9 => k_asm); (case k3Z9 => k_asm); (case k5Z9 => k_asm); (case kKZ9 => first | exact rfl | assumption); (case kdZ9 => ktr_room); (case kuZ9 => ktr_units); clear lF' lN'; intro x9 dx9 nm9 ct9 cs9 T9 h9 tk9 hcs9 F9 N9 lZ1 lZ2 lZ3 lZ4; (try k_lt lZ1); k_lt2 lZ2; k_lt2 lZ3; k_lt2 lZ4; (have W9 := wsIn_of N9); dsimp only [wsObjs, List.cons_append, List.nil_append] at N9; (try dsimp only); (try k_fold))) | (((with_reducible show wpAny _ _ (call (Value.ref 108) [Value.str _ _, Value.str _ _, Value.int _ _]) _ _ _); ((k_here; (rename Fr _ _ _ _ => lF'); (rename News _ _ _ _ => lN'); k_dflt (refine' use_cl (lev_claim _ _ _ _ _ _ _ (by rw [lineS_len]; omega) (by rw [lineS_len]; omega) (by omega)) ?k1Z9 lF' ?k3Z9 lN' ?k5Z9 ?kKZ9 ?kdZ9 ?kuZ9 ?kHZ9 ?_); (case k1Z9 => k_asm); (case k3Z9 => k_asm); (case k5Z9 => k_asm); (case kKZ9 => first | exact rfl | assumption); (case kdZ9 => ktr_room); (case kuZ9 => ktr_units); (case kHZ9 => trivial); clear lF' lN')); intro v9 h9 tk9 F9 N9 st9 o9; obtain ⟨t9, e9⟩ := o9; subst e9; (try dsimp only); (try k_fold))) | (((with_reducible show wpAny _ _ (call (Value.ref 122) [Value.str _ _, Value.str _ _]) _ _ _); ((k_here; (rename Fr _ _ _ _ => lF'); (rename News _ _ _ _ => lN'); k_dflt (refine' use_cl (slips_claim _ _ _ _ _ (by rw [lineS_len]; omega) (by rw [lineS_len]; omega) (by rw [lineS_len]; omega) (lineS_nodot _ _)) ?k1Z9 lF' ?k3Z9 lN' ?k5Z9 ?kKZ9 ?kdZ9 ?kuZ9 ?kHZ9 ?_); (case k1Z9 => k_asm); (case k3Z9 => k_asm); (case k5Z9 => k_asm); (case kKZ9 => first | exact rfl | assumption); (case kdZ9 => ktr_room); (case kuZ9 => ktr_units); (case kHZ9 => trivial); clear lF' lN')); intro v9 h9 tk9 F9 N9 st9 o9; obtain ⟨t9, e9⟩ := o9; subst e9; (try dsimp only); (try k_fold))) | (((with_reducible show wpAny _ _ (call (Value.ref 115) [Value.int _ _, Value.int _ _]) _ _ _); ((k_here; (rename Fr _ _ _ _ => lF'); (rename News _ _ _ _ => lN'); k_dflt (refine' use_cl (line_claim _ _ _ _ _ (by omega) (by omega)) ?k1Z9 lF' ?k3Z9 lN' ?k5Z9 ?kKZ9 ?kdZ9 ?kuZ9 ?kHZ9 ?_); (case k1Z9 => k_asm); (case k3Z9 => k_asm); (case k5Z9 => k_asm); (case kKZ9 => first | exact rfl | assumption); (case kdZ9 => ktr_room); (case kuZ9 => ktr_units); (case kHZ9 => trivial); clear lF' lN')); intro v9 h9 tk9 F9 N9 st9 o9; obtain ⟨t9, e9⟩ := o9; subst e9; (try dsimp only); (try k_fold))) | ((k_here; (with_reducible show wpAny _ _ (subscriptTail _ (Expr.Slice none (some _) none _) _ _) _ _ _); (with_reducible rename Fr _ _ _ _ => F'); (with_reducible rename News _ _ _ _ => N'); (refine slice_none (s := ⟨_, _, _, _, _⟩) F' N' ?_ (hsz := ?hszZ9)); (case hszZ9 => (rw [sizeLine_eq]; omega)); intro _ _ _ _ _)) | ((k_here; k_openite; first | (refine ite_pos ?hxZ9 ?_; (case hxZ9 => first | with_reducible assumption | (simp only [decide_eq_true_eq, decide_eq_false_iff_not, Bool.not_eq_true', Bool.not_eq_false', bne_iff_ne, ne_eq]; omega))) | (refine ite_neg ?hxZ9 ?_; (case hxZ9 => first | with_reducible assumption | (simp only [decide_eq_true_eq, decide_eq_false_iff_not, Bool.not_eq_true', Bool.not_eq_false', bne_iff_ne, ne_eq, Bool.not_eq_true, Decidable.not_not]; omega))) | (refine ite_b (fun hc => ?_) (fun hc => ?_) <;> (try simp only [decide_eq_true_eq, decide_eq_false_iff_not, Bool.not_eq_true', Bool.not_eq_false', bne_iff_ne, ne_eq, bne_eq_false_iff_eq, Decidable.not_not, Int.not_lt, Int.not_le] at hc)))) | (fail_if_success (with_reducible show wpAny _ _ (exec (Stmt.While _ _ _ _) _) _ _ _)); (fail_if_success (with_reducible show wpAny _ _ (exec (Stmt.For _ _ _ _ _) _) _ _ _)); (fail_if_success (with_reducible show wpAny _ _ (pyIter _) _ _ _)); (fail_if_success (with_reducible show InvEndN _ _ _ _ _ _ _)); (fail_if_success (with_reducible show GEnd _ _ _ _ _ _ _)); (fail_if_success (with_reducible show GPost _ _ _ _ _ _ _ _ _)); first | (k_unfold; (try dsimp only)) | walk1 | (dsimp only; walk1) | (leave1; try dsimp only) | fail "no step"))
    ((refine' mstore_ ?keZ9 ?kFZ9 ?kNZ9 ?knZ9 ?kyZ9 ?kmZ9 ?_; (case keZ9 => exact rfl); (case kFZ9 => assumption); (case kNZ9 => assumption); (case knZ9 => (intro p hp; first | exact hp | exact .tail _ hp | exact .tail _ (.tail _ hp) | exact .tail _ (.tail _ (.tail _ hp)) | exact .tail _ (.tail _ (.tail _ (.tail _ hp))) | exact .tail _ (.tail _ (.tail _ (.tail _ (.tail _ hp)))) | exact .tail _ (.tail _ (.tail _ (.tail _ (.tail _ (.tail _ hp))))))); (case kyZ9 => exact rfl); (case kmZ9 => (intro z hz; first | (simp only [hz, if_false]; done) | (simp [hz]; done)))))
    exact ⟨_, by unfold missF; rw [Int.toNat_of_nonneg (show 0 ≤ tabs by omega), Int.toNat_of_nonneg (show 0 ≤ blanks by omega)]⟩
  clear F4 N4
  rintro _ h tk ⟨tm, rfl⟩ F4 N4
  generalize hmse : missF tabs blanks rest size = missed at *
  (try k_fold)
  (repeat' (first | ((k_here; (with_reducible show wpAny _ _ (subscriptTail _ (PySem.Expr.Slice (some _) none none _) (Value.ref _) (Value.ref _)) _ _ _); k_dflt (refine kba_turn (value' := PySem.Expr.Name (PySem.Str.ofString "_") ⟨0, 0, 0, 0⟩) (fun _ => rfl) ?_); k_dflt (refine' kmk_slice_ints ?FZ9 ?NZ9 ?lZ9 ?pZ9 ?qZ9 ?iZ9 ?mZ9 ?cZ9 ?_ ?sZ9 ?tZ9 ?zZ9; (case FZ9 => k_asm); (case NZ9 => k_asm); (case lZ9 => kmk_list); (case pZ9 => kmk_part); (case qZ9 => kmk_part); (case iZ9 => exact IntsAre.cons _ _ IntsAre.nil); (case mZ9 => exact kmk_from (IntsAre.cons _ _ IntsAre.nil) (Int.natCast_nonneg _)); (case cZ9 => exact rfl); (case sZ9 => with_unfolding_all rfl); (case tZ9 => kmk_pure); (case zZ9 => exact Nat.le_of_ble_eq_true rfl)); intro D' ws' h' F' N' l1 hI' hC' hL'; (simp only [Int.toNat_natCast] at hI'); clear hC' hL'; (try k_lt l1); (try k_sweep))) | (((with_reducible show wpAny _ _ (call (Value.ref 136) _) _ _ _); k_here; k_dflt ((rename Fr _ _ _ _ => lF'); (rename News _ _ _ _ => lN'); k_dflt (refine' use_cl (near_claim _ _ _ _ _ _ _ _ _ _ (by assumption) (by assumption) (by omega)) ?k1Z9 lF' ?k3Z9 lN' ?k5Z9 ?kKZ9 ?kdZ9 ?kuZ9 ?kHZ9 ?_); (case k1Z9 => k_asm); (case k3Z9 => k_asm); (case k5Z9 => k_asm); (case kKZ9 => first | exact rfl | assumption); (case kdZ9 => ktr_room); (case kuZ9 => ktr_units); (case kHZ9 => trivial); intro v9 h9 tk9 F9 N9 st9 o9; (rename nearF _ _ _ _ = _ => hnr9); rw [hnr9] at o9; obtain ⟨nA9, c9, ds9, e9, htu9, hal9⟩ := o9; obtain ⟨D9, tx9, ty9, e8⟩ := tups_one htu9; subst e9 e8; (have N8 := news_add2 lF' lN' st9 hal9); clear lF' lN' N9; (try dsimp only [List.map_cons, List.map_nil] at N8); (try dsimp only); (try k_fold)))) | (((with_reducible show wpAny _ _ (call (Value.ref 129) [Value.int _ _, Value.int _ _]) _ _ _); k_here; k_dflt ((rename Fr _ _ _ _ => lF'); (rename News _ _ _ _ => lN'); k_dflt (refine' use_cl (mend_claim _ _ _ _ _ (by assumption) (by omega)) ?k1Z9 lF' ?k3Z9 lN' ?k5Z9 ?kKZ9 ?kdZ9 ?kuZ9 ?kHZ9 ?_); (case k1Z9 => k_asm); (case k3Z9 => k_asm); (case k5Z9 => k_asm); (case kKZ9 => first | exact rfl | assumption); (case kdZ9 => ktr_room); (case kuZ9 => ktr_units); (case kHZ9 => trivial); intro v9 h9 tk9 F9 N9 st9 o9; obtain ⟨D9, tx9, ty9, e9, hn9, hg9⟩ := o9; subst e9; (have N8 := news_add lF' lN' st9 hn9 hg9); clear lF' lN' N9; (try dsimp only); (try k_fold)))) | (((with_reducible show wpAny _ _ (call (Value.ref 52) _) _ _ _); k_here; k_dflt ((rename Fr _ _ _ _ => lF'); (rename News _ _ _ _ => lN'); (rename WsIn _ _ => lW'); k_dflt (refine' indent_claim _ _ _ _ _ _ _ _ _ _ _ _ ?kcZ9 ?kpZ9 ?kqZ9 ?ksZ9 _ _ _ _ _ _ _ _ _ _ _ _ _ _ _ _ _ _ _ _ ?k1Z9 lF' ?k3Z9 (wsIn_news lN' lW') ?k5Z9 ?kKZ9 ?kdZ9 ?kuZ9 ?_); (case kcZ9 => assumption); (case kpZ9 => omega); (case kqZ9 => omega); (case ksZ9 => omega); (case k1Z9 => k_asm); (case k3Z9 => k_asm); (case k5Z9 => k_asm); (case kKZ9 => first | exact rfl | assumption); (case kdZ9 => ktr_room); (case kuZ9 => ktr_units); intro t9 h9 tk9 st9; (have F9 := fr_stays lF' st9); (have N9 := news_stays lN' st9); clear lF' lN' lW'; (try dsimp only); (try k_fold)))) | (((with_reducible show wpAny _ _ (call (Value.ref 83) [Value.str _ _]) _ _ _); k_here; (rename Fr _ _ _ _ => lF'); (rename News _ _ _ _ => lN'); k_dflt (refine' ws_claim _ _ _ _ _ _ (lineS_list _ _) (.inr rfl) ?kpZ9 ?kqZ9 _ _ _ _ _ _ _ _ _ _ _ _ _ _ _ _ _ _ _ _ _ ?k1Z9 lF' ?k3Z9 lN' ?k5Z9 ?kKZ9 ?kdZ9 ?kuZ9 ?_); (case kpZ9 => omega); (case kqZ9 => omega); (case k1Z9 => k_asm); (case k3Z9 => k_asm); (case k5Z9 => k_asm); (case kKZ9 => first | exact rfl | assumption); (case kdZ9 => ktr_room); (case kuZ9 => ktr_units); clear lF' lN'; intro x9 dx9 nm9 ct9 cs9 T9 h9 tk9 hcs9 F9 N9 lZ1 lZ2 lZ3 lZ4; (try k_lt lZ1); k_lt2 lZ2; k_lt2 lZ3; k_lt2 lZ4; (have W9 := wsIn_of N9); dsimp only [wsObjs, List.cons_append, List.nil_append] at N9; (try dsimp only); (try k_fold))) | (((with_reducible show wpAny _ _ (call (Value.ref 108) [Value.str _ _, Value.str _ _, Value.int _ _]) _ _ _); ((k_here; (rename Fr _ _ _ _ => lF'); (rename News _ _ _ _ => lN'); k_dflt (refine' use_cl (lev_claim _ _ _ _ _ _ _ (by rw [lineS_len]; omega) (by rw [lineS_len]; omega) (by omega)) ?k1Z9 lF' ?k3Z9 lN' ?k5Z9 ?kKZ9 ?kdZ9 ?kuZ9 ?kHZ9 ?_); (case k1Z9 => k_asm); (case k3Z9 => k_asm); (case k5Z9 => k_asm); (case kKZ9 => first | exact rfl | assumption); (case kdZ9 => ktr_room); (case kuZ9 => ktr_units); (case kHZ9 => trivial); clear lF' lN')); intro v9 h9 tk9 F9 N9 st9 o9; obtain ⟨t9, e9⟩ := o9; subst e9; (try dsimp only); (try k_fold))) | (((with_reducible show wpAny _ _ (call (Value.ref 122) [Value.str _ _, Value.str _ _]) _ _ _); ((k_here; (rename Fr _ _ _ _ => lF'); (rename News _ _ _ _ => lN'); k_dflt (refine' use_cl (slips_claim _ _ _ _ _ (by rw [lineS_len]; omega) (by rw [lineS_len]; omega) (by rw [lineS_len]; omega) (lineS_nodot _ _)) ?k1Z9 lF' ?k3Z9 lN' ?k5Z9 ?kKZ9 ?kdZ9 ?kuZ9 ?kHZ9 ?_); (case k1Z9 => k_asm); (case k3Z9 => k_asm); (case k5Z9 => k_asm); (case kKZ9 => first | exact rfl | assumption); (case kdZ9 => ktr_room); (case kuZ9 => ktr_units); (case kHZ9 => trivial); clear lF' lN')); intro v9 h9 tk9 F9 N9 st9 o9; obtain ⟨t9, e9⟩ := o9; subst e9; (try dsimp only); (try k_fold))) | (((with_reducible show wpAny _ _ (call (Value.ref 115) [Value.int _ _, Value.int _ _]) _ _ _); ((k_here; (rename Fr _ _ _ _ => lF'); (rename News _ _ _ _ => lN'); k_dflt (refine' use_cl (line_claim _ _ _ _ _ (by omega) (by omega)) ?k1Z9 lF' ?k3Z9 lN' ?k5Z9 ?kKZ9 ?kdZ9 ?kuZ9 ?kHZ9 ?_); (case k1Z9 => k_asm); (case k3Z9 => k_asm); (case k5Z9 => k_asm); (case kKZ9 => first | exact rfl | assumption); (case kdZ9 => ktr_room); (case kuZ9 => ktr_units); (case kHZ9 => trivial); clear lF' lN')); intro v9 h9 tk9 F9 N9 st9 o9; obtain ⟨t9, e9⟩ := o9; subst e9; (try dsimp only); (try k_fold))) | ((k_here; (with_reducible show wpAny _ _ (subscriptTail _ (Expr.Slice none (some _) none _) _ _) _ _ _); (with_reducible rename Fr _ _ _ _ => F'); (with_reducible rename News _ _ _ _ => N'); (refine slice_none (s := ⟨_, _, _, _, _⟩) F' N' ?_ (hsz := ?hszZ9)); (case hszZ9 => (rw [sizeLine_eq]; omega)); intro _ _ _ _ _)) | ((k_here; k_openite; first | (refine ite_pos ?hxZ9 ?_; (case hxZ9 => first | with_reducible assumption | (simp only [decide_eq_true_eq, decide_eq_false_iff_not, Bool.not_eq_true', Bool.not_eq_false', bne_iff_ne, ne_eq]; omega))) | (refine ite_neg ?hxZ9 ?_; (case hxZ9 => first | with_reducible assumption | (simp only [decide_eq_true_eq, decide_eq_false_iff_not, Bool.not_eq_true', Bool.not_eq_false', bne_iff_ne, ne_eq, Bool.not_eq_true, Decidable.not_not]; omega))) | (refine ite_b (fun hc => ?_) (fun hc => ?_) <;> (try simp only [decide_eq_true_eq, decide_eq_false_iff_not, Bool.not_eq_true', Bool.not_eq_false', bne_iff_ne, ne_eq, bne_eq_false_iff_eq, Decidable.not_not, Int.not_lt, Int.not_le] at hc)))) | (fail_if_success (with_reducible show wpAny _ _ (exec (Stmt.While _ _ _ _) _) _ _ _)); (fail_if_success (with_reducible show wpAny _ _ (exec (Stmt.For _ _ _ _ _) _) _ _ _)); (fail_if_success (with_reducible show wpAny _ _ (pyIter _) _ _ _)); (fail_if_success (with_reducible show InvEndN _ _ _ _ _ _ _)); (fail_if_success (with_reducible show GEnd _ _ _ _ _ _ _)); (fail_if_success (with_reducible show GPost _ _ _ _ _ _ _ _ _)); first | (k_unfold; (try dsimp only)) | walk1 | (dsimp only; walk1) | (leave1; try dsimp only) | fail "no step"))
  refine' kst_end () ?eF ?eN ?en ?eo rfl trivial ?ek ?er trivial
  case eF => assumption
  case eN => assumption
  case en => (intro p hp; rw [List.mem_singleton.mp hp]; k_mem)
  case eo => (intro p hp; first | exact .tail _ hp | exact .tail _ (.tail _ hp) | exact .tail _ (.tail _ (.tail _ hp)) | exact .tail _ (.tail _ (.tail _ (.tail _ hp))) | exact .tail _ (.tail _ (.tail _ (.tail _ (.tail _ hp)))) | exact .tail _ (.tail _ (.tail _ (.tail _ (.tail _ (.tail _ hp))))) | exact .tail _ (.tail _ (.tail _ (.tail _ (.tail _ (.tail _ (.tail _ hp)))))) | exact .tail _ (.tail _ (.tail _ (.tail _ (.tail _ (.tail _ (.tail _ (.tail _ hp))))))))
  case ek => (intro p hp; cases hp)
  case er => (intro z h1 h2 h3; simp only [List.contains_cons, List.contains_nil, Bool.or_false, Bool.or_eq_false_iff, beq_eq_false_iff_ne, ne_eq] at h3; simp only [h1, h3, if_false, List.contains_cons, List.contains_nil, beq_iff_eq, Bool.or_eq_true, Bool.false_eq_true, or_self, false_or, or_false])

end Mine
theorem PySem.Challenge.cw_pg0263_01_holds : PySem.Challenge.rw_pg0263_01.Holds := by
  exact Mine.law_t
