import PyProof.Rows.All
import Wide.All
import OpenK.AllK
import Wide.FinOn
import PySem.Challenge.RW_sw0061_01
set_option Elab.async false
set_option compiler.extract_closed false
section
open PySem PySem.W PyProof.Rows
set_option maxRecDepth 100000
set_option maxHeartbeats 8000000
namespace Mine
open_top hd for PySem.Challenge.rw_sw0061_01
end Mine
end
section
open PySem PySem.W PyProof.Rows PySem.Calls PySem.Spec
set_option maxRecDepth 100000
set_option maxHeartbeats 8000000
namespace Mine

/-- a goal that is not walked further -/
noncomputable def Hold (P : Prop) : Prop := P
theorem Hold.out {P : Prop} (h : Hold P) : P := h
theorem Hold.mk {P : Prop} (h : P) : Hold P := h

/-- the end of a loop's test: its truth, the map as it was -/
noncomputable def TestEnd (h₀ : Heap) (L : Addr) (m : Str → Option Value) (news : List (Addr × Obj)) (s : Shared) (T : Prop) (b : Bool) (s₂ : Shared) : Prop :=
  (b = true ↔ T) ∧ ∃ h' tk', s₂ = { s with heap := h', toks := tk' } ∧ Fr h₀ L h' m ∧ News h₀ L h' news
/-- the end of a turn: one name turned -/
noncomputable def TurnEnd1 (h₀ : Heap) (L : Addr) (m₀ : Str → Option Value) (news : List (Addr × Obj)) (s : Shared) (y : Str) (v : Int) (f : Flow) (s₂ : Shared) : Prop :=
  f = .next ∧ ∃ h' tk' m₂, s₂ = { s with heap := h', toks := tk' } ∧ Fr h₀ L h' m₂ ∧ News h₀ L h' news ∧ (∃ t, m₂ y = some (.int v t)) ∧ ∀ z, z ≠ y → m₂ z = m₀ z

section
variable {prog : Program} {w : World} {A : Around} {E : Value → Shared → Prop} {Q : Flow → Shared → Prop} {s : Shared} {env : Env} {h₀ : Heap} {L : Addr}
theorem test_end {m : Str → Option Value} {news : List (Addr × Obj)} {T : Prop} {b : Bool} {h' : Heap} {tk' : Nat} (hb : b = true ↔ T) (F : Fr h₀ L h' m) (N : News h₀ L h' news) :
    TestEnd h₀ L m news s T b { s with heap := h', toks := tk' } := ⟨hb, h', tk', rfl, F, N⟩
theorem turn_end1 {m₀ m₂ : Str → Option Value} {news : List (Addr × Obj)} {y : Str} {v v' : Int} {t : Tok} {h' : Heap} {tk' : Nat} (F : Fr h₀ L h' m₂) (N : News h₀ L h' news) (hv : m₂ y = some (.int v' t)) (e : v' = v) (hr : ∀ z, z ≠ y → m₂ z = m₀ z) :
    TurnEnd1 h₀ L m₀ news s y v .next { s with heap := h', toks := tk' } := ⟨rfl, h', tk', m₂, rfl, F, N, ⟨t, e ▸ hv⟩, hr⟩

/-- a while that turns one int: at turn k it is g k, and the test holds just while k < n -/
theorem while_int1 {test : Expr} {body : List Stmt} {pos : Pos} {m₀ : Str → Option Value} {news : List (Addr × Obj)} {t₀ : Tok} (y : Str) (g : Nat → Int) (n : Nat)
    (F : Fr h₀ L s.heap m₀) (N : News h₀ L s.heap news) (hy : m₀ y = some (.int (g 0) t₀))
    (htest : ∀ k t h tk, k ≤ n → Fr h₀ L h (fun z => if z = y then some (.int (g k) t) else m₀ z) → News h₀ L h news →
      wpAny (model prog w) A (isTrue test env (eval test env)) (TestEnd h₀ L (fun z => if z = y then some (.int (g k) t) else m₀ z) news s (k < n)) E { s with heap := h, toks := tk })
    (hbody : ∀ k t h tk, k < n → Fr h₀ L h (fun z => if z = y then some (.int (g k) t) else m₀ z) → News h₀ L h news →
      wpAny (model prog w) A (execs body env) (TurnEnd1 h₀ L m₀ news s y (g (k + 1))) E { s with heap := h, toks := tk })
    (done : ∀ t h tk, Fr h₀ L h (fun z => if z = y then some (.int (g n) t) else m₀ z) → News h₀ L h news → Q .next { s with heap := h, toks := tk })
    (hE : PassesOwn (model prog w) A env E := by passes_own) :
    wpAny (model prog w) A (exec (.While test body [] pos) env) Q E s := by
  have split : ∀ {k : Nat} {t : Tok} {m : Str → Option Value}, m y = some (.int (g k) t) → (∀ z, z ≠ y → m z = m₀ z) → m = fun z => if z = y then some (.int (g k) t) else m₀ z := by
    intro k t m h1 h2
    funext z
    by_cases h : z = y
    · subst h; simp [h1]
    · simp [h, h2 z h]
  refine While_inv2 (fun r m nx => nx = news ∧ ∃ k t, k ≤ n ∧ r = n - k ∧ m y = some (.int (g k) t) ∧ ∀ z, z ≠ y → m z = m₀ z) F N ⟨rfl, 0, t₀, Nat.zero_le _, rfl, hy, fun _ _ => rfl⟩ ?_ hE
  rintro r m₁ nx h tk F₁ N₁ ⟨rfl, k, t, hk, rfl, h1, h2⟩
  rw [split h1 h2] at F₁
  refine wpAny_mono (htest k t h tk hk F₁ N₁) (fun b s₂ p => ?_) fun _ _ x => x
  obtain ⟨hb, h', tk', rfl, F', N'⟩ := p
  cases b with
  | false =>
    have : k = n := by
      rcases Nat.lt_or_ge k n with q | q
      · exact absurd (hb.mpr q) (by decide)
      · exact Nat.le_antisymm hk q
    subst this
    simp only [Bool.false_eq_true, if_false]
    exact done t h' tk' F' N'
  | true =>
    have hlt := hb.mp rfl
    simp only [if_true]
    refine wpAny_mono (hbody k t h' tk' hlt F' N') (fun f s₃ p => ?_) fun _ _ x => x
    obtain ⟨rfl, h'', tk'', m₂, e, F'', N'', ⟨t', hv⟩, hr⟩ := p
    exact ⟨h'', tk'', m₂, nx, n - (k + 1), e, F'', N'', Nat.sub_lt_sub_left hlt (Nat.lt_succ_self _), rfl, k + 1, t', hlt, rfl, hv, hr⟩
end
end Mine
end
section
open PySem PySem.W PyProof.Rows PySem.Calls PySem.Spec
set_option maxRecDepth 100000
set_option maxHeartbeats 8000000
namespace Mine
/-- a text by its codes -/
noncomputable def S (l : List Nat) : Str := ⟨l.toArray⟩
theorem S_cps (l : List Nat) : (S l).cps.toList = l := rfl
theorem S_len (l : List Nat) : (S l).length = l.length := by simp [S, Str.length]
theorem S_app (a b : List Nat) : S a ++ S b = S (a ++ b) := Str.ext' (by rw [Str.cps_append]; simp [S])
theorem S_inj {a b : List Nat} : S a = S b ↔ a = b := ⟨fun h => congrArg (fun x : Str => x.cps.toList) h, fun h => by rw [h]⟩
theorem S_beq {a b : List Nat} {v : Bool} (h : (S a == S b) = v) : v = decide (a = b) := by
  rw [← h]
  by_cases q : a = b
  · subst q; simp
  · rw [decide_eq_false q]; exact beq_false_of_ne fun e => q (S_inj.mp e)
theorem sl_from {l : List Nat} {n : Nat} (h : n ≤ l.length) : Txt.slice (S l) (some (n : Int)) none = S (l.drop n) := by
  have e := eq_of_beq (slice_closes_fromL (x := S l) (i := (n : Int)) (b := (l.length : Int)) (by omega) (by rw [S_len]; omega) (by rw [S_len]))
  rw [e]
  show S _ = S _
  rw [S_cps]
  congr 1
  rw [List.take_of_length_le (by simp)]
  simp
theorem sl_to {l : List Nat} {n : Nat} (h : n ≤ l.length) : Txt.slice (S l) none (some (n : Int)) = S (l.take n) := by
  have e := eq_of_beq (slice_closes_toL (x := S l) (j := (n : Int)) (by omega) (by rw [S_len]; omega))
  rw [e]
  show S _ = S _
  rw [S_cps]
  simp
theorem sl_to_neg {l : List Nat} {n : Nat} (h0 : 0 < n) (h : n ≤ l.length) : Txt.slice (S l) none (some (-(n : Int))) = S (l.take (l.length - n)) := by
  rw [slice_to_neg (by omega), S_len]
  have e : max 0 ((l.length : Int) + -(n : Int)) = ((l.length - n : Nat) : Int) := by lia
  rw [e, sl_to (Nat.sub_le _ _)]
theorem sl_all (x : Str) : Txt.slice x none none = x := by
  unfold Txt.slice
  have : (Builtin.Str.strSliceIndices none none 1 x.length).length = x.length := by
    simp only [Builtin.Str.strSliceIndices, sliceRange]; simp
    split <;> lia
  rw [this]
  simp
theorem it_nat {l : List Nat} {k : Nat} (h : k < l.length) : Txt.item (S l) (k : Int) = S [l[k]] := by
  unfold Txt.item Txt.charAt seqIndex?
  rw [S_len]
  simp only [show ¬ ((k : Int) < 0) by omega, if_false]
  have h1 : (decide (0 ≤ (k : Int)) && decide ((k : Int) < (l.length : Int))) = true := by simp; omega
  rw [if_pos h1]
  simp [S, h]
theorem it_neg {l : List Nat} {k : Nat} (h : k < l.length) : Txt.item (S l) (-(k : Int) - 1) = S [l[l.length - 1 - k]] := by
  have e : Txt.item (S l) (-(k : Int) - 1) = Txt.item (S l) ((l.length - 1 - k : Nat) : Int) := by
    unfold Txt.item Txt.charAt seqIndex?
    rw [S_len]
    simp only [show (-(k : Int) - 1 < 0) by omega, if_true, show ¬ (((l.length - 1 - k : Nat) : Int) < 0) by omega, if_false]
    have : -(k : Int) - 1 + (l.length : Int) = ((l.length - 1 - k : Nat) : Int) := by omega
    rw [this]
  rw [e, it_nat (Nat.lt_of_le_of_lt (Nat.sub_le _ _) (Nat.sub_lt (Nat.lt_of_le_of_lt (Nat.zero_le _) h) (by decide)))]
end Mine
end
section
open PySem PySem.W PyProof.Rows PySem.Calls PySem.Spec
set_option maxRecDepth 100000
set_option maxHeartbeats 8000000
namespace Mine
section
variable {prog : Program} {w : World} {A : Around} {E : Value → Shared → Prop} {s : Shared} {value slice : PySem.Expr} {h₀ : Heap} {L : Addr} {m : Str → Option Value} {news : List (Addr × Obj)} {l l' : List Nat} {t u : Tok} {n : Nat} {Q : Value → Shared → Prop}
theorem fit20 (h : l.length ≤ 1000) : (S l).length ≤ sizeLine := by rw [S_len, sizeLine_eq]; omega
theorem sub_from (hF : Fr h₀ L s.heap m) (hN : News h₀ L s.heap news) (hn : n ≤ l.length) (hz : l.length ≤ 1000) (he : l.drop n = l') (h : ∀ h' t' k, Fr h₀ L h' m → News h₀ L h' news → Q (.str (S l') t') { s with heap := h', toks := k })
    (hs : subscripted slice false (.str (S l) t) (.ref s.heap.objs.size) = operate [.ref s.heap.objs.size, .str (S l) t] (getItem (.str (S l) t) (.ref s.heap.objs.size)) := by with_unfolding_all rfl)
    (ht : ∀ r, letTemporaryGo value (.str (S l) t) r = pure () := by intro _; with_unfolding_all rfl) :
    wpAny (model prog w) A (subscriptTail value slice (.str (S l) t) (.ref s.heap.objs.size)) Q E { s with heap := s.heap.push { cls := .type "slice", data := .fields #[.int (n : Int) u, .none, .none] } } :=
  slice_strN_sn hF hN (fun h' t' k a b => by rw [sl_from hn, he]; exact h h' t' k a b) hs ht (fit20 hz)
theorem sub_to (hF : Fr h₀ L s.heap m) (hN : News h₀ L s.heap news) (hn : n ≤ l.length) (hz : l.length ≤ 1000) (he : l.take n = l') (h : ∀ h' t' k, Fr h₀ L h' m → News h₀ L h' news → Q (.str (S l') t') { s with heap := h', toks := k })
    (hs : subscripted slice false (.str (S l) t) (.ref s.heap.objs.size) = operate [.ref s.heap.objs.size, .str (S l) t] (getItem (.str (S l) t) (.ref s.heap.objs.size)) := by with_unfolding_all rfl)
    (ht : ∀ r, letTemporaryGo value (.str (S l) t) r = pure () := by intro _; with_unfolding_all rfl) :
    wpAny (model prog w) A (subscriptTail value slice (.str (S l) t) (.ref s.heap.objs.size)) Q E { s with heap := s.heap.push { cls := .type "slice", data := .fields #[.none, .int (n : Int) u, .none] } } :=
  slice_strN_ns hF hN (fun h' t' k a b => by rw [sl_to hn, he]; exact h h' t' k a b) hs ht (fit20 hz)
theorem sub_to_neg (hF : Fr h₀ L s.heap m) (hN : News h₀ L s.heap news) (h0 : 0 < n) (hn : n ≤ l.length) (hz : l.length ≤ 1000) (he : l.take (l.length - n) = l') (h : ∀ h' t' k, Fr h₀ L h' m → News h₀ L h' news → Q (.str (S l') t') { s with heap := h', toks := k })
    (hs : subscripted slice false (.str (S l) t) (.ref s.heap.objs.size) = operate [.ref s.heap.objs.size, .str (S l) t] (getItem (.str (S l) t) (.ref s.heap.objs.size)) := by with_unfolding_all rfl)
    (ht : ∀ r, letTemporaryGo value (.str (S l) t) r = pure () := by intro _; with_unfolding_all rfl) :
    wpAny (model prog w) A (subscriptTail value slice (.str (S l) t) (.ref s.heap.objs.size)) Q E { s with heap := s.heap.push { cls := .type "slice", data := .fields #[.none, .int (-(n : Int)) u, .none] } } :=
  slice_strN_ns hF hN (fun h' t' k a b => by rw [sl_to_neg h0 hn, he]; exact h h' t' k a b) hs ht (fit20 hz)
theorem sub_all (hF : Fr h₀ L s.heap m) (hN : News h₀ L s.heap news) (hz : l.length ≤ 1000) (h : ∀ h' t' k, Fr h₀ L h' m → News h₀ L h' news → Q (.str (S l) t') { s with heap := h', toks := k })
    (hs : subscripted slice false (.str (S l) t) (.ref s.heap.objs.size) = operate [.ref s.heap.objs.size, .str (S l) t] (getItem (.str (S l) t) (.ref s.heap.objs.size)) := by with_unfolding_all rfl)
    (ht : ∀ r, letTemporaryGo value (.str (S l) t) r = pure () := by intro _; with_unfolding_all rfl) :
    wpAny (model prog w) A (subscriptTail value slice (.str (S l) t) (.ref s.heap.objs.size)) Q E { s with heap := s.heap.push { cls := .type "slice", data := .fields #[.none, .none, .none] } } :=
  slice_strN_nn hF hN (fun h' t' k a b => by rw [sl_all]; exact h h' t' k a b) hs ht (fit20 hz)
theorem sub_item (hn : n < l.length) (hz : l.length ≤ 1000) (h : Q (.str (S [l.getD n 0]) s.toks) { s with toks := s.toks + 1 })
    (hs : subscripted slice false (.str (S l) t) (.int (n : Int) u) = operate [.str (S l) t, .int (n : Int) u] (getItem (.str (S l) t) (.int (n : Int) u)) := by with_unfolding_all rfl)
    (ht : ∀ r, letTemporaryGo value (.str (S l) t) r = pure () := by intro _; with_unfolding_all rfl) :
    wpAny (model prog w) A (subscriptTail value slice (.str (S l) t) (.int (n : Int) u)) Q E s :=
  item_str (fitsSsize_of (N := 9223372036854775808) (by omega) (by omega) (Int.le_refl _)) (by rw [S_len]; omega) (by rw [S_len]; omega) (fun _ => by
    rw [it_nat hn, show l[n] = l.getD n 0 by simp [List.getD, hn]]; exact h) hs ht
theorem sub_itemZ {i : Int} (h0 : 0 ≤ i) (hn : i < (l.length : Int)) (hz : l.length ≤ 1000) (h : Q (.str (S [l.getD i.toNat 0]) s.toks) { s with toks := s.toks + 1 })
    (hs : subscripted slice false (.str (S l) t) (.int i u) = operate [.str (S l) t, .int i u] (getItem (.str (S l) t) (.int i u)) := by with_unfolding_all rfl)
    (ht : ∀ r, letTemporaryGo value (.str (S l) t) r = pure () := by intro _; with_unfolding_all rfl) :
    wpAny (model prog w) A (subscriptTail value slice (.str (S l) t) (.int i u)) Q E s := by
  obtain ⟨n, rfl⟩ := Int.eq_ofNat_of_zero_le h0
  exact sub_item (by omega) hz h hs ht
theorem sub_item_neg (hn : n < l.length) (hz : l.length ≤ 1000) (h : Q (.str (S [l.getD (l.length - 1 - n) 0]) s.toks) { s with toks := s.toks + 1 })
    (hs : subscripted slice false (.str (S l) t) (.int (-(n : Int) - 1) u) = operate [.str (S l) t, .int (-(n : Int) - 1) u] (getItem (.str (S l) t) (.int (-(n : Int) - 1) u)) := by with_unfolding_all rfl)
    (ht : ∀ r, letTemporaryGo value (.str (S l) t) r = pure () := by intro _; with_unfolding_all rfl) :
    wpAny (model prog w) A (subscriptTail value slice (.str (S l) t) (.int (-(n : Int) - 1) u)) Q E s :=
  item_str (fitsSsize_of (N := 9223372036854775808) (by omega) (by omega) (Int.le_refl _)) (by rw [S_len]; omega) (by rw [S_len]; omega) (fun _ => by
    rw [it_neg hn, show l[l.length - 1 - n] = l.getD (l.length - 1 - n) 0 by simp [List.getD, show l.length - 1 - n < l.length by omega]]; exact h) hs ht
theorem truthy_S {Q : Bool → Shared → Prop} (hz : l.length ≤ 1000) (he : l.length = n) (h : Q (decide (0 < n)) { s with toks := s.toks + 1 + 1 }) : wpAny (model prog w) A (truthy (.str (S l) t)) Q E s := by
  refine P.truthy_str (by rw [S_len]; omega) ?_
  have e : (((S l).length : Int) != 0) = decide (0 < n) := by
    rw [S_len, he]
    by_cases q : 0 < n
    · rw [decide_eq_true q]; simp; omega
    · rw [decide_eq_false q]; simp; omega
  rw [e]
  exact h
end
end Mine
end
section
open PySem PySem.W PyProof.Rows PySem.Calls PySem.Spec
set_option maxRecDepth 100000
set_option maxHeartbeats 8000000
namespace Mine
section
variable {prog : Program} {w : World} {A : Around} {E : Value → Shared → Prop} {s : Shared} {value slice : PySem.Expr} {h₀ : Heap} {L a : Addr} {m : Str → Option Value} {news : List (Addr × Obj)} {l l' : List Nat} {t u : Tok} {n : Nat} {Q : Value → Shared → Prop} {name : Str} {scope : Scope} {cd : Value}
theorem len_S (hz : l.length ≤ 1000) (h : Q (.int (l.length : Int) (s.toks + 1)) { s with toks := s.toks + 1 + 1 }) : wpAny (model prog w) A (call (.builtin "len") [.str (S l) t]) Q E s := by
  refine SBL.len (by rw [S_len]; lia) ?_
  rw [S_len]; exact h
/-- «post or None», post not above nought -/
theorem or_none {x : Str} {p1 p2 p3 : Pos} {kk : Nat} (F : Fr h₀ L s.heap m) (hv : m x = some (.int (-(n : Int)) t)) (h : Q (if n = 0 then Value.none else .int (-(n : Int)) t) s)
    (hk : scope.kind = .function := by rfl) (hl : (envOf name scope L a cd).kindOf x = some .local := by rfl) (hd : (x == ("__debug__" : Str)) = false := by decide) :
    wpAny (model prog w) A (eval (.BoolOp .Or [.Name x p1, .Constant .none kk p2] p3) (envOf name scope L a cd)) Q E s := by
  refine BoolOp_or (ld F hv ?_ hk hl hd)
  refine truthy_int ?_
  by_cases q : n = 0
  · subst q
    rw [if_pos rfl] at h
    exact BoolOp_one (wpAny_Constant_none h)
  · rw [if_neg q] at h
    have : (-(n : Int) != 0) = true := by simp; lia
    rw [this]
    exact h
theorem sub_to_or (hF : Fr h₀ L s.heap m) (hN : News h₀ L s.heap news) (hn : n ≤ l.length) (hz : l.length ≤ 1000) (he : l.take (l.length - n) = l') (h : ∀ h' t' k, Fr h₀ L h' m → News h₀ L h' news → Q (.str (S l') t') { s with heap := h', toks := k })
    (hs : subscripted slice false (.str (S l) t) (.ref s.heap.objs.size) = operate [.ref s.heap.objs.size, .str (S l) t] (getItem (.str (S l) t) (.ref s.heap.objs.size)) := by with_unfolding_all rfl)
    (ht : ∀ r, letTemporaryGo value (.str (S l) t) r = pure () := by intro _; with_unfolding_all rfl) :
    wpAny (model prog w) A (subscriptTail value slice (.str (S l) t) (.ref s.heap.objs.size)) Q E { s with heap := s.heap.push { cls := .type "slice", data := .fields #[.none, if n = 0 then .none else .int (-(n : Int)) u, .none] } } := by
  by_cases q : n = 0
  · subst q
    simp only [if_true]
    have e : l = l' := by rw [← he]; simp
    subst e
    exact sub_all hF hN hz h hs ht
  · simp only [if_neg q]
    exact sub_to_neg hF hN (by lia) hn hz he h hs ht
end
theorem take_pre {x r : List Nat} : (x ++ r).take ((x ++ r).length - r.length) = x := by simp
theorem len_suf {x r : List Nat} : r.length ≤ (x ++ r).length := by simp
theorem tl1 {p x y r : List Nat} {k : Nat} {b : Bool} (h : (S [(p ++ (x ++ r)).getD k 0] == S [(p ++ (y ++ r)).getD k 0]) = b) (hk : k ≤ p.length) (hl : x.length = y.length) (h0 : 0 < x.length) (hx : x.getD 0 0 ≠ y.getD 0 0) : b = true ↔ k < p.length := by
  rw [S_beq h, decide_eq_true_eq]
  simp only [List.cons.injEq, and_true]
  rcases Nat.lt_or_ge k p.length with q | q
  · simp [List.getD, List.getElem?_append_left q, q]
  · have e : k = p.length := by lia
    subst e
    have e1 : (p ++ (x ++ r)).getD p.length 0 = x.getD 0 0 := by
      simp only [List.getD, List.getElem?_append_right (Nat.le_refl _), Nat.sub_self, List.getElem?_append_left h0]
    have e2 : (p ++ (y ++ r)).getD p.length 0 = y.getD 0 0 := by
      simp only [List.getD, List.getElem?_append_right (Nat.le_refl _), Nat.sub_self, List.getElem?_append_left (hl ▸ h0 : 0 < y.length)]
    rw [e1, e2]
    constructor
    · intro e; exact absurd e hx
    · intro e; lia
theorem sub_a {a r k : Nat} (h : k < r) : a + r - 1 - k = a + (r - 1 - k) := by
  rw [Nat.sub_sub, Nat.sub_sub]
  exact Nat.add_sub_assoc (by rw [Nat.add_comm]; exact h) a
theorem sub_b {a r k : Nat} (h : k = r) : a + r - 1 - k = a - 1 := by
  rw [h, Nat.sub_sub, Nat.add_comm 1 r, ← Nat.sub_sub, Nat.add_sub_cancel]
theorem tl2 {x y r : List Nat} {k : Nat} {b : Bool} (h : (S [(x ++ r).getD ((x ++ r).length - 1 - k) 0] == S [(y ++ r).getD ((y ++ r).length - 1 - k) 0]) = b) (hk : k ≤ r.length) (hl : x.length = y.length) (h0 : 0 < x.length) (hx : x.getD (x.length - 1) 0 ≠ y.getD (y.length - 1) 0) : b = true ↔ k < r.length := by
  rw [S_beq h, decide_eq_true_eq]
  simp only [List.cons.injEq, and_true, List.length_append]
  rcases Nat.lt_or_ge k r.length with q | q
  · have e1 := sub_a (a := x.length) q
    have e2 := sub_a (a := y.length) q
    rw [e1, e2]
    simp only [List.getD, List.getElem?_append_right (Nat.le_add_right _ _), Nat.add_sub_cancel_left, q]
  · have e := Nat.le_antisymm hk q
    have e1 := sub_b (a := x.length) e
    have e2 := sub_b (a := y.length) e
    rw [e1, e2]
    have f1 : (x ++ r).getD (x.length - 1) 0 = x.getD (x.length - 1) 0 := by
      simp [List.getD, List.getElem?_append_left (show x.length - 1 < x.length by lia)]
    have f2 : (y ++ r).getD (y.length - 1) 0 = y.getD (y.length - 1) 0 := by
      simp [List.getD, List.getElem?_append_left (show y.length - 1 < y.length by lia)]
    rw [f1, f2]
    constructor
    · intro e; exact absurd e hx
    · intro e; lia
end Mine
end
section
open PySem PySem.W PyProof.Rows PySem.Calls PySem.Spec
set_option maxRecDepth 100000
set_option maxHeartbeats 8000000
namespace Mine
/-- a claim on a def, over any heap: it hands back R, and all that stood stands -/
noncomputable abbrev Cl (w : World) (mg mb : Str → Option Value) (mean : ExcName → Option Value) (f : Addr) (news : List (Addr × Obj)) (sz : Nat) (pre : Prop) (vs : List Value) (R : Tok → Value) : Prop :=
  CbRec PySem.Challenge.rw_sw0061_01.row.prog w (hd.heap_39 w.params) hd.view_39 (looseW hd.view_39 [Str.ofString "Whitespace"]) mean mg mb f news [] pre sz vs R
/-- _substitution_cost -/
noncomputable def subC (c d : Nat) : Int := if c = d then 0 else if Txt.lower (S [c]) = Txt.lower (S [d]) then 1 else 2
theorem S1 {c d : Nat} {v : Bool} (h : (S [c] == S [d]) = v) : v = decide (c = d) := by rw [S_beq h]; simp
theorem subst_cl (w : World) (mg mb mean) : ∀ (news) (a b : Nat) (ta tb : Tok), Cl w mg mb mean 150 news 0 True [.str (S [a]) ta, .str (S [b]) tb] (fun t => .int (subC a b) t) := by
  intro news a b ta tb
  unfold Cl CbRec CbLists CbRet
  k_fill
  intros
  rename_i hret
  refine wpAny_call ?_
  k_dflt cell_enter
  k_with_none
  k_with "call builtin:str.lower" => ((refine SCL.lower (Nat.le_of_ble_eq_true rfl) ?_); intro _)
  k_steps
  all_goals refine cb_retI hret ?_ (by k_asm) (by k_asm)
  · rename (S [a] == S [b]) = true => h
    have := S1 h
    unfold subC
    rw [if_pos (by simpa using this)]
  · rename (S [a] == S [b]) = false => h
    have h' := S1 h
    rename (Txt.lower (S [a]) == Txt.lower (S [b])) = true => h2
    unfold subC
    rw [if_neg (by simpa using h'), if_pos (eq_of_beq h2)]
  · rename (S [a] == S [b]) = false => h
    have h' := S1 h
    rename (Txt.lower (S [a]) == Txt.lower (S [b])) = false => h2
    unfold subC
    rw [if_neg (by simpa using h'), if_neg (by intro e; rw [e] at h2; simp at h2)]

/-! the rows of the distance -/
noncomputable def inRes (x : List Nat) (bc : Nat) (row : List Int) (d r : Int) (k : Nat) : Int :=
  if d + subC bc (x.getD k 0) < (if row.getD k 0 < r then row.getD k 0 else r) + 2 then d + subC bc (x.getD k 0) else (if row.getD k 0 < r then row.getD k 0 else r) + 2
noncomputable def inStep (x : List Nat) (bc : Nat) (st : List Int × Int × Int × Int) (k : Nat) : List Int × Int × Int × Int :=
  (st.1.set k (inRes x bc st.1 st.2.1 st.2.2.1 k), st.1.getD k 0, inRes x bc st.1 st.2.1 st.2.2.1 k, if inRes x bc st.1 st.2.1 st.2.2.1 k < st.2.2.2 then inRes x bc st.1 st.2.1 st.2.2.1 k else st.2.2.2)
noncomputable def inF (x : List Nat) (bc : Nat) (row : List Int) (b : Nat) : Nat → List Int × Int × Int × Int
  | 0 => (row, b * 2, b * 2, 9223372036854775807)
  | k + 1 => inStep x bc (inF x bc row b k) k
noncomputable def row0 (n : Nat) : List Int := (List.range n).map fun (i : Nat) => 2 + 2 * (i : Int)
noncomputable def outF (x y : List Nat) : Nat → List Int × Int × Int
  | 0 => (row0 x.length, 0, 0)
  | b + 1 => let r := inF x (y.getD b 0) (outF x y b).1 b x.length; (r.1, r.2.2.1, r.2.2.2)
section
variable {prog : Program} {w : World} {A : Around} {E : Value → Shared → Prop} {s : Shared} {h₀ : Heap} {L r : Addr} {m : Str → Option Value} {news : List (Addr × Obj)} {t₀ u₀ v₀ : Tok} {n : Nat} {Q : Value → Shared → Prop}
theorem ints_of : ∀ (vs : List Value) (ns : List Int), vs.length = ns.length → (∀ (j : Nat) (v : Value), vs[j]? = some v → ∃ t, v = .int (ns.getD j 0) t) → IntsAre vs ns
  | [], [], _, _ => IntsAre.nil
  | [], _ :: _, e, _ => by simp at e
  | _ :: _, [], e, _ => by simp at e
  | v :: r, a :: ns, e, h => by
    obtain ⟨t, ht⟩ := h 0 v rfl
    have hv : v = .int a t := by rw [ht]; simp
    subst hv
    refine IntsAre.cons _ _ (ints_of r ns (by simpa using e) fun j v hj => ?_)
    obtain ⟨t', ht'⟩ := h (j + 1) v hj
    exact ⟨t', by rw [ht']; simp⟩
theorem size2 {n : Nat} : Builtin.Range.rangeSize 2 (2 * ((n : Int) + 1)) 2 = (n : Int) := by
  show (if (2 : Int) > 0 then (if (2 : Int) < 2 * ((n : Int) + 1) then (2 * ((n : Int) + 1) - 2 - 1) / 2 + 1 else 0) else _) = (n : Int)
  rw [if_pos (by decide)]
  split <;> lia
theorem small2 {n : Nat} (hz : n ≤ 1000) : Builtin.Range.small 2 (2 * ((n : Int) + 1)) 2 = true := by
  unfold Builtin.Range.small
  rw [size2]
  have e : ∀ i : Int, -5000 ≤ i → i ≤ 5000 → Builtin.Range.rangeFitsLong i = true := by
    intro i h1 h2
    unfold Builtin.Range.rangeFitsLong
    rw [Bool.and_eq_true, decide_eq_true_eq, decide_eq_true_eq]
    have : ((2 : Int) ^ 63) = 9223372036854775808 := by decide
    lia
  rw [e _ (by lia) (by lia), e _ (by lia) (by lia), e _ (by lia) (by lia), e _ (by lia) (by lia), if_pos (by decide), Bool.or_true]
  rfl
theorem list_row0 (hh : A.handled = none) (F : Fr h₀ L s.heap m) (N : News h₀ L s.heap news) (hr : IsRange s.heap r 2 (2 * ((n : Int) + 1)) 2 t₀ u₀ v₀) (hz : n ≤ 1000)
    (h : ∀ D us c h' tk, Fr h₀ L h' m → News h₀ L h' ((D, listOf (List.toArray us) c) :: news) → (∀ p ∈ news, p.1 < D) → IntsAre us (row0 n) → Q (.ref D) { s with heap := h', toks := tk }) :
    wpAny (model prog w) A (call (.type "list") [.ref r]) Q E s := by
  refine call_list_range (n := n) hh hr ?_ ?_ (by lia) fun h' tk acc c hk hD hI => ?_
  · exact small2 hz
  · exact size2
  have hD' : h'.get? s.heap.objs.size = some (listOf (List.toArray acc.toList) c) := by
    rw [Array.toArray_toList]
    exact hD
  refine h _ acc.toList c h' tk (F.keeps hk) (news_pushed F N hk hD' rfl) (fun p hp => Heap.lt_size (N p hp).1) (ints_of _ _ (by rw [Array.length_toList, hI.1]; simp [row0]) fun j v hj => ?_)
  have hj' : acc[j]? = some v := by rw [← hj, Array.getElem?_toList]
  obtain ⟨t, ht⟩ := hI.2 j v hj'
  have hlt : j < n := by
    have := (Array.getElem?_eq_some_iff.mp hj').1
    rw [hI.1] at this; exact this
  refine ⟨t, ht.trans ?_⟩
  congr 1
  simp [row0, List.getD, hlt]
  lia
end
theorem in_start {x : List Nat} {bc : Nat} {row : List Int} {k : Int} (h : 0 ≤ k) : (row, k * 2, k * 2, (9223372036854775807 : Int)) = inF x bc row k.toNat 0 := by
  simp [inF, Int.toNat_of_nonneg h]
theorem ks_snoc {pre : List Int} {k : Int} (hp : pre = rangeKs 0 pre.length) (hk : k = 0 + (pre.length : Int)) : pre ++ [k] = rangeKs 0 (pre ++ [k]).length := by
  have e : (pre ++ [k]).length = pre.length + 1 := by simp
  rw [e]
  unfold rangeKs at hp ⊢
  rw [List.range_succ, List.map_append, ← hp, hk]
  rfl
theorem in_turn {x : List Nat} {bc n b : Nat} {row₀ row : List Int} {d r mn res mn' : Int} {pre : List Int} {k : Int} (hp : pre = rangeKs 0 pre.length) (h : (row, d, r, mn) = inF x bc row₀ b pre.length) (hl : row.length = n) (hk : k = 0 + (pre.length : Int))
    (hres : res = if d + subC bc (x.getD k.toNat 0) < (if row.getD k.toNat 0 < r then row.getD k.toNat 0 else r) + 2 then d + subC bc (x.getD k.toNat 0) else (if row.getD k.toNat 0 < r then row.getD k.toNat 0 else r) + 2)
    (hm : mn' = if res < mn then res else mn) :
    pre ++ [k] = rangeKs 0 (pre ++ [k]).length ∧ (row.set k.toNat res, row.getD k.toNat 0, res, mn') = inF x bc row₀ b (pre ++ [k]).length ∧ (row.set k.toNat res).length = n := by
  refine ⟨ks_snoc hp hk, ?_, by simpa using hl⟩
  have e : (pre ++ [k]).length = pre.length + 1 := by simp
  have ek : k.toNat = pre.length := by lia
  rw [e, inF, ← h, hm, hres, ek]
  rfl
theorem out_turn {x y : List Nat} {M : Nat} {row₀ row : List Int} {d res mn : Int} {pre : List Int} {k : Int} (hp : pre = rangeKs 0 pre.length) (h0 : row₀ = (outF x y pre.length).1) (hk : k = 0 + (pre.length : Int))
    (h : (row, d, res, mn) = inF x (y.getD k.toNat 0) row₀ k.toNat M) (hM : M = x.length) (hl : row.length = x.length) :
    pre ++ [k] = rangeKs 0 (pre ++ [k]).length ∧ row = (outF x y (pre ++ [k]).length).1 ∧ res = (outF x y (pre ++ [k]).length).2.1 ∧ row.length = x.length := by
  have e : (pre ++ [k]).length = pre.length + 1 := by simp
  have ek : k.toNat = pre.length := by lia
  rw [h0, ek, hM] at h
  refine ⟨ks_snoc hp hk, ?_, ?_, hl⟩
  · rw [e, outF]; exact congrArg (fun z => z.1) h
  · rw [e, outF]; exact congrArg (fun z => z.2.2.1) h
theorem out_stop {x y : List Nat} {M : Nat} {row₀ row : List Int} {d res mn c : Int} {pre : List Int} {k : Int} (hk : k = 0 + (pre.length : Int)) (h0 : row₀ = (outF x y pre.length).1)
    (h : (row, d, res, mn) = inF x (y.getD k.toNat 0) row₀ k.toNat M) (hM : M = x.length) (hne : ∀ b, b < x.length → (outF x y (b + 1)).2.2 ≤ c) (hp : pre.length < x.length) : mn ≤ c := by
  have ek : k.toNat = pre.length := by lia
  rw [h0, ek, hM] at h
  have e : mn = (outF x y (pre.length + 1)).2.2 := by rw [outF]; exact congrArg (fun z => z.2.2.2) h
  rw [e]
  exact hne _ hp
theorem ks_len (n : Nat) : (rangeKs 0 ((n : Int) - 0).toNat).length = n := by rw [rangeKs_length]; lia
theorem cbr {dp K N M : Nat} (h : dp + K + 1 < M) (hN : N + 1 ≤ K) : dp + 1 + N + 1 < M :=
  Nat.lt_of_le_of_lt (Nat.succ_le_succ (by rw [Nat.add_assoc, Nat.add_comm 1 N]; exact Nat.add_le_add_left hN dp)) h
theorem cbu {un K N M : Nat} (h : un + 8 * (K + 1) < M) (hN : N + 1 ≤ K) : un + 3 + 8 * (N + 1) < M := by omega
theorem cbr0 {dp K M : Nat} (h : dp + K + 1 < M) (hN : 0 + 1 ≤ K) : dp + 1 + 0 + 1 < M := cbr h hN
theorem cbu0 {un K M : Nat} (h : un + 8 * (K + 1) < M) (hN : 0 + 1 ≤ K) : un + 3 + 8 * (0 + 1) < M := cbu h hN
theorem cbr1 {dp K M : Nat} (h : dp + K + 1 < M) (hN : 1 + 1 ≤ K) : dp + 1 + 1 + 1 < M := cbr h hN
theorem cbu1 {un K M : Nat} (h : un + 8 * (K + 1) < M) (hN : 1 + 1 ≤ K) : un + 3 + 8 * (1 + 1) < M := cbu h hN
theorem cbr2 {dp K M : Nat} (h : dp + K + 1 < M) (hN : 2 + 1 ≤ K) : dp + 1 + 2 + 1 < M := cbr h hN
theorem cbu2 {un K M : Nat} (h : un + 8 * (K + 1) < M) (hN : 2 + 1 ≤ K) : un + 3 + 8 * (2 + 1) < M := cbu h hN
theorem cbr9 {dp K M : Nat} (h : dp + K + 1 < M) (hN : 9 + 1 ≤ K) : dp + 1 + 9 + 1 < M := cbr h hN
theorem cbu9 {un K M : Nat} (h : un + 8 * (K + 1) < M) (hN : 9 + 1 ≤ K) : un + 3 + 8 * (9 + 1) < M := cbu h hN
theorem rg0 (b : Nat) : ((((b : Int) + 2 - 0).toNat : Nat) : Int) = ((b + 2 : Nat) : Int) := by rw [Int.sub_zero]; rfl
theorem rg1 (b : Nat) : ((((b : Int) + 2 - 1).toNat : Nat) : Int) = ((b + 1 : Nat) : Int) := by rw [Int.add_sub_assoc]; rfl
theorem rgm (b n : Nat) : ((((if (n : Int) < (b : Int) then (n : Int) else (b : Int)) + 1 - 0).toNat : Nat) : Int) = ((min b n + 1 : Nat) : Int) := by
  rcases Nat.lt_or_ge n b with h | h
  · rw [if_pos (Int.ofNat_lt.mpr h), Nat.min_eq_right (Nat.le_of_lt h), Int.sub_zero]; rfl
  · rw [if_neg (fun q => Nat.lt_irrefl _ (Nat.lt_of_lt_of_le (Int.ofNat_lt.mp q) h)), Nat.min_eq_left h, Int.sub_zero]; rfl
theorem cast_sub1 {k : Nat} (h : (k : Int) ≠ 0) : (k : Int) - 1 = ((k - 1 : Nat) : Int) := by
  cases k with
  | zero => exact absurd rfl h
  | succ n => exact (show ((n : Int) + 1) - 1 = (n : Int) from Int.add_sub_cancel _ _)
theorem cbe {dp K M : Nat} (h : dp + K + 1 < M) : dp < M := Nat.lt_of_le_of_lt (Nat.le_trans (Nat.le_add_right dp K) (Nat.le_succ _)) h
theorem cbeZ {dp M : Nat} (h : dp + 0 + 1 < M) : dp < M := cbe (K := 0) h
/-! what is made opaque in a walk, so that the proof's terms stay short -/
theorem hideQ {α : Type} {M : Model} {A : Around} {t : Sem α} {Q : α → Shared → Prop} {E : Value → Shared → Prop} {s : Shared} (h : ∀ QQ, Q = QQ → wpAny M A t QQ E s) : wpAny M A t Q E s := h Q rfl
theorem hideTk {α : Type} {M : Model} {A : Around} {t : Sem α} {Q : α → Shared → Prop} {E : Value → Shared → Prop} {h : Heap} {g : Array GenState} {d : Drawn} {tk : Nat} {os : OsState} (k : ∀ tk', wpAny M A t Q E ⟨h, g, d, tk', os⟩) : wpAny M A t Q E ⟨h, g, d, tk, os⟩ := k tk
theorem hideE {M : Model} {A : Around} {body : List Stmt} {env : Env} {Q : Flow → Shared → Prop} {E : Value → Shared → Prop} {s : Shared} (hp : PassesOwn M A env E) (h : ∀ EE, PassesOwn M A env EE → wpAny M A (execs body env) Q EE s) : wpAny M A (execs body env) Q E s := h E hp
theorem hideB {h₀ h : Heap} {L a : Addr} {o : Obj} {base : List (Addr × Obj)} (N : News h₀ L h ((a, o) :: base)) (hb : ∀ p ∈ base, @LT.lt Nat _ p.1 a) : ∃ bs, bs = base ∧ (∀ p ∈ bs, @LT.lt Nat _ p.1 a) ∧ News h₀ L h ((a, o) :: bs) := ⟨_, rfl, hb, N⟩
theorem hideM0 {h₀ h : Heap} {L : Addr} {m : Str → Option Value} (F : Fr h₀ L h m) : ∃ mm, Fr h₀ L h mm := ⟨m, F⟩
theorem hideM1 {h₀ h : Heap} {L : Addr} {m : Str → Option Value} {v1 : Value} (x1 : Str) (F : Fr h₀ L h m) (e1 : m x1 = some v1) : ∃ mm, mm x1 = some v1 ∧ Fr h₀ L h mm := ⟨m, e1, F⟩
theorem hideM2 {h₀ h : Heap} {L : Addr} {m : Str → Option Value} {v1 v2 : Value} (x1 x2 : Str) (F : Fr h₀ L h m) (e1 : m x1 = some v1) (e2 : m x2 = some v2) :
    ∃ mm, (mm x1 = some v1 ∧ mm x2 = some v2) ∧ Fr h₀ L h mm := ⟨m, ⟨e1, e2⟩, F⟩
theorem hideM3 {h₀ h : Heap} {L : Addr} {m : Str → Option Value} {v1 v2 v3 : Value} (x1 x2 x3 : Str) (F : Fr h₀ L h m) (e1 : m x1 = some v1) (e2 : m x2 = some v2) (e3 : m x3 = some v3) :
    ∃ mm, (mm x1 = some v1 ∧ mm x2 = some v2 ∧ mm x3 = some v3) ∧ Fr h₀ L h mm := ⟨m, ⟨e1, e2, e3⟩, F⟩
theorem hideM4 {h₀ h : Heap} {L : Addr} {m : Str → Option Value} {v1 v2 v3 v4 : Value} (x1 x2 x3 x4 : Str) (F : Fr h₀ L h m) (e1 : m x1 = some v1) (e2 : m x2 = some v2) (e3 : m x3 = some v3) (e4 : m x4 = some v4) :
    ∃ mm, (mm x1 = some v1 ∧ mm x2 = some v2 ∧ mm x3 = some v3 ∧ mm x4 = some v4) ∧ Fr h₀ L h mm := ⟨m, ⟨e1, e2, e3, e4⟩, F⟩
theorem hideM5 {h₀ h : Heap} {L : Addr} {m : Str → Option Value} {v1 v2 v3 v4 v5 : Value} (x1 x2 x3 x4 x5 : Str) (F : Fr h₀ L h m) (e1 : m x1 = some v1) (e2 : m x2 = some v2) (e3 : m x3 = some v3) (e4 : m x4 = some v4) (e5 : m x5 = some v5) :
    ∃ mm, (mm x1 = some v1 ∧ mm x2 = some v2 ∧ mm x3 = some v3 ∧ mm x4 = some v4 ∧ mm x5 = some v5) ∧ Fr h₀ L h mm := ⟨m, ⟨e1, e2, e3, e4, e5⟩, F⟩
theorem hideM6 {h₀ h : Heap} {L : Addr} {m : Str → Option Value} {v1 v2 v3 v4 v5 v6 : Value} (x1 x2 x3 x4 x5 x6 : Str) (F : Fr h₀ L h m) (e1 : m x1 = some v1) (e2 : m x2 = some v2) (e3 : m x3 = some v3) (e4 : m x4 = some v4) (e5 : m x5 = some v5) (e6 : m x6 = some v6) :
    ∃ mm, (mm x1 = some v1 ∧ mm x2 = some v2 ∧ mm x3 = some v3 ∧ mm x4 = some v4 ∧ mm x5 = some v5 ∧ mm x6 = some v6) ∧ Fr h₀ L h mm := ⟨m, ⟨e1, e2, e3, e4, e5, e6⟩, F⟩
theorem hideM7 {h₀ h : Heap} {L : Addr} {m : Str → Option Value} {v1 v2 v3 v4 v5 v6 v7 : Value} (x1 x2 x3 x4 x5 x6 x7 : Str) (F : Fr h₀ L h m) (e1 : m x1 = some v1) (e2 : m x2 = some v2) (e3 : m x3 = some v3) (e4 : m x4 = some v4) (e5 : m x5 = some v5) (e6 : m x6 = some v6) (e7 : m x7 = some v7) :
    ∃ mm, (mm x1 = some v1 ∧ mm x2 = some v2 ∧ mm x3 = some v3 ∧ mm x4 = some v4 ∧ mm x5 = some v5 ∧ mm x6 = some v6 ∧ mm x7 = some v7) ∧ Fr h₀ L h mm := ⟨m, ⟨e1, e2, e3, e4, e5, e6, e7⟩, F⟩
theorem hideM8 {h₀ h : Heap} {L : Addr} {m : Str → Option Value} {v1 v2 v3 v4 v5 v6 v7 v8 : Value} (x1 x2 x3 x4 x5 x6 x7 x8 : Str) (F : Fr h₀ L h m) (e1 : m x1 = some v1) (e2 : m x2 = some v2) (e3 : m x3 = some v3) (e4 : m x4 = some v4) (e5 : m x5 = some v5) (e6 : m x6 = some v6) (e7 : m x7 = some v7) (e8 : m x8 = some v8) :
    ∃ mm, (mm x1 = some v1 ∧ mm x2 = some v2 ∧ mm x3 = some v3 ∧ mm x4 = some v4 ∧ mm x5 = some v5 ∧ mm x6 = some v6 ∧ mm x7 = some v7 ∧ mm x8 = some v8) ∧ Fr h₀ L h mm := ⟨m, ⟨e1, e2, e3, e4, e5, e6, e7, e8⟩, F⟩
theorem hideM9 {h₀ h : Heap} {L : Addr} {m : Str → Option Value} {v1 v2 v3 v4 v5 v6 v7 v8 v9 : Value} (x1 x2 x3 x4 x5 x6 x7 x8 x9 : Str) (F : Fr h₀ L h m) (e1 : m x1 = some v1) (e2 : m x2 = some v2) (e3 : m x3 = some v3) (e4 : m x4 = some v4) (e5 : m x5 = some v5) (e6 : m x6 = some v6) (e7 : m x7 = some v7) (e8 : m x8 = some v8) (e9 : m x9 = some v9) :
    ∃ mm, (mm x1 = some v1 ∧ mm x2 = some v2 ∧ mm x3 = some v3 ∧ mm x4 = some v4 ∧ mm x5 = some v5 ∧ mm x6 = some v6 ∧ mm x7 = some v7 ∧ mm x8 = some v8 ∧ mm x9 = some v9) ∧ Fr h₀ L h mm := ⟨m, ⟨e1, e2, e3, e4, e5, e6, e7, e8, e9⟩, F⟩
theorem hideN6 {h₀ h : Heap} {L : Addr} {m : Str → Option Value} {v1 v2 v3 v4 v5 v6 : Value} (x1 x2 x3 x4 x5 x6 : Str) (F : Fr h₀ L h m) (e1 : m x1 = some v1) (e2 : m x2 = some v2) (e3 : m x3 = some v3) (e4 : m x4 = some v4) (e5 : m x5 = some v5) (e6 : m x6 = some v6) :
    ∃ mm, (mm x1 = some v1 ∧ mm x2 = some v2 ∧ mm x3 = some v3 ∧ mm x4 = some v4 ∧ mm x5 = some v5 ∧ mm x6 = some v6) ∧ (∀ z, mm z = m z) ∧ Fr h₀ L h mm := ⟨m, ⟨e1, e2, e3, e4, e5, e6⟩, fun _ => rfl, F⟩
end Mine
end
section
open PySem PySem.W PyProof.Rows
namespace Mine
local macro_rules | `(tactic| walk_at $s:str) => `(tactic| k_extra $s)
local macro_rules | `(tactic| ktr_room) => `(tactic| assumption)
section
open PySem PySem.W PyProof.Rows PySem.Calls PySem.Spec
set_option maxRecDepth 100000
set_option maxHeartbeats 40000000
noncomputable abbrev LevPre (p x y r : List Nat) (c : Int) : Prop := (x.length = y.length) ∧ (p.length + (x.length + r.length) ≤ 20) ∧ (0 ≤ c) ∧ (0 < x.length) ∧ (x.getD 0 0 ≠ y.getD 0 0) ∧ (∀ b, b < x.length → (outF x y (b + 1)).2.2 ≤ c) ∧ (x.getD (x.length - 1) 0 ≠ y.getD (y.length - 1) 0)
theorem lev_cl (w : World) (mg mb mean) : ∀ (news) (p x y r : List Nat) (c : Int) (ta tb tc : Tok), Cl w mg mb mean 157 news 1 (LevPre p x y r c) [.str (S (p ++ (x ++ r))) ta, .str (S (p ++ (y ++ r))) tb, .int c tc] (fun t => .int (outF x y x.length).2.1 t) := by
  intro news p x y r c ta tb tc
  unfold Cl CbRec CbLists CbRet
  k_fill
  intro _ _ _ _ _ _ _ _ _ _ _ _ _ _ _ _ _ _ _ _ _ _ _ pre _ _
  intros
  rename_i hret
  obtain ⟨hlen, hle, hc0, hpos, hx1, hne, hx2⟩ := pre
  have hdpE := cbe (M := recursionLimit) ‹_ + _ + 1 < recursionLimit›
  refine wpAny_call ?_
  k_dflt cell_enter
  rename Fr _ _ _ _ => lF
  obtain ⟨mm, ⟨ea, eb, ec⟩, lF1⟩ := hideM3 (Str.ofString "a") (Str.ofString "b") (Str.ofString "max_cost") lF rfl rfl rfl
  clear lF
  k_with_none
  k_with "eval Name" => (k_dflt ((refine nameX_L (by k_asm) (by assumption) ?_ (by rfl) (by rfl)); k_whole))
  k_with "exec While BoolOp cons nil" => (refine Hold.out ?_)
  k_with "truthy str" => (k_dflt (refine truthy_S (by first | lia | (simp; lia)) (by first | (simp only [List.length_drop, List.length_append, List.length_take]; rfl) | rfl) ?_))
  k_with "subscriptTail Name Slice str ref" => (k_dflt (first
    | (refine sub_from (n := List.length p) (by assumption) (by assumption) (by simp) (by simp; lia) List.drop_left ?_)
    | (refine sub_from (by assumption) (by assumption) (by simp; lia) (by simp; lia) rfl ?_)
    | (refine sub_to_or (n := List.length r) (by assumption) (by assumption) len_suf (by rw [List.length_append]; lia) take_pre ?_)
    | (refine sub_to_or (by assumption) (by assumption) (by simp; lia) (by simp; lia) rfl ?_)))
  k_with "subscriptTail Name Name str int" => (k_dflt first | (refine sub_itemZ (by first | assumption | lia) (by first | lia | (simp; lia)) (by first | lia | (simp; lia)) ?_))
  k_with "subscriptTail Name BinOp str int" => (k_dflt (refine sub_item_neg (by simp; lia) (by simp; lia) ?_))
  k_with "call builtin:len" => (k_dflt (refine len_S (by first | lia | (simp; lia)) ?_))
  k_with "call type:list cons nil" => (refine Hold.out ?_)
  k_with "eval BoolOp" => (k_dflt (refine or_none (by assumption) rfl ?_))
  k_steps
  · exfalso
    rename (S _ == S _) = true => h
    have e := S_beq h
    have e2 : x = y := by simpa using e
    exact hx1 (by rw [e2])
  · rename_i hab _ _ _
    refine Hold.mk ?_
    try dsimp only
    refine hideTk ?_
    intro tkA
    rename Fr _ _ _ _ => lF
    rename News _ _ _ _ => lN
    refine' while_int1 (Str.ofString "pre") (fun k => (k:Int)) p.length lF lN rfl ?_ ?_ ?_ (by passes_own)
    · intro k t h tk hk F1 N1
      clear hx2 lF lN
      k_steps
      all_goals refine test_end ?_ (by k_asm) (by k_asm)
      all_goals first | exact tl1 (by assumption) hk hlen hpos hx1 | (constructor <;> intro <;> first | lia | contradiction)
    · intro k t h tk hk F1 N1
      k_steps
      refine turn_end1 (by k_asm) (by k_asm) rfl (by first | assumption | lia) (by intro z hz; simp [hz])
    · intro t h tk F1 N1
      k_steps
      refine Hold.mk ?_
      try dsimp only
      refine hideTk ?_
      intro tkB
      rename Fr _ _ _ _ => lF
      rename News _ _ _ _ => lN
      obtain ⟨mm2, ⟨ea2, eb2, ec2, ep2⟩, lF2⟩ := hideM4 (Str.ofString "a") (Str.ofString "b") (Str.ofString "max_cost") (Str.ofString "post") lF rfl rfl (by first | exact rfl | assumption) rfl
      clear lF ea eb ec
      refine' while_int1 (Str.ofString "post") (fun k => -(k:Int)) r.length lF2 lN (by assumption) ?_ ?_ ?_ (by passes_own)
      · intro k t h tk hk F1 N1
        clear hx1
        k_steps
        all_goals try refine test_end ?_ (by k_asm) (by k_asm)
        all_goals first | exact tl2 (by assumption) hk hlen hpos hx2 | (constructor <;> intro <;> first | lia | contradiction) | skip
      · intro k t h tk hk F1 N1
        k_steps
        refine turn_end1 (by k_asm) (by k_asm) rfl (by first | assumption | lia) (by intro z hz; simp [hz])
      · intro t h tk F1 N1
        k_steps
        refine Hold.mk ?_
        try dsimp only
        refine hideTk ?_
        intro tkC
        rename IsRange _ _ _ _ _ _ _ _ => rgX
        rename Fr _ _ _ _ => lF
        rename News _ _ _ _ => lN
        obtain ⟨mm3, ⟨ea3, eb3, ec3⟩, lF3⟩ := hideM3 (Str.ofString "a") (Str.ofString "b") (Str.ofString "max_cost") lF rfl rfl (by first | exact rfl | assumption)
        clear lF ea2 eb2 ec2
        k_dflt (refine list_row0 rfl lF3 lN rgX (by first | assumption | lia) ?_)
        intro D us cc h' tk' lF lN l1 hI
        (try k_lt l1)
        k_with "pyIter ref" => (k_of "bindex" => k_dflt k_state (fun pre row res => pre = rangeKs 0 pre.length ∧ row = (outF x y pre.length).1 ∧ res = (outF x y pre.length).2.1 ∧ row.length = x.length) "row" "result")
        k_with "pyIter ref" => (k_of "index" => k_dflt k_state_given ["bindex", "row!"] (fun bi row0 pre row dist res mn => pre = rangeKs 0 pre.length ∧ (row, dist, res, mn) = inF x (y.getD bi.toNat 0) row0 bi.toNat pre.length ∧ row.length = x.length) "row" "distance" "result" "minimum")
        k_with "call ref cons nil" => ((k_dflt (refine subst_cl w mg mb mean _ _ _ _ _ _ _ _ _ _ _ _ _ _ _ _ _ _ _ _ _ _ (by k_asm) (by k_asm) (by k_asm) (by k_asm) (by k_asm) (by first | exact rfl | assumption) trivial (by first | exact cbr0 (by assumption) (by decide) | exact cbr1 (by assumption) (by decide) | exact cbr2 (by assumption) (by decide) | exact cbr9 (by assumption) (by decide) | cb_room) (by first | exact cbu0 (by assumption) (by decide) | exact cbu1 (by assumption) (by decide) | exact cbu2 (by assumption) (by decide) | exact cbu9 (by assumption) (by decide) | cb_units) ?_)); (intro t9 h9 tk9 F9 N9); (try dsimp only); (try k_fold))
        k_with "state" => (k_dflt (first
          | exact in_turn (by assumption) (by assumption) (by assumption) (by assumption) rfl (by first | exact (if_pos (by assumption)).symm | exact (if_neg (by assumption)).symm)
          | exact out_turn (by assumption) (by assumption) (by assumption) (by assumption) (ks_len _) (by assumption)
          | (refine ⟨rfl, ?_, by assumption⟩; exact in_start (by first | assumption | lia))
          | (refine ⟨rfl, rfl, rfl, ?_⟩; simp [row0]; done)
          | fail "none"))
        k_steps
        · exfalso
          have q := out_stop (x := x) (y := y) (by assumption) (by assumption) (by assumption) (ks_len _) hne (by first | assumption | lia)
          lia
        · refine cb_retI hret ?_ (by k_asm) (by first | k_asm | exact cb_drop (by assumption) (fun p hp => List.mem_cons_of_mem _ hp) | fail "none")
          rename _ = (outF x y _).2.1 => e
          rw [ks_len] at e
          rw [e, hlen]
end
section
open PySem PySem.W PyProof.Rows PySem.Calls PySem.Spec
set_option maxRecDepth 100000
set_option maxHeartbeats 8000000
theorem runs_toks {M : Model} {Γ : PySem.Ctx} {p : Pos} {t : Sem Fin} {fs : List Frame} {s s' : Shared} {e : End} (h : Runs M Γ p t fs s e s') : s.toks ≤ s'.toks := by
  induction h with
  | done | raise | yield => exact Nat.le_refl _
  | fresh _ ih => exact Nat.le_trans (Nat.le_succ _) ih
  | call _ _ i1 i2 => exact Nat.le_trans i1 i2
  | resumeFresh _ _ _ _ i1 i2 => exact Nat.le_trans i1 i2
  | resumeSuspended _ _ _ _ i1 i2 => exact Nat.le_trans i1 i2
  | segRet _ _ i1 i2 => exact Nat.le_trans i1 i2
  | segGen _ _ i1 i2 => exact Nat.le_trans i1 i2
  | segSuspGen _ _ _ _ i1 i2 => exact Nat.le_trans i1 i2
  | _ => assumption
theorem wakes_toks {M : Model} {Γ : PySem.Ctx} {p : Pos} {g : Nat} {r : Resume} {s s' : Shared} {res : GenResult} (h : Wakes M Γ p g r s res s') : s.toks ≤ s'.toks := by
  unfold Wakes at h
  split at h
  · exact h.elim
  · split at h
    · obtain ⟨_, _, h, _, _, rfl⟩ := h
      exact Nat.le_trans (Nat.le_refl _) (runs_toks h : (s.setGen g .running).toks ≤ _)
    · rw [h.2]; exact Nat.le_refl _
    · rw [h.2]; exact Nat.le_refl _
  · obtain ⟨_, _, h, _, _, rfl⟩ := h
    exact Nat.le_trans (Nat.le_refl _) (runs_toks h : (s.setGen g .running).toks ≤ _)
  · rw [h.2]; exact Nat.le_refl _
  · rw [h.2]; exact Nat.le_refl _
theorem wp_toks {α : Type} {M : Model} {Γ : PySem.Ctx} (t : Sem α) : ∀ {Q : α → Pos → Shared → Prop} {E : Value → Pos → Shared → Prop} {p : Pos} {s : Shared} {T : Nat}, T ≤ s.toks → Sem.wp M Γ t Q E p s →
    Sem.wp M Γ t (fun a p' s' => T ≤ s'.toks ∧ Q a p' s') (fun e p' s' => T ≤ s'.toks ∧ E e p' s') p s := by
  induction t with
  | pure a => intro Q E p s T h1 h; exact ⟨h1, h⟩
  | raise e => intro Q E p s T h1 h; exact ⟨h1, h⟩
  | unsupported | finish | register | yield | fork | await => intro Q E p s T h1 h; exact h.elim
  | load a part k ih => intro Q E p s T h1 h; obtain ⟨o, ho, h⟩ := h; exact ⟨o, ho, ih o h1 h⟩
  | update a part f k ih => intro Q E p s T h1 h; exact ⟨h.1, ih () (s := { s with heap := s.heap.update a f }) h1 h.2⟩
  | alloc o k ih => intro Q E p s T h1 h; exact ih _ (s := { s with heap := s.heap.push o }) h1 h
  | fresh k ih => intro Q E p s T h1 h; exact ih _ (s := { s with toks := s.toks + 1 }) (Nat.le_succ_of_le h1) h
  | choose src n k ih => intro Q E p s T h1 h; exact ⟨h.1, ih _ (s := { s with drawn := s.drawn.bump src }) h1 h.2⟩
  | os q l k ih => intro Q E p s T h1 h; exact ih _ (s := { s with os := (Os.step s.os q).1 }) h1 h
  | call c hd g l k ih =>
    intro Q E p s T h1 h
    obtain ⟨r, s', hr, h⟩ := h
    exact ⟨r, s', hr, ih r (Nat.le_trans h1 (runs_toks hr)) h⟩
  | genState g k ih => intro Q E p s T h1 h; obtain ⟨st, hst, h⟩ := h; exact ⟨st, hst, ih _ h1 h⟩
  | newGen c k ih => intro Q E p s T h1 h; exact ih _ (s := { s with gens := s.gens.push (.fresh c) }) h1 h
  | resume g r l k ih =>
    intro Q E p s T h1 h
    obtain ⟨res, s', hr, h⟩ := h
    exact ⟨res, s', hr, ih res (Nat.le_trans h1 (wakes_toks hr)) h⟩
  | _ => rename_i ih; intro Q E p s T h1 h; exact ih _ h1 h
/-- tokens never fall: what is behind may lean on it -/
theorem wpAny_toks {α : Type} {M : Model} {A : Around} {t : Sem α} {Q : α → Shared → Prop} {E : Value → Shared → Prop} {s : Shared} {T : Nat} (hT : T ≤ s.toks)
    (h : wpAny M A t (fun a s' => T ≤ s'.toks → Q a s') (fun e s' => T ≤ s'.toks → E e s') s) : wpAny M A t Q E s := fun Γ p hΓ =>
  Sem.wp_mono M Γ t (post := fun a p' s' => T ≤ s'.toks ∧ (T ≤ s'.toks → Q a s')) (exc := fun e p' s' => T ≤ s'.toks ∧ (T ≤ s'.toks → E e s')) (fun _ _ _ x => x.2 x.1) (fun _ _ _ x => x.2 x.1) p s (wp_toks t hT (h Γ p hΓ))
end
section
open PySem PySem.W PyProof.Rows PySem.Calls PySem.Spec
set_option maxRecDepth 100000
set_option maxHeartbeats 2000000
/-- Gauss's binomials, as the law reckons them -/
noncomputable def gaussF (q : Int) : Nat → Nat → Int
  | 0, k => if 0 < k then 0 else 1
  | n + 1, k => if n + 1 < k then 0 else if k = 0 ∨ k = n + 1 then 1 else gaussF q n (k - 1) + q ^ k * gaussF q n k
theorem gauss_bits {q : Int} (hq : Builtin.Int.intBits q ≤ 64) : ∀ n k, n ≤ 12 → Builtin.Int.intBits (gaussF q n k) ≤ 1000 * (n + 1)
  | 0, k, _ => by
    unfold gaussF
    split
    · decide
    · decide
  | n + 1, k, hn => by
    unfold gaussF
    split
    · exact Nat.le_trans (by decide : Builtin.Int.intBits 0 ≤ 1) (by first | assumption | lia)
    split
    · exact Nat.le_trans (by decide : Builtin.Int.intBits 1 ≤ 1) (by first | assumption | lia)
    · have h1 := gauss_bits hq n (k - 1) (by first | assumption | lia)
      have h2 := gauss_bits hq n k (by first | assumption | lia)
      have h3 := PySem.intBits_pow_le hq k
      have h4 := bits_mul h3 h2
      have h5 := bits_add h1 h4
      lia
section
variable {prog : Program} {w : World} {A : Around} {E : Value → Shared → Prop} {s : Shared} {Q : Value → Shared → Prop} {q b : Int} {t u : Tok}
theorem pow_q (hq : Builtin.Int.intBits q ≤ 1000) (h0 : 0 ≤ b) (hb : b ≤ 100) (h : Q (.int (q ^ b.toNat) s.toks) { s with toks := s.toks + 1 }) : wpAny (model prog w) A (binaryOp .Pow (.int q t) (.int b u)) Q E s := by
  refine pow_int h0 ?_ h
  have h1 : (Builtin.Int.intBits q : Int) ≤ 1000 := by first | assumption | lia
  have h2 : (Builtin.Int.intBits q : Int) * b ≤ 1000 * 100 := Int.mul_le_mul h1 hb h0 (by decide)
  have : (2 : Int) ^ 27 = 134217728 := by decide
  lia
theorem ipow_q (hq : Builtin.Int.intBits q ≤ 1000) (h0 : 0 ≤ b) (hb : b ≤ 100) (h : Q (.int (q ^ b.toNat) s.toks) { s with toks := s.toks + 1 }) : wpAny (model prog w) A (inplaceOp .Pow (.int q t) (.int b u)) Q E s := by
  refine ipow_int h0 ?_ h
  have h1 : (Builtin.Int.intBits q : Int) ≤ 1000 := by first | assumption | lia
  have h2 : (Builtin.Int.intBits q : Int) * b ≤ 1000 * 100 := Int.mul_le_mul h1 hb h0 (by decide)
  have : (2 : Int) ^ 27 = 134217728 := by decide
  lia
theorem mul_q {x y : Int} {m n : Nat} (hx : Builtin.Int.intBits x ≤ m) (hy : Builtin.Int.intBits y ≤ n) (hz : m + n ≤ 134217728) (h : Q (.int (x * y) s.toks) { s with toks := s.toks + 1 }) : wpAny (model prog w) A (binaryOp .Mult (.int x t) (.int y u)) Q E s :=
  mul_int h (mulOk_of_bits hx hy hz)
end
theorem bnd1 {k n : Nat} (hk : k ≤ 12) (hn : n ≤ 12) : 64 * k + 1 + 1000 * n ≤ 134217728 := Nat.le_trans (Nat.add_le_add (Nat.succ_le_succ (Nat.mul_le_mul_left 64 hk)) (Nat.mul_le_mul_left 1000 hn)) (by decide)
noncomputable abbrev GaussPre (n k : Nat) (a b q : Int) : Prop := (a = n) ∧ (b = k) ∧ (n ≤ 12) ∧ (k ≤ 12) ∧ (Builtin.Int.intBits q ≤ 64)
theorem gauss_cl (w : World) (mg mb mean) : ∀ (n : Nat) (news) (k : Nat) (a b q : Int) (ta tb tq : Tok), Cl w mg mb mean 193 news n (GaussPre n k a b q) [.int a ta, .int b tb, .int q tq] (fun t => .int (gaussF q n k) t) := by
  intro n
  induction n with
  | zero =>
    intro news k a b q ta tb tq
    unfold Cl CbRec CbLists CbRet
    k_fill
    intro _ _ _ _ _ _ _ _ _ _ _ _ _ _ _ _ _ _ _ _ _ _ _ pre _ _
    intros
    rename_i hret
    obtain ⟨rfl, rfl, hn, hk, hq⟩ := pre
    first | (have hdpE := cbe (M := recursionLimit) ‹_ + _ + 1 < recursionLimit›) | (have hdpE := cbeZ (M := recursionLimit) ‹_ + 0 + 1 < recursionLimit›)
    refine wpAny_call ?_
    k_dflt cell_enter
    k_with_none
    k_steps
    all_goals refine cb_retI hret ?_ (by k_asm) (by k_asm)
    · rename (((0 : Nat) : Int)) < _ => h1
      unfold gaussF; rw [if_pos (by first | assumption | lia)]
    all_goals (unfold gaussF; rw [if_neg (by first | assumption | lia)])
  | succ n ih =>
    intro news k a b q ta tb tq
    unfold Cl CbRec CbLists CbRet
    k_fill
    intro _ _ _ _ _ _ _ _ _ _ _ _ _ _ _ _ _ _ _ _ _ _ _ pre _ _
    intros
    rename_i hret
    obtain ⟨rfl, rfl, hn, hk, hq⟩ := pre
    first | (have hdpE := cbe (M := recursionLimit) ‹_ + _ + 1 < recursionLimit›) | (have hdpE := cbeZ (M := recursionLimit) ‹_ + 0 + 1 < recursionLimit›)
    refine wpAny_call ?_
    k_dflt cell_enter
    k_with_none
    have hk100 : (k : Int) ≤ 100 := Int.ofNat_le.mpr (Nat.le_trans hk (by decide))
    k_with "binaryOp Pow int int" => (k_dflt (refine pow_q (by first | assumption | lia) (by first | assumption | lia) (by first | assumption | lia) ?_))
    k_with "binaryOp Mult int int" => (k_dflt (refine mul_q (PySem.intBits_pow_le hq _) (gauss_bits hq _ _ (by first | assumption | lia)) (by first | exact bnd1 hk hn | lia) ?_))
    k_with "call ref cons nil" => ((k_dflt (first
      | (refine ih _ (k - 1) _ _ _ _ _ _ _ _ _ _ _ _ _ _ _ _ _ _ _ _ _ _ _ (by k_asm) (by k_asm) (by k_asm) (by k_asm) (by k_asm) (by first | exact rfl | assumption) ⟨by first | assumption | lia, cast_sub1 (by assumption), by first | assumption | lia, Nat.le_trans (Nat.sub_le _ _) hk, hq⟩ (by exact cbr (by assumption) (Nat.le_refl _)) (by exact cbu (by assumption) (Nat.le_refl _)) ?_)
      | (refine ih _ k _ _ _ _ _ _ _ _ _ _ _ _ _ _ _ _ _ _ _ _ _ _ _ (by k_asm) (by k_asm) (by k_asm) (by k_asm) (by k_asm) (by first | exact rfl | assumption) ⟨by first | assumption | lia, by first | assumption | lia, by first | assumption | lia, by first | assumption | lia, hq⟩ (by exact cbr (by assumption) (Nat.le_refl _)) (by exact cbu (by assumption) (Nat.le_refl _)) ?_))); (intro t9 h9 tk9 F9 N9); (try dsimp only); (try k_fold))
    k_steps
    all_goals refine cb_retI hret ?_ (by k_asm) (by k_asm)
    · unfold gaussF; rw [if_pos (by first | exact Int.ofNat_lt.mp (by assumption) | lia)]
    · unfold gaussF; rw [if_neg (by lia), if_pos (by first | exact .inl (Int.ofNat.inj (by assumption)) | exact .inr (Int.ofNat.inj (by assumption)) | lia)]
    · unfold gaussF; rw [if_neg (by lia), if_pos (by first | exact .inl (Int.ofNat.inj (by assumption)) | exact .inr (Int.ofNat.inj (by assumption)) | lia)]
    · conv => rhs; unfold gaussF
      rw [if_neg (by first | exact fun q => absurd (Int.ofNat_lt.mpr q) (by assumption) | lia), if_neg (by first | exact fun q => q.elim (fun e => absurd (congrArg (Nat.cast : Nat → Int) e) (by assumption)) (fun e => absurd (congrArg (Nat.cast : Nat → Int) e) (by assumption)) | lia), Int.toNat_natCast]
end
section
open PySem PySem.W PyProof.Rows PySem.Calls PySem.Spec
set_option maxRecDepth 100000
set_option maxHeartbeats 2000000
/-- what the law awaits -/
noncomputable def dueF (b t z k : Nat) (q : Int) : Int :=
  q ^ (z * ((k + z - 1) / z) * k) * gaussF (q ^ z) (b / z + k - (k + z - 1) / z) k * gaussF (q ^ z) (k / z + t - k) (t - k)
noncomputable abbrev DuePre (b t z k : Nat) (q : Int) : Prop := (1 ≤ z) ∧ (z ≤ 6) ∧ (b ≤ 5) ∧ (t ≤ 5) ∧ (k ≤ b) ∧ (k ≤ t) ∧ (q.natAbs ≤ 1000)
theorem due_up : ∀ z, z ≤ 6 → 1 ≤ z → ∀ k, k ≤ 5 → (k + z - 1) / z ≤ k ∧ z * ((k + z - 1) / z) * k ≤ 100 ∧ z * ((k + z - 1) / z) ≤ 100 := by decide
section
variable {prog : Program} {w : World} {A : Around} {E : Value → Shared → Prop} {s : Shared} {Q : Value → Shared → Prop} {a b : Int} {t u : Tok}
theorem fdiv_n {n m d : Nat} (hd : n / m = d) (ha : a = n) (hb : b = m) (hm : 0 < m) (hn : n ≤ 1000) (hm2 : m ≤ 1000) (h : Q (.int (d : Int) s.toks) { s with toks := s.toks + 1 }) : wpAny (model prog w) A (binaryOp .FloorDiv (.int a t) (.int b u)) Q E s := by
  subst ha hb hd
  refine floordiv_int (by first | assumption | lia) ?_ (Or.inl (PyProof.noPylong_small (by first | assumption | lia)))
  have e : Int.fdiv (n : Int) (m : Int) = ((n / m : Nat) : Int) := by
    rw [Int.fdiv_eq_ediv_of_nonneg _ (by first | assumption | lia)]
    rfl
  rw [e]; exact h
theorem mul_n {n m : Nat} (ha : a = n) (hb : b = m) (hm : n ≤ 1000) (h : Q (.int ((n * m : Nat) : Int) s.toks) { s with toks := s.toks + 1 }) : wpAny (model prog w) A (binaryOp .Mult (.int a t) (.int b u)) Q E s := by
  refine mul_int ?_ (PySem.IntMulOk.of_left ?_)
  · have e : a * b = ((n * m : Nat) : Int) := by rw [ha, hb]; simp
    rw [e]; exact h
  · rw [ha]; exact intBits_cast_le (by rw [sizeLine_eq]; lia)
end
theorem due_cl (w : World) (mg mb mean) : ∀ (news) (b t z k : Nat) (q : Int) (tb tt tz tk tq : Tok), Cl w mg mb mean 200 news 14 (DuePre b t z k q) [.int b tb, .int t tt, .int z tz, .int k tk, .int q tq] (fun tok => .int (dueF b t z k q) tok) := by
  intro news b t z k q tb tt tz tk tq
  unfold Cl CbRec CbLists CbRet
  k_fill
  intro _ _ _ _ _ _ _ _ _ _ _ _ _ _ _ _ _ _ _ _ _ _ _ pre _ _
  intros
  rename_i hret
  obtain ⟨hz0, hz, hb, ht, hkb, hkt, hq⟩ := pre
  obtain ⟨hu1, hu2, hu3⟩ := due_up z hz hz0 k (by first | assumption | lia)
  have hd1 : b / z ≤ b := Nat.div_le_self _ _
  have hd2 : k / z ≤ k := Nat.div_le_self _ _
  have hdue : dueF b t z k q = q ^ (z * ((k + z - 1) / z) * k) * gaussF (q ^ z) (b / z + k - (k + z - 1) / z) k * gaussF (q ^ z) (k / z + t - k) (t - k) := rfl
  obtain ⟨up, eup⟩ : ∃ up, (k + z - 1) / z = up := ⟨_, rfl⟩
  obtain ⟨d1, ed1⟩ : ∃ d, b / z = d := ⟨_, rfl⟩
  obtain ⟨d2, ed2⟩ : ∃ d, k / z = d := ⟨_, rfl⟩
  rw [eup] at hu1 hu2 hu3
  rw [ed1] at hd1
  rw [ed2] at hd2
  rw [eup, ed1, ed2] at hdue
  rw [hdue] at hret
  have hqb : Builtin.Int.intBits q ≤ 10 := intBits_le_iff.mpr (by first | assumption | lia)
  have hqz : Builtin.Int.intBits (q ^ z) ≤ 64 := Nat.le_trans (PySem.intBits_pow_le hqb z) (by first | assumption | lia)
  have hM1 : d1 + k - up ≤ 12 := Nat.le_trans (Nat.sub_le _ _) (Nat.le_trans (Nat.add_le_add (Nat.le_trans hd1 hb) (Nat.le_trans hkb hb)) (by decide))
  have hM2 : d2 + t - k ≤ 12 := Nat.le_trans (Nat.sub_le _ _) (Nat.le_trans (Nat.add_le_add (Nat.le_trans hd2 (Nat.le_trans hkt ht)) ht) (by decide))
  have hM3 : t - k ≤ 12 := Nat.le_trans (Nat.sub_le _ _) (Nat.le_trans ht (by decide))
  have hM4 : k ≤ 12 := Nat.le_trans hkt (Nat.le_trans ht (by decide))
  have hC3 : (t : Int) - (k : Int) = ((t - k : Nat) : Int) := (Int.ofNat_sub hkt).symm
  have hN1 : d1 + k - up + 1 ≤ 14 := Nat.le_trans (Nat.succ_le_succ hM1) (by decide)
  have hN2 : d2 + t - k + 1 ≤ 14 := Nat.le_trans (Nat.succ_le_succ hM2) (by decide)
  have hP1 : 1000 * (d1 + k - up + 1) ≤ 20000 := Nat.le_trans (Nat.mul_le_mul_left 1000 hN1) (by decide)
  have hP2 : 1000 * (d2 + t - k + 1) ≤ 20000 := Nat.le_trans (Nat.mul_le_mul_left 1000 hN2) (by decide)
  first | (have hdpE := cbe (M := recursionLimit) ‹_ + _ + 1 < recursionLimit›) | (have hdpE := cbeZ (M := recursionLimit) ‹_ + 0 + 1 < recursionLimit›)
  refine wpAny_call ?_
  k_dflt cell_enter
  k_with_none
  k_with "binaryOp FloorDiv int int" => (k_dflt (first
    | (refine fdiv_n (n := k + z - 1) (m := z) eup (by first | assumption | lia) rfl (by first | assumption | lia) (by first | assumption | lia) (by first | assumption | lia) ?_)
    | (refine fdiv_n (n := b) (m := z) ed1 (by first | assumption | lia) rfl (by first | assumption | lia) (by first | assumption | lia) (by first | assumption | lia) ?_)
    | (refine fdiv_n (n := k) (m := z) ed2 (by first | assumption | lia) rfl (by first | assumption | lia) (by first | assumption | lia) (by first | assumption | lia) ?_)))
  k_with "binaryOp Pow int int" => (k_dflt (refine pow_q (by first | assumption | lia) (by first | assumption | lia) (by first | assumption | lia) ?_))
  k_with "binaryOp Mult int int" => (k_dflt (first
    | (refine mul_n (n := z) (m := up) rfl rfl (by first | assumption | lia) ?_)
    | (refine mul_n (n := z * up) (m := k) rfl rfl (by first | assumption | lia) ?_)
    | fail "none"))
  k_with "call ref cons nil" => ((k_dflt (refine gauss_cl w mg mb mean (d2 + t - k) _ (t - k) _ _ _ _ _ _ _ _ _ _ _ _ _ _ _ _ _ _ _ _ _ _ _ (by k_asm) (by k_asm) (by k_asm) (by k_asm) (by k_asm) (by first | exact rfl | assumption) ⟨by first | assumption | lia, by first | assumption | lia, by first | assumption | lia, by first | assumption | lia, hqz⟩ (by exact cbr (by assumption) (by assumption)) (by exact cbu (by assumption) (by assumption)) ?_)); (intro t9 h9 tk9 F9 N9); (try dsimp only); (try k_fold))
  k_with "call ref cons nil" => ((k_dflt (refine gauss_cl w mg mb mean (d1 + k - up) _ k _ _ _ _ _ _ _ _ _ _ _ _ _ _ _ _ _ _ _ _ _ _ _ (by k_asm) (by k_asm) (by k_asm) (by k_asm) (by k_asm) (by first | exact rfl | assumption) ⟨by first | assumption | lia, by first | assumption | lia, by first | assumption | lia, by first | assumption | lia, hqz⟩ (by exact cbr (by assumption) (by assumption)) (by exact cbu (by assumption) (by assumption)) ?_)); (intro t9 h9 tk9 F9 N9); (try dsimp only); (try k_fold))
  k_with "binaryOp Mult int int" => (k_dflt (first
    | (refine mul_n (n := z) (m := up) rfl rfl (by first | assumption | lia) ?_)
    | (refine mul_n (n := z * up) (m := k) rfl rfl (by first | assumption | lia) ?_)
    | (refine mul_q (m := 1001) (n := 20000) (Nat.le_trans (PySem.intBits_pow_le hqb _) (by first | assumption | lia)) (Nat.le_trans (gauss_bits hqz _ _ (by first | assumption | lia)) (by first | assumption | lia)) (by first | assumption | lia) ?_)
    | (refine mul_q (m := 21001) (n := 20000) (bits_mul (m := 1001) (n := 20000) (Nat.le_trans (PySem.intBits_pow_le hqb _) (by first | assumption | lia)) (Nat.le_trans (gauss_bits hqz _ _ (by first | assumption | lia)) (by first | assumption | lia))) (Nat.le_trans (gauss_bits hqz _ _ (by first | assumption | lia)) (by first | assumption | lia)) (by first | assumption | lia) ?_)
    | fail "none"))
  k_steps
  all_goals refine cb_retI hret ?_ (by k_asm) (by k_asm)
  rfl
end
section
open PySem PySem.W PyProof.Rows PySem.Calls PySem.Spec
set_option maxRecDepth 100000
set_option maxHeartbeats 2000000
theorem add_cl (w : World) (mg mb mean) : ∀ (news) (a b : Int) (ta tb : Tok), Cl w mg mb mean 101 news 0 True [.int a ta, .int b tb] (fun t => .int (a + b) t) := by
  intro news a b ta tb
  unfold Cl CbRec CbLists CbRet
  k_fill
  intros
  rename_i hret
  first | (have hdpE := cbe (M := recursionLimit) ‹_ + _ + 1 < recursionLimit›) | (have hdpE := cbeZ (M := recursionLimit) ‹_ + 0 + 1 < recursionLimit›)
  refine wpAny_call ?_
  k_dflt cell_enter
  k_with_none
  k_steps
  exact cb_retI hret rfl (by k_asm) (by k_asm)
theorem sub_cl (w : World) (mg mb mean) : ∀ (news) (a b : Int) (ta tb : Tok), Cl w mg mb mean 115 news 0 True [.int a ta, .int b tb] (fun t => .int (a - b) t) := by
  intro news a b ta tb
  unfold Cl CbRec CbLists CbRet
  k_fill
  intros
  rename_i hret
  first | (have hdpE := cbe (M := recursionLimit) ‹_ + _ + 1 < recursionLimit›) | (have hdpE := cbeZ (M := recursionLimit) ‹_ + 0 + 1 < recursionLimit›)
  refine wpAny_call ?_
  k_dflt cell_enter
  k_with_none
  k_steps
  exact cb_retI hret rfl (by k_asm) (by k_asm)
theorem floordiv_cl (w : World) (mg mb mean) : ∀ (news) (a b : Int) (ta tb : Tok) (n m d : Nat), Cl w mg mb mean 108 news 0 (a = n ∧ b = m ∧ 0 < m ∧ n ≤ 1000 ∧ m ≤ 1000 ∧ n / m = d) [.int a ta, .int b tb] (fun t => .int (d : Int) t) := by
  intro news a b ta tb n m d
  unfold Cl CbRec CbLists CbRet
  k_fill
  intro _ _ _ _ _ _ _ _ _ _ _ _ _ _ _ _ _ _ _ _ _ _ _ pre _ _
  intros
  rename_i hret
  obtain ⟨ha, hb, h1, h2, h3, hd⟩ := pre
  first | (have hdpE := cbe (M := recursionLimit) ‹_ + _ + 1 < recursionLimit›) | (have hdpE := cbeZ (M := recursionLimit) ‹_ + 0 + 1 < recursionLimit›)
  refine wpAny_call ?_
  k_dflt cell_enter
  k_with_none
  k_with "binaryOp FloorDiv int int" => (k_dflt (refine fdiv_n hd ha hb h1 h2 h3 ?_))
  k_steps
  exact cb_retI hret rfl (by k_asm) (by k_asm)
theorem ipow_cl (w : World) (mg mb mean) : ∀ (news) (a b : Int) (ta tb : Tok), Cl w mg mb mean 143 news 0 (Builtin.Int.intBits a ≤ 1000 ∧ 0 ≤ b ∧ b ≤ 100) [.int a ta, .int b tb] (fun t => .int (a ^ b.toNat) t) := by
  intro news a b ta tb
  unfold Cl CbRec CbLists CbRet
  k_fill
  intro _ _ _ _ _ _ _ _ _ _ _ _ _ _ _ _ _ _ _ _ _ _ _ pre _ _
  intros
  rename_i hret
  obtain ⟨h1, h2, h3⟩ := pre
  first | (have hdpE := cbe (M := recursionLimit) ‹_ + _ + 1 < recursionLimit›) | (have hdpE := cbeZ (M := recursionLimit) ‹_ + 0 + 1 < recursionLimit›)
  refine wpAny_call ?_
  k_dflt cell_enter
  k_with_none
  k_with "inplaceOp Pow int int" => (k_dflt (refine ipow_q h1 h2 h3 ?_))
  k_steps
  exact cb_retI hret rfl (by k_asm) (by k_asm)
end
section
open PySem PySem.W PyProof.Rows PySem.Calls PySem.Spec
set_option maxRecDepth 100000
set_option maxHeartbeats 8000000
/-- an iterator: n items, the tokens at T or above throughout -/
structure Wk (prog : Program) (w : World) (A : Around) (T : Nat) (I : Addr) (fp : List Addr) (n : Nat) (P : Nat → Value → Prop) (St : Nat → Heap → Prop) : Prop where
  frame : ∀ i h h', St i h → (∀ b ∈ fp, ∀ o, h.get? b = some o → h'.get? b = some o) → St i h'
  item : ∀ i (s : Shared) (Q : Option Value → Shared → Prop) (E : Value → Shared → Prop), i < n → T ≤ s.toks → St i s.heap →
    (∀ v h' tk, P i v → St (i + 1) h' → T ≤ tk → (∀ b o, b ≠ I → s.heap.get? b = some o → h'.get? b = some o) → Q (some v) { s with heap := h', toks := tk }) → wpAny (model prog w) A (pyNext (.ref I)) Q E s
  done : ∀ (s : Shared) (Q : Option Value → Shared → Prop) (E : Value → Shared → Prop), T ≤ s.toks → St n s.heap →
    (∀ h' tk, T ≤ tk → (∀ b o, b ≠ I → s.heap.get? b = some o → h'.get? b = some o) → Q none { s with heap := h', toks := tk }) → wpAny (model prog w) A (pyNext (.ref I)) Q E s
theorem Wk.of {prog : Program} {w : World} {A : Around} {T : Nat} {I : Addr} {fp : List Addr} {n : Nat} {P : Nat → Value → Prop} {St : Nat → Heap → Prop} (W : Walks prog w A I fp [I] n P St) : Wk prog w A T I fp n P St where
  frame := W.frame
  item := fun i s Q E hi hT st h => wpAny_toks hT (W.item i s _ _ hi st fun v h' tk hP hS hk ht => h v h' tk hP hS ht fun b o hb => hk b o (by simpa using hb))
  done := fun s Q E hT st h => wpAny_toks hT (W.done s _ _ st fun h' tk hk ht => h h' tk ht fun b o hb => hk b o (by simpa using hb))

/-- a turn's end: all that stood stands, one int turned -/
noncomputable def IntEnd (h₀ : Heap) (L : Addr) (x y : Str) (m₀ : Str → Option Value) (news : List (Addr × Obj)) (s : Shared) (Q : Flow → Shared → Prop) (v : Int) (f : Flow) (s₂ : Shared) : Prop := match f with
  | .ret r => Q (.ret r) s₂
  | .brk => Q .next s₂
  | _ => ∃ h' tk m₂, s₂ = { s with heap := h', toks := tk } ∧ Fr h₀ L h' m₂ ∧ News h₀ L h' news ∧ (∃ t, m₂ y = some (.int v t)) ∧ ∀ z, z ≠ x → z ≠ y → m₂ z = m₀ z
theorem int_end {h₀ : Heap} {L : Addr} {x y : Str} {m₀ m₂ : Str → Option Value} {news : List (Addr × Obj)} {s : Shared} {Q : Flow → Shared → Prop} {v v' : Int} {t : Tok} {h' : Heap} {tk : Nat} (F : Fr h₀ L h' m₂) (N : News h₀ L h' news) (hv : m₂ y = some (.int v' t)) (e : v' = v) (hr : ∀ z, z ≠ x → z ≠ y → m₂ z = m₀ z) :
    IntEnd h₀ L x y m₀ news s Q v .next { s with heap := h', toks := tk } := ⟨h', tk, m₂, rfl, F, N, ⟨t, e ▸ hv⟩, hr⟩

section
variable {prog : Program} {w : World} {A : Around} {E : Value → Shared → Prop} {Q : Flow → Shared → Prop} {s : Shared} {env : Env} {h₀ : Heap}
end
end
section
open PySem PySem.W PyProof.Rows PySem.Calls PySem.Spec
set_option maxRecDepth 100000
set_option maxHeartbeats 8000000
/-- names laid over a map -/
noncomputable def bindP : List (Str × Value) → (Str → Option Value) → Str → Option Value
  | [], m, y => m y
  | p :: r, m, y => if y = p.1 then some p.2 else bindP r m y
/-- a turn's end in general -/
noncomputable def StEnd {σ : Type} (h₀ : Heap) (L I : Addr) (oI : Obj) (x : Str) (stored : List Str) (ps : σ → List (Str × Value)) (Led : σ → List (Addr × Obj)) (Inv : σ → Prop) (m₀ : Str → Option Value) (s : Shared) (Q : Flow → Shared → Prop) (f : Flow) (s₂ : Shared) : Prop := match f with
  | .ret r => Q (.ret r) s₂
  | .brk => Q .next s₂
  | _ => ∃ h' tk m₂ c, s₂ = { s with heap := h', toks := tk } ∧ Fr h₀ L h' m₂ ∧ News h₀ L h' ((I, oI) :: Led c) ∧ Inv c ∧ (∀ p ∈ ps c, m₂ p.1 = some p.2) ∧ ∀ z, z ≠ x → (∀ p ∈ ps c, z ≠ p.1) → stored.contains z = false → m₂ z = m₀ z
/-- a loop's state ahead of its turn -/
noncomputable def StLoop {σ : Type} (T : Nat) (n : Nat) (St : Nat → Heap → Prop) (h₀ : Heap) (L : Addr) (x : Str) (stored : List Str) (ps : σ → List (Str × Value)) (Led : σ → List (Addr × Obj)) (Inv : Nat → σ → Prop) (m₀ : Str → Option Value) (s : Shared) (k : Nat) (s' : Shared) : Prop :=
  ∃ h' tk m i c, s' = { s with heap := h', toks := tk } ∧ T ≤ tk ∧ St i h' ∧ Fr h₀ L h' m ∧ News h₀ L h' (Led c) ∧ i ≤ n ∧ k = n + 1 - i ∧ Inv i c ∧ (∀ p ∈ ps c, m p.1 = some p.2) ∧ ∀ z, z ≠ x → (∀ p ∈ ps c, z ≠ p.1) → stored.contains z = false → m z = m₀ z
theorem st_end {σ : Type} {h₀ : Heap} {L I : Addr} {oI : Obj} {x : Str} {stored : List Str} {ps : σ → List (Str × Value)} {Led : σ → List (Addr × Obj)} {Inv : σ → Prop} {m₀ m₂ : Str → Option Value} {s : Shared} {Q : Flow → Shared → Prop} {h' : Heap} {tk : Nat} (c : σ)
    (F : Fr h₀ L h' m₂) (N : News h₀ L h' ((I, oI) :: Led c)) (hi : Inv c) (hp : ∀ p ∈ ps c, m₂ p.1 = some p.2) (hr : ∀ z, z ≠ x → (∀ p ∈ ps c, z ≠ p.1) → stored.contains z = false → m₂ z = m₀ z) :
    StEnd h₀ L I oI x stored ps Led Inv m₀ s Q .next { s with heap := h', toks := tk } := ⟨h', tk, m₂, c, rfl, F, N, hi, hp, hr⟩
section
variable {prog : Program} {w : World} {A : Around} {E : Value → Shared → Prop} {Q : Flow → Shared → Prop} {s : Shared} {env : Env} {h₀ : Heap}
theorem for_st {σ : Type} {T : Nat} {I : Addr} {fp : List Addr} {n : Nat} {P : Nat → Value → Prop} {St : Nat → Heap → Prop} {px : Pos} {body : List Stmt} {m₀ : Str → Option Value} (x : Str) (stored : List Str) (ps : σ → List (Str × Value)) (Led : σ → List (Addr × Obj)) (Inv : Nat → σ → Prop) (c₀ : σ)
    (W : Wk prog w A T I fp n P St) (hL : env.locals ∉ fp) (hIf : I ∈ fp) (hfp : ∀ i c, Inv i c → ∀ b ∈ fp, b ≠ I → (∃ o, h₀.get? b = some o) ∨ ∃ o, (b, o) ∈ Led c₀ ∧ ∀ i c, Inv i c → (b, o) ∈ Led c) (hSt : ∀ i h, St i h → ∃ o, h.get? I = some o) (hI : h₀.get? I = none) (hLI : env.locals ≠ I) (hnI : ∀ i c, Inv i c → ∀ p ∈ Led c, p.1 ≠ I) (hst : St 0 s.heap) (hT : T ≤ s.toks) (F : Fr h₀ env.locals s.heap m₀) (N : News h₀ env.locals s.heap (Led c₀))
    (hinv : Inv 0 c₀) (hy : ∀ p ∈ ps c₀, m₀ p.1 = some p.2) (hx : env.kindOf x = some .local) (hp : (env.scope.kind == .class || (env.scope.kind == .module && env.locals != env.globals)) = false)
    (turn : ∀ i v c (u : Str → Option Value) h tk oI, i < n → P i v → T ≤ tk → Inv i c → Fr h₀ env.locals h (fun z => if z = x then some v else bindP (ps c) (fun z => if stored.contains z then u z else m₀ z) z) → News h₀ env.locals h ((I, oI) :: Led c) →
      wpAny (model prog w) A (execs body env) (StEnd h₀ env.locals I oI x stored ps Led (Inv (i + 1)) m₀ { s with heap := h, toks := tk } Q) E { s with heap := h, toks := tk })
    (done : ∀ c (u : Str → Option Value) h tk, T ≤ tk → Inv n c → Fr h₀ env.locals h (fun z => if z = x then u z else bindP (ps c) (fun z => if stored.contains z then u z else m₀ z) z) → News h₀ env.locals h (Led c) → Q .next { s with heap := h, toks := tk })
    (hE : PassesOwn (model prog w) A env E) :
    codeAny (model prog w) A (.forLoop (.Name x px) (.ref I) body [] env) (fun r s' => match r with | .ok f => Q f s' | .error e => cameBackBy (model prog w) A env E e s') s := by
  have norm : ∀ {m : Str → Option Value} {v : Str → Option Value} {c : σ}, (∀ p ∈ ps c, m p.1 = some p.2) → (∀ z, z ≠ x → (∀ p ∈ ps c, z ≠ p.1) → stored.contains z = false → m z = m₀ z) → (fun z => if z = x then v z else m z) = fun z => if z = x then v z else bindP (ps c) (fun z => if stored.contains z then m z else m₀ z) z := by
    intro m v c h1 h2
    funext z
    by_cases hz : z = x
    · simp [hz]
    · rw [if_neg hz, if_neg hz]
      by_cases hzp : ∀ p ∈ ps c, z ≠ p.1
      · have aux : ∀ (r : List (Str × Value)) (b : Str → Option Value), (∀ p ∈ r, z ≠ p.1) → bindP r b z = b z := by
          intro r b
          induction r with
          | nil => intro _; rfl
          | cons q r ih => intro h; show (if z = q.1 then some q.2 else bindP r b z) = b z; rw [if_neg (h q (List.mem_cons_self ..))]; exact ih fun p hp => h p (List.mem_cons_of_mem _ hp)
        rw [aux _ _ hzp]
        cases h3 : stored.contains z with
        | true => simp
        | false => simp only [Bool.false_eq_true, if_false]; exact h2 z hz hzp h3
      · have aux : ∀ (r : List (Str × Value)) (b : Str → Option Value), (∀ p ∈ r, m p.1 = some p.2) → (∃ p ∈ r, z = p.1) → bindP r b z = m z := by
          intro r b
          induction r with
          | nil => intro _ h; obtain ⟨_, h, _⟩ := h; exact absurd h (by simp)
          | cons q r ih =>
            intro h3 h4
            show (if z = q.1 then some q.2 else bindP r b z) = m z
            by_cases hq : z = q.1
            · rw [if_pos hq, hq, h3 q (List.mem_cons_self ..)]
            · rw [if_neg hq]
              obtain ⟨p, hp, e⟩ := h4
              rcases List.mem_cons.mp hp with rfl | hp
              · exact absurd e hq
              · exact ih (fun p hp => h3 p (List.mem_cons_of_mem _ hp)) ⟨p, hp, e⟩
        refine (aux _ _ h1 ?_).symm
        apply Classical.byContradiction
        intro hn
        exact hzp fun p hp e => hn ⟨p, hp, e⟩
  refine codeAny_forLoop (StLoop T n St h₀ env.locals x stored ps Led Inv m₀ s) ?_ (n + 1)
    ⟨s.heap, s.toks, m₀, 0, c₀, rfl, hT, hst, F, N, Nat.zero_le _, rfl, hinv, hy, fun _ _ _ _ => rfl⟩
  rintro k s' ⟨h', tk, m, i, c, rfl, hTk, hst', F', N', hi, rfl, hInv, h1, h2⟩
  have keepF : ∀ {h₁ : Heap}, (∀ b o, b ≠ I → h'.get? b = some o → h₁.get? b = some o) → Fr h₀ env.locals h₁ m ∧ News h₀ env.locals h₁ (Led c) := fun hk =>
    ⟨⟨F'.ns.at' fun o e => hk _ o hLI e, fun b o e => hk b o (fun q => by rw [q, hI] at e; cases e) (F'.keep b o e), F'.above⟩, fun p hp => ⟨hk _ _ (hnI i c hInv p hp) (N' p hp).1, (N' p hp).2⟩⟩
  by_cases hlt : i < n
  · refine W.item i _ _ _ hlt hTk hst' fun v h₁ tk₁ hP hst₁ hT₁ hk₁ => ?_
    obtain ⟨F₁, N₁⟩ := keepF hk₁
    refine wpAny_assign_Name (wpAny_toks (T := T) hT₁ (wpAny_storeName_local hx F₁.ns (fun h₂ hn₂ hs₂ hT₂ => ?_) hp))
    have F₂ := F₁.set hn₂ hs₂
    have hst₂ : St (i + 1) h₂ := W.frame _ _ _ hst₁ fun b hb o e => (hs₂.2 b fun q => hL (q ▸ hb)).trans e
    obtain ⟨oI, hoI⟩ := hSt _ _ hst₂
    have NI : News h₀ env.locals h₂ ((I, oI) :: Led c) := fun p hp => by
      rcases List.mem_cons.mp hp with rfl | hp
      · exact ⟨hoI, fun q => hLI q.symm, hI⟩
      · exact (N₁.set hs₂) p hp
    rw [norm (v := fun _ => some v) h1 h2] at F₂
    refine wpAny_toks (T := T) hT₂ (wpAny_mono (wpAny_passesOwn hE (turn i v c m _ _ oI hlt hP hT₂ hInv F₂ NI)) (fun f s₃ p ht => ?_) fun _ _ e _ => e)
    have fin : StEnd h₀ env.locals I oI x stored ps Led (Inv (i + 1)) m₀ s Q .next s₃ →
        ∃ k, k < n + 1 - i ∧ StLoop T n St h₀ env.locals x stored ps Led Inv m₀ s k s₃ := by
      rintro ⟨h₃, tk₃, m₂, c', rfl, F₃, N₃, hI', hv, hr⟩
      refine ⟨n + 1 - (i + 1), Nat.sub_lt_sub_left (Nat.lt_succ_of_lt hlt) (Nat.lt_succ_self _), h₃, tk₃, m₂, i + 1, c', rfl, ht, ?_, F₃, fun p hp => N₃ p (List.mem_cons_of_mem _ hp), hlt, rfl, hI', hv, hr⟩
      refine W.frame _ _ _ hst₂ fun b hb o e => ?_
      by_cases hbI : b = I
      · subst hbI
        rw [hoI] at e; cases e
        exact (N₃ _ (List.mem_cons_self ..)).1
      · rcases hfp i c hInv b hb hbI with ⟨o₀, hn⟩ | ⟨o₀, _, hall⟩
        · have : o₀ = o := by have := F₂.keep b o₀ hn; rw [e] at this; exact (Option.some.inj this).symm
          exact this ▸ F₃.keep b o₀ hn
        · have e1 := (NI _ (List.mem_cons_of_mem _ (hall i c hInv))).1
          rw [e] at e1; cases e1
          exact (N₃ _ (List.mem_cons_of_mem _ (hall (i + 1) c' hI'))).1
    cases f with
    | ret r => exact p
    | brk => exact p
    | next => exact fin p
    | cont => exact fin p
  · have hin : i = n := by lia
    subst hin
    refine W.done _ _ _ hTk hst' fun h₁ tk₁ hT₁ hk₁ => wpAny_execs_nil ?_
    obtain ⟨F₁, N₁⟩ := keepF hk₁
    refine done c m h₁ tk₁ hT₁ hInv ?_ N₁
    have e : m = fun z => if z = x then m z else m z := by funext z; by_cases hz : z = x <;> simp [hz]
    rw [norm (v := m) h1 h2] at e
    rw [← e]; exact F₁
/-- one int turned, all that stood stands -/
theorem for_int1 {T : Nat} {I : Addr} {fp : List Addr} {n : Nat} {P : Nat → Value → Prop} {St : Nat → Heap → Prop} {px : Pos} {body : List Stmt} {m₀ : Str → Option Value} {news : List (Addr × Obj)} {t₀ : Tok} (x y : Str) (g : Nat → Int)
    (W : Wk prog w A T I fp n P St) (hL : env.locals ∉ fp) (hIf : I ∈ fp) (hfp : ∀ b ∈ fp, b ≠ I → ∃ o, (b, o) ∈ news) (hSt : ∀ i h, St i h → ∃ o, h.get? I = some o) (hI : h₀.get? I = none) (hLI : env.locals ≠ I) (hnI : ∀ p ∈ news, p.1 ≠ I) (hst : St 0 s.heap) (hT : T ≤ s.toks) (F : Fr h₀ env.locals s.heap m₀) (N : News h₀ env.locals s.heap news)
    (hy : m₀ y = some (.int (g 0) t₀)) (hx : env.kindOf x = some .local) (hp : (env.scope.kind == .class || (env.scope.kind == .module && env.locals != env.globals)) = false)
    (turn : ∀ i v t h tk own, i < n → P i v → T ≤ tk → Fr h₀ env.locals h (fun z => if z = x then some v else if z = y then some (.int (g i) t) else m₀ z) → News h₀ env.locals h (own ++ news) →
      wpAny (model prog w) A (execs body env) (IntEnd h₀ env.locals x y m₀ (own ++ news) { s with heap := h, toks := tk } Q (g (i + 1))) E { s with heap := h, toks := tk })
    (done : ∀ u t h tk, T ≤ tk → Fr h₀ env.locals h (fun z => if z = x then u else if z = y then some (.int (g n) t) else m₀ z) → News h₀ env.locals h news → Q .next { s with heap := h, toks := tk })
    (hxy : x ≠ y) (hE : PassesOwn (model prog w) A env E) :
    codeAny (model prog w) A (.forLoop (.Name x px) (.ref I) body [] env) (fun r s' => match r with | .ok f => Q f s' | .error e => cameBackBy (model prog w) A env E e s') s := by
  refine for_st x [] (fun c : Tok × Int => [(y, .int c.2 c.1)]) (fun _ => news) (fun i c => c.2 = g i) (t₀, g 0) W hL hIf (fun i c _ b hb hbI => ?_) hSt hI hLI (fun _ _ _ => hnI) hst hT F N rfl (List.forall_mem_cons.mpr ⟨hy, List.forall_mem_nil _⟩) hx hp ?_ ?_ hE
  · obtain ⟨o, ho⟩ := hfp b hb hbI
    exact .inr ⟨o, ho, fun _ _ _ => ho⟩
  · rintro i v ⟨t, _⟩ u h tk oI hi hP ht rfl F₁ N₁
    refine wpAny_mono (turn i v t h tk [(I, oI)] hi hP ht F₁ N₁) (fun f s₃ p => ?_) fun _ _ e => e
    have fin : IntEnd h₀ env.locals x y m₀ ([(I, oI)] ++ news) { s with heap := h, toks := tk } Q (g (i + 1)) .next s₃ → StEnd h₀ env.locals I oI x [] (fun c : Tok × Int => [(y, .int c.2 c.1)]) (fun _ => news) (fun c => c.2 = g (i + 1)) m₀ { s with heap := h, toks := tk } Q .next s₃ := by
      rintro ⟨h', tk', m₂, e, F₂, N₂, ⟨t', hv⟩, hr⟩
      exact ⟨h', tk', m₂, (t', g (i + 1)), e, F₂, N₂, rfl, List.forall_mem_cons.mpr ⟨hv, List.forall_mem_nil _⟩, fun z h1 h2 _ => hr z h1 (h2 _ (.head _))⟩
    cases f with
    | ret r => exact p
    | brk => exact p
    | next => exact fin p
    | cont => exact fin p
  · rintro ⟨t, _⟩ u h tk ht rfl F₁ N₁
    refine done (u x) t h tk ht ?_ N₁
    have e : (fun z => if z = x then u z else if z = y then some (Value.int (g n) t) else m₀ z) = fun z => if z = x then u x else if z = y then some (Value.int (g n) t) else m₀ z := by
      funext z
      by_cases hz : z = x
      · rw [if_pos hz, if_pos hz, hz]
      · rw [if_neg hz, if_neg hz]
    rw [← e]
    exact F₁
end
end
section
open PySem PySem.W PyProof.Rows PySem.Calls PySem.Spec
open Builtin Builtin.Str
set_option maxRecDepth 100000
set_option maxHeartbeats 8000000
section
variable {prog : Program} {w : World} {A : Around} {E : Value → Shared → Prop} {Q : Flow → Shared → Prop} {s : Shared} {env : Env} {h₀ : Heap}
/-- what is wanted of a loop once its iterator stands -/
noncomputable abbrev Loops (prog : Program) (w : World) (A : Around) (env : Env) (x : Str) (px : Pos) (body : List Stmt) (Q : Flow → Shared → Prop) (E : Value → Shared → Prop) (it : Value) (s : Shared) : Prop :=
  codeAny (model prog w) A (.forLoop (.Name x px) it body [] env) (fun r s' => match r with | .ok f => Q f s' | .error e => cameBackBy (model prog w) A env E e s') s
theorem fresh_I {L : Addr} {m₀ : Str → Option Value} {news : List (Addr × Obj)} (F : Fr h₀ L s.heap m₀) (N : News h₀ L s.heap news) :
    h₀.get? s.heap.objs.size = none ∧ L ≠ s.heap.objs.size ∧ ∀ p ∈ news, p.1 ≠ s.heap.objs.size :=
  ⟨next_is_new F, Nat.ne_of_lt F.ns.lt, fun p hp => Nat.ne_of_lt (Heap.lt_size (N p hp).1)⟩
theorem News.pushed {L : Addr} {news : List (Addr × Obj)} {h : Heap} {o : Obj} (N : News h₀ L h news) : News h₀ L (h.push o) news := fun p hp => ⟨Heap.get?_push_of_some _ (N p hp).1, (N p hp).2⟩
/-- over a list, one int turned -/
theorem iterL {l : Addr} {vs : List Value} {px : Pos} {body : List Stmt} {m₀ : Str → Option Value} {news : List (Addr × Obj)} {t₀ : Tok} (T : Nat) (x y : Str) (g : Nat → Int)
    (hh : A.handled = none) (hl : s.heap.IsList l vs.toArray) (hlL : l ≠ env.locals) (hm : ∃ o, (l, o) ∈ news) (hT : T ≤ s.toks) (F : Fr h₀ env.locals s.heap m₀) (N : News h₀ env.locals s.heap news)
    (hy : m₀ y = some (.int (g 0) t₀)) (hx : env.kindOf x = some .local) (hp : (env.scope.kind == .class || (env.scope.kind == .module && env.locals != env.globals)) = false)
    (turn : ∀ i v t h tk own, i < vs.length → vs[i]? = some v → T ≤ tk → Fr h₀ env.locals h (fun z => if z = x then some v else if z = y then some (.int (g i) t) else m₀ z) → News h₀ env.locals h (own ++ news) →
      wpAny (model prog w) A (execs body env) (IntEnd h₀ env.locals x y m₀ (own ++ news) { s with heap := h, toks := tk } Q (g (i + 1))) E { s with heap := h, toks := tk })
    (done : ∀ u t h tk, T ≤ tk → Fr h₀ env.locals h (fun z => if z = x then u else if z = y then some (.int (g vs.length) t) else m₀ z) → News h₀ env.locals h news → Q .next { s with heap := h, toks := tk })
    (hxy : x ≠ y) (hE : PassesOwn (model prog w) A env E) :
    wpAny (model prog w) A (pyIter (.ref l)) (fun it s₂ => Loops prog w A env x px body Q E it s₂) E s := by
  obtain ⟨ol, hol, _⟩ := id hl
  have hne : l ≠ s.heap.objs.size := Nat.ne_of_lt (Heap.lt_size hol)
  obtain ⟨f1, f2, f3⟩ := fresh_I F N
  refine wpAny_pyIter_list hl ?_
  have W := Walks.list (prog := prog) (w := w) hh s.heap.objs.size l hne vs.toArray
  have hlen : vs.toArray.size = vs.length := by simp
  rw [hlen] at W
  refine for_int1 (s := { s with heap := s.heap.push _ }) (T := T) x y g (Wk.of W) ?_ (.head _) (fun b hb hbI => by rcases List.mem_cons.mp hb with e | hb; exact absurd e hbI; exact (List.mem_singleton.mp hb) ▸ hm) (fun _ _ st => let ⟨⟨o, ho, _⟩, _⟩ := st; ⟨o, ho⟩) f1 f2 f3 ⟨⟨_, Heap.get?_push_size _ rfl, rfl, rfl⟩, hl.at fun o e => Heap.get?_push_of_some _ e⟩ hT (F.push _) (News.pushed N) hy hx hp ?_ done hxy hE
  · intro hm
    rcases List.mem_cons.mp hm with e | hm
    · exact f2 e
    · exact hlL (List.mem_singleton.mp hm).symm
  · intro i v t h tk own hi hP ht F₁ N₁
    exact turn i v t h tk own hi (by simpa using hP) ht F₁ N₁
/-- over a range by ones, one int turned -/
theorem iterR {r : Addr} {a₀ b₀ : Int} {t₀' u₀ v₀ : Tok} {n : Nat} {px : Pos} {body : List Stmt} {m₀ : Str → Option Value} {news : List (Addr × Obj)} {t₀ : Tok} (T : Nat) (x y : Str) (g : Nat → Int)
    (hh : A.handled = none) (hr : IsRange s.heap r a₀ b₀ 1 t₀' u₀ v₀) (hsmall : Builtin.Range.small a₀ b₀ 1 = true) (hn : Builtin.Range.rangeSize a₀ b₀ 1 = (n : Int)) (hT : T ≤ s.toks) (F : Fr h₀ env.locals s.heap m₀) (N : News h₀ env.locals s.heap news)
    (hy : m₀ y = some (.int (g 0) t₀)) (hx : env.kindOf x = some .local) (hp : (env.scope.kind == .class || (env.scope.kind == .module && env.locals != env.globals)) = false)
    (turn : ∀ i (k : Int) u t h tk own, i < n → k = a₀ + i → T ≤ tk → Fr h₀ env.locals h (fun z => if z = x then some (.int k u) else if z = y then some (.int (g i) t) else m₀ z) → News h₀ env.locals h (own ++ news) →
      wpAny (model prog w) A (execs body env) (IntEnd h₀ env.locals x y m₀ (own ++ news) { s with heap := h, toks := tk } Q (g (i + 1))) E { s with heap := h, toks := tk })
    (done : ∀ u t h tk, T ≤ tk → Fr h₀ env.locals h (fun z => if z = x then u else if z = y then some (.int (g n) t) else m₀ z) → News h₀ env.locals h news → Q .next { s with heap := h, toks := tk })
    (hxy : x ≠ y) (hE : PassesOwn (model prog w) A env E) :
    wpAny (model prog w) A (pyIter (.ref r)) (fun it s₂ => Loops prog w A env x px body Q E it s₂) E s := by
  obtain ⟨f1, f2, f3⟩ := fresh_I F N
  refine wpAny_pyIter_range hr hsmall ?_
  have W : Walks prog w A s.heap.objs.size [s.heap.objs.size] [s.heap.objs.size] n (fun i v => i < n ∧ ∃ t, v = .int (a₀ + i * 1) t)
      (fun i h => IsRangeIter h s.heap.objs.size (a₀ + (i : Nat) * 1) ((n : Int) - (i : Nat)) 1) := (Walks.range hh _ a₀ 1 n).bound
  refine for_int1 (s := { s with heap := s.heap.push _ }) (T := T) x y g (Wk.of W) (fun hm => f2 (List.mem_singleton.mp hm)) (List.mem_singleton.mpr rfl) (fun b hb q => absurd (List.mem_singleton.mp hb) q) (fun _ _ st => ⟨_, st⟩) f1 f2 f3 (by show IsRangeIter _ _ _ _ _; rw [hn]; simpa using Heap.get?_push_size _ rfl) hT (F.push _) (News.pushed N) hy hx hp ?_ done hxy hE
  rintro i v t h tk own hi ⟨_, u, rfl⟩ ht F₁ N₁
  exact turn i _ u t h tk own hi (by lia) ht F₁ N₁
/-- a sign of a text, its token at T or above -/
noncomputable def SignT (T : Nat) (x : Str) (i : Nat) (v : Value) : Prop := ∃ c u, x.cps[i]? = some c ∧ v = .str ⟨#[c]⟩ u ∧ T ≤ u
theorem wk_ascii {T : Nat} (hh : A.handled = none) (I : Addr) (x : Str) (t : Tok) :
    Wk prog w A T I [I] x.cps.size (SignT T x) (fun i h => h.IsStrIter I "str_ascii_iterator" x t i) where
  frame := fun _ _ _ st hk => let ⟨o, ho, r⟩ := st; ⟨o, hk I (by simp) o ho, r⟩
  item := fun i s Q E hi hT st hQ => by
    refine wpAny_pyNext_ascii_item st (c := x.cps[i]) (by simp [hi]) fun h' hit' hs' => ?_
    exact hQ _ h' (s.toks + 1) ⟨_, _, by simp [hi], rfl, hT⟩ hit' (by lia) fun b o hb e => hs'.extBut b o hb e
  done := fun s Q E hT st hQ => wpAny_pyNext_ascii_end hh st (by simp) fun h' he' => hQ h' s.toks hT fun b o hb e => he' b o hb e
theorem wk_wide {T : Nat} (hh : A.handled = none) (I : Addr) (x : Str) (t : Tok) :
    Wk prog w A T I [I] x.cps.size (SignT T x) (fun i h => h.IsStrIter I "str_iterator" x t i) where
  frame := fun _ _ _ st hk => let ⟨o, ho, r⟩ := st; ⟨o, hk I (by simp) o ho, r⟩
  item := fun i s Q E hi hT st hQ => by
    refine wpAny_pyNext_wide_item st (c := x.cps[i]) (by simp [hi]) fun h' hit' hs' => ?_
    exact hQ _ h' (s.toks + 1) ⟨_, _, by simp [hi], rfl, hT⟩ hit' (by lia) fun b o hb e => hs'.extBut b o hb e
  done := fun s Q E hT st hQ => wpAny_pyNext_wide_end hh st (by simp) fun h' he' => hQ h' s.toks hT fun b o hb e => he' b o hb e
/-- over a text, one int turned -/
theorem iterS {l : List Nat} {tx : Tok} {px : Pos} {body : List Stmt} {m₀ : Str → Option Value} {news : List (Addr × Obj)} {t₀ : Tok} (T : Nat) (x y : Str) (g : Nat → Int)
    (hh : A.handled = none) (hT : T ≤ s.toks) (F : Fr h₀ env.locals s.heap m₀) (N : News h₀ env.locals s.heap news)
    (hy : m₀ y = some (.int (g 0) t₀)) (hx : env.kindOf x = some .local) (hp : (env.scope.kind == .class || (env.scope.kind == .module && env.locals != env.globals)) = false)
    (turn : ∀ i c u t h tk own, l[i]? = some c → T ≤ u → T ≤ tk → Fr h₀ env.locals h (fun z => if z = x then some (.str (S [c]) u) else if z = y then some (.int (g i) t) else m₀ z) → News h₀ env.locals h (own ++ news) →
      wpAny (model prog w) A (execs body env) (IntEnd h₀ env.locals x y m₀ (own ++ news) { s with heap := h, toks := tk } Q (g (i + 1))) E { s with heap := h, toks := tk })
    (done : ∀ u t h tk, T ≤ tk → Fr h₀ env.locals h (fun z => if z = x then u else if z = y then some (.int (g l.length) t) else m₀ z) → News h₀ env.locals h news → Q .next { s with heap := h, toks := tk })
    (hxy : x ≠ y) (hE : PassesOwn (model prog w) A env E) :
    wpAny (model prog w) A (pyIter (.str (S l) tx)) (fun it s₂ => Loops prog w A env x px body Q E it s₂) E s := by
  obtain ⟨f1, f2, f3⟩ := fresh_I F N
  have hlen : (S l).cps.size = l.length := by simp [S]
  have turn' : ∀ i v t h tk own, i < l.length → SignT T (S l) i v → T ≤ tk → Fr h₀ env.locals h (fun z => if z = x then some v else if z = y then some (.int (g i) t) else m₀ z) → News h₀ env.locals h (own ++ news) →
      wpAny (model prog w) A (execs body env) (IntEnd h₀ env.locals x y m₀ (own ++ news) { s with heap := h, toks := tk } Q (g (i + 1))) E { s with heap := h, toks := tk } := by
    rintro i v t h tk own hi ⟨c, u, hc, rfl, hu⟩ ht F₁ N₁
    exact turn i c u t h tk own (by simpa [S] using hc) hu ht F₁ N₁
  cases ha : (S l).cps.all (· < 128)
  · refine wpAny_pyIter_wide ha ?_
    have W := wk_wide (prog := prog) (w := w) (A := A) (T := T) hh s.heap.objs.size (S l) tx
    rw [hlen] at W
    exact for_int1 (s := { s with heap := s.heap.push _ }) (T := T) x y g W (fun hm => f2 (List.mem_singleton.mp hm)) (List.mem_singleton.mpr rfl) (fun b hb q => absurd (List.mem_singleton.mp hb) q) (fun _ _ st => let ⟨o, ho, _⟩ := st; ⟨o, ho⟩) f1 f2 f3 ⟨_, Heap.get?_push_size _ rfl, rfl, rfl⟩ hT (F.push _) (News.pushed N) hy hx hp turn' done hxy hE
  · refine wpAny_pyIter_ascii ha ?_
    have W := wk_ascii (prog := prog) (w := w) (A := A) (T := T) hh s.heap.objs.size (S l) tx
    rw [hlen] at W
    exact for_int1 (s := { s with heap := s.heap.push _ }) (T := T) x y g W (fun hm => f2 (List.mem_singleton.mp hm)) (List.mem_singleton.mpr rfl) (fun b hb q => absurd (List.mem_singleton.mp hb) q) (fun _ _ st => let ⟨o, ho, _⟩ := st; ⟨o, ho⟩) f1 f2 f3 ⟨_, Heap.get?_push_size _ rfl, rfl, rfl⟩ hT (F.push _) (News.pushed N) hy hx hp turn' done hxy hE
end
end
section
open PySem PySem.W PyProof.Rows PySem.Calls PySem.Spec
open Builtin Builtin.Str
set_option maxRecDepth 100000
set_option maxHeartbeats 8000000
section
variable {prog : Program} {w : World} {A : Around} {E : Value → Shared → Prop} {Q : Flow → Shared → Prop} {s : Shared} {env : Env} {h₀ : Heap}
/-- over a text, a state turned -/
theorem iterS_st {σ : Type} {l : List Nat} {tx : Tok} {px : Pos} {body : List Stmt} {m₀ : Str → Option Value} (T : Nat) (x : Str) (stored : List Str) (ps : σ → List (Str × Value)) (Led : σ → List (Addr × Obj)) (Inv : Addr → Nat → σ → Prop) (c₀ : σ)
    (hh : A.handled = none) (hT : T ≤ s.toks) (F : Fr h₀ env.locals s.heap m₀) (N : News h₀ env.locals s.heap (Led c₀))
    (hnI : ∀ i c, Inv s.heap.objs.size i c → ∀ p ∈ Led c, p.1 ≠ s.heap.objs.size) (hinv : Inv s.heap.objs.size 0 c₀) (hy : ∀ p ∈ ps c₀, m₀ p.1 = some p.2) (hx : env.kindOf x = some .local) (hp : (env.scope.kind == .class || (env.scope.kind == .module && env.locals != env.globals)) = false)
    (turn : ∀ i d t c (u : Str → Option Value) h tk I oI, l[i]? = some d → T ≤ t → T ≤ tk → Inv I i c → Fr h₀ env.locals h (fun z => if z = x then some (.str (S [d]) t) else bindP (ps c) (fun z => if stored.contains z then u z else m₀ z) z) → News h₀ env.locals h ((I, oI) :: Led c) →
      wpAny (model prog w) A (execs body env) (StEnd h₀ env.locals I oI x stored ps Led (Inv I (i + 1)) m₀ { s with heap := h, toks := tk } Q) E { s with heap := h, toks := tk })
    (done : ∀ I c (u : Str → Option Value) h tk, T ≤ tk → Inv I l.length c → Fr h₀ env.locals h (fun z => if z = x then u z else bindP (ps c) (fun z => if stored.contains z then u z else m₀ z) z) → News h₀ env.locals h (Led c) → Q .next { s with heap := h, toks := tk })
    (hE : PassesOwn (model prog w) A env E) :
    wpAny (model prog w) A (pyIter (.str (S l) tx)) (fun it s₂ => Loops prog w A env x px body Q E it s₂) E s := by
  obtain ⟨f1, f2, f3⟩ := fresh_I F N
  have hlen : (S l).cps.size = l.length := by simp [S]
  have turn' : ∀ i v c (u : Str → Option Value) h tk oI, i < l.length → SignT T (S l) i v → T ≤ tk → Inv s.heap.objs.size i c → Fr h₀ env.locals h (fun z => if z = x then some v else bindP (ps c) (fun z => if stored.contains z then u z else m₀ z) z) → News h₀ env.locals h ((s.heap.objs.size, oI) :: Led c) →
      wpAny (model prog w) A (execs body env) (StEnd h₀ env.locals s.heap.objs.size oI x stored ps Led (Inv s.heap.objs.size (i + 1)) m₀ { s with heap := h, toks := tk } Q) E { s with heap := h, toks := tk } := by
    rintro i v c u h tk oI hi ⟨d, t, hc, rfl, hu⟩ ht hI F₁ N₁
    exact turn i d t c u h tk _ oI (by simpa [S] using hc) hu ht hI F₁ N₁
  cases ha : (S l).cps.all (· < 128)
  · refine wpAny_pyIter_wide ha ?_
    have W := wk_wide (prog := prog) (w := w) (A := A) (T := T) hh s.heap.objs.size (S l) tx
    rw [hlen] at W
    exact for_st (s := { s with heap := s.heap.push _ }) (T := T) x stored ps Led (Inv s.heap.objs.size) c₀ W (fun hm => f2 (List.mem_singleton.mp hm)) (List.mem_singleton.mpr rfl) (fun _ _ _ b hb q => absurd (List.mem_singleton.mp hb) q) (fun _ _ st => let ⟨o, ho, _⟩ := st; ⟨o, ho⟩) f1 f2 hnI ⟨_, Heap.get?_push_size _ rfl, rfl, rfl⟩ hT (F.push _) (News.pushed N) hinv hy hx hp turn' (fun c u h tk => done _ c u h tk) hE
  · refine wpAny_pyIter_ascii ha ?_
    have W := wk_ascii (prog := prog) (w := w) (A := A) (T := T) hh s.heap.objs.size (S l) tx
    rw [hlen] at W
    exact for_st (s := { s with heap := s.heap.push _ }) (T := T) x stored ps Led (Inv s.heap.objs.size) c₀ W (fun hm => f2 (List.mem_singleton.mp hm)) (List.mem_singleton.mpr rfl) (fun _ _ _ b hb q => absurd (List.mem_singleton.mp hb) q) (fun _ _ st => let ⟨o, ho, _⟩ := st; ⟨o, ho⟩) f1 f2 hnI ⟨_, Heap.get?_push_size _ rfl, rfl, rfl⟩ hT (F.push _) (News.pushed N) hinv hy hx hp turn' (fun c u h tk => done _ c u h tk) hE
/-- over a range by ones, a state turned -/
theorem iterR_st {σ : Type} {r : Addr} {a₀ b₀ : Int} {t₀' u₀ v₀ : Tok} {n : Nat} {px : Pos} {body : List Stmt} {m₀ : Str → Option Value} (T : Nat) (x : Str) (stored : List Str) (ps : σ → List (Str × Value)) (Led : σ → List (Addr × Obj)) (Inv : Addr → Nat → σ → Prop) (c₀ : σ)
    (hh : A.handled = none) (hr : IsRange s.heap r a₀ b₀ 1 t₀' u₀ v₀) (hsmall : Builtin.Range.small a₀ b₀ 1 = true) (hn : Builtin.Range.rangeSize a₀ b₀ 1 = (n : Int)) (hT : T ≤ s.toks) (F : Fr h₀ env.locals s.heap m₀) (N : News h₀ env.locals s.heap (Led c₀))
    (hnI : ∀ i c, Inv s.heap.objs.size i c → ∀ p ∈ Led c, p.1 ≠ s.heap.objs.size) (hinv : Inv s.heap.objs.size 0 c₀) (hy : ∀ p ∈ ps c₀, m₀ p.1 = some p.2) (hx : env.kindOf x = some .local) (hp : (env.scope.kind == .class || (env.scope.kind == .module && env.locals != env.globals)) = false)
    (turn : ∀ i (k : Int) t c (u : Str → Option Value) h tk I oI, i < n → k = a₀ + i → T ≤ tk → Inv I i c → Fr h₀ env.locals h (fun z => if z = x then some (.int k t) else bindP (ps c) (fun z => if stored.contains z then u z else m₀ z) z) → News h₀ env.locals h ((I, oI) :: Led c) →
      wpAny (model prog w) A (execs body env) (StEnd h₀ env.locals I oI x stored ps Led (Inv I (i + 1)) m₀ { s with heap := h, toks := tk } Q) E { s with heap := h, toks := tk })
    (done : ∀ I c (u : Str → Option Value) h tk, T ≤ tk → Inv I n c → Fr h₀ env.locals h (fun z => if z = x then u z else bindP (ps c) (fun z => if stored.contains z then u z else m₀ z) z) → News h₀ env.locals h (Led c) → Q .next { s with heap := h, toks := tk })
    (hE : PassesOwn (model prog w) A env E) :
    wpAny (model prog w) A (pyIter (.ref r)) (fun it s₂ => Loops prog w A env x px body Q E it s₂) E s := by
  obtain ⟨f1, f2, f3⟩ := fresh_I F N
  refine wpAny_pyIter_range hr hsmall ?_
  have W : Walks prog w A s.heap.objs.size [s.heap.objs.size] [s.heap.objs.size] n (fun i v => i < n ∧ ∃ t, v = .int (a₀ + i * 1) t)
      (fun i h => IsRangeIter h s.heap.objs.size (a₀ + (i : Nat) * 1) ((n : Int) - (i : Nat)) 1) := (Walks.range hh _ a₀ 1 n).bound
  refine for_st (s := { s with heap := s.heap.push _ }) (T := T) x stored ps Led (Inv s.heap.objs.size) c₀ (Wk.of W) (fun hm => f2 (List.mem_singleton.mp hm)) (List.mem_singleton.mpr rfl) (fun _ _ _ b hb q => absurd (List.mem_singleton.mp hb) q) (fun _ _ st => ⟨_, st⟩) f1 f2 hnI (by show IsRangeIter _ _ _ _ _; rw [hn]; simpa using Heap.get?_push_size _ rfl) hT (F.push _) (News.pushed N) hinv hy hx hp ?_ (fun c u h tk => done _ c u h tk) hE
  rintro i v c u h tk oI hi ⟨_, t, rfl⟩ ht hI F₁ N₁
  exact turn i _ t c u h tk _ oI hi (by lia) ht hI F₁ N₁
end
end
section
open PySem PySem.W PyProof.Rows PySem.Calls PySem.Spec
set_option maxRecDepth 100000
set_option maxHeartbeats 2000000
/-- the runs of blanks ahead of the tabs: what a size leaves of each -/
noncomputable def restsF (l : List Nat) (z : Nat) : Nat → Nat
  | 0 => 0
  | i + 1 => restsF l z i + ((Txt.split (S l) "\t").getD i Str.empty).length % z
noncomputable def restsAll (l : List Nat) (z : Nat) : Nat := restsF l z ((Txt.split (S l) "\t").length - 1)
theorem pick_last (vs : List Value) : slicePick vs.toArray none (some (-1)) none = vs.dropLast.toArray := by
  rcases Nat.eq_zero_or_pos vs.length with h | h
  · have : vs = [] := List.eq_nil_of_length_eq_zero h
    subst this
    rfl
  · have e : sliceBounds none (some (-1)) none vs.toArray.size = sliceBounds none (some ((vs.length - 1 : Nat) : Int)) none vs.toArray.size := by
      simp only [sliceBounds, List.size_toArray]
      have h1 : max (0 : Int) (min (-1 + (vs.length : Int)) vs.length) = max (0 : Int) (min ((vs.length - 1 : Nat) : Int) vs.length) := by lia
      simp [h1]
      lia
    have := slicePick_upto vs.toArray (vs.length - 1) (by simp)
    unfold slicePick at this ⊢
    rw [e, this, List.dropLast_eq_take]
theorem str_at {ll : List (Str × Tok)} {ps : List Str} (h : ll.map (fun x => x.1) = ps) {i : Nat} {v : Value} (hv : ((strValues ll).dropLast)[i]? = some v) : ∃ t, v = .str (ps.getD i Str.empty) t ∧ ps.getD i Str.empty ∈ ps := by
  subst h
  rw [List.getElem?_dropLast] at hv
  split at hv
  · rename_i hi
    unfold strValues at hv
    rw [List.getElem?_map] at hv
    cases q : ll[i]? with
    | none => rw [q] at hv; cases hv
    | some p =>
      rw [q] at hv
      cases hv
      have e : (ll.map fun x => x.1).getD i Str.empty = p.1 := by simp [List.getD, q]
      refine ⟨p.2, by rw [e], ?_⟩
      rw [e]
      exact List.mem_map.mpr ⟨p, List.mem_of_getElem? q, rfl⟩
  · cases hv
theorem last_len {ll : List (Str × Tok)} {ps : List Str} (h : ll.map (fun x => x.1) = ps) : ((strValues ll).dropLast).length = ps.length - 1 := by
  subst h; simp [strValues]
theorem fmod_n (a b : Nat) : Int.fmod (a : Int) (b : Int) = ((a % b : Nat) : Int) := by
  rw [Int.fmod_eq_emod_of_nonneg _ (by lia)]; rfl
theorem rests_cl (w : World) (mg mb mean) : ∀ (news) (l : List Nat) (z : Nat) (tl tz : Tok), Cl w mg mb mean 181 news 0 (l.length ≤ 20 ∧ 1 ≤ z) [.str (S l) tl, .int z tz] (fun tok => .int (restsAll l z) tok) := by
  intro news l z tl tz
  unfold Cl CbRec CbLists CbRet
  k_fill
  intro _ _ _ _ _ _ _ _ _ _ _ _ _ _ _ _ _ _ _ _ _ _ _ pre _ _
  intros
  rename_i hret
  obtain ⟨hl, hz⟩ := pre
  have hsl := S_len l
  first | (have hdpE := cbe (M := recursionLimit) ‹_ + _ + 1 < recursionLimit›) | (have hdpE := cbeZ (M := recursionLimit) ‹_ + 0 + 1 < recursionLimit›)
  refine wpAny_call ?_
  k_dflt cell_enter
  k_with_none
  k_with "execs cons" => ((refine hideTk ?_); (intro _); (refine wpAny_execs_cons ?_); (try dsimp only))
  k_with "exec For Name Subscript cons nil" => (k_dflt (refine wpAny_For ?_ (by intro _; rfl)))
  k_with "pyIter ref" => (refine Hold.out ?_)
  k_steps
  refine Hold.mk ?_
  rename List.map (fun (x : Str × Tok) => x.fst) _ = Txt.split _ _ => hsp
  rename ∀ (a : Str), a ∈ _ → a.length ≤ _ => hle
  rename Fr _ _ _ _ => lF9
  obtain ⟨mm, ⟨n1, n2⟩, lF⟩ := hideM2 (Str.ofString "size") (Str.ofString "rests") lF9 (by first | exact rfl | assumption) (by first | exact rfl | assumption)
  clear lF9
  k_with "eval Name" => (k_dflt ((refine nameX_L (by k_asm) (by assumption) ?_ (by rfl) (by rfl)); k_whole))
  rename News _ _ _ _ => lN
  have hM := lN _ (List.mem_cons_self ..)
  rw [pick_last] at lN hM
  have hn := last_len hsp
  rw [hsp] at hle
  k_dflt (refine iterL 0 (Str.ofString "piece") (Str.ofString "rests") (fun i => (restsF l z i : Int)) rfl ⟨_, hM.1, rfl, _, rfl⟩ hM.2.1 ⟨_, List.mem_cons_self ..⟩ (Nat.zero_le _) lF lN (by assumption) rfl rfl ?_ ?_ (by decide) (by passes_own))
  · intro i v t h tk own hi hv _ F1 N1
    obtain ⟨tv, rfl, hmem⟩ := str_at hsp hv
    have hpl := hle _ hmem
    rw [hsl] at hpl
    have hstep : restsF l z (i + 1) = restsF l z i + ((Txt.split (S l) "\t").getD i Str.empty).length % z := rfl
    generalize (Txt.split (S l) "\t").getD i Str.empty = p at *
    refine hideQ ?_
    intro QQ hQQ
    k_steps
    subst QQ
    refine int_end (by k_asm) (by k_asm) rfl ?_ (by intro z h1 h2; simp [h1, h2])
    rw [hstep, fmod_n]; rfl
  · intro u t h tk _ F1 N1
    rw [hn] at F1
    k_steps
    refine cb_retI hret rfl (by k_asm) (by first | k_asm | exact cb_drop (by assumption) (fun p hp => by simp [hp]))
end
section
open PySem PySem.W PyProof.Rows PySem.Calls PySem.Spec
set_option maxRecDepth 100000
set_option maxHeartbeats 2000000
/-- a claim that asks the state, too -/
noncomputable abbrev ClT (w : World) (mg mb : Str → Option Value) (mean : ExcName → Option Value) (f : Addr) (news : List (Addr × Obj)) (sz : Nat) (pre : Shared → Prop) (vs : List Value) (R : Tok → Value) : Prop :=
  ∀ (dp un : Nat) (gd : Option (List Code)) (cn : Str) (cs : Scope) (a : Addr) (ccd : Value) (cl : List (Str × Addr)) (outer : List Env) (A₀ : Around) (base h₀ : Heap) (L : Addr) (m : Str → Option Value) (s : Shared) (Q E : Value → Shared → Prop),
    Below A₀ base outer h₀ → Fr h₀ L s.heap m → (hd.heap_39 w.params).In h₀ → News h₀ L s.heap news → Top hd.view_39 (looseW hd.view_39 [Str.ofString "Whitespace"]) mean mg mb h₀ → cs.kind = .function →
    pre s → dp + sz + 1 < recursionLimit → un + 8 * (sz + 1) < cLine → CbRet h₀ L m news s Q R →
      wpAny (model PySem.Challenge.rw_sw0061_01.row.prog w) (ktrTop dp un gd cn cs L a ccd cl outer) (call (.ref f) vs) Q E s
/-- how often c stands among the first i -/
noncomputable def cntF (l : List Nat) (c : Nat) : Nat → Nat
  | 0 => 0
  | i + 1 => cntF l c i + if l[i]? = some c then 1 else 0
theorem statics_none {K : Frag} {h : Heap} {mc : Str → Option Value} {n : Str} (X : K.In h) (G : h.Ns cStatics mc) (e : nsIn K cStatics n = some none) : mc n = none := by
  obtain ⟨o, es, ep, ho, hd, _, hf⟩ := G
  unfold nsIn at e
  split at e
  · rename_i q
    have hq := X _ _ q
    rw [ho] at hq
    cases hq
    cases hd
    split at e
    · cases e
    · rename_i he
      rw [← hf]
      unfold nsFind findBy
      rw [← Array.find?_toList, he]
      rfl
  · cases e
section
variable {prog : Program} {w : World} {A : Around} {E : Value → Shared → Prop} {s : Shared} {Q : Value → Shared → Prop} {c d : Nat} {t u : Tok}
theorem is_S (ht : t ≠ 0) (hu : u ≠ 0) (htu : t ≠ u) (hb : NoneBooked s.heap) (h : ∀ v : Bool, (v = true → c = d) → Q (.bool v) s) : wpAny (model prog w) A (compareOp .Is (.str (S [c]) t) (.str (S [d]) u)) Q E s := by
  show wpAny _ _ (do return Value.bool (← isSame (Value.str (S [c]) t) (Value.str (S [d]) u))) _ _ _
  refine wpAny_bind ?_
  have h0 : (t == 0 || u == 0) = false := by simp [ht, hu]
  by_cases q : c = d
  · exact wpAny_isSame_str h0 hb fun b => wpAny_pure (h b fun _ => q)
  · rw [isSame_str_other (S [c]) (S [d]) t u h0 (by simpa using htu) (beq_false_of_ne fun e => q (by simpa using S_inj.mp e))]
    exact wpAny_pure (wpAny_pure (h false fun e => by cases e))
end
theorem nb_keeps {g g' : Heap} (h : NoneBooked g) (k : ∀ b o, g.get? b = some o → g'.get? b = some o) : NoneBooked g' :=
  let ⟨mc, a, b⟩ := h; ⟨mc, a.keeps k, b⟩
theorem countOf_cl (w : World) (mg mb mean) : ∀ (news) (l : List Nat) (c : Nat) (ta tb : Tok), ClT w mg mb mean 122 news 0 (fun s => @Ne Nat tb 0 ∧ @LT.lt Nat _ tb s.toks) [.str (S l) ta, .str (S [c]) tb] (fun t => .int (cntF l c l.length) t) := by
  intro news l c ta tb
  unfold ClT CbRet
  k_fill
  intro dp un gd cn cs a ccd cl outer A₀ base h₀ L m s Q E B F X N T hk pre hdp hun hret
  obtain ⟨htb, htk⟩ := pre
  have X' := Frag.In.keeps X F.keep
  have T' := T.keeps F.keep
  have NB : NoneBooked s.heap := by
    obtain ⟨mc, hc, _⟩ := T'.nodigits
    exact ⟨mc, hc, statics_none X' hc (by k_is)⟩
  k_dflt (refine wpAny_call (call_plain_ret (by simp only [ktrTop]; lia) (X' 122 _ (by k_is)) rfl T'.nolimit (codeRec_of X' (by k_is)) rfl (locs rfl) ?_))
  intro h₁ F₁
  have N₁ : News s.heap s.heap.objs.size h₁ [] := News.nil
  k_with_none
  k_with "execs cons" => ((refine wpAny_execs_cons ?_); (try dsimp only))
  k_with "execs nil" => (refine wpAny_execs_nil ?_)
  k_with "exec For Name Name cons nil" => (k_dflt (refine wpAny_For ?_ (by intro _; rfl)))
  k_with "pyIter str" => (refine Hold.out ?_)
  k_with "compareOp Is str str" => ((have q1 : u ≠ 0 := by lia); (have q2 : u ≠ tb := by first | lia | fail "none"); (k_dflt (refine is_S (by lia) (by lia) (by lia) (nb_keeps NB (Fr.keep (by assumption))) ?_)); intro v hv)
  k_steps
  refine Hold.mk ?_
  rename Fr _ _ _ _ => lF
  rename News _ _ _ _ => lN
  k_dflt (refine iterS (tb + 1) (Str.ofString "i") (Str.ofString "count") (fun i => (cntF l c i : Int)) rfl (by dsimp only; exact Nat.le_trans (htk : (tb : Nat) + 1 ≤ (s.toks : Nat)) (by first | lia | (rw [Nat.add_assoc]; exact Nat.le_add_right _ _))) lF lN rfl rfl rfl ?_ ?_ (by decide) (by passes_own))
  · intro i d u t h tk own hd hu htk F1 N1
    have hstep : cntF l c (i + 1) = cntF l c i + if l[i]? = some c then 1 else 0 := rfl
    k_steps
    all_goals refine int_end (by k_asm) (by k_asm) rfl ?_ (by intro z h1 h2; simp [h1, h2])
    · rename _ = true => e1
      rw [hstep, if_pos (by rw [hd, hv e1])]; rfl
    · rename (S [d] == S [c]) = true => e1
      have e2 := S1 e1
      rw [hstep, if_pos (by rw [hd]; simpa using e2)]; rfl
    · rename (S [d] == S [c]) = false => e1
      have e2 := S1 e1
      rw [hstep, if_neg (by rw [hd]; simpa using e2)]; rfl
  · intro u t h tk _ F1 N1
    k_steps
    exact hret t h tk (F.keeps F1.keep) (fun p hp => ⟨F1.keep _ _ (N p hp).1, (N p hp).2⟩)
end
section
open PySem PySem.W PyProof.Rows PySem.Calls PySem.Spec
set_option maxRecDepth 100000
set_option maxHeartbeats 2000000
structure TokMark : Prop where
theorem sp_eq : Str.ofString " " = S [32] := by decide +kernel
theorem tab_eq : Str.ofString "\t" = S [9] := by decide +kernel
section
variable {prog : Program} {w : World} {A : Around} {E : Value → Shared → Prop} {s : Shared} {value slice : PySem.Expr} {h₀ : Heap} {L : Addr} {m : Str → Option Value} {news : List (Addr × Obj)} {l l' : List Nat} {t u : Tok} {n : Nat} {Q : Value → Shared → Prop}
theorem sub_toT {T : Nat} {j : Int} (hT : T ≤ s.toks) (hF : Fr h₀ L s.heap m) (hN : News h₀ L s.heap news) (h0 : 0 ≤ j) (hn : j ≤ (l.length : Int)) (hz : l.length ≤ 1000) (h : ∀ h' t' k, T ≤ k → Fr h₀ L h' m → News h₀ L h' news → Q (.str (S (l.take j.toNat)) t') { s with heap := h', toks := k })
    (hs : subscripted slice false (.str (S l) t) (.ref s.heap.objs.size) = operate [.ref s.heap.objs.size, .str (S l) t] (getItem (.str (S l) t) (.ref s.heap.objs.size)) := by with_unfolding_all rfl)
    (ht : ∀ r, letTemporaryGo value (.str (S l) t) r = pure () := by intro _; with_unfolding_all rfl) :
    wpAny (model prog w) A (subscriptTail value slice (.str (S l) t) (.ref s.heap.objs.size)) Q E { s with heap := s.heap.push { cls := .type "slice", data := .fields #[.none, .int j u, .none] } } := by
  obtain ⟨n, rfl⟩ := Int.eq_ofNat_of_zero_le h0
  exact wpAny_toks (s := { s with heap := s.heap.push _ }) hT (sub_to hF hN (by lia) hz rfl (fun h' t' k a b ht => h h' t' k ht a b) hs ht)
end
/-- for each tab the blanks ahead of it, added up -/
noncomputable def areaF (l : List Nat) : Nat → Nat
  | 0 => 0
  | j + 1 => areaF l j + if l[j]? = some 9 then cntF (l.take j) 32 (l.take j).length else 0
theorem area_cl (w : World) (mg mb mean) : ∀ (news) (l : List Nat) (tl : Tok), Cl w mg mb mean 169 news 2 (l.length ≤ 20) [.str (S l) tl] (fun t => .int (areaF l l.length) t) := by
  intro news l tl
  unfold Cl CbRec CbLists CbRet
  k_fill
  intro _ _ _ _ _ _ _ _ _ _ _ _ _ _ _ _ _ _ _ _ _ _ _ hl _ _
  intros
  rename_i hret
  first | (have hdpE := cbe (M := recursionLimit) ‹_ + _ + 1 < recursionLimit›) | (have hdpE := cbeZ (M := recursionLimit) ‹_ + 0 + 1 < recursionLimit›)
  refine wpAny_call ?_
  k_dflt cell_enter
  k_with_none
  k_with "execs cons" => ((refine wpAny_execs_cons ?_); (try dsimp only))
  k_with "execs nil" => (refine wpAny_execs_nil ?_)
  k_with "exec For Name Call cons nil" => (k_dflt (refine wpAny_For ?_ (by intro _; rfl)))
  k_with "pyIter ref" => (refine Hold.out ?_)
  k_with "call builtin:len" => (k_dflt (refine len_S (by lia) ?_))
  k_with "subscriptTail Name Name str int" => (k_dflt (refine sub_itemZ (by lia) (by lia) (by lia) ?_))
  k_with "subscriptTail Name Slice str ref" => ((k_dflt (refine sub_toT (T := 1) (by dsimp only; lia) (by assumption) (by assumption) (by lia) (by lia) (by lia) ?_)); intro h9 t9 k9 l9 F9 N9)
  k_with "call type:range cons nil" => ((fail_if_success (rename TokMark => x9)); (have tkm : TokMark := TokMark.mk); (k_dflt (refine wpAny_toks (T := 1) (by dsimp only; first | lia | exact Nat.le_add_left _ _ | exact Nat.succ_le_succ (Nat.zero_le _)) ?_)))
  k_with "call ref cons nil" => ((k_dflt (refine add_cl w mg mb mean _ _ _ _ _ _ _ _ _ _ _ _ _ _ _ _ _ _ _ _ _ _ (by k_asm) (by k_asm) (by k_asm) (by k_asm) (by k_asm) (by first | exact rfl | assumption) trivial (by first | exact cbr0 (by assumption) (by decide) | exact cbr1 (by assumption) (by decide) | exact cbr2 (by assumption) (by decide) | exact cbr9 (by assumption) (by decide) | cb_room) (by first | exact cbu0 (by assumption) (by decide) | exact cbu1 (by assumption) (by decide) | exact cbu2 (by assumption) (by decide) | exact cbu9 (by assumption) (by decide) | cb_units) ?_)); (intro t9 h9 tk9 F9 N9); (try dsimp only); (try k_fold))
  k_with "call ref cons nil" => ((rw [sp_eq]); (k_dflt (refine countOf_cl w mg mb mean _ _ _ _ _ _ _ _ _ _ _ _ _ _ _ _ _ _ _ _ _ _ (by k_asm) (by k_asm) (by k_asm) (by k_asm) (by k_asm) (by first | exact rfl | assumption) ⟨by (try dsimp only); first | lia | fail "none", by (try dsimp only); first | lia | fail "none"⟩ (by first | exact cbr0 (by assumption) (by decide) | exact cbr1 (by assumption) (by decide) | exact cbr2 (by assumption) (by decide) | exact cbr9 (by assumption) (by decide) | cb_room) (by first | exact cbu0 (by assumption) (by decide) | exact cbu1 (by assumption) (by decide) | exact cbu2 (by assumption) (by decide) | exact cbu9 (by assumption) (by decide) | cb_units) ?_)); (intro t9 h9 tk9 F9 N9); (try dsimp only); (try k_fold))
  k_steps
  refine Hold.mk ?_
  rename IsRange _ _ _ _ _ _ _ _ => rgX
  rename Fr _ _ _ _ => lF
  rename News _ _ _ _ => lN
  k_dflt (refine iterR (n := l.length) 1 (Str.ofString "j") (Str.ofString "area") (fun i => (areaF l i : Int)) rfl rgX (small_one (by decide) (by decide) (by lia) (by lia)) (by rw [rangeSize_nat]; lia) (by dsimp only; first | assumption | lia | fail "none") lF lN rfl rfl rfl ?_ ?_ (by decide) (by passes_own))
  · intro i k u t h tk own hi hk htk F1 N1
    have hstep : areaF l (i + 1) = areaF l i + if l[i]? = some 9 then cntF (l.take i) 32 (l.take i).length else 0 := rfl
    have hki : k.toNat = i := by rw [hk, Int.zero_add]; rfl
    k_steps
    all_goals refine int_end (by k_asm) (by k_asm) rfl ?_ (by intro z h1 h2; simp [h1, h2])
    · rename (S [_] == Str.ofString "\t") = true => e1
      rw [tab_eq] at e1
      have e2 := S1 e1
      have e3 : l.getD k.toNat 0 = 9 := by simpa using e2
      rw [hki] at e3 ⊢
      have e4 : l[i]? = some 9 := by
        rw [List.getElem?_eq_getElem hi]
        simpa [List.getD, hi] using e3
      rw [hstep, if_pos e4]; rfl
    · rename (S [_] == Str.ofString "\t") = false => e1
      rw [tab_eq] at e1
      have e2 := S1 e1
      have e3 : l.getD k.toNat 0 ≠ 9 := by simpa using e2
      rw [hki] at e3
      have e4 : l[i]? ≠ some 9 := by
        intro e
        apply e3
        simp [List.getD, e]
      rw [hstep, if_neg e4]; rfl
  · intro u t h tk _ F1 N1
    k_steps
    exact cb_retI hret rfl (by k_asm) (by k_asm)
end
section
open PySem PySem.W PyProof.Rows PySem.Calls PySem.Spec
set_option maxRecDepth 100000
set_option maxHeartbeats 2000000
local macro_rules | `(tactic| k_room) => `(tactic| cb_room)
/-- what Whitespace counts -/
structure Wst where
  b : Nat
  n : Nat
  nt : Nat
  cnt : List Int
noncomputable def padW (l : List Int) (b : Nat) : List Int := if l.length ≤ b then l ++ List.replicate (b - l.length + 1) 0 else l
noncomputable def wsStep (c : Wst) (d : Nat) : Wst := if d = 32 then ⟨c.b + 1, c.n + 1, c.nt, c.cnt⟩ else ⟨0, c.n + 1, c.nt + 1, (padW c.cnt c.b).set c.b ((padW c.cnt c.b).getD c.b 0 + 1)⟩
noncomputable def wsF (l : List Nat) : Nat → Wst
  | 0 => ⟨0, 0, 0, []⟩
  | i + 1 => wsStep (wsF l i) (l.getD i 0)
theorem tab_cnt1 {st : Wst} (h : st.cnt.length ≤ st.b) : (wsStep st 9).cnt = (st.cnt ++ (List.replicate ((st.b : Int) - (st.cnt.length : Int) + 1).toNat [(0 : Int)]).flatten).set (st.b : Int).toNat ((st.cnt ++ (List.replicate ((st.b : Int) - (st.cnt.length : Int) + 1).toNat [(0 : Int)]).flatten).getD (st.b : Int).toNat 0 + 1) := by
  have e1 : ((st.b : Int) - (st.cnt.length : Int) + 1).toNat = st.b - st.cnt.length + 1 := by rw [← Int.ofNat_sub h]; rfl
  have e2 : (st.b : Int).toNat = st.b := rfl
  have e3 : (List.replicate (st.b - st.cnt.length + 1) [(0 : Int)]).flatten = List.replicate (st.b - st.cnt.length + 1) 0 := by simp
  rw [e1, e2, e3]
  show (padW st.cnt st.b).set st.b ((padW st.cnt st.b).getD st.b 0 + 1) = _
  unfold padW
  rw [if_pos h]
theorem tab_cnt2 {st : Wst} (h : ¬ st.cnt.length ≤ st.b) : (wsStep st 9).cnt = st.cnt.set (st.b : Int).toNat (st.cnt.getD (st.b : Int).toNat 0 + 1) := by
  have e2 : (st.b : Int).toNat = st.b := rfl
  rw [e2]
  show (padW st.cnt st.b).set st.b ((padW st.cnt st.b).getD st.b 0 + 1) = _
  unfold padW
  rw [if_neg h]
theorem tab_len {st : Wst} {i : Nat} (h : st.cnt.length ≤ i ∧ st.b ≤ i) : (wsStep st 9).cnt.length ≤ i + 1 ∧ (wsStep st 9).b ≤ i + 1 := by
  constructor
  · show ((padW st.cnt st.b).set st.b _).length ≤ _
    unfold padW
    rw [List.length_set]
    split
    · rename_i q
      rw [List.length_append, List.length_replicate, ← Nat.add_assoc, Nat.add_sub_cancel' q]
      exact Nat.succ_le_succ h.2
    · exact Nat.le_succ_of_le h.1
  · exact Nat.zero_le _
structure Wσ where
  c : Addr
  us : List Value
  cc : Nat
  st : Wst
  tb : Tok
  tn : Tok
  tnt : Tok
noncomputable abbrev Wps (σ : Wσ) : List (Str × Value) := [(Str.ofString "b", .int σ.st.b σ.tb), (Str.ofString "n", .int σ.st.n σ.tn), (Str.ofString "nt", .int σ.st.nt σ.tnt), (Str.ofString "count", .ref σ.c)]
noncomputable abbrev WLed (base : List (Addr × Obj)) (σ : Wσ) : List (Addr × Obj) := (σ.c, listOf σ.us.toArray σ.cc) :: base
structure WInv (l : List Nat) (k : Nat) (base : List (Addr × Obj)) (I : Addr) (i : Nat) (σ : Wσ) : Prop where
  st : σ.st = wsF l i
  us : IntsAre σ.us σ.st.cnt
  lt : ∀ p ∈ base, @LT.lt Nat _ p.1 σ.c
  ne : @LT.lt Nat _ σ.c I ∨ @LT.lt Nat _ I σ.c
  ltI : ∀ p ∈ base, @LT.lt Nat _ p.1 I
  le : i ≤ k
  len : σ.st.cnt.length ≤ i ∧ σ.st.b ≤ i
theorem st_end' {σ : Type} {h₀ : Heap} {L I : Addr} {oI : Obj} {x : Str} {stored : List Str} {ps : σ → List (Str × Value)} {Led : σ → List (Addr × Obj)} {Inv : σ → Prop} {m₀ m₂ : Str → Option Value} {s : Shared} {Q : Flow → Shared → Prop} {h' : Heap} {tk : Nat} (c : σ)
    (F : Fr h₀ L h' m₂) (hp : ∀ p ∈ ps c, m₂ p.1 = some p.2) (hi : Inv c) (N : News h₀ L h' ((I, oI) :: Led c)) (hr : ∀ z, z ≠ x → (∀ p ∈ ps c, z ≠ p.1) → stored.contains z = false → m₂ z = m₀ z) :
    StEnd h₀ L I oI x stored ps Led Inv m₀ s Q .next { s with heap := h', toks := tk } := st_end c F N hi hp hr
theorem news_ne {h₀ h : Heap} {L a b : Addr} {o o' : Obj} {news : List (Addr × Obj)} (N : News h₀ L h news) (ha : (a, o) ∈ news) (hb : (b, o') ∈ news) (hc : o.cls ≠ o'.cls) : @Ne Nat a b := by
  rintro rfl
  have e := (N _ ha).1.symm.trans (N _ hb).1
  exact hc (congrArg Obj.cls (Option.some.inj e))
theorem winv_nI {l : List Nat} {k : Nat} {base : List (Addr × Obj)} {I : Addr} : ∀ i c, WInv l k base I i c → ∀ p ∈ WLed base c, p.1 ≠ I := by
  intro i c h p hp
  rcases List.mem_cons.mp hp with rfl | hp
  · rcases h.ne with q | q
    · exact Nat.ne_of_lt q
    · exact (Nat.ne_of_lt q).symm
  · exact Nat.ne_of_lt (h.ltI p hp)
theorem winv_start {l : List Nat} {k : Nat} {base : List (Addr × Obj)} {h₀ h : Heap} {L a : Addr} {o : Obj} {tb tn tnt : Tok} (N : News h₀ L h ((a, o) :: base)) (hb : ∀ p ∈ base, p.1 < a) : WInv l k base h.objs.size 0 ⟨a, [], 0, ⟨0, 0, 0, []⟩, tb, tn, tnt⟩ :=
  ⟨rfl, IntsAre.nil, hb, .inl (Heap.lt_size (N _ (List.mem_cons_self ..)).1), fun p hp => Heap.lt_size (N p (List.mem_cons_of_mem _ hp)).1, Nat.zero_le _, by simp⟩
section
variable {prog : Program} {w : World} {A : Around} {E : Value → Shared → Prop} {s : Shared} {l : List Nat} {t u : Tok} {Q : Value → Shared → Prop}
theorem eq_sp {b : Bool} (hb : decide (l = [32]) = b) (h : Q (.bool b) s) : wpAny (model prog w) A (compareOp .Eq (.str (S l) t) (.str (Str.ofString " ") u)) Q E s := by
  refine eq_str ?_
  rw [sp_eq, S_beq (a := l) (b := [32]) rfl, hb]; exact h
theorem eq_tab {b : Bool} (hb : decide (l = [9]) = b) (h : Q (.bool b) s) : wpAny (model prog w) A (compareOp .Eq (.str (S l) t) (.str (Str.ofString "\t") u)) Q E s := by
  refine eq_str ?_
  rw [tab_eq, S_beq (a := l) (b := [9]) rfl, hb]; exact h
end
/-- a tuple of the ledger -/
noncomputable abbrev tupObj (vs : Array Value) : Obj := { cls := .type "tuple", data := .seq vs }
/-- what the ledger says of a Whitespace -/
noncomputable abbrev WsLed (w : World) (l : List Nat) (st : Wst) (x d q ct : Addr) (us : List Value) (k1 k2 k3 k4 k5 tl tn tnt tb : Tok) : List (Addr × Obj) :=
  [(q, tupObj #[.ref ct, .int st.b tb]), (ct, tupObj us.toArray), (x, instObj 83 d),
   (d, dictOf [⟨PyData.keyHash w.params (Str.ofString "raw"), .str (Str.ofString "raw") k1, .str (S l) tl⟩, ⟨PyData.keyHash w.params (Str.ofString "n"), .str (Str.ofString "n") k2, .int st.n tn⟩,
     ⟨PyData.keyHash w.params (Str.ofString "nt"), .str (Str.ofString "nt") k3, .int st.nt tnt⟩, ⟨PyData.keyHash w.params (Str.ofString "norm"), .str (Str.ofString "norm") k4, .ref q⟩, ⟨PyData.keyHash w.params (Str.ofString "is_simple"), .str (Str.ofString "is_simple") k5, .bool (decide ((st.cnt.length : Int) ≤ 1))⟩] 5)]
theorem ws_pick {w : World} {l : List Nat} {st : Wst} {x d q ct : Addr} {us : List Value} {k1 k2 k3 k4 k5 tl tn tnt tb : Tok} {h₀ h : Heap} {L : Addr} {e1 e2 e3 : Addr × Obj} {news : List (Addr × Obj)}
    (N : News h₀ L h ((q, tupObj #[.ref ct, .int st.b tb]) :: (ct, tupObj us.toArray) :: e1 :: e2 :: e3 :: (x, instObj 83 d) ::
   (d, dictOf [⟨PyData.keyHash w.params (Str.ofString "raw"), .str (Str.ofString "raw") k1, .str (S l) tl⟩, ⟨PyData.keyHash w.params (Str.ofString "n"), .str (Str.ofString "n") k2, .int st.n tn⟩,
     ⟨PyData.keyHash w.params (Str.ofString "nt"), .str (Str.ofString "nt") k3, .int st.nt tnt⟩, ⟨PyData.keyHash w.params (Str.ofString "norm"), .str (Str.ofString "norm") k4, .ref q⟩, ⟨PyData.keyHash w.params (Str.ofString "is_simple"), .str (Str.ofString "is_simple") k5, .bool (decide ((st.cnt.length : Int) ≤ 1))⟩] 5) :: news)) :
    News h₀ L h (WsLed w l st x d q ct us k1 k2 k3 k4 k5 tl tn tnt tb ++ news) := fun p hp => N p (by
  rcases List.mem_append.mp hp with hp | hp
  · rcases List.mem_cons.mp hp with rfl | hp
    · exact .head _
    rcases List.mem_cons.mp hp with rfl | hp
    · exact .tail _ (.head _)
    rcases List.mem_cons.mp hp with rfl | hp
    · exact .tail _ (.tail _ (.tail _ (.tail _ (.tail _ (.head _)))))
    rcases List.mem_cons.mp hp with rfl | hp
    · exact .tail _ (.tail _ (.tail _ (.tail _ (.tail _ (.tail _ (.head _))))))
    exact absurd hp List.not_mem_nil
  · exact .tail _ (.tail _ (.tail _ (.tail _ (.tail _ (.tail _ (.tail _ hp)))))))
noncomputable abbrev WsPre (l : List Nat) (k : Nat) : Prop := (l.length ≤ 20) ∧ (k < l.length) ∧ (∀ i, i < k → l[i]? = some 32 ∨ l[i]? = some 9) ∧ (l[k]? ≠ some 32) ∧ (l[k]? ≠ some 9)
theorem ws_cl (w : World) (mg mb mean) : ∀ (news : List (Addr × Obj)) (l : List Nat) (k : Nat) (tl : Tok) (dp un : Nat) (gd : Option (List Code)) (cn : Str) (cs : Scope) (a : Addr) (ccd : Value) (cl : List (Str × Addr)) (outer : List Env) (A₀ : Around) (base h₀ : Heap) (L : Addr) (m : Str → Option Value) (s : Shared) (Q E : Value → Shared → Prop),
    Below A₀ base outer h₀ → Fr h₀ L s.heap m → (hd.heap_39 w.params).In h₀ → News h₀ L s.heap news → Top hd.view_39 (looseW hd.view_39 [Str.ofString "Whitespace"]) mean mg mb h₀ → cs.kind = .function →
    WsPre l k → dp + 2 + 1 < recursionLimit → un + 8 * (2 + 1) < cLine →
    (∀ x d q ct us k1 k2 k3 k4 k5 tl tn tnt tb h' tk', Fr h₀ L h' m → News h₀ L h' (WsLed w l (wsF l k) x d q ct us k1 k2 k3 k4 k5 tl tn tnt tb ++ news) → IntsAre us (wsF l k).cnt → (∀ p ∈ news, @LT.lt Nat _ p.1 d) → Q (.ref x) { s with heap := h', toks := tk' }) →
      wpAny (model PySem.Challenge.rw_sw0061_01.row.prog w) (ktrTop dp un gd cn cs L a ccd cl outer) (call (.ref 83) [.str (S l) tl]) Q E s := by
  intro news l k tl
  k_fill
  intro _ _ _ _ _ _ _ _ _ _ _ _ _ _ _ _ _ _ _ _ _ _ _ pre _ _ hret
  obtain ⟨hl, hk, hws, hn1, hn2⟩ := pre
  k_with_none
  k_with "execs cons" => ((refine hideTk ?_); (intro _); (refine wpAny_execs_cons ?_); (try dsimp only))
  k_dflt (refine' call_cls ?k1 ?k2 ?k3 ?k4 ?k5 ?k6 ?_; (case k1 => k_asm); (case k2 => k_asm); (case k3 => k_asm); (case k4 => k_is); (case k5 => k_is); (case k6 => k_is); k_whole; intro x' d' h' F' N' l1 l2; (have hnd := l1); (try k_lt l1); (try k_lt2 l2); (try k_sweep); cell_enter)
  k_with "exec For Name Attribute cons nil" => (k_dflt (refine wpAny_For ?_ (by intro _; rfl)))
  k_with "pyIter str" => (refine Hold.out ?_)
  k_with "compareOp Eq str str" => (with_reducible (first
    | (refine eq_sp (b := true) (by decide) ?_) | (refine eq_sp (b := false) (by first | decide | (simp; omega)) ?_)
    | (refine eq_tab (b := true) (by decide) ?_) | (refine eq_tab (b := false) (by first | decide | (simp; omega)) ?_)))
  k_with "setAttr ref ref" => (refine Hold.out ?_)
  k_steps
  refine Hold.mk ?_
  try dsimp only
  refine hideTk ?_
  intro tk0
  rename Fr _ _ _ _ => lF
  rename News _ _ _ _ => lN
  obtain ⟨bs, hbs, hbl, lN2⟩ := hideB lN (ktn_ltOf (by simp only [AllLt]; omega))
  clear lN
  obtain ⟨mm, ⟨e1, e2, e3, e4, e5, e6, e7⟩, lF2⟩ := hideM7 (Str.ofString "b") (Str.ofString "n") (Str.ofString "nt") (Str.ofString "count") (Str.ofString "self") (Str.ofString "S") (Str.ofString "T") lF rfl rfl rfl rfl rfl rfl rfl
  clear lF
  k_with "eval Name" => (k_dflt ((refine nameX_L (by k_asm) (by assumption) ?_ (by rfl) (by rfl)); k_whole))
  k_dflt (refine iterS_st 0 (Str.ofString "ch") [] Wps (WLed bs) (WInv l k bs) ⟨_, [], 0, ⟨0, 0, 0, []⟩, _, _, _⟩ rfl (Nat.zero_le _) lF2 lN2 winv_nI (winv_start lN2 hbl) (List.forall_mem_cons.mpr ⟨e1, List.forall_mem_cons.mpr ⟨e2, List.forall_mem_cons.mpr ⟨e3, List.forall_mem_cons.mpr ⟨e4, List.forall_mem_nil _⟩⟩⟩⟩) rfl rfl ?_ ?_ (by passes_own))
  · rintro i d t c u h tk I oI hd _ _ hI F1 N1
    obtain ⟨ca, us, cc, st, tb, tn, tnt⟩ := c
    obtain ⟨hst, hus, hlt, hne, hltI, hle, hlen⟩ := hI
    dsimp only at hst hus hlt hne hltI hlen
    dsimp only [bindP, Wps, WLed] at F1 N1
    refine hideQ ?_
    intro QQ hQQ
    rcases Nat.lt_or_ge i k with hik | hik
    · have hst' : wsF l (i + 1) = wsStep st d := by rw [hst]; show wsStep _ _ = _; rw [show l.getD i 0 = d by simp [List.getD, hd]]
      have hc20 : st.cnt.length ≤ 20 := by omega
      have hb20 : st.b ≤ 20 := by omega
      have hds : d = 32 ∨ d = 9 := by have := hws i hik; rw [hd] at this; simpa using this
      clear hl hk
      rcases hds with rfl | rfl
      · k_steps
        subst QQ
        refine st_end ⟨ca, us, cc, wsStep st 32, _, _, _⟩ (by k_asm) (by k_asm) ⟨hst'.symm, hus, (by first | assumption | exact ktn_ltOf (And.right (And.right (And.right (And.right (by assumption)))))), hne, (by first | assumption | exact ktn_ltOf (And.right (And.right (And.right (And.right (by assumption)))))), hik, ⟨by show st.cnt.length ≤ _; omega, by show st.b + 1 ≤ _; omega⟩⟩ (by repeat' first | exact List.forall_mem_nil _ | refine List.forall_mem_cons.mpr ⟨rfl, ?_⟩) ?_
        intro z h1 h2 _
        simp only [Wps, List.forall_mem_cons, List.not_mem_nil, false_implies, implies_true, and_true, ne_eq] at h2
        simp [h1, h2]
      · k_steps
        · have hlt2 : st.cnt.length ≤ st.b := by omega
          rename IntsAre _ _ => hints
          rename News _ _ _ _ => hN
          rw [← tab_cnt1 hlt2] at hints
          subst QQ
          refine st_end' ⟨_, _, 0, wsStep st 9, _, _, _⟩ (by k_asm) (by repeat' first | exact List.forall_mem_nil _ | refine List.forall_mem_cons.mpr ⟨rfl, ?_⟩) ⟨hst'.symm, hints, (by first | assumption | exact ktn_ltOf (And.right (And.right (And.right (And.right (by assumption)))))), .inr (by dsimp only; omega), (by first | assumption | exact ktn_ltOf (And.right (And.right (And.right (And.right (by assumption)))))), hik, tab_len hlen⟩ (fun p hp => hN p (by simp only [WLed, List.mem_cons] at hp ⊢; rcases hp with h | h | h <;> simp [h])) ?_
          intro z h1 h2 _
          simp only [Wps, List.forall_mem_cons, List.not_mem_nil, false_implies, implies_true, and_true, ne_eq] at h2
          simp [h1, h2]
        · have hlt2 : ¬ st.cnt.length ≤ st.b := by omega
          rename IntsAre _ _ => hints
          rename News _ _ _ _ => hN
          rw [← tab_cnt2 hlt2] at hints
          subst QQ
          refine st_end' ⟨ca, _, cc, wsStep st 9, _, _, _⟩ (by k_asm) (by repeat' first | exact List.forall_mem_nil _ | refine List.forall_mem_cons.mpr ⟨rfl, ?_⟩) ⟨hst'.symm, hints, (by first | assumption | exact ktn_ltOf (And.right (And.right (And.right (And.right (by assumption)))))), hne, (by first | assumption | exact ktn_ltOf (And.right (And.right (And.right (And.right (by assumption)))))), hik, tab_len hlen⟩ (fun p hp => hN p (by simp only [WLed, List.mem_cons] at hp ⊢; rcases hp with h | h | h <;> simp [h])) ?_
          intro z h1 h2 _
          simp only [Wps, List.forall_mem_cons, List.not_mem_nil, false_implies, implies_true, and_true, ne_eq] at h2
          simp [h1, h2]
    · have hik : i = k := by omega
      subst hik
      have hd1 : d ≠ 32 := fun e => hn1 (by rw [hd, e])
      have hd2 : d ≠ 9 := fun e => hn2 (by rw [hd, e])
      k_steps
      subst QQ
      subst hbs
      k_lt hlt
      k_lt hltI
      dsimp only [StEnd]
      k_steps
      refine Hold.mk ?_
      k_with_none
      k_with "eval Name" => (k_dflt ((refine nameX_L (by k_asm) (by assumption) ?_ (by rfl) (by rfl)); k_whole))
      rename News _ _ _ _ => lN
      have hDd := news_ne (b := d') lN (.tail _ (.head _)) (.tail _ (.tail _ (.tail _ (.tail _ (.tail _ (.tail _ (.head _))))))) (show (Value.type "tuple") ≠ Value.type "dict" by decide)
      k_steps
      rename News _ _ _ _ => hN
      rename Fr _ _ _ _ => hF
      rw [hst] at hus hN
      exact hret x' d' _ _ us _ _ _ _ _ _ _ _ _ _ _ hF (ws_pick hN) hus hnd
  · intro I c u h tk _ hI
    exact absurd hI.le (by omega)
end
section
open PySem PySem.W PyProof.Rows PySem.Calls PySem.Spec
set_option maxRecDepth 100000
set_option maxHeartbeats 2000000
local macro_rules | `(tactic| k_room) => `(tactic| cb_room)
local macro_rules | `(tactic| k_mem) => `(tactic| assumption)
/-- the blanks ahead of tabs, whole sizes of them -/
noncomputable def ilF (st : Wst) (z : Nat) : Nat → Int
  | 0 => 0
  | j + 1 => ilF st z j + ((z + j) / z : Nat) * st.cnt.getD (z + j) 0
noncomputable def indF (st : Wst) (z : Nat) : Int := st.b + z * (ilF st z (st.cnt.length - z) + st.nt)
section
variable {prog : Program} {w : World} {A : Around} {E : Value → Shared → Prop} {s : Shared} {Q : Value → Shared → Prop} {a b : Int} {t u : Tok}
theorem mul_sm (h0 : 0 ≤ a) (h1 : a ≤ 1000) (h : Q (.int (a * b) s.toks) { s with toks := s.toks + 1 }) : wpAny (model prog w) A (binaryOp .Mult (.int a t) (.int b u)) Q E s := by
  refine mul_int h (PySem.IntMulOk.of_left ?_)
  obtain ⟨n, rfl⟩ := Int.eq_ofNat_of_zero_le h0
  exact intBits_cast_le (by rw [sizeLine_eq]; lia)
end
theorem istup_of {h₀ h : Heap} {L t : Addr} {vs : Array Value} {news : List (Addr × Obj)} (N : News h₀ L h news) (hm : (t, tupObj vs) ∈ news) : IsTup h t vs := ⟨_, (N _ hm).1, rfl, _, rfl⟩
theorem len_tup {prog : Program} {w : World} {A : Around} {E : Value → Shared → Prop} {s : Shared} {Q : Value → Shared → Prop} {ct : Addr} {us : List Value} {n : Nat} (ht : IsTup s.heap ct us.toArray) (hn : us.length = n) (hz : n ≤ 1000) (h : Q (.int (n : Int) (s.toks + 1)) { s with toks := s.toks + 1 + 1 }) : wpAny (model prog w) A (call (.builtin "len") [.ref ct]) Q E s := by
  refine len_tuple ht (by simp; lia) ?_
  simp only [List.size_toArray, hn]; exact h
theorem ind_any (w : World) (mg mb mean) : ∀ (nx : List (Addr × Obj)) (l : List Nat) (st : Wst) (x d q ct : Addr) (us : List Value) (k1 k2 k3 k4 k5 tl tn tnt tb : Tok) (z : Nat) (v : Int) (tz : Tok), (∀ p ∈ WsLed w l st x d q ct us k1 k2 k3 k4 k5 tl tn tnt tb, p ∈ nx) →
    Cl w mg mb mean 52 nx 0 (IntsAre us st.cnt ∧ 1 ≤ z ∧ z ≤ 20 ∧ st.cnt.length ≤ 20 ∧ indF st z = v) [.ref x, .int z tz] (fun t => .int v t) := by
  intro nx l st x d q ct us k1 k2 k3 k4 k5 tl tn tnt tb z v tz hs
  have h1 := hs _ (List.Mem.head _)
  have h2 := hs _ (List.Mem.tail _ (List.Mem.head _))
  have h3 := hs _ (List.Mem.tail _ (List.Mem.tail _ (List.Mem.head _)))
  have h4 := hs _ (List.Mem.tail _ (List.Mem.tail _ (List.Mem.tail _ (List.Mem.head _))))
  clear hs
  unfold Cl CbRec CbLists CbRet
  k_fill
  intro _ _ _ _ _ _ _ _ _ _ _ _ _ _ _ _ _ _ _ _ N _ _ pre _ _
  intro hret
  obtain ⟨hus, hz1, hz2, hlen, rfl⟩ := pre
  first | (have hdpE := cbe (M := recursionLimit) ‹_ + _ + 1 < recursionLimit›) | (have hdpE := cbeZ (M := recursionLimit) ‹_ + 0 + 1 < recursionLimit›)
  refine wpAny_call ?_
  k_dflt cell_enter
  k_with_none
  k_with "execs cons" => ((refine hideTk ?_); (intro _); (refine wpAny_execs_cons ?_); (try dsimp only))
  k_with "exec For Name Call cons nil" => (k_dflt (refine wpAny_For ?_ (by intro _; rfl)))
  k_with "pyIter ref" => (refine Hold.out ?_)
  have hul : us.length = st.cnt.length := hus.length
  k_with "call builtin:len cons nil" => (k_dflt (refine len_tup (istup_of (by assumption) h2) hul (by first | assumption | lia) ?_))
  k_with "binaryOp Mult int int" => (k_dflt (refine mul_sm (by first | assumption | lia) (by first | assumption | lia) ?_))
  k_with "subscriptTail Name Name ref int" => ((k_dflt (refine item_tuple_ints (istup_of (by assumption) (List.mem_append_right _ h2)) hus (by first | assumption | lia) (by first | assumption | lia) (by first | assumption | lia) ?_)); intro t9)
  k_steps
  refine Hold.mk ?_
  rename IsRange _ _ _ _ _ _ _ _ => rgX
  rename Fr _ _ _ _ => lF
  rename News _ _ _ _ => lN
  have hsz : (((st.cnt.length : Int) - (z : Int)).toNat) = st.cnt.length - z := Int.toNat_sub _ _
  k_dflt (refine iterR (n := st.cnt.length - z) 0 (Str.ofString "i") (Str.ofString "il") (fun i => ilF st z i) rfl rgX (small_one (by first | assumption | lia) (by first | assumption | lia) (by first | assumption | lia) (by first | assumption | lia)) (by rw [rangeSize_nat, hsz]) (Nat.zero_le _) lF lN rfl rfl rfl ?_ ?_ (by decide) (by passes_own))
  · intro i k u t h tk own hi hk _ F1 N1
    have hki : k = ((z + i : Nat) : Int) := by first | assumption | lia
    have hzi : z + i < st.cnt.length := by rw [Nat.add_comm]; exact Nat.add_lt_of_lt_sub hi
    have hz3 : z + i ≤ 1000 := Nat.le_trans (Nat.le_of_lt hzi) (Nat.le_trans hlen (by decide))
    clear hsz hi hk
    obtain ⟨d, ed⟩ : ∃ d, (z + i) / z = d := ⟨_, rfl⟩
    have hd : d ≤ z + i := by rw [← ed]; exact Nat.div_le_self _ _
    have hstep : ilF st z (i + 1) = ilF st z i + (d : Nat) * st.cnt.getD (z + i) 0 := by rw [← ed]; rfl
    k_with "binaryOp FloorDiv int int" => (k_dflt (refine fdiv_n (n := z + i) (m := z) ed hki rfl (by first | assumption | lia) (by first | assumption | lia) (by first | assumption | lia) ?_))
    k_steps
    refine int_end (by k_asm) (by k_asm) rfl ?_ (by intro z h1 h2; simp [h1, h2])
    rw [hstep, hki]; rfl
  · intro u t h tk _ F1 N1
    k_steps
    exact cb_retI hret rfl (by k_asm) (by k_asm)
end
section
open PySem PySem.W PyProof.Rows PySem.Calls PySem.Spec
set_option maxRecDepth 100000
set_option maxHeartbeats 8000000
/-- the distance of a text from itself -/
theorem lev_eq (w : World) (mg mb mean) : ∀ (news) (x : List Nat) (c : Int) (ta tb tc : Tok), Cl w mg mb mean 157 news 1 (x.length ≤ 20) [.str (S x) ta, .str (S x) tb, .int c tc] (fun t => .int 0 t) := by
  intro news x c ta tb tc
  unfold Cl CbRec CbLists CbRet
  k_fill
  intro _ _ _ _ _ _ _ _ _ _ _ _ _ _ _ _ _ _ _ _ _ _ _ pre _ _
  intros
  rename_i hret
  first | (have hdpE := cbe (M := recursionLimit) ‹_ + _ + 1 < recursionLimit›) | (have hdpE := cbeZ (M := recursionLimit) ‹_ + 0 + 1 < recursionLimit›)
  refine wpAny_call ?_
  k_dflt cell_enter
  k_with_none
  k_with "exec While BoolOp cons nil" => (refine Hold.out ?_)
  k_steps
  · refine cb_retI hret rfl (by k_asm) (by k_asm)
  · exfalso
    rename (S _ == S _) = false => h
    simp at h
end
section
open PySem PySem.W PyProof.Rows PySem.Calls PySem.Spec
set_option maxRecDepth 100000
set_option maxHeartbeats 2000000
noncomputable def sqG (l : List Nat) (acc : List Int) (j : Int) : List Int := if l.getD j.toNat 0 = 9 then acc ++ [Txt.count (S (l.take j.toNat)) (Str.ofString " ")] else acc
theorem sqG_grows (l : List Nat) : KPfGrows (sqG l) := by
  intro a k
  unfold sqG
  split
  · simp
  · lia
theorem tab_if {l : List Nat} {k : Nat} {v : Bool} (h : (S [l.getD k 0] == Str.ofString "\t") = v) : v = decide (l.getD k 0 = 9) := by
  rw [tab_eq] at h
  exact S1 h
section
variable {M : Model} {A : Around} {E : Value → Shared → Prop} {s : Shared} {h₀ : Heap} {L a : Addr} {m : Str → Option Value} {cn : Str} {cs : Scope} {ccd : Value} {cl : List (Str × Addr)}
  {x : Str} {v : Value} {own rest : List (Addr × Obj)} {c : Addr} {o : Obj} {v₀ : Option Value}
theorem storeX_C {Q : Unit → Shared → Prop} (F : Fr h₀ L s.heap m) (N : News h₀ L s.heap (own ++ (c, o) :: rest)) (hc : cl.lookup x = some c) (h1 : ∀ p ∈ own, p.1 ≠ c) (h2 : ∀ p ∈ rest, p.1 ≠ c) (hd : o.data = .cell v₀)
    (h : ∀ h' o', Fr h₀ L h' m → News h₀ L h' (own ++ (c, o') :: rest) → o'.data = .cell (some v) → Q () { s with heap := h' })
    (hk : cs.kind = .function := by rfl) (hx : (envX cn cs L a ccd cl).kindOf x = some .cell := by rfl) : wpAny M A (storeName (envX cn cs L a ccd cl) x v) Q E s := by
  have hmem := N (c, o) (List.mem_append_right _ (.head _))
  refine wpAny_storeName_cell hk hx hc ⟨o, hmem.1, hd⟩ fun h' hv hs => ?_
  obtain ⟨o', ho', hd'⟩ := hv
  refine h h' o' ⟨F.ns.sameBut hs (Ne.symm hmem.2.1), fun b ob e => (hs.2 b (fun q => ?_)).trans (F.keep b ob e), F.above⟩ (N.setAt h1 h2 hs ho') hd'
  rw [q, hmem.2.2] at e; cases e
end
noncomputable def sqC (k : Int) (acc : List Int) (p : Int) : List Int := if k < p then acc ++ [p] else acc
theorem sqC_grows (k : Int) : KPfGrows (sqC k) := by
  intro a j
  unfold sqC
  split
  · simp
  · lia
noncomputable def sqA (l : List Nat) : List Int := (rangeKs 0 l.length).foldl (sqG l) []
noncomputable abbrev SqPre (l : List Nat) (n : Nat) : Prop := (l.length ≤ 20) ∧ (∀ k, k ≤ n → (k < ((sqA l).foldl (sqC (k : Int)) []).length ↔ k < n))
noncomputable def CellEnd (h₀ : Heap) (L : Addr) (m₀ : Str → Option Value) (own rest : List (Addr × Obj)) (c : Addr) (s : Shared) (v : Int) (f : Flow) (s₂ : Shared) : Prop :=
  f = .next ∧ ∃ h' tk' o' t, s₂ = { s with heap := h', toks := tk' } ∧ Fr h₀ L h' m₀ ∧ News h₀ L h' (own ++ (c, o') :: rest) ∧ o'.data = .cell (some (.int v t))
section
variable {prog : Program} {w : World} {A : Around} {E : Value → Shared → Prop} {Q : Flow → Shared → Prop} {s : Shared} {env : Env} {h₀ : Heap} {L : Addr}
theorem isList_head {h : Heap} {d : Addr} {ys : List Value} {nx : List (Addr × Obj)} (N : News h₀ L h ((d, LCg.lst ys) :: nx)) : h.IsList d ys.toArray := ⟨_, (N _ (.head _)).1, rfl, _, rfl⟩
theorem cell_end {m₀ : Str → Option Value} {own rest : List (Addr × Obj)} {c : Addr} {v v' : Int} {t : Tok} {o' : Obj} {h' : Heap} {tk' : Nat} (F : Fr h₀ L h' m₀) (N : News h₀ L h' (own ++ (c, o') :: rest)) (hd : o'.data = .cell (some (.int v' t))) (e : v' = v) :
    CellEnd h₀ L m₀ own rest c s v .next { s with heap := h', toks := tk' } := ⟨rfl, h', tk', o', t, rfl, F, N, e ▸ hd⟩
/-- a while that turns one int in a cell -/
theorem while_cell {test : Expr} {body : List Stmt} {pos : Pos} {m₀ : Str → Option Value} {own rest : List (Addr × Obj)} {c : Addr} {o : Obj} {t₀ : Tok} (n : Nat)
    (F : Fr h₀ L s.heap m₀) (N : News h₀ L s.heap (own ++ (c, o) :: rest)) (hy : o.data = .cell (some (.int 0 t₀)))
    (htest : ∀ k t o h tk, k ≤ n → o.data = .cell (some (.int ((k : Nat) : Int) t)) → Fr h₀ L h m₀ → News h₀ L h (own ++ (c, o) :: rest) →
      wpAny (model prog w) A (isTrue test env (eval test env)) (TestEnd h₀ L m₀ (own ++ (c, o) :: rest) s (k < n)) E { s with heap := h, toks := tk })
    (hbody : ∀ k t o h tk, k < n → o.data = .cell (some (.int ((k : Nat) : Int) t)) → Fr h₀ L h m₀ → News h₀ L h (own ++ (c, o) :: rest) →
      wpAny (model prog w) A (execs body env) (CellEnd h₀ L m₀ own rest c s ((k + 1 : Nat) : Int)) E { s with heap := h, toks := tk })
    (done : ∀ t o h tk, o.data = .cell (some (.int ((n : Nat) : Int) t)) → Fr h₀ L h m₀ → News h₀ L h (own ++ (c, o) :: rest) → Q .next { s with heap := h, toks := tk })
    (hE : PassesOwn (model prog w) A env E := by passes_own) :
    wpAny (model prog w) A (exec (.While test body [] pos) env) Q E s := by
  refine While_inv2 (fun r m nx => m = m₀ ∧ ∃ k t o, k ≤ n ∧ r = n - k ∧ nx = own ++ (c, o) :: rest ∧ o.data = .cell (some (.int ((k : Nat) : Int) t))) F N ⟨rfl, 0, t₀, o, Nat.zero_le _, rfl, rfl, hy⟩ ?_ hE
  rintro r m₁ nx h tk F₁ N₁ ⟨rfl, k, t, o, hk, rfl, rfl, h1⟩
  refine wpAny_mono (htest k t o h tk hk h1 F₁ N₁) (fun b s₂ p => ?_) fun _ _ x => x
  obtain ⟨hb, h', tk', rfl, F', N'⟩ := p
  cases b with
  | false =>
    have : k = n := by
      rcases Nat.lt_or_ge k n with q | q
      · exact absurd (hb.mpr q) (by decide)
      · exact Nat.le_antisymm hk q
    subst this
    simp only [Bool.false_eq_true, if_false]
    exact done t o h' tk' h1 F' N'
  | true =>
    have hlt := hb.mp rfl
    simp only [if_true]
    refine wpAny_mono (hbody k t o h' tk' hlt h1 F' N') (fun f s₃ p => ?_) fun _ _ x => x
    obtain ⟨rfl, h'', tk'', o', t', e, F'', N'', hv⟩ := p
    exact ⟨h'', tk'', _, _, n - (k + 1), e, F'', N'', Nat.sub_lt_sub_left hlt (Nat.lt_succ_self _), rfl, k + 1, t', o', hlt, rfl, rfl, hv⟩
end
theorem square_cl (w : World) (mg mb mean) : ∀ (news) (l : List Nat) (n : Nat) (tl : Tok), Cl w mg mb mean 174 news 0 (SqPre l n) [.str (S l) tl] (fun t => .int n t) := by
  intro news l n tl
  unfold Cl CbRec CbLists CbRet
  k_fill
  intro _ _ _ _ _ _ _ _ _ _ _ _ _ _ _ _ _ _ _ _ hN0 _ _ hpre _ _ hret
  obtain ⟨hl, hturns⟩ := hpre
  first | (have hdpE := cbe (M := recursionLimit) ‹_ + _ + 1 < recursionLimit›) | (have hdpE := cbeZ (M := recursionLimit) ‹_ + 0 + 1 < recursionLimit›)
  refine wpAny_call ?_
  k_dflt (refine' code_defC ?k1 ?k2 ?k3 ?k4 ?k5 ?kA ?kF ?kK ?k6 ?k7 ?k8 ?k9 ?kB ?kD ?_ ?c2 ?c3 ?c4; (case kA => exact rfl); (case kF => exact rfl); (case kK => assumption); (case k1 => k_asm); (case k2 => k_asm); (case k3 => k_asm); (case k4 => k_asm); (case k5 => k_asm); (case k6 => k_is); (case k7 => k_is); (case k8 => ktr_room); (case k9 => exact BindsTo.of_eq rfl); (case kB => exact rfl); (case kD => decide +kernel); (case c2 => exact rfl); (case c3 => exact rfl); (case c4 => exact rfl); k_whole; intro g' L' h' tk' cells' FG' F' N' Y' B' X' T' l1; (try k_lt l1); k_cells Y'; (try simp only [List.cons_append, List.nil_append] at N'); (try dsimp only); (try k_lift B'); (try k_fold))
  refine hideE (by passes_own) ?_
  intro EE hEE
  k_with_none
  k_with "subscriptTail Name Name str int" => (k_dflt (refine sub_itemZ (by first | assumption | lia) (by first | assumption | lia) (by first | assumption | lia) ?_))
  k_with "subscriptTail Name Slice str ref" => ((k_dflt (refine sub_toT (T := 0) (Nat.zero_le _) (by assumption) (by assumption) (by first | assumption | lia) (by first | assumption | lia) (by first | assumption | lia) ?_)); intro h9 t9 k9 l9 F9 N9)
  k_with "exec While Compare cons nil" => (refine Hold.out ?_)
  k_with "CompSrcT" => (k_dflt (first | (refine LCt.CompSrcT.range (n := l.length) (by rfl) (by k_asm) (by k_asm) (by assumption) (by first | decide | exact small_one (by l_bnd) (by l_bnd) (by l_bnd) (by l_bnd)) (by first | exact rangeSize_nat _ _ | rfl) (by rw [PySem.sizeLine_eq]; lia) ?_; intro g'; (refine' kci_range (sqG l) (fun k' t' I' oI' C' oC' D' m' ys' l' h' tk' E' hlo' hhi' hI' hC' hx' F' N' off' ne' => ?_) ?_ ?_); (all_goals (try (simp only [LCg.Off3, and_true] at off'))); (all_goals (try ((show KPfMark → _); intro hMark'))); kcf_last) | (refine LCt.CompSrcT.ledger (by rfl) (by k_asm) (by k_asm) (by k_mem) (by rw [PySem.sizeLine_eq, List.size_toArray]; lia) ?_; intro g'; (refine' kci_list (sqC (k : Int)) (by assumption) (fun k' t' I' oI' C' oC' D' m' ys' l' h' tk' E' hk' hI' hC' hx' F' N' off' ne' => ?_) ?_ ?_); (all_goals (try (simp only [LCg.Off3, and_true] at off'))); (all_goals (try ((show KPfMark → _); intro hMark'))); kcf_last)))
  k_with "CompEnd int" => (k_dflt (refine LCg.CompEnd.intro (by assumption) (by assumption) _ (fun _ h => h) (by first | assumption | (simp only [LCg.Off3, and_assoc] at *; assumption)) (by first | exact trivial | exact .inr ⟨_, by k_mem, rfl, _, rfl⟩) (kci_el ?_ rfl rfl)))
  k_with "CompEnd none" => (k_dflt (refine LCg.CompEnd.intro (by assumption) (by assumption) _ (fun _ h => h) (by first | assumption | (simp only [LCg.Off3, and_assoc] at *; assumption)) (by first | exact trivial | exact .inr ⟨_, by k_mem, rfl, _, rfl⟩) (kci_no ?_ rfl)))
  k_with "call builtin:len cons nil" => (k_dflt (first | (refine len_S (by first | assumption | lia) ?_) | (refine call_len_list (isList_head (by assumption)) (by simp only [List.size_toArray] at *; lia) ?_)))
  k_with "KPfGrows" => (first | exact sqG_grows l | exact sqC_grows _)
  k_with "storeName int" => (refine Hold.out ?_)
  k_steps
  · have e := tab_if (by assumption)
    unfold sqG
    rw [if_pos (by simpa using e)]
  · have e := tab_if (by assumption)
    unfold sqG
    rw [if_neg (by simpa using e)]
  · refine Hold.mk ?_
    rename_i ysA _ _ _ _ _ _ o1
    rename Fr _ _ _ _ => lF
    rename News _ _ _ _ => lN
    k_dflt (refine storeX_C (own := [_]) (rest := _ :: news) lF lN rfl ?_ ?_ (by assumption) ?_ (by rfl) (by rfl))
    · intro p hp
      rcases List.mem_singleton.mp hp with rfl
      exact fun e => o1.1 e.symm
    · intro p hp
      rcases List.mem_cons.mp hp with rfl | hp
      · exact Nat.ne_of_lt (Nat.lt_succ_self _)
      · exact Nat.ne_of_lt (Nat.lt_succ_of_lt (Nat.lt_succ_of_lt (l1 p hp)))
    · intro h9 o9 F9 N9 d9
      clear lF lN
      k_steps
      refine Hold.mk ?_
      refine' while_cell (own := [_]) (rest := _ :: news) n F9 N9 d9 ?_ ?_ ?_ (by passes_own)
      · intro k t o h tk hk hd F1 N1
        clear F9 N9 d9
        simp only [List.cons_append, List.nil_append] at N1 ⊢
        k_steps
        · exact if_pos (by assumption)
        · exact if_neg (by first | assumption | lia)
        · have hc := hturns k hk
          unfold sqA at hc
          refine test_end ?_ (by k_asm) (by first | k_asm | exact cb_drop (by assumption) (fun p hp => .tail _ hp))
          constructor
          · intro hb
            have hb2 := of_decide_eq_true hb
            rw [List.size_toArray] at hb2
            refine hc.mp ?_
            lia
          · intro hb
            have hb2 := hc.mpr hb
            refine decide_eq_true ?_
            rw [List.size_toArray]
            lia
      · intro k t o h tk hk hd F1 N1
        clear F9 N9 d9
        simp only [List.cons_append, List.nil_append] at N1
        k_steps
        refine Hold.mk ?_
        rename Fr _ _ _ _ => lF
        rename News _ _ _ _ => lN
        k_dflt (refine storeX_C (own := [_]) (rest := _ :: news) lF lN rfl ?_ ?_ (by assumption) ?_ (by rfl) (by rfl))
        · intro p hp
          rcases List.mem_singleton.mp hp with rfl
          exact fun e => o1.1 e.symm
        · intro p hp
          rcases List.mem_cons.mp hp with rfl | hp
          · exact Nat.ne_of_lt (Nat.lt_succ_self _)
          · exact Nat.ne_of_lt (Nat.lt_succ_of_lt (Nat.lt_succ_of_lt (l1 p hp)))
        · intro h9 o9 F9 N9 d9
          clear lF lN
          k_steps
          exact cell_end F9 N9 d9 (by first | assumption | lia)
      · intro t o h tk hd F1 N1
        clear F9 N9 d9
        simp only [List.cons_append, List.nil_append] at N1
        k_steps
        exact cb_retI hret rfl (Fr.keeps (by assumption) F1.keep) (fun p hp => ⟨(N1 p (.tail _ (.tail _ (.tail _ hp)))).1, (hN0 p hp).2⟩)
end
section
open PySem PySem.W PyProof.Rows PySem.Calls PySem.Spec
set_option maxRecDepth 100000
set_option maxHeartbeats 2000000
/-- an object that is a list of these values -/
noncomputable def LstObj (o : Obj) (vs : List Value) : Prop := o.cls = .type "list" ∧ ∃ n, o.data = .seq vs.toArray n
noncomputable abbrev GetPre (news : List (Addr × Obj)) (d : Addr) (vs : List Value) (i : Nat) (v : Value) : Prop := (∃ o, (d, o) ∈ news ∧ LstObj o vs) ∧ (vs[i]? = some v) ∧ (vs.length ≤ 1000)
theorem isList_mem {h₀ h : Heap} {L d : Addr} {ys : List Value} {nx : List (Addr × Obj)} (N : News h₀ L h nx) (hm : ∃ o, (d, o) ∈ nx ∧ LstObj o ys) : h.IsList d ys.toArray := by
  obtain ⟨o, hm, hc, n, hd⟩ := hm
  exact ⟨o, (N _ hm).1, hc, n, hd⟩
theorem get_fit {vs : List Value} {i : Nat} {v : Value} (h : vs[i]? = some v) (hle : vs.length ≤ 1000) : ((i : Nat) : Int) < 2 ^ 63 := by
  have := (List.getElem?_eq_some_iff.mp h).1
  have e : ((2 : Int) ^ 63) = 9223372036854775808 := by decide
  omega
theorem getitem_cl (w : World) (mg mb mean) : ∀ (news) (d : Addr) (vs : List Value) (i : Nat) (v : Value) (t : Tok), Cl w mg mb mean 129 news 0 (GetPre news d vs i v) [.ref d, .int i t] (fun _ => v) := by
  intro news d vs i v t
  unfold Cl CbRec CbLists CbRet
  k_fill
  intro _ _ _ _ _ _ _ _ _ _ _ _ _ _ _ _ _ _ _ _ _ _ _ hpre _ _ hret
  obtain ⟨hmem, hat, hle⟩ := hpre
  first | (have hdpE := cbe (M := recursionLimit) ‹_ + _ + 1 < recursionLimit›) | (have hdpE := cbeZ (M := recursionLimit) ‹_ + 0 + 1 < recursionLimit›)
  refine wpAny_call ?_
  k_dflt cell_enter
  k_with_none
  k_with "subscriptTail Name Name ref int" => (k_dflt (first | refine item_list (isList_mem (by assumption) hmem) (Int.ofNat_nonneg _) (get_fit hat hle) (by simpa using hat) ?_ | fail "none"))
  k_steps
  exact hret 0 _ _ (by k_asm) (by k_asm)
end
section
open PySem PySem.W PyProof.Rows PySem.Calls PySem.Spec
set_option maxRecDepth 100000
set_option maxHeartbeats 2000000
noncomputable abbrev SetPre (own rest : List (Addr × Obj)) (d : Addr) (o : Obj) (vs : List Value) (i : Nat) : Prop := (LstObj o vs) ∧ (∀ p ∈ own, p.1 ≠ d) ∧ (∀ p ∈ rest, p.1 ≠ d) ∧ (i < vs.length) ∧ (vs.length ≤ 1000)
theorem setitem_cl (w : World) (mg mb mean) : ∀ (own rest : List (Addr × Obj)) (d : Addr) (o : Obj) (vs : List Value) (i : Nat) (v : Value) (t : Tok) (dp un : Nat) (gd : Option (List Code)) (cn : Str) (cs : Scope) (a : Addr) (ccd : Value) (cl : List (Str × Addr)) (outer : List Env) (A₀ : Around) (base h₀ : Heap) (L : Addr) (m : Str → Option Value) (s : Shared) (Q E : Value → Shared → Prop),
    Below A₀ base outer h₀ → Fr h₀ L s.heap m → (hd.heap_39 w.params).In h₀ → News h₀ L s.heap (own ++ (d, o) :: rest) → Top hd.view_39 (looseW hd.view_39 [Str.ofString "Whitespace"]) mean mg mb h₀ → cs.kind = .function →
    SetPre own rest d o vs i → dp + 0 + 1 < recursionLimit → un + 8 * (0 + 1) < cLine →
    (∀ o' h' tk', Fr h₀ L h' m → LstObj o' (vs.set i v) → News h₀ L h' (own ++ (d, o') :: rest) → Q .none { s with heap := h', toks := tk' }) →
      wpAny (model PySem.Challenge.rw_sw0061_01.row.prog w) (ktrTop dp un gd cn cs L a ccd cl outer) (call (.ref 136) [.ref d, .int i t, v]) Q E s := by
  intro own rest d o vs i v t
  k_fill
  intro _ _ _ _ _ _ _ _ _ _ _ _ _ _ _ _ _ _ _ _ _ _ _ pre _ _ hret
  obtain ⟨hobj, hown, hrest, hlt, hle⟩ := pre
  first | (have hdpE := cbe (M := recursionLimit) ‹_ + _ + 1 < recursionLimit›) | (have hdpE := cbeZ (M := recursionLimit) ‹_ + 0 + 1 < recursionLimit›)
  refine wpAny_call ?_
  k_dflt cell_enter
  k_with_none
  k_with "setItem ref int" => (refine Hold.out ?_)
  k_steps
  refine Hold.mk ?_
  rename Fr _ _ _ _ => lF
  rename News _ _ _ _ => lN
  have hmem := lN (d, o) (List.mem_append_right _ (.head _))
  refine wpAny_setItem_list (isList_mem lN ⟨o, List.mem_append_right _ (.head _), hobj⟩) (Int.ofNat_nonneg _) (get_fit (List.getElem?_eq_getElem hlt) hle) (by rw [List.size_toArray]; omega) fun h2 hl2 hs2 => ?_
  obtain ⟨o2, ho2, hc2, n2, hd2⟩ := hl2
  have F2 : Fr _ _ h2 _ := ⟨lF.ns.sameBut hs2 (Ne.symm hmem.2.1), fun b ob e => (hs2.2 b (fun q => by rw [q, hmem.2.2] at e; cases e)).trans (lF.keep b ob e), lF.above⟩
  have N2 := lN.setAt hown hrest hs2 ho2
  clear lF lN
  k_steps
  exact hret _ _ _ (by k_asm) ⟨hc2, n2, by rw [hd2]; simp⟩ (by k_asm)
end
section
open PySem PySem.W PyProof.Rows PySem.Calls PySem.Spec
set_option maxRecDepth 100000
set_option maxHeartbeats 2000000
/-- the leads, as lists of codes -/
noncomputable def leadsF : Nat → Nat → List (List Nat)
  | 0, t => [List.replicate 0 32 ++ List.replicate t 9]
  | b + 1, 0 => [List.replicate (b + 1) 32 ++ List.replicate 0 9]
  | b + 1, t + 1 => (leadsF b (t + 1)).map (32 :: ·) ++ (leadsF (b + 1) t).map (9 :: ·)
/-- these values are these texts -/
noncomputable def TxtsAre : List Value → List (List Nat) → Prop
  | [], [] => True
  | v :: vs, l :: ls => (∃ t, v = .str (S l) t) ∧ TxtsAre vs ls
  | _, _ => False
theorem TxtsAre.append : ∀ {vs ls ws ks}, TxtsAre vs ls → TxtsAre ws ks → TxtsAre (vs ++ ws) (ls ++ ks)
  | [], [], _, _, _, h => h
  | _ :: _, _ :: _, _, _, h, k => ⟨h.1, TxtsAre.append h.2 k⟩
  | [], _ :: _, _, _, h, _ => h.elim
  | _ :: _, [], _, _, h, _ => h.elim
theorem TxtsAre.length : ∀ {vs ls}, TxtsAre vs ls → vs.length = ls.length
  | [], [], _ => rfl
  | _ :: _, _ :: _, h => congrArg (· + 1) (TxtsAre.length h.2)
  | [], _ :: _, h => h.elim
  | _ :: _, [], h => h.elim
theorem TxtsAre.at : ∀ {vs ls}, TxtsAre vs ls → ∀ (i : Nat) (v : Value), vs[i]? = some v → ∃ l t, ls[i]? = some l ∧ v = .str (S l) t
  | [], [], _, i, v, e => by simp at e
  | v :: vs, l :: ls, h, 0, w, e => by
    obtain ⟨⟨t, rfl⟩, _⟩ := h
    simp at e
    exact ⟨l, t, rfl, e.symm⟩
  | v :: vs, l :: ls, h, i + 1, w, e => by
    simpa using TxtsAre.at h.2 i w (by simpa using e)
  | [], _ :: _, h, _, _, _ => h.elim
  | _ :: _, [], h, _, _, _ => h.elim
theorem mul_st : ∀ b : Fin 11, ∀ n : Fin 11, Txt.mul (Str.ofString " ") ((b.val : Nat) : Int) ++ Txt.mul (Str.ofString "\t") ((n.val : Nat) : Int) = S (List.replicate b.val 32 ++ List.replicate n.val 9) := by decide +kernel
theorem leads_base {b n : Nat} (h : b = 0 ∨ n = 0) : leadsF b n = [List.replicate b 32 ++ List.replicate n 9] := by
  rcases h with rfl | rfl
  · cases n <;> simp [leadsF]
  · cases b <;> simp [leadsF]
theorem leads_rec {b n : Nat} (hb : 0 < b) (hn : 0 < n) : leadsF b n = (leadsF (b - 1) n).map (32 :: ·) ++ (leadsF b (n - 1)).map (9 :: ·) := by
  obtain ⟨b, rfl⟩ : ∃ k, b = k + 1 := ⟨b - 1, by first | assumption | lia⟩
  obtain ⟨n, rfl⟩ : ∃ k, n = k + 1 := ⟨n - 1, by first | assumption | lia⟩
  simp [leadsF]
theorem leads_len : ∀ b n : Nat, (leadsF b n).length ≤ 2 ^ (b + n)
  | 0, t => by simp [leadsF]; exact Nat.one_le_two_pow
  | b + 1, 0 => by simp [leadsF]; exact Nat.one_le_two_pow
  | b + 1, t + 1 => by
    have h1 := leads_len b (t + 1)
    have h2 := leads_len (b + 1) t
    simp only [leadsF, List.length_append, List.length_map]
    have e : 2 ^ (b + 1 + (t + 1)) = 2 ^ (b + (t + 1)) + 2 ^ (b + 1 + t) := by
      rw [show b + 1 + (t + 1) = (b + t + 1) + 1 by first | assumption | lia, show b + (t + 1) = b + t + 1 by first | assumption | lia, show b + 1 + t = b + t + 1 by first | assumption | lia, Nat.pow_succ]; lia
    lia
/-- the contract of _law_leads, for all blanks + tabs < N -/
noncomputable def LeadsC (w : World) (mg mb : Str → Option Value) (mean : ExcName → Option Value) (N : Nat) : Prop := ∀ (news : List (Addr × Obj)) (b n : Nat) (tb tn : Tok) (dp un : Nat) (gd : Option (List Code)) (cn : Str) (cs : Scope) (a : Addr) (ccd : Value) (cl : List (Str × Addr)) (outer : List Env) (A₀ : Around) (base h₀ : Heap) (L : Addr) (m : Str → Option Value) (s : Shared) (Q E : Value → Shared → Prop),
    Below A₀ base outer h₀ → Fr h₀ L s.heap m → (hd.heap_39 w.params).In h₀ → News h₀ L s.heap news → Top hd.view_39 (looseW hd.view_39 [Str.ofString "Whitespace"]) mean mg mb h₀ → cs.kind = .function →
    (b + n < N ∧ N ≤ 9) → dp + N + 1 < recursionLimit → un + 8 * (N + 1) < cLine →
    (∀ D o vs h' tk', Fr h₀ L h' m → LstObj o vs → TxtsAre vs (leadsF b n) → News h₀ L h' ((D, o) :: news) → (∀ p ∈ news, @LT.lt Nat _ p.1 D) → Q (.ref D) { s with heap := h', toks := tk' }) →
      wpAny (model PySem.Challenge.rw_sw0061_01.row.prog w) (ktrTop dp un gd cn cs L a ccd cl outer) (call (.ref 162) [.int b tb, .int n tn]) Q E s
theorem fin_lead {h₀ h' : Heap} {L D : Addr} {m : Str → Option Value} {s : Shared} {Q : Value → Shared → Prop} {news : List (Addr × Obj)} {x : Str} {t : Tok} {k tk : Nat} {l : List Nat} {ls : List (List Nat)}
    (hret : ∀ D o vs h' tk', Fr h₀ L h' m → LstObj o vs → TxtsAre vs ls → News h₀ L h' ((D, o) :: news) → (∀ p ∈ news, @LT.lt Nat _ p.1 D) → Q (.ref D) { s with heap := h', toks := tk' })
    (F : Fr h₀ L h' m) (N : News h₀ L h' ((D, listOf #[Value.str x t] k) :: news)) (hx : x = S l) (hl : ls = [l]) (lt : ∀ p ∈ news, @LT.lt Nat _ p.1 D) : Q (.ref D) { s with heap := h', toks := tk } := by
  subst hx hl
  exact hret D _ [.str (S l) t] h' tk F ⟨rfl, _, rfl⟩ ⟨⟨t, rfl⟩, trivial⟩ N lt
section
variable {prog : Program} {w : World} {A : Around} {h₀ : Heap} {L : Addr} {m : Str → Option Value} {env : Env} {elt : Expr} {x : Str} {scope : Scope} {cl : List (Str × Addr)} {s : Shared} {SS : List (Addr × Obj) → Prop} {P : Nat → Value → Prop} {Fin : List Value → List (Addr × Obj) → Prop} {news : List (Addr × Obj)}
noncomputable def TxtEl (news : List (Addr × Obj)) (r : List Nat) (y : Value) (news' : List (Addr × Obj)) : Prop := news' = news ∧ ∃ t : Tok, y = .str (S r) t
theorem txt_rest {vs : List Value} {ls : List (List Nat)} (g : List Nat → List Nat) (hT : TxtsAre vs ls)
    (turn : ∀ l t I oI C oC D m₂ ys h tk (E' : Value → Shared → Prop), l ∈ ls → LCg.NsObj oC m₂ → m₂ x = some (.str (S l) t) → Fr h₀ L h m → News h₀ L h ((I, oI) :: (C, oC) :: (D, LCg.lst ys) :: news) → LCg.Off3 I C D news → ((@Ne Nat I C) ∧ (@Ne Nat I D) ∧ (@Ne Nat C D)) →
      wpAny (model prog w) A (eval elt (compEnvC scope cl C env)) (LCg.CompEnd h₀ L m { s with heap := h, toks := tk } I oI C oC D (LCg.lst ys) SS (fun y news' => TxtEl news (g l) y news')) E' { s with heap := h, toks := tk })
    (fin : ∀ ys, TxtsAre ys (ls.map g) → Fin ys news) : LCg.CompRest prog w A h₀ L m env elt x scope cl s SS (fun i v => vs.toArray[i]? = some v) Fin vs.toArray.size 0 [] news := by
  have key : ∀ (j i : Nat) (ys : List Value), i + j = ls.length → TxtsAre ys ((ls.take i).map g) → LCg.CompRest prog w A h₀ L m env elt x scope cl s SS (fun i v => vs.toArray[i]? = some v) Fin j i ys news := by
    intro j
    induction j with
    | zero =>
      intro i ys hi hy
      have e : i = ls.length := by first | assumption | lia
      subst e
      rw [List.take_length] at hy
      exact LCg.CompRest.zero (fin ys hy)
    | succ j ih =>
      intro i ys hi hy
      refine LCg.CompRest.succ ?_
      intro v I oI C oC D m₂ h tk E' hv hC hx F N off ne
      obtain ⟨l, t, hk, hv'⟩ := hT.at i v (by simpa using hv)
      rw [hv'] at hx
      refine wpAny_mono (turn l t I oI C oC D m₂ ys h tk E' (List.mem_of_getElem? hk) hC hx F N off ne) (fun y s₂ hq => ?_) fun _ _ e => e
      obtain ⟨h', tk', nw, e, F', N', off', hS, hn, t', hy'⟩ := hq
      rw [hn] at N' off' hS
      refine ⟨h', tk', news, e, F', N', off', hS, ?_⟩
      rw [hy']
      refine ih (i + 1) _ (by first | assumption | lia) ?_
      rw [List.take_add_one, hk]
      simpa using TxtsAre.append (ls := (ls.take i).map g) (ks := [g l]) (ws := [.str (S (g l)) t']) hy (show TxtsAre [.str (S (g l)) t'] [g l] from ⟨⟨t', rfl⟩, trivial⟩)
  rw [show vs.toArray.size = ls.length by rw [List.size_toArray]; exact hT.length]
  exact key ls.length 0 [] (by first | assumption | lia) trivial
theorem src_obj {Fin : Shared → List Value → List (Addr × Obj) → Prop} {ax : Addr} {vs : List Value} {o : Obj} {s₁ : Shared}
    (hh : A.handled = none) (F : Fr h₀ L s₁.heap m) (N : News h₀ L s₁.heap news) (hm : (ax, o) ∈ news) (ho : LstObj o vs) (hsz : vs.length ≤ sizeLine)
    (h : ∀ g, LCg.CompRest prog w A h₀ L m env elt x scope cl { s₁ with heap := g } (LCg.SrcAt h₀ ax vs.toArray) (fun i v => vs.toArray[i]? = some v) (Fin { s₁ with heap := g }) vs.toArray.size 0 [] news) :
    LCg.CompSrc prog w A h₀ L m env elt x scope cl Fin (.ref ax) s₁ := .inl ⟨ax, _, news, rfl, hh, F, N, .inr ⟨o, hm, ho.1, ho.2⟩, by rw [List.size_toArray]; exact hsz, fun _ ⟨g, e⟩ => e ▸ h g⟩
end
theorem lead_size {vs : List Value} {b n : Nat} (h : TxtsAre vs (leadsF b n)) (hl : b + n ≤ 8) : vs.length ≤ sizeLine := by
  have h1 := leads_len b n
  have h2 : 2 ^ (b + n) ≤ 2 ^ 8 := Nat.pow_le_pow_right (by first | assumption | lia) hl
  rw [h.length, sizeLine_eq]
  lia
theorem lead_size2 {vs : List Value} {b n : Nat} {g : List Nat → List Nat} (h : TxtsAre vs ((leadsF b n).map g)) (hl : b + n ≤ 8) : vs.length ≤ 256 := by
  have h1 := leads_len b n
  have h2 : 2 ^ (b + n) ≤ 2 ^ 8 := Nat.pow_le_pow_right (by first | assumption | lia) hl
  rw [h.length, List.length_map]
  lia
theorem src_in {h₀ : Heap} {ax : Addr} {vs : List Value} {o : Obj} {news : List (Addr × Obj)} (hm : (ax, o) ∈ news) (ho : LstObj o vs) : LCg.SrcAt h₀ ax vs.toArray news := Or.inr ⟨o, hm, ho.1, ho.2⟩
theorem txt_el {news : List (Addr × Obj)} {l : List Nat} {x : Str} {t : Tok} (e : x = S l) : TxtEl news l (.str x t) news := ⟨rfl, t, by rw [e]⟩
theorem leads_mem : ∀ (b n : Nat) (l : List Nat), l ∈ leadsF b n → l.length = b + n
  | 0, t, l, h => by simp [leadsF] at h; subst h; simp
  | b + 1, 0, l, h => by simp [leadsF] at h; subst h; simp
  | b + 1, t + 1, l, h => by
    simp only [leadsF, List.mem_append, List.mem_map] at h
    rcases h with ⟨k, h, rfl⟩ | ⟨k, h, rfl⟩
    · have := leads_mem b (t + 1) k h
      simp; lia
    · have := leads_mem (b + 1) t k h
      simp; lia
section
variable {prog : Program} {w : World} {A : Around} {E : Value → Shared → Prop} {s : Shared} {l k : List Nat} {t u : Tok} {Q : Value → Shared → Prop}
theorem add_SS (hl : k.length + l.length ≤ 1000) (h : ∀ t' tk, Q (.str (S (k ++ l)) t') { s with toks := tk }) : wpAny (model prog w) A (binaryOp .Add (.str (S k) t) (.str (S l) u)) Q E s :=
  add_str (fun t' tk => by rw [S_app]; exact h t' tk) (by rw [S_len, S_len, sizeLine_eq]; lia)
theorem add_mul {x y : Str} (e : x ++ y = S l) (hl : l.length ≤ 1000) (h : ∀ t' tk, Q (.str (x ++ y) t') { s with toks := tk }) : wpAny (model prog w) A (binaryOp .Add (.str x t) (.str y u)) Q E s :=
  add_str h (by rw [← Str.length_append, e, S_len, sizeLine_eq]; lia)
theorem add_sp (hl : l.length ≤ 999) (h : ∀ t' tk, Q (.str (S (32 :: l)) t') { s with toks := tk }) : wpAny (model prog w) A (binaryOp .Add (.str (Str.ofString " ") t) (.str (S l) u)) Q E s := by
  rw [sp_eq]
  exact add_SS (by simp; lia) h
theorem add_tab (hl : l.length ≤ 999) (h : ∀ t' tk, Q (.str (S (9 :: l)) t') { s with toks := tk }) : wpAny (model prog w) A (binaryOp .Add (.str (Str.ofString "\t") t) (.str (S l) u)) Q E s := by
  rw [tab_eq]
  exact add_SS (by simp; lia) h
end
theorem pred_lt {b n N : Nat} (h : (b : Int) ≠ 0) (p : b + n < N + 1) : b - 1 + n < N := by
  cases b with
  | zero => exact absurd rfl h
  | succ m => exact Nat.lt_of_succ_lt_succ (Nat.succ_add m n ▸ p)
theorem pred_lt2 {b n N : Nat} (h : (n : Int) ≠ 0) (p : b + n < N + 1) : b + (n - 1) < N := by
  cases n with
  | zero => exact absurd rfl h
  | succ m => exact Nat.lt_of_succ_lt_succ p
theorem leads_step (w : World) (mg mb mean) (N : Nat) (IH : LeadsC w mg mb mean N) : LeadsC w mg mb mean (N + 1) := by
  intro news b n tb tn
  k_fill
  intro _ _ _ _ _ _ _ _ _ _ _ _ _ _ _ _ _ _ _ _ hN0 _ _ pre _ _ hret
  have hm : Txt.mul (Str.ofString " ") (b : Int) ++ Txt.mul (Str.ofString "\t") (n : Int) = S (List.replicate b 32 ++ List.replicate n 9) := mul_st ⟨b, by first | assumption | lia⟩ ⟨n, by first | assumption | lia⟩
  first | (have hdpE := cbe (M := recursionLimit) ‹_ + _ + 1 < recursionLimit›) | (have hdpE := cbeZ (M := recursionLimit) ‹_ + 0 + 1 < recursionLimit›)
  refine wpAny_call ?_
  k_dflt cell_enter
  k_with_none
  k_with "call ref cons nil" => (refine Hold.out ?_)
  k_with "binaryOp Add str str" => ((with_reducible (refine add_mul hm (by rw [List.length_append, List.length_replicate, List.length_replicate]; lia) ?_)); intro _ _)
  k_with "eval ListComp" => ((k_dflt (refine LCg.ListComp_U (F₀ := by k_asm) (by rfl) (by decide) (by rfl) (by decide) (by rfl) ?_)))
  k_steps
  · rename News _ _ _ _ => kN
    exact fin_lead hret (by k_asm) kN hm (leads_base (by first | assumption | lia)) (by assumption)
  · rename News _ _ _ _ => kN
    exact fin_lead hret (by k_asm) kN hm (leads_base (by first | assumption | lia)) (by assumption)
  refine Hold.mk ?_
  rw [cast_sub1 (k := b) (by assumption)]
  have h8 : b + n ≤ 8 := Nat.le_of_lt_succ (Nat.lt_of_lt_of_le ‹b + n < N + 1 ∧ N + 1 ≤ 9›.1 ‹b + n < N + 1 ∧ N + 1 ≤ 9›.2)
  have h81 : b - 1 + n ≤ 8 := Nat.le_trans (Nat.add_le_add_right (Nat.sub_le b 1) n) h8
  k_dflt (refine IH _ _ _ _ _ _ _ _ _ _ _ _ _ _ _ _ _ _ _ _ _ _ (by k_asm) (by k_asm) (by k_asm) (by k_asm) (by k_asm) (by first | exact rfl | assumption) ⟨pred_lt (by assumption) ‹b + n < N + 1 ∧ N + 1 ≤ 9›.1, Nat.le_of_succ_le ‹b + n < N + 1 ∧ N + 1 ≤ 9›.2⟩ (by exact cbr (by assumption) (Nat.le_refl _)) (by exact cbu (by assumption) (Nat.le_refl _)) ?_)
  intro D1 o1 vs1 h1 tk1 F1 obj1 tx1 N1 lt1
  try dsimp only
  try k_fold
  k_with "CompEnd str" => (refine Hold.out ?_)
  k_with "binaryOp Add str str" => ((with_reducible (first | refine add_sp (by first | exact Nat.le_trans (Nat.le_of_eq ‹_ = b - 1 + n›) (Nat.le_trans h81 (by decide)) | lia) ?_ | refine add_tab (by first | exact Nat.le_trans (Nat.le_of_eq ‹_ = b + (n - 1)›) (Nat.le_trans ‹b + (n - 1) ≤ 8› (by decide)) | lia) ?_)); intro _ _)
  k_steps
  refine src_obj (by rfl) (by k_asm) (by k_asm) (.head _) obj1 (lead_size tx1 (by first | assumption | lia)) ?_
  intro g1
  refine txt_rest (32 :: ·) tx1 (fun l t I oI C oC D m2 ys h tk E' hl hC hx F N off ne => ?_) ?_
  · have hll := leads_mem _ _ l hl
    k_steps
    refine Hold.mk ?_
    k_dflt (refine LCg.CompEnd.intro (by assumption) (by assumption) _ (fun _ h => h) off (src_in (.head _) obj1) (txt_el rfl))
  · intro ys1 hy1
    k_steps
    refine Hold.mk ?_
    rw [cast_sub1 (k := n) (by assumption)]
    have h82 : b + (n - 1) ≤ 8 := Nat.le_trans (Nat.add_le_add_left (Nat.sub_le n 1) b) (Nat.le_of_lt_succ (Nat.lt_of_lt_of_le ‹b + n < N + 1 ∧ N + 1 ≤ 9›.1 ‹b + n < N + 1 ∧ N + 1 ≤ 9›.2))
    k_dflt (refine IH _ _ _ _ _ _ _ _ _ _ _ _ _ _ _ _ _ _ _ _ _ _ (by k_asm) (by k_asm) (by k_asm) (by k_asm) (by k_asm) (by first | exact rfl | assumption) ⟨pred_lt2 (by assumption) ‹b + n < N + 1 ∧ N + 1 ≤ 9›.1, Nat.le_of_succ_le ‹b + n < N + 1 ∧ N + 1 ≤ 9›.2⟩ (by exact cbr (by assumption) (Nat.le_refl _)) (by exact cbu (by assumption) (Nat.le_refl _)) ?_)
    intro D2 o2 vs2 h2 tk2 F2 obj2 tx2 N2 lt2
    try dsimp only
    try k_fold
    k_steps
    refine src_obj (by rfl) (by k_asm) (by k_asm) (.head _) obj2 (lead_size tx2 (by first | assumption | lia)) ?_
    intro g2
    refine txt_rest (9 :: ·) tx2 (fun l t I oI C oC D m2 ys h tk E' hl hC hx F N off ne => ?_) ?_
    · have hll := leads_mem _ _ l hl
      k_steps
      refine Hold.mk ?_
      k_dflt (refine LCg.CompEnd.intro (by assumption) (by assumption) _ (fun _ h => h) off (src_in (.head _) obj2) (txt_el rfl))
    · intro ys2 hy2
      k_steps
      rename Fr _ _ _ _ => lF
      rename News _ _ _ _ => lN
      have z1 := lead_size2 hy1 (by first | assumption | lia)
      have z2 := lead_size2 hy2 (by first | assumption | lia)
      k_dflt (refine add_lists lF lN (isList_mem lN ⟨_, .tail _ (.tail _ (.head _)), rfl, _, rfl⟩) (isList_mem lN ⟨_, .head _, rfl, _, rfl⟩) (fun h9 F9 N9 => ?_) (by rw [sizeLine_eq]; lia))
      have lt9 : ∀ p ∈ news, @LT.lt Nat _ p.1 _ := fun p hp => Heap.lt_size (lN p (.tail _ (.tail _ (.tail _ (.tail _ hp))))).1
      clear lF lN
      have ty := hy1.append hy2
      rw [← leads_rec (by first | assumption | lia) (by first | assumption | lia)] at ty
      k_steps
      rename News _ _ _ _ => kN
      exact hret _ _ _ _ _ (by k_asm) ⟨rfl, _, rfl⟩ ty (fun p hp => kN p (by
        rcases List.mem_cons.mp hp with rfl | hp
        · exact .head _
        · exact .tail _ (.tail _ (.tail _ (.tail _ (.tail _ hp)))))) lt9
theorem leads_cl (w : World) (mg mb mean) : ∀ N, LeadsC w mg mb mean N
  | 0 => by
    intro news b n tb tn _ _ _ _ _ _ _ _ _ _ _ _ _ _ _ _ _ _ _ _ _ _ _ pre
    exact absurd pre.1 (Nat.not_lt_zero _)
  | N + 1 => leads_step w mg mb mean N (leads_cl w mg mb mean N)
end
section
open PySem PySem.W PyProof.Rows PySem.Calls PySem.Spec
set_option maxRecDepth 100000
set_option maxHeartbeats 2000000
/-- the rows of a table: lists of ints of the ledger -/
noncomputable def RowsAre : List (Addr × Obj) → List (List Int) → Prop
  | [], [] => True
  | p :: ps, r :: rs => (∃ vs, LstObj p.2 vs ∧ IntsAre vs r) ∧ RowsAre ps rs
  | _, _ => False
theorem RowsAre.append : ∀ {ps rs qs ss}, RowsAre ps rs → RowsAre qs ss → RowsAre (ps ++ qs) (rs ++ ss)
  | [], [], _, _, _, h => h
  | _ :: _, _ :: _, _, _, h, k => ⟨h.1, RowsAre.append h.2 k⟩
  | [], _ :: _, _, _, h, _ => h.elim
  | _ :: _, [], _, _, h, _ => h.elim
theorem RowsAre.length : ∀ {ps rs}, RowsAre ps rs → ps.length = rs.length
  | [], [], _ => rfl
  | _ :: _, _ :: _, h => congrArg (· + 1) (RowsAre.length h.2)
  | [], _ :: _, h => h.elim
  | _ :: _, [], h => h.elim
noncomputable def refsOf (ps : List (Addr × Obj)) : List Value := ps.map fun p => .ref p.1
section
variable {prog : Program} {w : World} {A : Around} {h₀ : Heap} {L : Addr} {m : Str → Option Value} {env : Env} {elt : Expr} {x : Str} {scope : Scope} {cl : List (Str × Addr)} {s : Shared} {P : Nat → Value → Prop} {Fin : List Value → List (Addr × Obj) → Prop} {news : List (Addr × Obj)}
noncomputable def RowEl (c1 c2 : Addr × Obj) (R : List (Addr × Obj)) (r0 : List Int) (y : Value) (nw : List (Addr × Obj)) : Prop := ∃ d o, nw = c1 :: c2 :: (d, o) :: R ∧ y = .ref d ∧ (∀ p ∈ c1 :: c2 :: R, @LT.lt Nat _ p.1 d) ∧ ∃ vs, LstObj o vs ∧ IntsAre vs r0
theorem row_el {c1 c2 : Addr × Obj} {R : List (Addr × Obj)} {r0 : List Int} {d : Addr} {vs : List Value} {k : Nat} (hi : IntsAre vs r0) (q4 : ∀ p ∈ c1 :: c2 :: R, @LT.lt Nat _ p.1 d) : RowEl c1 c2 R r0 (.ref d) (c1 :: c2 :: (d, listOf vs.toArray k) :: R) := ⟨d, _, rfl, rfl, q4, vs, ⟨rfl, _, rfl⟩, hi⟩
theorem row_fin {c1 c2 : Addr × Obj} {R : List (Addr × Obj)} {r0 : List Int} {D' l' I C D : Addr} {o9 oI oC : Obj} {vs ys : List Value} {k : Nat} {h' : Heap} {s₁ : Shared} {tk : Nat} (F : Fr h₀ L h' m) (N : News h₀ L h' ((D', listOf vs.toArray k) :: (l', o9) :: (I, oI) :: (C, oC) :: (D, LCg.lst ys) :: c1 :: c2 :: R))
    (off : LCg.Off3 I C D (c1 :: c2 :: R)) (hi : IntsAre vs r0) (q1 : @LT.lt Nat _ I D') (q2 : @LT.lt Nat _ C D') (q3 : @LT.lt Nat _ D D') (q4 : ∀ p ∈ c1 :: c2 :: R, @LT.lt Nat _ p.1 D') :
    LCg.CompEnd h₀ L m s₁ I oI C oC D (LCg.lst ys) (fun _ => True) (RowEl c1 c2 R r0) (.ref D') { s₁ with heap := h', toks := tk } := by
  refine LCg.CompEnd.intro F N _ ?_ ?_ trivial (row_el (k := k) hi q4)
  · intro p hp
    rcases List.mem_cons.mp hp with rfl | hp
    · exact .tail _ (.tail _ (.head _))
    rcases List.mem_cons.mp hp with rfl | hp
    · exact .tail _ (.tail _ (.tail _ (.head _)))
    rcases List.mem_cons.mp hp with rfl | hp
    · exact .tail _ (.tail _ (.tail _ (.tail _ (.head _))))
    rcases List.mem_cons.mp hp with rfl | hp
    · exact .tail _ (.tail _ (.tail _ (.tail _ (.tail _ (.head _)))))
    rcases List.mem_cons.mp hp with rfl | hp
    · exact .tail _ (.tail _ (.tail _ (.tail _ (.tail _ (.tail _ (.head _))))))
    rcases List.mem_cons.mp hp with rfl | hp
    · exact .head _
    exact .tail _ (.tail _ (.tail _ (.tail _ (.tail _ (.tail _ (.tail _ hp))))))
  · exact ⟨off.1, off.2.1, ⟨Ne.symm (Nat.ne_of_lt q1), Ne.symm (Nat.ne_of_lt q2), Ne.symm (Nat.ne_of_lt q3)⟩, off.2.2⟩
theorem rows_rest {n : Nat} {c1 c2 : Addr × Obj} (r0 : List Int)
    (turn : ∀ i v R I oI C oC D m₂ ys h tk (E' : Value → Shared → Prop), P i v → LCg.NsObj oC m₂ → m₂ x = some v → Fr h₀ L h m → News h₀ L h ((I, oI) :: (C, oC) :: (D, LCg.lst ys) :: c1 :: c2 :: R) → LCg.Off3 I C D (c1 :: c2 :: R) → ((@Ne Nat I C) ∧ (@Ne Nat I D) ∧ (@Ne Nat C D)) →
      wpAny (model prog w) A (eval elt (compEnvC scope cl C env)) (LCg.CompEnd h₀ L m { s with heap := h, toks := tk } I oI C oC D (LCg.lst ys) (fun _ => True) (RowEl c1 c2 R r0)) E' { s with heap := h, toks := tk })
    (fin : ∀ rows : List (Addr × Obj), rows.length = n → RowsAre rows (List.replicate n r0) → (rows.map Prod.fst).Nodup → (∀ p ∈ rows, ∀ z ∈ c1 :: c2 :: news, @LT.lt Nat _ z.1 p.1) → Fin (refsOf rows) (c1 :: c2 :: (rows.reverse ++ news))) : LCg.CompRest prog w A h₀ L m env elt x scope cl s (fun _ => True) P Fin n 0 [] (c1 :: c2 :: news) := by
  have key : ∀ (j i : Nat) (rows : List (Addr × Obj)), i + j = n → rows.length = i → RowsAre rows (List.replicate i r0) → (rows.map Prod.fst).Nodup → (∀ p ∈ rows, ∀ z ∈ c1 :: c2 :: news, @LT.lt Nat _ z.1 p.1) → LCg.CompRest prog w A h₀ L m env elt x scope cl s (fun _ => True) P Fin j i (refsOf rows) (c1 :: c2 :: (rows.reverse ++ news)) := by
    intro j
    induction j with
    | zero =>
      intro i rows hi hl hy hnd hgt
      obtain rfl : i = n := by first | assumption | lia
      exact LCg.CompRest.zero (fin rows hl hy hnd hgt)
    | succ j ih =>
      intro i rows hi hl hy hnd hgt
      refine LCg.CompRest.succ ?_
      intro v I oI C oC D m₂ h tk E' hv hC hx F N off ne
      refine wpAny_mono (turn i v _ I oI C oC D m₂ _ h tk E' hv hC hx F N off ne) (fun y s₂ hq => ?_) fun _ _ e => e
      obtain ⟨h', tk', nw, e, F', N', off', hS, d, o, hn, hy', hlt, vs, hob, hin⟩ := hq
      refine ⟨h', tk', nw, e, F', N', off', hS, ?_⟩
      have hk := ih (i + 1) (rows ++ [(d, o)]) (by first | assumption | lia) (by simp [hl]) (by
        have := hy.append (qs := [(d, o)]) (ss := [r0]) ⟨⟨vs, hob, hin⟩, trivial⟩
        rwa [show List.replicate (i + 1) r0 = List.replicate i r0 ++ [r0] from List.replicate_succ']) (by
        rw [List.map_append, List.nodup_append]
        refine ⟨hnd, by simp, ?_⟩
        intro x hx y hy2
        simp only [List.map_cons, List.map_nil, List.mem_singleton] at hy2
        subst hy2
        obtain ⟨p, hp, rfl⟩ := List.mem_map.mp hx
        exact Nat.ne_of_lt (hlt p (.tail _ (.tail _ (List.mem_append_left _ (List.mem_reverse.mpr hp)))))) (by
        intro p hp z hz
        rcases List.mem_append.mp hp with hp | hp
        · exact hgt p hp z hz
        · rw [List.mem_singleton.mp hp]
          refine hlt z ?_
          rcases List.mem_cons.mp hz with rfl | hz
          · exact .head _
          · rcases List.mem_cons.mp hz with rfl | hz
            · exact .tail _ (.head _)
            · exact .tail _ (.tail _ (List.mem_append_right _ hz)))
      rw [hn, hy']
      simpa [refsOf] using hk
  exact key n 0 [] (by first | assumption | lia) rfl trivial List.nodup_nil (fun _ h => nomatch h)
end
theorem flat_rep (b n : Nat) : (List.replicate ((if (n : Int) < (b : Int) then (n : Int) else (b : Int)) + 1).toNat [(0 : Int)]).flatten = List.replicate (min b n + 1) 0 := by
  have e : ((if (n : Int) < (b : Int) then (n : Int) else (b : Int)) + 1).toNat = min b n + 1 := by
    have e := rgm b n
    rw [Int.sub_zero] at e
    exact Int.ofNat.inj e
  rw [e]
  simp
theorem mul_ts : ∀ b : Fin 6, ∀ n : Fin 6, Txt.mul (Str.ofString "\t") ((n.val : Nat) : Int) ++ Txt.mul (Str.ofString " ") ((b.val : Nat) : Int) = S (List.replicate n.val 9 ++ List.replicate b.val 32) := by decide +kernel
/-- the straight line -/
noncomputable def goalF (b n : Nat) (r : List Nat) : List Nat := List.replicate n 9 ++ List.replicate b 32 ++ (120 :: r)
section
variable {prog : Program} {w : World} {A : Around} {E : Value → Shared → Prop} {s : Shared} {l k : List Nat} {x : Str} {t u : Tok} {Q : Value → Shared → Prop}
theorem add_hx (hx : x = S k) (hl : k.length + l.length ≤ 1000) (h : ∀ t' tk, Q (.str (S (k ++ l)) t') { s with toks := tk }) : wpAny (model prog w) A (binaryOp .Add (.str x t) (.str (S l) u)) Q E s := by
  subst hx; exact add_SS hl h
end
theorem goal_len (b n : Nat) (r : List Nat) : (goalF b n r).length = b + n + 1 + r.length := by simp [goalF]; lia
theorem News.sub {h₀ h : Heap} {L : Addr} {a c : List (Addr × Obj)} (N : News h₀ L h a) (hs : ∀ p ∈ c, p ∈ a) : News h₀ L h c := fun p hp => N p (hs p hp)
end
section
open PySem PySem.W PyProof.Rows PySem.Calls PySem.Spec
set_option maxRecDepth 100000
set_option maxHeartbeats 2000000
/-- the distance of two texts, of either kind -/
noncomputable def LevOK (a g : List Nat) (c d : Int) : Prop := (a = g ∧ d = 0 ∧ a.length ≤ 20) ∨ ∃ p x y r, a = p ++ (x ++ r) ∧ g = p ++ (y ++ r) ∧ LevPre p x y r c ∧ (outF x y x.length).2.1 = d
theorem lev_any (w : World) (mg mb mean) : ∀ (news) (a g : List Nat) (c d : Int) (ta tb tc : Tok), Cl w mg mb mean 157 news 1 (LevOK a g c d) [.str (S a) ta, .str (S g) tb, .int c tc] (fun t => .int d t) := by
  intro news a g c d ta tb tc dp un gd cn cs aa ccd cl outer A₀ base h₀ L m s Q E k1 k2 k3 k4 k5 k6 pre
  rcases pre with ⟨rfl, rfl, hl⟩ | ⟨p, x, y, r, rfl, rfl, hp, rfl⟩
  · exact lev_eq w mg mb mean news a c ta tb tc dp un gd cn cs aa ccd cl outer A₀ base h₀ L m s Q E k1 k2 k3 k4 k5 k6 hl
  · exact lev_cl w mg mb mean news p x y r c ta tb tc dp un gd cn cs aa ccd cl outer A₀ base h₀ L m s Q E k1 k2 k3 k4 k5 k6 hp
theorem ne_same (w : World) (mg mb mean) : ∀ (news) (a b : Int) (ta tb : Tok), Cl w mg mb mean 94 news 0 (a = b) [.int a ta, .int b tb] (fun _ => .bool false) := by
  intro news a b ta tb
  unfold Cl CbRec CbLists CbRet
  k_fill
  intro _ _ _ _ _ _ _ _ _ _ _ _ _ _ _ _ _ _ _ _ _ _ _ pre _ _
  intros
  rename_i hret
  subst pre
  first | (have hdpE := cbe (M := recursionLimit) ‹_ + _ + 1 < recursionLimit›) | (have hdpE := cbeZ (M := recursionLimit) ‹_ + 0 + 1 < recursionLimit›)
  refine wpAny_call ?_
  k_dflt cell_enter
  k_with_none
  k_steps
  exact cb_retB hret (bne_self_eq_false a) (by k_asm) (by k_asm)
/-- one turn of the table -/
noncomputable def stepT (k : Nat) (w : Int) (tab : List (List Int)) (z : Nat) (short : Nat) : List (List Int) := if short = 0 then tab.set z ((tab.getD z []).set k ((tab.getD z []).getD k 0 + w)) else tab
noncomputable def inT (k : Nat) (w : Int) (sh : Nat → Nat) (tab : List (List Int)) : Nat → List (List Int)
  | 0 => tab
  | j + 1 => stepT k w (inT k w sh tab j) (j + 1) (sh (j + 1))
noncomputable def leadT (q : Int) (kF : List Nat → Nat) (b : Nat) (tab : List (List Int)) (l : List Nat) : List (List Int) := inT (kF l) (q ^ areaF l l.length) (restsAll l) tab (b + 1)
noncomputable def outT (q : Int) (kF : List Nat → Nat) (b n : Nat) : Nat → List (List Int)
  | 0 => List.replicate (b + 2) (List.replicate (min b n + 1) 0)
  | i + 1 => leadT q kF b (outT q kF b n i) ((leadsF b n).getD i [])
/-- a table's shape -/
noncomputable def Shape (b c : Nat) (tab : List (List Int)) : Prop := tab.length = b + 2 ∧ ∀ z, z < b + 2 → (tab.getD z []).length = c
theorem shape_step {b c k : Nat} {w : Int} {tab : List (List Int)} {z sh : Nat} (h : Shape b c tab) : Shape b c (stepT k w tab z sh) := by
  unfold stepT
  split
  · refine ⟨by rw [List.length_set]; exact h.1, fun y hy => ?_⟩
    by_cases e : z = y
    · subst e
      rw [List.getD_eq_getElem?_getD, List.getElem?_set_self (by rw [h.1]; exact hy)]
      simp only [Option.getD_some, List.length_set]
      exact h.2 z hy
    · rw [List.getD_eq_getElem?_getD, List.getElem?_set_ne e, ← List.getD_eq_getElem?_getD]
      exact h.2 y hy
  · exact h
theorem shape_in {b c k : Nat} {w : Int} {sh : Nat → Nat} {tab : List (List Int)} (h : Shape b c tab) : ∀ j, Shape b c (inT k w sh tab j)
  | 0 => h
  | j + 1 => shape_step (shape_in h j)
theorem shape_out {q : Int} {kF : List Nat → Nat} {b n : Nat} : ∀ i, Shape b (min b n + 1) (outT q kF b n i)
  | 0 => ⟨by simp [outT], fun z hz => by simp [outT, List.getD_eq_getElem?_getD, hz]⟩
  | i + 1 => shape_in (shape_out i) _
structure LeadOK (b n : Nat) (r : List Nat) (q bd : Int) (kF : List Nat → Nat) (l : List Nat) : Prop where
  lev : LevOK (l ++ 120 :: r) (goalF b n r) bd (4 * (kF l : Int))
  sq : SqPre l (kF l)
  ws : WsPre (l ++ 120 :: r) (b + n)
  cl : (wsF (l ++ 120 :: r) (b + n)).cnt.length ≤ 20
  ind : ∀ z, 1 ≤ z → z ≤ b + 1 → indF (wsF (goalF b n r) (b + n)) z - indF (wsF (l ++ 120 :: r) (b + n)) z = (restsAll l z : Int)
  le : kF l ≤ min b n
  ar : areaF l l.length ≤ 100
structure TabPre (b n : Nat) (r : List Nat) (q bd : Int) (kF : List Nat → Nat) : Prop where
  b5 : b ≤ 5
  n3 : n ≤ 3
  r5 : r.length ≤ 5
  ws : WsPre (goalF b n r) (b + n)
  cl : (wsF (goalF b n r) (b + n)).cnt.length ≤ 20
  col : ∀ z, 1 ≤ z → z ≤ b + 1 → indF (wsF (goalF b n r) (b + n)) z = (b : Int) + z * n
  bits : Builtin.Int.intBits q ≤ 1000
  lead : ∀ l ∈ leadsF b n, LeadOK b n r q bd kF l
/-- a row of a table, found by its place -/
noncomputable def RSplit (rows : List (Addr × Obj)) (tab : List (List Int)) (z : Nat) (d : Addr) : Prop := ∃ pre o post vs, rows = pre ++ (d, o) :: post ∧ pre.length = z ∧ LstObj o vs ∧ IntsAre vs (tab.getD z []) ∧
    ∀ o' vs' r', LstObj o' vs' → IntsAre vs' r' → RowsAre (pre ++ (d, o') :: post) (tab.set z r')
theorem RowsAre.split : ∀ {rows : List (Addr × Obj)} {tab : List (List Int)} {z : Nat} {d : Addr}, RowsAre rows tab → (rows.map Prod.fst)[z]? = some d → RSplit rows tab z d
  | [], _, _, _, _, h => by simp at h
  | (a, o) :: rows, [], _, _, h, _ => h.elim
  | (a, o) :: rows, r :: tab, 0, d, h, e => by
    simp at e
    subst e
    obtain ⟨⟨vs, ho, hi⟩, ht⟩ := h
    exact ⟨[], o, rows, vs, rfl, rfl, ho, by simpa using hi, fun o' vs' r' h1 h2 => ⟨⟨vs', h1, h2⟩, ht⟩⟩
  | (a, o) :: rows, r :: tab, z + 1, d, h, e => by
    obtain ⟨h1, ht⟩ := h
    obtain ⟨pre, o2, post, vs, e1, e2, e3, e4, e5⟩ := RowsAre.split (z := z) (d := d) ht (by simpa using e)
    refine ⟨(a, o) :: pre, o2, post, vs, by rw [e1]; rfl, by simp [e2], e3, by simpa using e4, fun o' vs' r' k1 k2 => ?_⟩
    exact ⟨h1, e5 o' vs' r' k1 k2⟩
section
variable {prog : Program} {w : World} {A : Around} {E : Value → Shared → Prop} {Q : Flow → Shared → Prop} {s : Shared} {env : Env} {h₀ : Heap}
/-- over a list of the ledger, a state turned -/
theorem iterO_st {σ : Type} {l : Addr} {vs : List Value} {ol : Obj} {px : Pos} {body : List Stmt} {m₀ : Str → Option Value} (T : Nat) (x : Str) (stored : List Str) (ps : σ → List (Str × Value)) (Led : σ → List (Addr × Obj)) (Inv : Addr → Nat → σ → Prop) (c₀ : σ)
    (hh : A.handled = none) (hob : LstObj ol vs) (hl : (l, ol) ∈ Led c₀) (hla : ∀ I i c, Inv I i c → (l, ol) ∈ Led c) (hT : T ≤ s.toks) (F : Fr h₀ env.locals s.heap m₀) (N : News h₀ env.locals s.heap (Led c₀))
    (hnI : ∀ i c, Inv s.heap.objs.size i c → ∀ p ∈ Led c, p.1 ≠ s.heap.objs.size) (hinv : Inv s.heap.objs.size 0 c₀) (hy : ∀ p ∈ ps c₀, m₀ p.1 = some p.2) (hx : env.kindOf x = some .local) (hp : (env.scope.kind == .class || (env.scope.kind == .module && env.locals != env.globals)) = false)
    (turn : ∀ i v c (u : Str → Option Value) h tk I oI, i < vs.length → vs[i]? = some v → T ≤ tk → Inv I i c → Fr h₀ env.locals h (fun z => if z = x then some v else bindP (ps c) (fun z => if stored.contains z then u z else m₀ z) z) → News h₀ env.locals h ((I, oI) :: Led c) →
      wpAny (model prog w) A (execs body env) (StEnd h₀ env.locals I oI x stored ps Led (Inv I (i + 1)) m₀ { s with heap := h, toks := tk } Q) E { s with heap := h, toks := tk })
    (done : ∀ I c (u : Str → Option Value) h tk, T ≤ tk → Inv I vs.length c → Fr h₀ env.locals h (fun z => if z = x then u z else bindP (ps c) (fun z => if stored.contains z then u z else m₀ z) z) → News h₀ env.locals h (Led c) → Q .next { s with heap := h, toks := tk })
    (hE : PassesOwn (model prog w) A env E) :
    wpAny (model prog w) A (pyIter (.ref l)) (fun it s₂ => Loops prog w A env x px body Q E it s₂) E s := by
  have hol : s.heap.get? l = some ol := (N _ hl).1
  have hls : s.heap.IsList l vs.toArray := ⟨_, hol, hob.1, hob.2⟩
  have hne : l ≠ s.heap.objs.size := Nat.ne_of_lt (Heap.lt_size hol)
  obtain ⟨f1, f2, f3⟩ := fresh_I F N
  refine wpAny_pyIter_list hls ?_
  have W := Walks.list (prog := prog) (w := w) hh s.heap.objs.size l hne vs.toArray
  have hlen : vs.toArray.size = vs.length := by simp
  rw [hlen] at W
  refine for_st (s := { s with heap := s.heap.push _ }) (T := T) x stored ps Led (Inv s.heap.objs.size) c₀ (Wk.of W) ?_ (List.mem_cons_self ..) ?_ (fun _ _ st => let ⟨⟨o, ho, _⟩, _⟩ := st; ⟨o, ho⟩) f1 f2 hnI ⟨⟨_, Heap.get?_push_size _ rfl, rfl, rfl⟩, hls.at fun o e => Heap.get?_push_of_some _ e⟩ hT (F.push _) (News.pushed N) hinv hy hx hp ?_ (fun c u h tk => done _ c u h tk) hE
  · intro hm
    rcases List.mem_cons.mp hm with e | hm
    · exact f2 e
    · exact (N _ hl).2.1 (List.mem_singleton.mp hm).symm
  · intro i c hc b hb hbI
    rcases List.mem_cons.mp hb with e | hb
    · exact absurd e hbI
    · rw [List.mem_singleton.mp hb]
      exact .inr ⟨_, hl, fun i c hc => hla _ i c hc⟩
  · intro i v c u h tk oI hi hP ht hI F₁ N₁
    exact turn i v c u h tk _ oI hi (by simpa using hP) ht hI F₁ N₁
end
theorem led_ne {h₀ h : Heap} {L : Addr} {K rows0 rows news : List (Addr × Obj)} (N : News h₀ L h (K ++ (rows0 ++ news))) (e : rows.map Prod.fst = rows0.map Prod.fst) : ∀ p ∈ K ++ (rows ++ news), p.1 ≠ h.objs.size := by
  intro p hp
  refine Nat.ne_of_lt ?_
  simp only [List.mem_append] at hp
  rcases hp with hp | hp | hp
  · exact Heap.lt_size (N p (List.mem_append_left _ hp)).1
  · have h1 : p.1 ∈ rows.map Prod.fst := List.mem_map_of_mem hp
    rw [e] at h1
    obtain ⟨p0, h0, e0⟩ := List.mem_map.mp h1
    rw [← e0]
    exact Heap.lt_size (N p0 (List.mem_append_right _ (List.mem_append_left _ h0))).1
  · exact Heap.lt_size (N p (List.mem_append_right _ (List.mem_append_right _ hp))).1
theorem off1_mem {D : Addr} : ∀ {l : List (Addr × Obj)}, LCg.Off1 D l → ∀ p ∈ l, p.1 ≠ D
  | [], _, _, h => nomatch h
  | _ :: _, x, p, h => by
    rcases List.mem_cons.mp h with rfl | h
    · exact x.1
    · exact off1_mem x.2 p h
theorem RowsAre.cls : ∀ {rows : List (Addr × Obj)} {tab : List (List Int)}, RowsAre rows tab → ∀ p ∈ rows, p.2.cls = .type "list"
  | [], [], _, _, h => nomatch h
  | p :: ps, r :: rs, h, z, hz => by
    rcases List.mem_cons.mp hz with rfl | hz
    · obtain ⟨vs, ho, _⟩ := h.1; exact ho.1
    · exact RowsAre.cls h.2 z hz
  | [], _ :: _, h, _, _ => h.elim
  | _ :: _, [], h, _, _ => h.elim
/-- a Whitespace's objects of the ledger made opaque -/
theorem hideW {w : World} {l : List Nat} {st : Wst} {x d q ct : Addr} {us : List Value} {k1 k2 k3 k4 k5 tl tn tnt tb : Tok} {h₀ h : Heap} {L : Addr} {rest : List (Addr × Obj)}
    (N : News h₀ L h (WsLed w l st x d q ct us k1 k2 k3 k4 k5 tl tn tnt tb ++ rest)) :
    ∃ W, (∀ p ∈ WsLed w l st x d q ct us k1 k2 k3 k4 k5 tl tn tnt tb, p ∈ W) ∧ (∀ p ∈ W, p.2.cls ≠ .type "list") ∧ News h₀ L h (W ++ rest) := by
  refine ⟨_, fun _ h => h, ?_, N⟩
  refine List.forall_mem_cons.mpr ⟨?_, List.forall_mem_cons.mpr ⟨?_, List.forall_mem_cons.mpr ⟨?_, List.forall_mem_cons.mpr ⟨?_, List.forall_mem_nil _⟩⟩⟩⟩
  · exact (show Value.type "tuple" ≠ Value.type "list" by decide)
  · exact (show Value.type "tuple" ≠ Value.type "list" by decide)
  · exact fun e => nomatch e
  · exact (show Value.type "dict" ≠ Value.type "list" by decide)
theorem cells2 {h₀ h : Heap} {L : Addr} {W R : List (Addr × Obj)} {T c1 c2 : Addr × Obj} (_ : News h₀ L h (W ++ (T :: c1 :: c2 :: R))) : c1 ∈ W ++ (T :: c1 :: c2 :: R) ∧ c2 ∈ W ++ (T :: c1 :: c2 :: R) :=
  ⟨List.mem_append_right _ (.tail _ (.head _)), List.mem_append_right _ (.tail _ (.tail _ (.head _)))⟩
theorem cls_ne {h₀ h : Heap} {L : Addr} {led rows0 rows : List (Addr × Obj)} {tab : List (List Int)} {e : Addr × Obj} (N : News h₀ L h led) (hr : RowsAre rows tab) (hds : rows.map Prod.fst = rows0.map Prod.fst)
    (hsub : ∀ p ∈ rows, p ∈ led) (he : e ∈ led) (hc : e.2.cls ≠ .type "list") : ∀ z ∈ rows0, @Ne Nat e.1 z.1 := by
  intro z hz q
  have hz' : z.1 ∈ rows.map Prod.fst := by rw [hds]; exact List.mem_map_of_mem hz
  obtain ⟨y, hy, ey⟩ := List.mem_map.mp hz'
  have a1 := (N e he).1
  rw [show e.1 = y.1 from Eq.trans q ey.symm, (N y (hsub y hy)).1] at a1
  rw [← Option.some.inj a1] at hc
  exact hc (hr.cls y hy)
theorem led8 {h₀ h : Heap} {L D2 DT : Addr} {o2 oT : Obj} {c1 c2 : Addr × Obj} {W rows0 news : List (Addr × Obj)} {tab : List (List Int)}
    (N : News h₀ L h ((D2, o2) :: (W ++ ((DT, oT) :: c1 :: c2 :: (rows0.reverse ++ news))))) (hr : RowsAre rows0 tab) (hW : ∀ p ∈ W, p.2.cls ≠ .type "list")
    (lt2 : ∀ p ∈ W ++ ((DT, oT) :: c1 :: c2 :: (rows0.reverse ++ news)), @LT.lt Nat _ p.1 D2) (hoff : LCg.Off1 DT (rows0.reverse ++ news)) (hgt : ∀ p ∈ rows0, ∀ z ∈ c1 :: c2 :: news, @LT.lt Nat _ z.1 p.1) :
    ∃ K, (D2, o2) ∈ K ∧ (∀ p ∈ W, p ∈ K) ∧ (DT, oT) ∈ K ∧ c1 ∈ K ∧ c2 ∈ K ∧ News h₀ L h (K ++ (rows0 ++ news)) ∧ ∀ p ∈ K, ∀ z ∈ rows0, @Ne Nat p.1 z.1 := by
  have m1 : ∀ p ∈ rows0, p ∈ (D2, o2) :: (W ++ ((DT, oT) :: c1 :: c2 :: (rows0.reverse ++ news))) := fun p hp => .tail _ (List.mem_append_right _ (.tail _ (.tail _ (.tail _ (List.mem_append_left _ (List.mem_reverse.mpr hp))))))
  refine ⟨(D2, o2) :: (DT, oT) :: c1 :: c2 :: W, .head _, fun p hp => .tail _ (.tail _ (.tail _ (.tail _ hp))), .tail _ (.head _), .tail _ (.tail _ (.head _)), .tail _ (.tail _ (.tail _ (.head _))), News.sub N fun p hp => ?_, fun p hp z hz => ?_⟩
  · rcases List.mem_append.mp hp with hp | hp
    · rcases List.mem_cons.mp hp with rfl | hp
      · exact .head _
      rcases List.mem_cons.mp hp with rfl | hp
      · exact .tail _ (List.mem_append_right _ (.head _))
      rcases List.mem_cons.mp hp with rfl | hp
      · exact .tail _ (List.mem_append_right _ (.tail _ (.head _)))
      rcases List.mem_cons.mp hp with rfl | hp
      · exact .tail _ (List.mem_append_right _ (.tail _ (.tail _ (.head _))))
      exact .tail _ (List.mem_append_left _ hp)
    · rcases List.mem_append.mp hp with hp | hp
      · exact m1 p hp
      · exact .tail _ (List.mem_append_right _ (.tail _ (.tail _ (.tail _ (List.mem_append_right _ hp)))))
  · rcases List.mem_cons.mp hp with rfl | hp
    · exact (Nat.ne_of_lt (lt2 z (List.mem_append_right _ (.tail _ (.tail _ (.tail _ (List.mem_append_left _ (List.mem_reverse.mpr hz)))))))).symm
    rcases List.mem_cons.mp hp with rfl | hp
    · exact fun e => off1_mem hoff z (List.mem_append_left _ (List.mem_reverse.mpr hz)) e.symm
    rcases List.mem_cons.mp hp with rfl | hp
    · exact Nat.ne_of_lt (hgt z hz _ (.head _))
    rcases List.mem_cons.mp hp with rfl | hp
    · exact Nat.ne_of_lt (hgt z hz _ (.tail _ (.head _)))
    exact cls_ne N hr rfl m1 (.tail _ (List.mem_append_left _ hp)) (hW p hp) z hz
theorem led13 {h₀ h : Heap} {L I : Addr} {oI : Obj} {K W rows0 rows news : List (Addr × Obj)} {tab : List (List Int)}
    (N : News h₀ L h (W ++ ((I, oI) :: (K ++ (rows ++ news))))) (hr : RowsAre rows tab) (hds : rows.map Prod.fst = rows0.map Prod.fst) (hW : ∀ p ∈ W, p.2.cls ≠ .type "list")
    (hnI : ∀ p ∈ rows0, @Ne Nat p.1 I) (hap : ∀ p ∈ K, ∀ z ∈ rows0, @Ne Nat p.1 z.1) :
    ∃ K2, (∀ p ∈ W, p ∈ K2) ∧ (I, oI) ∈ K2 ∧ (∀ p ∈ K, p ∈ K2) ∧ News h₀ L h (K2 ++ (rows ++ news)) ∧ ∀ p ∈ K2, ∀ z ∈ rows0, @Ne Nat p.1 z.1 := by
  refine ⟨W ++ ((I, oI) :: K), fun p hp => List.mem_append_left _ hp, List.mem_append_right _ (.head _), fun p hp => List.mem_append_right _ (.tail _ hp), News.sub N fun p hp => ?_, fun p hp z hz => ?_⟩
  · rw [List.append_assoc] at hp
    exact hp
  · rcases List.mem_append.mp hp with hp | hp
    · exact cls_ne N hr hds (fun p hp => List.mem_append_right _ (.tail _ (List.mem_append_right _ (List.mem_append_left _ hp)))) (List.mem_append_left _ hp) (hW p hp) z hz
    rcases List.mem_cons.mp hp with rfl | hp
    · exact (hnI z hz).symm
    exact hap p hp z hz
theorem sub_last9 {K K2 R : List (Addr × Obj)} {i : Addr × Obj} (hi : i ∈ K2) (hK : ∀ p ∈ K, p ∈ K2) : ∀ p ∈ i :: (K ++ R), p ∈ K2 ++ R := by
  intro p hp
  rcases List.mem_cons.mp hp with rfl | hp
  · exact List.mem_append_left _ hi
  rcases List.mem_append.mp hp with hp | hp
  · exact List.mem_append_left _ (hK p hp)
  · exact List.mem_append_right _ hp
theorem sub_tab {K R : List (Addr × Obj)} {t : Addr × Obj} (ht : t ∈ K) : ∀ p ∈ t :: R, p ∈ K ++ R := by
  intro p hp
  rcases List.mem_cons.mp hp with rfl | hp
  · exact List.mem_append_left _ ht
  · exact List.mem_append_right _ hp
theorem sub_any (w : World) (mg mb mean) : ∀ (news) (a b v : Int) (ta tb : Tok), Cl w mg mb mean 115 news 0 (a - b = v) [.int a ta, .int b tb] (fun t => .int v t) := by
  intro nx x y v ta tb dp un gd cn cs a ccd cl outer A₀ base h₀ L m s Q E r1 r2 r3 N r5 r6 pre r7 r8 hret
  subst pre
  exact sub_cl w mg mb mean nx x y ta tb dp un gd cn cs a ccd cl outer A₀ base h₀ L m s Q E r1 r2 r3 N r5 r6 trivial r7 r8 hret
noncomputable abbrev SetPre2 (nx : List (Addr × Obj)) (d : Addr) (o : Obj) (vs : List Value) (i : Nat) : Prop := ((d, o) ∈ nx) ∧ (LstObj o vs) ∧ (i < vs.length) ∧ (vs.length ≤ 1000)
theorem setitem_any (w : World) (mg mb mean) : ∀ (nx : List (Addr × Obj)) (d : Addr) (o : Obj) (vs : List Value) (i : Nat) (v : Value) (t : Tok) (dp un : Nat) (gd : Option (List Code)) (cn : Str) (cs : Scope) (a : Addr) (ccd : Value) (cl : List (Str × Addr)) (outer : List Env) (A₀ : Around) (base h₀ : Heap) (L : Addr) (m : Str → Option Value) (s : Shared) (Q E : Value → Shared → Prop),
    Below A₀ base outer h₀ → Fr h₀ L s.heap m → (hd.heap_39 w.params).In h₀ → News h₀ L s.heap nx → Top hd.view_39 (looseW hd.view_39 [Str.ofString "Whitespace"]) mean mg mb h₀ → cs.kind = .function →
    SetPre2 nx d o vs i → dp + 0 + 1 < recursionLimit → un + 8 * (0 + 1) < cLine →
    (∀ o' h' tk', Fr h₀ L h' m → LstObj o' (vs.set i v) → (∀ nx2 : List (Addr × Obj), (∀ p ∈ nx2, (p ∈ nx ∧ @Ne Nat p.1 d) ∨ p = (d, o')) → News h₀ L h' nx2) → Q .none { s with heap := h', toks := tk' }) →
      wpAny (model PySem.Challenge.rw_sw0061_01.row.prog w) (ktrTop dp un gd cn cs L a ccd cl outer) (call (.ref 136) [.ref d, .int i t, v]) Q E s := by
  intro nx d o vs i v t dp un gd cn cs a ccd cl outer A₀ base h₀ L m s Q E r1 r2 r3 N r5 r6 pre r7 r8 hret
  obtain ⟨hm, ho, hlt, hle⟩ := pre
  refine setitem_cl w mg mb mean (nx.filter fun p => @Nat.beq p.1 d == false) [] d o vs i v t dp un gd cn cs a ccd cl outer A₀ base h₀ L m s Q E r1 r2 r3 ?_ r5 r6 ⟨ho, ?_, (fun _ h => absurd h List.not_mem_nil), hlt, hle⟩ r7 r8 ?_
  · intro p hp
    rcases List.mem_append.mp hp with hp | hp
    · exact N p (List.mem_filter.mp hp).1
    · rw [List.mem_singleton.mp hp]; exact N _ hm
  · intro p hp e
    have h2 := (List.mem_filter.mp hp).2
    have e' : p.1 = d := e
    rw [e'] at h2
    have h3 : @Nat.beq d d = true := Nat.beq_refl d
    rw [h3] at h2
    cases h2
  · intro o' h' tk' F' hob' N'
    refine hret o' h' tk' F' hob' fun nx2 h2 p hp => N' p ?_
    rcases h2 p hp with ⟨h3, h4⟩ | rfl
    · refine List.mem_append_left _ (List.mem_filter.mpr ⟨h3, ?_⟩)
      cases e : @Nat.beq p.1 d with
      | false => rfl
      | true => exact absurd (Nat.eq_of_beq_eq_true e) h4
    · exact List.mem_append_right _ (.head _)
theorem stored_ne {st : List Str} {z : Str} (h : st.contains z = false) : ∀ a ∈ st, z ≠ a := by
  rintro a ha rfl
  rw [List.contains_iff_mem.mpr ha] at h
  cases h
theorem ints_at : ∀ {vs : List Value} {r : List Int}, IntsAre vs r → ∀ k, k < r.length → ∃ t, vs[k]? = some (.int (r.getD k 0) t) := by
  intro vs r h k hk
  have hv : k < vs.length := by rw [h.length]; exact hk
  obtain ⟨y, t, e1, e2⟩ := IntsAre.at h k vs[k] (List.getElem?_eq_getElem hv)
  refine ⟨t, ?_⟩
  rw [List.getElem?_eq_getElem hv, e1, List.getD_eq_getElem?_getD, e2]
  rfl
theorem ints_set : ∀ {vs : List Value} {r : List Int}, IntsAre vs r → ∀ (k : Nat) (x : Int) (t : Tok), IntsAre (vs.set k (.int x t)) (r.set k x)
  | _, _, .nil, _, _, _ => .nil
  | _, _, .cons y u h, 0, x, t => .cons x t h
  | _, _, .cons y u h, k + 1, x, t => .cons y u (ints_set h k x t)
theorem refs_at {rows : List (Addr × Obj)} {k : Nat} {d : Addr} (h : (rows.map Prod.fst)[k]? = some d) : (refsOf rows)[k]? = some (.ref d) := by
  unfold refsOf
  rw [List.getElem?_map] at h ⊢
  cases e : rows[k]? with
  | none => rw [e] at h; cases h
  | some p => rw [e] at h; simp at h ⊢; exact h
theorem refs_eq {rows rows0 : List (Addr × Obj)} (h : rows.map Prod.fst = rows0.map Prod.fst) : refsOf rows = refsOf rows0 := by
  have e : ∀ r : List (Addr × Obj), refsOf r = (r.map Prod.fst).map Value.ref := fun r => by simp [refsOf]
  rw [e, e, h]
theorem rows_nodup {pre post : List (Addr × Obj)} {d : Addr} {o : Obj} (h : ((pre ++ (d, o) :: post).map Prod.fst).Nodup) : (∀ p ∈ pre, @Ne Nat p.1 d) ∧ ∀ p ∈ post, @Ne Nat p.1 d := by
  rw [List.map_append, List.map_cons, List.nodup_append] at h
  obtain ⟨_, h2, h3⟩ := h
  rw [List.nodup_cons] at h2
  exact ⟨fun p hp => h3 _ (List.mem_map_of_mem hp) _ (.head _), fun p hp e => h2.1 (by have := List.mem_map_of_mem (f := Prod.fst) hp; rwa [show p.1 = d from e] at this)⟩
/-- the ledger after a row was set -/
theorem led_set {K2 pre post news : List (Addr × Obj)} {rows0 : List (Addr × Obj)} {J d : Addr} {oJ o o9 : Obj} (hds : (pre ++ (d, o) :: post).map Prod.fst = rows0.map Prod.fst) (hnd : (rows0.map Prod.fst).Nodup)
    (hJ : ∀ p ∈ rows0, @Ne Nat p.1 J) (hap : ∀ p ∈ K2, ∀ z ∈ rows0, @Ne Nat p.1 z.1) (hap2 : ∀ p ∈ news, ∀ z ∈ rows0, @Ne Nat p.1 z.1) :
    ∀ p ∈ (J, oJ) :: (K2 ++ ((pre ++ (d, o9) :: post) ++ news)), (p ∈ (J, oJ) :: (K2 ++ ((pre ++ (d, o) :: post) ++ news)) ∧ @Ne Nat p.1 d) ∨ p = (d, o9) := by
  have hd : d ∈ rows0.map Prod.fst := by rw [← hds]; simp
  obtain ⟨z, hz, ez⟩ := List.mem_map.mp hd
  obtain ⟨n1, n2⟩ := rows_nodup (hds ▸ hnd)
  intro p hp
  simp only [List.mem_cons, List.mem_append] at hp ⊢
  rcases hp with h | h | (h | h | h) | h
  · refine .inl ⟨.inl h, ?_⟩
    rw [h]
    exact fun e => hJ z hz (ez.trans e.symm)
  · exact .inl ⟨.inr (.inl h), fun e => hap p h z hz (Eq.trans e ez.symm)⟩
  · exact .inl ⟨.inr (.inr (.inl (.inl h))), n1 p h⟩
  · exact .inr h
  · exact .inl ⟨.inr (.inr (.inl (.inr (.inr h)))), n2 p h⟩
  · exact .inl ⟨.inr (.inr (.inr h)), fun e => hap2 p h z hz (Eq.trans e ez.symm)⟩
theorem sub_stored {z : Str} (h : [Str.ofString "price", Str.ofString "k", Str.ofString "worth", Str.ofString "here", Str.ofString "size", Str.ofString "column", Str.ofString "short", Str.ofString "row"].contains z = false) : [Str.ofString "column", Str.ofString "short", Str.ofString "row"].contains z = false := by
  simp only [List.contains_cons, Bool.or_eq_false_iff] at h ⊢
  exact h.2.2.2.2.2
end
section
open PySem PySem.W PyProof.Rows PySem.Calls PySem.Spec
set_option maxRecDepth 100000
set_option maxHeartbeats 2000000
local macro_rules | `(tactic| k_mem) => `(tactic| assumption)
/-- what the table's rows are, in a loop -/
structure TInv (rows0 : List (Addr × Obj)) (tab : List (List Int)) (rows : List (Addr × Obj)) : Prop where
  ds : rows.map Prod.fst = rows0.map Prod.fst
  are : RowsAre rows tab
theorem table_cl (w : World) (mg mb mean) : ∀ (news : List (Addr × Obj)) (b n : Nat) (r : List Nat) (q bd : Int) (kF : List Nat → Nat) (tb tn tt tq td : Tok) (dp un : Nat) (gd : Option (List Code)) (cn : Str) (cs : Scope) (a : Addr) (ccd : Value) (cl : List (Str × Addr)) (outer : List Env) (A₀ : Around) (base h₀ : Heap) (L : Addr) (m : Str → Option Value) (s : Shared) (Q E : Value → Shared → Prop),
    Below A₀ base outer h₀ → Fr h₀ L s.heap m → (hd.heap_39 w.params).In h₀ → News h₀ L s.heap news → Top hd.view_39 (looseW hd.view_39 [Str.ofString "Whitespace"]) mean mg mb h₀ → cs.kind = .function →
    TabPre b n r q bd kF → dp + 10 + 1 < recursionLimit → un + 8 * (10 + 1) < cLine →
    (∀ D rows h' tk', Fr h₀ L h' m → RowsAre rows (outT q kF b n (leadsF b n).length) → (∀ z ∈ news, @Ne Nat z.1 D ∧ ∀ p ∈ rows, @Ne Nat z.1 p.1) → News h₀ L h' ((D, LCg.lst (refsOf rows)) :: (rows ++ news)) → Q (.ref D) { s with heap := h', toks := tk' }) →
      wpAny (model PySem.Challenge.rw_sw0061_01.row.prog w) (ktrTop dp un gd cn cs L a ccd cl outer) (call (.ref 186) [.int b tb, .int n tn, .str (S (120 :: r)) tt, .int q tq, .int bd td]) Q E s := by
  intro news b n r q bd kF tb tn tt tq td
  k_fill
  intro _ _ _ _ _ _ _ _ _ _ _ _ _ _ _ _ _ _ _ _ hN0 _ _ pre _ _ hret
  obtain ⟨hb5, hn3, hr5, hgws, hgcl, hgcol, hbits, hlead⟩ := pre
  have hbn9 : b + n < 9 ∧ 9 ≤ 9 := ⟨Nat.lt_of_le_of_lt (Nat.add_le_add hb5 hn3) (by decide), Nat.le_refl _⟩
  have hmin : min b n + 1 ≤ 1000 := Nat.le_trans (Nat.succ_le_succ (Nat.le_trans (Nat.min_le_left b n) hb5)) (by decide)
  refine wpAny_call ?_
  k_dflt (refine' code_defC ?k1 ?k2 ?k3 ?k4 ?k5 ?kA ?kF ?kK ?k6 ?k7 ?k8 ?k9 ?kB ?kD ?_ ?c2 ?c3 ?c4; (case kA => exact rfl); (case kF => exact rfl); (case kK => assumption); (case k1 => k_asm); (case k2 => k_asm); (case k3 => k_asm); (case k4 => k_asm); (case k5 => k_asm); (case k6 => k_is); (case k7 => k_is); (case k8 => exact cbe (by assumption)); (case k9 => exact BindsTo.of_eq rfl); (case kB => exact rfl); (case kD => decide +kernel); (case c2 => exact rfl); (case c3 => exact rfl); (case c4 => exact rfl); k_whole; intro g' L' h' tk' cells' FG' F' N' Y' B' X' T' l1; (try k_lt l1); k_cells Y'; (try simp only [List.cons_append, List.nil_append] at N'); (try dsimp only); (try k_lift B'); (try k_fold))
  refine hideE (by passes_own) ?_
  intro EE hEE
  k_with_none
  rename Fr _ _ _ _ => lF0
  obtain ⟨m1, ⟨p1, p2, p3⟩, lF1⟩ := hideM3 (Str.ofString "tail") (Str.ofString "q") (Str.ofString "bound") lF0 rfl rfl rfl
  clear lF0
  k_with "eval Name" => (k_dflt ((refine nameX_L (by k_asm) (by assumption) ?_ (by rfl) (by rfl)); k_whole))
  k_with "CompSrc" => (refine Hold.out ?_)
  k_with "CompEnd ref" => (refine Hold.out ?_)
  k_steps
  refine Hold.mk ?_
  k_dflt (refine LCg.CompSrc.range (n := b + 2) (by rfl) (by k_asm) (by k_asm) (by assumption) (small_one (by first | assumption | lia) (by first | assumption | lia) (by first | assumption | lia) (by first | assumption | lia)) (by rw [rangeSize_nat]; exact rg0 b) (by rw [PySem.sizeLine_eq]; lia) ?_)
  intro g1
  refine rows_rest (List.replicate (min b n + 1) 0) ?_ ?_
  · intro i v R I oI C oC D m2 ys h tk E' hv hC hx F N off ne
    k_steps
    refine Hold.mk ?_
    rename IntsAre _ _ => hints
    rw [flat_rep] at hints
    rename News _ _ _ _ => lN
    rename Fr _ _ _ _ => lF
    rename @LT.lt Nat _ _ _ ∧ _ => ltD
    exact row_fin lF lN off hints ltD.2.1 ltD.2.2.1 ltD.2.2.2.1 (ktn_ltOf (by simp only [AllLt]; exact ⟨ltD.2.2.2.2.1, ltD.2.2.2.2.2⟩))
  · intro rows0 hrl hrows hnd hgt
    have hm : Txt.mul (Str.ofString "\t") (n : Int) ++ Txt.mul (Str.ofString " ") (b : Int) = S (List.replicate n 9 ++ List.replicate b 32) := mul_ts ⟨b, by first | assumption | lia⟩ ⟨n, by first | assumption | lia⟩
    k_with "binaryOp Add str str" => ((with_reducible (first | refine add_mul hm (by rw [List.length_append, List.length_replicate, List.length_replicate]; lia) ?_ | refine add_hx hm (by simp only [List.length_cons, List.length_append, List.length_replicate]; lia) ?_ | refine add_SS (by first | lia | (simp only [List.length_cons, List.length_append, List.length_replicate]; lia)) ?_)); intro _ _)
    k_with "call ref cons nil" => (refine Hold.out ?_)
    k_with "exec For Name Call cons nil" => (k_dflt (refine wpAny_For ?_ (by intro _; rfl)))
    k_with "pyIter ref" => (refine Hold.out ?_)
    k_with "binaryOp Mult int int" => (k_dflt (refine mul_sm (by first | assumption | lia) (by first | assumption | lia) ?_))
    k_steps
    refine Hold.mk ?_
    k_dflt (refine ws_cl w mg mb mean _ (goalF b n r) (b + n) _ _ _ _ _ _ _ _ _ _ _ _ _ _ _ _ _ _ (by k_asm) (by k_asm) (by k_asm) (by k_asm) (by k_asm) (by first | exact rfl | assumption) hgws (by first | exact cbr0 (by assumption) (by decide) | exact cbr1 (by assumption) (by decide) | exact cbr2 (by assumption) (by decide) | exact cbr9 (by assumption) (by decide) | cb_room) (by first | exact cbu0 (by assumption) (by decide) | exact cbu1 (by assumption) (by decide) | exact cbu2 (by assumption) (by decide) | exact cbu9 (by assumption) (by decide) | cb_units) ?_)
    intro x1 d1 q1 ct1 us1 k11 k12 k13 k14 k15 tl1 tn1 tnt1 tb1 h1 tk1 F1 N1 hus1 lt1
    obtain ⟨W1, hW1, hWc1, N1'⟩ := hideW N1
    clear N1
    obtain ⟨hc1, hc2⟩ := cells2 N1'
    try dsimp only
    try k_fold
    k_steps
    refine Hold.mk ?_
    k_dflt (refine leads_cl w mg mb mean 9 _ _ _ _ _ _ _ _ _ _ _ _ _ _ _ _ _ _ _ _ _ _ (by k_asm) (by k_asm) (by k_asm) (by k_asm) (by k_asm) (by first | exact rfl | assumption) (by first | assumption | lia) (by first | exact cbr0 (by assumption) (by decide) | exact cbr1 (by assumption) (by decide) | exact cbr2 (by assumption) (by decide) | exact cbr9 (by assumption) (by decide) | cb_room) (by first | exact cbu0 (by assumption) (by decide) | exact cbu1 (by assumption) (by decide) | exact cbu2 (by assumption) (by decide) | exact cbu9 (by assumption) (by decide) | cb_units) ?_)
    intro D2 o2 vs2 h2 tk2 F2 obj2 tx2 N2 lt2
    try dsimp only
    try k_fold
    k_steps
    refine Hold.mk ?_
    rename Fr _ _ _ _ => lF9
    obtain ⟨m2, ⟨p4, p5, p6, p7, p8, p9⟩, lF⟩ := hideM6 (Str.ofString "tail") (Str.ofString "q") (Str.ofString "bound") (Str.ofString "table") (Str.ofString "goal") (Str.ofString "straight") lF9 (by first | exact rfl | assumption) (by first | exact rfl | assumption) (by first | exact rfl | assumption) rfl rfl rfl
    clear lF9 p1 p2 p3
    rename _ ∧ _ ∧ LCg.Off1 _ (rows0.reverse ++ news) => hoff
    obtain ⟨K, hD2, hWK, hDT, hk1, hk2, N4, hap⟩ := led8 N2 hrows hWc1 lt2 hoff.2.2 hgt
    clear N2 hc1 hc2
    have hap2 : ∀ p ∈ news, ∀ z ∈ rows0, @Ne Nat p.1 z.1 := fun p hp z hz => Nat.ne_of_lt (hgt z hz p (.tail _ (.tail _ hp)))
    k_dflt (refine iterO_st (σ := List (Addr × Obj)) 0 (Str.ofString "lead") [Str.ofString "price", Str.ofString "k", Str.ofString "worth", Str.ofString "here", Str.ofString "size", Str.ofString "column", Str.ofString "short", Str.ofString "row"] (fun _ => []) (fun rows => K ++ (rows ++ news)) (fun I i rows => TInv rows0 (outT q kF b n i) rows ∧ (∀ p ∈ rows0, @Ne Nat p.1 I)) rows0 rfl obj2 (List.mem_append_left _ hD2) (fun _ _ _ _ => List.mem_append_left _ hD2) (Nat.zero_le _) lF N4 ?_ ?_ (fun _ h => nomatch h) rfl rfl ?_ ?_ (by assumption))
    · intro i c hc
      exact led_ne N4 hc.1.ds
    · refine ⟨⟨rfl, hrows⟩, fun p hp => Nat.ne_of_lt (Heap.lt_size (N4 p ?_).1)⟩
      exact List.mem_append_right _ (List.mem_append_left _ hp)
    · intro i v rows u h tk I oI hi hv _ hI F1 N1
      obtain ⟨⟨hds, hare⟩, hnI⟩ := hI
      obtain ⟨l, tl, hl, rfl⟩ := tx2.at i v hv
      have hlm : l ∈ leadsF b n := List.mem_of_getElem? hl
      have hll := leads_mem _ _ l hlm
      obtain ⟨hlev, hsq, hlws, hlcl, hlind, hlle, hlar⟩ := hlead l hlm
      have hk4 : 4 * kF l ≤ 1000 := Nat.le_trans (Nat.mul_le_mul_left 4 (Nat.le_trans hlle (Nat.le_trans (Nat.min_le_left _ _) hb5))) (by decide)
      have hd4 : 4 * kF l / 4 = kF l := Nat.mul_div_cancel_left _ (by decide)
      dsimp only [bindP] at F1
      have hc1 := List.mem_append_left (rows ++ news) hk1
      have hc2 := List.mem_append_left (rows ++ news) hk2
      clear lF N4
      refine hideQ ?_
      intro QQ hQQ
      k_steps
      refine Hold.mk ?_
      k_dflt (refine lev_any w mg mb mean _ (l ++ 120 :: r) (goalF b n r) bd (4 * (kF l : Int)) _ _ _ _ _ _ _ _ _ _ _ _ _ _ _ _ _ _ _ _ (by k_asm) (by k_asm) (by k_asm) (by k_asm) (by k_asm) (by first | exact rfl | assumption) hlev (by first | exact cbr0 (by assumption) (by decide) | exact cbr1 (by assumption) (by decide) | exact cbr2 (by assumption) (by decide) | exact cbr9 (by assumption) (by decide) | cb_room) (by first | exact cbu0 (by assumption) (by decide) | exact cbu1 (by assumption) (by decide) | exact cbu2 (by assumption) (by decide) | exact cbu9 (by assumption) (by decide) | cb_units) ?_)
      intro t9_1 h9_1 tk9_1 F9_1 N9_1
      try dsimp only
      try k_fold
      k_steps
      refine Hold.mk ?_
      k_dflt (refine square_cl w mg mb mean _ l (kF l) _ _ _ _ _ _ _ _ _ _ _ _ _ _ _ _ _ _ (by k_asm) (by k_asm) (by k_asm) (by k_asm) (by k_asm) (by first | exact rfl | assumption) hsq (by first | exact cbr0 (by assumption) (by decide) | exact cbr1 (by assumption) (by decide) | exact cbr2 (by assumption) (by decide) | exact cbr9 (by assumption) (by decide) | cb_room) (by first | exact cbu0 (by assumption) (by decide) | exact cbu1 (by assumption) (by decide) | exact cbu2 (by assumption) (by decide) | exact cbu9 (by assumption) (by decide) | cb_units) ?_)
      intro t9_2 h9_2 tk9_2 F9_2 N9_2
      try dsimp only
      try k_fold
      k_steps
      refine Hold.mk ?_
      k_dflt (refine ne_same w mg mb mean  _ _ _ _ _ _ _ _ _ _ _ _ _ _ _ _ _ _ _ _ _ _ (by k_asm) (by k_asm) (by k_asm) (by k_asm) (by k_asm) (by first | exact rfl | assumption) rfl (by first | exact cbr0 (by assumption) (by decide) | exact cbr1 (by assumption) (by decide) | exact cbr2 (by assumption) (by decide) | exact cbr9 (by assumption) (by decide) | cb_room) (by first | exact cbu0 (by assumption) (by decide) | exact cbu1 (by assumption) (by decide) | exact cbu2 (by assumption) (by decide) | exact cbu9 (by assumption) (by decide) | cb_units) ?_)
      intro t9_3 h9_3 tk9_3 F9_3 N9_3
      try dsimp only
      try k_fold
      k_steps
      refine Hold.mk ?_
      k_dflt (refine floordiv_cl w mg mb mean _ _ _ _ _ (4 * kF l) 4 (kF l) _ _ _ _ _ _ _ _ _ _ _ _ _ _ _ _ _ (by k_asm) (by k_asm) (by k_asm) (by k_asm) (by k_asm) (by first | exact rfl | assumption) ⟨by first | assumption | lia, by first | assumption | lia, by first | assumption | lia, by first | assumption | lia, by first | assumption | lia, by first | assumption | lia⟩ (by first | exact cbr0 (by assumption) (by decide) | exact cbr1 (by assumption) (by decide) | exact cbr2 (by assumption) (by decide) | exact cbr9 (by assumption) (by decide) | cb_room) (by first | exact cbu0 (by assumption) (by decide) | exact cbu1 (by assumption) (by decide) | exact cbu2 (by assumption) (by decide) | exact cbu9 (by assumption) (by decide) | cb_units) ?_)
      intro t9_4 h9_4 tk9_4 F9_4 N9_4
      try dsimp only
      try k_fold
      k_steps
      refine Hold.mk ?_
      k_dflt (refine area_cl w mg mb mean _ l _ _ _ _ _ _ _ _ _ _ _ _ _ _ _ _ _ _ (by k_asm) (by k_asm) (by k_asm) (by k_asm) (by k_asm) (by first | exact rfl | assumption) (by first | assumption | lia) (by first | exact cbr0 (by assumption) (by decide) | exact cbr1 (by assumption) (by decide) | exact cbr2 (by assumption) (by decide) | exact cbr9 (by assumption) (by decide) | cb_room) (by first | exact cbu0 (by assumption) (by decide) | exact cbu1 (by assumption) (by decide) | exact cbu2 (by assumption) (by decide) | exact cbu9 (by assumption) (by decide) | cb_units) ?_)
      intro t9_5 h9_5 tk9_5 F9_5 N9_5
      try dsimp only
      try k_fold
      k_steps
      refine Hold.mk ?_
      k_dflt (refine ipow_cl w mg mb mean  _ _ _ _ _ _ _ _ _ _ _ _ _ _ _ _ _ _ _ _ _ _ (by k_asm) (by k_asm) (by k_asm) (by k_asm) (by k_asm) (by first | exact rfl | assumption) ⟨hbits, by first | assumption | lia, by first | assumption | lia⟩ (by first | exact cbr0 (by assumption) (by decide) | exact cbr1 (by assumption) (by decide) | exact cbr2 (by assumption) (by decide) | exact cbr9 (by assumption) (by decide) | cb_room) (by first | exact cbu0 (by assumption) (by decide) | exact cbu1 (by assumption) (by decide) | exact cbu2 (by assumption) (by decide) | exact cbu9 (by assumption) (by decide) | cb_units) ?_)
      intro t9_6 h9_6 tk9_6 F9_6 N9_6
      try dsimp only
      try k_fold
      k_steps
      refine Hold.mk ?_
      k_dflt (refine ws_cl w mg mb mean _ (l ++ 120 :: r) (b + n) _ _ _ _ _ _ _ _ _ _ _ _ _ _ _ _ _ _ (by k_asm) (by k_asm) (by k_asm) (by k_asm) (by k_asm) (by first | exact rfl | assumption) hlws (by first | exact cbr0 (by assumption) (by decide) | exact cbr1 (by assumption) (by decide) | exact cbr2 (by assumption) (by decide) | exact cbr9 (by assumption) (by decide) | cb_room) (by first | exact cbu0 (by assumption) (by decide) | exact cbu1 (by assumption) (by decide) | exact cbu2 (by assumption) (by decide) | exact cbu9 (by assumption) (by decide) | cb_units) ?_)
      intro x2 d2 q2 ct2 us2 k21 k22 k23 k24 k25 tl2 tn2 tnt2 tb2 h3 tk3 F3 N3 hus2 lt3
      obtain ⟨W2, hW2, hWc2, N3'⟩ := hideW N3
      obtain ⟨K2, hWK2, hI2, hKK, N6', hap3⟩ := led13 N3' hare hds hWc2 hnI hap
      clear N3 hc1 hc2
      have hc1 := List.mem_append_left (rows ++ news) (hKK _ hk1)
      have hc2 := List.mem_append_left (rows ++ news) (hKK _ hk2)
      try dsimp only
      try k_fold
      k_steps
      refine Hold.mk ?_
      rename IsRange _ _ _ _ _ _ _ _ => rgX
      rename Fr _ _ _ _ => lF9
      obtain ⟨m3, ⟨r1, r2, r3, r4, r5, r6⟩, hm3, lF⟩ := hideN6 (Str.ofString "table") (Str.ofString "straight") (Str.ofString "lead") (Str.ofString "here") (Str.ofString "k") (Str.ofString "worth") lF9 (by first | exact rfl | assumption) (by first | exact rfl | assumption) rfl rfl rfl rfl
      clear lF9
      rename News _ _ _ _ => N6
      k_dflt (refine iterR_st (σ := List (Addr × Obj)) (n := b + 1) 0 (Str.ofString "size") [Str.ofString "column", Str.ofString "short", Str.ofString "row"] (fun _ => []) (fun rows => K2 ++ (rows ++ news)) (fun J j rows => TInv rows0 (inT (kF l) (q ^ areaF l l.length) (restsAll l) (outT q kF b n i) j) rows ∧ (∀ p ∈ rows0, @Ne Nat p.1 J)) rows rfl rgX (small_one (by first | assumption | lia) (by first | assumption | lia) (by first | assumption | lia) (by first | assumption | lia)) (by rw [rangeSize_nat]; exact rg1 b) (Nat.zero_le _) lF N6 ?_ ?_ (fun _ h => nomatch h) rfl rfl ?_ ?_ (by assumption))
      · intro i c hc
        exact led_ne N6 (hc.1.ds.trans hds.symm)
      · refine ⟨⟨hds, hare⟩, fun p hp => ?_⟩
        have h1 : p.1 ∈ rows.map Prod.fst := by rw [hds]; exact List.mem_map_of_mem hp
        obtain ⟨y, hy, ey⟩ := List.mem_map.mp h1
        rw [← ey]
        exact Nat.ne_of_lt (Heap.lt_size (N6 y (List.mem_append_right _ (List.mem_append_left _ hy))).1)
      · intro j z t rows2 u2 h tk J oJ hj hz _ hI F7 N7
        obtain ⟨⟨hds2, hare2⟩, hnJ⟩ := hI
        obtain rfl : z = ((j + 1 : Nat) : Int) := by first | assumption | lia
        dsimp only [bindP] at F7
        clear lF N6 rgX lt3 lt1 lt2 hc1 hc2
        have hc1 := List.mem_append_left (rows2 ++ news) (hKK _ hk1)
        have hc2 := List.mem_append_left (rows2 ++ news) (hKK _ hk2)
        have hx1 := List.mem_append_left (rows2 ++ news) (hKK _ (hWK _ (hW1 _ (List.Mem.tail _ (List.Mem.tail _ (List.Mem.head _))))))
        have hy1 := List.mem_append_left (rows2 ++ news) (hKK _ (hWK _ (hW1 _ (List.Mem.tail _ (List.Mem.tail _ (List.Mem.tail _ (List.Mem.head _)))))))
        have hx2 := List.mem_append_left (rows2 ++ news) (hWK2 _ (hW2 _ (List.Mem.tail _ (List.Mem.tail _ (List.Mem.head _)))))
        have hy2 := List.mem_append_left (rows2 ++ news) (hWK2 _ (hW2 _ (List.Mem.tail _ (List.Mem.tail _ (List.Mem.tail _ (List.Mem.head _))))))
        clear hQQ
        refine hideQ ?_
        intro QQ hQQ
        have hz1 : 1 ≤ j + 1 := by first | assumption | lia
        have hz2 : j + 1 ≤ b + 1 := by first | assumption | lia
        have eC := hgcol (j + 1) hz1 hz2
        have eH := hlind (j + 1) hz1 hz2
        k_steps
        rename News _ _ _ _ => lN
        refine Hold.mk ?_
        have hm1 := fun p hp => List.Mem.tail (J, oJ) (List.mem_append_left (rows2 ++ news) (hKK p (hWK p (hW1 p hp))))
        k_dflt (refine ind_any w mg mb mean _ (goalF b n r) (wsF (goalF b n r) (b + n)) x1 d1 q1 ct1 us1 k11 k12 k13 k14 k15 tl1 tn1 tnt1 tb1 (j + 1) ((b : Int) + ((j + 1 : Nat) : Int) * n) _ hm1 _ _ _ _ _ _ _ _ _ _ _ _ _ _ _ _ _ (by k_asm) (by k_asm) (by k_asm) lN (by k_asm) (by first | exact rfl | assumption) ⟨by assumption, by first | assumption | lia, by first | assumption | lia, hgcl, eC⟩ (by first | exact cbr0 (by assumption) (by decide) | exact cbr1 (by assumption) (by decide) | exact cbr2 (by assumption) (by decide) | exact cbr9 (by assumption) (by decide) | cb_room) (by first | exact cbu0 (by assumption) (by decide) | exact cbu1 (by assumption) (by decide) | exact cbu2 (by assumption) (by decide) | exact cbu9 (by assumption) (by decide) | cb_units) ?_)
        intro t9_7 h9_7 tk9_7 F9_7 N9_7
        try dsimp only
        try k_fold
        k_steps
        rename News _ _ _ _ => lN
        refine Hold.mk ?_
        have hm2 := fun p hp => List.Mem.tail (J, oJ) (List.mem_append_left (rows2 ++ news) (hWK2 p (hW2 p hp)))
        k_dflt (refine ind_any w mg mb mean _ (l ++ 120 :: r) (wsF (l ++ 120 :: r) (b + n)) x2 d2 q2 ct2 us2 k21 k22 k23 k24 k25 tl2 tn2 tnt2 tb2 (j + 1) ((b : Int) + ((j + 1 : Nat) : Int) * n - restsAll l (j + 1)) _ hm2 _ _ _ _ _ _ _ _ _ _ _ _ _ _ _ _ _ (by k_asm) (by k_asm) (by k_asm) lN (by k_asm) (by first | exact rfl | assumption) ⟨by assumption, by first | assumption | lia, by first | assumption | lia, hlcl, by first | assumption | lia⟩ (by first | exact cbr0 (by assumption) (by decide) | exact cbr1 (by assumption) (by decide) | exact cbr2 (by assumption) (by decide) | exact cbr9 (by assumption) (by decide) | cb_room) (by first | exact cbu0 (by assumption) (by decide) | exact cbu1 (by assumption) (by decide) | exact cbu2 (by assumption) (by decide) | exact cbu9 (by assumption) (by decide) | cb_units) ?_)
        intro t9_8 h9_8 tk9_8 F9_8 N9_8
        try dsimp only
        try k_fold
        k_steps
        refine Hold.mk ?_
        k_dflt (refine sub_any w mg mb mean _ _ _ (restsAll l (j + 1) : Int) _ _ _ _ _ _ _ _ _ _ _ _ _ _ _ _ _ _ _ (by k_asm) (by k_asm) (by k_asm) (by k_asm) (by k_asm) (by first | exact rfl | assumption) (by first | assumption | lia) (by first | exact cbr0 (by assumption) (by decide) | exact cbr1 (by assumption) (by decide) | exact cbr2 (by assumption) (by decide) | exact cbr9 (by assumption) (by decide) | cb_room) (by first | exact cbu0 (by assumption) (by decide) | exact cbu1 (by assumption) (by decide) | exact cbu2 (by assumption) (by decide) | exact cbu9 (by assumption) (by decide) | cb_units) ?_)
        intro t9_9 h9_9 tk9_9 F9_9 N9_9
        try dsimp only
        try k_fold
        k_steps
        · exfalso; lia
        refine Hold.mk ?_
        k_dflt (refine rests_cl w mg mb mean _ l (j + 1) _ _ _ _ _ _ _ _ _ _ _ _ _ _ _ _ _ _ _ (by k_asm) (by k_asm) (by k_asm) (by k_asm) (by k_asm) (by first | exact rfl | assumption) ⟨by first | assumption | lia, by first | assumption | lia⟩ (by first | exact cbr0 (by assumption) (by decide) | exact cbr1 (by assumption) (by decide) | exact cbr2 (by assumption) (by decide) | exact cbr9 (by assumption) (by decide) | cb_room) (by first | exact cbu0 (by assumption) (by decide) | exact cbu1 (by assumption) (by decide) | exact cbu2 (by assumption) (by decide) | exact cbu9 (by assumption) (by decide) | cb_units) ?_)
        intro t9_10 h9_10 tk9_10 F9_10 N9_10
        try dsimp only
        try k_fold
        k_steps
        · exfalso; lia
        · have hr0 : restsAll l (j + 1) = 0 := by first | assumption | lia
          obtain ⟨d, hd⟩ : ∃ d, (rows0.map Prod.fst)[j + 1]? = some d := ⟨_, List.getElem?_eq_getElem (by rw [List.length_map]; lia)⟩
          obtain ⟨pre, o, post, vs, he, hpl, hob, hin, hset⟩ := RowsAre.split hare2 (z := j + 1) (d := d) (by rw [hds2]; exact hd)
          subst he
          have hsh := shape_in (k := kF l) (w := q ^ areaF l l.length) (sh := restsAll l) (shape_out (q := q) (kF := kF) (b := b) (n := n) i) j
          have hrow := hsh.2 (j + 1) (by first | assumption | lia)
          have hvl : vs.length ≤ 1000 := by rw [hin.length, hrow]; lia
          obtain ⟨tv, hv9⟩ := ints_at hin (kF l) (by rw [hrow]; lia)
          rename News _ _ _ _ => lN
          refine Hold.mk ?_
          k_dflt (refine getitem_cl w mg mb mean _ _ (refsOf rows0) (j + 1) (.ref d) _ _ _ _ _ _ _ _ _ _ _ _ _ _ _ _ _ _ (by k_asm) (by k_asm) (by k_asm) lN (by k_asm) (by first | exact rfl | assumption) ⟨⟨_, (.tail _ (List.mem_append_left _ (hKK _ hDT))), rfl, _, rfl⟩, refs_at hd, by rw [refsOf, List.length_map]; lia⟩ (by first | exact cbr0 (by assumption) (by decide) | exact cbr1 (by assumption) (by decide) | exact cbr2 (by assumption) (by decide) | exact cbr9 (by assumption) (by decide) | cb_room) (by first | exact cbu0 (by assumption) (by decide) | exact cbu1 (by assumption) (by decide) | exact cbu2 (by assumption) (by decide) | exact cbu9 (by assumption) (by decide) | cb_units) ?_)
          intro t9_11 h9_11 tk9_11 F9_11 N9_11
          try dsimp only
          try k_fold
          k_steps
          rename News _ _ _ _ => lN
          refine Hold.mk ?_
          k_dflt (refine getitem_cl w mg mb mean _ d vs (kF l) _ _ _ _ _ _ _ _ _ _ _ _ _ _ _ _ _ _ _ (by k_asm) (by k_asm) (by k_asm) lN (by k_asm) (by first | exact rfl | assumption) ⟨⟨o, (.tail _ (List.mem_append_right _ (List.mem_append_left _ (List.mem_append_right _ (.head _))))), hob⟩, hv9, hvl⟩ (by first | exact cbr0 (by assumption) (by decide) | exact cbr1 (by assumption) (by decide) | exact cbr2 (by assumption) (by decide) | exact cbr9 (by assumption) (by decide) | cb_room) (by first | exact cbu0 (by assumption) (by decide) | exact cbu1 (by assumption) (by decide) | exact cbu2 (by assumption) (by decide) | exact cbu9 (by assumption) (by decide) | cb_units) ?_)
          intro t9_12 h9_12 tk9_12 F9_12 N9_12
          try dsimp only
          try k_fold
          k_steps
          refine Hold.mk ?_
          k_dflt (refine add_cl w mg mb mean  _ _ _ _ _ _ _ _ _ _ _ _ _ _ _ _ _ _ _ _ _ _ (by k_asm) (by k_asm) (by k_asm) (by k_asm) (by k_asm) (by first | exact rfl | assumption) trivial (by first | exact cbr0 (by assumption) (by decide) | exact cbr1 (by assumption) (by decide) | exact cbr2 (by assumption) (by decide) | exact cbr9 (by assumption) (by decide) | cb_room) (by first | exact cbu0 (by assumption) (by decide) | exact cbu1 (by assumption) (by decide) | exact cbu2 (by assumption) (by decide) | exact cbu9 (by assumption) (by decide) | cb_units) ?_)
          intro t9_13 h9_13 tk9_13 F9_13 N9_13
          try dsimp only
          try k_fold
          k_steps
          rename News _ _ _ _ => lN
          refine Hold.mk ?_
          k_dflt (refine setitem_any w mg mb mean ((J, oJ) :: (K2 ++ ((pre ++ (d, o) :: post) ++ news))) d o vs (kF l) _ _ _ _ _ _ _ _ _ _ _ _ _ _ _ _ _ _ _ (by k_asm) (by k_asm) (by k_asm) lN (by k_asm) (by first | exact rfl | assumption) ⟨.tail _ (List.mem_append_right _ (List.mem_append_left _ (List.mem_append_right _ (.head _)))), hob, by rw [hin.length, hrow]; lia, hvl⟩ (by first | exact cbr0 (by assumption) (by decide) | exact cbr1 (by assumption) (by decide) | exact cbr2 (by assumption) (by decide) | exact cbr9 (by assumption) (by decide) | cb_room) (by first | exact cbu0 (by assumption) (by decide) | exact cbu1 (by assumption) (by decide) | exact cbu2 (by assumption) (by decide) | exact cbu9 (by assumption) (by decide) | cb_units) ?_)
          intro o9 h9 tk9 F9 hob9 hN9
          try dsimp only
          try k_fold
          have N9 := hN9 _ (led_set hds2 hnd hnJ hap3 hap2)
          clear hN9
          simp only [Int.toNat_natCast] at hob9
          k_steps
          subst QQ
          refine st_end (pre ++ (d, o9) :: post) (by k_asm) N9 ⟨⟨?_, ?_⟩, hnJ⟩ (fun _ h => absurd h List.not_mem_nil) ?_
          · rw [← hds2]; simp
          · show RowsAre _ (if restsAll l (j + 1) = 0 then _ else _)
            rw [if_pos hr0]
            exact hset o9 _ _ hob9 (ints_set hin (kF l) _ _)
          · intro z h1 _ h3
            have h4 := stored_ne h3
            rw [if_neg (h4 _ (.tail _ (.tail _ (.head _)))), if_neg (h4 _ (.tail _ (.head _))), if_neg (h4 _ (.head _)), if_neg h1, if_neg (by rw [h3]; exact Bool.false_ne_true)]
        · have hr0 : ¬ restsAll l (j + 1) = 0 := by first | assumption | lia
          rename News _ _ _ _ => lN
          subst QQ
          refine st_end rows2 (by k_asm) lN ⟨⟨hds2, ?_⟩, hnJ⟩ (fun _ h => absurd h List.not_mem_nil) ?_
          · show RowsAre _ (if restsAll l (j + 1) = 0 then _ else _)
            rw [if_neg hr0]
            exact hare2
          · intro z h1 _ h3
            have h4 := stored_ne h3
            rw [if_neg (h4 _ (.tail _ (.head _))), if_neg (h4 _ (.head _)), if_neg h1, if_neg (by rw [h3]; exact Bool.false_ne_true)]
      · intro J rows2 u2 h tk _ hI F7 N7
        obtain ⟨⟨hds2, hare2⟩, hnJ⟩ := hI
        dsimp only [bindP] at F7
        clear lF N6 rgX lt3 lt1 lt2 hc1 hc2
        have hc1 := List.mem_append_left (rows2 ++ news) (hKK _ hk1)
        have hc2 := List.mem_append_left (rows2 ++ news) (hKK _ hk2)
        k_steps
        rename News _ _ _ _ => lN
        subst QQ
        refine st_end rows2 (by k_asm) (News.sub lN (sub_last9 hI2 hKK)) ⟨⟨hds2, ?_⟩, hnI⟩ (fun _ h => absurd h List.not_mem_nil) ?_
        · show RowsAre _ (leadT _ _ _ _ _)
          rw [show (leadsF b n).getD i [] = l by rw [List.getD_eq_getElem?_getD, hl]; rfl]
          exact hare2
        · intro z h1 _ h3
          have h4 := stored_ne h3
          rw [if_neg (h4 _ ((.tail _ (.tail _ (.tail _ (.tail _ (.head _))))))), if_neg (by rw [sub_stored h3]; exact Bool.false_ne_true), hm3 z, if_neg (h4 _ ((.tail _ (.tail _ (.tail _ (.head _)))))), if_neg (h4 _ ((.tail _ (.tail _ (.head _))))), if_neg (h4 _ ((.tail _ (.head _)))), if_neg (h4 _ ((.head _))), if_neg h1, if_neg (by rw [h3]; exact Bool.false_ne_true)]
    · intro I rows u h tk _ hI F1 N1
      obtain ⟨⟨hds, hare⟩, hnI⟩ := hI
      dsimp only [bindP] at F1
      have hc1 := List.mem_append_left (rows ++ news) hk1
      have hc2 := List.mem_append_left (rows ++ news) hk2
      k_steps
      rename News _ _ _ _ => lN
      refine hret _ rows _ _ (by k_asm) (by rw [← tx2.length]; exact hare) (fun z hz => ⟨off1_mem hoff.2.2 z (List.mem_append_right _ hz), ?_⟩) ?_
      · intro p hp
        have h1 : p.1 ∈ rows0.map Prod.fst := by rw [← hds]; exact List.mem_map_of_mem hp
        obtain ⟨y, hy, ey⟩ := List.mem_map.mp h1
        rw [← ey]
        exact hap2 z hz y hy
      rw [refs_eq hds]
      exact News.sub lN (sub_tab hDT)
end
section
open PySem PySem.W PyProof.Rows PySem.Calls PySem.Spec
set_option maxRecDepth 100000
set_option maxHeartbeats 2000000
section
variable {prog : Program} {w : World} {A : Around} {E : Value → Shared → Prop} {Q : Flow → Shared → Prop} {s : Shared} {env : Env} {h₀ : Heap}
/-- a turn's end over a cell: on, all as it was -/
noncomputable def CEnd (h₀ : Heap) (L : Addr) (m₀ : Str → Option Value) (nx : List (Addr × Obj)) (s : Shared) (f : Flow) (s₂ : Shared) : Prop := f = .next ∧ ∃ h' tk', s₂ = { s with heap := h', toks := tk' } ∧ Fr h₀ L h' m₀ ∧ News h₀ L h' nx
/-- such a loop's state ahead of its turn -/
noncomputable def CLoop (n : Nat) (a₀ : Int) (h₀ : Heap) (L c I : Addr) (m₀ : Str → Option Value) (own rest : List (Addr × Obj)) (s : Shared) (k : Nat) (s' : Shared) : Prop :=
  ∃ h' tk i o vv, s' = { s with heap := h', toks := tk } ∧ IsRangeIter h' I (a₀ + (i : Nat) * 1) ((n : Int) - (i : Nat)) 1 ∧ Fr h₀ L h' m₀ ∧ News h₀ L h' (own ++ (c, o) :: rest) ∧ o.data = .cell vv ∧ i ≤ n ∧ k = n + 1 - i
/-- over a range by ones, the name in a cell, nothing else stored -/
theorem iterR_cell {r : Addr} {a₀ b₀ : Int} {t₀' u₀ v₀ : Tok} {n : Nat} {px : Pos} {body : List Stmt} {m₀ : Str → Option Value} {own rest : List (Addr × Obj)} {c : Addr} {o₀ : Obj} {w₀ : Option Value} {x : Str}
    (hh : A.handled = none) (hr : IsRange s.heap r a₀ b₀ 1 t₀' u₀ v₀) (hsmall : Builtin.Range.small a₀ b₀ 1 = true) (hn : Builtin.Range.rangeSize a₀ b₀ 1 = (n : Int)) (F : Fr h₀ env.locals s.heap m₀) (N : News h₀ env.locals s.heap (own ++ (c, o₀) :: rest)) (hd : o₀.data = .cell w₀)
    (ho : ∀ p ∈ own, p.1 ≠ c) (hs : ∀ p ∈ rest, p.1 ≠ c) (hk : env.scope.kind = .function) (hx : env.kindOf x = some .cell) (hc : env.cells.lookup x = some c)
    (turn : ∀ i (k : Int) t h tk I oI o, i < n → k = a₀ + i → o.data = .cell (some (.int k t)) → Fr h₀ env.locals h m₀ → News h₀ env.locals h ((I, oI) :: (own ++ (c, o) :: rest)) →
      wpAny (model prog w) A (execs body env) (CEnd h₀ env.locals m₀ ((I, oI) :: (own ++ (c, o) :: rest)) { s with heap := h, toks := tk }) E { s with heap := h, toks := tk })
    (done : ∀ h tk o, Fr h₀ env.locals h m₀ → News h₀ env.locals h (own ++ (c, o) :: rest) → Q .next { s with heap := h, toks := tk })
    (hE : PassesOwn (model prog w) A env E) :
    wpAny (model prog w) A (pyIter (.ref r)) (fun it s₂ => Loops prog w A env x px body Q E it s₂) E s := by
  obtain ⟨f1, f2, f3⟩ := fresh_I F N
  refine wpAny_pyIter_range hr hsmall ?_
  have W0 : Walks prog w A s.heap.objs.size [s.heap.objs.size] [s.heap.objs.size] n (fun i v => i < n ∧ ∃ t, v = .int (a₀ + i * 1) t)
      (fun i h => IsRangeIter h s.heap.objs.size (a₀ + (i : Nat) * 1) ((n : Int) - (i : Nat)) 1) := (Walks.range hh _ a₀ 1 n).bound
  have W := Wk.of (T := 0) W0
  have hcI : c ≠ s.heap.objs.size := f3 (c, o₀) (List.mem_append_right _ (.head _))
  refine codeAny_forLoop (CLoop n a₀ h₀ env.locals c s.heap.objs.size m₀ own rest s) ?_ (n + 1)
    ⟨_, s.toks, 0, o₀, w₀, rfl, by show IsRangeIter _ _ _ _ _; rw [hn]; simpa using Heap.get?_push_size _ rfl, F.push _, News.pushed N, hd, Nat.zero_le _, rfl⟩
  rintro k s' ⟨h', tk, i, o, vv, rfl, hst', F', N', hd', hi, rfl⟩
  have fI : ∀ (o' : Obj), ∀ p ∈ own ++ (c, o') :: rest, p.1 ≠ s.heap.objs.size := by
    intro o' p hp
    rcases List.mem_append.mp hp with hp | hp
    · exact f3 p (List.mem_append_left _ hp)
    · rcases List.mem_cons.mp hp with rfl | hp
      · exact hcI
      · exact f3 p (List.mem_append_right _ (.tail _ hp))
  have keepF : ∀ {h₁ : Heap}, (∀ b o, b ≠ s.heap.objs.size → h'.get? b = some o → h₁.get? b = some o) → Fr h₀ env.locals h₁ m₀ ∧ News h₀ env.locals h₁ (own ++ (c, o) :: rest) := fun hk =>
    ⟨⟨F'.ns.at' fun o e => hk _ o f2 e, fun b o e => hk b o (fun q => by rw [q, f1] at e; cases e) (F'.keep b o e), F'.above⟩, fun p hp => ⟨hk _ _ (fI o p hp) (N' p hp).1, (N' p hp).2⟩⟩
  by_cases hlt : i < n
  · refine W.item i _ _ _ hlt (Nat.zero_le _) hst' fun v h₁ tk₁ hP hst₁ _ hk₁ => ?_
    obtain ⟨F₁, N₁⟩ := keepF hk₁
    obtain ⟨_, t, rfl⟩ := hP
    have hmem := N₁ (c, o) (List.mem_append_right _ (.head _))
    refine wpAny_assign_Name (wpAny_storeName_cell hk hx hc ⟨o, hmem.1, hd'⟩ fun h₂ hv₂ hs₂ => ?_)
    obtain ⟨o₂, ho₂, hd₂⟩ := hv₂
    have F₂ : Fr h₀ env.locals h₂ m₀ := ⟨F₁.ns.sameBut hs₂ (Ne.symm hmem.2.1), fun b ob e => (hs₂.2 b (fun q => by rw [q, hmem.2.2] at e; cases e)).trans (F₁.keep b ob e), F₁.above⟩
    have N₂ : News h₀ env.locals h₂ (own ++ (c, o₂) :: rest) := N₁.setAt ho hs hs₂ ho₂
    have hst₂ : IsRangeIter h₂ s.heap.objs.size (a₀ + ((i + 1 : Nat) : Nat) * 1) ((n : Int) - ((i + 1 : Nat) : Nat)) 1 := (hs₂.2 _ (fun q => hcI q.symm)).trans hst₁
    obtain ⟨oI, hoI⟩ : ∃ oI, h₂.get? s.heap.objs.size = some oI := ⟨_, hst₂⟩
    have NI : News h₀ env.locals h₂ ((s.heap.objs.size, oI) :: (own ++ (c, o₂) :: rest)) := fun p hp => by
      rcases List.mem_cons.mp hp with rfl | hp
      · exact ⟨hoI, fun q => f2 q.symm, f1⟩
      · exact N₂ p hp
    refine wpAny_mono (wpAny_passesOwn hE (turn i _ t _ _ _ oI o₂ hlt (by lia) hd₂ F₂ NI)) (fun f s₃ p => ?_) fun _ _ e => e
    obtain ⟨rfl, h₃, tk₃, rfl, F₃, N₃⟩ := p
    refine ⟨n + 1 - (i + 1), Nat.sub_lt_sub_left (Nat.lt_succ_of_lt hlt) (Nat.lt_succ_self _), h₃, tk₃, i + 1, o₂, _, rfl, ?_, F₃, fun p hp => N₃ p (List.mem_cons_of_mem _ hp), hd₂, hlt, rfl⟩
    have e3 := (N₃ _ (List.mem_cons_self ..)).1
    show h₃.get? _ = some _
    rw [e3, ← hoI]
    exact hst₂
  · have hin : i = n := by lia
    subst hin
    refine W.done _ _ _ (Nat.zero_le _) hst' fun h₁ tk₁ _ hk₁ => wpAny_execs_nil ?_
    obtain ⟨F₁, N₁⟩ := keepF hk₁
    exact done h₁ tk₁ o F₁ N₁
end
end
section
open PySem PySem.W PyProof.Rows PySem.Calls PySem.Spec
set_option maxRecDepth 100000
set_option maxHeartbeats 2000000
/-- the seven shapes -/
noncomputable def Menu (b n : Nat) : Prop := (b = 3 ∧ n = 2) ∨ (b = 2 ∧ n = 2) ∨ (b = 4 ∧ n = 2) ∨ (b = 2 ∧ n = 3) ∨ (b = 4 ∧ n = 1) ∨ (b = 1 ∧ n = 3) ∨ (b = 5 ∧ n = 1)
theorem menu_le {b n : Nat} (h : Menu b n) : b + n ≤ 8 ∧ b ≤ 5 ∧ n ≤ 3 := by
  rcases h with ⟨rfl, rfl⟩ | ⟨rfl, rfl⟩ | ⟨rfl, rfl⟩ | ⟨rfl, rfl⟩ | ⟨rfl, rfl⟩ | ⟨rfl, rfl⟩ | ⟨rfl, rfl⟩ <;> decide
/-- a tail's sign -/
noncomputable def tailC (k : Int) : Nat := [32, 9, 120, 88].getD (Int.fmod k 4).toNat 0
theorem menu4 : Str.ofString " \txX" = S [32, 9, 120, 88] := by decide +kernel
theorem x_eq : Str.ofString "x" = S [120] := by decide +kernel
section
variable {prog : Program} {w : World} {A : Around} {E : Value → Shared → Prop} {s : Shared} {value slice : PySem.Expr} {h₀ : Heap} {L : Addr} {m : Str → Option Value} {rest : List (Addr × Obj)} {Q : Value → Shared → Prop}
theorem idx_core {D : Addr} {vs : List Value} {k : Int} {u : Tok} (ht : IsTup s.heap D vs.toArray) (hl : vs.length = 7) (h0 : 0 ≤ k) (h1 : k < 7)
    (hall : ∀ v ∈ vs, ∃ r, ∃ b n : Nat, ∃ tb tn, v = .ref r ∧ Menu b n ∧ (∀ p ∈ rest, @LT.lt Nat _ p.1 r) ∧ News h₀ L s.heap ((r, tupObj #[.int (b : Int) tb, .int (n : Int) tn]) :: rest))
    (h : ∀ r (b n : Nat) tb tn, Menu b n → (∀ p ∈ rest, @LT.lt Nat _ p.1 r) → News h₀ L s.heap ((r, tupObj #[.int (b : Int) tb, .int (n : Int) tn]) :: rest) → Q (.ref r) s)
    (hs : subscripted slice false (.ref D) (.int k u) = operate [.ref D, .int k u] (getItem (.ref D) (.int k u)) := by with_unfolding_all rfl) :
    wpAny (model prog w) A (subscriptTail value slice (.ref D) (.int k u)) Q E s := by
  obtain ⟨j, rfl⟩ := Int.eq_ofNat_of_zero_le h0
  have hj : j < vs.length := by lia
  have e : ((2 : Int) ^ 63) = 9223372036854775808 := by decide
  obtain ⟨r, b, n, tb, tn, hv, m1, m2, m3⟩ := hall vs[j] (List.getElem_mem hj)
  refine item_tupleT ht (by lia) (by lia) (j := j) (StrLaws.seqIndex_nonneg h0 (by lia)) (List.getElem?_eq_getElem hj) ?_ hs
  rw [hv]
  exact h r b n tb tn m1 m2 m3
theorem idx7 {full : List (Addr × Obj)} {D r0 r1 r2 r3 r4 r5 r6 : Addr} {k : Int} {u a0 b0 a1 b1 a2 b2 a3 b3 a4 b4 a5 b5 a6 b6 : Tok} (N : News h₀ L s.heap full)
    (hD : (D, tupObj #[.ref r0, .ref r1, .ref r2, .ref r3, .ref r4, .ref r5, .ref r6]) ∈ full) (m6 : (r6, tupObj #[.int 5 a6, .int 1 b6]) ∈ full) (m5 : (r5, tupObj #[.int 1 a5, .int 3 b5]) ∈ full) (m4 : (r4, tupObj #[.int 4 a4, .int 1 b4]) ∈ full)
    (m3 : (r3, tupObj #[.int 2 a3, .int 3 b3]) ∈ full) (m2 : (r2, tupObj #[.int 4 a2, .int 2 b2]) ∈ full) (m1 : (r1, tupObj #[.int 2 a1, .int 2 b1]) ∈ full) (m0 : (r0, tupObj #[.int 3 a0, .int 2 b0]) ∈ full)
    (hr : ∀ p ∈ rest, p ∈ full) (h0 : 0 ≤ k) (h1 : k < 7) (q : ∀ r ∈ [r0, r1, r2, r3, r4, r5, r6], ∀ p ∈ rest, @LT.lt Nat _ p.1 r)
    (h : ∀ r (b n : Nat) tb tn, Menu b n → (∀ p ∈ rest, @LT.lt Nat _ p.1 r) → News h₀ L s.heap ((r, tupObj #[.int (b : Int) tb, .int (n : Int) tn]) :: rest) → Q (.ref r) s)
    (hs : subscripted slice false (.ref D) (.int k u) = operate [.ref D, .int k u] (getItem (.ref D) (.int k u)) := by with_unfolding_all rfl) :
    wpAny (model prog w) A (subscriptTail value slice (.ref D) (.int k u)) Q E s := by
  have mk : ∀ (p : Addr × Obj), p ∈ full → News h₀ L s.heap (p :: rest) := fun p hp z hz => by
    rcases List.mem_cons.mp hz with rfl | hz
    · exact N _ hp
    · exact N _ (hr z hz)
  clear hr
  refine idx_core (vs := [.ref r0, .ref r1, .ref r2, .ref r3, .ref r4, .ref r5, .ref r6]) (istup_of N hD) rfl h0 h1 ?_ h hs
  clear h hs N hD
  simp only [List.forall_mem_cons] at q
  obtain ⟨q0, q1, q2, q3, q4, q5, q6, _⟩ := q
  refine List.forall_mem_cons.mpr ⟨⟨r0, 3, 2, a0, b0, rfl, .inl ⟨rfl, rfl⟩, q0, mk _ m0⟩, ?_⟩
  refine List.forall_mem_cons.mpr ⟨⟨r1, 2, 2, a1, b1, rfl, .inr (.inl ⟨rfl, rfl⟩), q1, mk _ m1⟩, ?_⟩
  refine List.forall_mem_cons.mpr ⟨⟨r2, 4, 2, a2, b2, rfl, .inr (.inr (.inl ⟨rfl, rfl⟩)), q2, mk _ m2⟩, ?_⟩
  refine List.forall_mem_cons.mpr ⟨⟨r3, 2, 3, a3, b3, rfl, .inr (.inr (.inr (.inl ⟨rfl, rfl⟩))), q3, mk _ m3⟩, ?_⟩
  refine List.forall_mem_cons.mpr ⟨⟨r4, 4, 1, a4, b4, rfl, .inr (.inr (.inr (.inr (.inl ⟨rfl, rfl⟩)))), q4, mk _ m4⟩, ?_⟩
  refine List.forall_mem_cons.mpr ⟨⟨r5, 1, 3, a5, b5, rfl, .inr (.inr (.inr (.inr (.inr (.inl ⟨rfl, rfl⟩))))), q5, mk _ m5⟩, ?_⟩
  exact List.forall_mem_cons.mpr ⟨⟨r6, 5, 1, a6, b6, rfl, .inr (.inr (.inr (.inr (.inr (.inr ⟨rfl, rfl⟩))))), q6, mk _ m6⟩, List.forall_mem_nil _⟩
theorem item4 {k : Int} {t u : Tok} (h : Q (.str (S [tailC k]) s.toks) { s with toks := s.toks + 1 })
    (hs : ∀ (k : Int) (x : Str), subscripted slice false (.str x t) (.int k u) = operate [.str x t, .int k u] (getItem (.str x t) (.int k u)) := by intro _ _; with_unfolding_all rfl)
    (ht : ∀ (x : Str) r, letTemporaryGo value (.str x t) r = pure () := by intro _ _; with_unfolding_all rfl) :
    wpAny (model prog w) A (subscriptTail value slice (.str (Str.ofString " \txX") t) (.int (Int.fmod k 4) u)) Q E s := by
  rw [menu4]
  have h0 : 0 ≤ Int.fmod k 4 := Int.fmod_nonneg_of_pos k (by decide)
  have h1 : Int.fmod k 4 < 4 := Int.fmod_lt_of_pos k (by decide)
  refine sub_itemZ h0 (by simpa using h1) (by simp) ?_ (hs _ _) (ht _)
  exact h
end
theorem carried_of {ks : List Int} : ∀ {ys : List Value}, TxtsAre ys (ks.map fun k => [tailC k]) → CarriedAll ys (ks.map fun k => PyData.str (S [tailC k])) := by
  induction ks with
  | nil => intro ys h; cases ys with
    | nil => exact .nil
    | cons y ys => exact h.elim
  | cons k ks ih => intro ys h; cases ys with
    | nil => exact h.elim
    | cons y ys =>
      obtain ⟨⟨t, rfl⟩, h2⟩ := h
      exact .cons (.str _ t) (ih h2)
theorem join_tail (ks : List Int) : PySem.Txt.join (PySem.Str.ofString "") (ks.map fun k => S [tailC k]) = S (ks.map tailC) := by
  show Builtin.Str.glued (PySem.Str.ofString "") _ = _
  rw [StrLaws.glued_eq_join]
  have := PyProof.Rows.join_ones (ks.map tailC)
  rw [List.map_map] at this
  exact this
section
variable {prog : Program} {w : World} {A : Around} {h₀ : Heap} {L : Addr} {m : Str → Option Value} {env : Env} {elt : PySem.Expr} {x : Str} {scope : Scope} {cl : List (Str × Addr)} {s : Shared} {SS : List (Addr × Obj) → Prop} {P : Nat → Value → Prop} {Fin : List Value → List (Addr × Obj) → Prop} {news : List (Addr × Obj)}
theorem int_txt_rest {vs : List Value} {ks : List Int} (g : Int → List Nat) (hT : IntsAre vs ks)
    (turn : ∀ k t I oI C oC D m₂ ys h tk (E' : Value → Shared → Prop), LCg.NsObj oC m₂ → m₂ x = some (.int k t) → Fr h₀ L h m → News h₀ L h ((I, oI) :: (C, oC) :: (D, LCg.lst ys) :: news) → LCg.Off3 I C D news → ((@Ne Nat I C) ∧ (@Ne Nat I D) ∧ (@Ne Nat C D)) →
      wpAny (model prog w) A (eval elt (compEnvC scope cl C env)) (LCg.CompEnd h₀ L m { s with heap := h, toks := tk } I oI C oC D (LCg.lst ys) SS (fun y news' => TxtEl news (g k) y news')) E' { s with heap := h, toks := tk })
    (fin : ∀ ys, TxtsAre ys (ks.map g) → Fin ys news) : LCg.CompRest prog w A h₀ L m env elt x scope cl s SS (fun i v => vs.toArray[i]? = some v) Fin vs.toArray.size 0 [] news := by
  have key : ∀ (j i : Nat) (ys : List Value), i + j = ks.length → TxtsAre ys ((ks.take i).map g) → LCg.CompRest prog w A h₀ L m env elt x scope cl s SS (fun i v => vs.toArray[i]? = some v) Fin j i ys news := by
    intro j
    induction j with
    | zero =>
      intro i ys hi hy
      have e : i = ks.length := by lia
      subst e
      rw [List.take_length] at hy
      exact LCg.CompRest.zero (fin ys hy)
    | succ j ih =>
      intro i ys hi hy
      refine LCg.CompRest.succ ?_
      intro v I oI C oC D m₂ h tk E' hv hC hx F N off ne
      obtain ⟨k, t, e1, e2⟩ := IntsAre.at hT i v (by simpa using hv)
      rw [e1] at hx
      refine wpAny_mono (turn k t I oI C oC D m₂ ys h tk E' hC hx F N off ne) (fun y s₂ hq => ?_) fun _ _ e => e
      obtain ⟨h', tk', nw, e, F', N', off', hS, hn, t', hy'⟩ := hq
      rw [hn] at N' off' hS
      refine ⟨h', tk', news, e, F', N', off', hS, ?_⟩
      rw [hy']
      refine ih (i + 1) _ (by lia) ?_
      rw [List.take_add_one, e2]
      simpa using TxtsAre.append (ls := (ks.take i).map g) (ks := [g k]) (ws := [.str (S (g k)) t']) hy (show TxtsAre [.str (S (g k)) t'] [g k] from ⟨⟨t', rfl⟩, trivial⟩)
  rw [show vs.toArray.size = ks.length by rw [List.size_toArray]; exact hT.length]
  exact key ks.length 0 [] (by lia) trivial
/-- over a range, ints made -/
noncomputable def IntEl (news : List (Addr × Obj)) (r : Int) (y : Value) (news' : List (Addr × Obj)) : Prop := news' = news ∧ ∃ t : Tok, y = .int r t
theorem range_int_rest {n : Nat} (g : Nat → Int)
    (turn : ∀ i t I oI C oC D m₂ ys h tk (E' : Value → Shared → Prop), i < n → LCg.NsObj oC m₂ → m₂ x = some (.int (i : Int) t) → Fr h₀ L h m → News h₀ L h ((I, oI) :: (C, oC) :: (D, LCg.lst ys) :: news) → LCg.Off3 I C D news → ((@Ne Nat I C) ∧ (@Ne Nat I D) ∧ (@Ne Nat C D)) →
      wpAny (model prog w) A (eval elt (compEnvC scope cl C env)) (LCg.CompEnd h₀ L m { s with heap := h, toks := tk } I oI C oC D (LCg.lst ys) SS (fun y news' => IntEl news (g i) y news')) E' { s with heap := h, toks := tk })
    (fin : ∀ ys, IntsAre ys ((List.range n).map g) → Fin ys news) : LCg.CompRest prog w A h₀ L m env elt x scope cl s SS (fun i v => ∃ t, v = .int (0 + (i : Int)) t) Fin n 0 [] news := by
  have key : ∀ (j i : Nat) (ys : List Value), i + j = n → IntsAre ys ((List.range i).map g) → LCg.CompRest prog w A h₀ L m env elt x scope cl s SS (fun i v => ∃ t, v = .int (0 + (i : Int)) t) Fin j i ys news := by
    intro j
    induction j with
    | zero =>
      intro i ys hi hy
      obtain rfl : i = n := by lia
      exact LCg.CompRest.zero (fin ys hy)
    | succ j ih =>
      intro i ys hi hy
      refine LCg.CompRest.succ ?_
      intro v I oI C oC D m₂ h tk E' hv hC hx F N off ne
      obtain ⟨t, e1⟩ := hv
      rw [e1, Int.zero_add] at hx
      refine wpAny_mono (turn i t I oI C oC D m₂ ys h tk E' (by lia) hC hx F N off ne) (fun y s₂ hq => ?_) fun _ _ e => e
      obtain ⟨h', tk', nw, e, F', N', off', hS, hn, t', hy'⟩ := hq
      rw [hn] at N' off' hS
      refine ⟨h', tk', news, e, F', N', off', hS, ?_⟩
      rw [hy']
      refine ih (i + 1) _ (by lia) ?_
      rw [List.range_succ, List.map_append]
      exact hy.append (.cons _ _ .nil)
  exact key n 0 [] (by lia) .nil
end
theorem take_le5 {vs : List Value} {a : Nat} {l : List Int} (_ : IntsAre vs (List.take (min 6 a - 1) l)) : (List.take (min 6 a - 1) l).length ≤ 5 := by
  rw [List.length_take]; exact Nat.le_trans (Nat.min_le_left _ _) (Nat.sub_le_sub_right (Nat.min_le_left 6 a) 1)
section
variable {prog : Program} {w : World} {A : Around} {E : Value → Shared → Prop} {s : Shared} {l : List Nat} {t u : Tok} {Q : Value → Shared → Prop}
theorem add_x (hl : l.length ≤ 999) (h : ∀ t' tk, Q (.str (S (120 :: l)) t') { s with toks := tk }) : wpAny (model prog w) A (binaryOp .Add (.str (Str.ofString "x") t) (.str (S l) u)) Q E s := by
  rw [x_eq]
  exact add_SS (by simp; lia) h
end
noncomputable def cntsF : List Nat → Nat → List Nat
  | [], _ => []
  | x :: r, c => if x = 32 then cntsF r (c + 1) else c :: cntsF r c
noncomputable def kFn (l : List Nat) : Nat := ((List.range 6).filter fun k => k < ((cntsF l 0).filter (k < ·)).length).length
theorem rows_len {q : Int} {kF : List Nat → Nat} {b n i : Nat} {rows : List (Addr × Obj)} (h : RowsAre rows (outT q kF b n i)) : rows.length = b + 2 := h.length.trans (shape_out i).1
theorem led_cut {h₀ h : Heap} {L : Addr} {d a1 a2 a3 a4 c1 c2 c3 c4 : Addr × Obj} {rows : List (Addr × Obj)} (N : News h₀ L h (d :: (rows ++ [a1, a2, a3, a4, c1, c2, c3, c4]))) : News h₀ L h (d :: c1 :: c2 :: c3 :: c4 :: rows) := fun p hp => N p (by
  rcases List.mem_cons.mp hp with rfl | hp
  · exact .head _
  refine .tail _ ?_
  rcases List.mem_cons.mp hp with rfl | hp
  · exact List.mem_append_right _ (.tail _ (.tail _ (.tail _ (.tail _ (.head _)))))
  rcases List.mem_cons.mp hp with rfl | hp
  · exact List.mem_append_right _ (.tail _ (.tail _ (.tail _ (.tail _ (.tail _ (.head _))))))
  rcases List.mem_cons.mp hp with rfl | hp
  · exact List.mem_append_right _ (.tail _ (.tail _ (.tail _ (.tail _ (.tail _ (.tail _ (.head _)))))))
  rcases List.mem_cons.mp hp with rfl | hp
  · exact List.mem_append_right _ (.tail _ (.tail _ (.tail _ (.tail _ (.tail _ (.tail _ (.tail _ (.head _))))))))
  exact List.mem_append_left _ hp)
theorem q_out {q : Int} {kF : List Nat → Nat} {b n i : Nat} {rows : List (Addr × Obj)} (h : RowsAre rows (outT q kF b n i)) : ∃ q0, q = q0 ∧ RowsAre rows (outT q0 kF b n i) := ⟨q, rfl, h⟩
theorem int_el {news : List (Addr × Obj)} {l x : Int} {t : Tok} (e : x = l) : IntEl news l (.int x t) news := ⟨rfl, t, by rw [e]⟩
end
section
open PySem PySem.W PyProof.Rows PySem.Calls PySem.Spec
set_option maxRecDepth 100000
set_option maxHeartbeats 2000000
theorem low_ne : ¬ Txt.lower (S [32]) = Txt.lower (S [9]) := by decide +kernel
theorem low_ne2 : ¬ Txt.lower (S [9]) = Txt.lower (S [32]) := fun h => low_ne h.symm
noncomputable def subD (c d : Nat) : Int := if c = d then 0 else if c = 32 ∧ d = 9 then 2 else if c = 9 ∧ d = 32 then 2 else subC c d
theorem subD_eq (c d : Nat) : subC c d = subD c d := by
  unfold subD
  by_cases h1 : c = d
  · rw [if_pos h1]; unfold subC; rw [if_pos h1]
  · rw [if_neg h1]
    by_cases h2 : c = 32 ∧ d = 9
    · rw [if_pos h2]; obtain ⟨rfl, rfl⟩ := h2; unfold subC; rw [if_neg h1, if_neg low_ne]
    · rw [if_neg h2]
      by_cases h3 : c = 9 ∧ d = 32
      · rw [if_pos h3]; obtain ⟨rfl, rfl⟩ := h3; unfold subC; rw [if_neg h1, if_neg low_ne2]
      · rw [if_neg h3]
noncomputable def inRes' (x : List Nat) (bc : Nat) (row : List Int) (d r : Int) (k : Nat) : Int :=
  if d + subD bc (x.getD k 0) < (if row.getD k 0 < r then row.getD k 0 else r) + 2 then d + subD bc (x.getD k 0) else (if row.getD k 0 < r then row.getD k 0 else r) + 2
theorem inRes_eq : inRes = inRes' := by
  funext x bc row d r k
  unfold inRes inRes'
  rw [subD_eq]
noncomputable def inStep' (x : List Nat) (bc : Nat) (st : List Int × Int × Int × Int) (k : Nat) : List Int × Int × Int × Int :=
  (st.1.set k (inRes' x bc st.1 st.2.1 st.2.2.1 k), st.1.getD k 0, inRes' x bc st.1 st.2.1 st.2.2.1 k, if inRes' x bc st.1 st.2.1 st.2.2.1 k < st.2.2.2 then inRes' x bc st.1 st.2.1 st.2.2.1 k else st.2.2.2)
noncomputable def inF' (x : List Nat) (bc : Nat) (row : List Int) (b : Nat) : Nat → List Int × Int × Int × Int
  | 0 => (row, b * 2, b * 2, 9223372036854775807)
  | k + 1 => inStep' x bc (inF' x bc row b k) k
noncomputable def outF' (x y : List Nat) : Nat → List Int × Int × Int
  | 0 => (row0 x.length, 0, 0)
  | b + 1 => let r := inF' x (y.getD b 0) (outF' x y b).1 b x.length; (r.1, r.2.2.1, r.2.2.2)
theorem inF_eq (x : List Nat) (bc : Nat) (row : List Int) (b : Nat) : ∀ k, inF x bc row b k = inF' x bc row b k
  | 0 => rfl
  | k + 1 => by
    show inStep x bc (inF x bc row b k) k = inStep' x bc (inF' x bc row b k) k
    rw [inF_eq]
    unfold inStep inStep'
    rw [inRes_eq]
theorem outF_eq (x y : List Nat) : ∀ b, outF x y b = outF' x y b
  | 0 => rfl
  | b + 1 => by
    show (let r := inF x (y.getD b 0) (outF x y b).1 b x.length; (r.1, r.2.2.1, r.2.2.2)) = (let r := inF' x (y.getD b 0) (outF' x y b).1 b x.length; (r.1, r.2.2.1, r.2.2.2))
    rw [outF_eq x y b, inF_eq]
/-- common length of two heads -/
noncomputable def cpl : List Nat → List Nat → Nat
  | a :: l, b :: r => if a = b then cpl l r + 1 else 0
  | _, _ => 0
/-- a lead's middle against the straight one's -/
structure Mid where
  p : List Nat
  x : List Nat
  y : List Nat
  r : List Nat
noncomputable def midOf (l g : List Nat) : Mid :=
  let c := cpl l g
  let d := cpl (l.drop c).reverse (g.drop c).reverse
  ⟨l.take c, (l.drop c).take (l.length - c - d), (g.drop c).take (g.length - c - d), (l.drop c).drop (l.length - c - d)⟩
noncomputable def levB (l g : List Nat) (m k : Nat) : Bool :=
  if l = g then decide (k = 0) else
    let M := midOf l g
    decide (l = M.p ++ (M.x ++ M.r)) && decide (g = M.p ++ (M.y ++ M.r)) && decide (M.x.length = M.y.length) && decide (0 < M.x.length) && decide (M.x.getD 0 0 ≠ M.y.getD 0 0) && decide (M.x.getD (M.x.length - 1) 0 ≠ M.y.getD (M.y.length - 1) 0) &&
      (List.range M.x.length).all (fun b => decide ((outF' M.x M.y (b + 1)).2.2 ≤ 4 * (m : Int))) && decide ((outF' M.x M.y M.x.length).2.1 = 4 * (k : Int))
theorem levOK_of {l g r : List Nat} {m k : Nat} {bd : Int} (h : levB l g m k = true) (hl : l.length ≤ 8) (hr : r.length ≤ 5) (hb : 4 * (m : Int) ≤ bd) : LevOK (l ++ 120 :: r) (g ++ 120 :: r) bd (4 * (k : Int)) := by
  unfold levB at h
  by_cases e : l = g
  · rw [if_pos e] at h
    have h := of_decide_eq_true h
    subst e h
    exact .inl ⟨rfl, rfl, by simp; lia⟩
  · rw [if_neg e] at h
    dsimp only at h
    generalize midOf l g = M at h
    simp only [Bool.and_eq_true, decide_eq_true_eq, List.all_eq_true, List.mem_range] at h
    obtain ⟨⟨⟨⟨⟨⟨⟨h1, h2⟩, h3⟩, h4⟩, h5⟩, h6⟩, h7⟩, h8⟩ := h
    refine .inr ⟨M.p, M.x, M.y, M.r ++ 120 :: r, ?_, ?_, ⟨h3, ?_, ?_, h4, h5, ?_, h6⟩, ?_⟩
    · rw [h1]; simp
    · rw [h2]; simp
    · have : l.length = M.p.length + (M.x.length + M.r.length) := by rw [h1]; simp
      simp; lia
    · lia
    · intro b hb2
      rw [outF_eq]
      exact Int.le_trans (h7 b hb2) hb
    · rw [outF_eq]; exact h8
noncomputable def menuL : List (Nat × Nat) := [(3, 2), (2, 2), (4, 2), (2, 3), (4, 1), (1, 3), (5, 1)]
theorem menu_mem {b n : Nat} (h : Menu b n) : (b, n) ∈ menuL := by
  unfold Menu at h
  rcases h with ⟨rfl, rfl⟩ | ⟨rfl, rfl⟩ | ⟨rfl, rfl⟩ | ⟨rfl, rfl⟩ | ⟨rfl, rfl⟩ | ⟨rfl, rfl⟩ | ⟨rfl, rfl⟩ <;> decide
noncomputable def leadsI (prev : Nat → List (List Nat)) (b : Nat) : Nat → List (List Nat)
  | 0 => [List.replicate (b + 1) 32 ++ List.replicate 0 9]
  | t + 1 => (prev (t + 1)).map (32 :: ·) ++ (leadsI prev b t).map (9 :: ·)
noncomputable def leadsG : Nat → Nat → List (List Nat)
  | 0 => fun t => [List.replicate 0 32 ++ List.replicate t 9]
  | b + 1 => leadsI (leadsG b) b
theorem leads_eq : ∀ b n, leadsF b n = leadsG b n
  | 0, t => by simp [leadsF, leadsG]
  | b + 1, 0 => by simp [leadsF, leadsG, leadsI]
  | b + 1, t + 1 => by
    rw [leadsF, leads_eq b (t + 1), leads_eq (b + 1) t]
    rfl
theorem lev_all : ∀ p ∈ menuL, ∀ l ∈ leadsG p.1 p.2, levB l (List.replicate p.2 9 ++ List.replicate p.1 32) (min p.1 p.2) (kFn l) = true := by decide +kernel
theorem kF_all : ∀ p ∈ menuL, ∀ l ∈ leadsG p.1 p.2, kFn l ≤ min p.1 p.2 := by decide +kernel
end
section
open PySem PySem.W PyProof.Rows PySem.Calls PySem.Spec
set_option maxRecDepth 100000
set_option maxHeartbeats 2000000
noncomputable def straightL (b n : Nat) : List Nat := List.replicate n 9 ++ List.replicate b 32
noncomputable def sqB (l : List Nat) (n : Nat) : Bool := (List.range (n + 1)).all fun k => decide (k < ((sqA l).foldl (sqC (k : Int)) []).length) == decide (k < n)
noncomputable def wsB (b n : Nat) (l : List Nat) : Bool := l.all (fun c => decide (c = 32) || decide (c = 9)) && decide ((wsF l (b + n)).cnt.length ≤ 20) && decide (areaF l l.length ≤ 100)
noncomputable def indB (b n : Nat) (l : List Nat) : Bool := (List.range (b + 1)).all fun z => decide (indF (wsF (straightL b n) (b + n)) (z + 1) - indF (wsF l (b + n)) (z + 1) = (restsAll l (z + 1) : Int))
noncomputable def colB (b n : Nat) : Bool := decide ((wsF (straightL b n) (b + n)).cnt.length ≤ 20) && (List.range (b + 1)).all fun z => decide (indF (wsF (straightL b n) (b + n)) (z + 1) = (b : Int) + ((z + 1 : Nat) : Int) * n)
theorem ws_all : ∀ p ∈ menuL, ∀ l ∈ leadsG p.1 p.2, wsB p.1 p.2 l = true := by decide +kernel
theorem col_all : ∀ p ∈ menuL, colB p.1 p.2 = true := by decide +kernel
theorem ind_all : ∀ p ∈ menuL, ∀ l ∈ leadsG p.1 p.2, indB p.1 p.2 l = true := by decide +kernel
theorem sq_all : ∀ p ∈ menuL, ∀ l ∈ leadsG p.1 p.2, sqB l (kFn l) = true := by decide +kernel
theorem wsF_app (l r : List Nat) : ∀ i, i ≤ l.length → wsF (l ++ r) i = wsF l i
  | 0, _ => rfl
  | i + 1, h => by
    show wsStep (wsF (l ++ r) i) ((l ++ r).getD i 0) = wsStep (wsF l i) (l.getD i 0)
    rw [wsF_app l r i (by first | assumption | lia)]
    congr 1
    simp only [List.getD_eq_getElem?_getD]
    rw [List.getElem?_append_left (by first | assumption | lia)]
theorem wsPre_of {l r : List Nat} {k : Nat} (hk : l.length = k) (hl : l.length ≤ 8) (hr : r.length ≤ 5) (h : l.all (fun c => decide (c = 32) || decide (c = 9)) = true) : WsPre (l ++ 120 :: r) k := by
  subst hk
  have e : (l ++ 120 :: r)[l.length]? = some 120 := by simp
  refine ⟨by simp; lia, by simp, fun i hi => ?_, by rw [e]; decide, by rw [e]; decide⟩
  rw [List.getElem?_append_left hi, List.getElem?_eq_getElem hi]
  have := List.all_eq_true.mp h _ (List.getElem_mem hi)
  simp only [Bool.or_eq_true, decide_eq_true_eq] at this
  rcases this with h | h
  · exact .inl (by rw [h])
  · exact .inr (by rw [h])
theorem straight_all (b n : Nat) : (straightL b n).all (fun c => decide (c = 32) || decide (c = 9)) = true := by
  rw [List.all_eq_true]
  intro c hc
  unfold straightL at hc
  rcases List.mem_append.mp hc with h | h
  · simp [(List.mem_replicate.mp h).2]
  · simp [(List.mem_replicate.mp h).2]
theorem leadOK_of {b n : Nat} {r : List Nat} {q bd : Int} (hm : Menu b n) (hr : r.length ≤ 5) (hb : 4 * ((min b n : Nat) : Int) ≤ bd) (l : List Nat) (hl : l ∈ leadsF b n) : LeadOK b n r q bd kFn l := by
  have hbn : b + n ≤ 8 := (menu_le hm).1
  have hll := leads_mem b n l hl
  have hmem := menu_mem hm
  rw [leads_eq] at hl
  have h1 := lev_all _ hmem l hl
  have h2 := ws_all _ hmem l hl
  have h3 := ind_all _ hmem l hl
  have h4 := sq_all _ hmem l hl
  have h5 := kF_all _ hmem l hl
  dsimp only at h1 h2 h3 h4 h5
  unfold wsB at h2
  simp only [Bool.and_eq_true, decide_eq_true_eq] at h2
  obtain ⟨⟨w1, w2⟩, w3⟩ := h2
  have eg : goalF b n r = straightL b n ++ 120 :: r := rfl
  have sl : (straightL b n).length = b + n := by simp [straightL]; lia
  refine ⟨levOK_of h1 (by first | assumption | lia) hr hb, ⟨by first | assumption | lia, fun k hk => ?_⟩, wsPre_of hll (by first | assumption | lia) hr w1, ?_, fun z z1 z2 => ?_, h5, w3⟩
  · unfold sqB at h4
    have := List.all_eq_true.mp h4 k (List.mem_range.mpr (by first | assumption | lia))
    rw [beq_iff_eq] at this
    exact decide_eq_decide.mp this
  · rw [wsF_app l _ _ (by first | assumption | lia)]; exact w2
  · rw [eg, wsF_app l _ _ (by first | assumption | lia), wsF_app (straightL b n) _ _ (by first | assumption | lia)]
    unfold indB at h3
    have := List.all_eq_true.mp h3 (z - 1) (List.mem_range.mpr (by first | assumption | lia))
    rw [decide_eq_true_eq, show z - 1 + 1 = z by first | assumption | lia] at this
    exact this
theorem tabPre_of {b n : Nat} {r : List Nat} {q bd : Int} (hm : Menu b n) (hr : r.length ≤ 5) (hq : Builtin.Int.intBits q ≤ 1000) (hb : 4 * ((min b n : Nat) : Int) ≤ bd) : TabPre b n r q bd kFn := by
  have hbn := menu_le hm
  have eg : goalF b n r = straightL b n ++ 120 :: r := rfl
  have sl : (straightL b n).length = b + n := by simp [straightL]; lia
  have hc := col_all _ (menu_mem hm)
  dsimp only at hc
  unfold colB at hc
  simp only [Bool.and_eq_true, decide_eq_true_eq] at hc
  obtain ⟨c1, c2⟩ := hc
  refine ⟨hbn.2.1, hbn.2.2, hr, ?_, ?_, fun z z1 z2 => ?_, hq, fun l hl => leadOK_of hm hr hb l hl⟩
  · rw [eg]; exact wsPre_of sl (by first | assumption | lia) hr (straight_all b n)
  · rw [eg, wsF_app (straightL b n) _ _ (by first | assumption | lia)]; exact c1
  · rw [eg, wsF_app (straightL b n) _ _ (by first | assumption | lia)]
    have := List.all_eq_true.mp c2 (z - 1) (List.mem_range.mpr (by first | assumption | lia))
    rw [decide_eq_true_eq, show z - 1 + 1 = z by first | assumption | lia] at this
    exact this
end
section
open PySem PySem.W PyProof.Rows PySem.Calls PySem.Spec
set_option maxRecDepth 100000
set_option maxHeartbeats 2000000
/-- a sum of powers, told by its exponents -/
noncomputable def evE (q : Int) : List Nat → Int
  | [] => 0
  | e :: es => q ^ e + evE q es
theorem evE_app (q : Int) : ∀ a b, evE q (a ++ b) = evE q a + evE q b
  | [], b => by simp [evE]
  | e :: a, b => by
    show q ^ e + evE q (a ++ b) = q ^ e + evE q a + evE q b
    rw [evE_app q a b, Int.add_assoc]
theorem evE_shift (q : Int) (c : Nat) : ∀ a, evE q (a.map (c + ·)) = q ^ c * evE q a
  | [] => by simp [evE]
  | e :: a => by
    show q ^ (c + e) + evE q (a.map (c + ·)) = q ^ c * (q ^ e + evE q a)
    rw [evE_shift q c a, Int.pow_add, Int.mul_add]
theorem evE_mul (q : Int) (b : List Nat) : ∀ a : List Nat, evE q (a.flatMap fun x => b.map (x + ·)) = evE q a * evE q b
  | [] => by simp [evE]
  | e :: a => by
    rw [List.flatMap_cons, evE_app, evE_shift, evE_mul q b a]
    show _ = (q ^ e + evE q a) * evE q b
    rw [Int.add_mul]
theorem evE_perm (q : Int) {a b : List Nat} (h : a.Perm b) : evE q a = evE q b := by
  induction h with
  | nil => rfl
  | cons x _ ih => show q ^ x + _ = q ^ x + _; rw [ih]
  | swap x y l => show q ^ y + (q ^ x + _) = q ^ x + (q ^ y + _); lia
  | trans _ _ h1 h2 => exact h1.trans h2
/-- Gauss's binomials by exponents -/
noncomputable def gE (z : Nat) : Nat → Nat → List Nat
  | 0, k => if 0 < k then [] else [0]
  | n + 1, k => if n + 1 < k then [] else if k = 0 ∨ k = n + 1 then [0] else gE z n (k - 1) ++ (gE z n k).map (z * k + ·)
theorem gE_ev (q : Int) (z : Nat) : ∀ n k, evE q (gE z n k) = gaussF (q ^ z) n k
  | 0, k => by
    unfold gE gaussF
    split <;> simp [evE]
  | n + 1, k => by
    unfold gE gaussF
    split
    · rfl
    split
    · simp [evE]
    · rw [evE_app, evE_shift, gE_ev q z n (k - 1), gE_ev q z n k, Int.pow_mul]
noncomputable def dueE (b t z k : Nat) : List Nat := ((gE z (b / z + k - (k + z - 1) / z) k).map (z * ((k + z - 1) / z) * k + ·)).flatMap fun x => (gE z (k / z + t - k) (t - k)).map (x + ·)
theorem dueE_ev (q : Int) (b t z k : Nat) : evE q (dueE b t z k) = dueF b t z k q := by
  unfold dueE dueF
  rw [evE_mul, evE_shift, gE_ev, gE_ev]
noncomputable def evT (q : Int) (tab : List (List (List Nat))) : List (List Int) := tab.map fun row => row.map (evE q)
theorem evT_getD (q : Int) (tab : List (List (List Nat))) (z : Nat) : (evT q tab).getD z [] = (tab.getD z []).map (evE q) := by
  unfold evT
  simp only [List.getD_eq_getElem?_getD, List.getElem?_map]
  cases tab[z]? <;> rfl
theorem row_getD (q : Int) (row : List (List Nat)) (k : Nat) : (row.map (evE q)).getD k 0 = evE q (row.getD k []) := by
  simp only [List.getD_eq_getElem?_getD, List.getElem?_map]
  cases row[k]? <;> rfl
noncomputable def stepE (k a : Nat) (tab : List (List (List Nat))) (z short : Nat) : List (List (List Nat)) := if short = 0 then tab.set z ((tab.getD z []).set k ((tab.getD z []).getD k [] ++ [a])) else tab
theorem stepE_ev (q : Int) (k a : Nat) (tab : List (List (List Nat))) (z sh : Nat) : stepT k (q ^ a) (evT q tab) z sh = evT q (stepE k a tab z sh) := by
  unfold stepT stepE
  by_cases h : sh = 0
  · rw [if_pos h, if_pos h, evT_getD, row_getD]
    unfold evT
    rw [List.map_set, List.map_set, evE_app]
    simp [evE]
  · rw [if_neg h, if_neg h]
noncomputable def inE (k a : Nat) (sh : Nat → Nat) (tab : List (List (List Nat))) : Nat → List (List (List Nat))
  | 0 => tab
  | j + 1 => stepE k a (inE k a sh tab j) (j + 1) (sh (j + 1))
theorem inE_ev (q : Int) (k a : Nat) (sh : Nat → Nat) (tab : List (List (List Nat))) : ∀ j, inT k (q ^ a) sh (evT q tab) j = evT q (inE k a sh tab j)
  | 0 => rfl
  | j + 1 => by
    show stepT k (q ^ a) (inT k (q ^ a) sh (evT q tab) j) (j + 1) (sh (j + 1)) = _
    rw [inE_ev q k a sh tab j, stepE_ev]
    rfl
noncomputable def outE (b n : Nat) (ls : List (List Nat)) : Nat → List (List (List Nat))
  | 0 => List.replicate (b + 2) (List.replicate (min b n + 1) [])
  | i + 1 => inE (kFn (ls.getD i [])) (areaF (ls.getD i []) (ls.getD i []).length) (restsAll (ls.getD i [])) (outE b n ls i) (b + 1)
theorem outE_ev (q : Int) (b n : Nat) : ∀ i, outT q kFn b n i = evT q (outE b n (leadsG b n) i)
  | 0 => by simp [outT, outE, evT, evE]
  | i + 1 => by
    show leadT q kFn b (outT q kFn b n i) ((leadsF b n).getD i []) = _
    rw [outE_ev q b n i, leads_eq]
    unfold leadT
    rw [inE_ev]
    rfl
noncomputable def rowB (b n : Nat) (T : List (List (List Nat))) : Bool := (List.range (b + 1)).all fun z => decide ((T.getD (z + 1) []).length = min b n + 1) && (List.range (min b n + 1)).all fun k => List.isPerm ((T.getD (z + 1) []).getD k []) (dueE b n (z + 1) k)
theorem row_all : ∀ p ∈ menuL, rowB p.1 p.2 (outE p.1 p.2 (leadsG p.1 p.2) (leadsG p.1 p.2).length) = true := by decide +kernel
theorem rowLaw' {b n z : Nat} (hm : Menu b n) (h1 : 1 ≤ z) (h2 : z ≤ b + 1) (q : Int) : (outT q kFn b n (leadsF b n).length).getD z [] = (List.range (min b n + 1)).map fun k => dueF b n z k q := by
  rw [outE_ev, evT_getD, leads_eq]
  have h := row_all _ (menu_mem hm)
  dsimp only at h
  generalize outE b n (leadsG b n) (leadsG b n).length = T at h ⊢
  unfold rowB at h
  have h := List.all_eq_true.mp h (z - 1) (List.mem_range.mpr (by first | assumption | lia))
  rw [show z - 1 + 1 = z by first | assumption | lia] at h
  simp only [Bool.and_eq_true, decide_eq_true_eq] at h
  obtain ⟨hl, hk⟩ := h
  generalize T.getD z [] = row at hl hk ⊢
  refine List.ext_getElem (by simp [hl]) fun k k1 k2 => ?_
  have hk1 : k < min b n + 1 := by simpa using k2
  have hp := List.all_eq_true.mp hk k (List.mem_range.mpr hk1)
  rw [List.getElem_map, List.getElem_map, List.getElem_range, ← dueE_ev, ← evE_perm q (List.isPerm_iff.mp hp)]
  congr 1
  have hk3 : k < row.length := by first | assumption | lia
  simp [List.getD, hk3]
theorem q_bound (T : Int) : (Int.fmod T 2001 - 1000).natAbs ≤ 1000 := by
  have h0 : 0 ≤ Int.fmod T 2001 := Int.fmod_nonneg_of_pos T (by decide)
  have h1 : Int.fmod T 2001 < 2001 := Int.fmod_lt_of_pos T (by decide)
  lia
theorem tabPre' {b n : Nat} {r : List Nat} (hm : Menu b n) (hr : r.length ≤ 5) (T U : Int) : TabPre b n r (Int.fmod T 2001 - 1000) (4 * (if (n : Int) < b then (n : Int) else b) + Int.fmod U 3) kFn := by
  have h0 : 0 ≤ Int.fmod U 3 := Int.fmod_nonneg_of_pos U (by decide)
  have hq := q_bound T
  refine tabPre_of hm hr ?_ ?_
  · exact Nat.le_trans (intBits_le_iff.mpr (by first | assumption | lia) : Builtin.Int.intBits _ ≤ 10) (by decide)
  · split <;> lia
theorem duePre' {b n z k : Nat} (hm : Menu b n) (h1 : 1 ≤ z) (h2 : z ≤ b + 1) (h3 : k < min b n + 1) (T : Int) : DuePre b n z k (Int.fmod T 2001 - 1000) := by
  have hbn := (menu_le hm).2
  exact ⟨h1, by first | assumption | lia, hbn.1, by first | assumption | lia, by first | assumption | lia, by first | assumption | lia, q_bound T⟩
end
section
open PySem PySem.W PyProof.Rows PySem.Calls PySem.Spec
set_option maxRecDepth 100000
set_option maxHeartbeats 8000000
theorem goalx : PySem.Challenge.rw_sw0061_01.Holds := by
  refine hd ?_
  k_with_none
  k_with "pyIter ref" => (k_dflt k_invariant "total" (fun a => 0 ≤ a))
  k_with "subscriptTail" => (refine Hold.out ?_)
  k_with "CompSrc" => (refine Hold.out ?_)
  k_go0; (all_goals try k_fold); k_steps
  refine Hold.mk ?_
  k_with_none
  rename Fr _ _ _ _ => lF0
  obtain ⟨m1, ⟨n1, n2⟩, lF1⟩ := hideM2 (Str.ofString "script") (Str.ofString "total") lF0 rfl rfl
  clear lF0
  try dsimp only
  refine hideTk ?_
  intro tk0
  k_with "eval Name" => (k_dflt ((refine nameX_L (by k_asm) (by assumption) ?_ (by rfl) (by rfl)); k_whole))
  k_with "execs cons" => ((refine hideTk ?_); (intro _); (refine wpAny_execs_cons ?_); (try dsimp only))
  k_with "subscriptTail" => (refine Hold.out ?_)
  k_with "CompSrc" => (refine Hold.out ?_)
  k_with "pyIter ref" => (refine Hold.out ?_)
  k_with "call ref cons nil" => (refine Hold.out ?_)
  rename News _ _ _ _ => lN
  k_dflt (refine idx7 lN (.head _) (.tail _ (.head _)) (.tail _ (.tail _ (.head _))) (.tail _ (.tail _ (.tail _ (.head _)))) (.tail _ (.tail _ (.tail _ (.tail _ (.head _))))) (.tail _ (.tail _ (.tail _ (.tail _ (.tail _ (.head _)))))) (.tail _ (.tail _ (.tail _ (.tail _ (.tail _ (.tail _ (.head _))))))) (.tail _ (.tail _ (.tail _ (.tail _ (.tail _ (.tail _ (.tail _ (.head _)))))))) (fun _ hp => (.tail _ (.tail _ (.tail _ (.tail _ (.tail _ (.tail _ (.tail _ (.tail _ hp))))))))) (Int.fmod_nonneg_of_pos _ (by decide)) (Int.fmod_lt_of_pos _ (by decide)) ?_ (fun rv b n tb tn hmenu hlv N1 => ?_))
  · repeat' first | exact List.forall_mem_nil _ | refine List.forall_mem_cons.mpr ⟨ktn_ltOf (by simp only [AllLt, and_true]; first | assumption | exact And.right (by assumption) | exact And.right (And.right (by assumption)) | exact And.right (And.right (And.right (by assumption))) | exact And.right (And.right (And.right (And.right (by assumption)))) | exact And.right (And.right (And.right (And.right (And.right (by assumption))))) | exact And.right (And.right (And.right (And.right (And.right (And.right (by assumption)))))) | exact And.right (And.right (And.right (And.right (And.right (And.right (And.right (by assumption))))))) | lia), ?_⟩
  k_lt hlv
  clear lN
  k_with "call builtin:str.join" => (refine Hold.out ?_)
  k_with "CompEnd str" => (refine Hold.out ?_)
  k_steps
  refine Hold.mk ?_
  rename IntsAre _ (List.take _ (List.drop 1 _)) => hI1
  have hkl := take_le5 hI1
  k_dflt (refine LCg.CompSrc.ledger (by rfl) (by k_asm) (by k_asm) (by k_mem) (by rw [List.size_toArray, hI1.length, PySem.sizeLine_eq]; lia) ?_)
  intro g1
  refine int_txt_rest (fun k => [tailC k]) hI1 (fun k t I oI C oC D m2 ys h tk E' hC hx F N off ne => ?_) ?_
  · k_with "subscriptTail" => (k_dflt (refine item4 ?_))
    k_steps
    refine Hold.mk ?_
    k_dflt (refine LCg.CompEnd.intro (by assumption) (by assumption) _ (fun _ h => h) off (.inr ⟨_, .head _, rfl, _, rfl⟩) (txt_el rfl))
  · intro ys hys
    k_with "binaryOp Add str str" => ((with_reducible (refine add_x (by rw [List.length_map]; lia) ?_)); intro _ _)
    k_steps
    refine Hold.mk ?_
    rename News _ _ _ _ => lN
    k_dflt (refine KT.join_1 (g := fun k => S [tailC k]) (isList_head lN) (carried_of hys) (fun _ _ => rfl) (by lia) (fun t9 k9 _ => ?_))
    rw [join_tail]
    try dsimp only
    try k_fold
    k_steps
    refine Hold.mk ?_
    rename World => w0
    rename Frag.In _ _ => hIn
    rename Top _ _ _ _ _ _ => hTop
    rename Below _ _ _ _ => hB
    rename Fr _ _ _ _ => lF
    rename News _ _ _ _ => lN
    k_dflt (refine' table_cl w0 _ _ _ _ b n _ _ _ kFn _ _ _ _ _ _ _ _ _ _ _ _ _ _ _ _ _ _ _ _ _ _ ?h1 ?h2 ?h3 ?h4 ?h5 ?h6 ?h7 ?h8 ?h9 ?h10)
    case h2 => exact lF
    case h3 => exact hIn
    case h4 => exact lN
    case h5 => exact hTop
    case h1 => exact hB
    case h6 => first | exact rfl | assumption
    case h7 => exact (tabPre' hmenu (by rw [List.length_map]; exact hkl) _ _)
    case h8 => cb_room
    case h9 => cb_units
    k_with "compareOp Eq ref ref" => (refine Hold.out ?_)
    k_with "compareOp NotEq ref ref" => (refine Hold.out ?_)
    repeat (rename Fr _ _ _ _ => zz; clear zz)
    repeat (rename News _ _ _ _ => zz; clear zz)
    intro D9 rows h9 tk9 F8 hrows hapD N9
    obtain ⟨m2, F9⟩ := hideM0 F8
    clear F8 n1 n2
    have N10 := led_cut N9
    obtain ⟨q0, hq0, hrows⟩ := q_out hrows
    obtain ⟨hszD, hszR⟩ := hapD _ (.tail _ (.tail _ (.tail _ (.tail _ (.head _)))))
    obtain ⟨hb5, hn3⟩ := (menu_le hmenu).2
    clear N9 hapD
    repeat (rename @LT.lt Nat _ _ _ ∧ _ => zz; clear zz)
    repeat (rename @Ne Nat _ _ ∧ _ => zz; clear zz)
    repeat (rename @Ne Addr _ _ ∧ _ => zz; clear zz)
    repeat (rename LT.lt _ _ ∧ _ => zz; clear zz)
    try dsimp only
    try k_fold
    k_with "exec For Name Call cons nil" => (k_dflt (refine wpAny_For ?_ (by intro _; rfl)))
    k_steps
    refine Hold.mk ?_
    rename News _ _ _ _ => lN
    have hrl := rows_len hrows
    k_dflt (refine' SeqAt.eq_list_lengthsAt (items := (refsOf rows).toArray) (items2 := #[]) ?z1 ?z2 ?z3 ?z4 ?z5)
    case z1 => exact isList_mem lN ⟨_, .tail _ (.head _), rfl, _, rfl⟩
    case z2 => exact ⟨_, (lN _ (.head _)).1, rfl, _, rfl⟩
    case z3 =>
      rw [List.size_toArray, refsOf, List.length_map, hrl]; rfl
    case z4 => ke_room
    k_steps
    refine Hold.mk ?_
    rename IsRange _ _ _ _ _ _ _ _ => rgX
    rename Fr _ _ _ _ => lF
    rename News _ _ _ _ => lN
    rename _ ∧ _ ∧ _ ∧ _ ∧ _ ∧ AllLt _ rows => ltX
    k_with "subscriptTail Name Name ref int" => (refine Hold.out ?_)
    k_with "CompEnd int" => (refine Hold.out ?_)
    k_dflt (refine' iterR_cell (own := [_, _]) (rest := _ :: _ :: _ :: rows) (n := b + 1) rfl rgX ?g1 ?g2 lF lN (by assumption) ?g3 ?g4 rfl rfl rfl ?g5 ?g6 (by passes_own))
    case g1 => exact small_one (by lia) (by lia) (by lia) (by lia)
    case g2 => rw [rangeSize_nat]; exact rg1 b
    case g3 =>
      refine List.forall_mem_cons.mpr ⟨?_, List.forall_mem_cons.mpr ⟨Ne.symm hszD, List.forall_mem_nil _⟩⟩
      exact Ne.symm (Nat.ne_of_lt ltX.2.1)
    case g4 =>
      refine List.forall_mem_cons.mpr ⟨Nat.ne_of_lt (by lia), List.forall_mem_cons.mpr ⟨Nat.ne_of_lt (by lia), List.forall_mem_cons.mpr ⟨Nat.ne_of_lt (by lia), fun p hp => Ne.symm (hszR p hp)⟩⟩⟩
    case g5 =>
      intro i z t h tk I oI o hi hz hd F7 N7
      clear lF lN rgX
      refine hideQ ?_
      intro QQ hQQ
      obtain rfl : z = ((i + 1 : Nat) : Int) := by lia
      simp only [List.cons_append, List.nil_append] at N7
      obtain ⟨d, hd9⟩ : ∃ d, (rows.map Prod.fst)[i + 1]? = some d := ⟨_, List.getElem?_eq_getElem (by rw [List.length_map]; lia)⟩
      obtain ⟨pre, o9, post, vs, he, hpl, hob, hin, _⟩ := RowsAre.split hrows (z := i + 1) (d := d) hd9
      have hdm : (d, o9) ∈ rows := by rw [he]; simp
      k_steps
      refine Hold.mk ?_
      rename News _ _ _ _ => lN
      have hat := refs_at hd9
      have hfit : (((i + 1 : Nat)) : Int) < 2 ^ 63 := get_fit hat (by rw [refsOf, List.length_map]; lia)
      k_dflt (refine' item_list (isList_mem (ys := refsOf rows) lN ⟨_, .tail _ (.tail _ (.head _)), rfl, _, rfl⟩) (Int.ofNat_nonneg _) hfit (x := .ref d) ?f1 ?f2)
      case f1 => simpa using hat
      k_steps
      refine Hold.mk ?_
      k_dflt (refine' LCg.CompSrc.range (n := min b n + 1) (by rfl) (by k_asm) (by k_asm) (by assumption) (small_one (by lia) (by lia) (by lia) (by lia)) (by rw [rangeSize_nat]; exact rgm b n) (by rw [PySem.sizeLine_eq]; lia) ?_)
      intro g1
      refine range_int_rest (fun k => dueF b n (i + 1) k q0) (fun k t I oI C oC D m2 ys h tk E' hk hC hx F N off ne => ?_) ?_
      · k_steps
        refine Hold.mk ?_
        rename Frag.In _ _ => hIn
        rename Top _ _ _ _ _ _ => hTop
        rename Below _ _ _ _ => hB
        rename Fr _ _ _ _ => lF
        rename News _ _ _ _ => lN
        k_dflt (refine' due_cl w0 _ _ _ _ b n (i + 1) k _ _ _ _ _ _ _ _ _ _ _ _ _ _ _ _ _ _ _ _ _ _ _ ?e1 ?e2 ?e3 ?e4 ?e5 ?e6 ?e7 ?e8 ?e9 ?e10)
        case e2 => exact lF
        case e3 => exact hIn
        case e4 => exact lN
        case e5 => exact hTop
        case e1 => exact hB
        case e6 => first | exact rfl | assumption
        case e7 => exact duePre' hmenu (by lia) (by lia) hk _
        case e8 => cb_room
        case e9 => cb_units
        intro t9 h9 tk9 F9 N9
        try dsimp only
        try k_fold
        k_steps
        refine Hold.mk ?_
        k_dflt (refine LCg.CompEnd.intro (by assumption) (by assumption) _ (fun _ h => h) off trivial (int_el (by rw [hq0])))
      · intro ys hys
        k_steps
        refine Hold.mk ?_
        rename News _ _ _ _ => lN
        rw [rowLaw' hmenu (by lia) (by lia) q0] at hin
        k_dflt (refine' ke_ne_ints (xs := vs) (ys := ys) ?v1 ?v2 hin hys ?v3 ?v4)
        case v1 => exact isList_mem lN ⟨o9, .tail _ (.tail _ (.tail _ (.tail _ (.tail _ (.tail _ (.tail _ (.tail _ hdm))))))), hob⟩
        case v2 => exact isList_mem lN ⟨_, .head _, rfl, _, rfl⟩
        case v3 => ke_room
        simp only [decide_true, Bool.not_true]
        k_steps
        subst QQ
        exact ⟨rfl, _, _, rfl, by k_asm, fun p hp => lN p (.tail _ hp)⟩
    case g6 =>
      intro h tk o F7 N7
      clear lF lN rgX
      simp only [List.cons_append, List.nil_append] at N7
      k_steps
end
end Mine
end
theorem PySem.Challenge.cw_sw0061_01_holds : PySem.Challenge.rw_sw0061_01.Holds := by
  exact Mine.goalx
