import PyProof.Rows.All
import Wide.All
import OpenK.AllK
import Wide.FinOn
import KE.LcTurns
import KE.KBytesWalk
import KE.KRevSl
import PySem.Challenge.RW_wy0017_01
set_option Elab.async false
set_option rowWalk.seconds 0
set_option linter.unusedVariables false
set_option linter.unusedSimpArgs false
section
open PySem PySem.W PySem.Calls PyProof.Rows
set_option linter.unusedVariables false
namespace Mine
noncomputable def fewStep (number : Int) (st : Int × Int) (k : Int) : Int × Int :=
  if Int.fmod (Int.fdiv number (2 ^ k.toNat)) 2 = 0 then (st.1, 1 + min st.1 st.2) else (1 + min st.1 st.2, st.2)
noncomputable def fewest (n : Int) : Int := ((downKs 20 21).foldl (fewStep n) (0, 1)).1
theorem min_if (h a : Int) : min h a = if a < h then a else h := by omega
theorem few_a {n h a k : Int} {pre : List Int} (hI : (h, a) = pre.foldl (fewStep n) (0, 1)) (hc : Int.fmod (Int.fdiv n (2 ^ k.toNat)) 2 = 0) :
    (h, 1 + (if a < h then a else h)) = (pre ++ [k]).foldl (fewStep n) (0, 1) := by
  rw [List.foldl_append, ← hI]
  simp only [List.foldl_cons, List.foldl_nil, fewStep, if_pos hc]
  rw [min_if]
theorem few_b {n h a k : Int} {pre : List Int} (hI : (h, a) = pre.foldl (fewStep n) (0, 1)) (hc : Int.fmod (Int.fdiv n (2 ^ k.toNat)) 2 ≠ 0) :
    (1 + (if a < h then a else h), a) = (pre ++ [k]).foldl (fewStep n) (0, 1) := by
  rw [List.foldl_append, ← hI]
  simp only [List.foldl_cons, List.foldl_nil, fewStep, if_neg hc]
  rw [min_if]

noncomputable def apGo : Nat → Nat → List UInt8
  | 0, _ => []
  | f + 1, n => if n = 0 then [] else apGo f (n / 16) ++ [UInt8.ofNat (65 + n % 16)]
noncomputable def ap (n : Nat) : List UInt8 := apGo n n

abbrev tupO (vs : List Value) (n : Nat) : Obj := { cls := .type "tuple", data := .seq vs.toArray n }

noncomputable def BisL (kv : Int → Int) (x lo hi r : Int) : Prop := lo ≤ r ∧ r ≤ hi ∧ (∀ j, lo ≤ j → j < r → kv j < x) ∧ (∀ j, r ≤ j → j < hi → x ≤ kv j)
noncomputable def BisR (kv : Int → Int) (x lo hi r : Int) : Prop := lo ≤ r ∧ r ≤ hi ∧ (∀ j, lo ≤ j → j < r → kv j ≤ x) ∧ (∀ j, r ≤ j → j < hi → x < kv j)
noncomputable def Mono (kv : Int → Int) (n : Int) : Prop := ∀ i j, 0 ≤ i → i ≤ j → j < n → kv i ≤ kv j

noncomputable def BisLI (kv : Int → Int) (x lo₀ hi₀ lo hi : Int) : Prop := lo₀ ≤ lo ∧ lo ≤ hi ∧ hi ≤ hi₀ ∧ (∀ j, lo₀ ≤ j → j < lo → kv j < x) ∧ (∀ j, hi ≤ j → j < hi₀ → x ≤ kv j)
noncomputable def BisRI (kv : Int → Int) (x lo₀ hi₀ lo hi : Int) : Prop := lo₀ ≤ lo ∧ lo ≤ hi ∧ hi ≤ hi₀ ∧ (∀ j, lo₀ ≤ j → j < lo → kv j ≤ x) ∧ (∀ j, hi ≤ j → j < hi₀ → x < kv j)
theorem mid_in {lo hi : Int} (h : lo < hi) : lo ≤ Int.fdiv (lo + hi) 2 ∧ Int.fdiv (lo + hi) 2 < hi := by
  rw [Int.fdiv_eq_ediv_of_nonneg _ (by decide)]; omega
theorem bisLI_start (kv : Int → Int) (x : Int) {lo hi : Int} (h : lo ≤ hi) : BisLI kv x lo hi lo hi := ⟨Int.le_refl _, h, Int.le_refl _, fun j a b => by omega, fun j a b => by omega⟩
theorem bisRI_start (kv : Int → Int) (x : Int) {lo hi : Int} (h : lo ≤ hi) : BisRI kv x lo hi lo hi := ⟨Int.le_refl _, h, Int.le_refl _, fun j a b => by omega, fun j a b => by omega⟩
theorem bisLI_up {kv : Int → Int} {n x lo₀ hi₀ lo hi : Int} (M : Mono kv n) (h0 : 0 ≤ lo₀) (hn : hi₀ ≤ n) (I : BisLI kv x lo₀ hi₀ lo hi) (h : lo < hi) (hk : kv (Int.fdiv (lo + hi) 2) < x) : BisLI kv x lo₀ hi₀ (Int.fdiv (lo + hi) 2 + 1) hi := by
  obtain ⟨a, b, c, d, e⟩ := I
  have hm := mid_in h
  exact ⟨by omega, by omega, c, fun j h1 h2 => by have := M j (Int.fdiv (lo + hi) 2) (by omega) (by omega) (by omega); omega, e⟩
theorem bisLI_dn {kv : Int → Int} {n x lo₀ hi₀ lo hi : Int} (M : Mono kv n) (h0 : 0 ≤ lo₀) (hn : hi₀ ≤ n) (I : BisLI kv x lo₀ hi₀ lo hi) (h : lo < hi) (hk : ¬ kv (Int.fdiv (lo + hi) 2) < x) : BisLI kv x lo₀ hi₀ lo (Int.fdiv (lo + hi) 2) := by
  obtain ⟨a, b, c, d, e⟩ := I
  have hm := mid_in h
  exact ⟨a, by omega, by omega, d, fun j h1 h2 => by have := M (Int.fdiv (lo + hi) 2) j (by omega) (by omega) (by omega); omega⟩
theorem bisRI_up {kv : Int → Int} {n x lo₀ hi₀ lo hi : Int} (M : Mono kv n) (h0 : 0 ≤ lo₀) (hn : hi₀ ≤ n) (I : BisRI kv x lo₀ hi₀ lo hi) (h : lo < hi) (hk : ¬ x < kv (Int.fdiv (lo + hi) 2)) : BisRI kv x lo₀ hi₀ (Int.fdiv (lo + hi) 2 + 1) hi := by
  obtain ⟨a, b, c, d, e⟩ := I
  have hm := mid_in h
  exact ⟨by omega, by omega, c, fun j h1 h2 => by have := M j (Int.fdiv (lo + hi) 2) (by omega) (by omega) (by omega); omega, e⟩
theorem bisRI_dn {kv : Int → Int} {n x lo₀ hi₀ lo hi : Int} (M : Mono kv n) (h0 : 0 ≤ lo₀) (hn : hi₀ ≤ n) (I : BisRI kv x lo₀ hi₀ lo hi) (h : lo < hi) (hk : x < kv (Int.fdiv (lo + hi) 2)) : BisRI kv x lo₀ hi₀ lo (Int.fdiv (lo + hi) 2) := by
  obtain ⟨a, b, c, d, e⟩ := I
  have hm := mid_in h
  exact ⟨a, by omega, by omega, d, fun j h1 h2 => by have := M (Int.fdiv (lo + hi) 2) j (by omega) (by omega) (by omega); omega⟩
theorem bisL_of {kv : Int → Int} {x lo₀ hi₀ lo hi : Int} (I : BisLI kv x lo₀ hi₀ lo hi) (h : ¬ lo < hi) : BisL kv x lo₀ hi₀ lo := by
  obtain ⟨a, b, c, d, e⟩ := I
  exact ⟨a, by omega, d, fun j h1 h2 => e j (by omega) h2⟩
theorem bisR_of {kv : Int → Int} {x lo₀ hi₀ lo hi : Int} (I : BisRI kv x lo₀ hi₀ lo hi) (h : ¬ lo < hi) : BisR kv x lo₀ hi₀ lo := by
  obtain ⟨a, b, c, d, e⟩ := I
  exact ⟨a, by omega, d, fun j h1 h2 => e j (by omega) h2⟩
end Mine
namespace Mine
theorem bis_item {vs : List Value} {ks : List Int} {kv : Int → Int} {x lo₀ hi₀ lo hi : Int} (hia : IntsAre vs ks) (I : BisLI kv x lo₀ hi₀ lo hi) (h : lo < hi) (h0 : 0 ≤ lo₀) (hn : hi₀ ≤ vs.length) :
    ∃ t, vs[(Int.fdiv (lo + hi) 2).toNat]? = some (.int (ks.getD (Int.fdiv (lo + hi) 2).toNat 0) t) := by
  obtain ⟨a, b, c, d, e⟩ := I
  have hm := mid_in h
  have hl := hia.length
  refine hia.get _ _ ?_
  rw [List.getD_eq_getElem?_getD, List.getElem?_eq_getElem (by omega)]
  rfl
theorem bisR_item {vs : List Value} {ks : List Int} {kv : Int → Int} {x lo₀ hi₀ lo hi : Int} (hia : IntsAre vs ks) (I : BisRI kv x lo₀ hi₀ lo hi) (h : lo < hi) (h0 : 0 ≤ lo₀) (hn : hi₀ ≤ vs.length) :
    ∃ t, vs[(Int.fdiv (lo + hi) 2).toNat]? = some (.int (ks.getD (Int.fdiv (lo + hi) 2).toNat 0) t) := by
  obtain ⟨a, b, c, d, e⟩ := I
  have hm := mid_in h
  have hl := hia.length
  refine hia.get _ _ ?_
  rw [List.getD_eq_getElem?_getD, List.getElem?_eq_getElem (by omega)]
  rfl
theorem bis_bnd {kv : Int → Int} {x lo₀ hi₀ lo hi : Int} {n : Nat} (I : BisLI kv x lo₀ hi₀ lo hi) (h : lo < hi) (h0 : 0 ≤ lo₀) (hn : hi₀ ≤ n) (hl : n < 1000) : 0 ≤ Int.fdiv (lo + hi) 2 ∧ Int.fdiv (lo + hi) 2 < 2 ^ 63 ∧ Int.fdiv (lo + hi) 2 < n := by
  obtain ⟨a, b, c, d, e⟩ := I
  have hm := mid_in h
  omega
theorem bisR_bnd {kv : Int → Int} {x lo₀ hi₀ lo hi : Int} {n : Nat} (I : BisRI kv x lo₀ hi₀ lo hi) (h : lo < hi) (h0 : 0 ≤ lo₀) (hn : hi₀ ≤ n) (hl : n < 1000) : 0 ≤ Int.fdiv (lo + hi) 2 ∧ Int.fdiv (lo + hi) 2 < 2 ^ 63 ∧ Int.fdiv (lo + hi) 2 < n := by
  obtain ⟨a, b, c, d, e⟩ := I
  have hm := mid_in h
  omega
theorem getD_all {ks : List Int} {P : Int → Prop} (h : ∀ k ∈ ks, P k) {i : Nat} (hi : i < ks.length) : P (ks.getD i 0) := by
  rw [List.getD_eq_getElem?_getD, List.getElem?_eq_getElem hi]
  exact h _ (List.getElem_mem hi)
theorem item_n {prog : Program} {w : World} {A : Around} {E : Value → Shared → Prop} {s : Shared} {h₀ : Heap} {L : Addr} {news : List (Addr × Obj)} {value slice : PySem.Expr} {l : Addr} {n : Nat} {vs : List Value} {k : Int} {u : Tok} {v : Value} {Q : Value → Shared → Prop}
    (N : News h₀ L s.heap news) (hm : (l, listOf vs.toArray n) ∈ news) (h0 : 0 ≤ k) (hhi : k < 2 ^ 63) (hx : vs[k.toNat]? = some v) (h : Q v s)
    (hs : subscripted slice false (.ref l) (.int k u) = operate [.ref l, .int k u] (getItem (.ref l) (.int k u)) := by with_unfolding_all rfl) :
    wpAny (model prog w) A (subscriptTail value slice (.ref l) (.int k u)) Q E s :=
  have hl : s.heap.IsList l vs.toArray := ⟨_, (N _ hm).1, rfl, n, rfl⟩
  tail_any hl.typeIs slot_list_getitem.lookup (wpAny_getItem_list hl h0 hhi (by simpa using hx) h) hs
end Mine
namespace Mine
theorem bis_in {vs : List Value} {ks : List Int} {P : Int → Prop} {kv : Int → Int} {x lo₀ hi₀ lo hi : Int} (hia : IntsAre vs ks) (hks : ∀ k ∈ ks, P k) (I : BisLI kv x lo₀ hi₀ lo hi) (h : lo < hi) (h0 : 0 ≤ lo₀) (hn : hi₀ ≤ vs.length) :
    P (ks.getD (Int.fdiv (lo + hi) 2).toNat 0) := by
  obtain ⟨a, b, c, d, e⟩ := I
  have hm := mid_in h
  have hl := hia.length
  exact getD_all hks (by omega)
theorem bisR_in {vs : List Value} {ks : List Int} {P : Int → Prop} {kv : Int → Int} {x lo₀ hi₀ lo hi : Int} (hia : IntsAre vs ks) (hks : ∀ k ∈ ks, P k) (I : BisRI kv x lo₀ hi₀ lo hi) (h : lo < hi) (h0 : 0 ≤ lo₀) (hn : hi₀ ≤ vs.length) :
    P (ks.getD (Int.fdiv (lo + hi) 2).toNat 0) := by
  obtain ⟨a, b, c, d, e⟩ := I
  have hm := mid_in h
  have hl := hia.length
  exact getD_all hks (by omega)
end Mine
namespace Mine
theorem meas_up {lo hi : Int} (h : lo < hi) : (hi - (Int.fdiv (lo + hi) 2 + 1)).toNat < (hi - lo).toNat := by have := mid_in h; omega
theorem meas_dn {lo hi : Int} (h : lo < hi) : (Int.fdiv (lo + hi) 2 - lo).toNat < (hi - lo).toNat := by have := mid_in h; omega
end Mine
namespace Mine
noncomputable def kvP (ks : List Int) (j : Int) : Int := 2 ^ (ks.getD j.toNat 0).toNat
noncomputable def kvS (ts : List (Int × Int)) (j : Int) : Int := ((ts.getD j.toNat (0, 0)).1.natAbs : Int)
noncomputable def RowIs (news : List (Addr × Obj)) (vs : List Value) (ts : List (Int × Int)) : Prop :=
  vs.length = ts.length ∧ ∀ (i : Nat) (t : Int × Int), ts[i]? = some t → ∃ (a : Addr) (n : Nat) (u₁ u₂ : Tok), vs[i]? = some (Value.ref a) ∧ ((a, tupO [.int t.1 u₁, .int t.2 u₂] n) : Addr × Obj) ∈ news
theorem row_item {news : List (Addr × Obj)} {vs : List Value} {ts : List (Int × Int)} {kv : Int → Int} {x lo₀ hi₀ lo hi : Int} (hr : RowIs news vs ts) (I : BisLI kv x lo₀ hi₀ lo hi) (h : lo < hi) (h0 : 0 ≤ lo₀) (hn : hi₀ ≤ vs.length) :
    ∃ (a : Addr) (n : Nat) (u₁ u₂ : Tok), vs[(Int.fdiv (lo + hi) 2).toNat]? = some (Value.ref a) ∧ (a, tupO [.int (ts.getD (Int.fdiv (lo + hi) 2).toNat (0, 0)).1 u₁, .int (ts.getD (Int.fdiv (lo + hi) 2).toNat (0, 0)).2 u₂] n) ∈ news := by
  obtain ⟨a, b, c, d, e⟩ := I
  have hm := mid_in h
  obtain ⟨hl, hr⟩ := hr
  refine hr _ _ ?_
  rw [List.getD_eq_getElem?_getD, List.getElem?_eq_getElem (by omega)]
  rfl
theorem rowR_item {news : List (Addr × Obj)} {vs : List Value} {ts : List (Int × Int)} {kv : Int → Int} {x lo₀ hi₀ lo hi : Int} (hr : RowIs news vs ts) (I : BisRI kv x lo₀ hi₀ lo hi) (h : lo < hi) (h0 : 0 ≤ lo₀) (hn : hi₀ ≤ vs.length) :
    ∃ (a : Addr) (n : Nat) (u₁ u₂ : Tok), vs[(Int.fdiv (lo + hi) 2).toNat]? = some (Value.ref a) ∧ (a, tupO [.int (ts.getD (Int.fdiv (lo + hi) 2).toNat (0, 0)).1 u₁, .int (ts.getD (Int.fdiv (lo + hi) 2).toNat (0, 0)).2 u₂] n) ∈ news := by
  obtain ⟨a, b, c, d, e⟩ := I
  have hm := mid_in h
  obtain ⟨hl, hr⟩ := hr
  refine hr _ _ ?_
  rw [List.getD_eq_getElem?_getD, List.getElem?_eq_getElem (by omega)]
  rfl
end Mine
namespace Mine
theorem one_pair {α β : Type} {l : List (α × β)} {a : α} {r : List α} {P : Prop} (h : l.map Prod.fst = a :: r) (k : ∀ p l', l = (a, p) :: l' → l'.map Prod.fst = r → P) : P := by
  cases l with
  | nil => cases h
  | cons x l' =>
    injection h with h1 h2
    subst h1
    exact k x.2 l' rfl h2
theorem five_pairs {α β : Type} {l : List (α × β)} {a b c d e : α} (h : l.map Prod.fst = [a, b, c, d, e]) : ∃ p1 p2 p3 p4 p5, l = [(a, p1), (b, p2), (c, p3), (d, p4), (e, p5)] :=
  one_pair h fun p1 _ e1 h => one_pair h fun p2 _ e2 h => one_pair h fun p3 _ e3 h => one_pair h fun p4 _ e4 h => one_pair h fun p5 _ e5 h =>
    ⟨p1, p2, p3, p4, p5, by rw [e1, e2, e3, e4, e5, List.map_eq_nil_iff.mp h]⟩
theorem tup_at {prog : Program} {w : World} {A : Around} {E : Value → Shared → Prop} {s : Shared} {h₀ : Heap} {L : Addr} {news : List (Addr × Obj)} {value slice : PySem.Expr} {l : Addr} {n : Nat} {vs : List Value} {k : Int} {u : Tok} {v : Value} {Q : Value → Shared → Prop}
    (N : News h₀ L s.heap news) (hm : (l, tupO vs n) ∈ news) {j : Nat} (hlo : -(2 ^ 63) ≤ k) (hhi : k < 2 ^ 63) (hk : seqIndex? k vs.length = some j) (hx : vs[j]? = some v) (h : Q v s)
    (hs : subscripted slice false (.ref l) (.int k u) = operate [.ref l, .int k u] (getItem (.ref l) (.int k u)) := by with_unfolding_all rfl) :
    wpAny (model prog w) A (subscriptTail value slice (.ref l) (.int k u)) Q E s :=
  have hl : IsTup s.heap l vs.toArray := ⟨_, (N _ hm).1, rfl, n, rfl⟩
  tail_any hl.typeIs slot_tuple_getitem.lookup (getItem_tuple hl hlo hhi (by simpa using hk) (by simpa using hx) h) hs
end Mine
namespace Mine
theorem drop_2nd {α : Type} {a b : α} {l : List α} : ∀ p ∈ a :: l, p ∈ a :: b :: l := fun p hp => by
  rcases List.mem_cons.mp hp with rfl | h
  · exact .head _
  · exact .tail _ (.tail _ h)
end Mine
namespace Mine
theorem apGo_fuel : ∀ (f g n : Nat), n ≤ f → n ≤ g → apGo f n = apGo g n
  | 0, 0, _, _, _ => rfl
  | 0, g + 1, n, h, _ => by
    have : n = 0 := by omega
    subst this; simp [apGo]
  | f + 1, 0, n, _, h => by
    have : n = 0 := by omega
    subst this; simp [apGo]
  | f + 1, g + 1, n, h1, h2 => by
    unfold apGo
    by_cases h : n = 0
    · rw [if_pos h, if_pos h]
    · rw [if_neg h, if_neg h, apGo_fuel f g (n / 16) (by omega) (by omega)]
theorem ap_zero : ap 0 = [] := rfl
theorem ap_step {n : Nat} (h : n ≠ 0) : ap n = ap (n / 16) ++ [UInt8.ofNat (65 + n % 16)] := by
  unfold ap
  obtain ⟨k, rfl⟩ : ∃ k, n = k + 1 := ⟨n - 1, by omega⟩
  rw [apGo, if_neg h, apGo_fuel k ((k + 1) / 16) ((k + 1) / 16) (by omega) (Nat.le_refl _)]
theorem ap_len : ∀ (k n : Nat), n < 16 ^ k → (ap n).length ≤ k
  | 0, n, h => by
    have : n = 0 := by simpa using h
    subst this; exact Nat.le_refl _
  | k + 1, n, h => by
    by_cases h0 : n = 0
    · subst h0; exact Nat.zero_le _
    · rw [ap_step h0, List.length_append]
      have := ap_len k (n / 16) (by rw [Nat.div_lt_iff_lt_mul (by decide)]; rw [Nat.pow_succ] at h; exact h)
      simp only [List.length_cons, List.length_nil]; omega
noncomputable def ApI (i num : Int) (val : Array UInt8) : Prop := 0 ≤ num ∧ val.size ≤ 8 ∧ ap num.toNat ++ val.toList = ap i.natAbs ∧ i.natAbs < 2 ^ 30
theorem apI_start {i : Int} (h : i.natAbs < 2 ^ 30) : ApI i (if i < 0 then -i else i) #[] := by
  refine ⟨by split <;> omega, by simp, ?_, h⟩
  have e : (if i < 0 then -i else i).toNat = i.natAbs := by split <;> omega
  rw [e]; simp
theorem apI_end {i num : Int} {val : Array UInt8} (h : ApI i num val) (h0 : num = 0) : val = (ap i.natAbs).toArray := by
  obtain ⟨_, _, h, _⟩ := h
  subst h0
  rw [← h]
  simp [ap_zero]
theorem apI_room {i num : Int} {val : Array UInt8} (h : ApI i num val) (h0 : num ≠ 0) : val.size ≤ 7 := by
  obtain ⟨h1, _, h, hb⟩ := h
  have hl := ap_len 8 i.natAbs (by omega)
  rw [← h, ap_step (show num.toNat ≠ 0 by omega), List.length_append, List.length_append] at hl
  simp only [List.length_cons, List.length_nil, Array.length_toList] at hl
  omega
theorem apI_turn {i num : Int} {val : Array UInt8} (h : ApI i num val) (h0 : num ≠ 0) : ApI i (Int.fdiv num 16) (#[UInt8.ofNat (65 + (Int.fmod num 16).toNat)] ++ val) := by
  have hr := apI_room h h0
  obtain ⟨h1, h2, h, hb⟩ := h
  have e1 : Int.fdiv num 16 = num / 16 := Int.fdiv_eq_ediv_of_nonneg _ (by decide)
  have e2 : Int.fmod num 16 = num % 16 := Int.fmod_eq_emod_of_nonneg _ (by decide)
  refine ⟨by rw [e1]; omega, by rw [Array.size_append]; show 1 + val.size ≤ 8; omega, ?_, hb⟩
  obtain ⟨q, rfl⟩ := Int.eq_ofNat_of_zero_le h1
  have e3 : ((q : Int) / 16).toNat = (q : Int).toNat / 16 := rfl
  have e4 : ((q : Int) % 16).toNat = (q : Int).toNat % 16 := rfl
  rw [← h, ap_step (show (q : Int).toNat ≠ 0 from fun e => h0 (by rw [Int.toNat_natCast] at e; rw [e]; rfl)), e1, e2]
  rw [e3, e4, Array.toList_append, List.append_assoc]
theorem apI_meas {i num : Int} {val : Array UInt8} (h : ApI i num val) (h0 : num ≠ 0) : (Int.fdiv num 16).toNat < num.toNat := by
  obtain ⟨h1, _⟩ := h
  obtain ⟨q, rfl⟩ := Int.eq_ofNat_of_zero_le h1
  rw [Int.fdiv_eq_ediv_of_nonneg _ (by decide)]
  exact Nat.div_lt_self (Nat.pos_of_ne_zero fun e => h0 (by rw [e]; rfl)) (by decide)
end Mine
end
section
open PySem PySem.W PySem.Calls PyProof.Rows
set_option Elab.async false
set_option maxRecDepth 100000
set_option linter.unusedVariables false
namespace Mine
noncomputable def figsOf (l : List UInt8) : List Int := l.flatMap fun c => (List.range 4).map fun k => Int.fmod (Int.fdiv ((c.toNat : Int) - 65) (2 ^ k)) 2
theorem fig_take {l : List UInt8} {i : Nat} {c : UInt8} (h : l[i]? = some c) : figsOf (l.take (i + 1)) = figsOf (l.take i) ++ (List.range 4).map fun k => Int.fmod (Int.fdiv ((c.toNat : Int) - 65) (2 ^ k)) 2 := by
  unfold figsOf
  rw [List.take_add_one, h, List.flatMap_append]
  simp
theorem fig_snoc {zs : List Value} {ns : List Int} {j : Nat} {c : Int} {t : Tok} (h : IntsAre zs (ns ++ (List.range j).map fun k => Int.fmod (Int.fdiv (c - 65) (2 ^ k)) 2)) :
    IntsAre (zs ++ [.int (Int.fmod (Int.fdiv (c - 65) (2 ^ ((0 : Int) + (j : Int)).toNat)) 2) t]) (ns ++ (List.range (j + 1)).map fun k => Int.fmod (Int.fdiv (c - 65) (2 ^ k)) 2) := by
  rw [List.range_succ, List.map_append, ← List.append_assoc]
  have e : ((0 : Int) + (j : Int)).toNat = j := by omega
  rw [e]
  exact IntsAre.append h (IntsAre.cons _ _ IntsAre.nil)
theorem fig_len (l : List UInt8) : (figsOf l).length = 4 * l.length := by
  induction l with
  | nil => rfl
  | cons a l ih =>
    unfold figsOf at *
    simp only [List.flatMap_cons, List.length_append, ih, List.length_map, List.length_range, List.length_cons]
    omega
theorem fig_all {b : Array UInt8} {ys zs : List Value} (hys : IntsAre ys (figsOf (b.toList.reverse.take b.toList.reverse.toArray.size))) (hz : IntsAre zs (List.replicate ((25 : Int) - ((4 * b.size : Nat) : Int)).toNat [(0 : Int)]).flatten) :
    IntsAre (ys ++ zs) (figsOf b.toList.reverse ++ List.replicate (25 - 4 * b.size) 0) := by
  have e : b.toList.reverse.take b.toList.reverse.toArray.size = b.toList.reverse := by
    rw [List.take_of_length_le]; simp
  rw [e] at hys
  have e2 : (List.replicate ((25 : Int) - ((4 * b.size : Nat) : Int)).toNat [(0 : Int)]).flatten = List.replicate (25 - 4 * b.size) 0 := by
    have : ((25 : Int) - ((4 * b.size : Nat) : Int)).toNat = 25 - 4 * b.size := by omega
    rw [this]
    generalize 25 - 4 * b.size = n
    induction n with
    | zero => rfl
    | succ n ih => rw [List.replicate_succ, List.flatten_cons, ih, List.replicate_succ]; rfl
  rw [e2] at hz
  exact IntsAre.append hys hz
theorem drop_1 {α : Type} {a : α} {l : List α} : ∀ p ∈ l, p ∈ a :: l := fun p hp => List.mem_cons_of_mem _ hp
theorem drop_4 {α : Type} {a b c d : α} {l : List α} : ∀ p ∈ l, p ∈ a :: b :: c :: d :: l := fun p hp => List.mem_cons_of_mem _ (List.mem_cons_of_mem _ (List.mem_cons_of_mem _ (List.mem_cons_of_mem _ hp)))
theorem rev_mem {b : Array UInt8} {k : Nat} (hk : k < b.size) : b.toList.reverse.getD k 0 ∈ b.toList := by
  have hl : b.toList.length = b.size := Array.length_toList
  have : k < b.toList.reverse.length := by rw [List.length_reverse]; omega
  rw [List.getD_eq_getElem?_getD, List.getElem?_eq_getElem this]
  exact List.mem_reverse.mp (List.getElem_mem this)
theorem drop_3 {α : Type} {a b c d : α} {l : List α} : ∀ p ∈ a :: l, p ∈ a :: b :: c :: d :: l := by
  intro p hp
  rcases List.mem_cons.mp hp with rfl | hp
  · exact List.mem_cons_self
  · exact List.mem_cons_of_mem _ (List.mem_cons_of_mem _ (List.mem_cons_of_mem _ (List.mem_cons_of_mem _ hp)))
theorem mem_of_get {α : Type} {b : Array α} {i : Nat} {c : α} (h : b[i]? = some c) : c ∈ b.toList := by
  rw [← Array.getElem?_toList] at h
  exact List.mem_of_getElem? h
theorem ints_len {vs : List Value} {ns : List Int} (h : IntsAre vs ns) : vs.length = ns.length := by
  have := h.sizeZ
  simp at this
  omega
theorem ints_some {vs : List Value} {ns : List Int} (h : IntsAre vs ns) {i : Nat} {n : Int} (e : ns[i]? = some n) : ∃ t, vs[i]? = some (.int n t) := by
  have hl := ints_len h
  have : i < ns.length := by
    rcases Nat.lt_or_ge i ns.length with h | h
    · exact h
    · rw [List.getElem?_eq_none h] at e; cases e
  obtain ⟨m, t, hm, hn⟩ := h.at i vs[i] (by rw [List.getElem?_eq_getElem])
  rw [e] at hn; cases hn
  exact ⟨t, by rw [List.getElem?_eq_getElem (by omega), hm]⟩
noncomputable def readOf (b : Array UInt8) (i : Nat) : List Int := (List.range i).map fun k => (((b.toList.reverse.getD k 0).toNat : Int) - 65) * 16 ^ k
theorem read_len (b : Array UInt8) (i : Nat) : (readOf b i).length = i := by simp [readOf]
theorem read_snoc {b : Array UInt8} {i : Nat} {ys : List Value} {t : Tok} (h : IntsAre ys (readOf b i)) :
    IntsAre (ys ++ [.int ((((b.toList.reverse.getD i 0).toNat : Int) - 65) * 16 ^ ((0 : Int) + (i : Int)).toNat) t]) (readOf b (i + 1)) := by
  unfold readOf
  rw [List.range_succ, List.map_append]
  have e : ((0 : Int) + (i : Int)).toNat = i := by omega
  rw [e]
  exact IntsAre.append h (IntsAre.cons _ _ IntsAre.nil)
theorem rng_small {n : Nat} (h : n ≤ 1000) : Builtin.Range.small 0 (n : Int) 1 = true := PySem.small_one (by decide) (by decide) (by omega) (by omega)
theorem rng_size {n : Nat} : Builtin.Range.rangeSize 0 (n : Int) 1 = ((n : Nat) : Int) := by
  unfold Builtin.Range.rangeSize
  rw [if_pos (by decide)]
  split
  · rw [Int.ediv_one]; omega
  · omega
noncomputable def cellsOf (ws : List Int) (i : Nat) : List Int := (List.range i).map fun k => [(1048619 : Int), 1047113, 70].getD k 0 + (pickNums ws (some (k : Int)) none (some 3)).sum
theorem cells_len (ws : List Int) (i : Nat) : (cellsOf ws i).length = i := by simp [cellsOf]
theorem cells_snoc {ws : List Int} {i : Nat} {ys : List Value} {t : Tok} (h : IntsAre ys (cellsOf ws i)) :
    IntsAre (ys ++ [.int ([(1048619 : Int), 1047113, 70].getD ((0 : Int) + (i : Int)).toNat 0 + (pickNums ws (some ((0 : Int) + (i : Int))) none (some 3)).sum) t]) (cellsOf ws (i + 1)) := by
  unfold cellsOf
  rw [List.range_succ, List.map_append]
  have e : ((0 : Int) + (i : Int)).toNat = i := by omega
  have e2 : (0 : Int) + (i : Int) = i := by omega
  rw [e, e2]
  exact IntsAre.append h (IntsAre.cons _ _ IntsAre.nil)
theorem ints_at {vs : List Value} {ns : List Int} (h : IntsAre vs ns) {i : Nat} (hi : i < ns.length) : ∃ t, vs[i]? = some (.int (ns.getD i 0) t) :=
  ints_some h (by rw [List.getD_eq_getElem?_getD, List.getElem?_eq_getElem hi]; rfl)
end Mine
end
section
open PySem PySem.W PySem.Calls PyProof.Rows
set_option Elab.async false
set_option maxRecDepth 100000
set_option linter.unusedVariables false
namespace Mine
noncomputable def bitN (n k : Nat) : Int := ((n / 2 ^ k % 2 : Nat) : Int)
noncomputable def dig (n : Int) (k : Nat) : Int := (if n < 0 then -1 else 1) * (bitN (3 * n.natAbs) (k + 1) - bitN n.natAbs (k + 1))
/-- v is a term of n -/
noncomputable def Term (n v : Int) : Prop := ∃ k, k < 24 ∧ dig n k ≠ 0 ∧ v = dig n k * 2 ^ k
noncomputable def num (cs : List Int) (i : Nat) : Int := Int.fmod (cs.getD i 0) 2097152 - 1048576
theorem num_bnd (cs : List Int) (i : Nat) : (num cs i).natAbs ≤ 1048576 := by
  unfold num
  have h1 := Int.fmod_nonneg_of_pos (cs.getD i 0) (b := 2097152) (by decide)
  have h2 := Int.fmod_lt_of_pos (cs.getD i 0) (b := 2097152) (by decide)
  omega
noncomputable def ltA (a b : Int × Int) : Prop := a.1.natAbs < b.1.natAbs ∨ (a.1.natAbs = b.1.natAbs ∧ b.2 < a.2)
noncomputable def ltB (a b : Int × Int) : Prop := a.1.natAbs < b.1.natAbs ∨ (a.1.natAbs = b.1.natAbs ∧ a.2 < b.2)
/-- the row when number `i` is at `left`, ahead of turn `k` -/
noncomputable def RowOk (lt : Int × Int → Int × Int → Prop) (N : Nat → Int) (i k : Nat) (left : Int) (ts : List (Int × Int)) : Prop :=
  ts.Pairwise lt ∧ ts.length ≤ 11 * i + k ∧ ∀ v w, (v, w) ∈ ts ↔ (∃ j : Nat, w = j ∧ j < i ∧ Term (N j) v) ∨ (w = (i : Int) ∧ Term (N i) v ∧ ¬ Term left v)
/-- one number's terms, as the list due[i] has them -/
noncomputable def termAt (N : Nat → Int) (i k : Nat) : Int := dig (N i) k * 2 ^ k
noncomputable def pl24 : List Int := rangeKs 0 24
end Mine
end
section
open PySem PySem.W PySem.Calls PyProof.Rows
set_option Elab.async false
set_option maxRecDepth 100000
set_option linter.unusedVariables false
namespace Mine
/-- the fewest powers of two that make `n` -/
noncomputable def wt (n : Nat) : Nat := if n < 2 then n else if n % 2 = 0 then wt (n / 2) else 1 + min (wt (n / 2)) (wt (n / 2 + 1))
decreasing_by all_goals omega
theorem wt_0 : wt 0 = 0 := by rw [wt]; rfl
theorem wt_1 : wt 1 = 1 := by rw [wt]; rfl
theorem wt_even (m : Nat) : wt (2 * m) = wt m := by
  rcases Nat.lt_or_ge m 1 with h | h
  · have : m = 0 := by omega
    subst this; rfl
  · rw [wt, if_neg (by omega), if_pos (by omega)]
    congr 1; omega
theorem wt_odd (m : Nat) : wt (2 * m + 1) = 1 + min (wt m) (wt (m + 1)) := by
  rcases Nat.lt_or_ge m 1 with h | h
  · have : m = 0 := by omega
    subst this
    rw [wt_0, wt_1]; rfl
  · rw [wt, if_neg (by omega), if_neg (by omega)]
    have : (2 * m + 1) / 2 = m := by omega
    rw [this]
theorem wt_near (m : Nat) : wt (m + 1) ≤ wt m + 1 ∧ wt m ≤ wt (m + 1) + 1 := by
  induction m using Nat.strongRecOn with
  | ind m ih =>
    rcases Nat.lt_or_ge m 1 with h | h
    · have : m = 0 := by omega
      subst this
      rw [wt_0, wt_1]; omega
    · rcases Nat.mod_two_eq_zero_or_one m with h2 | h2
      · obtain ⟨a, rfl⟩ : ∃ a, m = 2 * a := ⟨m / 2, by omega⟩
        rw [wt_even, wt_odd]
        have := ih a (by omega)
        omega
      · obtain ⟨a, rfl⟩ : ∃ a, m = 2 * a + 1 := ⟨m / 2, by omega⟩
        have e : 2 * a + 1 + 1 = 2 * (a + 1) := by omega
        rw [e, wt_even, wt_odd]
        have := ih a (by omega)
        omega
theorem wt_even_le (m : Nat) (h : m % 2 = 0) : wt m ≤ wt (m + 1) := by
  obtain ⟨a, rfl⟩ : ∃ a, m = 2 * a := ⟨m / 2, by omega⟩
  rw [wt_even, wt_odd]
  have := wt_near a
  omega
theorem wt_odd_ge (m : Nat) (h : m % 2 = 1) : wt (m + 1) ≤ wt m := by
  obtain ⟨a, rfl⟩ : ∃ a, m = 2 * a + 1 := ⟨m / 2, by omega⟩
  have e : 2 * a + 1 + 1 = 2 * (a + 1) := by omega
  rw [e, wt_even, wt_odd]
  have := wt_near a
  omega
theorem two_pow_mod3 (t : Nat) : 2 ^ t % 3 = 1 ∨ 2 ^ t % 3 = 2 := by
  induction t with
  | zero => exact .inl rfl
  | succ t ih => rw [Nat.pow_succ]; omega
theorem half {x : Nat} (h : x % 2 = 0) : ∃ y, x = 2 * y := ⟨x / 2, by omega⟩
theorem halfo {x : Nat} (h : x % 2 = 1) : ∃ y, x = 2 * y + 1 := ⟨x / 2, by omega⟩
theorem dbl {a b c : Nat} (h : 2 * a + b = 2 * c) : ∃ d, b = 2 * d ∧ a + d = c := ⟨c - a, by omega⟩
theorem dblo {a b c : Nat} (h : 2 * a + 1 + b = 2 * c) : ∃ d, b = 2 * d + 1 ∧ a + (d + 1) = c := ⟨c - a - 1, by omega⟩
theorem par {a b c : Nat} (h : a + b = 2 * c) : (a % 2 = 0 → b % 2 = 0) ∧ (a % 2 = 1 → b % 2 = 1) := by omega
theorem wt_two (t : Nat) : ∀ x z, x + z = 2 ^ t → 3 * x < 2 ^ t → wt (2 ^ t + x) = 1 + wt x ∧ wt z = 1 + wt x := by
  induction t with
  | zero =>
    intro x z e h
    obtain rfl : x = 0 := Nat.eq_zero_of_not_pos fun q => absurd (Nat.mul_le_mul_left 3 q) (Nat.not_le.mpr (Nat.lt_of_lt_of_le h (by decide)))
    obtain rfl : z = 1 := (Nat.zero_add z).symm.trans e
    show wt 1 = 1 + wt 0 ∧ wt 1 = 1 + wt 0
    rw [wt_0, wt_1]; exact ⟨rfl, rfl⟩
  | succ t ih =>
    intro x z e h
    have h3 := two_pow_mod3 t
    have ht : t ≠ 0 → ∃ q, 2 ^ t = 2 * q := fun h0 => by
      cases t with
      | zero => exact absurd rfl h0
      | succ t => exact ⟨2 ^ t, by rw [Nat.pow_succ, Nat.mul_comm]⟩
    have h1 : t = 0 → 2 ^ t = 1 := fun h0 => by rw [h0]
    rw [Nat.pow_succ, Nat.mul_comm] at e h ⊢
    generalize 2 ^ t = P at *
    rcases Nat.mod_two_eq_zero_or_one x with hx | hx
    · obtain ⟨y, rfl⟩ := half hx
      obtain ⟨w, rfl, e'⟩ := dbl e
      rw [← Nat.mul_add, wt_even, wt_even, wt_even]
      exact ih y w e' (by clear ih e' e ht h1 h3 hx; omega)
    · obtain ⟨y, rfl⟩ := halfo hx
      obtain ⟨w, rfl, e'⟩ := dblo e
      have h5 : 3 * y + 2 ≤ P := by clear ih e' e ht h1 h3 hx; omega
      obtain ⟨q, hq⟩ := ht fun h0 => by rw [h1 h0] at h5; exact absurd (Nat.le_trans (Nat.le_add_left _ _) h5) (by decide)
      rw [← Nat.add_assoc, ← Nat.mul_add, wt_odd, wt_odd, wt_odd]
      rcases Nat.mod_two_eq_zero_or_one y with hy | hy
      · obtain ⟨i1, i2⟩ := ih y (w + 1) e' (by clear ih e' e ht h1 h3 hx; omega)
        rw [hq] at e'
        have a1 := wt_even_le y hy
        have a2 := wt_even_le (P + y) (by rw [Nat.add_mod, hy, hq, Nat.mul_mod_right])
        have a3 := wt_odd_ge w ((par ((Nat.add_comm _ _).trans (show y + w + 1 = _ from e'))).1 |> fun _ => by have := (par e').1 hy; clear e e' ih ht h1 h3 i1 i2 a1 a2; omega)
        rw [Nat.min_eq_left a2, Nat.min_eq_right a3, Nat.min_eq_left a1, i1, i2]
        exact ⟨rfl, rfl⟩
      · have e2 : (y + 1) + w = P := by rw [Nat.add_right_comm, Nat.add_assoc]; exact e'
        obtain ⟨i1, i2⟩ := ih (y + 1) w e2 (by clear ih e' e ht h1 hx e2; omega)
        rw [hq] at e'
        have a1 := wt_odd_ge y hy
        have a2 := wt_odd_ge (P + y) (by rw [Nat.add_mod, hy, hq, Nat.mul_mod_right])
        have a3 := wt_even_le w (by have := (par e').2 hy; clear e e' ih ht h1 h3 i1 i2 a1 a2; omega)
        rw [Nat.min_eq_right a2, Nat.min_eq_left a3, Nat.min_eq_right a1, Nat.add_assoc, i1, i2]
        exact ⟨rfl, rfl⟩
theorem wt_pow (t : Nat) (x : Nat) (h : 3 * x < 2 ^ t) : wt (2 ^ t + x) = 1 + wt x ∧ wt (2 ^ t - x) = 1 + wt x :=
  wt_two t x _ (Nat.add_sub_cancel' (Nat.le_trans (Nat.le_mul_of_pos_left x (by decide)) (Nat.le_of_lt h))) h
/-- _law_fewest is wt -/
theorem fewStep_wt (n m : Nat) : fewStep n (((wt (n / 2 ^ (m + 1)) : Nat) : Int), ((wt (n / 2 ^ (m + 1) + 1) : Nat) : Int)) (m : Int) = (((wt (n / 2 ^ m) : Nat) : Int), ((wt (n / 2 ^ m + 1) : Nat) : Int)) := by
  have e0 : n / 2 ^ (m + 1) = n / 2 ^ m / 2 := by rw [Nat.pow_succ, Nat.div_div_eq_div_mul]
  have e1 : Int.fmod (Int.fdiv (n : Int) (2 ^ (m : Int).toNat)) 2 = ((n / 2 ^ m % 2 : Nat) : Int) := by
    rw [Int.toNat_natCast, Int.fdiv_eq_ediv_of_nonneg _ (by exact_mod_cast Nat.zero_le _), Int.fmod_eq_emod_of_nonneg _ (by decide)]
    norm_cast
  rw [e0]
  unfold fewStep
  rw [e1]
  generalize n / 2 ^ m = q
  rcases Nat.mod_two_eq_zero_or_one q with h | h
  · obtain ⟨a, rfl⟩ : ∃ a, q = 2 * a := ⟨q / 2, by omega⟩
    rw [if_pos (by rw [h]; rfl)]
    have e2 : 2 * a / 2 = a := by omega
    rw [e2, wt_even, wt_odd]
    simp only [Prod.mk.injEq, true_and]
    omega
  · obtain ⟨a, rfl⟩ : ∃ a, q = 2 * a + 1 := ⟨q / 2, by omega⟩
    rw [if_neg (by rw [h]; decide)]
    have e2 : (2 * a + 1) / 2 = a := by omega
    have e3 : 2 * a + 1 + 1 = 2 * (a + 1) := by omega
    rw [e2, e3, wt_even, wt_odd]
    simp only [Prod.mk.injEq, and_true]
    omega
theorem few_go (n : Nat) : ∀ (j k : Nat), j ≤ k → (downKs ((k : Int) - 1) j).foldl (fewStep n) (((wt (n / 2 ^ k) : Nat) : Int), ((wt (n / 2 ^ k + 1) : Nat) : Int)) = (((wt (n / 2 ^ (k - j)) : Nat) : Int), ((wt (n / 2 ^ (k - j) + 1) : Nat) : Int)) := by
  intro j
  induction j with
  | zero => intro k _; rfl
  | succ j ih =>
    intro k hk
    have e : downKs ((k : Int) - 1) (j + 1) = downKs ((k : Int) - 1) j ++ [((k - (j + 1) : Nat) : Int)] := by
      unfold downKs
      rw [List.range_succ, List.map_append]
      congr 1
      simp only [List.map_cons, List.map_nil, List.cons.injEq, and_true]
      omega
    rw [e, List.foldl_append, ih k (by omega)]
    have e2 : k - j = (k - (j + 1)) + 1 := by omega
    rw [e2]
    exact fewStep_wt n _
theorem fewest_wt {n : Nat} (h : n < 2 ^ 21) : fewest n = wt n := by
  have := few_go n 21 21 (Nat.le_refl _)
  rw [Nat.div_eq_of_lt h, wt_0, Nat.zero_add, wt_1] at this
  unfold fewest
  rw [show ((20 : Int)) = ((21 : Nat) : Int) - 1 from rfl, show ((0 : Int), (1 : Int)) = (((0 : Nat) : Int), ((1 : Nat) : Int)) from rfl, this]
  simp
end Mine
end
section
open PySem PySem.W PySem.Calls PyProof.Rows
set_option Elab.async false
set_option maxRecDepth 100000
set_option linter.unusedVariables false
namespace Mine
/-- bit of 3x less bit of x -/
noncomputable def bd (x k : Nat) : Int := ((Nat.testBit (3 * x) (k + 1)).toNat : Int) - ((Nat.testBit x (k + 1)).toNat : Int)
noncomputable def sg (n : Int) : Int := if n < 0 then -1 else 1
theorem dig_bd (n : Int) (k : Nat) : dig n k = sg n * bd n.natAbs k := by
  unfold dig bd bitN sg
  rw [Nat.toNat_testBit, Nat.toNat_testBit]
theorem bd_small (x k : Nat) : bd x k = 0 ∨ bd x k = 1 ∨ bd x k = -1 := by
  unfold bd
  cases Nat.testBit (3 * x) (k + 1) <;> cases Nat.testBit x (k + 1) <;> decide
theorem bd_zero (k : Nat) : bd 0 k = 0 := by
  unfold bd
  simp
/-- above -/
theorem bd_up {t y : Nat} (h : 3 * y < 2 ^ t) (k : Nat) : bd (2 ^ t + y) k = if k = t then 1 else bd y k := by
  unfold bd
  have e : 3 * (2 ^ t + y) = 2 ^ (t + 1) + (2 ^ t + 3 * y) := by rw [Nat.pow_succ]; omega
  have h2 : 2 ^ t + 3 * y < 2 ^ (t + 1) := by rw [Nat.pow_succ]; omega
  rcases Nat.lt_trichotomy k t with hk | hk | hk
  · rw [if_neg (by omega), e, Nat.testBit_two_pow_add_gt (by omega)]
    rcases Nat.lt_or_ge (k + 1) t with hk1 | hk1
    · rw [Nat.testBit_two_pow_add_gt hk1, Nat.testBit_two_pow_add_gt hk1]
    · have : k + 1 = t := by omega
      rw [this, Nat.testBit_two_pow_add_eq, Nat.testBit_two_pow_add_eq, Nat.testBit_lt_two_pow h, Nat.testBit_lt_two_pow (show y < 2 ^ t by omega)]
      rfl
  · subst hk
    rw [if_pos rfl, e, Nat.testBit_two_pow_add_eq, Nat.testBit_lt_two_pow h2, Nat.testBit_lt_two_pow (show 2 ^ k + y < 2 ^ (k + 1) by omega)]
    rfl
  · have hp : 2 ^ (t + 2) ≤ 2 ^ (k + 1) := Nat.pow_le_pow_right (by decide) (by omega)
    have e4 : 2 ^ (t + 2) = 2 ^ (t + 1) * 2 := Nat.pow_succ ..
    rw [if_neg (by omega), e, Nat.testBit_lt_two_pow (by omega), Nat.testBit_lt_two_pow (by omega), Nat.testBit_lt_two_pow (show 3 * y < _ by omega), Nat.testBit_lt_two_pow (show y < _ by omega)]
theorem m1 (z : Nat) : (3 * z + 2) % 2 = z % 2 := by omega
theorem m2 (z : Nat) : 3 * (z + 1) % 2 = (z + 1) % 2 := by omega
theorem m3 (w : Nat) : (3 * (2 * w + 1) + 2) / 2 = 3 * w + 2 := by omega
theorem m4 (w : Nat) : (2 * w + 1) / 2 = w := by omega
theorem m5 (w : Nat) : 3 * (2 * w + 1 + 1) / 2 = 3 * (w + 1) := by omega
theorem m6 (w : Nat) : (2 * w + 1 + 1) / 2 = w + 1 := by omega
theorem m7 (w : Nat) : (3 * (2 * w) + 2) / 2 = 3 * (2 * w + 1) / 2 := by omega
theorem m8 (w : Nat) : 2 * w / 2 = (2 * w + 1) / 2 := by omega
theorem tb_pred' (j : Nat) : ∀ z, ((Nat.testBit (3 * z + 2) j).toNat : Int) - ((Nat.testBit z j).toNat : Int) = ((Nat.testBit (3 * (z + 1)) j).toNat : Int) - ((Nat.testBit (z + 1) j).toNat : Int) := by
  induction j with
  | zero =>
    intro z
    rw [Nat.toNat_testBit, Nat.toNat_testBit, Nat.toNat_testBit, Nat.toNat_testBit, Nat.pow_zero, Nat.div_one, Nat.div_one, Nat.div_one, Nat.div_one, m1, m2, Int.sub_self, Int.sub_self]
  | succ j ih =>
    intro z
    simp only [Nat.testBit_succ]
    rcases Nat.mod_two_eq_zero_or_one z with h | h
    · obtain ⟨w, rfl⟩ := half h
      rw [m7, m8]
    · obtain ⟨w, rfl⟩ := halfo h
      rw [m3, m4, m5, m6]
      exact ih w
theorem tb_pred (j : Nat) (y : Nat) (hy : 0 < y) : ((Nat.testBit (3 * y - 1) j).toNat : Int) - ((Nat.testBit (y - 1) j).toNat : Int) = ((Nat.testBit (3 * y) j).toNat : Int) - ((Nat.testBit y j).toNat : Int) := by
  obtain ⟨z, rfl⟩ : ∃ z, y = z + 1 := ⟨y - 1, (Nat.succ_pred_eq_of_pos hy).symm⟩
  exact tb_pred' j z
/-- below -/
theorem b8 {P : Nat} (h : 0 < P) : P < P * 2 := by omega
theorem b7 (P : Nat) : P * 2 + P ≤ P * 2 * 2 := by omega
theorem b1 {P y : Nat} (h : 3 * y < P) (hy : 0 < y) : 3 * (P - y) = P * 2 + (P - (3 * y - 1 + 1)) := by
  rw [Nat.sub_add_cancel (Nat.mul_pos (by decide) hy), Nat.mul_sub, ← Nat.add_sub_assoc (Nat.le_of_lt h), Nat.mul_comm 3 P]; rfl
theorem b2 {P y : Nat} (hy : 0 < y) : P - y = P - (y - 1 + 1) := by rw [Nat.sub_add_cancel hy]
theorem b3 {P y : Nat} (h : 3 * y < P) (hy : 0 < y) : P - (3 * y - 1 + 1) < P := Nat.sub_lt (Nat.lt_of_le_of_lt (Nat.zero_le _) h) (Nat.succ_pos _)
theorem b4 {P y : Nat} (hy : 0 < y) : 3 * y - 1 + 1 = 3 * y := Nat.sub_add_cancel (Nat.mul_pos (by decide) hy)
theorem b5 {x y : Nat} (h : 3 * y < x) : y < x := Nat.lt_of_le_of_lt (Nat.le_mul_of_pos_left y (by decide)) h
theorem b6 {A B : Bool} {p q r s : Nat} (h : (A.toNat : Int) - (B.toNat : Int) = (p : Int) - (q : Int)) : (((!A).toNat : Nat) : Int) - (((!B).toNat : Nat) : Int) = -((p : Int) - (q : Int)) := by
  rw [← h]; cases A <;> cases B <;> decide
theorem bd_down {t y : Nat} (h : 3 * y < 2 ^ t) (hy : 0 < y) (k : Nat) : bd (2 ^ t - y) k = if k = t then 1 else - bd y k := by
  unfold bd
  have e5 : 2 ^ (t + 1) = 2 ^ t * 2 := Nat.pow_succ ..
  have e : 3 * (2 ^ t - y) = 2 ^ (t + 1) + (2 ^ t - (3 * y - 1 + 1)) := by
    rw [e5]; exact b1 h hy
  have e' : 2 ^ t - y = 2 ^ t - (y - 1 + 1) := b2 hy
  have h2 := b3 h hy
  have hy' := b5 h
  rcases Nat.lt_trichotomy k t with hk | hk | hk
  · rw [if_neg (Nat.ne_of_lt hk), e, Nat.testBit_two_pow_add_gt (Nat.succ_lt_succ hk), e', Nat.testBit_two_pow_sub_succ (by exact Nat.lt_of_le_of_lt (Nat.sub_le _ _) h), Nat.testBit_two_pow_sub_succ (by exact Nat.lt_of_le_of_lt (Nat.sub_le _ _) hy')]
    rcases Nat.lt_or_ge (k + 1) t with hk1 | hk1
    · rw [decide_eq_true hk1, Bool.true_and, Bool.true_and]
      exact b6 (r := 0) (s := 0) (tb_pred (k + 1) y hy)
    · obtain rfl : k + 1 = t := Nat.le_antisymm hk hk1
      rw [Nat.testBit_lt_two_pow h, Nat.testBit_lt_two_pow hy']
      simp
  · subst hk
    rw [if_pos rfl, e, Nat.testBit_two_pow_add_eq, Nat.testBit_lt_two_pow (Nat.lt_trans h2 (by rw [e5]; exact b8 (Nat.two_pow_pos k))), Nat.testBit_lt_two_pow (Nat.lt_of_le_of_lt (Nat.sub_le _ _) (Nat.pow_lt_pow_right (by decide) (Nat.lt_succ_self k)))]
    rfl
  · have hp : 2 ^ (t + 2) ≤ 2 ^ (k + 1) := Nat.pow_le_pow_right (by decide) (Nat.succ_le_succ hk)
    have e4 : 2 ^ (t + 2) = 2 ^ (t + 1) * 2 := Nat.pow_succ ..
    have hb : 2 ^ t * 2 + 2 ^ t ≤ 2 ^ (k + 1) := Nat.le_trans (by rw [e4, e5]; exact b7 _) hp
    have hc : 2 ^ t ≤ 2 ^ (k + 1) := Nat.le_trans (Nat.le_add_left _ _) hb
    rw [if_neg (Nat.ne_of_gt hk), Nat.testBit_lt_two_pow (show 3 * (2 ^ t - y) < _ from by rw [e, e5]; exact Nat.lt_of_lt_of_le (Nat.add_lt_add_left h2 _) hb), Nat.testBit_lt_two_pow (show 2 ^ t - y < _ from Nat.lt_of_lt_of_le (Nat.sub_lt (Nat.two_pow_pos t) hy) hc), Nat.testBit_lt_two_pow (Nat.lt_of_lt_of_le h hc), Nat.testBit_lt_two_pow (Nat.lt_of_lt_of_le hy' hc)]
    rfl
theorem bd_self {t y : Nat} (h : 3 * y < 2 ^ t) : bd y t = 0 := by
  unfold bd
  have e5 : 2 ^ (t + 1) = 2 ^ t * 2 := Nat.pow_succ ..
  rw [Nat.testBit_lt_two_pow (by omega), Nat.testBit_lt_two_pow (by omega)]
  rfl
theorem sg_abs (n : Int) : (n = (n.natAbs : Int) ∧ sg n = 1) ∨ (n = -(n.natAbs : Int) ∧ sg n = -1) := by
  rcases Int.lt_or_le n 0 with h | h
  · exact .inr ⟨by rw [Int.ofNat_natAbs_of_nonpos (Int.le_of_lt h), Int.neg_neg], if_pos h⟩
  · exact .inl ⟨(Int.natAbs_of_nonneg h).symm, if_neg (Int.not_lt.mpr h)⟩
theorem sg_nat (a : Nat) : sg (a : Int) = 1 := if_neg (Int.not_lt.mpr (Int.natCast_nonneg a))
theorem sg_neg {a : Nat} (h : 0 < a) : sg (-(a : Int)) = -1 := if_pos (Int.neg_neg_of_pos (Int.ofNat_lt.mpr h))
theorem l1 (a d : Nat) : (a : Int) - 1 * ((a + d : Nat) : Int) = -(d : Int) := by omega
theorem l2 (a d : Nat) : -(a : Int) - -1 * ((a + d : Nat) : Int) = (d : Int) := by omega
theorem l3 (a d : Nat) : ((a + d : Nat) : Int) - 1 * (a : Int) = (d : Int) := by omega
theorem l4 (a d : Nat) : -((a + d : Nat) : Int) - -1 * (a : Int) = -(d : Int) := by omega
theorem l5 {a d : Nat} (h : 2 * (a + d) < 3 * a) : 3 * d < a + d := by omega
theorem l6 {P d : Nat} (h : 3 * (P + d) < 4 * P) : 3 * d < P := by omega
theorem near {n : Int} {t : Nat} (h1 : 2 * 2 ^ t < 3 * n.natAbs) (h2 : 3 * n.natAbs < 4 * 2 ^ t) :
    ∃ d : Nat, 3 * d < 2 ^ t ∧ (n - sg n * ((2 ^ t : Nat) : Int)).natAbs = d ∧ ((0 < d ∧ n.natAbs + d = 2 ^ t ∧ sg (n - sg n * ((2 ^ t : Nat) : Int)) = - sg n) ∨ (n.natAbs = 2 ^ t + d ∧ (d ≠ 0 → sg (n - sg n * ((2 ^ t : Nat) : Int)) = sg n))) := by
  have hs := sg_abs n
  generalize 2 ^ t = P at *
  generalize n.natAbs = a at *
  rcases Nat.lt_or_ge a P with h | h
  · obtain ⟨d, rfl⟩ := Nat.le.dest (Nat.le_of_lt h)
    have hd : 0 < d := Nat.pos_of_ne_zero fun e => by rw [e] at h; exact Nat.lt_irrefl _ h
    refine ⟨d, l5 h1, ?_⟩
    rcases hs with ⟨e, e1⟩ | ⟨e, e1⟩
    · rw [e1, e, l1]; exact ⟨by rw [Int.natAbs_neg, Int.natAbs_natCast], .inl ⟨hd, rfl, sg_neg hd⟩⟩
    · rw [e1, e, l2]; exact ⟨Int.natAbs_natCast _, .inl ⟨hd, rfl, sg_nat d⟩⟩
  · obtain ⟨d, rfl⟩ := Nat.le.dest h
    refine ⟨d, l6 h2, ?_⟩
    rcases hs with ⟨e, e1⟩ | ⟨e, e1⟩
    · rw [e1, e, l3]; exact ⟨Int.natAbs_natCast _, .inr ⟨rfl, fun _ => sg_nat d⟩⟩
    · rw [e1, e, l4]; exact ⟨by rw [Int.natAbs_neg, Int.natAbs_natCast], .inr ⟨rfl, fun q => sg_neg (Nat.pos_of_ne_zero q)⟩⟩
/-- taking the nearest power off -/
theorem dig_step {n : Int} {t : Nat} (h1 : 2 * 2 ^ t < 3 * n.natAbs) (h2 : 3 * n.natAbs < 4 * 2 ^ t) (k : Nat) :
    dig n k = if k = t then sg n else dig (n - sg n * ((2 ^ t : Nat) : Int)) k := by
  obtain ⟨d, q, e, h⟩ := near h1 h2
  rw [dig_bd, dig_bd, e]
  rcases h with ⟨hd, ha, hs⟩ | ⟨ha, hs⟩
  · have hb := bd_down q hd k
    rw [← ha, Nat.add_sub_cancel] at hb
    rw [hb, hs]
    split
    · rw [Int.mul_one]
    · rw [Int.mul_neg, Int.neg_mul]
  · rw [ha, bd_up q k]
    split
    · rw [Int.mul_one]
    · by_cases hd : d = 0
      · rw [hd, bd_zero, Int.mul_zero, Int.mul_zero]
      · rw [hs hd]
theorem dig_step0 {n : Int} {t : Nat} (h1 : 2 * 2 ^ t < 3 * n.natAbs) (h2 : 3 * n.natAbs < 4 * 2 ^ t) : dig (n - sg n * ((2 ^ t : Nat) : Int)) t = 0 ∧ 3 * (n - sg n * ((2 ^ t : Nat) : Int)).natAbs < 2 ^ t := by
  obtain ⟨d, q, e, _⟩ := near h1 h2
  rw [dig_bd, e, bd_self q, Int.mul_zero]
  exact ⟨rfl, q⟩
theorem sg_1 (n : Int) : sg n = 1 ∨ sg n = -1 := by unfold sg; split <;> simp
theorem dig_small (n : Int) (k : Nat) : dig n k = 0 ∨ dig n k = 1 ∨ dig n k = -1 := by
  rw [dig_bd]
  rcases sg_1 n with e | e <;> rcases bd_small n.natAbs k with f | f | f <;> rw [e, f] <;> decide
theorem dig_zero (k : Nat) : dig 0 k = 0 := by rw [dig_bd]; show _ * bd 0 k = 0; rw [bd_zero, Int.mul_zero]
theorem term_0 (v : Int) : ¬ Term 0 v := fun ⟨k, _, h, _⟩ => h (dig_zero k)
theorem term_abs {n v : Int} (h : Term n v) : ∃ k, k < 24 ∧ v.natAbs = 2 ^ k ∧ dig n k ≠ 0 ∧ v = dig n k * 2 ^ k := by
  obtain ⟨k, hk, hd, rfl⟩ := h
  refine ⟨k, hk, ?_, hd, rfl⟩
  rw [Int.natAbs_mul, Int.natAbs_pow]
  rcases dig_small n k with e | e | e
  · exact absurd e hd
  · rw [e]; simp
  · rw [e]; simp
theorem pow_inj {a b : Nat} (h : 2 ^ a = 2 ^ b) : a = b := by
  rcases Nat.lt_trichotomy a b with e | e | e
  · have := Nat.pow_lt_pow_right (show 1 < 2 by decide) e; omega
  · exact e
  · have := Nat.pow_lt_pow_right (show 1 < 2 by decide) e; omega
theorem term_same {n v v' : Int} (h : Term n v) (h' : Term n v') (e : v.natAbs = v'.natAbs) : v = v' := by
  obtain ⟨k, _, e1, _, rfl⟩ := term_abs h
  obtain ⟨k', _, e2, _, rfl⟩ := term_abs h'
  have : k = k' := pow_inj (by rw [← e1, ← e2, e])
  rw [this]
/-- the terms of what is left -/
theorem term_step {n : Int} {t : Nat} (ht : t < 24) (h1 : 2 * 2 ^ t < 3 * n.natAbs) (h2 : 3 * n.natAbs < 4 * 2 ^ t) :
    Term n (sg n * ((2 ^ t : Nat) : Int)) ∧ ¬ Term (n - sg n * ((2 ^ t : Nat) : Int)) (sg n * ((2 ^ t : Nat) : Int)) ∧ ∀ v, Term n v ↔ v = sg n * ((2 ^ t : Nat) : Int) ∨ Term (n - sg n * ((2 ^ t : Nat) : Int)) v := by
  have hs := dig_step h1 h2
  have h0 := (dig_step0 h1 h2).1
  have hc : ((2 ^ t : Nat) : Int) = 2 ^ t := by push_cast; rfl
  have hsn : sg n ≠ 0 := by rcases sg_1 n with e | e <;> rw [e] <;> decide
  have ha : Term n (sg n * ((2 ^ t : Nat) : Int)) := ⟨t, ht, by rw [hs, if_pos rfl]; exact hsn, by rw [hs, if_pos rfl, hc]⟩
  have hb : ¬ Term (n - sg n * ((2 ^ t : Nat) : Int)) (sg n * ((2 ^ t : Nat) : Int)) := by
    intro h
    obtain ⟨k, _, e1, e2, _⟩ := term_abs h
    have e3 : (sg n * ((2 ^ t : Nat) : Int)).natAbs = 2 ^ t := by
      rw [Int.natAbs_mul, Int.natAbs_natCast]
      rcases sg_1 n with e | e <;> rw [e] <;> simp
    have : k = t := pow_inj (by rw [← e1, e3])
    subst this
    exact e2 h0
  refine ⟨ha, hb, fun v => ⟨fun h => ?_, fun h => ?_⟩⟩
  · obtain ⟨k, hk, hd, rfl⟩ := h
    by_cases e : k = t
    · subst e
      left
      rw [hs, if_pos rfl, hc]
    · right
      refine ⟨k, hk, ?_, ?_⟩
      · have := hs k; rw [if_neg e] at this; rw [← this]; exact hd
      · rw [hs k, if_neg e]
  · rcases h with rfl | ⟨k, hk, hd, rfl⟩
    · exact ha
    · have e : k ≠ t := by intro e; subst e; exact hd h0
      refine ⟨k, hk, ?_, ?_⟩
      · rw [hs k, if_neg e]; exact hd
      · rw [hs k, if_neg e]
theorem wt_step {n : Int} {t : Nat} (h1 : 2 * 2 ^ t < 3 * n.natAbs) (h2 : 3 * n.natAbs < 4 * 2 ^ t) : wt n.natAbs = 1 + wt (n - sg n * ((2 ^ t : Nat) : Int)).natAbs := by
  obtain ⟨d, q, e, h⟩ := near h1 h2
  rw [e]
  rcases h with ⟨_, ha, _⟩ | ⟨ha, _⟩
  · have hw := (wt_pow t d q).2
    rw [← ha, Nat.add_sub_cancel] at hw
    exact hw
  · rw [ha]; exact (wt_pow t d q).1
end Mine
end
section
open PySem PySem.W PySem.Calls PyProof.Rows
set_option Elab.async false
set_option maxRecDepth 100000
set_option linter.unusedVariables false
namespace Mine
theorem ap_rev {n : Nat} (h : n ≠ 0) : (ap n).reverse = UInt8.ofNat (65 + n % 16) :: (ap (n / 16)).reverse := by
  rw [ap_step h, List.reverse_append]; rfl
theorem u8_of {m : Nat} (h : m < 16) : (UInt8.ofNat (65 + m)).toNat = 65 + m := by
  rw [UInt8.toNat_ofNat']
  omega
/-- the letters from the end, read to the base 16 -/
noncomputable def rs : List UInt8 → Int
  | [] => 0
  | c :: l => ((c.toNat : Int) - 65) + 16 * rs l
theorem sum_map_mul (f : Nat → Int) (l : List Nat) : (l.map fun k => 16 * f k).sum = 16 * (l.map f).sum := by
  induction l with
  | nil => rfl
  | cons a l ih => simp only [List.map_cons, List.sum_cons, ih]; omega
theorem rs_sum (l : List UInt8) : ((List.range l.length).map fun k => (((l.getD k 0).toNat : Int) - 65) * 16 ^ k).sum = rs l := by
  induction l with
  | nil => rfl
  | cons c l ih =>
    rw [List.length_cons, List.range_succ_eq_map, List.map_cons, List.sum_cons, List.map_map]
    have e : ((fun k => ((((c :: l).getD k 0).toNat : Int) - 65) * 16 ^ k) ∘ Nat.succ) = fun k => 16 * ((((l.getD k 0).toNat : Int) - 65) * 16 ^ k) := by
      funext k
      simp only [Function.comp, List.getD_cons_succ, Int.pow_succ]
      rw [Int.mul_comm (16 ^ k) 16, Int.mul_left_comm]
    rw [e, sum_map_mul, ih]
    simp [rs]
theorem rs_ap (n : Nat) : rs (ap n).reverse = n := by
  induction n using Nat.strongRecOn with
  | ind n ih =>
    by_cases h : n = 0
    · subst h; rfl
    · rw [ap_rev h]
      simp only [rs]
      rw [u8_of (by omega), ih (n / 16) (by omega)]
      omega
theorem read_ap (n : Nat) : (readOf (ap n).toArray (ap n).toArray.size).sum = n := by
  unfold readOf
  have e : (ap n).toArray.size = (ap n).reverse.length := by simp
  rw [e]
  exact (rs_sum (ap n).reverse).trans (rs_ap n)
theorem ap_letters (n : Nat) : ∀ c ∈ ap n, 65 ≤ c.toNat ∧ c.toNat ≤ 80 := by
  induction n using Nat.strongRecOn with
  | ind n ih =>
    by_cases h : n = 0
    · subst h; exact fun c hc => (nomatch hc)
    · rw [ap_step h]
      intro c hc
      rcases List.mem_append.mp hc with hc | hc
      · exact ih (n / 16) (by omega) c hc
      · rw [List.mem_singleton.mp hc, u8_of (by omega)]
        omega
theorem ap_head (n : Nat) : ∀ l, ap n ≠ 65 :: l := by
  induction n using Nat.strongRecOn with
  | ind n ih =>
    by_cases h : n = 0
    · subst h; intro l e; cases e
    · rw [ap_step h]
      intro l e
      cases hq : ap (n / 16) with
      | nil =>
        rw [hq, List.nil_append] at e
        have e1 := (List.cons.inj e).1
        have e2 := congrArg UInt8.toNat e1
        rw [u8_of (by omega)] at e2
        have : n % 16 = 0 := by
          have : (65 : UInt8).toNat = 65 := rfl
          omega
        by_cases h2 : n / 16 = 0
        · omega
        · rw [ap_step h2] at hq
          exact absurd hq (by simp)
      | cons c r =>
        rw [hq] at e
        have e1 := (List.cons.inj e).1
        exact ih (n / 16) (by omega) r (by rw [hq, e1])
theorem bitN_0 {n k : Nat} (h : n < 2 ^ k) : bitN n k = 0 := by
  unfold bitN
  rw [Nat.div_eq_of_lt h]; rfl
theorem bitN_4 (n k : Nat) : bitN n (4 + k) = bitN (n / 16) k := by
  unfold bitN
  rw [Nat.pow_add, ← Nat.div_div_eq_div_mul]
theorem bit_low (n k : Nat) (h : k < 4) : Int.fmod (Int.fdiv (((65 + n % 16 : Nat) : Int) - 65) (2 ^ k)) 2 = bitN n k := by
  have e : ((65 + n % 16 : Nat) : Int) - 65 = ((n % 16 : Nat) : Int) := by show (65 : Int) + ((n % 16 : Nat) : Int) - 65 = _; rw [Int.add_comm, Int.add_sub_cancel]
  have e2 : ((2 : Int) ^ k) = ((2 ^ k : Nat) : Int) := by push_cast; rfl
  rw [e, e2, Int.fdiv_eq_ediv_of_nonneg _ (Int.natCast_nonneg _), Int.fmod_eq_emod_of_nonneg _ (by decide)]
  unfold bitN
  have : n % 16 / 2 ^ k % 2 = n / 2 ^ k % 2 := by
    have := Nat.testBit_mod_two_pow n 4 k
    rw [decide_eq_true h, Bool.true_and] at this
    rw [← Nat.toNat_testBit, ← Nat.toNat_testBit]
    exact congrArg Bool.toNat this
  rw [← this]
  rfl
theorem figs_ap (n : Nat) : figsOf (ap n).reverse = (List.range (4 * (ap n).length)).map (bitN n) ∧ n < 2 ^ (4 * (ap n).length) := by
  induction n using Nat.strongRecOn with
  | ind n ih =>
    by_cases h : n = 0
    · subst h; exact ⟨rfl, by decide⟩
    · obtain ⟨i1, i2⟩ := ih (n / 16) (by omega)
      have hl : (ap n).length = (ap (n / 16)).length + 1 := by rw [ap_step h, List.length_append]; rfl
      have e4 : 4 * ((ap (n / 16)).length + 1) = 4 + 4 * (ap (n / 16)).length := by omega
      rw [hl, e4]
      constructor
      · rw [ap_rev h]
        unfold figsOf at i1 ⊢
        rw [List.flatMap_cons, i1, u8_of (by omega), List.range_add, List.map_append, List.map_map]
        congr 1
        · refine List.map_congr_left fun k hk => ?_
          exact bit_low n k (List.mem_range.mp hk)
        · refine List.map_congr_left fun k hk => ?_
          exact (bitN_4 n k).symm
      · rw [Nat.pow_add]
        have : n = 16 * (n / 16) + n % 16 := by omega
        have e16 : 2 ^ 4 = 16 := rfl
        rw [e16]
        generalize 2 ^ (4 * (ap (n / 16)).length) = P at *
        omega
/-- the 25 figures -/
theorem figs25 {n : Nat} (h : n < 2 ^ 24) : figsOf (ap n).toArray.toList.reverse ++ List.replicate (25 - 4 * (ap n).toArray.size) 0 = (List.range 25).map (bitN n) := by
  have hl : (ap n).length ≤ 6 := ap_len 6 n (by have : (16 : Nat) ^ 6 = 2 ^ 24 := by decide
                                                omega)
  obtain ⟨h1, h2⟩ := figs_ap n
  have e1 : (ap n).toArray.toList = ap n := by simp
  have e2 : (ap n).toArray.size = (ap n).length := by simp
  rw [e1, e2, h1]
  have hq : 4 * (ap n).length ≤ 24 := by omega
  generalize 4 * (ap n).length = q at *
  have e3 : 25 = q + (25 - q) := by omega
  conv => rhs; rw [e3, List.range_add, List.map_append, List.map_map]
  congr 1
  refine (List.eq_replicate_iff.mpr ⟨by simp, fun b hb => ?_⟩).symm
  obtain ⟨k, hk, rfl⟩ := List.mem_map.mp hb
  exact bitN_0 (Nat.lt_of_lt_of_le h2 (Nat.pow_le_pow_right (by decide) (Nat.le_add_right _ _)))
theorem ap_size {n : Nat} (h : n < 2 ^ 24) : (ap n).toArray.size ≤ 6 := by
  have hl : (ap n).length ≤ 6 := ap_len 6 n (by have : (16 : Nat) ^ 6 = 2 ^ 24 := by decide
                                                omega)
  simpa using hl
theorem ap_notA (n : Nat) : ((KBy.picked (ap n).toArray none (some 1)).toList == #[(65 : UInt8)].toList) = false := by
  rw [KBc.picked_eq, beq_eq_false_iff_ne]
  intro e
  have h := ap_head n
  simp only [Option.elim] at e
  rw [KBc.clip_lit] at e
  cases hq : ap n with
  | nil => rw [hq] at e; simp at e
  | cons c r =>
    rw [hq] at e h
    simp at e
    rw [e] at h
    exact h r rfl
end Mine
end
section
open PySem PySem.W PySem.Calls PyProof.Rows
open Sem (wp)
set_option linter.unusedVariables false
namespace Mine
/-- a goal under a name of its own: what takes an assumption apart then repeats the name alone -/
theorem hide {G : Prop} (h : ∀ P : Prop, (G → P) → P) : G := h G id

/-- the caller of the claim lies below -/
noncomputable def CallerBelow (Γ : Ctx) : Prop := (Γ.below.map (·.1)).any Code.isCaller = true
noncomputable def CallerIn (Γ : Ctx) : Prop := Γ.code.isCaller = true ∨ CallerBelow Γ
theorem callerBelow_enter {Γ : Ctx} (h : CallerIn Γ) (c : Code) (hd : Option Value) (p : Pos) : CallerBelow (Γ.enter c hd p) := by
  show (((Γ.code, p) :: Γ.below).map (·.1)).any Code.isCaller = true
  rw [List.map_cons, List.any_cons]
  rcases h with h | h
  · rw [h]; rfl
  · rw [show (Γ.below.map (·.1)).any Code.isCaller = true from h, Bool.or_true]

noncomputable def wpC {α : Type} (M : Model) (A : Around) (t : Sem α) (Q : α → Shared → Prop) (E : Value → Shared → Prop) (s : Shared) : Prop :=
  ∀ Γ p, Γ.In A → CallerIn Γ → wp M Γ t (fun a _ s' => Q a s') (fun e _ s' => E e s') p s
noncomputable def codeC (M : Model) (A : Around) (c : Code) (R : Result → Shared → Prop) (s : Shared) : Prop :=
  ∀ Γ p, Γ.code = c → Γ.Below A → CallerBelow Γ → wpCode M Γ R p s

section
variable {α β : Type} {M : Model} {A : Around} {E : Value → Shared → Prop} {s : Shared}
theorem wpC_of {t : Sem α} {Q : α → Shared → Prop} (h : wpAny M A t Q E s) : wpC M A t Q E s := fun Γ p hΓ _ => h Γ p hΓ
theorem codeC_of {c : Code} {R : Result → Shared → Prop} (h : codeAny M A c R s) : codeC M A c R s := fun Γ p hc hΓ _ => h Γ p hc hΓ
theorem wpC_mono {t : Sem α} {Q Q' : α → Shared → Prop} {E' : Value → Shared → Prop} (h : wpC M A t Q E s) (hQ : ∀ a s, Q a s → Q' a s) (hE : ∀ e s, E e s → E' e s) : wpC M A t Q' E' s :=
  fun Γ p hΓ hc => Sem.wp_mono M Γ t (fun a _ s => hQ a s) (fun e _ s => hE e s) p s (h Γ p hΓ hc)
theorem codeC_mono {c : Code} {R R' : Result → Shared → Prop} (h : codeC M A c R s) (hR : ∀ r s, R r s → R' r s) : codeC M A c R' s :=
  fun Γ p hc hΓ hb => wpCode_mono hR (h Γ p hc hΓ hb)
theorem wpC_bind {m : Sem α} {f : α → Sem β} {Q : β → Shared → Prop} (h : wpC M A m (fun a s' => wpC M A (f a) Q E s') E s) : wpC M A (m >>= f) Q E s := fun Γ p hΓ hc => by
  rw [Sem.wp_bind']
  exact Sem.wp_mono M Γ m (fun a p' s' h' => h' Γ p' hΓ hc) (fun _ _ _ h' => h') p s (h Γ p hΓ hc)
/-- the first part off the spine -/
theorem wpC_then {m : Sem α} {f : α → Sem β} {Q : β → Shared → Prop} (h : wpAny M A m (fun a s' => wpC M A (f a) Q E s') E s) : wpC M A (m >>= f) Q E s := wpC_bind (wpC_of h)
theorem wpC_pure {a : α} {Q : α → Shared → Prop} (h : Q a s) : wpC M A (pure a) Q E s := wpC_of (wpAny_pure h)
theorem wpC_holding {vs : List Value} {m : Sem α} {Q : α → Shared → Prop} (h : wpC M A m Q E s) : wpC M A (holding vs m) Q E s := fun Γ p hΓ hc => by
  rw [Sem.wp_holding]; exact h Γ p hΓ hc
theorem wpC_keep {vs : List Value} {m : Sem α} {Q : α → Shared → Prop} (h : wpC M A m Q E s) : wpC M A (m.keep vs) Q E s := fun Γ p hΓ hc => by
  rw [Sem.wp_keep]; exact h Γ p hΓ hc
theorem wpC_rule {tag : String} {f : Unit → Sem β} {Q : β → Shared → Prop} (h : wpC M A (f ()) Q E s) : wpC M A (rule tag >>= f) Q E s := wpC_then (wpAny_rule h)
theorem wpC_at {p : Pos} {f : Unit → Sem β} {Q : β → Shared → Prop} (h : wpC M A (f ()) Q E s) : wpC M A (standAt p >>= f) Q E s := wpC_then (wpAny_standAt h)
theorem wpC_onRaise {m : Sem α} {k : Value → Sem Unit} {Q : α → Shared → Prop} (h : wpC M A m Q (fun e s' => wpAny M A (k e) (fun _ s'' => E e s'') E s') s) : wpC M A (m.onRaise k) Q E s := fun Γ p hΓ hc => by
  rw [Sem.wp_onRaise]
  exact Sem.wp_mono M Γ m (fun _ _ _ h' => h') (fun e p' s' h' => h' Γ p' hΓ) p s (h Γ p hΓ hc)
theorem wpC_attempt {m : Sem α} {Q : Except Value α → Shared → Prop} (h : wpC M A m (fun a s' => Q (.ok a) s') (fun e s' => Q (.error e) s') s) : wpC M A m.attempt Q E s := fun Γ p hΓ hc => by
  rw [Sem.wp_attempt]; exact h Γ p hΓ hc
theorem wpC_run {c : Code} {h : Option Value} {Q : Flow → Shared → Prop} (hc : codeC M (A.mark h) c (fun r s' => match r with | .ok f => Q f s' | .error e => E e s') s) (hnb : h ≠ some byPass := by intro x; cases x) :
    wpC M A (run c h) Q E s := fun Γ p hΓ hb => by
  rw [Sem.wp_run]; exact hc _ p rfl (hΓ.enter c h p hnb) (callerBelow_enter hb c h p)
theorem wpC_runValue {c : Code} {Q : Value → Shared → Prop} (hc : codeC M A c (fun r s' => match r with | .ok (.ret v) => Q v s' | .ok _ => False | .error e => E e s') s) : wpC M A (runValue c) Q E s := fun Γ p hΓ hb => by
  rw [Sem.wp_runValue]; exact hc _ p rfl (hΓ.enter c none p (by intro x; cases x)) (callerBelow_enter hb c none p)
theorem wpC_call {f : Value} {pos : List Value} {kw : List (Str × Value)} {Q : Value → Shared → Prop}
    (hc : codeC M A (.call f ⟨pos, kw⟩) (fun r s' => match r with | .ok (.ret v) => Q v s' | .ok _ => False | .error e => E e s') s) : wpC M A (call f pos kw) Q E s := wpC_runValue hc
/-- what a tree's end says of the code that it is -/
abbrev FinC (M : Model) (A : Around) (R : Result → Shared → Prop) (fin : Fin) (s' : Shared) : Prop := match fin with | .done f => R (.ok f) s' | .again c' => c'.quiet = true ∧ codeC M A c' R s'
theorem codeC_of_tree {c : Code} {R : Result → Shared → Prop} (h : wpC M (A.under c) (M.den c) (FinC M A R) (fun e s' => R (.error e) s') s) : codeC M A c R s := fun Γ p hc hΓ hb => by
  rw [wpCode_iff_wp, hc]
  refine Sem.wp_mono M Γ _ (fun fin p' s' h' => ?_) (fun _ _ _ h' => h') p s (h Γ p (hc ▸ hΓ.in) (.inr hb))
  cases fin with
  | done f => exact h'
  | again c' => exact ⟨h'.1, h'.2 (Γ.goto c') p' rfl (hΓ.goto c') hb⟩
/-- all that lies around, and the caller among it -/
theorem wpC_stack {f : List (Code × Pos) → Sem β} {Q : β → Shared → Prop} (h : ∀ acts : List (Code × Pos), (acts.map (·.1)).any Code.isCaller = true → wpC M A (f acts) Q E s) : wpC M A (stack >>= f) Q E s := fun Γ p hΓ hc => by
  rw [Sem.wp_bind']
  show wp M Γ (Sem.stack Sem.pure) _ _ p s
  rw [Sem.wp_stack, Sem.wp_pure]
  refine h _ ?_ Γ p hΓ hc
  rw [List.map_cons, List.any_cons]
  rcases hc with hc | hc
  · rw [hc]; rfl
  · rw [show (Γ.below.map (·.1)).any Code.isCaller = true from hc, Bool.or_true]
/-- with the caller below, a refusal leaves no mark -/
theorem wpC_mark {own : List String} {e : Value} {f : Unit → Sem β} {Q : β → Shared → Prop} (h : wpC M A (f ()) Q E s) : wpC M A (markTheRefusal own e >>= f) Q E s := by
  refine wpC_bind ?_
  unfold markTheRefusal
  refine wpC_stack fun acts ha => ?_
  have hn : pythonCodeMadeTheCall own (acts.map (·.1)) = false := by
    unfold pythonCodeMadeTheCall
    rw [Bool.and_assoc]
    exact Bool.and_eq_false_iff.mpr (.inl (congrArg Bool.not ha))
  rw [hn]
  exact wpC_pure h
end
end Mine
end
section
open PySem PySem.W PySem.Calls PyProof.Rows
open Sem (wp)
set_option linter.unusedVariables false
set_option maxRecDepth 100000
namespace Mine
abbrev hyphen : PySem.Str := ⟨#[45]⟩
theorem wpAny_eq {α : Type} {M : Model} {A : Around} {E : Value → Shared → Prop} {s : Shared} {t : Sem α} {a : α} {Q : α → Shared → Prop} (e : t = pure a) (h : Q a s) : wpAny M A t Q E s := by rw [e]; exact wpAny_pure h
theorem text_refused {v : Value} {x : PySem.Str} {u : Tok} (hv : v = .str x u) : (int_private% "intFromText") v [45] 10 = (do
    rule "int.__new__.invalid-literal"
    let shown ← pyRepr v
    let refusal ← newExc (.type "ValueError") [← mkStr (((s!"invalid literal for int() with base {10}: " : String) ++ ⟨shown.cps.extract 0 200⟩ : PySem.Str))]
    markTheRefusal ["int.__new__"] refusal
    raiseNew refusal) := by
  subst hv
  rfl
section
variable {prog : Program} {w : World} {A : Around} {E : Value → Shared → Prop} {s : Shared}
theorem refuse_text {u : Tok} {Q : Value → Shared → Prop} (hh : A.handled = none) (h : ∀ h' tk e, Heap.NewExc s.heap h' e "ValueError" → E (.ref e) { s with heap := h', toks := tk }) :
    wpC (model prog w) A ((int_private% "intFromText") (.str hyphen u) [45] 10) Q E s := by
  rw [text_refused rfl]
  obtain ⟨hp, g, d, tk, os⟩ := s
  refine wpC_rule (wpC_then (wpAny_pyRepr_str ?_ (by decide +kernel)))
  refine wpC_then (wpAny_mkStr' ?_ (by decide +kernel))
  refine wpC_then (wpAny_newExc_plain plainExc_ValueError fun h' e he => ?_)
  refine wpC_mark (wpC_of (wpAny_raiseNew_none hh ?_))
  exact h _ _ _ he.newExc
theorem refuse_object {u : Tok} {Q : Value → Shared → Prop} (hh : A.handled = none) (h : ∀ h' tk e, Heap.NewExc s.heap h' e "ValueError" → E (.ref e) { s with heap := h', toks := tk }) :
    wpC (model prog w) A ((int_private% "intFromObject") (.str hyphen u)) Q E s := by
  have f6 : s.TypeIs (.str hyphen u) "str" := typeIs_str _ _ _
  refine wpC_then (m := callSpecial? (.str hyphen u) (PySem.Str.ofString "__int__")) ?_
  refine wpAny_mono (Q := fun r s' => r = none ∧ s' = s) (E := fun _ _ => False) ?_ ?_ (fun _ _ e => e.elim)
  · have f3 := KIN.str_int
    obtain ⟨hp, g, d, tk, os⟩ := s
    wp_walk
    all_goals first | exact ⟨rfl, rfl⟩ | skip
  · rintro r s' ⟨rfl, rfl⟩
    refine wpC_then (m := specialOf (.str hyphen u) (PySem.Str.ofString "__index__")) ?_
    refine wpAny_mono (Q := fun r s₁ => r = none ∧ s₁ = s') (E := fun _ _ => False) ?_ ?_ (fun _ _ e => e.elim)
    · have f4 := KIN.str_idx
      obtain ⟨hp, g, d, tk, os⟩ := s'
      wp_walk
      all_goals first | exact ⟨rfl, rfl⟩ | skip
    · rintro r s₁ ⟨rfl, rfl⟩
      refine wpC_then (m := specialOf (.str hyphen u) (PySem.Str.ofString "__trunc__")) ?_
      refine wpAny_mono (Q := fun r s₂ => r = none ∧ s₂ = s₁) (E := fun _ _ => False) ?_ ?_ (fun _ _ e => e.elim)
      · have f5 := KIN.str_trunc
        obtain ⟨hp, g, d, tk, os⟩ := s₁
        wp_walk
        all_goals first | exact ⟨rfl, rfl⟩ | skip
      · rintro r s₂ ⟨rfl, rfl⟩
        refine wpC_then (m := (int_private% "numeralText?") (.str hyphen u)) ?_
        refine wpAny_mono (Q := fun r s₃ => r = some [45] ∧ s₃ = s₂) (E := fun _ _ => False) ?_ ?_ (fun _ _ e => e.elim)
        · obtain ⟨hp, g, d, tk, os⟩ := s₂
          wp_walk
          all_goals exact ⟨by decide +kernel, rfl⟩
        · rintro r s₃ ⟨rfl, rfl⟩
          exact refuse_text hh h
theorem refuse_new {u : Tok} {Q : Fin → Shared → Prop} (hh : A.handled = none) (h : ∀ h' tk e, Heap.NewExc s.heap h' e "ValueError" → E (.ref e) { s with heap := h', toks := tk }) :
    wpC (model prog w) A (Builtin.«int.__new__» ⟨[.type "int", .str hyphen u], []⟩) Q E s := by
  refine wpC_then (m := isType (.type "int")) (wpAny_eq (a := true) rfl ?_)
  refine wpC_then (m := isSubtype (.type "int") (.type "int")) (wpAny_eq F.conv_sub_int ?_)
  refine wpC_then (m := Bind.madeHere "int.__new__" (.type "int")) (wpAny_eq F.madeHere_int ?_)
  refine wpC_bind (m := (int_private% "intFromObject") (.str hyphen u)) ?_
  exact refuse_object hh h
end
end Mine
end
section
open PySem PySem.W PySem.Calls PyProof.Rows
open Sem (wp)
set_option linter.unusedVariables false
set_option maxRecDepth 100000
namespace Mine
section
variable {prog : Program} {w : World} {A : Around} {E : Value → Shared → Prop} {s : Shared}
theorem codeC_builtin {id : String} {args : Args} {b : Builtin} {R : Result → Shared → Prop} (hb : entryFor table id = some b)
    (h : wpC (model prog w) (A.under (.builtin id args)) (b args) (FinC (model prog w) A R) (fun e s' => R (.error e) s') s) : codeC (model prog w) A (.builtin id args) R s := by
  refine codeC_of_tree ?_
  show wpC _ _ (match entryFor table id with | some b => b args | none => unsupported ((withoutEnding? id "#data").getD id)) _ _ s
  rw [hb]; exact h
theorem codeC_call_builtin {id : String} {args : Args} {b : Builtin} {R : Result → Shared → Prop} (hq : plainId id = true) (hb : entryFor table id = some b) (hn : checkBuiltinCall id args = pure ())
    (h : wpC (model prog w) A.in1 (b args) (FinC (model prog w) A R) (fun e s' => R (.error e) s') s) : codeC (model prog w) A (.call (.builtin id) args) R s := by
  refine codeC_of_tree ?_
  show wpC _ A.in1 (do checkBuiltinCall id args; again (.builtin id args)) _ _ s
  refine wpC_then (wpAny_eq hn (wpC_pure ⟨plainId_quiet hq args, codeC_builtin hb ?_⟩))
  rw [Around.under_plainId hq args]; exact h
theorem refuse_call {u : Tok} {Q : Value → Shared → Prop} (hh : A.handled = none) (h : ∀ h' tk e, Heap.NewExc s.heap h' e "ValueError" → E (.ref e) { s with heap := h', toks := tk }) :
    wpC (model prog w) A (call (.type "int") [.str hyphen u]) Q E s := by
  refine wpC_call (codeC_of_tree ?_)
  show wpC _ _ (callAny (.type "int") _) _ _ _
  refine wpC_pure ⟨Code.quiet_builtin _ (by decide +kernel), codeC_builtin F.entry_type_call ?_⟩
  rw [Around.under_plain (weight_type_call_type "int" [.str hyphen u] []) (units_type_call_type "int" [.str hyphen u] [])]
  unfold Builtin.«type.__call__»
  have h1 := F.called_int.notType
  have h2 := F.called_int.canCreate
  have h3 := F.called_int.made
  have h4 := F.typeCall_int_1 (.str hyphen u)
  simp only [h1, h2, h3, h4, F.mro_int, List.isEmpty_cons, Bool.false_eq_true, if_false, pure_bind]
  exact wpC_bind (wpC_holding (wpC_call (codeC_call_builtin F.called_int.plain F.entry_int_new (F.newCall_int_1 _) (refuse_new hh h))))

/-! what a def does when it is called, the caller below -/
theorem codeC_func {body : List Stmt} {env : Env} {R : Result → Shared → Prop}
    (h : wpC (model prog w) (A.deeper env) (execs body env) (fun f s' => R (.ok (.ret (match f with | .ret v => v | _ => .none))) s')
      (fun e s' => wpAny (model prog w) (A.deeper env) (leaving env e) (fun _ s'' => R (.error e) s'') (fun e' s'' => R (.error e') s'') s') s) :
    codeC (model prog w) A (.func body env) R s := by
  refine codeC_of_tree ?_
  show wpC _ (A.deeper env) (do point; match ← (execs body env).onRaise (leaving env) with | .ret v => ret v | _ => ret .none) _ _ s
  refine wpC_then (wpAny_point (wpC_bind ?_))
  intro Γ p hΓ hc
  rw [Sem.wp_onRaise]
  refine Sem.wp_mono _ Γ _ (fun f p' s' h' => ?_) (fun e p' s' h' => h' Γ p' hΓ) p s (h Γ p hΓ hc)
  cases f <;> exact wpC_pure h'
theorem codeC_call_function {a : Addr} {args : Args} {o : Obj} {fd : FuncData} {body : List Stmt} {R : Result → Shared → Prop} (hroom : A.depth < recursionLimit)
    (ho : s.heap.get? a = some o) (hd' : o.data = .func fd) (hco : fd.scope.isCoroutine = false) (hgen : fd.scope.isGenerator = false) (hbody : fd.body = .stmts body) (hcd : s.heap.CodeRec fd.code fd.qualname)
    (h : wpAny (model prog w) A.in1 (bindArgs fd args) (fun binds s₁ =>
      wpAny (model prog w) A.in1 (newFunctionEnv fd.scope fd.globals fd.closure binds (fd.qualname ++ ".<locals>.") (some a) fd.code none fd.builtins)
        (fun env s₂ => s₂.heap.NoLimit ∧ codeC (model prog w) A (.func body env) R s₂) (fun e s' => R (.error e) s') s₁) (fun e s' => R (.error e) s') s) :
    codeC (model prog w) A (.call (.ref a) args) R s := by
  refine codeC_of_tree ?_
  show wpC _ A.in1 (callAny (.ref a) args) _ _ s
  simp only [callAny]
  refine wpC_then (wpAny_load ho ?_)
  refine hide fun PH kP => ?_
  obtain ⟨c, oc, vs, tq, hc, hoc, hdc, hq⟩ := hcd
  refine kP ?_
  clear kP PH
  simp only [hd', callFunction, hco, hgen, hbody, hc]
  rw [hc] at h
  refine wpC_then (m := field (.ref c) 1) (wpAny_field hoc hdc hq (wpC_then (wpAny_pure ?_)))
  exact wpC_then (wpAny_mono h (fun binds s₁ h₁ => wpC_then (wpAny_mono h₁ (fun env s₂ h₂ => wpC_then (wpAny_enterFrame h₂.1 hroom (wpC_pure ⟨rfl, h₂.2⟩))) fun _ _ e => e)) fun _ _ e => e)

section
variable {A₀ : Around} {base h₀ : Heap} {outer : List Env} {L : Addr} {m mg mb : Str → Option Value} {env : Env} {news : List (Addr × Obj)} {K : Frag} {p : Program} {loose : List Str} {mean : ExcName → Option Value}
  {R : Result → Shared → Prop} {name qual : Str} {params : Arguments} {body : List Stmt} {scope : Scope} {dV kV doc pm cdv ct oc : Value} {an od : Option Addr} {osl : Array (Option Value)} {f : Addr} {args : Args} {binds : List (Str × Value)}
/-- a def of the text's, called from a def's frame: the spine goes into its body -/
theorem codeC_def (B : Below A₀ base outer h₀) (F : Fr h₀ L s.heap m) (X₀ : K.In h₀) (N : News h₀ L s.heap news) (T : Top p loose mean mg mb h₀) (hA : A.frames = some (env :: outer)) (hf : env.frame = some L) (hke : env.scope.kind = .function)
    (ho : K.lookup f = some ⟨oc, od, .func (fnOf name qual params body scope dV kV doc pm an cdv ct), osl⟩) (hcd : codeIn K cdv qual = true) (hroom : A.depth < recursionLimit)
    (hbind : BindsTo s (fnOf name qual params body scope dV kV doc pm an cdv ct) args binds) (hloc : ∀ y ∈ binds, scope.names.lookup y.1 = some .local)
    (h : ∀ g L' h₁, Fr h₀ L g m → Fr g L' h₁ (fun y => binds.reverse.lookup y) → News g L' h₁ news → Below A base (env :: outer) g → K.In g → Top p loose mean mg mb g →
      wpC (model prog w) (A.deeper (envOf qual scope L' f cdv)) (execs body (envOf qual scope L' f cdv))
        (fun fl s' => LeaveK h₀ L m g R (match fl with | .ret v => v | _ => .none) s')
        (fun e s' => wpAny (model prog w) (A.deeper (envOf qual scope L' f cdv)) (leaving (envOf qual scope L' f cdv) e) (fun _ s'' => R (.error e) s'') (fun e' s'' => R (.error e') s'') s')
        { s with heap := h₁, toks := s.toks + binds.length })
    (hco : scope.isCoroutine = false) (hgen : scope.isGenerator = false) (hk : scope.kind = .function)
    (hcell : ∀ x ∈ scope.names, x.2 ≠ .cell) : codeC (model prog w) A (.call (.ref f) args) R s := by
  obtain ⟨FG, BG, st, lv⟩ := groundX (R := R) B F N hA hf hke
  have X := X₀.keeps F.keep
  refine codeC_call_function (fd := fnOf name qual params body scope dV kV doc pm an cdv ct) (body := body) hroom (X _ _ ho) rfl hco hgen rfl (codeRec_of X hcd) (hbind _ _ _ _ ?_)
  refine wpAny_newFunctionEnv hcell hloc (fun h₁ hns hsb => ⟨(T.nolimit.keeps F.keep).fresh _ hsb, codeC_func ?_⟩) hk
  have hk₁ : ∀ b o, s.heap.get? b = some o → h₁.get? b = some o := fun b o e => hsb.extBut b o (Nat.ne_of_lt (Heap.lt_size e)) (Heap.get?_push_of_some _ e)
  exact wpC_mono (h _ s.heap.objs.size h₁ FG ⟨hns, fun b o e => hk₁ b o (of_hideAll _ e), Nat.le_of_eq (hideAll_size _ _)⟩
    (fun p hp => ⟨hk₁ _ _ (N p hp).1, Nat.ne_of_lt (Heap.lt_size (N p hp).1), hideAll_none _ (List.mem_map_of_mem hp)⟩) BG (X₀.keeps st) (T.keeps st)) (fun fl s' hl => lv _ _ hl) fun _ _ y => y
end

/-! statements and calls on the spine -/
section
variable {env : Env}
theorem wpC_execs_cons {st : Stmt} {rest : List Stmt} {Q : Flow → Shared → Prop} {M : Model}
    (h : wpC M A (exec st env) (fun f s' => match f with | .next => wpC M A (execs rest env) Q E s' | f => Q f s') E s) : wpC M A (execs (st :: rest) env) Q E s := by
  rw [execs_cons]
  refine wpC_bind (wpC_mono h (fun f s' h' => ?_) fun _ _ x => x)
  cases f <;> first | exact h' | exact wpC_pure h'
theorem wpC_execs_then {st : Stmt} {rest : List Stmt} {Q : Flow → Shared → Prop} {M : Model}
    (h : wpAny M A (exec st env) (fun f s' => match f with | .next => wpC M A (execs rest env) Q E s' | f => Q f s') E s) : wpC M A (execs (st :: rest) env) Q E s := wpC_execs_cons (wpC_of h)
theorem wpC_Expr {e : Expr} {pos : Pos} {Q : Flow → Shared → Prop} (h : wpC (model prog w) A (eval e env) (fun _ => Q .next) E s)
    (hi : interactive env = false := by rfl) (hs : swapsWith e none pos.line env = pure false := by rfl) : wpC (model prog w) A (exec (.Expr e pos) env) Q E s := by
  rw [exec_Expr env e pos hi hs]
  exact wpC_at (wpC_bind (wpC_mono h (fun v s' h' => wpC_of (wpAny_dropValue h')) fun _ _ x => x))
theorem wpC_Assign_Name {x : Str} {pos' pos : Pos} {value : Expr} {M : Model} {Q : Flow → Shared → Prop}
    (h : wpC M A (eval value env) (fun v s₁ => wpAny M A (storeName env x v) (fun _ => Q .next) E s₁) E s)
    (hs : swapsWith value (some (.Name x pos')) pos.line env = pure false := by rfl) : wpC M A (exec (.Assign [.Name x pos'] value pos) env) Q E s := by
  rw [exec_Assign_Name env x pos' value pos hs]
  exact wpC_at (wpC_bind (wpC_mono h (fun v s₁ h₁ => wpC_at (wpC_then (wpAny_bindName (wpAny_mono h₁ (fun _ _ q => wpC_pure q) fun _ _ x => x)))) fun _ _ x => x))
theorem wpC_If {test : Expr} {body orelse : List Stmt} {pos : Pos} {M : Model} {Q : Flow → Shared → Prop}
    (h : wpC M A (isTrue test env (eval test env)) (fun b s₂ => if b then wpAny M A (execs body env) Q E s₂ else wpAny M A (execs orelse env) Q E s₂) E s) : wpC M A (exec (.If test body orelse pos) env) Q E s := by
  rw [exec_If]
  refine wpC_at (wpC_bind (wpC_mono h (fun b s₂ h₂ => ?_) fun _ _ x => x))
  cases b <;> exact wpC_of h₂
theorem wpC_Try_except {body orelse : List Stmt} {h₀ : ExceptHandler} {hs : List ExceptHandler} {pos : Pos} {M : Model} {Q : Flow → Shared → Prop}
    (h : wpC M A (execs body env) (fun f s₁ => match f with | .next => wpC M A (execs orelse env) Q E s₁ | f => Q f s₁)
      (fun e s₁ => wpAny M A (noteFrame e env) (fun _ s₂ => wpAny M A (setFlight e none) (fun _ s₃ => wpAny M A (handleBy e env (h₀ :: hs)) Q E s₃) E s₂) E s₁) s) :
    wpC M A (exec (.Try body (h₀ :: hs) orelse [] pos) env) Q E s := by
  rw [arm_exec_Try]
  refine wpC_at ?_
  unfold tryStmt
  simp only [List.isEmpty_nil, if_true, List.isEmpty_cons, Bool.false_and, Bool.false_eq_true, if_false]
  refine wpC_bind (wpC_attempt (wpC_mono h (fun f s₁ h₁ => ?_) fun e s₁ h₁ => ?_))
  · cases f <;> first | exact h₁ | exact wpC_pure h₁
  · exact wpC_then (wpAny_mono h₁ (fun _ _ h₂ => wpC_then (wpAny_mono h₂ (fun _ _ h₃ => wpC_of h₃) fun _ _ x => x)) fun _ _ x => x)
theorem wpC_Not {x : Expr} {pos : Pos} {whole : Sem Value} {M : Model} {Q : Bool → Shared → Prop} (h : wpC M A (isTrue x env (eval x env)) (fun b s₁ => Q (!b) s₁) E s) :
    wpC M A (isTrue (.UnaryOp .Not x pos) env whole) Q E s := by
  rw [arm_isTrue_UnaryOp]
  exact wpC_bind (wpC_mono h (fun b s₁ h₁ => wpC_pure h₁) fun _ _ x => x)
theorem wpC_value {e : Expr} {whole : Sem Value} {M : Model} {Q : Bool → Shared → Prop} (h : wpC M A whole (fun v s₁ => wpAny M A (truthy v) Q E s₁) E s)
    (he : isTrue e env whole = (do let v ← whole; standAt e.pos; holding [v] (truthy v)) := by rfl) : wpC M A (isTrue e env whole) Q E s := by
  rw [he]
  exact wpC_bind (wpC_mono h (fun v s₁ h₁ => wpC_at (wpC_holding (wpC_of h₁))) fun _ _ x => x)
theorem wpC_BoolOp {op : BoolOp} {values : List Expr} {pos : Pos} {whole : Sem Value} {M : Model} {Q : Bool → Shared → Prop} (h : wpC M A (allTrue op values env) Q E s) :
    wpC M A (isTrue (.BoolOp op values pos) env whole) Q E s := by rw [arm_isTrue_BoolOp]; exact h
theorem wpC_or_then {x : Expr} {rest : List Expr} {M : Model} {Q : Bool → Shared → Prop}
    (h : wpAny M A (isTrue x env (eval x env)) (fun b s₁ => if b then Q true s₁ else wpC M A (allTrue .Or rest env) Q E s₁) E s) : wpC M A (allTrue .Or (x :: rest) env) Q E s := by
  show wpC M A (do match BoolOp.Or, ← isTrue x env (eval x env) with | .And, false => pure false | .Or, true => pure true | _, _ => allTrue .Or rest env) Q E s
  refine wpC_then (wpAny_mono h (fun b s₁ h₁ => ?_) fun _ _ x => x)
  cases b
  · exact h₁
  · exact wpC_pure h₁
theorem wpC_or_last {x : Expr} {M : Model} {Q : Bool → Shared → Prop}
    (h : wpC M A (isTrue x env (eval x env)) (fun b s₁ => Q b s₁) E s) : wpC M A (allTrue .Or [x] env) Q E s := by
  show wpC M A (do match BoolOp.Or, ← isTrue x env (eval x env) with | .And, false => pure false | .Or, true => pure true | _, _ => allTrue .Or [] env) Q E s
  refine wpC_bind (wpC_mono h (fun b s₁ h₁ => ?_) fun _ _ x => x)
  cases b <;> exact wpC_pure h₁
theorem wpC_Call {id : Str} {p pos : Pos} {args : List Expr} {keywords : List Keyword} {M : Model} {Q : Value → Shared → Prop}
    (h : wpAny M A (eval (.Name id p) env) (fun f s₁ => wpC M A (callWith pos f [] (backTo pos (starEach args env)) (backToKw pos (keywordEach keywords env))) Q E s₁) E s) :
    wpC M A (eval (.Call (.Name id p) args keywords pos) env) Q E s := by
  rw [arm_eval_Call_Name']
  exact wpC_then h
theorem wpC_callWith {P : Heap → Prop} {pos : Pos} {f : Value} {first : List Value} {args : List (Bool × Sem Value)} {M : Model} {Q : Value → Shared → Prop} (hplain : args.any (·.1) = false)
    (hk : ∀ h, P h → ∃ k, (k = Keeper.frame ∨ k = Keeper.machine ∨ k = Keeper.boundFrame) ∧ Looks M h (keeperOf f) k)
    (h : wpAny M A (evalArgs f true args []) (fun a s₁ => P s₁.heap ∧ wpC M A (call f (first ++ a.pos) a.kw) Q E s₁) E s) : wpC M A (callWith pos f first args []) Q E s := by
  unfold callWith
  refine wpC_bind (wpC_holding (wpC_of (wpAny_mono h (fun a s₁ h₁ => wpC_at ?_) fun _ _ x => x)))
  obtain ⟨k, hk', L⟩ := hk _ h₁.1
  simp only [hplain, List.any_nil, Bool.or_false]
  refine wpC_then (L.here ?_)
  have tail : ∀ {t : Sem Value}, wpC M A t Q E s₁ → wpC M A (t >>= fun r => holding [r] point >>= fun _ => pure r) Q E s₁ :=
    fun ht => wpC_bind (wpC_mono ht (fun r s₂ hr => wpC_then (wpAny_holding (wpAny_point (wpC_pure hr)))) fun _ _ x => x)
  have marked (mk : Value) : wpC M A (callMarked mk f (first ++ a.pos) a.kw) Q E s₁ := by unfold callMarked; exact wpC_keep h₁.2
  rcases hk' with rfl | rfl | rfl <;> dsimp only <;> first | exact tail h₁.2 | (split <;> first | exact tail h₁.2 | exact tail (marked _))
theorem wpC_callWith_type {T : String} {pos : Pos} {first : List Value} {args : List (Bool × Sem Value)} {M : Model} {Q : Value → Shared → Prop} (hplain : args.any (·.1) = false)
    (h : wpAny M A (evalArgs (.type T) true args []) (fun a s₁ => wpC M A (call (.type T) (first ++ a.pos) a.kw) Q E s₁) E s) : wpC M A (callWith pos (.type T) first args []) Q E s := by
  unfold callWith
  refine wpC_bind (wpC_holding (wpC_of (wpAny_mono h (fun a s₁ h₁ => wpC_at ?_) fun _ _ x => x)))
  simp only [hplain, List.any_nil, Bool.or_false]
  refine wpC_then (wpAny_pure ?_)
  exact wpC_bind (wpC_mono h₁ (fun r s₂ hr => wpC_then (wpAny_holding (wpAny_point (wpC_pure hr)))) fun _ _ x => x)
theorem wpC_callWith_K {K : Frag} {h₀ : Heap} {f : Value} {pos : Pos} {first : List Value} {e : Expr} {rest : List Expr} {M : Model} {Q : Value → Shared → Prop} (_X : K.In h₀) (hk : keepIn K f = true)
    (h : wpAny M A (spliced (backTo pos (starEach (e :: rest) env))) (fun vs s₁ => K.In s₁.heap ∧ wpC M A (call f (first ++ vs)) Q E s₁) E s)
    (he : starEach (e :: rest) env = (false, eval e env) :: starEach rest env := by rfl) (hplain : (backTo pos (starEach rest env)).any (·.1) = false := by rfl) :
    wpC M A (callWith pos f first (backTo pos (starEach (e :: rest) env)) []) Q E s := by
  rw [he] at h ⊢
  exact wpC_callWith (by show (false || (backTo pos (starEach rest env)).any (·.1)) = false; rw [hplain]; rfl) (keeps_K hk) (evalArgs_plain h)
theorem wpC_callWith_T {T : String} {pos : Pos} {first : List Value} {e : Expr} {rest : List Expr} {M : Model} {Q : Value → Shared → Prop}
    (h : wpAny M A (spliced (backTo pos (starEach (e :: rest) env))) (fun vs s₁ => wpC M A (call (.type T) (first ++ vs)) Q E s₁) E s)
    (he : starEach (e :: rest) env = (false, eval e env) :: starEach rest env := by rfl) (hplain : (backTo pos (starEach rest env)).any (·.1) = false := by rfl) :
    wpC M A (callWith pos (.type T) first (backTo pos (starEach (e :: rest) env)) []) Q E s := by
  rw [he] at h ⊢
  exact wpC_callWith_type (by show (false || (backTo pos (starEach rest env)).any (·.1)) = false; rw [hplain]; rfl) (evalArgs_plain h)
end

section
variable {A₀ : Around} {base h₀ : Heap} {L : Addr} {m mg mb : Str → Option Value} {env : Env} {news : List (Addr × Obj)} {K : Frag} {p : Program} {loose : List Str} {mean : ExcName → Option Value}
  {R : Result → Shared → Prop} {name qual : Str} {params : Arguments} {body : List Stmt} {scope : Scope} {dV kV doc pm cdv ct oc : Value} {an od : Option Addr} {osl : Array (Option Value)} {f : Addr} {args : Args} {binds : List (Str × Value)}
/-- the same, from the law's own frame; a try within may turn the frames' marks -/
theorem codeC_defS (B : Below A₀ base [] h₀) (F : Fr h₀ L s.heap m) (X₀ : K.In h₀) (N : News h₀ L s.heap news) (T : Top p loose mean mg mb h₀) (hA : A.frames = some [env]) (hf : env.frame = some L) (hke : env.scope.kind = .function)
    (ho : K.lookup f = some ⟨oc, od, .func (fnOf name qual params body scope dV kV doc pm an cdv ct), osl⟩) (hcd : codeIn K cdv qual = true) (hroom : A.depth < recursionLimit)
    (hbind : BindsTo s (fnOf name qual params body scope dV kV doc pm an cdv ct) args binds) (hloc : ∀ y ∈ binds, scope.names.lookup y.1 = some .local)
    (h : ∀ g L' h₁, Fr h₀ L g m → Fr g L' h₁ (fun y => binds.reverse.lookup y) → News g L' h₁ news → Below A base [env] g → K.In g → Top p loose mean mg mb g → KtsDicts ([env].filterMap (·.frame)) g →
      wpC (model prog w) (A.deeper (envOf qual scope L' f cdv)) (execs body (envOf qual scope L' f cdv))
        (fun fl s' => LeaveS0 ([env].filterMap (·.frame)) h₀ L m g R (match fl with | .ret v => v | _ => .none) s')
        (fun e s' => wpAny (model prog w) (A.deeper (envOf qual scope L' f cdv)) (leaving (envOf qual scope L' f cdv) e) (fun _ s'' => R (.error e) s'') (fun e' s'' => R (.error e') s'') s')
        { s with heap := h₁, toks := s.toks + binds.length })
    (hco : scope.isCoroutine = false) (hgen : scope.isGenerator = false) (hk : scope.kind = .function)
    (hcell : ∀ x ∈ scope.names, x.2 ≠ .cell) : codeC (model prog w) A (.call (.ref f) args) R s := by
  obtain ⟨FG, BG, st, -⟩ := groundX (R := R) B F N hA hf hke
  have X := X₀.keeps F.keep
  have hfs : [env].filterMap (·.frame) = [L] := by rw [List.filterMap_cons, hf]; rfl
  refine codeC_call_function (fd := fnOf name qual params body scope dV kV doc pm an cdv ct) (body := body) hroom (X _ _ ho) rfl hco hgen rfl (codeRec_of X hcd) (hbind _ _ _ _ ?_)
  refine wpAny_newFunctionEnv hcell hloc (fun h₁ hns hsb => ⟨(T.nolimit.keeps F.keep).fresh _ hsb, codeC_func ?_⟩) hk
  have hk₁ : ∀ b o, s.heap.get? b = some o → h₁.get? b = some o := fun b o e => hsb.extBut b o (Nat.ne_of_lt (Heap.lt_size e)) (Heap.get?_push_of_some _ e)
  refine hide fun PH kP => ?_
  obtain ⟨oL, es, ep, hLg, hLd, hLk, hLf⟩ := FG.ns
  refine kP ?_
  clear kP PH
  refine wpC_mono (h _ s.heap.objs.size h₁ FG ⟨hns, fun b o e => hk₁ b o (of_hideAll _ e), Nat.le_of_eq (hideAll_size _ _)⟩
    (fun p hp => ⟨hk₁ _ _ (N p hp).1, Nat.ne_of_lt (Heap.lt_size (N p hp).1), hideAll_none _ (List.mem_map_of_mem hp)⟩) BG (X₀.keeps st) (T.keeps st) (fun b hb => ?_)) (fun fl s' hl => ?_) fun _ _ y => y
  · rw [hfs] at hb
    rw [List.mem_singleton.mp hb]
    exact ⟨oL, es, ep, hLg, hLd⟩
  · refine hide fun PH kP => ?_
    obtain ⟨g', L', m', news', T', F', N', k⟩ := hl
    refine kP ?_
    clear kP PH
    obtain ⟨sl, hs⟩ := T'.up hLg
    refine k ⟨⟨_, es, ep, F'.keep _ _ hs, hLd, hLk, hLf⟩, fun b o e => F'.keep b o (T'.other b o (st b o e) (fun q => ?_)), F.above⟩ fun p hp => ⟨(N' p hp).1, fun q => ?_, ?_⟩
    · rw [hfs] at q
      rw [List.mem_singleton.mp q, kts_self F] at e
      cases e
    · have := (N' p hp).2.2; rw [q, hs] at this; cases this
    · cases q : h₀.get? p.1 with
      | none => rfl
      | some o =>
        obtain ⟨sl', hs'⟩ := T'.up (st _ _ q)
        have := (N' p hp).2.2; rw [hs'] at this; cases this
end
end
end Mine
end
section
open PySem PySem.W PySem.Calls PyProof.Rows PySem.Spec
set_option Elab.async false
set_option maxRecDepth 100000
set_option linter.unusedVariables false
namespace Mine
open PyProof.Rows.LCg (NsObj lst lst_snoc ns_obj fr_but news_but)

theorem compTurn2_in (elt t1 i1 t2 i2 : Expr) (ifs : List Expr) (scope : Scope) (pos : Pos) (it acc : Value) (env : Env) :
    compTurn (.ListComp elt [⟨t1, i1, [], 0⟩, ⟨t2, i2, ifs, 0⟩] scope pos) 1 it acc env = (do
      standAt i2.pos
      match ← pyNext it with
      | none => pure (.done .next)
      | some v =>
        letOwnedTupleGo t2 it v
        assign t2 env v
        let mut ok := true
        for c in ifs do
          if ok then ok ← isTrue c env (eval c env)
        if ok then
          (do let _ ← call (.builtin "list.append") [acc, ← eval elt env])
        again (.compLoop (.ListComp elt [⟨t1, i1, [], 0⟩, ⟨t2, i2, ifs, 0⟩] scope pos) 1 it acc env)) := by rfl

theorem compTurn2_out (elt t1 i1 t2 i2 : Expr) (ifs : List Expr) (scope : Scope) (pos : Pos) (it acc : Value) (env : Env) :
    compTurn (.ListComp elt [⟨t1, i1, [], 0⟩, ⟨t2, i2, ifs, 0⟩] scope pos) 0 it acc env = (do
      standAt i1.pos
      match ← pyNext it with
      | none => pure (.done .next)
      | some v =>
        letOwnedTupleGo t1 it v
        assign t1 env v
        let mut ok := true
        for c in ([] : List Expr) do
          if ok then ok ← isTrue c env (eval c env)
        if ok then
          let x ← eval i2 env
          standAt i2.pos
          let x ← foldedSetIterable i2 env x
          let _ ← runOwn (.compStart (.ListComp elt [⟨t1, i1, [], 0⟩, ⟨t2, i2, ifs, 0⟩] scope pos) 1 (← holding [x] (pyIter x)) acc env) env
        again (.compLoop (.ListComp elt [⟨t1, i1, [], 0⟩, ⟨t2, i2, ifs, 0⟩] scope pos) 0 it acc env)) := by rfl

/-- the loop rule of a clause that tests and makes the element -/
noncomputable def LastRule (prog : Program) (w : World) (A : Around) (mk : Value → Value → Env → Code) (target : Expr) (ifs : List Expr) (elt : Expr) : Prop :=
  ∀ (it acc : Value) (env : Env) (R : Result → Shared → Prop) (I : Nat → Shared → Prop),
    (∀ n s, I n s → wpAny (model prog w) A (pyNext it) (fun r s₁ => match r with
      | none => R (.ok .next) s₁
      | some v => wpAny (model prog w) A (assign target env v) (fun _ s₂ =>
          wpAny (model prog w) A (forIn ifs true fun c r => if r = true then do let ok ← isTrue c env (eval c env); pure (ForInStep.yield ok) else pure (ForInStep.yield r)) (fun ok s₃ =>
            if ok = true then wpAny (model prog w) A (eval elt env) (fun x s₄ =>
              wpAny (model prog w) A (call (.builtin "list.append") [acc, x]) (fun _ s₅ => ∃ m, m < n ∧ I m s₅) (fun _ _ => False) s₄) (fun _ _ => False) s₃
            else ∃ m, m < n ∧ I m s₃) (fun _ _ => False) s₂) (fun _ _ => False) s₁) (fun _ _ => False) s) →
    ∀ n s, I n s → codeAny (model prog w) A (mk it acc env) R s

section
variable {prog : Program} {w : World} {A : Around} {R : Result → Shared → Prop} {s : Shared}

theorem rule_one {elt iter : Expr} {x : Str} {px : Pos} {ifs : List Expr} {scope : Scope} {pos : Pos} :
    LastRule prog w A (fun it acc env => .compLoop (.ListComp elt [⟨.Name x px, iter, ifs, 0⟩] scope pos) 0 it acc env) (.Name x px) ifs elt := by
  intro it acc env R I turn n s h
  refine codeAny_compLoop_tests I (fun n s hI => wpAny_mono (turn n s hI) (fun r s₁ h₁ => ?_) fun _ _ e => e.elim) n h
  cases r with
  | none => exact h₁
  | some v =>
    refine wpAny_mono h₁ (fun _ s₂ h₂ => wpAny_mono h₂ (fun ok s₃ h₃ => ?_) fun _ _ e => e.elim) fun _ _ e => e.elim
    cases ok with
    | false => exact h₃
    | true => exact wpAny_mono h₃ (fun _ _ h₄ => wpAny_mono h₄ (fun _ _ x => x) fun _ _ e => e.elim) fun _ _ e => e.elim

theorem rule_two {elt t1 i1 i2 : Expr} {y : Str} {py : Pos} {ifs : List Expr} {scope : Scope} {pos : Pos} :
    LastRule prog w A (fun it acc env => .compLoop (.ListComp elt [⟨t1, i1, [], 0⟩, ⟨.Name y py, i2, ifs, 0⟩] scope pos) 1 it acc env) (.Name y py) ifs elt := by
  intro it acc env R I turn n s h
  refine codeAny_loop rfl I (fun n s hI => ?_) n h
  show wpAny _ A ((compTurn (.ListComp elt [⟨t1, i1, [], 0⟩, ⟨.Name y py, i2, ifs, 0⟩] scope pos) 1 it acc env).onRaise (fun x => do noteFrame x env; theTreesLotGoes x)) _ _ s
  refine wpAny_noted ?_
  rw [compTurn2_in]
  refine wpAny_bind (wpAny_standAt (wpAny_bind (wpAny_mono (turn n s hI) (fun r s₁ h₁ => ?_) fun _ _ e => e.elim)))
  cases r with
  | none => exact wpAny_pure h₁
  | some v =>
    refine wpAny_bind (wpAny_of_eq (a := ()) rfl ?_)
    refine wpAny_bind (wpAny_mono h₁ (fun _ s₂ h₂ => wpAny_bind (wpAny_mono h₂ (fun ok s₃ h₃ => ?_) fun _ _ e => e.elim)) fun _ _ e => e.elim)
    cases ok with
    | false => exact wpAny_pure ⟨rfl, h₃⟩
    | true =>
      exact wpAny_bind (wpAny_bind (wpAny_mono h₃ (fun x s₄ h₄ => wpAny_bind (wpAny_mono h₄ (fun _ s₅ h₅ => wpAny_pure (wpAny_pure ⟨rfl, h₅⟩)) fun _ _ e => e.elim)) fun _ _ e => e.elim))

theorem rule_out {elt i1 i2 t2 : Expr} {x : Str} {px : Pos} {ifs : List Expr} {scope : Scope} {pos : Pos} {it acc : Value} {env : Env} (I : Nat → Shared → Prop)
    (turn : ∀ n s, I n s → wpAny (model prog w) A (pyNext it) (fun r s₁ => match r with
      | none => R (.ok .next) s₁
      | some v => wpAny (model prog w) A (assign (.Name x px) env v) (fun _ s₂ =>
          wpAny (model prog w) A (eval i2 env) (fun xv s₃ => wpAny (model prog w) A (pyIter xv) (fun it' s₄ =>
            codeAny (model prog w) A (.compStart (.ListComp elt [⟨.Name x px, i1, [], 0⟩, ⟨t2, i2, ifs, 0⟩] scope pos) 1 it' acc env) (fun r s₅ => r = .ok .next ∧ ∃ m, m < n ∧ I m s₅) s₄)
            (fun _ _ => False) s₃) (fun _ _ => False) s₂) (fun _ _ => False) s₁) (fun _ _ => False) s)
    (n : Nat) (h : I n s) (hs : ∀ x, foldedSetIterable i2 env x = pure x := by intro _; rfl) :
    codeAny (model prog w) A (.compLoop (.ListComp elt [⟨.Name x px, i1, [], 0⟩, ⟨t2, i2, ifs, 0⟩] scope pos) 0 it acc env) R s := by
  refine codeAny_loop rfl I (fun n s hI => ?_) n h
  show wpAny _ A ((compTurn (.ListComp elt [⟨.Name x px, i1, [], 0⟩, ⟨t2, i2, ifs, 0⟩] scope pos) 0 it acc env).onRaise (fun x => do noteFrame x env; theTreesLotGoes x)) _ _ s
  refine wpAny_noted ?_
  rw [compTurn2_out]
  refine wpAny_bind (wpAny_standAt (wpAny_bind (wpAny_mono (turn n s hI) (fun r s₁ h₁ => ?_) fun _ _ e => e.elim)))
  cases r with
  | none => exact wpAny_pure h₁
  | some v =>
    refine wpAny_bind (wpAny_of_eq (a := ()) rfl ?_)
    refine wpAny_bind (wpAny_mono h₁ (fun _ s₂ h₂ => ?_) fun _ _ e => e.elim)
    refine wpAny_bind (wpAny_tests_nil ?_)
    simp only [if_true]
    refine wpAny_bind (wpAny_mono h₂ (fun xv s₃ h₃ => ?_) fun _ _ e => e.elim)
    refine wpAny_bind (wpAny_standAt (wpAny_bind (wpAny_of_eq (hs xv) ?_)))
    refine wpAny_bind (wpAny_holding (wpAny_mono h₃ (fun it' s₄ h₄ => ?_) fun _ _ e => e.elim))
    refine wpAny_bind (wpAny_runOwn (codeAny_mono h₄ fun r s₅ h₅ => ?_))
    obtain ⟨rfl, h₅⟩ := h₅
    exact wpAny_pure ⟨rfl, h₅⟩

theorem start_two {elt t1 i1 t2 i2 : Expr} {ifs : List Expr} {scope : Scope} {pos : Pos} {it acc : Value} {env : Env} {R : Result → Shared → Prop}
    (h0 : codeAny (model prog w) A (.compLoop (.ListComp elt [⟨t1, i1, [], 0⟩, ⟨t2, i2, ifs, 0⟩] scope pos) 1 it acc env) R s)
    (h : wpAny (model prog w) A (pyIter it) (fun it' s' => codeAny (model prog w) A (.compLoop (.ListComp elt [⟨t1, i1, [], 0⟩, ⟨t2, i2, ifs, 0⟩] scope pos) 1 it' acc env) R s') (fun _ _ => False) s) :
    codeAny (model prog w) A (.compStart (.ListComp elt [⟨t1, i1, [], 0⟩, ⟨t2, i2, ifs, 0⟩] scope pos) 1 it acc env) R s := by
  refine codeAny_of_tree ?_
  show wpAny _ _ ((compStart (.ListComp elt [⟨t1, i1, [], 0⟩, ⟨t2, i2, ifs, 0⟩] scope pos) 1 it acc env).onRaise (fun x => do noteFrame x env; standAt theWindowsPlace)) _ _ s
  refine wpAny_notedAt ?_
  unfold compStart
  show wpAny _ _ (ask >>= _) _ _ s
  refine wpAny_bind (wpAny_askSetting (wpAny_ite ?_))
  split
  · first
      | exact wpAny_bind (wpAny_pure (wpAny_pure (And.intro rfl h0)))
      | exact wpAny_pure (And.intro rfl h0)
  · first
      | exact wpAny_bind (wpAny_rule (wpAny_bind (wpAny_standAt (wpAny_bind (wpAny_mono h (fun it' s' h' => wpAny_pure (And.intro rfl h')) fun _ _ x => x.elim)))))
      | (refine wpAny_bind (wpAny_rule ?_); show wpAny _ _ (standAt i2.pos >>= _) _ _ s; exact wpAny_bind (wpAny_standAt (wpAny_bind (wpAny_mono h (fun it' s' h' => wpAny_pure (And.intro rfl h')) fun _ _ x => x.elim))))
end
end Mine
end
section
open PySem PySem.W PySem.Calls PyProof.Rows PySem.Spec
set_option Elab.async false
set_option maxRecDepth 100000
set_option linter.unusedVariables false
namespace Mine
open PyProof.Rows.LCg (NsObj lst lst_snoc ns_obj fr_but news_but)

noncomputable def upd (m : Str → Option Value) (x : Str) (v : Value) : Str → Option Value := fun z => if z = x then some v else m z

/-- what a turn's work leaves -/
noncomputable def BEnd (h₀ : Heap) (L : Addr) (m : Str → Option Value) (s₀ : Shared) (I : Addr) (oI : Obj) (C : Addr) (oC : Obj) (D : Addr) (oD : Obj) (rest : List (Addr × Obj) → Prop) (s₂ : Shared) : Prop :=
  ∃ h' tk nw', s₂ = { s₀ with heap := h', toks := tk } ∧ Fr h₀ L h' m ∧ News h₀ L h' ((I, oI) :: (C, oC) :: (D, oD) :: nw') ∧ (∀ p ∈ nw', p.1 ≠ I ∧ p.1 ≠ C ∧ p.1 ≠ D) ∧ rest nw'

/-- the same, where the list has grown within -/
noncomputable def OEnd (h₀ : Heap) (L : Addr) (m : Str → Option Value) (s₀ : Shared) (I : Addr) (oI : Obj) (C D : Addr) (rest : List Value → (Str → Option Value) → List (Addr × Obj) → Prop) (s₂ : Shared) : Prop :=
  ∃ h' tk ys m' nw', s₂ = { s₀ with heap := h', toks := tk } ∧ Fr h₀ L h' m ∧ h'.Ns C m' ∧ News h₀ L h' ((D, lst ys) :: (I, oI) :: nw') ∧ (∀ p ∈ nw', p.1 ≠ I ∧ p.1 ≠ C ∧ p.1 ≠ D) ∧ rest ys m' nw'

structure Places (h₀ : Heap) (L I C D : Addr) : Prop where
  IC : I ≠ C
  ID : I ≠ D
  CD : C ≠ D
  LI : L ≠ I
  LC : L ≠ C
  LD : L ≠ D
  I0 : h₀.get? I = none
  C0 : h₀.get? C = none
  D0 : h₀.get? D = none

section
variable {prog : Program} {w : World} {A : Around} {h₀ : Heap} {L I C D : Addr} {m : Str → Option Value} {s₀ : Shared} {env : Env} {fp : List Addr} {n : Nat} {P : Nat → Value → Prop} {St : Nat → Heap → Prop} {S : List (Addr × Obj) → Prop}

/-- one item is told and stored -/
theorem next_store {x : Str} {px : Pos} {i : Nat} {h : Heap} {tk : Nat} {ys : List Value} {m' : Str → Option Value} {nw : List (Addr × Obj)} {Q0 K : Shared → Prop} (W : Walks prog w A I fp [I] n P St) (pl : Places h₀ L I C D)
    (hloc : env.locals = C) (hx : env.kindOf x = some .local) (hp : (env.scope.kind == .class || (env.scope.kind == .module && env.locals != env.globals)) = false)
    (hCf : C ∉ fp) (hIo : ∀ i h, St i h → ∃ o, h.get? I = some o) (hlt : i < n) (st : St i h) (F : Fr h₀ L h m) (hn : h.Ns C m') (N : News h₀ L h ((D, lst ys) :: nw)) (off : ∀ p ∈ nw, p.1 ≠ I ∧ p.1 ≠ C ∧ p.1 ≠ D)
    (k : ∀ v oI oC h₃ tk₃, P i v → St (i + 1) h₃ → NsObj oC (upd m' x v) → Fr h₀ L h₃ m → News h₀ L h₃ ((I, oI) :: (C, oC) :: (D, lst ys) :: nw) → K { s₀ with heap := h₃, toks := tk₃ }) :
    wpAny (model prog w) A (pyNext (.ref I)) (fun r s₁ => match r with
      | none => Q0 s₁
      | some v => wpAny (model prog w) A (assign (.Name x px) env v) (fun _ s₂ => K s₂) (fun _ _ => False) s₁) (fun _ _ => False) { s₀ with heap := h, toks := tk } := by
  refine W.item i _ _ _ hlt st fun v h₂ tk₂ hPv st₂ hk₂ => ?_
  subst hloc
  refine wpAny_assign_Name (wpAny_storeName_local hx (hn.at' fun o e => hk₂ _ o (by simpa using Ne.symm pl.IC) e) (fun h₃ hn₃ hs₃ => ?_) hp)
  have st₃ : St (i + 1) h₃ := W.frame _ _ _ st₂ fun b hb o e => hs₃.extBut b o (fun q => hCf (by have q' : b = env.locals := q; rw [← q']; exact hb)) e
  obtain ⟨oI, heI⟩ := hIo _ _ st₃
  obtain ⟨oC, heC, hoC⟩ := ns_obj hn₃
  have F₃ : Fr h₀ L h₃ m := (fr_but F hk₂ pl.LI pl.I0).change hs₃ (Ne.symm pl.LC) pl.C0
  have N₂ : News h₀ L h₂ ((D, lst ys) :: nw) := news_but N hk₂ fun p hp => by
    rcases List.mem_cons.mp hp with rfl | hp
    · exact Ne.symm pl.ID
    · exact (off p hp).1
  refine k v oI oC h₃ _ hPv st₃ hoC F₃ fun p hp => ?_
  rcases List.mem_cons.mp hp with rfl | hp
  · exact ⟨heI, Ne.symm pl.LI, pl.I0⟩
  · rcases List.mem_cons.mp hp with rfl | hp
    · exact ⟨heC, Ne.symm pl.LC, pl.C0⟩
    · have z := N₂ p hp
      refine ⟨hs₃.extBut _ _ ?_ z.1, z.2⟩
      rcases List.mem_cons.mp hp with rfl | hp
      · exact Ne.symm pl.CD
      · exact (off p hp).2.1

theorem loopG {mk : Value → Value → Env → Code} {x : Str} {px : Pos} {ifs : List Expr} {elt : Expr} {R : Result → Shared → Prop} (rule : LastRule prog w A mk (.Name x px) ifs elt)
    (J : Nat → List Value → (Str → Option Value) → List (Addr × Obj) → Prop) (W : Walks prog w A I fp [I] n P St) (pl : Places h₀ L I C D)
    (hloc : env.locals = C) (hx : env.kindOf x = some .local) (hp : (env.scope.kind == .class || (env.scope.kind == .module && env.locals != env.globals)) = false)
    (hCf : C ∉ fp) (hDf : D ∉ fp) (hIo : ∀ i h, St i h → ∃ o, h.get? I = some o)
    (hSt : ∀ i h h' o nw, St i h → h.get? I = some o → h'.get? I = some o → (∀ b o, h₀.get? b = some o → h'.get? b = some o) → News h₀ L h' nw → S nw → St i h')
    (hJS : ∀ i ys m' nw, J i ys m' nw → S nw) (hsz : ∀ i ys m' nw, J i ys m' nw → ys.length ≤ sizeLine)
    (body : ∀ i v ys m' nw oI oC h tk, i < n → P i v → J i ys m' nw → NsObj oC (upd m' x v) → Fr h₀ L h m → News h₀ L h ((I, oI) :: (C, oC) :: (D, lst ys) :: nw) → (∀ p ∈ nw, p.1 ≠ I ∧ p.1 ≠ C ∧ p.1 ≠ D) →
      wpAny (model prog w) A (forIn ifs true fun c r => if r = true then do let ok ← isTrue c env (eval c env); pure (ForInStep.yield ok) else pure (ForInStep.yield r)) (fun ok s' =>
        if ok = true then wpAny (model prog w) A (eval elt env) (fun y s₂ => BEnd h₀ L m s₀ I oI C oC D (lst ys) (fun nw' => J (i + 1) (ys ++ [y]) (upd m' x v) nw') s₂) (fun _ _ => False) s'
        else BEnd h₀ L m s₀ I oI C oC D (lst ys) (fun nw' => J (i + 1) ys (upd m' x v) nw') s') (fun _ _ => False) { s₀ with heap := h, toks := tk })
    (fin : ∀ ys m' nw h tk, J n ys m' nw → Fr h₀ L h m → h.Ns C m' → News h₀ L h ((D, lst ys) :: nw) → (∀ p ∈ nw, p.1 ≠ I ∧ p.1 ≠ C ∧ p.1 ≠ D) → R (.ok .next) { s₀ with heap := h, toks := tk })
    {ys : List Value} {m' : Str → Option Value} {nw : List (Addr × Obj)} {h : Heap} {tk : Nat} (hJ : J 0 ys m' nw) (st : St 0 h) (F : Fr h₀ L h m) (hn : h.Ns C m') (N : News h₀ L h ((D, lst ys) :: nw)) (off : ∀ p ∈ nw, p.1 ≠ I ∧ p.1 ≠ C ∧ p.1 ≠ D) :
    codeAny (model prog w) A (mk (.ref I) (.ref D) env) R { s₀ with heap := h, toks := tk } := by
  let Inv : Nat → Shared → Prop := fun k s' => ∃ h' tk i ys m' nw, s' = { s₀ with heap := h', toks := tk } ∧ i ≤ n ∧ k = n + 1 - i ∧ J i ys m' nw ∧ St i h' ∧ Fr h₀ L h' m ∧ h'.Ns C m' ∧ News h₀ L h' ((D, lst ys) :: nw) ∧ (∀ p ∈ nw, p.1 ≠ I ∧ p.1 ≠ C ∧ p.1 ≠ D)
  refine rule _ _ _ R Inv ?_ (n + 1) _ ⟨h, tk, 0, ys, m', nw, rfl, Nat.zero_le _, rfl, hJ, st, F, hn, N, off⟩
  intro k s' hh
  refine hide fun PH kP => ?_
  obtain ⟨h', tk, i, ys, m', nw, rfl, hi, rfl, hJ, st, F, hn, N, off⟩ := hh
  refine kP ?_
  clear kP PH
  by_cases hlt : i < n
  · refine next_store W pl hloc hx hp hCf hIo hlt st F hn N off fun v oI oC h₃ tk₃ hPv st₃ hoC F₃ N₃ => ?_
    have heI := (N₃ (I, oI) List.mem_cons_self).1
    refine wpAny_mono (body i v ys m' nw oI oC h₃ tk₃ hlt hPv hJ hoC F₃ N₃ off) (fun ok s₄ h₄ => ?_) fun _ _ e => e
    cases ok with
    | false =>
      refine hide fun PH kP => ?_
      obtain ⟨h₄, tk₄, nw₄, rfl, F₄, N₄, off₄, J₄⟩ := h₄
      refine kP ?_
      clear kP PH
      have N₄' : News h₀ L h₄ nw₄ := fun p hp => N₄ p (List.mem_cons_of_mem _ (List.mem_cons_of_mem _ (List.mem_cons_of_mem _ hp)))
      have zI := (N₄ (I, oI) List.mem_cons_self).1
      have zC := (N₄ (C, oC) (List.mem_cons_of_mem _ List.mem_cons_self)).1
      exact ⟨n + 1 - (i + 1), by omega, h₄, tk₄, i + 1, ys, _, nw₄, rfl, hlt, rfl, J₄, hSt _ _ _ _ _ st₃ heI zI F₄.keep N₄' (hJS _ _ _ _ J₄), F₄, hoC.ns zC,
        fun p hp => N₄ p (List.mem_cons_of_mem _ (List.mem_cons_of_mem _ hp)), off₄⟩
    | true =>
      refine wpAny_mono h₄ (fun y s₅ h₅ => ?_) fun _ _ e => e
      refine hide fun PH kP => ?_
      obtain ⟨h₄, tk₄, nw₄, rfl, F₄, N₄, off₄, J₄⟩ := h₅
      refine kP ?_
      clear kP PH
      have N₄' : News h₀ L h₄ nw₄ := fun p hp => N₄ p (List.mem_cons_of_mem _ (List.mem_cons_of_mem _ (List.mem_cons_of_mem _ hp)))
      have zI := (N₄ (I, oI) List.mem_cons_self).1
      have zC := (N₄ (C, oC) (List.mem_cons_of_mem _ List.mem_cons_self)).1
      have zD := (N₄ (D, lst ys) (List.mem_cons_of_mem _ (List.mem_cons_of_mem _ List.mem_cons_self))).1
      have st₄ : St (i + 1) h₄ := hSt _ _ _ _ _ st₃ heI zI F₄.keep N₄' (hJS _ _ _ _ J₄)
      refine append_at (hsz := by show ys.toArray.size ≤ sizeLine; rw [List.size_toArray]; exact hsz _ _ _ _ hJ) zD fun h₅ hs₅ hD₅ => ?_
      refine ⟨n + 1 - (i + 1), by omega, h₅, tk₄, i + 1, ys ++ [y], _, nw₄, rfl, hlt, rfl, J₄, W.frame _ _ _ st₄ fun b hb o e => hs₅.extBut b o (fun q => hDf (q ▸ hb)) e, F₄.change hs₅ (Ne.symm pl.LD) pl.D0,
        (hoC.ns zC).sameBut hs₅ pl.CD, fun p hp => ?_, off₄⟩
      rcases List.mem_cons.mp hp with rfl | hp
      · exact ⟨hD₅.trans (congrArg some (lst_snoc ys y)), Ne.symm pl.LD, pl.D0⟩
      · exact ⟨hs₅.extBut _ _ (off₄ p hp).2.2 (N₄' p hp).1, (N₄' p hp).2⟩
  · obtain rfl : i = n := Nat.le_antisymm hi (Nat.not_lt.mp hlt)
    refine W.done _ _ _ st fun h₂ tk₂ hk₂ => ?_
    exact fin ys m' nw h₂ tk₂ hJ (fr_but F hk₂ pl.LI pl.I0) (hn.at' fun o e => hk₂ _ o (by simpa using Ne.symm pl.IC) e) (news_but N hk₂ fun p hp => by
      rcases List.mem_cons.mp hp with rfl | hp
      · exact Ne.symm pl.ID
      · exact (off p hp).1) off

/-- the outer clause of two -/
theorem loopO {elt i1 i2 t2 : Expr} {x : Str} {px : Pos} {ifs : List Expr} {scope : Scope} {pos : Pos} {R : Result → Shared → Prop}
    (J : Nat → List Value → (Str → Option Value) → List (Addr × Obj) → Prop) (W : Walks prog w A I fp [I] n P St) (pl : Places h₀ L I C D)
    (hloc : env.locals = C) (hx : env.kindOf x = some .local) (hp : (env.scope.kind == .class || (env.scope.kind == .module && env.locals != env.globals)) = false)
    (hCf : C ∉ fp) (hIo : ∀ i h, St i h → ∃ o, h.get? I = some o)
    (hSt : ∀ i h h' o nw, St i h → h.get? I = some o → h'.get? I = some o → (∀ b o, h₀.get? b = some o → h'.get? b = some o) → News h₀ L h' nw → S nw → St i h')
    (hJS : ∀ i ys m' nw, J i ys m' nw → S nw)
    (body : ∀ i v ys m' nw oI oC h tk, i < n → P i v → J i ys m' nw → NsObj oC (upd m' x v) → Fr h₀ L h m → News h₀ L h ((I, oI) :: (C, oC) :: (D, lst ys) :: nw) → (∀ p ∈ nw, p.1 ≠ I ∧ p.1 ≠ C ∧ p.1 ≠ D) →
      wpAny (model prog w) A (eval i2 env) (fun xv s₃ => wpAny (model prog w) A (pyIter xv) (fun it' s₄ =>
            codeAny (model prog w) A (.compStart (.ListComp elt [⟨.Name x px, i1, [], 0⟩, ⟨t2, i2, ifs, 0⟩] scope pos) 1 it' (.ref D) env) (fun r s₅ => r = .ok .next ∧ OEnd h₀ L m s₀ I oI C D (J (i + 1)) s₅) s₄)
            (fun _ _ => False) s₃) (fun _ _ => False) { s₀ with heap := h, toks := tk })
    (fin : ∀ ys m' nw h tk, J n ys m' nw → Fr h₀ L h m → h.Ns C m' → News h₀ L h ((D, lst ys) :: nw) → (∀ p ∈ nw, p.1 ≠ I ∧ p.1 ≠ C ∧ p.1 ≠ D) → R (.ok .next) { s₀ with heap := h, toks := tk })
    {ys : List Value} {m' : Str → Option Value} {nw : List (Addr × Obj)} {h : Heap} {tk : Nat} (hJ : J 0 ys m' nw) (st : St 0 h) (F : Fr h₀ L h m) (hn : h.Ns C m') (N : News h₀ L h ((D, lst ys) :: nw)) (off : ∀ p ∈ nw, p.1 ≠ I ∧ p.1 ≠ C ∧ p.1 ≠ D)
    (hs : ∀ x, foldedSetIterable i2 env x = pure x := by intro _; rfl) :
    codeAny (model prog w) A (.compLoop (.ListComp elt [⟨.Name x px, i1, [], 0⟩, ⟨t2, i2, ifs, 0⟩] scope pos) 0 (.ref I) (.ref D) env) R { s₀ with heap := h, toks := tk } := by
  let Inv : Nat → Shared → Prop := fun k s' => ∃ h' tk i ys m' nw, s' = { s₀ with heap := h', toks := tk } ∧ i ≤ n ∧ k = n + 1 - i ∧ J i ys m' nw ∧ St i h' ∧ Fr h₀ L h' m ∧ h'.Ns C m' ∧ News h₀ L h' ((D, lst ys) :: nw) ∧ (∀ p ∈ nw, p.1 ≠ I ∧ p.1 ≠ C ∧ p.1 ≠ D)
  refine rule_out Inv ?_ (n + 1) ⟨h, tk, 0, ys, m', nw, rfl, Nat.zero_le _, rfl, hJ, st, F, hn, N, off⟩ hs
  intro k s' hh
  refine hide fun PH kP => ?_
  obtain ⟨h', tk, i, ys, m', nw, rfl, hi, rfl, hJ, st, F, hn, N, off⟩ := hh
  refine kP ?_
  clear kP PH
  by_cases hlt : i < n
  · refine next_store W pl hloc hx hp hCf hIo hlt st F hn N off fun v oI oC h₃ tk₃ hPv st₃ hoC F₃ N₃ => ?_
    have heI := (N₃ (I, oI) List.mem_cons_self).1
    refine wpAny_mono (body i v ys m' nw oI oC h₃ tk₃ hlt hPv hJ hoC F₃ N₃ off) (fun xv s₄ h₄ => wpAny_mono h₄ (fun it' s₅ h₅ => codeAny_mono h₅ fun r s₆ h₆ => ?_) fun _ _ e => e) fun _ _ e => e
    refine hide fun PH kP => ?_
    obtain ⟨rfl, h₄, tk₄, zs, m₄, nw₄, rfl, F₄, hn₄, N₄, off₄, J₄⟩ := h₆
    refine kP ?_
    clear kP PH
    have N₄' : News h₀ L h₄ nw₄ := fun p hp => N₄ p (List.mem_cons_of_mem _ (List.mem_cons_of_mem _ hp))
    have zI := (N₄ (I, oI) (List.mem_cons_of_mem _ List.mem_cons_self)).1
    refine ⟨rfl, n + 1 - (i + 1), by omega, h₄, tk₄, i + 1, zs, m₄, nw₄, rfl, hlt, rfl, J₄, hSt _ _ _ _ _ st₃ heI zI F₄.keep N₄' (hJS _ _ _ _ J₄), F₄, hn₄, fun p hp => ?_, off₄⟩
    rcases List.mem_cons.mp hp with rfl | hp
    · exact N₄ _ List.mem_cons_self
    · exact N₄' p hp
  · obtain rfl : i = n := Nat.le_antisymm hi (Nat.not_lt.mp hlt)
    refine W.done _ _ _ st fun h₂ tk₂ hk₂ => ?_
    exact fin ys m' nw h₂ tk₂ hJ (fr_but F hk₂ pl.LI pl.I0) (hn.at' fun o e => hk₂ _ o (by simpa using Ne.symm pl.IC) e) (news_but N hk₂ fun p hp => by
      rcases List.mem_cons.mp hp with rfl | hp
      · exact Ne.symm pl.ID
      · exact (off p hp).1) off

/-- the block is made -/
theorem block0 {e : Expr} {scope : Scope} {cl : List (Str × Addr)} {s₂ : Shared} {it : Value} {nw : List (Addr × Obj)} {RR : Value → Addr → Result → Shared → Prop} {E : Value → Shared → Prop}
    (hcell : ∀ y ∈ scope.names, y.2 ≠ .cell) (hkind : scope.kind = .function) (F : Fr h₀ L s₂.heap m) (N : News h₀ L s₂.heap nw)
    (k : ∀ C D h tk, Fr h₀ L h m → h.Ns C (fun _ => none) → News h₀ L h ((D, lst []) :: nw) → (∀ b o, s₂.heap.get? b = some o → b ≠ C ∧ b ≠ D) → (∀ b o, s₂.heap.get? b = some o → h.get? b = some o) → C ≠ D → L ≠ C → L ≠ D → h₀.get? C = none → h₀.get? D = none →
      codeAny (model prog w) A (.compStart e 0 it (.ref D) (compEnvC scope cl C env)) (RR (.ref D) C) { s₂ with heap := h, toks := tk }) :
    wpAny (model prog w) A (newList []) (fun acc s₃ => wpAny (model prog w) A (newFunctionEnv scope env.globals cl [] env.qual none .none (some env)) (fun cenv s₄ =>
      codeAny (model prog w) A (.compStart e 0 it acc { cenv with scope := relabel scope env }) (RR acc cenv.locals) s₄) E s₃) E s₂ := by
  refine wpAny_newObj_type (wpAny_newFunctionEnv hcell (by intro y hy; simp at hy) (fun h₁ hns₁ hsb₁ => ?_) hkind)
  dsimp only at hns₁ hsb₁ ⊢
  generalize hH2 : s₂.heap.push { cls := .type "list", dict := none, data := .seq ([] : List Value).toArray } = H2 at hns₁ hsb₁ ⊢
  have hC : H2.objs.size = s₂.heap.objs.size + 1 := by rw [← hH2, Heap.size_push]
  have below : ∀ b, b < s₂.heap.objs.size → b ≠ H2.objs.size ∧ b ≠ s₂.heap.objs.size := fun b hb => ⟨by rw [hC]; exact Nat.ne_of_lt (Nat.lt_succ_of_lt hb), Nat.ne_of_lt hb⟩
  have hDC : s₂.heap.objs.size ≠ H2.objs.size := by rw [hC]; exact Nat.ne_of_lt (Nat.lt_succ_self _)
  have old : ∀ b o, s₂.heap.get? b = some o → h₁.get? b = some o := fun b o e => hsb₁.extBut b o (below b (Heap.lt_size e)).1 (Heap.get?_push_of_some _ (hH2 ▸ Heap.get?_push_of_some _ e))
  have hacc : h₁.get? s₂.heap.objs.size = some (lst []) := hsb₁.extBut _ _ hDC (Heap.get?_push_of_some _ (hH2 ▸ Heap.get?_push_size _ rfl))
  have fresh₀ : ∀ a, s₂.heap.objs.size ≤ a → h₀.get? a = none := fun a ha => by
    cases e : h₀.get? a with
    | none => rfl
    | some o' => exact absurd (Heap.lt_size (F.keep a o' e)) (Nat.not_lt.mpr ha)
  refine k H2.objs.size s₂.heap.objs.size h₁ _ (F.keeps old) (by simpa using hns₁) (fun p hp => ?_) (fun b o e => below b (Heap.lt_size e)) old (Ne.symm hDC) (below L F.ns.lt).1 (below L F.ns.lt).2 (fresh₀ _ (by rw [hC]; exact Nat.le_succ _)) (fresh₀ _ (Nat.le_refl _))
  rcases List.mem_cons.mp hp with rfl | hp
  · exact ⟨hacc, Ne.symm (below L F.ns.lt).2, fresh₀ _ (Nat.le_refl _)⟩
  · exact ⟨old _ _ (N p hp).1, (N p hp).2⟩
end
end Mine
end
section
open PySem PySem.W PySem.Calls PyProof.Rows PySem.Spec
set_option Elab.async false
set_option maxRecDepth 100000
set_option linter.unusedVariables false
namespace Mine
open PyProof.Rows.LCg (NsObj lst lst_snoc ns_obj fr_but news_but)

section
variable {prog : Program} {w : World} {A : Around} {E : Value → Shared → Prop} {h₀ : Heap} {L : Addr} {m : Str → Option Value} {s s₀ : Shared} {env : Env} {nw : List (Addr × Obj)}

/-- an iterator that is ready -/
structure SrcOf (prog : Program) (w : World) (A : Around) (h₀ : Heap) (L : Addr) (m : Str → Option Value) (n : Nat) (P : Nat → Value → Prop) (St : Nat → Heap → Prop) (S : List (Addr × Obj) → Prop) (fp : List Addr) (I : Addr) (nw : List (Addr × Obj)) (s : Shared) : Prop where
  walk : Walks prog w A I fp [I] n P St
  st : St 0 s.heap
  fits : ∀ b ∈ fp, ∃ o, s.heap.get? b = some o
  io : ∀ i h, St i h → ∃ o, h.get? I = some o
  hst : ∀ i h h' o nw, St i h → h.get? I = some o → h'.get? I = some o → (∀ b o, h₀.get? b = some o → h'.get? b = some o) → News h₀ L h' nw → S nw → St i h'
  F : Fr h₀ L s.heap m
  N : News h₀ L s.heap nw
  li : L ≠ I
  i0 : h₀.get? I = none
  off : ∀ p ∈ nw, p.1 ≠ I

theorem src_range {r : Addr} {a b : Int} {t u v : Tok} {n : Nat} {Q : Value → Shared → Prop} (hh : A.handled = none) (F : Fr h₀ L s.heap m) (N : News h₀ L s.heap nw) (hr : IsRange s.heap r a b 1 t u v)
    (hsm : Builtin.Range.small a b 1 = true) (hn : Builtin.Range.rangeSize a b 1 = ((n : Nat) : Int))
    (h : ∀ I h', SrcOf prog w A h₀ L m n (fun i v => ∃ t, v = .int (a + (i : Int)) t) (fun i h => IsRangeIter h I (a + (i : Nat) * 1) ((n : Int) - (i : Nat)) 1) (fun _ => True) [I] I nw { s with heap := h' } → Q (.ref I) { s with heap := h' }) :
    wpAny (model prog w) A (pyIter (.ref r)) Q E s := by
  refine wpAny_pyIter_range hr hsm (h _ _ ⟨LCg.range_walks hh a n, ?_, fun b hb => ?_, fun i h st => ⟨_, st⟩, LCg.range_st, F.keeps fun _ _ e => Heap.get?_push_of_some _ e, N.grown fun _ _ e => Heap.get?_push_of_some _ e, Nat.ne_of_lt F.ns.lt, next_is_new F, fun p hp => Nat.ne_of_lt (Heap.lt_size (N p hp).1)⟩)
  · show IsRangeIter _ _ _ _ _
    rw [hn]; simpa using Heap.get?_push_size _ rfl
  · rw [List.mem_singleton.mp hb]
    exact ⟨_, Heap.get?_push_size _ rfl⟩

theorem src_list {ax : Addr} {its : Array Value} {k : Nat} {Q : Value → Shared → Prop} (hh : A.handled = none) (F : Fr h₀ L s.heap m) (N : News h₀ L s.heap nw) (hm : (ax, ({ cls := .type "list", data := .seq its k } : Obj)) ∈ nw)
    (h : ∀ I h', SrcOf prog w A h₀ L m its.size (fun i v => its[i]? = some v) (fun i h => h.IsListIter I ax i ∧ h.IsList ax its) (LCg.SrcAt h₀ ax its) [I, ax] I nw { s with heap := h' } → Q (.ref I) { s with heap := h' }) :
    wpAny (model prog w) A (pyIter (.ref ax)) Q E s := by
  have hl : s.heap.IsList ax its := ⟨_, (N _ hm).1, rfl, k, rfl⟩
  have hlt : ax < s.heap.objs.size := by obtain ⟨_, e, _⟩ := hl; exact Heap.lt_size e
  have up : ∀ b o, s.heap.get? b = some o → (s.heap.push { cls := .type "list_iterator", data := .fields #[.ref ax, .int 0 0] }).get? b = some o := fun b o e => Heap.get?_push_of_some _ e
  refine wpAny_pyIter_list hl (h _ _ ⟨Walks.list hh s.heap.objs.size ax (Nat.ne_of_lt hlt) its, ⟨⟨_, Heap.get?_push_size _ rfl, rfl, rfl⟩, hl.push _⟩, fun b hb => ?_, fun i h st => by obtain ⟨o, e, _⟩ := st.1; exact ⟨o, e⟩, LCg.list_st, F.keeps up, N.grown up, Nat.ne_of_lt F.ns.lt, next_is_new F, fun p hp => Nat.ne_of_lt (Heap.lt_size (N p hp).1)⟩)
  rcases List.mem_cons.mp hb with rfl | hb
  · exact ⟨_, Heap.get?_push_size _ rfl⟩
  · rw [List.mem_singleton.mp hb]; exact ⟨_, up _ _ (N _ hm).1⟩

theorem src_bytes {b : Array UInt8} {t : Tok} {Q : Value → Shared → Prop} (hh : A.handled = none) (F : Fr h₀ L s.heap m) (N : News h₀ L s.heap nw)
    (h : ∀ I h', SrcOf prog w A h₀ L m b.size (fun i v => ∃ c u, b[i]? = some c ∧ v = .int (c.toNat : Int) u) (fun i h => KBw.IsBytesIter h I b t i) (fun _ => True) [I] I nw { s with heap := h' } → Q (.ref I) { s with heap := h' }) :
    wpAny (model prog w) A (pyIter (.bytes b t)) Q E s := by
  have up : ∀ x o, s.heap.get? x = some o → (s.heap.push { cls := .type "bytes_iterator", data := .fields #[.bytes b t, .int 0 0] }).get? x = some o := fun x o e => Heap.get?_push_of_some _ e
  refine KBw.pyIter_bytes (h _ _ ⟨KBw.walks hh _ b t, ⟨_, Heap.get?_push_size _ rfl, rfl, rfl⟩, fun x hx => ?_, fun i h st => by obtain ⟨o, e, _⟩ := st; exact ⟨o, e⟩, ?_, F.keeps up, N.grown up, Nat.ne_of_lt F.ns.lt, next_is_new F, fun p hp => Nat.ne_of_lt (Heap.lt_size (N p hp).1)⟩)
  · rw [List.mem_singleton.mp hx]
    exact ⟨_, Heap.get?_push_size _ rfl⟩
  · intro i h h' o nw st e e' _ _ _
    obtain ⟨o', q, r⟩ := st
    rw [e] at q; cases q
    exact ⟨o, e', r⟩

theorem post_eval {D C : Addr} {ys : List Value} {h : Heap} {tk : Nat} {m' : Str → Option Value} {Q : Value → Shared → Prop} (F : Fr h₀ L h m) (hn : h.Ns C m') (N : News h₀ L h ((D, lst ys) :: nw)) (off : ∀ p ∈ nw, p.1 ≠ C) (hCD : C ≠ D) (hCL : C ≠ L) (hC0 : h₀.get? C = none)
    (fin : ∀ h, Fr h₀ L h m → News h₀ L h ((D, lst ys) :: nw) → Q (.ref D) { s₀ with heap := h, toks := tk }) :
    compPost (model prog w) A E none Q (.ref D) C (.ok .next) { s₀ with heap := h, toks := tk } := by
  refine ⟨m', hn, fun h'' hs'' => fin h'' (F.change hs'' hCL hC0) (fun p hp => ?_)⟩
  refine ⟨hs''.extBut _ _ ?_ (N p hp).1, (N p hp).2⟩
  rcases List.mem_cons.mp hp with rfl | hp
  · exact Ne.symm hCD
  · exact off p hp

theorem post_assign {D C : Addr} {y : Str} {py : Pos} {ys : List Value} {h : Heap} {tk : Nat} {m' : Str → Option Value} {Q1 : Value → Shared → Prop} (hLe : env.locals = L) (hy : env.kindOf y = some .local) (hp : (env.scope.kind == .class || (env.scope.kind == .module && env.locals != env.globals)) = false)
    (F : Fr h₀ L h m) (hn : h.Ns C m') (N : News h₀ L h ((D, lst ys) :: nw)) (off : ∀ p ∈ nw, p.1 ≠ C) (hCD : C ≠ D) (hCL : C ≠ L) (hC0 : h₀.get? C = none)
    (fin : ∀ h tk, Fr h₀ L h (fun z => if z = y then some (.ref D) else m z) → News h₀ L h ((D, lst ys) :: nw) → Q1 .none { s₀ with heap := h, toks := tk }) :
    compPost (model prog w) A E (some (assign (.Name y py) env)) Q1 (.ref D) C (.ok .next) { s₀ with heap := h, toks := tk } := by
  subst hLe
  show wpAny _ A (assign (.Name y py) env (.ref D)) _ _ _
  refine wpAny_assign_Name (wpAny_storeName_local hy F.ns (fun h₂ hn₂ hs₂ => ?_) hp)
  have hL₀ : h₀.get? env.locals = none := Heap.get?_none_of_le F.above
  have F₂ : Fr h₀ env.locals h₂ (fun z => if z = y then some (.ref D) else m z) := ⟨hn₂, fun b o e => hs₂.extBut b o (fun q => by rw [q, hL₀] at e; cases e) (F.keep b o e), F.above⟩
  refine ⟨m', hn.sameBut hs₂ hCL, fun h'' hs'' => fin h'' _ (F₂.change hs'' hCL hC0) (fun p hp => ?_)⟩
  have z : h₂.get? p.1 = some p.2 := hs₂.extBut _ _ (N p hp).2.1 (N p hp).1
  refine ⟨hs''.extBut _ _ ?_ z, (N p hp).2⟩
  rcases List.mem_cons.mp hp with rfl | hp
  · exact Ne.symm hCD
  · exact off p hp

theorem off1_of {D : Addr} : ∀ {l : List (Addr × Obj)}, (∀ p ∈ l, p.1 ≠ D) → LCg.Off1 D l
  | [], _ => trivial
  | _ :: _, h => ⟨h _ List.mem_cons_self, off1_of fun p hp => h p (List.mem_cons_of_mem _ hp)⟩

/-- one clause -/
theorem comp_core {x : Str} {px : Pos} {ifs : List Expr} {elt iter : Expr} {scope : Scope} {cl : List (Str × Addr)} {pos : Pos} {n : Nat} {P : Nat → Value → Prop} {St : Nat → Heap → Prop} {S : List (Addr × Obj) → Prop} {fp : List Addr} {I : Addr} {RR : Value → Addr → Result → Shared → Prop}
    (hcell : ∀ y ∈ scope.names, y.2 ≠ .cell) (hkind : scope.kind = .function) (hx : scope.names.lookup x = some .local)
    (Sr : SrcOf prog w A h₀ L m n P St S fp I nw s)
    (J : Nat → List Value → List (Addr × Obj) → Prop) (hJ0 : J 0 [] nw) (hJS : ∀ i ys nw, J i ys nw → S nw) (hsz : ∀ i ys nw, J i ys nw → ys.length ≤ sizeLine)
    (body : ∀ C D i v ys m₂ nw oI oC h tk, i < n → P i v → J i ys nw → NsObj oC m₂ → m₂ x = some v → Fr h₀ L h m → News h₀ L h ((I, oI) :: (C, oC) :: (D, lst ys) :: nw) → (∀ p ∈ nw, p.1 ≠ I ∧ p.1 ≠ C ∧ p.1 ≠ D) → Places h₀ L I C D →
      wpAny (model prog w) A (forIn ifs true fun c r => if r = true then do let ok ← isTrue c (compEnvC scope cl C env) (eval c (compEnvC scope cl C env)); pure (ForInStep.yield ok) else pure (ForInStep.yield r)) (fun ok s' =>
        if ok = true then wpAny (model prog w) A (eval elt (compEnvC scope cl C env)) (fun y s₂ => BEnd h₀ L m s I oI C oC D (lst ys) (fun nw' => J (i + 1) (ys ++ [y]) nw') s₂) (fun _ _ => False) s'
        else BEnd h₀ L m s I oI C oC D (lst ys) (fun nw' => J (i + 1) ys nw') s') (fun _ _ => False) { s with heap := h, toks := tk })
    (fin : ∀ C D ys m' nw h tk, J n ys nw → Fr h₀ L h m → h.Ns C m' → News h₀ L h ((D, lst ys) :: nw) → (∀ p ∈ nw, p.1 ≠ C) → LCg.Off1 D nw → C ≠ D → C ≠ L → h₀.get? C = none → RR (.ref D) C (.ok .next) { s with heap := h, toks := tk }) :
    wpAny (model prog w) A (newList []) (fun acc s₃ => wpAny (model prog w) A (newFunctionEnv scope env.globals cl [] env.qual none .none (some env)) (fun cenv s₄ =>
      codeAny (model prog w) A (.compStart (.ListComp elt [⟨.Name x px, iter, ifs, 0⟩] scope pos) 0 (.ref I) acc { cenv with scope := relabel scope env }) (RR acc cenv.locals) s₄) E s₃) E s := by
  refine block0 hcell hkind Sr.F Sr.N fun C D h tk F' hn' N' nb old hCD hLC hLD hC0 hD0 => ?_
  obtain ⟨oI, heI⟩ := Sr.io _ _ Sr.st
  have hCf : C ∉ fp := fun hm => by
    obtain ⟨o, e⟩ := Sr.fits _ hm
    exact (nb _ _ e).1 rfl
  have hDf : D ∉ fp := fun hm => by
    obtain ⟨o, e⟩ := Sr.fits _ hm
    exact (nb _ _ e).2 rfl
  have pl : Places h₀ L I C D := ⟨(nb _ _ heI).1, (nb _ _ heI).2, hCD, Sr.li, hLC, hLD, Sr.i0, hC0, hD0⟩
  have st₁ : St 0 h := Sr.walk.frame _ _ _ Sr.st fun b _ o e => old b o e
  have off : ∀ p ∈ nw, p.1 ≠ I ∧ p.1 ≠ C ∧ p.1 ≠ D := fun p hp => ⟨Sr.off p hp, nb _ _ (Sr.N p hp).1⟩
  have loop := loopG (s₀ := s) (R := RR (.ref D) C) (rule_one (prog := prog) (w := w) (A := A) (elt := elt) (iter := iter) (x := x) (px := px) (ifs := ifs) (scope := scope) (pos := pos)) (env := compEnvC scope cl C env) (fun i ys m' nw => J i ys nw) Sr.walk pl rfl (lookup_relabel_local hx) (by simp [compEnvC, relabel, hkind]) hCf hDf Sr.io Sr.hst
    (fun i ys m' nw => hJS i ys nw) (fun i ys m' nw => hsz i ys nw) (fun i v ys m' nw oI oC h tk hi hP hJ hoC F N off => body C D i v ys _ nw oI oC h tk hi hP hJ hoC (by simp [upd]) F N off pl)
    (fun ys m' nw h tk hJ F hn N off => fin C D ys m' nw h tk hJ F hn N (fun p hp => (off p hp).2.1) (off1_of fun p hp => (off p hp).2.2) hCD (Ne.symm hLC) hC0) (tk := tk) hJ0 st₁ F' hn' N' off
  exact codeAny_compStart_list loop (Sr.walk.self 0 _ _ _ st₁ loop)

/-- two clauses -/
theorem comp_core2 {x y : Str} {px py : Pos} {ifs : List Expr} {elt iter i2 : Expr} {scope : Scope} {cl : List (Str × Addr)} {pos : Pos} {n : Nat} {P : Nat → Value → Prop} {St : Nat → Heap → Prop} {S : List (Addr × Obj) → Prop} {fp : List Addr} {I : Addr} {RR : Value → Addr → Result → Shared → Prop}
    (hcell : ∀ y ∈ scope.names, y.2 ≠ .cell) (hkind : scope.kind = .function) (hx : scope.names.lookup x = some .local) (hy : scope.names.lookup y = some .local) (hxy : x ≠ y)
    (Sr : SrcOf prog w A h₀ L m n P St S fp I nw s)
    (J : Nat → List Value → List (Addr × Obj) → Prop) (hJ0 : J 0 [] nw) (hJS : ∀ i ys nw, J i ys nw → S nw)
    (body : ∀ C D i v ys m₁ nw oI oC h tk, i < n → P i v → J i ys nw → NsObj oC m₁ → m₁ x = some v → Fr h₀ L h m → News h₀ L h ((I, oI) :: (C, oC) :: (D, lst ys) :: nw) → (∀ p ∈ nw, p.1 ≠ I ∧ p.1 ≠ C ∧ p.1 ≠ D) → Places h₀ L I C D →
      wpAny (model prog w) A (eval i2 (compEnvC scope cl C env)) (fun xv s₃ => wpAny (model prog w) A (pyIter xv) (fun it' s₄ =>
        ∃ I2 n2 P2 St2 S2 fp2 nw2 h₄ tk₄, it' = .ref I2 ∧ s₄ = { s with heap := h₄, toks := tk₄ } ∧ SrcOf prog w A h₀ L m n2 P2 St2 S2 fp2 I2 ((I, oI) :: (C, oC) :: (D, lst ys) :: nw2) s₄ ∧ C ∉ fp2 ∧ D ∉ fp2 ∧ (∀ p ∈ nw2, p.1 ≠ I ∧ p.1 ≠ C ∧ p.1 ≠ D) ∧
        ∃ K : Nat → List Value → List (Addr × Obj) → Prop, K 0 ys nw2 ∧ (∀ j zs nw, K j zs nw → S2 ((I, oI) :: nw)) ∧ (∀ j zs nw, K j zs nw → zs.length ≤ sizeLine) ∧
        (∀ j v₂ zs m₂ nw oI2 oC h tk, j < n2 → P2 j v₂ → K j zs nw → NsObj oC m₂ → m₂ x = some v → m₂ y = some v₂ → Fr h₀ L h m → News h₀ L h ((I2, oI2) :: (C, oC) :: (D, lst zs) :: (I, oI) :: nw) → (∀ p ∈ nw, p.1 ≠ I2 ∧ p.1 ≠ C ∧ p.1 ≠ D ∧ p.1 ≠ I) → Places h₀ L I2 C D → I ≠ I2 →
          wpAny (model prog w) A (forIn ifs true fun c r => if r = true then do let ok ← isTrue c (compEnvC scope cl C env) (eval c (compEnvC scope cl C env)); pure (ForInStep.yield ok) else pure (ForInStep.yield r)) (fun ok s' =>
            if ok = true then wpAny (model prog w) A (eval elt (compEnvC scope cl C env)) (fun y s₂ => BEnd h₀ L m s I2 oI2 C oC D (lst zs) (fun nw' => ∃ nw₁, nw' = (I, oI) :: nw₁ ∧ (∀ p ∈ nw₁, p.1 ≠ I) ∧ K (j + 1) (zs ++ [y]) nw₁) s₂) (fun _ _ => False) s'
            else BEnd h₀ L m s I2 oI2 C oC D (lst zs) (fun nw' => ∃ nw₁, nw' = (I, oI) :: nw₁ ∧ (∀ p ∈ nw₁, p.1 ≠ I) ∧ K (j + 1) zs nw₁) s') (fun _ _ => False) { s with heap := h, toks := tk }) ∧
        (∀ zs nw, K n2 zs nw → J (i + 1) zs nw))
        (fun _ _ => False) s₃) (fun _ _ => False) { s with heap := h, toks := tk })
    (fin : ∀ C D ys m' nw h tk, J n ys nw → Fr h₀ L h m → h.Ns C m' → News h₀ L h ((D, lst ys) :: nw) → (∀ p ∈ nw, p.1 ≠ C) → LCg.Off1 D nw → C ≠ D → C ≠ L → h₀.get? C = none → RR (.ref D) C (.ok .next) { s with heap := h, toks := tk })
    (hs : ∀ C x, foldedSetIterable i2 (compEnvC scope cl C env) x = pure x := by intro _ _; rfl) :
    wpAny (model prog w) A (newList []) (fun acc s₃ => wpAny (model prog w) A (newFunctionEnv scope env.globals cl [] env.qual none .none (some env)) (fun cenv s₄ =>
      codeAny (model prog w) A (.compStart (.ListComp elt [⟨.Name x px, iter, [], 0⟩, ⟨.Name y py, i2, ifs, 0⟩] scope pos) 0 (.ref I) acc { cenv with scope := relabel scope env }) (RR acc cenv.locals) s₄) E s₃) E s := by
  refine block0 hcell hkind Sr.F Sr.N fun C D h tk F' hn' N' nb old hCD hLC hLD hC0 hD0 => ?_
  obtain ⟨oI, heI⟩ := Sr.io _ _ Sr.st
  have hCf : C ∉ fp := fun hm => by
    obtain ⟨o, e⟩ := Sr.fits _ hm
    exact (nb _ _ e).1 rfl
  have pl : Places h₀ L I C D := ⟨(nb _ _ heI).1, (nb _ _ heI).2, hCD, Sr.li, hLC, hLD, Sr.i0, hC0, hD0⟩
  have st₁ : St 0 h := Sr.walk.frame _ _ _ Sr.st fun b _ o e => old b o e
  have off : ∀ p ∈ nw, p.1 ≠ I ∧ p.1 ≠ C ∧ p.1 ≠ D := fun p hp => ⟨Sr.off p hp, nb _ _ (Sr.N p hp).1⟩
  have hp : ((compEnvC scope cl C env).scope.kind == .class || ((compEnvC scope cl C env).scope.kind == .module && (compEnvC scope cl C env).locals != (compEnvC scope cl C env).globals)) = false := by simp [compEnvC, relabel, hkind]
  have loop := loopO (s₀ := s) (R := RR (.ref D) C) (prog := prog) (w := w) (A := A) (elt := elt) (i1 := iter) (i2 := i2) (t2 := .Name y py) (x := x) (px := px) (ifs := ifs) (scope := scope) (pos := pos) (env := compEnvC scope cl C env) (fun i ys m' nw => J i ys nw) Sr.walk pl rfl (lookup_relabel_local hx) hp hCf Sr.io Sr.hst
    (fun i ys m' nw => hJS i ys nw) (fun i v ys m' nw oI oC h tk hi hP hJ hoC F N off => by
      refine wpAny_mono (body C D i v ys _ nw oI oC h tk hi hP hJ hoC (by simp [upd]) F N off pl) (fun xv s₃ h₃ => wpAny_mono h₃ (fun it' s₄ h₄ => ?_) fun _ _ e => e) fun _ _ e => e
      refine hide fun PH kP => ?_
      obtain ⟨I2, n2, P2, St2, S2, fp2, nw2, h₄, tk₄, rfl, rfl, Sr2, hC2, hD2, off2, K, hK0, hKS, hKsz, hbody, hout⟩ := h₄
      refine kP ?_
      clear kP PH
      have N2 := Sr2.N
      have offI2 := Sr2.off
      have pl2 : Places h₀ L I2 C D := ⟨Ne.symm (offI2 (C, oC) (by simp)), Ne.symm (offI2 (D, lst ys) (by simp)), hCD, Sr2.li, hLC, hLD, Sr2.i0, hC0, hD0⟩
      have hII : I ≠ I2 := offI2 (I, oI) (by simp)
      have loop2 := loopG (s₀ := s) (R := fun r s₅ => r = .ok .next ∧ OEnd h₀ L m s I oI C D (fun ys m' nw => J (i + 1) ys nw) s₅) (rule_two (prog := prog) (w := w) (A := A) (elt := elt) (t1 := .Name x px) (i1 := iter) (i2 := i2) (y := y) (py := py) (ifs := ifs) (scope := scope) (pos := pos)) (env := compEnvC scope cl C env)
        (fun j zs m' nw' => m' x = some v ∧ ∃ nw₁, nw' = (I, oI) :: nw₁ ∧ (∀ p ∈ nw₁, p.1 ≠ I) ∧ K j zs nw₁) Sr2.walk pl2 rfl (lookup_relabel_local hy) hp hC2 hD2 Sr2.io Sr2.hst
        (by rintro j zs m' _ ⟨_, nw₁, rfl, _, hK⟩; exact hKS _ _ _ hK) (by rintro j zs m' _ ⟨_, nw₁, rfl, _, hK⟩; exact hKsz _ _ _ hK)
        (by
          rintro j v₂ zs m' _ oI2 oC h tk hj hP2 ⟨hmx, nw₁, rfl, hoff, hK⟩ hoC F N off
          have hmx' : upd m' y v₂ x = some v := by simp [upd, hxy, hmx]
          refine wpAny_mono (hbody j v₂ zs _ nw₁ oI2 oC h tk hj hP2 hK hoC hmx' (by simp [upd]) F N (fun p hp => ⟨(off p (List.mem_cons_of_mem _ hp)).1, (off p (List.mem_cons_of_mem _ hp)).2.1, (off p (List.mem_cons_of_mem _ hp)).2.2, hoff p hp⟩) pl2 hII) (fun ok s' hs' => ?_) fun _ _ e => e
          have up : ∀ (us : List Value) (s₂ : Shared), BEnd h₀ L m s I2 oI2 C oC D (lst zs) (fun nw' => ∃ nw₁, nw' = (I, oI) :: nw₁ ∧ (∀ p ∈ nw₁, p.1 ≠ I) ∧ K (j + 1) us nw₁) s₂ →
              BEnd h₀ L m s I2 oI2 C oC D (lst zs) (fun nw' => upd m' y v₂ x = some v ∧ ∃ nw₁, nw' = (I, oI) :: nw₁ ∧ (∀ p ∈ nw₁, p.1 ≠ I) ∧ K (j + 1) us nw₁) s₂ := by
            rintro us s₂ ⟨a1, a2, a3, a4, a5, a6, a7, a8⟩
            exact ⟨a1, a2, a3, a4, a5, a6, a7, hmx', a8⟩
          cases ok with
          | false => exact up _ _ hs'
          | true => exact wpAny_mono hs' (fun _ _ z => up _ _ z) fun _ _ e => e)
        (by
          rintro zs m' _ h tk ⟨hmx, nw₁, rfl, hoff, hK⟩ F hn N off
          refine ⟨rfl, h, tk, zs, m', nw₁, rfl, F, hn, N, fun p hp => ⟨hoff p hp, (off p (List.mem_cons_of_mem _ hp)).2⟩, hout _ _ hK⟩)
        (ys := ys) (m' := upd m' x v) (nw := (I, oI) :: nw2) (h := h₄) (tk := tk₄) ⟨by simp [upd], nw2, rfl, fun p hp => (off2 p hp).1, hK0⟩ Sr2.st Sr2.F (hoC.ns (N2 (C, oC) (by simp)).1)
        (fun p hp => by
          rcases List.mem_cons.mp hp with rfl | hp
          · exact N2 _ (by simp)
          · rcases List.mem_cons.mp hp with rfl | hp
            · exact N2 _ (by simp)
            · exact N2 _ (List.mem_cons_of_mem _ (List.mem_cons_of_mem _ (List.mem_cons_of_mem _ hp))))
        (fun p hp => by
          rcases List.mem_cons.mp hp with rfl | hp
          · exact ⟨hII, pl.IC, pl.ID⟩
          · exact ⟨offI2 _ (List.mem_cons_of_mem _ (List.mem_cons_of_mem _ (List.mem_cons_of_mem _ hp))), (off2 p hp).2⟩)
      exact start_two loop2 (Sr2.walk.self 0 _ _ _ Sr2.st loop2))
    (fun ys m' nw h tk hJ F hn N off => fin C D ys m' nw h tk hJ F hn N (fun p hp => (off p hp).2.1) (off1_of fun p hp => (off p hp).2.2) hCD (Ne.symm hLC) hC0) (tk := tk) hJ0 st₁ F' hn' N' off (hs C)
  exact codeAny_compStart_list loop (Sr.walk.self 0 _ _ _ st₁ loop)
end
end Mine
namespace Mine
section
variable {prog : Program} {w : World} {A : Around} {E : Value → Shared → Prop} {s : Shared} {env : Env}
theorem comp_eval {t elt iter : Expr} {ifs : List Expr} {gs : List Comprehension} {scope : Scope} {cl : List (Str × Addr)} {pos : Pos} {Q : Value → Shared → Prop}
    (hclos : closureFor scope env = pure cl) (hkind : scope.kind = .function) (hnames : ∀ y ∈ scope.names, y.2 = .local → scope.names.lookup y.1 = some .local)
    (h : wpAny (model prog w) A (eval iter env) (fun xv s₁ => wpAny (model prog w) A (pyIter xv) (fun it s₂ => wpAny (model prog w) A (newList []) (fun acc s₃ =>
      wpAny (model prog w) A (newFunctionEnv scope env.globals cl [] env.qual none .none (some env)) (fun cenv s₄ =>
        codeAny (model prog w) A (.compStart (.ListComp elt (⟨t, iter, ifs, 0⟩ :: gs) scope pos) 0 it acc { cenv with scope := relabel scope env }) (compPost (model prog w) A E none Q acc cenv.locals) s₄) E s₃) E s₂) E s₁) E s)
    (hs : ∀ x, foldedSetIterable iter env x = pure x := by intro _; rfl) :
    wpAny (model prog w) A (eval (.ListComp elt (⟨t, iter, ifs, 0⟩ :: gs) scope pos) env) Q E s := by
  rw [eval_ListComp]
  exact wpAny_comprehension_free (use := none) rfl hs hclos hkind hnames h

theorem comp_assign {t elt iter : Expr} {y : Str} {py spos : Pos} {ifs : List Expr} {gs : List Comprehension} {scope : Scope} {cl : List (Str × Addr)} {pos : Pos} {Q : Flow → Shared → Prop}
    (hsw : swapsWith (.ListComp elt (⟨t, iter, ifs, 0⟩ :: gs) scope pos) (some (.Name y py)) spos.line env = pure true)
    (hclos : closureFor scope env = pure cl) (hkind : scope.kind = .function) (hnames : ∀ y ∈ scope.names, y.2 = .local → scope.names.lookup y.1 = some .local)
    (h : wpAny (model prog w) A (eval iter env) (fun xv s₁ => wpAny (model prog w) A (pyIter xv) (fun it s₂ => wpAny (model prog w) A (newList []) (fun acc s₃ =>
      wpAny (model prog w) A (newFunctionEnv scope env.globals cl [] env.qual none .none (some env)) (fun cenv s₄ =>
        codeAny (model prog w) A (.compStart (.ListComp elt (⟨t, iter, ifs, 0⟩ :: gs) scope pos) 0 it acc { cenv with scope := relabel scope env }) (compPost (model prog w) A E (some (assign (.Name y py) env)) (fun _ s' => Q .next s') acc cenv.locals) s₄) E s₃) E s₂) E s₁) E s)
    (hs : ∀ x, foldedSetIterable iter env x = pure x := by intro _; rfl) :
    wpAny (model prog w) A (exec (.Assign [.Name y py] (.ListComp elt (⟨t, iter, ifs, 0⟩ :: gs) scope pos) spos) env) Q E s := by
  rw [exec_Assign_Name_used _ _ _ _ hsw]
  refine wpAny_bind (wpAny_standAt (wpAny_bind ?_))
  show wpAny _ A (do let _ ← comprehension (.ListComp elt (⟨t, iter, ifs, 0⟩ :: gs) scope pos) scope env _ (newList []) false (eval iter env) (some (assign (.Name y py) env))) _ _ s
  exact wpAny_bind (wpAny_mono (wpAny_comprehension_free (use := some (assign (.Name y py) env)) (Q := fun _ s' => Q .next s') rfl hs hclos hkind hnames h) (fun _ s' hq => wpAny_pure (wpAny_pure hq)) fun _ _ e => e)
end
end Mine
end
section
open PySem PySem.W PySem.Calls PyProof.Rows PySem.Spec
set_option Elab.async false
set_option maxRecDepth 100000
set_option linter.unusedVariables false
namespace Mine
open PyProof.Rows.LCg (NsObj lst lst_snoc ns_obj fr_but news_but)

abbrev cellObj : Obj := { cls := .type "cell", data := .cell none }

/-- what a turn's work leaves, where the turn's name is a cell -/
noncomputable def BEnd4 (h₀ : Heap) (L : Addr) (m : Str → Option Value) (s₀ : Shared) (I : Addr) (oI : Obj) (K : Addr) (oK : Obj) (D : Addr) (oD : Obj) (C : Addr) (oC : Obj) (rest : List (Addr × Obj) → Prop) (s₂ : Shared) : Prop :=
  ∃ h' tk nw', s₂ = { s₀ with heap := h', toks := tk } ∧ Fr h₀ L h' m ∧ News h₀ L h' ((I, oI) :: (K, oK) :: (D, oD) :: (C, oC) :: nw') ∧ (∀ p ∈ nw', p.1 ≠ I ∧ p.1 ≠ K ∧ p.1 ≠ D ∧ p.1 ≠ C) ∧ rest nw'

structure Places4 (h₀ : Heap) (L I C D K : Addr) : Prop where
  IC : I ≠ C
  ID : I ≠ D
  IK : I ≠ K
  CD : C ≠ D
  KC : K ≠ C
  KD : K ≠ D
  LI : L ≠ I
  LC : L ≠ C
  LD : L ≠ D
  LK : L ≠ K
  I0 : h₀.get? I = none
  C0 : h₀.get? C = none
  D0 : h₀.get? D = none
  K0 : h₀.get? K = none

section
variable {prog : Program} {w : World} {A : Around} {h₀ : Heap} {L I C D K : Addr} {m : Str → Option Value} {s₀ : Shared} {env : Env} {fp : List Addr} {n : Nat} {P : Nat → Value → Prop} {St : Nat → Heap → Prop} {S : List (Addr × Obj) → Prop}

theorem loopGC {mk : Value → Value → Env → Code} {x : Str} {px : Pos} {ifs : List Expr} {elt : Expr} {R : Result → Shared → Prop} {oC : Obj} (rule : LastRule prog w A mk (.Name x px) ifs elt)
    (J : Nat → List Value → List (Addr × Obj) → Prop) (W : Walks prog w A I fp [I] n P St) (pl : Places4 h₀ L I C D K)
    (hkf : env.scope.kind = .function) (hx : env.kindOf x = some .cell) (hcx : env.cells.lookup x = some K)
    (hDf : D ∉ fp) (hKf : K ∉ fp) (hIo : ∀ i h, St i h → ∃ o, h.get? I = some o)
    (hSt : ∀ i h h' o nw, St i h → h.get? I = some o → h'.get? I = some o → (∀ b o, h₀.get? b = some o → h'.get? b = some o) → News h₀ L h' nw → S nw → St i h')
    (hJS : ∀ i ys nw, J i ys nw → S nw) (hsz : ∀ i ys nw, J i ys nw → ys.length ≤ sizeLine)
    (body : ∀ i v ys nw oI oK h tk, i < n → P i v → J i ys nw → oK.data = .cell (some v) → Fr h₀ L h m → News h₀ L h ((I, oI) :: (K, oK) :: (D, lst ys) :: (C, oC) :: nw) → (∀ p ∈ nw, p.1 ≠ I ∧ p.1 ≠ K ∧ p.1 ≠ D ∧ p.1 ≠ C) →
      wpAny (model prog w) A (forIn ifs true fun c r => if r = true then do let ok ← isTrue c env (eval c env); pure (ForInStep.yield ok) else pure (ForInStep.yield r)) (fun ok s' =>
        if ok = true then wpAny (model prog w) A (eval elt env) (fun y s₂ => BEnd4 h₀ L m s₀ I oI K oK D (lst ys) C oC (fun nw' => J (i + 1) (ys ++ [y]) nw') s₂) (fun _ _ => False) s'
        else BEnd4 h₀ L m s₀ I oI K oK D (lst ys) C oC (fun nw' => J (i + 1) ys nw') s') (fun _ _ => False) { s₀ with heap := h, toks := tk })
    (fin : ∀ ys nw h tk, J n ys nw → Fr h₀ L h m → News h₀ L h ((D, lst ys) :: (C, oC) :: nw) → (∀ p ∈ nw, p.1 ≠ C ∧ p.1 ≠ D) → R (.ok .next) { s₀ with heap := h, toks := tk })
    {ys : List Value} {nw : List (Addr × Obj)} {h : Heap} {tk : Nat} {oK : Obj} {v₀ : Option Value} (hoK : oK.data = .cell v₀) (hJ : J 0 ys nw) (st : St 0 h) (F : Fr h₀ L h m) (N : News h₀ L h ((K, oK) :: (D, lst ys) :: (C, oC) :: nw)) (off : ∀ p ∈ nw, p.1 ≠ I ∧ p.1 ≠ K ∧ p.1 ≠ D ∧ p.1 ≠ C) :
    codeAny (model prog w) A (mk (.ref I) (.ref D) env) R { s₀ with heap := h, toks := tk } := by
  let Inv : Nat → Shared → Prop := fun k s' => ∃ h' tk i ys nw oK v₀, s' = { s₀ with heap := h', toks := tk } ∧ i ≤ n ∧ k = n + 1 - i ∧ oK.data = .cell v₀ ∧ J i ys nw ∧ St i h' ∧ Fr h₀ L h' m ∧ News h₀ L h' ((K, oK) :: (D, lst ys) :: (C, oC) :: nw) ∧ (∀ p ∈ nw, p.1 ≠ I ∧ p.1 ≠ K ∧ p.1 ≠ D ∧ p.1 ≠ C)
  refine rule _ _ _ R Inv ?_ (n + 1) _ ⟨h, tk, 0, ys, nw, oK, v₀, rfl, Nat.zero_le _, rfl, hoK, hJ, st, F, N, off⟩
  intro k s' hh
  refine hide fun PH kP => ?_
  obtain ⟨h', tk, i, ys, nw, oK, v₀, rfl, hi, rfl, hoK, hJ, st, F, N, off⟩ := hh
  refine kP ?_
  clear kP PH
  have offI : ∀ p ∈ (K, oK) :: (D, lst ys) :: (C, oC) :: nw, p.1 ≠ I := by
    intro p hp
    rcases List.mem_cons.mp hp with rfl | hp
    · exact Ne.symm pl.IK
    · rcases List.mem_cons.mp hp with rfl | hp
      · exact Ne.symm pl.ID
      · rcases List.mem_cons.mp hp with rfl | hp
        · exact Ne.symm pl.IC
        · exact (off p hp).1
  by_cases hlt : i < n
  · refine W.item i _ _ _ hlt st fun v h₂ tk₂ hPv st₂ hk₂ => ?_
    have N₂ := news_but N hk₂ offI
    refine wpAny_assign_Name (wpAny_storeName_cell hkf hx hcx ⟨oK, (N₂ (K, oK) List.mem_cons_self).1, hoK⟩ fun h₃ hv hs₃ => ?_)
    obtain ⟨oK', heK, hdK⟩ := hv
    have st₃ : St (i + 1) h₃ := W.frame _ _ _ st₂ fun b hb o e => hs₃.extBut b o (fun q => hKf (q ▸ hb)) e
    obtain ⟨oI, heI⟩ := hIo _ _ st₃
    have F₃ : Fr h₀ L h₃ m := (fr_but F hk₂ pl.LI pl.I0).change hs₃ (Ne.symm pl.LK) pl.K0
    have N₃ : News h₀ L h₃ ((I, oI) :: (K, oK') :: (D, lst ys) :: (C, oC) :: nw) := by
      intro p hp
      rcases List.mem_cons.mp hp with rfl | hp
      · exact ⟨heI, Ne.symm pl.LI, pl.I0⟩
      · rcases List.mem_cons.mp hp with rfl | hp
        · exact ⟨heK, Ne.symm pl.LK, pl.K0⟩
        · have z := N₂ p (List.mem_cons_of_mem _ hp)
          refine ⟨hs₃.extBut _ _ ?_ z.1, z.2⟩
          rcases List.mem_cons.mp hp with rfl | hp
          · exact Ne.symm pl.KD
          · rcases List.mem_cons.mp hp with rfl | hp
            · exact Ne.symm pl.KC
            · exact (off p hp).2.1
    refine wpAny_mono (body i v ys nw oI oK' h₃ tk₂ hlt hPv hJ hdK F₃ N₃ off) (fun ok s₄ h₄ => ?_) fun _ _ e => e
    cases ok with
    | false =>
      refine hide fun PH kP => ?_
      obtain ⟨h₄, tk₄, nw₄, rfl, F₄, N₄, off₄, J₄⟩ := h₄
      refine kP ?_
      clear kP PH
      have N₄' : News h₀ L h₄ nw₄ := fun p hp => N₄ p (List.mem_cons_of_mem _ (List.mem_cons_of_mem _ (List.mem_cons_of_mem _ (List.mem_cons_of_mem _ hp))))
      have zI := (N₄ (I, oI) List.mem_cons_self).1
      exact ⟨n + 1 - (i + 1), by omega, h₄, tk₄, i + 1, ys, nw₄, oK', _, rfl, hlt, rfl, hdK, J₄, hSt _ _ _ _ _ st₃ heI zI F₄.keep N₄' (hJS _ _ _ J₄), F₄,
        fun p hp => N₄ p (List.mem_cons_of_mem _ hp), off₄⟩
    | true =>
      refine wpAny_mono h₄ (fun y s₅ h₅ => ?_) fun _ _ e => e
      refine hide fun PH kP => ?_
      obtain ⟨h₄, tk₄, nw₄, rfl, F₄, N₄, off₄, J₄⟩ := h₅
      refine kP ?_
      clear kP PH
      have N₄' : News h₀ L h₄ nw₄ := fun p hp => N₄ p (List.mem_cons_of_mem _ (List.mem_cons_of_mem _ (List.mem_cons_of_mem _ (List.mem_cons_of_mem _ hp))))
      have zI := (N₄ (I, oI) List.mem_cons_self).1
      have zK := N₄ (K, oK') (List.mem_cons_of_mem _ List.mem_cons_self)
      have zD := (N₄ (D, lst ys) (List.mem_cons_of_mem _ (List.mem_cons_of_mem _ List.mem_cons_self))).1
      have zC := N₄ (C, oC) (List.mem_cons_of_mem _ (List.mem_cons_of_mem _ (List.mem_cons_of_mem _ List.mem_cons_self)))
      have st₄ : St (i + 1) h₄ := hSt _ _ _ _ _ st₃ heI zI F₄.keep N₄' (hJS _ _ _ J₄)
      refine append_at (hsz := by show ys.toArray.size ≤ sizeLine; rw [List.size_toArray]; exact hsz _ _ _ hJ) zD fun h₅ hs₅ hD₅ => ?_
      refine ⟨n + 1 - (i + 1), by omega, h₅, tk₄, i + 1, ys ++ [y], nw₄, oK', _, rfl, hlt, rfl, hdK, J₄, W.frame _ _ _ st₄ fun b hb o e => hs₅.extBut b o (fun q => hDf (q ▸ hb)) e, F₄.change hs₅ (Ne.symm pl.LD) pl.D0,
        fun p hp => ?_, off₄⟩
      rcases List.mem_cons.mp hp with rfl | hp
      · exact ⟨hs₅.extBut _ _ pl.KD zK.1, zK.2⟩
      · rcases List.mem_cons.mp hp with rfl | hp
        · exact ⟨hD₅.trans (congrArg some (lst_snoc ys y)), Ne.symm pl.LD, pl.D0⟩
        · rcases List.mem_cons.mp hp with rfl | hp
          · exact ⟨hs₅.extBut _ _ pl.CD zC.1, zC.2⟩
          · exact ⟨hs₅.extBut _ _ (off₄ p hp).2.2.1 (N₄' p hp).1, (N₄' p hp).2⟩
  · obtain rfl : i = n := Nat.le_antisymm hi (Nat.not_lt.mp hlt)
    refine W.done _ _ _ st fun h₂ tk₂ hk₂ => ?_
    have N₂ := news_but N hk₂ offI
    exact fin ys nw h₂ tk₂ hJ (fr_but F hk₂ pl.LI pl.I0) (fun p hp => N₂ p (List.mem_cons_of_mem _ hp)) (fun p hp => ⟨(off p hp).2.2.2, (off p hp).2.2.1⟩)

/-- the block is made, with one cell -/
theorem block0C {e : Expr} {scope : Scope} {cl : List (Str × Addr)} {x : Str} {s₂ : Shared} {it : Value} {nw : List (Addr × Obj)} {RR : Value → Addr → Result → Shared → Prop} {E : Value → Shared → Prop}
    (hone : ∀ q, cellsFrom q scope.names cl = (x, q) :: cl) (hpush : ∀ h, pushCells h scope.names = h.push cellObj) (F : Fr h₀ L s₂.heap m) (N : News h₀ L s₂.heap nw)
    (k : ∀ C K D oC h tk, Fr h₀ L h m → NsObj oC (fun _ => none) → News h₀ L h ((K, cellObj) :: (D, lst []) :: (C, oC) :: nw) → (∀ b o, s₂.heap.get? b = some o → b ≠ C ∧ b ≠ K ∧ b ≠ D) → (∀ b o, s₂.heap.get? b = some o → h.get? b = some o) →
      C ≠ D → K ≠ C → K ≠ D → L ≠ C → L ≠ D → L ≠ K → h₀.get? C = none → h₀.get? D = none → h₀.get? K = none →
      codeAny (model prog w) A (.compStart e 0 it (.ref D) (compEnvC scope ((x, K) :: cl) C env)) (RR (.ref D) C) { s₂ with heap := h, toks := tk }) :
    wpAny (model prog w) A (newList []) (fun acc s₃ => wpAny (model prog w) A (newFunctionEnv scope env.globals cl [] env.qual none .none (some env)) (fun cenv s₄ =>
      codeAny (model prog w) A (.compStart e 0 it acc { cenv with scope := relabel scope env }) (RR acc cenv.locals) s₄) E s₃) E s₂ := by
  refine wpAny_newObj_type ?_
  simp only [newFunctionEnv, Option.isSome_some, if_true]
  refine wpAny_bind (wpAny_alloc ?_)
  refine wpAny_bind (wpAny_layCells _ (fun name kind cells => by cases hkc : kind == NameKind.cell <;> simp [hkc]) _ _ _ _ ?_)
  rw [hone, hpush]
  refine wpAny_bind ?_
  rw [List.forIn_nil]
  refine wpAny_pure (wpAny_pure ?_)
  dsimp only
  generalize hH1 : s₂.heap.push { cls := .type "list", dict := none, data := .seq ([] : List Value).toArray } = H1
  generalize hH2 : H1.push { cls := .type "dict", data := .dict #[] } = H2
  have s1 : H1.objs.size = s₂.heap.objs.size + 1 := by rw [← hH1, Heap.size_push]
  have s2 : H2.objs.size = s₂.heap.objs.size + 1 + 1 := by rw [← hH2, Heap.size_push, s1]
  have up1 : ∀ b o, s₂.heap.get? b = some o → H1.get? b = some o := fun b o e => hH1 ▸ Heap.get?_push_of_some _ e
  have up2 : ∀ b o, H1.get? b = some o → H2.get? b = some o := fun b o e => hH2 ▸ Heap.get?_push_of_some _ e
  have up3 : ∀ b o, H2.get? b = some o → (H2.push cellObj).get? b = some o := fun b o e => Heap.get?_push_of_some _ e
  have old : ∀ b o, s₂.heap.get? b = some o → (H2.push cellObj).get? b = some o := fun b o e => up3 _ _ (up2 _ _ (up1 _ _ e))
  have hD : (H2.push cellObj).get? s₂.heap.objs.size = some (lst []) := up3 _ _ (up2 _ _ (hH1 ▸ Heap.get?_push_size _ rfl))
  have nsC : (H2.push cellObj).Ns H1.objs.size (fun _ => none) := by
    have := (Heap.Ns.new H1 (.type "dict"))
    rw [hH2] at this
    exact this.keeps up3
  obtain ⟨oC, heC, hoC⟩ := ns_obj nsC
  have heK : (H2.push cellObj).get? H2.objs.size = some cellObj := Heap.get?_push_size _ rfl
  have below : ∀ b, @LT.lt Nat _ b s₂.heap.objs.size → b ≠ H1.objs.size ∧ b ≠ H2.objs.size ∧ b ≠ s₂.heap.objs.size := fun b hb => ⟨Nat.ne_of_lt (by rw [s1]; omega), Nat.ne_of_lt (by rw [s2]; omega), Nat.ne_of_lt hb⟩
  have fresh₀ : ∀ a, s₂.heap.objs.size ≤ a → h₀.get? a = none := fun a ha => by
    cases e : h₀.get? a with
    | none => rfl
    | some o' => exact absurd (Heap.lt_size (F.keep a o' e)) (Nat.not_lt.mpr ha)
  have hL := below L F.ns.lt
  have c0 : h₀.get? H1.objs.size = none := fresh₀ _ (by rw [s1]; exact Nat.le_succ _)
  have k0 : h₀.get? H2.objs.size = none := fresh₀ _ (by rw [s2]; exact Nat.le_trans (Nat.le_succ _) (Nat.le_succ _))
  have nCD : H1.objs.size ≠ s₂.heap.objs.size := by rw [s1]; exact Nat.succ_ne_self _
  have nKC : H2.objs.size ≠ H1.objs.size := by rw [s2, s1]; exact Nat.succ_ne_self _
  have nKD : H2.objs.size ≠ s₂.heap.objs.size := Ne.symm (Nat.ne_of_lt (by rw [s2]; exact Nat.lt_succ_of_lt (Nat.lt_succ_self _)))
  refine k H1.objs.size H2.objs.size s₂.heap.objs.size oC _ _ (F.keeps old) hoC (fun p hp => ?_) (fun b o e => below b (Heap.lt_size e)) old nCD nKC nKD hL.1 hL.2.2 hL.2.1 c0 (fresh₀ _ (Nat.le_refl _)) k0
  rcases List.mem_cons.mp hp with rfl | hp
  · exact ⟨heK, Ne.symm hL.2.1, k0⟩
  · rcases List.mem_cons.mp hp with rfl | hp
    · exact ⟨hD, Ne.symm hL.2.2, fresh₀ _ (Nat.le_refl _)⟩
    · rcases List.mem_cons.mp hp with rfl | hp
      · exact ⟨heC, Ne.symm hL.1, c0⟩
      · exact ⟨old _ _ (N p hp).1, (N p hp).2⟩
end
section
variable {prog : Program} {w : World} {A : Around} {E : Value → Shared → Prop} {h₀ : Heap} {L : Addr} {m : Str → Option Value} {s : Shared} {env : Env} {nw : List (Addr × Obj)}
/-- one clause whose name is a cell -/
theorem comp_coreC {x : Str} {px : Pos} {ifs : List Expr} {elt iter : Expr} {scope : Scope} {cl : List (Str × Addr)} {pos : Pos} {n : Nat} {P : Nat → Value → Prop} {St : Nat → Heap → Prop} {S : List (Addr × Obj) → Prop} {fp : List Addr} {I : Addr} {RR : Value → Addr → Result → Shared → Prop}
    (hone : ∀ q, cellsFrom q scope.names cl = (x, q) :: cl) (hpush : ∀ h, pushCells h scope.names = h.push cellObj) (hkind : scope.kind = .function) (hx : (relabel scope env).names.lookup x = some .cell)
    (Sr : SrcOf prog w A h₀ L m n P St S fp I nw s)
    (J : Nat → List Value → List (Addr × Obj) → Prop) (hJ0 : J 0 [] nw) (hJS : ∀ i ys nw, J i ys nw → S nw) (hsz : ∀ i ys nw, J i ys nw → ys.length ≤ sizeLine)
    (body : ∀ C D K i v ys nw oI oC oK h tk, i < n → P i v → J i ys nw → oK.data = .cell (some v) → Fr h₀ L h m → News h₀ L h ((I, oI) :: (K, oK) :: (D, lst ys) :: (C, oC) :: nw) → (∀ p ∈ nw, p.1 ≠ I ∧ p.1 ≠ K ∧ p.1 ≠ D ∧ p.1 ≠ C) → Places4 h₀ L I C D K →
      wpAny (model prog w) A (forIn ifs true fun c r => if r = true then do let ok ← isTrue c (compEnvC scope ((x, K) :: cl) C env) (eval c (compEnvC scope ((x, K) :: cl) C env)); pure (ForInStep.yield ok) else pure (ForInStep.yield r)) (fun ok s' =>
        if ok = true then wpAny (model prog w) A (eval elt (compEnvC scope ((x, K) :: cl) C env)) (fun y s₂ => BEnd4 h₀ L m s I oI K oK D (lst ys) C oC (fun nw' => J (i + 1) (ys ++ [y]) nw') s₂) (fun _ _ => False) s'
        else BEnd4 h₀ L m s I oI K oK D (lst ys) C oC (fun nw' => J (i + 1) ys nw') s') (fun _ _ => False) { s with heap := h, toks := tk })
    (fin : ∀ C D ys m' nw h tk, J n ys nw → Fr h₀ L h m → h.Ns C m' → News h₀ L h ((D, lst ys) :: nw) → (∀ p ∈ nw, p.1 ≠ C) → LCg.Off1 D nw → C ≠ D → C ≠ L → h₀.get? C = none → RR (.ref D) C (.ok .next) { s with heap := h, toks := tk }) :
    wpAny (model prog w) A (newList []) (fun acc s₃ => wpAny (model prog w) A (newFunctionEnv scope env.globals cl [] env.qual none .none (some env)) (fun cenv s₄ =>
      codeAny (model prog w) A (.compStart (.ListComp elt [⟨.Name x px, iter, ifs, 0⟩] scope pos) 0 (.ref I) acc { cenv with scope := relabel scope env }) (RR acc cenv.locals) s₄) E s₃) E s := by
  refine block0C hone hpush Sr.F Sr.N fun C K D oC h tk F' hoC N' nb old hCD hKC hKD hLC hLD hLK hC0 hD0 hK0 => ?_
  obtain ⟨oI, heI⟩ := Sr.io _ _ Sr.st
  have hKf : K ∉ fp := fun hm => by
    obtain ⟨o, e⟩ := Sr.fits _ hm
    exact (nb _ _ e).2.1 rfl
  have hDf : D ∉ fp := fun hm => by
    obtain ⟨o, e⟩ := Sr.fits _ hm
    exact (nb _ _ e).2.2 rfl
  have pl : Places4 h₀ L I C D K := ⟨(nb _ _ heI).1, (nb _ _ heI).2.2, (nb _ _ heI).2.1, hCD, hKC, hKD, Sr.li, hLC, hLD, hLK, Sr.i0, hC0, hD0, hK0⟩
  have st₁ : St 0 h := Sr.walk.frame _ _ _ Sr.st fun b _ o e => old b o e
  have off : ∀ p ∈ nw, p.1 ≠ I ∧ p.1 ≠ K ∧ p.1 ≠ D ∧ p.1 ≠ C := fun p hp => ⟨Sr.off p hp, (nb _ _ (Sr.N p hp).1).2.1, (nb _ _ (Sr.N p hp).1).2.2, (nb _ _ (Sr.N p hp).1).1⟩
  have loop := loopGC (s₀ := s) (R := RR (.ref D) C) (oC := oC) (rule_one (prog := prog) (w := w) (A := A) (elt := elt) (iter := iter) (x := x) (px := px) (ifs := ifs) (scope := scope) (pos := pos)) (env := compEnvC scope ((x, K) :: cl) C env) (fun i ys nw => J i ys nw) Sr.walk pl
    hkind hx (by simp [compEnvC]) hDf hKf Sr.io Sr.hst hJS hsz (fun i v ys nw oI oK h tk hi hP hJ hoK F N off => body C D K i v ys nw oI oC oK h tk hi hP hJ hoK F N off pl)
    (fun ys nw h tk hJ F N off => fin C D ys _ nw h tk hJ F (hoC.ns (N (C, oC) (List.mem_cons_of_mem _ List.mem_cons_self)).1) (fun p hp => by
      rcases List.mem_cons.mp hp with rfl | hp
      · exact N _ List.mem_cons_self
      · exact N p (List.mem_cons_of_mem _ (List.mem_cons_of_mem _ hp))) (fun p hp => (off p hp).1) (off1_of fun p hp => (off p hp).2) hCD (Ne.symm hLC) hC0) (tk := tk) (v₀ := none) rfl hJ0 st₁ F' N' off
  exact codeAny_compStart_list loop (Sr.walk.self 0 _ _ _ st₁ loop)
end
end Mine
end
section
open PySem PySem.W PySem.Calls PyProof.Rows PySem.Spec
set_option Elab.async false
set_option maxRecDepth 100000
set_option linter.unusedVariables false
namespace Mine

/-- e is an exception with a traceback entry, and with no context -/
noncomputable def TrC (base : Heap) (e : Addr) (cls a0 fl : Value) (h : Heap) : Prop :=
  ∃ oe vs T oT ts, h.get? e = some oe ∧ oe.cls = cls ∧ vs[0]? = some a0 ∧ oe.data = .fields vs ∧ vs[1]? = some (.ref T) ∧ vs[2]? = some .none ∧
    base.get? T = none ∧ T ≠ e ∧ h.get? T = some oT ∧ oT.data = .fields ts ∧ ts[3]? = some fl

theorem TrC.toAt {base h : Heap} {e : Addr} {cls a0 fl : Value} (x : TrC base e cls a0 fl h) : h.TracedAtW base e cls a0 fl := by
  obtain ⟨oe, vs, T, oT, ts, h1, h2, h3, h4, h5, h6, h7, h8, h9, h10, h11⟩ := x
  exact ⟨oe, vs, T, oT, ts, h1, ⟨h2, h3⟩, h4, h5, h7, h8, h9, h10, h11⟩
theorem TrC.toW {base h : Heap} {e : Addr} {cls a0 : Value} (x : TrC base e cls a0 .none h) : h.TracedW base e cls a0 := by
  obtain ⟨oe, vs, T, oT, ts, h1, h2, h3, h4, h5, h6, h7, h8, h9, h10, h11⟩ := x
  exact ⟨oe, vs, T, oT, ts, h1, ⟨h2, h3⟩, h4, h5, h7, h8, h9, h10, h11⟩

/-- what one writing to records leaves as it was -/
noncomputable def Same (base : Heap) (l : List Env) (h h' : Heap) : Prop := base.StaysIn h' ∧ h'.FunFrames base l ∧ h.UpToSlots h'

section
variable {M : Model} {A : Around} {E : Value → Shared → Prop} {s : Shared}

theorem flightC {base : Heap} {l : List Env} {e : Addr} {cls a0 fl : Value} {Q : Unit → Shared → Prop} (hkb : base.StaysIn s.heap) (hl : s.heap.FunFrames base l) (ht : TrC base e cls a0 fl s.heap)
    (h : ∀ h', Same base l s.heap h' → TrC base e cls a0 .none h' → Q () { s with heap := h' }) : wpAny M A (setFlight (.ref e) none) Q E s := by
  refine hide fun PH kP => ?_
  obtain ⟨oe, vs, T, oT, ts, h1, h2, h3, h4, h5, h6, h7, h8, h9, h10, h11⟩ := ht
  refine kP ?_
  clear kP PH
  have other : ∀ b, b ≠ T → (s.heap.update T (Obj.mapFields (·.setIfInBounds 3 ((none : Option Addr).elim Value.none fun f => rawInt f)))).get? b = s.heap.get? b :=
    fun b hb => Heap.get?_update_other _ _ (Ne.symm hb)
  have plain : ∀ b o, s.heap.get? b = some o → (∀ vs, o.data ≠ .fields vs) → b ≠ T := fun b o hb hn q => by
    subst q; rw [h9] at hb; cases hb; exact hn _ h10
  unfold setFlight
  refine wpAny_bind (wpAny_field h1 h4 h5 ?_)
  rw [if_pos (show (Value.ref T != Value.none) = true from by simp)]
  refine wpAny_setField h9 h10 (Array.getElem?_eq_some_iff.mp h11).1 (h _ ⟨fun b o hb => ?_, hl.of_keeps fun b o hb hn => ⟨o, (other b (plain b o hb hn)).trans hb, rfl⟩, fun b o hb hn => ⟨o.slots, (other b (plain b o hb hn)).trans hb⟩⟩ ?_)
  · exact (other b fun q => by subst q; rw [h7] at hb; cases hb).trans (hkb b o hb)
  · exact ⟨oe, vs, T, _, _, (other e (Ne.symm h8)).trans h1, h2, h3, h4, h5, h6, h7, h8, Heap.get?_update_self _ h9 (Obj.isFreed_of_fields (Obj.data_mapFields h10 _)), Obj.data_mapFields h10 _, by simp [(Array.getElem?_eq_some_iff.mp h11).1]⟩

theorem entryC {base : Heap} {env : Env} {outer : List Env} {L e : Addr} {oe : Obj} {vs : Array Value} {head a0 : Value} {hadNext : Bool} {Q : Unit → Shared → Prop}
    (hfr : A.frames = some (env :: outer)) (hl : s.heap.FunFrames base (env :: outer)) (hf : env.frame = some L)
    (he : s.heap.get? e = some oe) (hkb : base.StaysIn s.heap) (hen : base.get? e = none) (hd : oe.data = .fields vs) (hsz : 1 < vs.size) (h0 : vs[0]? = some a0) (h2 : vs[2]? = some .none)
    (h : ∀ h', Same base (env :: outer) s.heap h' → TrC base e oe.cls a0 (rawInt L) h' → Q () { s with heap := h' }) :
    wpAny M A (do let a ← frameOf env; let pl ← entryPlaceOf L hadNext; let b ← EntryCells.newEntry head a .none (rawInt L) .none pl; setField (.ref e) 1 b) Q E s := by
  have hne : e ∉ (env :: outer).filterMap (·.frame) := fun hm => by
    obtain ⟨_, o, ho, hnf⟩ := hl.mem hm
    rw [he] at ho; cases ho; exact hnf vs hd
  refine wpAny_bind (wpAny_frameOf_fun hfr hl hf fun h₁ hs₁ => ?_)
  refine wpAny_bind (wpAny_entryPlaceOf fun pl hpl => ?_)
  unfold EntryCells.newEntry newFields
  refine wpAny_bind (wpAny_newObj_type ?_ (hpl.sizeOk5 _ _ _ _ _))
  have e1 : h₁.get? e = some oe := (hs₁.2.1 e hne).trans he
  have kb : base.StaysIn h₁ := fun b o hbo => (hs₁.2.1 b fun hm => by rw [(hl.mem hm).1] at hbo; cases hbo).trans (hkb b o hbo)
  generalize htb : ({ cls := .type "traceback", dict := none, data := .fields ([head, .ref L, .none, rawInt L, .none] ++ (if pl.isEmpty then List.replicate 6 Value.none else pl)).toArray } : Obj) = tb
  have e2 := Heap.get?_push_of_some (h := h₁) tb e1
  refine wpAny_setField e2 hd hsz (h _ ?_ ?_)
  · have keep : ∀ b o, b ≠ e → h₁.get? b = some o → ((h₁.push tb).update e (Obj.mapFields (·.setIfInBounds 1 (Value.ref h₁.objs.size)))).get? b = some o := fun b o hbe hb => by
      rw [Heap.get?_update_other _ _ (Ne.symm hbe)]; exact Heap.get?_push_of_some _ hb
    have plain : ∀ b o, s.heap.get? b = some o → (∀ vs, o.data ≠ .fields vs) → b ≠ e := fun b o hb hnf q => by
      subst q; rw [he] at hb; cases hb; exact hnf vs hd
    refine ⟨fun b o hbo => keep b o (fun q => by subst q; rw [hen] at hbo; cases hbo) (kb b o hbo), hl.of_keeps fun b o hb hnf => ?_, fun b o hb hnf => ?_⟩
    · obtain ⟨sl, hs⟩ := hs₁.2.2 b o hb
      exact ⟨_, keep b _ (plain b o hb hnf) hs, rfl⟩
    · obtain ⟨sl, hs⟩ := hs₁.2.2 b o hb
      exact ⟨sl, keep b _ (plain b o hb hnf) hs⟩
  · have hTe : h₁.objs.size ≠ e := Nat.ne_of_gt (Heap.lt_size e1)
    have d3 := Obj.data_mapFields hd (·.setIfInBounds 1 (Value.ref h₁.objs.size))
    have hnf : tb.isFreed = false := by subst htb; rfl
    have hT := (Heap.get?_update_other (h₁.push tb) (Obj.mapFields (·.setIfInBounds 1 (Value.ref h₁.objs.size))) (Ne.symm hTe)).trans (Heap.get?_push_size h₁ hnf)
    refine ⟨_, _, h₁.objs.size, tb, _, Heap.get?_update_self _ e2 (Obj.isFreed_of_fields d3), Obj.cls_mapFields _ _, ?_, d3, ?_, ?_, kb.fresh, hTe, hT, by subst htb; rfl, ?_⟩
    · rw [Array.getElem?_setIfInBounds_ne (by decide)]; exact h0
    · simp [hsz]
    · rw [Array.getElem?_setIfInBounds_ne (by decide)]; exact h2
    · rcases hpl with rfl | ⟨_, _, _, _, _, _, _, rfl⟩ <;> simp

theorem noteC {base : Heap} {env : Env} {outer : List Env} {L e : Addr} {cls a0 : Value} {Q : Unit → Shared → Prop}
    (hfr : A.frames = some (env :: outer)) (hl : s.heap.FunFrames base (env :: outer)) (hf : env.frame = some L) (ht : TrC base e cls a0 .none s.heap) (hkb : base.StaysIn s.heap) (hen : base.get? e = none)
    (h : ∀ h', Same base (env :: outer) s.heap h' → TrC base e cls a0 (rawInt L) h' → Q () { s with heap := h' }) : wpAny M A (noteFrame (.ref e) env) Q E s := by
  refine hide fun PH kP => ?_
  obtain ⟨oe, vs, T, oT, ts, h1, h2, h3, h4, h5, h6, h7, h8, h9, h10, h11⟩ := ht
  refine kP ?_
  clear kP PH
  subst h2
  unfold noteFrame
  simp only [hf]
  refine wpAny_bind (wpAny_field h1 h4 h5 ?_)
  rw [if_pos (show (Value.ref T != Value.none) = true from by simp)]
  refine wpAny_bind (wpAny_field h9 h10 h11 ?_)
  rw [if_neg (show ¬ ((Value.none == rawInt L) = true) from by simp [rawInt])]
  refine wpAny_bind (wpAny_setField h9 h10 (Array.getElem?_eq_some_iff.mp h11).1 ?_)
  have other : ∀ b, b ≠ T → (s.heap.update T (Obj.mapFields (·.setIfInBounds 3 Value.none))).get? b = s.heap.get? b := fun b hb => Heap.get?_update_other _ _ (Ne.symm hb)
  have plain : ∀ b o, s.heap.get? b = some o → (∀ vs, o.data ≠ .fields vs) → b ≠ T := fun b o hb hn q => by
    subst q; rw [h9] at hb; cases hb; exact hn _ h10
  refine entryC hfr (hl.of_keeps fun b o hb hnf => ⟨o, (other b (plain b o hb hnf)).trans hb, rfl⟩) hf ((other e (Ne.symm h8)).trans h1)
    (fun b o hbo => (other b fun q => by subst q; rw [h7] at hbo; cases hbo).trans (hkb b o hbo)) hen h4 (Array.getElem?_eq_some_iff.mp h5).1 h3 h6
    fun h' ⟨x1, x2, x3⟩ x4 => h h' ⟨x1, x2, fun b o hb hnf => x3 b o ((other b (plain b o hb hnf)).trans hb) hnf⟩ x4

theorem leaveC {base : Heap} {env : Env} {outer : List Env} {L e : Addr} {oe : Obj} {vs : Array Value} {a0 : Value} {Q : Unit → Shared → Prop}
    (hfr : A.frames = some (env :: outer)) (hl : s.heap.FunFrames base (env :: outer)) (hf : env.frame = some L)
    (he : s.heap.get? e = some oe) (hkb : base.StaysIn s.heap) (hen : base.get? e = none) (hd : oe.data = .fields vs) (h1 : vs[1]? = some .none) (h0 : vs[0]? = some a0) (h2 : vs[2]? = some .none)
    (h : ∀ h', Same base (env :: outer) s.heap h' → TrC base e oe.cls a0 .none h' → Q () { s with heap := h' }) : wpAny M A (leaving env (.ref e)) Q E s := by
  unfold leaving noteFrame
  simp only [hf]
  refine wpAny_bind (wpAny_bind (wpAny_field he hd h1 ?_))
  rw [if_neg (by decide)]
  refine entryC hfr hl hf he hkb hen hd (Array.getElem?_eq_some_iff.mp h1).1 h0 h2 fun h' x1 x2 => ?_
  refine flightC (s := { s with heap := h' }) x1.1 x1.2.1 x2 fun h'' y1 y2 => h h'' ⟨y1.1, y1.2.1, x1.2.2.trans y1.2.2⟩ y2
end
end Mine
end
section
open PySem PySem.W PySem.Calls PyProof.Rows PySem.Spec
set_option Elab.async false
set_option maxRecDepth 100000
set_option linter.unusedVariables false
namespace Mine

theorem one_le_line (v : Value) : [v].length ≤ sizeLine := show 1 ≤ sizeLine by decide +kernel

theorem call_exc_two {prog : Program} {w : World} {A : Around} {E E' : Value → Shared → Prop} {s : Shared} {X N I : String} {rest : List Value} (hrest : rest.length ≤ sizeLine) (hc : ExcClass X N I)
    (h : ∀ h' e, Heap.NewExc s.heap h' e X → E' (.ref e) { s with heap := h' }) : wpAny (model prog w) A (call (.type X) rest) (Raisable E') E s :=
  call_exc (hrest := hrest) hc fun h' e hx => by
    obtain ⟨ob, t, he, hcls, hd⟩ := hx.there
    exact ⟨e, ob, _, X, N, I, hc, rfl, he, hcls, hd, rfl, h h' e hx⟩

theorem caught_noRaise {α : Type} {M : Model} {A : Around} {s : Shared} {t1 t2 : Sem Unit} {t3 : Sem α} {Q : α → Shared → Prop} {E : Value → Shared → Prop}
    (h : wpAny M A t1 (fun _ s₂ => wpAny M A t2 (fun _ s₃ => wpAny M A t3 Q (fun _ _ => False) s₃) (fun _ _ => False) s₂) (fun _ _ => False) s) :
    wpAny M A t1 (fun _ s₂ => wpAny M A t2 (fun _ s₃ => wpAny M A t3 Q E s₃) E s₂) E s :=
  wpAny_mono h (fun _ _ h => wpAny_mono h (fun _ _ h => wpAny_mono h (fun _ _ x => x) fun _ _ x => x.elim) fun _ _ x => x.elim) fun _ _ x => x.elim

theorem below_mark {A : Around} {b g : Heap} {l : List Env} {x : Option Value} (K : Below A b l g) : Below (A.mark x) b l g := { K with stack := K.stack }

theorem entry_unchain : entryFor table "proto.unchain" = some Builtin.«proto.unchain» := entryFor_of_tree (by kernel_rfl)

/-- what a raise under a handled exception (one without context) has to know -/
noncomputable def UnderE (e0 : Addr) (E : Value → Shared → Prop) (v : Value) (s₁ : Shared) : Prop :=
  ∃ a ob vs o v0, v = .ref a ∧ a ≠ e0 ∧ s₁.heap.get? a = some ob ∧ ob.data = .fields vs ∧ 2 < vs.size ∧ s₁.heap.get? e0 = some o ∧ o.data = .fields v0 ∧ v0[2]? = some .none ∧
    E (.ref a) { s₁ with heap := s₁.heap.update a (Obj.mapFields (·.setIfInBounds 2 (.ref e0))) }

section
variable {prog : Program} {w : World} {A : Around} {E : Value → Shared → Prop} {s : Shared} {env : Env}

theorem raiseNew_under {α : Type} {v : Value} {e0 : Addr} {Q : α → Shared → Prop} (hh : A.handled = some (.ref e0)) (h : UnderE e0 E v s) : wpAny (model prog w) A (raiseNew v : Sem α) Q E s := by
  refine hide fun PH kP => ?_
  obtain ⟨a, ob, vs, o, v0, rfl, hne, ha, hd, hs, h0, hd0, h2, hE⟩ := h
  refine kP ?_
  clear kP PH
  unfold raiseNew
  refine wpAny_bind (wpAny_handled ?_)
  rw [hh]
  dsimp only
  rw [if_pos (show (Value.ref e0 != Value.ref a) = true from by simp [Ne.symm hne])]
  have key : ∀ {Q' : Value → Shared → Prop}, (∀ r, Q' r s) → wpAny (model prog w) A (holding [Value.ref a] (runValue (.builtin "proto.unchain" ⟨[.ref a, .ref e0, .ref e0, .bool false], []⟩))) Q' E s := fun {Q'} hq => by
    refine wpAny_holding (runValue_entry entry_unchain ?_)
    unfold Builtin.«proto.unchain»
    refine wpAny_bind (wpAny_field h0 hd0 h2 ?_)
    rw [if_pos (by decide)]
    refine wpAny_bind (m := ret Value.none) (wpAny_pure (wpAny_pure ⟨_, rfl, hq _⟩))
  have upd : ∀ {Q' : Unit → Shared → Prop}, Q' () { s with heap := s.heap.update a (Obj.mapFields (·.setIfInBounds 2 (.ref e0))) } → wpAny (model prog w) A (updateField a 2 (.ref e0)) Q' E s := fun hq => wpAny_setField ha hd hs hq
  first
    | exact wpAny_bind (wpAny_bind (key fun r => upd (wpAny_throw hE)))
    | exact wpAny_bind (key fun r => wpAny_bind (upd (wpAny_throw hE)))

theorem Raise_ctx {e : Expr} {pos : Pos} {e0 : Addr} {Q : Flow → Shared → Prop} (hh : A.handled = some (.ref e0))
    (h : wpAny (model prog w) A (eval e env) (Raisable (fun v s₁ => UnderE e0 E v s₁)) E s) : wpAny (model prog w) A (exec (.Raise (some e) none pos) env) Q E s := by
  show wpAny (model prog w) A (do standAt pos; raiseStmt env (some (do let v ← eval e env; standAt pos; pure v)) none) Q E s
  refine wpAny_bind (wpAny_standAt ?_)
  unfold raiseStmt
  dsimp only
  refine wpAny_bind (wpAny_bind (wpAny_mono h (fun v s₁ h₁ => wpAny_bind (wpAny_standAt (wpAny_pure ?_))) fun _ _ x => x))
  refine hide fun PH kP => ?_
  obtain ⟨a, ob, vs, X, N, I, hc, rfl, ha, hcls, hd, h1, hE⟩ := h₁
  refine kP ?_
  clear kP PH
  have hT : s₁.TypeIs (.ref a) X := ⟨ob, ha, hcls⟩
  have hnt : ∀ {Q' : Bool → Shared → Prop}, Q' false s₁ → wpAny (model prog w) A (isType (.ref a)) Q' E s₁ := by
    intro Q' hq
    simp only [isType, loadHead]
    refine wpAny_bind (wpAny_loadPart ha ?_)
    rw [hd]; exact wpAny_pure hq
  refine wpAny_bind (wpAny_pure ?_)
  dsimp only
  refine wpAny_bind (wpAny_holding ?_)
  unfold excFromValue isExcClass
  refine wpAny_bind (wpAny_bind (hnt ?_))
  simp only [Bool.false_eq_true, if_false]
  refine wpAny_pure ?_
  simp only [Bool.false_eq_true, if_false]
  refine wpAny_bind (wpAny_isInstance hT hc.base ?_)
  simp only [if_true]
  refine wpAny_pure ?_
  refine wpAny_bind (hnt ?_)
  simp only [Bool.false_eq_true, if_false]
  unfold raisedInstance
  refine wpAny_bind (wpAny_bind (wpAny_typeOf hT (wpAny_bind (m := typeOf (.type X)) (wpAny_pure ?_))))
  rw [if_pos hc.metaType]
  refine wpAny_pure ?_
  unfold setFlight
  refine wpAny_bind (wpAny_bind (wpAny_field ha hd h1 ?_))
  rw [if_neg (by decide)]
  exact wpAny_pure (raiseNew_under hh hE)
end

theorem under_of {s : Shared} {g h3 : Heap} {L e e3 : Addr} {o : Obj} {v0 : Array Value} {news : List (Addr × Obj)} {cls : String} {E : Value → Shared → Prop} (hx : Heap.NewExc s.heap h3 e3 cls) (N : News g L s.heap ((e, o) :: news))
    (hd : o.data = .fields v0) (hv : v0[2]? = some .none)
    (k : ∀ h4 ob t, h4.get? e3 = some ob → ob.cls = .type cls → ob.data = .fields #[t, .none, .ref e, .none, .bool false, .none] → (∀ b o, s.heap.get? b = some o → h4.get? b = some o) → s.heap.get? e3 = none → E (.ref e3) { s with heap := h4 }) :
    UnderE e E (.ref e3) { s with heap := h3 } := by
  have hN := (N _ (List.mem_cons_self ..)).1
  obtain ⟨ob3, t3, he3, hc3, hdd3⟩ := hx.there
  have hne3 : e3 ≠ e := fun q => by
    have := hx.new
    rw [q, hN] at this
    cases this
  refine ⟨e3, ob3, _, o, v0, rfl, hne3, he3, hdd3, by simp, hx.keeps _ _ hN, hd, hv, ?_⟩
  have hd4 := Obj.data_mapFields hdd3 (·.setIfInBounds 2 (.ref e))
  refine k _ _ t3 (Heap.get?_update_self _ he3 (Obj.isFreed_of_fields hd4)) ((Obj.cls_mapFields _ _).trans hc3) hd4 (fun b o hb => ?_) hx.new
  exact (Heap.get?_update_other _ _ (fun q => by subst q; rw [hx.new] at hb; cases hb)).trans (hx.keeps b o hb)

noncomputable def RaisedC (base G : Heap) (l : List Env) (e : Addr) (cls : Value) (news : List (Addr × Obj)) (h : Heap) : Prop :=
  ∃ B a0, base.StaysIn B ∧ (∀ b o, G.get? b = some o → b ∉ l.filterMap (·.frame) → B.get? b = some o) ∧ (∀ q ∈ news, B.get? q.1 = some q.2 ∧ G.get? q.1 = none ∧ base.get? q.1 = none) ∧
    B.StaysIn h ∧ B.get? e = none ∧ h.FunFrames B l ∧ TrC B e cls a0 .none h

section
variable {M : Model} {A : Around} {E : Value → Shared → Prop} {s' : Shared} {base g h : Heap} {outer : List Env} {L a e : Addr} {m : Str → Option Value} {name : Str} {scope : Scope} {cd : Value} {Q : Unit → Shared → Prop} {news : List (Addr × Obj)}

/-- the ground under a raising frame -/
theorem ground_of (K : Below A base outer g) (F : Fr g L h m) (N : News g L h news) (hk : scope.kind = .function) :
    base.StaysIn (hideAll h ((envOf name scope L a cd :: outer).filterMap (·.frame))) ∧
    (∀ b o, g.get? b = some o → b ∉ outer.filterMap (·.frame) → (hideAll h ((envOf name scope L a cd :: outer).filterMap (·.frame))).get? b = some o) ∧
    (∀ q ∈ news, (hideAll h ((envOf name scope L a cd :: outer).filterMap (·.frame))).get? q.1 = some q.2 ∧ g.get? q.1 = none ∧ base.get? q.1 = none) ∧
    h.FunFrames (hideAll h ((envOf name scope L a cd :: outer).filterMap (·.frame))) (envOf name scope L a cd :: outer) := by
  have K' := K.push (name := name) (a := a) (cd := cd) F hk
  have hin : ∀ env ∈ (envOf name scope L a cd :: outer), ∀ b, env.frame = some b → b ∈ (envOf name scope L a cd :: outer).filterMap (·.frame) := fun env he b hb => List.mem_filterMap.mpr ⟨env, he, hb⟩
  refine ⟨fun b o q => hideAll_get _ (K'.stays b o q) fun hm => ?_, fun b o q nm => hideAll_get _ (F.keep b o q) fun hm => ?_, fun q hq => ⟨hideAll_get _ (N q hq).1 fun hm => ?_, (N q hq).2.2, fresh_of_stays K.stays (N q hq).2.2⟩, funFrames_hide K'.frames hin⟩
  · rw [(K'.frames.mem hm).1] at q; cases q
  · rcases kts_mem hm with z | z
    · rw [z, kts_self F] at q; cases q
    · exact nm z
  · obtain ⟨env, he, hf⟩ := List.mem_filterMap.mp hm
    rcases List.mem_cons.mp he with rfl | he
    · exact (N q hq).2.1 (Option.some.inj hf).symm
    · obtain ⟨o, ho, _⟩ := (K.frames.mem (List.mem_filterMap.mpr ⟨env, he, hf⟩)).2
      rw [(N q hq).2.2] at ho; cases ho

theorem leave_newC {cls : String} (K : Below A base outer g) (hx : Heap.NewExc h s'.heap e cls) (F : Fr g L h m) (N : News g L h news)
    (hQ : ∀ h', RaisedC base g outer e (.type cls) news h' → g.UpToSlots h' → Q () { s' with heap := h' }) (hk : scope.kind = .function := by rfl) :
    wpAny M (A.deeper (envOf name scope L a cd)) (leaving (envOf name scope L a cd) (.ref e)) Q E s' := by
  have K' := K.push (name := name) (a := a) (cd := cd) F hk
  obtain ⟨st, sg, hl, hff⟩ := ground_of (name := name) (scope := scope) (a := a) (cd := cd) K F N hk
  refine hide fun PH kP => ?_
  obtain ⟨ob, tp, he, hcls, hd⟩ := hx.there
  refine kP ?_
  clear kP PH
  have hen : (hideAll h ((envOf name scope L a cd :: outer).filterMap (·.frame))).get? e = none := by
    cases q : (hideAll h ((envOf name scope L a cd :: outer).filterMap (·.frame))).get? e with
    | none => rfl
    | some o => have := of_hideAll _ q; rw [hx.new] at this; cases this
  refine leaveC (a0 := tp) K'.stack (hff.of_keeps fun b o hb _ => ⟨o, hx.keeps b o hb, rfl⟩) rfl he (fun b o hb => hx.keeps b o (of_hideAll _ hb)) hen hd rfl rfl rfl fun h' x1 x2 => ?_
  obtain ⟨_, _, k2⟩ := x1.2.1
  exact hQ h' ⟨_, tp, st, sg, hl, x1.1, hen, k2, by rw [← hcls]; exact x2⟩ (((Heap.UpToSlots.of_keeps F.keep).trans (Heap.UpToSlots.of_keeps hx.keeps)).trans x1.2.2)

/-- an exception with a context leaves a frame -/
theorem leave_newX {cls : Value} {ob : Obj} {vs : Array Value} {tp : Value} (K : Below A base outer g) (F : Fr g L h m) (N : News g L h news)
    (hkeeps : ∀ b o, h.get? b = some o → s'.heap.get? b = some o) (hnew : h.get? e = none) (he : s'.heap.get? e = some ob) (hcls : ob.cls = cls) (hd : ob.data = .fields vs) (h1 : vs[1]? = some .none) (h0 : vs[0]? = some tp)
    (hQ : ∀ h', RaisedSN base g outer e cls news h' → RaisedN base outer e cls news h' → g.UpToSlots h' → Q () { s' with heap := h' }) (hk : scope.kind = .function := by rfl) :
    wpAny M (A.deeper (envOf name scope L a cd)) (leaving (envOf name scope L a cd) (.ref e)) Q E s' := by
  have K' := K.push (name := name) (a := a) (cd := cd) F hk
  obtain ⟨st, sg, hl, hff⟩ := ground_of (name := name) (scope := scope) (a := a) (cd := cd) K F N hk
  have hen : (hideAll h ((envOf name scope L a cd :: outer).filterMap (·.frame))).get? e = none := by
    cases q : (hideAll h ((envOf name scope L a cd :: outer).filterMap (·.frame))).get? e with
    | none => rfl
    | some o => have := of_hideAll _ q; rw [hnew] at this; cases this
  refine wpAny_leaving_firstW (a0 := tp) K'.stack (hff.of_keeps fun b o hb _ => ⟨o, hkeeps b o hb, rfl⟩) rfl he (fun b o hb => hkeeps b o (of_hideAll _ hb)) hen hd h1 h0 fun h' hL => ?_
  refine hide fun PH kP => ?_
  obtain ⟨k1, ⟨_, _, k2⟩, k3, k4⟩ := hL
  refine kP ?_
  clear kP PH
  have R : RaisedSN base g outer e cls news h' := ⟨_, tp, st, sg, hl, k1, hen, k2, by rw [← hcls]; exact k3⟩
  exact hQ h' R R.toN (((Heap.UpToSlots.of_keeps F.keep).trans (Heap.UpToSlots.of_keeps hkeeps)).trans k4)
end

section
variable {prog : Program} {w : World} {A₀ : Around} {E : Value → Shared → Prop} {s' : Shared} {base g g₀ G : Heap} {outer : List Env} {L a e : Addr} {m : Str → Option Value} {name : Str} {scope : Scope} {cd : Value}
  {b₀ : Stmt} {suite : List Stmt} {pos np : Pos} {rest : List ExceptHandler} {Q : Flow → Shared → Prop} {news : List (Addr × Obj)} {KF : Frag}
  {p : Program} {loose : List Str} {mean : ExcName → Option Value} {mg mb : Str → Option Value} {x : Str} {X T' : String}

/-- caught, and kept in the ledger -/
theorem caughtC (R : RaisedC base G (envOf name scope L a cd :: outer) e (.type X) news s'.heap) (F : Fr g L G m) (K : Below A₀ base outer g) (hsm : G.UpToSlots s'.heap) (XB : KF.In base) (TB : Top p loose mean mg mb base)
    (D : KtsDicts (outer.filterMap (·.frame)) g)
    (ex : nsIn KF mainGlobals x = some none) (hv : bootBuiltins x = some (.type T')) (hn' : x ≠ "__name__")
    (hexc : isSubtype (.type T') (.type "BaseException") = pure true) (hnt : isSubtype (.type ((Manifest.find? T').elim "type" fun y => y.metatype)) (.type "tuple") = pure false) (hsub : isSubtype (.type X) (.type T') = pure true)
    (k : ∀ h' g' o v0, o.data = .fields v0 → v0[2]? = some .none → KtsTurn (outer.filterMap (·.frame)) g g' → Fr g' L h' m → News g' L h' ((e, o) :: news) → Below A₀ base outer g' → KF.In g' → Top p loose mean mg mb g' → KtsDicts (outer.filterMap (·.frame)) g' →
      wpAny (model prog w) ((A₀.deeper (envOf name scope L a cd)).mark (some (.ref e))) (execs (b₀ :: suite) (envOf name scope L a cd)) Q E { s' with heap := h' })
    (hk : scope.kind = .function := by rfl) (hx : (envOf name scope L a cd).kindOf x = some .globalImplicit := by rfl) (hd : (x == ("__debug__" : Str)) = false := by decide)
    (hE : PassesOwnAt (model prog w) ((A₀.deeper (envOf name scope L a cd)).mark (some (.ref e))) (A₀.deeper (envOf name scope L a cd)) (envOf name scope L a cd) E := by passes_own) :
    wpAny (model prog w) (A₀.deeper (envOf name scope L a cd)) (noteFrame (.ref e) (envOf name scope L a cd))
      (fun _ s₂ => wpAny (model prog w) (A₀.deeper (envOf name scope L a cd)) (setFlight (.ref e) none) (fun _ s₃ =>
        wpAny (model prog w) (A₀.deeper (envOf name scope L a cd)) (handleBy (.ref e) (envOf name scope L a cd) (.ExceptHandler (some (.Name x np)) none (b₀ :: suite) pos :: rest)) Q E s₃) E s₂) E s' := by
  refine hide fun PH kP => ?_
  obtain ⟨B, a0, hB, hBG, hl, f1, f2, f3, f4⟩ := R
  refine kP ?_
  clear kP PH
  have hL : B.get? L = none := by
    obtain ⟨_, ⟨L', _, hf, hn', _⟩, _⟩ := f3
    obtain rfl : L = L' := Option.some.inj hf
    exact hn'
  have hGe : G.get? e = none := by
    cases q : G.get? e with
    | none => rfl
    | some o =>
      have nm : e ∉ (envOf name scope L a cd :: outer).filterMap (·.frame) := fun hm => by
        obtain ⟨_, o', ho', hnf⟩ := f3.mem hm
        obtain ⟨oe, vs, _, _, _, h1, _, _, h4, _⟩ := f4
        rw [h1] at ho'; cases ho'; exact hnf _ h4
      have := hBG e o q nm
      rw [f2] at this; cases this
  refine noteC (Around.frames_deeper K.stack) f3 rfl f4 f1 f2 fun h₄ x4 t4 => ?_
  refine flightC (s := { s' with heap := h₄ }) x4.1 x4.2.1 t4 fun h₅ x5 t5 => ?_
  have sm5 := x4.2.2.trans x5.2.2
  obtain ⟨g₅, T₅, F₅, K₅⟩ := kts_ground K F hBG x5.1 (hsm.trans sm5)
  have X₅ : KF.In g₅ := XB.keeps K₅.stays
  have P₅ : TopRead p loose mg mb g₅ := topRead_of (TB.keeps K₅.stays)
  obtain ⟨ob, hob, hobc⟩ := Heap.TracedAtW.there t5.toAt
  refine wpAny_handleBy_builtin (X := X) (T := T') (b := true) hexc hnt hsub (name_B F₅ X₅ P₅ ex hv hn' ⟨rfl, ⟨ob, hob, hobc⟩, ?_⟩ hk hx hd)
  refine flightC (s := { s' with heap := h₅ }) x5.1 x5.2.1 t5 fun h₆ x6 t6 => ?_
  obtain ⟨g₆, T₆, F₆, K₆⟩ := kts_ground K F hBG x6.1 ((hsm.trans sm5).trans x6.2.2)
  refine hide fun PH kP => ?_
  obtain ⟨o, v0, _, _, _, y1, _, _, y4, _, y6, _⟩ := t6
  refine kP ?_
  clear kP PH
  have Nl : News g₆ L h₆ ((e, o) :: news) := fun q hq => by
    rcases List.mem_cons.mp hq with rfl | hq
    · exact ⟨y1, (fun z => by
        obtain ⟨_, ⟨L', oL, hf, hn', ho', hnf'⟩, _⟩ := x6.2.1
        obtain rfl : L = L' := Option.some.inj hf
        have z' : e = L := z
        subst z'; rw [y1] at ho'; cases ho'; exact hnf' _ y4), T₆.none_ _ (kts_none F.keep hGe)⟩
    · exact ⟨x6.1 _ _ (hl q hq).1, (fun z => by have := (hl q hq).1; rw [z, hL] at this; cases this), T₆.none_ _ (kts_none F.keep (hl q hq).2.1)⟩
  have X₆ : KF.In g₆ := XB.keeps K₆.stays
  have P₆ : Top p loose mean mg mb g₆ := TB.keeps K₆.stays
  have D₆ : KtsDicts (outer.filterMap (·.frame)) g₆ := D.turn T₆
  exact wpAny_passesOwnAt hE (k h₆ g₆ o v0 y4 y6 T₆ F₆ Nl K₆ X₆ P₆ D₆)
end
end Mine
end
section
open PySem PySem.W PySem.Calls PyProof.Rows
open PySem.NumText PySem.StrLaws PySem.Builtin PySem.Builtin.Str
set_option linter.unusedVariables false
namespace Mine
/-- the reply, as code points -/
noncomputable def RL (c : Nat) (T : List Nat) : List Nat := [50, 50, 57, 41, 32, 111, 107, 32, 40, c, 49, c, 104, c] ++ T ++ [c, 41, 32, 40, c, c, c, 55, c, 41]

theorem intText_gen {x : PySem.Str} {pre sg cs post : List Nat} (hx : x.cps.toList = pre ++ (sg ++ (cs ++ post))) (hp : ∀ c ∈ pre, c = 9 ∨ c = 32) (hq : ∀ c ∈ post, c = 9 ∨ c = 32)
    (hs : sg = [] ∨ sg = [45] ∨ sg = [43]) (hc : AllDigits cs) (hne : cs ≠ []) (hl : x.length ≤ 4300) :
    PySem.intText? x = some (if sg = [45] then -((digitsVal cs : Nat) : Int) else ((digitsVal cs : Nat) : Int)) := by
  have hsg : ∀ c ∈ sg, c = 45 ∨ c = 43 := by
    intro c h
    rcases hs with e | e | e <;> subst e
    · cases h
    · exact .inl (List.mem_singleton.mp h)
    · exact .inr (List.mem_singleton.mp h)
  have hall : ∀ c ∈ x.cps.toList, 1 ≤ c ∧ c < 128 := by
    rw [hx]
    intro c h
    simp only [List.mem_append] at h
    rcases h with h | h | h | h
    · have := hp c h; omega
    · have := hsg c h; omega
    · have := hc c h; omega
    · have := hq c h; omega
  have e1 : numTextOf x = x.cps.toList := by
    refine if_pos ?_
    rw [← Array.all_toList, List.all_eq_true]
    intro c h
    exact decide_eq_true (hall c h).2
  have e2 : numSeenOf x = x.cps.toList := by
    show (numTextOf x).takeWhile _ = _
    rw [e1]
    refine takeWhile_all fun c h => ?_
    have := hall c h
    exact bne_iff_ne.mpr (by omega)
  have hbl : ∀ c, c = 9 ∨ c = 32 → blank c = true := by
    intro c h
    rcases h with e | e <;> subst e <;> rfl
  have drop_all : ∀ (l r : List Nat), (∀ c ∈ l, c = 9 ∨ c = 32) → (l ++ r).dropWhile blank = r.dropWhile blank := by
    intro l r h
    induction l with
    | nil => rfl
    | cons c l ih =>
      rw [List.cons_append, List.dropWhile_cons, hbl c (h c (List.mem_cons_self ..))]
      exact ih fun d hd => h d (List.mem_cons_of_mem _ hd)
  obtain ⟨d, ds, hds⟩ : ∃ d ds, cs = d :: ds := by
    cases cs with
    | nil => exact absurd rfl hne
    | cons d ds => exact ⟨d, ds, rfl⟩
  have hd : 48 ≤ d ∧ d ≤ 57 := hc d (by rw [hds]; exact List.mem_cons_self ..)
  have es : sign ((x.cps.toList).dropWhile blank) = (decide (sg = [45]), cs ++ post) := by
    rw [hx, drop_all _ _ hp]
    rcases hs with e | e | e <;> subst e
    · rw [List.nil_append, hds, List.cons_append, dropWhile_of (by omega)]
      exact sign_of (by omega) (by omega)
    · rw [List.cons_append, dropWhile_of (by decide), List.nil_append]; rfl
    · rw [List.cons_append, dropWhile_of (by decide), List.nil_append]; rfl
  have ec : core x.cps.toList = cs := by
    unfold core
    rw [es]
    show ((cs ++ post).reverse.dropWhile blank).reverse = cs
    rw [List.reverse_append, drop_all _ _ (fun c h => hq c (List.mem_reverse.mp h)), dropWhile_digits hc.reverse, List.reverse_reverse]
  have hlen : x.cps.toList.length = x.length := Array.length_toList
  have hcl : cs.length ≤ 4300 := by
    rw [hx] at hlen
    simp only [List.length_append] at hlen
    omega
  unfold PySem.intText?
  rw [e1, e2, ec, es, digits_of hc hne]
  have hsz := push_size cs #[]
  have hv := push_foldl cs #[]
  rw [if_pos (beq_self_eq_true _)]
  show (if _ ≤ 4300 then some (worth (decide (sg = [45])) _) else none) = _
  rw [if_pos (by rw [hsz]; simp only [Array.size_empty]; omega)]
  unfold worth digitsVal
  rw [hv]
  by_cases h : sg = [45]
  · rw [decide_eq_true h, if_pos h]; rfl
  · rw [decide_eq_false h, if_neg h]; rfl

theorem val_zeros (cs : List Nat) : ∀ z, digitsVal (List.replicate z 48 ++ cs) = digitsVal cs
  | 0 => rfl
  | z + 1 => by
    have ih := val_zeros cs z
    unfold digitsVal at ih ⊢
    rw [List.replicate_succ, List.cons_append, List.foldl_cons]
    exact ih

/-- first place of a sign -/
theorem find_first {x : PySem.Str} {c : Nat} {l r : List Nat} (hx : x.cps.toList = l ++ c :: r) (hl : c ∉ l) : Txt.find x ⟨#[c]⟩ = (l.length : Int) := by
  have hlen : x.length = l.length + (r.length + 1) := by
    have : x.cps.toList.length = x.length := Array.length_toList
    rw [← this, hx, List.length_append, List.length_cons]
  have hat : ∀ v, x.cps.toList[v]? = some c → l.length ≤ v := by
    intro v hv
    rw [hx] at hv
    by_cases h : v < l.length
    · rw [List.getElem?_append_left h] at hv
      exact absurd (List.mem_of_getElem? hv) hl
    · omega
  have h0 : x.cps.toList[l.length]? = some c := by
    rw [hx, List.getElem?_append_right (Nat.le_refl _), Nat.sub_self]; rfl
  unfold Txt.find
  rcases occ_head_from x ⟨#[c]⟩ 0 1 (Nat.le_refl 1) with ⟨h1, hn⟩ | ⟨k, q, h1, _, hk, hn⟩
  · exact absurd ((subAt_one x c l.length).mpr h0) (hn _ (Nat.zero_le _))
  · rw [h1]
    have hm := hat k ((subAt_one x c k).mp hk)
    have : ¬ l.length < k := fun h => hn _ (Nat.zero_le _) h ((subAt_one x c l.length).mpr h0)
    show (k : Int) = _
    omega
theorem find3_first {x : PySem.Str} {c : Nat} {p l r : List Nat} {i : Int} (hx : x.cps.toList = p ++ (l ++ c :: r)) (hl : c ∉ l) (hi : i = (p.length : Int)) : Txt.find3 x ⟨#[c]⟩ i = ((p.length + l.length : Nat) : Int) := by
  have hlen : x.length = p.length + (l.length + (r.length + 1)) := by
    have : x.cps.toList.length = x.length := Array.length_toList
    rw [← this, hx, List.length_append, List.length_append, List.length_cons]
  have hf : fromIndex x.length i = p.length := by
    unfold fromIndex
    rw [hi]
    (repeat' split) <;> omega
  have hat : ∀ v, p.length ≤ v → x.cps.toList[v]? = some c → p.length + l.length ≤ v := by
    intro v hp hv
    rw [hx, List.getElem?_append_right hp] at hv
    by_cases h : v - p.length < l.length
    · rw [List.getElem?_append_left h] at hv
      exact absurd (List.mem_of_getElem? hv) hl
    · omega
  have h0 : x.cps.toList[p.length + l.length]? = some c := by
    rw [hx, List.getElem?_append_right (by omega), List.getElem?_append_right (by omega)]
    have : p.length + l.length - p.length - l.length = 0 := by omega
    rw [this]; rfl
  unfold Txt.find3
  rw [hf]
  rcases occ_head_from x ⟨#[c]⟩ p.length 1 (Nat.le_refl 1) with ⟨h1, hn⟩ | ⟨k, q, h1, hlo, hk, hn⟩
  · exact absurd ((subAt_one x c _).mpr h0) (hn _ (by omega))
  · rw [h1]
    have hm := hat k hlo ((subAt_one x c k).mp hk)
    have : ¬ p.length + l.length < k := fun h => hn _ (by omega) h ((subAt_one x c _).mpr h0)
    show (k : Int) = _
    omega
theorem item_at {x : PySem.Str} {c : Nat} {l r : List Nat} {i : Int} (hx : x.cps.toList = l ++ c :: r) (hi : i = (l.length : Int)) : Txt.item x i = ⟨#[c]⟩ := by
  have h0 : x.cps.toList[l.length]? = some c := by
    rw [hx, List.getElem?_append_right (Nat.le_refl _), Nat.sub_self]; rfl
  unfold Txt.item Txt.charAt
  rw [at_nonneg (by omega) (n := c)]
  · rfl
  · rw [hi, Int.toNat_natCast, ← Array.getElem?_toList]; exact h0
end Mine
namespace Mine
noncomputable def jl (c : Nat) : List (List Nat) → List Nat
  | [] => []
  | [p] => p
  | p :: q :: r => p ++ c :: jl c (q :: r)
theorem cut_inj {c : Nat} : ∀ {p q A B : List Nat}, c ∉ p → c ∉ q → p ++ c :: A = q ++ c :: B → p = q ∧ A = B
  | [], [], _, _, _, _, h => ⟨rfl, (List.cons.inj h).2⟩
  | [], d :: q, _, _, _, hq, h => absurd (List.mem_cons.mpr (.inl (List.cons.inj h).1)) hq
  | d :: p, [], _, _, hp, _, h => absurd (List.mem_cons.mpr (.inl (List.cons.inj h).1.symm)) hp
  | d :: p, e :: q, _, _, hp, hq, h => by
    obtain ⟨h1, h2⟩ := List.cons.inj h
    obtain ⟨h3, h4⟩ := cut_inj (fun m => hp (List.mem_cons_of_mem _ m)) (fun m => hq (List.mem_cons_of_mem _ m)) h2
    exact ⟨by rw [h1, h3], h4⟩
theorem jl_inj {c : Nat} : ∀ {ps qs : List (List Nat)}, ps ≠ [] → qs ≠ [] → (∀ p ∈ ps, c ∉ p) → (∀ p ∈ qs, c ∉ p) → jl c ps = jl c qs → ps = qs
  | [], _, h, _, _, _, _ => absurd rfl h
  | _, [], _, h, _, _, _ => absurd rfl h
  | [p], [q], _, _, _, _, h => by rw [show p = q from h]
  | [p], q :: q' :: r, _, _, hp, _, h => by
    have : c ∈ p := by rw [show p = q ++ c :: jl c (q' :: r) from h]; exact List.mem_append.mpr (.inr (List.mem_cons_self ..))
    exact absurd this (hp p (List.mem_cons_self ..))
  | p :: p' :: r, [q], _, _, _, hq, h => by
    have : c ∈ q := by rw [← show p ++ c :: jl c (p' :: r) = q from h]; exact List.mem_append.mpr (.inr (List.mem_cons_self ..))
    exact absurd this (hq q (List.mem_cons_self ..))
  | p :: p' :: r, q :: q' :: r', _, _, hp, hq, h => by
    obtain ⟨h1, h2⟩ := cut_inj (hp p (List.mem_cons_self ..)) (hq q (List.mem_cons_self ..)) (show p ++ c :: jl c (p' :: r) = q ++ c :: jl c (q' :: r') from h)
    rw [h1, jl_inj (by simp) (by simp) (fun x hx => hp x (List.mem_cons_of_mem _ hx)) (fun x hx => hq x (List.mem_cons_of_mem _ hx)) h2]
theorem join_list (c : Nat) : ∀ ps : List PySem.Str, (PySem.Str.join ⟨#[c]⟩ ps).cps.toList = jl c (ps.map (·.cps.toList))
  | [] => rfl
  | [p] => rfl
  | p :: q :: r => by
    show (p ++ (⟨#[c]⟩ : PySem.Str) ++ PySem.Str.join ⟨#[c]⟩ (q :: r)).cps.toList = _
    have ih := join_list c (q :: r)
    rw [PySem.Str.cps_append, PySem.Str.cps_append, Array.toList_append, Array.toList_append, ih, List.append_assoc]
    rfl
theorem split_of {x : PySem.Str} {c : Nat} {ps : List (List Nat)} (hne : ps ≠ []) (hf : ∀ p ∈ ps, c ∉ p) (hx : x.cps.toList = jl c ps) (hx0 : x.cps.toList ≠ []) : Txt.split x ⟨#[c]⟩ = ps.map fun p => ⟨p.toArray⟩ := by
  have h1 := join_split x ⟨#[c]⟩
  have h2 := split_free x c
  have h3 := join_list c (Txt.split x ⟨#[c]⟩)
  generalize Txt.split x ⟨#[c]⟩ = qs at h1 h2 h3
  rw [h1] at h3
  have h4 : qs.map (·.cps.toList) = ps := by
    refine jl_inj (c := c) ?_ hne ?_ hf (h3.symm.trans hx)
    · intro e
      rw [e] at h3
      exact hx0 h3
    · intro p hp
      obtain ⟨q, hq, rfl⟩ := List.mem_map.mp hp
      exact h2 q hq
  rw [← h4, List.map_map]
  conv => lhs; rw [← List.map_id qs]
  refine List.map_congr_left fun q _ => ?_
  rfl
end Mine
namespace Mine
/-- what the law's reply is, as the walk gives it -/
noncomputable def replyS (text mark : PySem.Str) : PySem.Str :=
  PySem.Str.ofString "229) ok (" ++ mark ++ PySem.Str.ofString "1" ++ mark ++ PySem.Str.ofString "h" ++ mark ++ text ++ mark ++ PySem.Str.ofString ") (" ++ Txt.mul mark 3 ++ PySem.Str.ofString "7" ++ mark ++ PySem.Str.ofString ")"
noncomputable def S1 (c : Nat) : PySem.Str := ⟨#[c]⟩
noncomputable def SL (T : List Nat) : PySem.Str := ⟨T.toArray⟩
theorem reply_list (T : List Nat) (c : Nat) : (replyS (SL T) (S1 c)).cps.toList = RL c T := by
  have h1 : (PySem.Str.ofString "229) ok (").cps.toList = [50, 50, 57, 41, 32, 111, 107, 32, 40] := by decide +kernel
  have h2 : (PySem.Str.ofString "1").cps.toList = [49] := by decide +kernel
  have h3 : (PySem.Str.ofString "h").cps.toList = [104] := by decide +kernel
  have h4 : (PySem.Str.ofString ") (").cps.toList = [41, 32, 40] := by decide +kernel
  have h5 : (PySem.Str.ofString "7").cps.toList = [55] := by decide +kernel
  have h6 : (PySem.Str.ofString ")").cps.toList = [41] := by decide +kernel
  have h7 : (Txt.mul (S1 c) 3).cps.toList = [c, c, c] := rfl
  have h8 : (SL T).cps.toList = T := rfl
  have h9 : (S1 c).cps.toList = [c] := rfl
  unfold replyS RL
  simp only [PySem.Str.cps_append, Array.toList_append, h1, h2, h3, h4, h5, h6, h7, h8, h9, List.append_assoc, List.cons_append, List.nil_append]
structure Rep (R : PySem.Str) (c : Nat) (T : List Nat) : Prop where
  len : R.length = T.length + 24
  head : Txt.slice R none (some 3) = PySem.Str.ofString "229"
  left : Txt.find R (PySem.Str.ofString "(") = 8
  right : Txt.find3 R (PySem.Str.ofString ")") 9 = (T.length : Int) + 15
  i1 : Txt.item R 9 = S1 c
  i2 : Txt.item R ((T.length : Int) + 14) = S1 c
  mid : Txt.split (Txt.slice R (some 9) (some ((T.length : Int) + 15))) (S1 c) = [SL [], PySem.Str.ofString "1", PySem.Str.ofString "h", SL T, SL []]
theorem rep_of {R : PySem.Str} {c : Nat} {T : List Nat} (hR : R.cps.toList = RL c T) (hc : c = 124 ∨ c = 61 ∨ c = 33 ∨ c = 47) (hT : ∀ x ∈ T, x ≠ c ∧ x ≠ 40 ∧ x ≠ 41) : Rep R c T := by
  have hlen : R.length = T.length + 24 := by
    have : R.cps.toList.length = R.length := Array.length_toList
    rw [← this, hR]; unfold RL; simp only [List.length_append, List.length_cons, List.length_nil]; omega
  have hl2 : R.cps.toList.length = T.length + 24 := Array.length_toList.trans hlen
  have sl : ∀ (l u : Option Int), Txt.slice R l u = sliceText R l u := fun _ _ => rfl
  have hcT : c ∉ T := fun h => (hT c h).1 rfl
  have hc1 : c ≠ 41 ∧ c ≠ 40 ∧ c ≠ 49 ∧ c ≠ 104 := by rcases hc with e | e | e | e <;> subst e <;> decide
  have hS : (Txt.slice R (some 9) (some ((T.length : Int) + 15))).cps.toList = jl c [[], [49], [104], T, []] := by
    rw [sl, sliceText_plain ⟨by decide, by omega, by rw [hl2]; omega⟩, hR]
    have e1 : ((9 : Int)).toNat = 9 := rfl
    have e2 : ((T.length : Int) + 15 - 9).toNat = 5 + (T.length + 1) := by omega
    rw [e1, e2]
    show ((RL c T).drop 9).take _ = _
    unfold RL
    simp only [List.cons_append, List.nil_append, List.drop_succ_cons, List.drop_zero]
    show (c :: 49 :: c :: 104 :: c :: (T ++ c :: _)).take (5 + (T.length + 1)) = [] ++ c :: ([49] ++ c :: ([104] ++ c :: (T ++ c :: [])))
    have e3 : 5 + (T.length + 1) = (T.length + 1) + 1 + 1 + 1 + 1 + 1 := by omega
    rw [e3]
    simp only [List.take_succ_cons, List.nil_append, List.cons_append]
    rw [List.take_append, List.take_of_length_le (Nat.le_succ _)]
    have e4 : T.length + 1 - T.length = 1 := by omega
    rw [e4]; rfl
  refine ⟨hlen, ?_, ?_, ?_, ?_, ?_, ?_⟩
  · rw [sl, sliceText_to ⟨by decide, by rw [hl2]; omega⟩, hR]
    show (⟨List.toArray [50, 50, 57]⟩ : PySem.Str) = _
    decide +kernel
  · have e : PySem.Str.ofString "(" = ⟨#[40]⟩ := by decide +kernel
    rw [e]
    exact find_first (l := [50, 50, 57, 41, 32, 111, 107, 32]) (r := _) (by rw [hR]; unfold RL; simp only [List.cons_append, List.nil_append, List.append_assoc]; rfl) (by decide)
  · have e : PySem.Str.ofString ")" = ⟨#[41]⟩ := by decide +kernel
    rw [e]
    refine (find3_first (c := 41) (p := [50, 50, 57, 41, 32, 111, 107, 32, 40]) (l := [c, 49, c, 104, c] ++ T ++ [c]) (r := [32, 40, c, c, c, 55, c, 41]) (by rw [hR]; unfold RL; simp only [List.cons_append, List.nil_append, List.append_assoc]) ?_ rfl).trans ?_
    rotate_left
    · simp only [List.length_append, List.length_cons, List.length_nil]; omega
    · simp only [List.mem_append, List.mem_cons, List.not_mem_nil, or_false, not_or]
      refine ⟨⟨⟨?_, ?_, ?_, ?_, ?_⟩, ?_⟩, ?_⟩
      all_goals first | exact hc1.1.symm | decide | exact fun h => (hT 41 h).2.2 rfl
  · exact item_at (l := [50, 50, 57, 41, 32, 111, 107, 32, 40]) (r := _) (by rw [hR]; unfold RL; simp only [List.cons_append, List.nil_append, List.append_assoc]; rfl) rfl
  · exact item_at (l := [50, 50, 57, 41, 32, 111, 107, 32, 40, c, 49, c, 104, c] ++ T) (r := _) (by rw [hR]; unfold RL; simp only [List.cons_append, List.nil_append, List.append_assoc]; rfl) (by simp only [List.length_append, List.length_cons, List.length_nil]; omega)
  · have h1 : PySem.Str.ofString "1" = SL [49] := by decide +kernel
    have h2 : PySem.Str.ofString "h" = SL [104] := by decide +kernel
    rw [h1, h2]
    refine split_of (c := c) (ps := [[], [49], [104], T, []]) (by simp) ?_ hS ?_
    · intro p hp
      simp only [List.mem_cons, List.not_mem_nil, or_false] at hp
      rcases hp with e | e | e | e | e <;> subst e
      · simp
      · simp only [List.mem_singleton]; exact hc1.2.2.1
      · simp only [List.mem_singleton]; exact hc1.2.2.2
      · exact hcT
      · simp
    · rw [hS]
      simp [jl]
end Mine
namespace Mine
theorem fmod_bnd (x : Int) {k : Int} (h : 0 < k) : 0 ≤ Int.fmod x k ∧ Int.fmod x k < k := ⟨Int.fmod_nonneg_of_pos _ h, Int.fmod_lt_of_pos _ h⟩
theorem zeros_eq (d : Int) : Txt.mul (PySem.Str.ofString "0") (Int.fmod (Int.fdiv d 8) 3) = SL (List.replicate (Int.fmod (Int.fdiv d 8) 3).toNat 48) := by
  have h := fmod_bnd (Int.fdiv d 8) (k := 3) (by decide)
  generalize Int.fmod (Int.fdiv d 8) 3 = z at h
  have h3 : z = 0 ∨ z = 1 ∨ z = 2 := by omega
  rcases h3 with e | e | e <;> subst e <;> decide +kernel
theorem zeros_len (d : Int) : (Txt.mul (PySem.Str.ofString "0") (Int.fmod (Int.fdiv d 8) 3)).length ≤ 2 := by
  rw [zeros_eq]
  show (List.replicate _ 48).toArray.size ≤ 2
  have h := fmod_bnd (Int.fdiv d 8) (k := 3) (by decide)
  rw [List.size_toArray, List.length_replicate]; omega
theorem num_len {i : Int} (h : i.natAbs < 10 ^ 9) : (PySem.Str.ofString (toString (if i < 0 then -i else i))).length ≤ 10 := by
  have e : (if i < 0 then -i else i) = (i.natAbs : Int) := by split <;> omega
  rw [e]
  exact KT.len_num (by omega) (by omega)
end Mine
namespace Mine
noncomputable def markC (d : Int) : Nat := if Int.fmod d 4 = 0 then 124 else if Int.fmod d 4 = 1 then 61 else if Int.fmod d 4 = 2 then 33 else 47
theorem mark_eq (d : Int) : Txt.item (PySem.Str.ofString "|=!/") (Int.fmod d 4) = S1 (markC d) := by
  have h := fmod_bnd d (k := 4) (by decide)
  unfold markC
  generalize Int.fmod d 4 = z at h
  have h3 : z = 0 ∨ z = 1 ∨ z = 2 ∨ z = 3 := by omega
  rcases h3 with e | e | e | e <;> subst e <;> decide +kernel
theorem mark_in (d : Int) : markC d = 124 ∨ markC d = 61 ∨ markC d = 33 ∨ markC d = 47 := by
  unfold markC; (repeat' split) <;> simp
theorem mark_len (d : Int) : (Txt.item (PySem.Str.ofString "|=!/") (Int.fmod d 4)).length ≤ 1 := by rw [mark_eq]; exact Nat.le_refl _
theorem mark_len3 (d : Int) : (Txt.mul (Txt.item (PySem.Str.ofString "|=!/") (Int.fmod d 4)) 3).length ≤ 3 := by rw [mark_eq]; exact Nat.le_refl _
noncomputable def Dressed (i : Int) (R : PySem.Str) : Prop := ∃ c T, Rep R c T ∧ PySem.intText? (SL T) = some i ∧ T.length ≤ 20 ∧ (c = 124 ∨ c = 61 ∨ c = 33 ∨ c = 47)
theorem digs {i : Int} (h : i.natAbs < 10 ^ 9) : AllDigits (PySem.Str.ofString (toString (if i < 0 then -i else i))).cps.toList ∧ (PySem.Str.ofString (toString (if i < 0 then -i else i))).cps.toList ≠ [] ∧
    digitsVal (PySem.Str.ofString (toString (if i < 0 then -i else i))).cps.toList = i.natAbs ∧ (PySem.Str.ofString (toString (if i < 0 then -i else i))).cps.toList.length ≤ 10 := by
  have hl := num_len h
  have e : (if i < 0 then -i else i) = ((i.natAbs : Nat) : Int) := by split <;> omega
  have hl' : (PySem.Str.ofString (toString (if i < 0 then -i else i))).cps.toList.length ≤ 10 := by rw [Array.length_toList]; exact hl
  refine ⟨?_, ?_, ?_, hl'⟩
  all_goals rw [e, KIN.signs_num]
  · intro c hc
    obtain ⟨ch, hch, e⟩ := List.mem_map.mp hc
    have r := digit_range (Nat.isDigit_of_mem_toDigits (by decide) (by decide) hch)
    rw [← e]
    exact r
  · intro e
    have h := toDigits_len_ge 10 i.natAbs
    rw [List.map_eq_nil_iff.mp e] at h
    exact absurd h (by decide)
  · exact KIN.val_back _
theorem dressed_of {i d : Int} {x : PySem.Str} {pre sg post : List Nat} {z : Nat} (h : i.natAbs < 10 ^ 9) (hz : z ≤ 2)
    (hx : x.cps.toList = pre ++ (sg ++ ((List.replicate z 48 ++ (PySem.Str.ofString (toString (if i < 0 then -i else i))).cps.toList) ++ post)))
    (hp : pre = [] ∨ pre = [9]) (hq : post = [] ∨ post = [32]) (hs : sg = [] ∨ sg = [45] ∨ sg = [43]) (hsi : sg = [45] ↔ i < 0) : Dressed i (replyS x (Txt.item (PySem.Str.ofString "|=!/") (Int.fmod d 4))) := by
  obtain ⟨h1, h2, h3, h4⟩ := digs h
  have hc := mark_in d
  rw [mark_eq]
  have hx2 : x = SL x.cps.toList := rfl
  have hb : ∀ v ∈ x.cps.toList, v ≤ 57 ∧ v ≠ 33 ∧ v ≠ 47 ∧ v ≠ 40 ∧ v ≠ 41 := by
    rw [hx]
    intro v hv
    simp only [List.mem_append] at hv
    rcases hv with hv | hv | (hv | hv) | hv
    · rcases hp with e | e <;> subst e
      · cases hv
      · rw [List.mem_singleton.mp hv]; decide
    · rcases hs with e | e | e <;> subst e
      · cases hv
      · rw [List.mem_singleton.mp hv]; decide
      · rw [List.mem_singleton.mp hv]; decide
    · rw [(List.mem_replicate.mp hv).2]; decide
    · have := h1 v hv; omega
    · rcases hq with e | e <;> subst e
      · cases hv
      · rw [List.mem_singleton.mp hv]; decide
  have hpl : pre.length ≤ 1 := by rcases hp with e | e <;> subst e <;> decide
  have hql : post.length ≤ 1 := by rcases hq with e | e <;> subst e <;> decide
  have hsl : sg.length ≤ 1 := by rcases hs with e | e | e <;> subst e <;> decide
  have hlen : x.cps.toList.length ≤ 20 := by
    rw [hx]
    simp only [List.length_append, List.length_replicate]
    omega
  refine ⟨markC d, x.cps.toList, rep_of (by rw [hx2]; exact reply_list _ _) hc ?_, ?_, hlen, hc⟩
  · intro v hv
    have := hb v hv
    rcases hc with e | e | e | e <;> rw [e] <;> omega
  · rw [← hx2]
    have hl2 : x.length ≤ 4300 := by
      have : x.cps.toList.length = x.length := Array.length_toList
      omega
    rw [intText_gen (x := x) (cs := List.replicate z 48 ++ (PySem.Str.ofString (toString (if i < 0 then -i else i))).cps.toList) hx ?_ ?_ hs ?_ ?_ hl2, val_zeros, h3]
    · by_cases hi : i < 0
      · rw [if_pos (hsi.mpr hi)]; congr 1; omega
      · rw [if_neg (fun e => hi (hsi.mp e))]; congr 1; omega
    · intro c hc; rcases hp with e | e <;> subst e
      · cases hc
      · exact .inl (List.mem_singleton.mp hc)
    · intro c hc; rcases hq with e | e <;> subst e
      · cases hc
      · exact .inr (List.mem_singleton.mp hc)
    · intro c hc
      rcases List.mem_append.mp hc with hc | hc
      · rw [(List.mem_replicate.mp hc).2]; decide
      · exact h1 c hc
    · intro e
      exact h2 (List.append_eq_nil_iff.mp e).2
end Mine
namespace Mine
theorem ch_tab : (PySem.Str.ofString "\t").cps.toList = [9] := by decide +kernel
theorem ch_blank : (PySem.Str.ofString " ").cps.toList = [32] := by decide +kernel
theorem ch_minus : (PySem.Str.ofString "-").cps.toList = [45] := by decide +kernel
theorem ch_plus : (PySem.Str.ofString "+").cps.toList = [43] := by decide +kernel
theorem ln_tab : (PySem.Str.ofString "\t").length = 1 := by decide +kernel
theorem ln_blank : (PySem.Str.ofString " ").length = 1 := by decide +kernel
theorem ln_minus : (PySem.Str.ofString "-").length = 1 := by decide +kernel
theorem ln_plus : (PySem.Str.ofString "+").length = 1 := by decide +kernel
theorem zeros_list (d : Int) : (Txt.mul (PySem.Str.ofString "0") (Int.fmod (Int.fdiv d 8) 3)).cps.toList = List.replicate (Int.fmod (Int.fdiv d 8) 3).toNat 48 := by rw [zeros_eq]; rfl
theorem zeros_z (d : Int) : (Int.fmod (Int.fdiv d 8) 3).toNat ≤ 2 := by
  have h := fmod_bnd (Int.fdiv d 8) (k := 3) (by decide); omega
end Mine
namespace Mine
section
variable {prog : Program} {w : World} {A : Around} {E : Value → Shared → Prop} {s : Shared} {value slice : PySem.Expr} {b : Array UInt8} {t : Tok} {h₀ : Heap} {L : Addr} {m : PySem.Str → Option Value} {news : List (Addr × Obj)} {l u : Value} {lo hi : Option Int} {Q : Value → Shared → Prop}
theorem bslice (hF : Fr h₀ L s.heap m) (hN : News h₀ L s.heap news) (hl : IsPart l lo) (hu : IsPart u hi) (hz : b.size ≤ 16777216)
    (h : ∀ h' t' k, Fr h₀ L h' m → News h₀ L h' news → Q (.bytes (KBy.picked b lo hi) t') { s with heap := h', toks := k })
    (hs : subscripted slice false (.bytes b t) (.ref s.heap.objs.size) = operate [.ref s.heap.objs.size, .bytes b t] (getItem (.bytes b t) (.ref s.heap.objs.size)) := by with_unfolding_all rfl)
    (ht : ∀ r, letTemporaryGo value (.bytes b t) r = pure () := by intro _; with_unfolding_all rfl) :
    wpAny (model prog w) A (subscriptTail value slice (.bytes b t) (.ref s.heap.objs.size)) Q E { s with heap := s.heap.push { cls := .type "slice", data := .fields #[l, u, .none] } } :=
  tail_of_ItemOn ⟨"bytes", _, FB.slot_bytes_getitem.lookup, typeIs_bytes _ _ _, getItem_meets (typeIs_bytes _ _ _) (by decide) FB.slot_bytes_getitem FB.entry_bytes_getitem (FB.args_bytes_getitem_2 _ _) (KBc.meets_slice2 b t _ hl hu)
    ⟨Heap.IsSliceOf.new _ _ _ _, Nat.le_trans (KBc.size_picked_le b lo hi) (by rw [sizeLine_eq]; exact hz), fun t' k => h _ _ _ (hF.push _) (News.pushKeep hN _)⟩⟩ hs ht
end
theorem ap_pick {x : Int} : KBy.picked [65, 66, 67, 68, 69, 70, 71, 72, 73, 74, 75, 76, 77, 78, 79, 80].toArray (some (Int.fmod x 16)) (some (Int.fmod x 16 + 1)) = #[UInt8.ofNat (65 + (Int.fmod x 16).toNat)] := by
  have h := fmod_bnd x (k := 16) (by decide)
  generalize Int.fmod x 16 = m at h
  obtain ⟨q, rfl⟩ := Int.eq_ofNat_of_zero_le h.1
  have hq : q < 16 := Int.ofNat_lt.mp h.2
  exact (by decide +kernel : ∀ q : Fin 16, KBy.picked [65, 66, 67, 68, 69, 70, 71, 72, 73, 74, 75, 76, 77, 78, 79, 80].toArray (some ((q.val : Nat) : Int)) (some (((q.val : Nat) : Int) + 1)) = #[UInt8.ofNat (65 + (((q.val : Nat) : Int)).toNat)]) ⟨q, hq⟩
end Mine
namespace Mine
theorem rep_hyphen (d : Int) : ∃ c, Rep (replyS (PySem.Str.ofString "-") (Txt.item (PySem.Str.ofString "|=!/") (Int.fmod d 4))) c [45] := by
  have hc := mark_in d
  refine ⟨markC d, rep_of (T := [45]) ?_ hc ?_⟩
  · rw [mark_eq, show PySem.Str.ofString "-" = SL [45] by decide +kernel]; exact reply_list _ _
  · intro v hv
    rw [List.mem_singleton.mp hv]
    rcases hc with e | e | e | e <;> rw [e] <;> decide
end Mine
end
section
open PySem PySem.W PySem.Calls PyProof.Rows PySem.Spec PyProof.V
set_option Elab.async false
set_option maxRecDepth 100000
set_option linter.unusedVariables false
namespace Mine
open Builtin in
theorem meets_rev (b : Array UInt8) (t : Tok) (u : Tok) (a : Addr) :
    Meets («bytes.__getitem__» ⟨[.bytes b t, .ref a], []⟩) (fun _ R s => s.heap.IsSliceOf a .none .none (.int (-1) u) ∧ b.size ≤ sizeLine ∧ ∀ t' k, R (.ok (.ret (.bytes b.toList.reverse.toArray t'))) { s with toks := k }) := by
  refine .of_wp fun prog w A R s hS => ?_
  obtain ⟨⟨o, ho, hc, hd⟩, hsz, h⟩ := hS
  have hT : s.TypeIs (.ref a) "slice" := ⟨o, ho, hc⟩
  show wpAny _ _ (Bytes.payload (.bytes b t) >>= fun r => _) _ _ s
  refine wpAny_bind (wpAny_of_eq (a := b) rfl ?_)
  show wpAny _ _ (Bytes.subscript? (.ref a) >>= fun r => _) _ _ s
  refine wpAny_bind ?_
  unfold Bytes.subscript?
  refine wpAny_bind (wpAny_specialOf hT slice_no_index (wpAny_pure ?_))
  refine wpAny_bind (wpAny_typeOf hT ?_)
  show wpAny _ _ (Bytes.sliceParts (.ref a) >>= fun r => _) _ _ s
  refine wpAny_bind ?_
  unfold Bytes.sliceParts
  refine wpAny_bind (wpAny_field (x := .int (-1) u) ho hd rfl ?_)
  kby_int
  refine wpAny_ite (KBy.ite_no (show ¬ ((rawInt (-1) == rawInt 0) = true) from by decide) ?_)
  refine wpAny_bind (wpAny_field (x := .none) ho hd rfl ?_)
  kby_none
  refine wpAny_bind (wpAny_field (x := .none) ho hd rfl ?_)
  kby_none
  refine wpAny_pure ?_
  have go : wpAny (model prog w) A.in1 (sliceIndices (rawPart none) (rawPart none) (rawPart (some (-1))) b.size) (fun r s' => r = sliceBounds none none (some (-1)) b.size ∧ s' = s) (fun _ _ => False) s :=
    wpAny_of_eq (sliceIndices_raw none none (some (-1)) b.size (by decide)) ⟨rfl, rfl⟩
  refine wpAny_bind (wpAny_mono go (fun r s' hr => ?_) fun _ _ e => e.elim)
  obtain ⟨hr1, hr2⟩ := hr
  subst hr1 hr2
  rw [krv_bounds]
  refine wpAny_ite (KBy.ite_no (by simp) ?_)
  have e : Bytes.sliced b ((b.size : Int) - 1) (-1) (-1) = b.toList.reverse.toArray := by
    unfold Bytes.sliced
    rw [krv_sliceRange, krv_range, List.filterMap_reverse, krv_all]
  rw [e]
  exact wpAny_bind (wpAny_mkBytes (wpAny_pure ⟨_, rfl, h _ _⟩) (by simpa using hsz))

section
variable {prog : Program} {w : World} {A : Around} {E : Value → Shared → Prop} {s : Shared} {value slice : PySem.Expr} {b : Array UInt8} {t u : Tok} {h₀ : Heap} {L : Addr} {m : PySem.Str → Option Value} {news : List (Addr × Obj)} {Q : Value → Shared → Prop}
theorem bytes_rev (hF : Fr h₀ L s.heap m) (hN : News h₀ L s.heap news) (hz : b.size ≤ 16777216)
    (h : ∀ h' t' k, Fr h₀ L h' m → News h₀ L h' news → Q (.bytes b.toList.reverse.toArray t') { s with heap := h', toks := k })
    (hs : subscripted slice false (.bytes b t) (.ref s.heap.objs.size) = operate [.ref s.heap.objs.size, .bytes b t] (getItem (.bytes b t) (.ref s.heap.objs.size)) := by with_unfolding_all rfl)
    (ht : ∀ r, letTemporaryGo value (.bytes b t) r = pure () := by intro _; with_unfolding_all rfl) :
    wpAny (model prog w) A (subscriptTail value slice (.bytes b t) (.ref s.heap.objs.size)) Q E { s with heap := s.heap.push { cls := .type "slice", data := .fields #[.none, .none, .int (-1) u] } } :=
  tail_of_ItemOn ⟨"bytes", _, FB.slot_bytes_getitem.lookup, typeIs_bytes _ _ _, getItem_meets (typeIs_bytes _ _ _) (by decide) FB.slot_bytes_getitem FB.entry_bytes_getitem (FB.args_bytes_getitem_2 _ _) (meets_rev b t u _)
    ⟨Heap.IsSliceOf.new _ _ _ _, by rw [sizeLine_eq]; exact hz, fun t' k => h _ _ _ (hF.push _) (News.pushKeep hN _)⟩⟩ hs ht
theorem bytes_back {i : Int} {k : Nat} {ui : Tok} (hz : b.size ≤ 16777216) (hi : i = -1 - (k : Int)) (hk : k < b.size) (h : Q (.int (((b.toList.reverse.getD k 0).toNat : Nat) : Int) s.toks) { s with toks := s.toks + 1 })
    (hs : subscripted slice false (.bytes b t) (.int i ui) = operate [.bytes b t, .int i ui] (getItem (.bytes b t) (.int i ui)) := by with_unfolding_all rfl)
    (ht : ∀ r, letTemporaryGo value (.bytes b t) r = pure () := by intro _; with_unfolding_all rfl) :
    wpAny (model prog w) A (subscriptTail value slice (.bytes b t) (.int i ui)) Q E s := by
  refine tail_of_ItemOn ⟨"bytes", _, FB.slot_bytes_getitem.lookup, typeIs_bytes _ _ _, ?_⟩ hs ht
  refine getItem_gives (typeIs_bytes s _ t) (by decide) FB.slot_bytes_getitem FB.entry_bytes_getitem (FB.args_bytes_getitem_2 _ _) (gives_bytes_getitem _ i t ui (b.toList.reverse.getD k 0) ?_ ?_) h
  · simp only [Builtin.Bytes.fitsIndex, Bool.and_eq_true, decide_eq_true_eq]; omega
  · have e : seqIndex? i b.size = some (b.size - 1 - k) := by
      have hn : i < 0 := by omega
      unfold seqIndex?
      rw [if_pos hn, if_pos (by simp only [Bool.and_eq_true, decide_eq_true_eq]; omega)]
      congr 1
      omega
    rw [e]
    show b[b.size - 1 - k]? = some _
    have hl : b.toList.length = b.size := Array.length_toList
    rw [List.getD_eq_getElem?_getD, List.getElem?_reverse (by omega), ← Array.getElem?_toList, hl]
    rw [List.getElem?_eq_getElem (by omega)]
    rfl
end
end Mine
end
section
open PySem PySem.W PySem.Calls PyProof.Rows PySem.Spec
set_option Elab.async false
set_option maxRecDepth 100000
set_option linter.unusedVariables false
namespace Mine
theorem call_cells_C {prog : Program} {w : World} {A : Around} {R : Result → Shared → Prop} {s : Shared} {name : Str} {params : Arguments} {body : List Stmt} {scope : Scope}
    {pm cd doc : Value} {a : Addr} {o : Obj} {args : List Value} {binds : List (Str × Value)}
    (hroom : A.depth < recursionLimit) (ho : s.heap.get? a = some o) (hdata : o.data = .func (Calls.docDef name params body scope pm cd doc)) (hlim : s.heap.NoLimit) (hcd : s.heap.CodeRec cd name)
    (hbind : bindArgs (Calls.docDef name params body scope pm cd doc) ⟨args, []⟩ = pure binds)
    (hkind : ∀ x ∈ binds, scope.names.lookup x.1 = some .local ∨ (scope.names.lookup x.1 = some .cell ∧ ((cellsFrom (s.heap.objs.size + 1) scope.names []).lookup x.1).isSome = true))
    (hnd : ((cellsFrom 0 scope.names []).map (·.1)).Nodup)
    (h : ∀ h₁ tk cells, Fr s.heap s.heap.objs.size h₁ (bindL (envOfC name scope s.heap.objs.size a cd).kindOf binds fun _ => none) → News s.heap s.heap.objs.size h₁ cells →
      CellsAre (bindC (envOfC name scope s.heap.objs.size a cd).kindOf binds fun _ => none) (cellsFrom (s.heap.objs.size + 1) scope.names []) cells →
      wpC (model prog w) (A.deeper (envOfC name scope s.heap.objs.size a cd)) (execs body (envOfC name scope s.heap.objs.size a cd))
        (fun f s' => R (.ok (.ret (match f with | .ret v => v | _ => .none))) s')
        (fun e s' => wpAny (model prog w) (A.deeper (envOfC name scope s.heap.objs.size a cd)) (leaving (envOfC name scope s.heap.objs.size a cd) e)
          (fun _ s'' => R (.error e) s'') (fun e' s'' => R (.error e') s'') s')
        { s with heap := h₁, toks := tk })
    (hco : scope.isCoroutine = false := by rfl) (hgen : scope.isGenerator = false := by rfl) (hk : scope.kind = .function := by rfl) :
    codeC (model prog w) A (.call (.ref a) ⟨args, []⟩) R s := by
  refine codeC_call_function (fd := Calls.docDef name params body scope pm cd doc) hroom ho hdata hco hgen rfl hcd ?_
  rw [hbind]
  refine wpAny_pure (wpAny_newFunctionEnv_cells hk hkind fun env he s' X => ?_)
  subst he
  refine ⟨hlim.keeps X.toInCall.keep, codeC_func ?_⟩
  obtain ⟨h₁, tk, rfl, _⟩ := X.done
  obtain ⟨cells, N, Y⟩ := Cl.news (h₀ := s.heap) (Nat.le_refl _) fun n c hm => ⟨X.cell n c (lookup_of_mem_nodup (cellsFrom_names scope.names 0 (s.heap.objs.size + 1) [] [] rfl ▸ hnd) hm), X.above n c hm⟩
  exact h h₁ tk cells ⟨X.toInCall.ns, X.toInCall.keep, X.toInCall.fresh⟩ N Y
end Mine
namespace Mine
theorem enter_C_call {M : Model} {A : Around} {s : Shared} {f : Value} {pos : List Value} {kw : List (PySem.Str × Value)} {c : ClaimW} {cl : PySem.Str → Option Addr} {mean : ExcName → Option Value} {args : List WData} {s₁ : Shared}
    (h : codeC M A (.call f ⟨pos, kw⟩) (GoodW c cl mean args s₁) s) : wpC M A (PySem.call f pos kw) (fun v s' => GoodWG c cl mean args s₁ (.ok (.ret v)) s') (fun e s' => GoodWG c cl mean args s₁ (.error e) s') s :=
  wpC_call (codeC_mono h fun res s' g => by
    have g' := GoodW.toG g
    rcases g.1 with ⟨v, _, _, rfl, _⟩ | ⟨e, _, _, rfl, _⟩ <;> exact g')
end Mine
end
section
open PySem PySem.W PySem.Calls PyProof.Rows PySem.Spec
set_option Elab.async false
set_option maxRecDepth 100000
set_option linter.unusedVariables false
namespace Mine
open PyProof.Rows.LCg (fr_but news_but)

/-- what a turn's body leaves -/
noncomputable def TurnEnd (h₀ : Heap) (L : Addr) (s₀ : Shared) (I : Addr) (oI : Obj) (J : (Str → Option Value) → List (Addr × Obj) → Prop) (f : Flow) (s' : Shared) : Prop :=
  f = .next ∧ ∃ h' tk' m' nw', s' = { s₀ with heap := h', toks := tk' } ∧ Fr h₀ L h' m' ∧ News h₀ L h' ((I, oI) :: nw') ∧ (∀ p ∈ nw', p.1 ≠ I) ∧ J m' nw'
/-- the same on the spine, with the loop's cell -/
noncomputable def TurnEndC (h₀ : Heap) (L : Addr) (s₀ : Shared) (I : Addr) (oI : Obj) (c : Addr) (oc : Obj) (J : (Str → Option Value) → List (Addr × Obj) → Prop) (f : Flow) (s' : Shared) : Prop :=
  f = .next ∧ ∃ h' tk' m' nw', s' = { s₀ with heap := h', toks := tk' } ∧ Fr h₀ L h' m' ∧ News h₀ L h' ((I, oI) :: (c, oc) :: nw') ∧ (∀ p ∈ nw', p.1 ≠ I ∧ p.1 ≠ c) ∧ J m' nw'
theorem pin_map {m : Str → Option Value} {x : Str} {v : Value} (h : m x = some v) : m = fun y => if y = x then some v else m y := by
  funext y
  by_cases e : y = x
  · subst e; simp [h]
  · simp [e]
theorem Fr_pin {h₀ h : Heap} {L : Addr} {m : Str → Option Value} {x : Str} {v : Value} (F : Fr h₀ L h m) (e : m x = some v) : Fr h₀ L h (fun y => if y = x then some v else m y) := by
  rw [← pin_map e]; exact F

section
variable {prog : Program} {w : World} {A : Around} {R : Result → Shared → Prop} {s : Shared}

theorem codeC_block_nil {env : Env} {s : Shared} (h : R (.ok .next) s) : codeC (model prog w) A (.block [] env) R s :=
  codeC_of (codeAny_block (wpAny_execs_nil h))

theorem codeC_for {target : Expr} {it : Value} {body : List Stmt} {env : Env} (I : Nat → Shared → Prop) (ht : ∀ v, letOwnedTupleGo target it v = pure ())
    (turn : ∀ n s, I n s → wpAny (model prog w) A (pyNext it) (fun r s₁ => match r with
      | none => R (.ok .next) s₁
      | some v => wpAny (model prog w) A (assign target env v) (fun _ s₂ => wpC (model prog w) A (execs body env) (fun f s₃ => match f with
            | .next | .cont => ∃ m, m < n ∧ I m s₃
            | .brk => R (.ok .next) s₃
            | .ret v => R (.ok (.ret v)) s₃) (fun _ _ => False) s₂) (fun _ _ => False) s₁) (fun _ _ => False) s)
    (n : Nat) (h : I n s) : codeC (model prog w) A (.forLoop target it body [] env) R s := by
  induction n using Nat.strongRecOn generalizing s with
  | ind n ih =>
    refine codeC_of_tree ?_
    show wpC _ A ((forTurn target it body [] env).onRaise (fun x => do noteFrame x env; theTreesLotGoes x)) _ _ s
    refine wpC_onRaise ?_
    simp only [forTurn]
    refine wpC_at (wpC_then (wpAny_onRaise (wpAny_mono (turn n s h) (fun r s₁ h₁ => ?_) fun _ _ e => e.elim)))
    cases r with
    | none => exact wpC_pure ⟨rfl, codeC_block_nil h₁⟩
    | some v =>
      refine wpC_then (wpAny_of_eq (ht v) (wpC_then (wpAny_mono h₁ (fun _ s₂ h₂ => wpC_bind (wpC_mono h₂ (fun f s₃ h₃ => ?_) fun _ _ e => e.elim)) fun _ _ e => e.elim)))
      cases f with
      | next => obtain ⟨m, hm, hI⟩ := h₃; exact wpC_pure ⟨rfl, ih m hm hI⟩
      | cont => obtain ⟨m, hm, hI⟩ := h₃; exact wpC_pure ⟨rfl, ih m hm hI⟩
      | brk => exact wpC_pure h₃
      | ret v => exact wpC_pure h₃

theorem wpC_For {target iter : Expr} {body : List Stmt} {pos : Pos} {env : Env} {Q : Flow → Shared → Prop} {E : Value → Shared → Prop} (hs : ∀ x, foldedSetIterable iter env x = pure x)
    (h : wpAny (model prog w) A (eval iter env) (fun x s₁ => wpAny (model prog w) A (pyIter x) (fun it s₂ => codeC (model prog w) A (.forLoop target it body [] env) (fun r s' => ∃ f, r = .ok f ∧ Q f s') s₂) E s₁) E s) :
    wpC (model prog w) A (exec (.For target iter body [] pos) env) Q E s := by
  rw [arm_exec_For]
  refine wpC_at (wpC_then (wpAny_mono h (fun x s₁ h₁ => wpC_then (wpAny_of_eq (hs x) (wpC_at (wpC_then (wpAny_holding (wpAny_mono h₁ (fun it s₂ h₂ => ?_) fun _ _ e => e)))))) fun _ _ e => e))
  unfold runOwn
  refine wpC_onRaise (wpC_run (codeC_mono h₂ fun r s' hr => ?_))
  obtain ⟨f, rfl, hq⟩ := hr
  exact hq

theorem wpAny_For' {target iter : Expr} {body : List Stmt} {pos : Pos} {env : Env} {Q : Flow → Shared → Prop} {E : Value → Shared → Prop} (hs : ∀ x, foldedSetIterable iter env x = pure x)
    (h : wpAny (model prog w) A (eval iter env) (fun x s₁ => wpAny (model prog w) A (pyIter x) (fun it s₂ => codeAny (model prog w) A (.forLoop target it body [] env) (fun r s' => ∃ f, r = .ok f ∧ Q f s') s₂) E s₁) E s) :
    wpAny (model prog w) A (exec (.For target iter body [] pos) env) Q E s := by
  rw [arm_exec_For]
  refine wpAny_bind (wpAny_standAt (wpAny_bind (wpAny_mono h (fun x s₁ h₁ => wpAny_bind (wpAny_of_eq (hs x) (wpAny_bind (wpAny_standAt (wpAny_bind (wpAny_holding (wpAny_mono h₁ (fun it s₂ h₂ => ?_) fun _ _ e => e))))))) fun _ _ e => e)))
  unfold runOwn
  refine wpAny_onRaise (wpAny_run (codeAny_mono h₂ fun r s' hr => ?_))
  obtain ⟨f, rfl, hq⟩ := hr
  exact hq
end

section
variable {prog : Program} {w : World} {A : Around} {h₀ : Heap} {L : Addr} {s₀ : Shared} {env : Env} {E : Value → Shared → Prop}

/-- a loop over range(n), within wpAny: the local x -/
theorem for_range {x : Str} {px : Pos} {body : List Stmt} {r : Addr} {n : Nat} {t u v : Tok} {m : Str → Option Value} {nw : List (Addr × Obj)} {h : Heap} {tk : Nat} {Q : Flow → Shared → Prop}
    (hh : A.handled = none) (hloc : env.locals = L) (hx : env.kindOf x = some .local) (hp : (env.scope.kind == .class || (env.scope.kind == .module && env.locals != env.globals)) = false)
    (hr : IsRange h r 0 (n : Int) 1 t u v) (hsm : Builtin.Range.small 0 (n : Int) 1 = true) (hn : Builtin.Range.rangeSize 0 (n : Int) 1 = ((n : Nat) : Int))
    (F : Fr h₀ L h m) (N : News h₀ L h nw)
    (J : Nat → (Str → Option Value) → List (Addr × Obj) → Prop) (h0 : J 0 m nw)
    (body_ : ∀ i I oI m nw h tk t, i < n → J i m nw → Fr h₀ L h (upd m x (.int (i : Int) t)) → News h₀ L h ((I, oI) :: nw) → (∀ p ∈ nw, p.1 ≠ I) →
      wpAny (model prog w) A (execs body env) (fun f s' => TurnEnd h₀ L s₀ I oI (J (i + 1)) f s') (fun _ _ => False) { s₀ with heap := h, toks := tk })
    (fin : ∀ m nw h tk, J n m nw → Fr h₀ L h m → News h₀ L h nw → Q .next { s₀ with heap := h, toks := tk }) :
    wpAny (model prog w) A (pyIter (.ref r)) (fun it s₂ => codeAny (model prog w) A (.forLoop (.Name x px) it body [] env) (fun r s' => ∃ f, r = .ok f ∧ Q f s') s₂) E { s₀ with heap := h, toks := tk } := by
  subst hloc
  refine wpAny_pyIter_range hr hsm ?_
  have hIL : env.locals ≠ h.objs.size := Nat.ne_of_lt F.ns.lt
  have hI0 : h₀.get? h.objs.size = none := by
    cases e : h₀.get? h.objs.size with
    | none => rfl
    | some o => exact absurd (Heap.lt_size (F.keep _ o e)) (Nat.lt_irrefl _)
  generalize hI : h.objs.size = I at hIL hI0
  have W := LCg.range_walks (prog := prog) (w := w) (I := I) hh 0 n
  have off : ∀ p ∈ nw, p.1 ≠ I := fun p hp => hI ▸ Nat.ne_of_lt (Heap.lt_size (N p hp).1)
  refine codeAny_forLoop_any (fun k s' => ∃ h' tk i m nw, s' = { s₀ with heap := h', toks := tk } ∧ i ≤ n ∧ k = n + 1 - i ∧ IsRangeIter h' I (0 + (i : Nat) * 1) ((n : Int) - (i : Nat)) 1 ∧ Fr h₀ env.locals h' m ∧ News h₀ env.locals h' nw ∧ (∀ p ∈ nw, p.1 ≠ I) ∧ J i m nw) ?_ (n + 1)
    ⟨_, _, 0, m, nw, rfl, Nat.zero_le _, rfl, ?_, F.keeps fun _ _ e => Heap.get?_push_of_some _ e, N.grown fun _ _ e => Heap.get?_push_of_some _ e, off, h0⟩
  · intro k s' hh
    refine hide fun PH kP => ?_
    obtain ⟨h', tk, i, m, nw, rfl, hi, rfl, st, F, N, off, hJ⟩ := hh
    refine kP ?_
    clear kP PH
    by_cases hlt : i < n
    · refine W.item i _ _ _ hlt st fun v h₂ tk₂ hP st₂ hk₂ => ?_
      obtain ⟨t, rfl⟩ := hP
      have F₂ := fr_but F hk₂ hIL hI0
      have N₂ := news_but N hk₂ off
      refine wpAny_of_eq (a := ()) rfl (wpAny_assign_Name (wpAny_storeName_local hx F₂.ns (fun h₃ hn₃ hs₃ => ?_) hp))
      have F₃ : Fr h₀ env.locals h₃ (upd m x (.int (i : Int) t)) := by
        have F₃ := F₂.set hn₃ hs₃
        simp only [Int.zero_add] at F₃
        exact F₃
      have N₃ := N₂.set hs₃
      have st₃ : IsRangeIter h₃ I (0 + ((i + 1 : Nat) : Nat) * 1) ((n : Int) - ((i + 1 : Nat) : Nat)) 1 := hs₃.extBut _ _ (Ne.symm hIL) st₂
      obtain ⟨oI, heI⟩ : ∃ o, h₃.get? I = some o := ⟨_, st₃⟩
      refine wpAny_mono (body_ i I oI m nw h₃ _ t hlt hJ F₃ (fun p hp => ?_) off) (fun f s₄ h₄ => ?_) fun _ _ e => e.elim
      · rcases List.mem_cons.mp hp with rfl | hp
        · exact ⟨heI, Ne.symm hIL, hI0⟩
        · exact N₃ p hp
      · refine hide fun PH kP => ?_
        obtain ⟨rfl, h₅, tk₅, m₅, nw₅, rfl, F₅, N₅, off₅, J₅⟩ := h₄
        refine kP ?_
        clear kP PH
        have st₅ : IsRangeIter h₅ I (0 + ((i + 1 : Nat) : Nat) * 1) ((n : Int) - ((i + 1 : Nat) : Nat)) 1 := by
          have e1 : h₅.get? I = some oI := (N₅ _ List.mem_cons_self).1
          show h₅.get? I = some _
          rw [e1, ← heI]; exact st₃
        exact ⟨n + 1 - (i + 1), by omega, h₅, tk₅, i + 1, m₅, nw₅, rfl, hlt, rfl, st₅, F₅, fun p hp => N₅ p (List.mem_cons_of_mem _ hp), off₅, J₅⟩
    · obtain rfl : i = n := Nat.le_antisymm hi (Nat.not_lt.mp hlt)
      refine W.done _ _ _ st fun h₂ tk₂ hk₂ => ?_
      exact wpAny_execs_nil ⟨_, rfl, fin m nw h₂ tk₂ hJ (fr_but F hk₂ hIL hI0) (news_but N hk₂ off)⟩
  · rw [← hI]
    show IsRangeIter _ _ _ _ _
    rw [hn]; simpa using Heap.get?_push_size _ rfl

/-- a loop over range(n), on the spine: the cell x -/
theorem for_cell {cn : Str} {cs : Scope} {a c : Addr} {ccd : Value} {cl : List (Str × Addr)} {x : Str} {px : Pos} {body : List Stmt} {r : Addr} {n : Nat} {t u v : Tok} {m : Str → Option Value} {nw : List (Addr × Obj)} {h : Heap} {tk : Nat} {Q : Flow → Shared → Prop} {oc : Obj} {v₀ : Option Value}
    (hh : A.handled = none) (hk : cs.kind = .function) (hx : (envX cn cs L a ccd cl).kindOf x = some .cell) (hc : cl.lookup x = some c)
    (hr : IsRange h r 0 (n : Int) 1 t u v) (hsm : Builtin.Range.small 0 (n : Int) 1 = true) (hn : Builtin.Range.rangeSize 0 (n : Int) 1 = ((n : Nat) : Int))
    (F : Fr h₀ L h m) (N : News h₀ L h ((c, oc) :: nw)) (offc : ∀ p ∈ nw, p.1 ≠ c) (hoc : oc.data = .cell v₀)
    (J : Nat → (Str → Option Value) → List (Addr × Obj) → Prop) (h0 : J 0 m nw)
    (body_ : ∀ i I oI oc m nw h tk t, i < n → J i m nw → oc.data = .cell (some (.int (i : Int) t)) → Fr h₀ L h m → News h₀ L h ((I, oI) :: (c, oc) :: nw) → (∀ p ∈ nw, p.1 ≠ I ∧ p.1 ≠ c) → I ≠ c →
      wpC (model prog w) A (execs body (envX cn cs L a ccd cl)) (fun f s' => TurnEndC h₀ L s₀ I oI c oc (J (i + 1)) f s') (fun _ _ => False) { s₀ with heap := h, toks := tk })
    (fin : ∀ m nw h tk oc v₁, J n m nw → oc.data = .cell v₁ → Fr h₀ L h m → News h₀ L h ((c, oc) :: nw) → (∀ p ∈ nw, p.1 ≠ c) → Q .next { s₀ with heap := h, toks := tk }) :
    wpAny (model prog w) A (pyIter (.ref r)) (fun it s₂ => codeC (model prog w) A (.forLoop (.Name x px) it body [] (envX cn cs L a ccd cl)) (fun r s' => ∃ f, r = .ok f ∧ Q f s') s₂) E { s₀ with heap := h, toks := tk } := by
  refine wpAny_pyIter_range hr hsm ?_
  have hIL : L ≠ h.objs.size := Nat.ne_of_lt F.ns.lt
  have hI0 : h₀.get? h.objs.size = none := by
    cases e : h₀.get? h.objs.size with
    | none => rfl
    | some o => exact absurd (Heap.lt_size (F.keep _ o e)) (Nat.lt_irrefl _)
  generalize hI : h.objs.size = I at hIL hI0
  have W := LCg.range_walks (prog := prog) (w := w) (I := I) hh 0 n
  have off : ∀ p ∈ (c, oc) :: nw, p.1 ≠ I := fun p hp => hI ▸ Nat.ne_of_lt (Heap.lt_size (N p hp).1)
  have hIc : I ≠ c := Ne.symm (off (c, oc) List.mem_cons_self)
  refine codeC_for (fun k s' => ∃ h' tk i m nw oc v₀, s' = { s₀ with heap := h', toks := tk } ∧ i ≤ n ∧ k = n + 1 - i ∧ IsRangeIter h' I (0 + (i : Nat) * 1) ((n : Int) - (i : Nat)) 1 ∧ oc.data = .cell v₀ ∧ Fr h₀ L h' m ∧ News h₀ L h' ((c, oc) :: nw) ∧ (∀ p ∈ nw, p.1 ≠ I ∧ p.1 ≠ c) ∧ J i m nw) (fun _ => rfl) ?_ (n + 1)
    ⟨_, _, 0, m, nw, oc, v₀, rfl, Nat.zero_le _, rfl, ?_, hoc, F.keeps fun _ _ e => Heap.get?_push_of_some _ e, N.grown fun _ _ e => Heap.get?_push_of_some _ e, fun p hp => ⟨off p (List.mem_cons_of_mem _ hp), offc p hp⟩, h0⟩
  · intro k s' hh
    refine hide fun PH kP => ?_
    obtain ⟨h', tk, i, m, nw, oc, v₀, rfl, hi, rfl, st, hoc, F, N, off, hJ⟩ := hh
    refine kP ?_
    clear kP PH
    have offI : ∀ p ∈ (c, oc) :: nw, p.1 ≠ I := fun p hp => by
      rcases List.mem_cons.mp hp with rfl | hp
      · exact Ne.symm hIc
      · exact (off p hp).1
    by_cases hlt : i < n
    · refine W.item i _ _ _ hlt st fun v h₂ tk₂ hP st₂ hk₂ => ?_
      obtain ⟨t, rfl⟩ := hP
      have F₂ := fr_but F hk₂ hIL hI0
      have N₂ := news_but N hk₂ offI
      have N₂' : News h₀ L h₂ ((I, _) :: (c, oc) :: nw) := fun p hp => by
        rcases List.mem_cons.mp hp with rfl | hp
        · exact ⟨st₂, Ne.symm hIL, hI0⟩
        · exact N₂ p hp
      refine wpAny_assign_Name (storeX_C (s := ⟨_, _, _, _, _⟩) F₂ N₂' hc (UpdF.tail hIc (UpdF.head fun p hp => (off p hp).2)) hoc (fun h₃ oc₃ F₃ N₃ hoc₃ => ?_) hk hx)
      have st₃ : IsRangeIter h₃ I (0 + ((i + 1 : Nat) : Nat) * 1) ((n : Int) - ((i + 1 : Nat) : Nat)) 1 := (N₃ _ List.mem_cons_self).1
      obtain ⟨oI, heI⟩ : ∃ o, h₃.get? I = some o := ⟨_, st₃⟩
      simp only [Int.zero_add] at hoc₃
      refine wpC_mono (body_ i I oI oc₃ m nw h₃ tk₂ t hlt hJ hoc₃ F₃ (fun p hp => ?_) off hIc) (fun f s₄ h₄ => ?_) fun _ _ e => e.elim
      · rcases List.mem_cons.mp hp with rfl | hp
        · exact ⟨heI, Ne.symm hIL, hI0⟩
        · exact N₃ p (List.mem_cons_of_mem _ hp)
      · refine hide fun PH kP => ?_
        obtain ⟨rfl, h₅, tk₅, m₅, nw₅, rfl, F₅, N₅, off₅, J₅⟩ := h₄
        refine kP ?_
        clear kP PH
        have st₅ : IsRangeIter h₅ I (0 + ((i + 1 : Nat) : Nat) * 1) ((n : Int) - ((i + 1 : Nat) : Nat)) 1 := by
          have e1 : h₅.get? I = some oI := (N₅ _ List.mem_cons_self).1
          show h₅.get? I = some _
          rw [e1, ← heI]; exact st₃
        exact ⟨n + 1 - (i + 1), by omega, h₅, tk₅, i + 1, m₅, nw₅, oc₃, _, rfl, hlt, rfl, st₅, hoc₃, F₅, fun p hp => N₅ p (List.mem_cons_of_mem _ hp), off₅, J₅⟩
    · obtain rfl : i = n := Nat.le_antisymm hi (Nat.not_lt.mp hlt)
      refine W.done _ _ _ st fun h₂ tk₂ hk₂ => ?_
      exact ⟨_, rfl, fin m nw h₂ tk₂ oc v₀ hJ hoc (fr_but F hk₂ hIL hI0) (news_but N hk₂ offI) fun p hp => (off p hp).2⟩
  · rw [← hI]
    show IsRangeIter _ _ _ _ _
    rw [hn]; simpa using Heap.get?_push_size _ rfl
end
end Mine
end
section
open PySem PySem.W PySem.Calls PyProof.Rows
set_option Elab.async false
set_option maxRecDepth 100000
set_option linter.unusedVariables false
namespace Mine
noncomputable def DueIs (N : Nat → Int) (tl : List (Addr × Obj)) (dv : List Value) (i : Nat) : Prop :=
  dv.length = i ∧ ∀ w, w < i → ∃ (a : Addr) (n : Nat) (us : List Value), dv[w]? = some (.ref a) ∧ ((a, listOf us.toArray n) : Addr × Obj) ∈ tl ∧ RowIs tl us ((List.range 24).map fun k => (termAt N w k, (w : Int)))
noncomputable def sizesOf (N : Nat → Int) (i : Nat) : List Int := (List.range i).map fun w => 3 * ((N w).natAbs : Int)
noncomputable def Far (tl : List (Addr × Obj)) (aS aD aO aR L : Addr) : Prop := (∀ p ∈ tl, p.1 ≠ aS) ∧ (∀ p ∈ tl, p.1 ≠ aD) ∧ (∀ p ∈ tl, p.1 ≠ aO) ∧ (∀ p ∈ tl, p.1 ≠ aR) ∧ (∀ p ∈ tl, p.1 ≠ L + 1 + 1 + 1 + 1 + 1 + 1) ∧ (∀ p ∈ tl, p.1 ≠ L + 1 + 1 + 1 + 1 + 1 + 1 + 1)

theorem Fr_pin4 {h₀ h : Heap} {L : Addr} {m : PySem.Str → Option Value} {x1 x2 x3 x4 : PySem.Str} {v1 v2 v3 v4 : Value} (F : Fr h₀ L h m) (e1 : m x1 = some v1) (e2 : m x2 = some v2) (e3 : m x3 = some v3) (e4 : m x4 = some v4) :
    Fr h₀ L h (fun y => if y = x1 then some v1 else if y = x2 then some v2 else if y = x3 then some v3 else if y = x4 then some v4 else m y) := by
  have e : m = fun y => if y = x1 then some v1 else if y = x2 then some v2 else if y = x3 then some v3 else if y = x4 then some v4 else m y := by
    funext y
    by_cases h1 : y = x1
    · subst h1; simp [e1]
    · by_cases h2 : y = x2
      · subst h2; simp [e2, h1]
      · by_cases h3 : y = x3
        · subst h3; simp [e3, h1, h2]
        · by_cases h4 : y = x4
          · subst h4; simp [e4, h1, h2, h3]
          · simp [h1, h2, h3, h4]
  rw [← e]; exact F
/-- the outer loop's state -/
inductive OJ (N : Nat → Int) (L aS aD aO aR aP aC aB : Addr) (oB o1 o2 o3 o4 : Obj) (pv : List Value) (pn : Nat) (ys : List Value) (i : Nat) (m : PySem.Str → Option Value) (nw : List (Addr × Obj)) : Prop
  | mk (rv ov dv sv : List Value) (n1 n2 n3 n4 : Nat) (o7 o6 : Obj) (v7 v6 : Option Value) (rts ots : List (Int × Int)) (tl : List (Addr × Obj))
    (e1 : m (PySem.Str.ofString "cells") = some (.ref aC)) (e2 : m (PySem.Str.ofString "row") = some (.ref aR)) (e3 : m (PySem.Str.ofString "other") = some (.ref aO)) (e4 : m (PySem.Str.ofString "sizes") = some (.ref aS))
    (e : nw = (aS, listOf sv.toArray n4) :: (aD, listOf dv.toArray n3) :: (aO, listOf ov.toArray n2) :: (aR, listOf rv.toArray n1) :: (aP, listOf pv.toArray pn) :: (aC, LCg.lst ys) :: (aB, oB) ::
      (L + 1 + 1 + 1 + 1 + 1 + 1 + 1, o7) :: (L + 1 + 1 + 1 + 1 + 1 + 1, o6) :: (L + 1 + 1 + 1 + 1, o4) :: (L + 1 + 1 + 1, o3) :: (L + 1 + 1, o2) :: (L + 1, o1) :: tl)
    (h7 : o7.data = .cell v7) (h6 : o6.data = .cell v6) (hr1 : RowIs tl rv rts) (hr2 : RowIs tl ov ots) (hr3 : RowOk ltA N i 0 (N i) rts) (hr4 : RowOk ltB N i 0 (N i) ots) (hdu : DueIs N tl dv i) (hsz : IntsAre sv (sizesOf N i)) (hf : Far tl aS aD aO aR L) :
    OJ N L aS aD aO aR aP aC aB oB o1 o2 o3 o4 pv pn ys i m nw

/-- the addresses' order -/
noncomputable def Ord (L aS aD aO aR aP aC aB : Addr) : Prop :=
  @LT.lt Nat _ aD aS ∧ @LT.lt Nat _ aO aD ∧ @LT.lt Nat _ aR aO ∧ @LT.lt Nat _ aP aR ∧ @LT.lt Nat _ aC aP ∧ @LT.lt Nat _ aB aP ∧ @Ne Nat aC aB ∧ @LT.lt Nat _ (L + 1 + 1 + 1 + 1 + 1 + 1 + 1) aB ∧
  @Ne Nat aC (L + 1) ∧ @Ne Nat aC (L + 1 + 1) ∧ @Ne Nat aC (L + 1 + 1 + 1) ∧ @Ne Nat aC (L + 1 + 1 + 1 + 1) ∧ @Ne Nat aC (L + 1 + 1 + 1 + 1 + 1) ∧ @Ne Nat aC (L + 1 + 1 + 1 + 1 + 1 + 1) ∧ @Ne Nat aC (L + 1 + 1 + 1 + 1 + 1 + 1 + 1)

theorem ltn {a b : Nat} (h : @LT.lt Nat _ a b) : @Ne Nat a b := Nat.ne_of_lt h
theorem gtn {a b : Nat} (h : @LT.lt Nat _ b a) : @Ne Nat a b := Ne.symm (Nat.ne_of_lt h)
/-- all that lies below the least of the lists -/
abbrev Low (L a : Addr) : Prop := @LT.lt Nat _ (L + 1 + 1 + 1 + 1 + 1 + 1 + 1) a ∧ @LT.lt Nat _ (L + 1 + 1 + 1 + 1 + 1 + 1) a ∧ @LT.lt Nat _ (L + 1 + 1 + 1 + 1 + 1) a ∧ @LT.lt Nat _ (L + 1 + 1 + 1 + 1) a ∧ @LT.lt Nat _ (L + 1 + 1 + 1) a ∧ @LT.lt Nat _ (L + 1 + 1) a ∧ @LT.lt Nat _ (L + 1) a ∧ True
theorem low_up {L a b : Addr} (h : Low L a) (hab : @LT.lt Nat _ a b) : Low L b := by
  obtain ⟨h7, h6, h5, h4, h3, h2, h1, _⟩ := h
  exact ⟨Nat.lt_trans h7 hab, Nat.lt_trans h6 hab, Nat.lt_trans h5 hab, Nat.lt_trans h4 hab, Nat.lt_trans h3 hab, Nat.lt_trans h2 hab, Nat.lt_trans h1 hab, trivial⟩
theorem low_of {L a : Addr} (h : @LT.lt Nat _ (L + 1 + 1 + 1 + 1 + 1 + 1 + 1) a) : Low L a :=
  have h6 := Nat.lt_of_succ_lt h
  have h5 := Nat.lt_of_succ_lt h6
  have h4 := Nat.lt_of_succ_lt h5
  have h3 := Nat.lt_of_succ_lt h4
  have h2 := Nat.lt_of_succ_lt h3
  have h1 := Nat.lt_of_succ_lt h2
  ⟨h, h6, h5, h4, h3, h2, h1, trivial⟩
/-- the order, spelled out -/
abbrev OrdAll (L aS aD aO aR aP aC aB : Addr) : Prop :=
  (@LT.lt Nat _ aD aS ∧ @LT.lt Nat _ aO aS ∧ @LT.lt Nat _ aR aS ∧ @LT.lt Nat _ aP aS ∧ @LT.lt Nat _ aC aS ∧ @LT.lt Nat _ aB aS ∧ Low L aS) ∧
  (@LT.lt Nat _ aO aD ∧ @LT.lt Nat _ aR aD ∧ @LT.lt Nat _ aP aD ∧ @LT.lt Nat _ aC aD ∧ @LT.lt Nat _ aB aD ∧ Low L aD) ∧
  (@LT.lt Nat _ aR aO ∧ @LT.lt Nat _ aP aO ∧ @LT.lt Nat _ aC aO ∧ @LT.lt Nat _ aB aO ∧ Low L aO) ∧
  (@LT.lt Nat _ aP aR ∧ @LT.lt Nat _ aC aR ∧ @LT.lt Nat _ aB aR ∧ Low L aR) ∧ Low L aP ∧ Low L aB
theorem ord_all {L aS aD aO aR aP aC aB : Addr} (h : Ord L aS aD aO aR aP aC aB) : OrdAll L aS aD aO aR aP aC aB := by
  obtain ⟨q1, q2, q3, q4, q5, q6, _, q8, _⟩ := h
  have lB := low_of q8
  have lP := low_up lB q6
  have lR := low_up lP q4
  have lO := low_up lR q3
  have lD := low_up lO q2
  have lS := low_up lD q1
  have cR := Nat.lt_trans q5 q4
  have bR := Nat.lt_trans q6 q4
  have pO := Nat.lt_trans q4 q3
  have cO := Nat.lt_trans cR q3
  have bO := Nat.lt_trans bR q3
  have rD := Nat.lt_trans q3 q2
  have pD := Nat.lt_trans pO q2
  have cD := Nat.lt_trans cO q2
  have bD := Nat.lt_trans bO q2
  exact ⟨⟨q1, Nat.lt_trans q2 q1, Nat.lt_trans rD q1, Nat.lt_trans pD q1, Nat.lt_trans cD q1, Nat.lt_trans bD q1, lS⟩, ⟨q2, rD, pD, cD, bD, lD⟩, ⟨q3, pO, cO, bO, lO⟩, ⟨q4, cR, bR, lR⟩, lP, lB⟩
/-- the cells among themselves -/
abbrev CellsNe (L : Addr) : Prop := @LT.lt Nat _ (L + 1) (L + 1 + 1) ∧ @LT.lt Nat _ (L + 1) (L + 1 + 1 + 1) ∧ @LT.lt Nat _ (L + 1) (L + 1 + 1 + 1 + 1) ∧ @LT.lt Nat _ (L + 1) (L + 1 + 1 + 1 + 1 + 1) ∧ @LT.lt Nat _ (L + 1) (L + 1 + 1 + 1 + 1 + 1 + 1) ∧ @LT.lt Nat _ (L + 1) (L + 1 + 1 + 1 + 1 + 1 + 1 + 1) ∧ @LT.lt Nat _ (L + 1 + 1) (L + 1 + 1 + 1) ∧ @LT.lt Nat _ (L + 1 + 1) (L + 1 + 1 + 1 + 1) ∧ @LT.lt Nat _ (L + 1 + 1) (L + 1 + 1 + 1 + 1 + 1) ∧ @LT.lt Nat _ (L + 1 + 1) (L + 1 + 1 + 1 + 1 + 1 + 1) ∧ @LT.lt Nat _ (L + 1 + 1) (L + 1 + 1 + 1 + 1 + 1 + 1 + 1) ∧ @LT.lt Nat _ (L + 1 + 1 + 1) (L + 1 + 1 + 1 + 1) ∧ @LT.lt Nat _ (L + 1 + 1 + 1) (L + 1 + 1 + 1 + 1 + 1) ∧ @LT.lt Nat _ (L + 1 + 1 + 1) (L + 1 + 1 + 1 + 1 + 1 + 1) ∧ @LT.lt Nat _ (L + 1 + 1 + 1) (L + 1 + 1 + 1 + 1 + 1 + 1 + 1) ∧ @LT.lt Nat _ (L + 1 + 1 + 1 + 1) (L + 1 + 1 + 1 + 1 + 1) ∧ @LT.lt Nat _ (L + 1 + 1 + 1 + 1) (L + 1 + 1 + 1 + 1 + 1 + 1) ∧ @LT.lt Nat _ (L + 1 + 1 + 1 + 1) (L + 1 + 1 + 1 + 1 + 1 + 1 + 1) ∧ @LT.lt Nat _ (L + 1 + 1 + 1 + 1 + 1) (L + 1 + 1 + 1 + 1 + 1 + 1) ∧ @LT.lt Nat _ (L + 1 + 1 + 1 + 1 + 1) (L + 1 + 1 + 1 + 1 + 1 + 1 + 1) ∧ @LT.lt Nat _ (L + 1 + 1 + 1 + 1 + 1 + 1) (L + 1 + 1 + 1 + 1 + 1 + 1 + 1)
theorem cells_ne (L : Addr) : CellsNe L := ⟨Nat.lt_succ_self _, Nat.lt_succ_of_lt (Nat.lt_succ_self _), Nat.lt_succ_of_lt (Nat.lt_succ_of_lt (Nat.lt_succ_self _)), Nat.lt_succ_of_lt (Nat.lt_succ_of_lt (Nat.lt_succ_of_lt (Nat.lt_succ_self _))), Nat.lt_succ_of_lt (Nat.lt_succ_of_lt (Nat.lt_succ_of_lt (Nat.lt_succ_of_lt (Nat.lt_succ_self _)))), Nat.lt_succ_of_lt (Nat.lt_succ_of_lt (Nat.lt_succ_of_lt (Nat.lt_succ_of_lt (Nat.lt_succ_of_lt (Nat.lt_succ_self _))))), Nat.lt_succ_self _, Nat.lt_succ_of_lt (Nat.lt_succ_self _), Nat.lt_succ_of_lt (Nat.lt_succ_of_lt (Nat.lt_succ_self _)), Nat.lt_succ_of_lt (Nat.lt_succ_of_lt (Nat.lt_succ_of_lt (Nat.lt_succ_self _))), Nat.lt_succ_of_lt (Nat.lt_succ_of_lt (Nat.lt_succ_of_lt (Nat.lt_succ_of_lt (Nat.lt_succ_self _)))), Nat.lt_succ_self _, Nat.lt_succ_of_lt (Nat.lt_succ_self _), Nat.lt_succ_of_lt (Nat.lt_succ_of_lt (Nat.lt_succ_self _)), Nat.lt_succ_of_lt (Nat.lt_succ_of_lt (Nat.lt_succ_of_lt (Nat.lt_succ_self _))), Nat.lt_succ_self _, Nat.lt_succ_of_lt (Nat.lt_succ_self _), Nat.lt_succ_of_lt (Nat.lt_succ_of_lt (Nat.lt_succ_self _)), Nat.lt_succ_self _, Nat.lt_succ_of_lt (Nat.lt_succ_self _), Nat.lt_succ_self _⟩
theorem neN' {P : Prop} (h : P) : P := h
theorem rowOk_0 {lt : Int × Int → Int × Int → Prop} {N : Nat → Int} {x : Int} (h : ∀ v, Term (N 0) v → Term x v) : RowOk lt N 0 0 x [] := by
  refine ⟨List.Pairwise.nil, by simp, fun v w => ⟨fun h => (nomatch h), fun h' => ?_⟩⟩
  rcases h' with ⟨j, _, hj, _⟩ | ⟨_, h1, h2⟩
  · omega
  · exact absurd (h v h1) h2

theorem news_mid {h₀ h : Heap} {L : Addr} {A M T : List (Addr × Obj)} (N : News h₀ L h (A ++ (M ++ T))) : News h₀ L h (M ++ (A ++ T)) := fun p hp => N p (by
  simp only [List.mem_append] at hp ⊢
  rcases hp with h | h | h
  · exact .inr (.inl h)
  · exact .inl h
  · exact .inr (.inr h))
theorem news_pull {h₀ h : Heap} {L : Addr} {A T : List (Addr × Obj)} {x : Addr × Obj} (N : News h₀ L h (A ++ x :: T)) : News h₀ L h (x :: (A ++ T)) := news_mid (M := [x]) N
theorem pack {P : Prop} {h₀ h : Heap} {L aS aD aO aR aP aC aB : Addr} {oB o1 o2 o3 o4 o5 o6 o7 : Obj} {pv ys : List Value} {pn : Nat} {m0 : PySem.Str → Option Value}
    (F : Fr h₀ L h (fun y => if y = PySem.Str.ofString "sizes" then some (.ref aS) else if y = PySem.Str.ofString "other" then some (.ref aO) else if y = PySem.Str.ofString "row" then some (.ref aR) else if y = PySem.Str.ofString "cells" then some (.ref aC) else m0 y))
    (N : News h₀ L h [(aS, listOf #[] 0), (aD, listOf #[] 0), (aO, listOf #[] 0), (aR, listOf #[] 0), (aP, listOf pv.toArray pn), (aC, LCg.lst ys), (aB, oB), (L + 1 + 1 + 1 + 1 + 1 + 1 + 1, o7), (L + 1 + 1 + 1 + 1 + 1 + 1, o6), (L + 1 + 1 + 1 + 1 + 1, o5),
      (L + 1 + 1 + 1 + 1, o4), (L + 1 + 1 + 1, o3), (L + 1 + 1, o2), (L + 1, o1)])
    (hO : Ord L aS aD aO aR aP aC aB) (d7 : ∃ v, o7.data = .cell v) (d6 : ∃ v, o6.data = .cell v) (d5 : ∃ v, o5.data = .cell v) (d4 : o4.data = .cell (some (.ref aD))) (d3 : o3.data = .cell (some (.ref aP)))
    (k : ∀ (aS aD aO aR aB : Addr) (oB o1 o2 o3 o4 o5 : Obj) (v5 : Option Value) (nw : List (Addr × Obj)) (m : PySem.Str → Option Value), Fr h₀ L h m → News h₀ L h ((L + 1 + 1 + 1 + 1 + 1, o5) :: nw) → (∀ p ∈ nw, p.1 ≠ L + 1 + 1 + 1 + 1 + 1) → o5.data = .cell v5 →
      Ord L aS aD aO aR aP aC aB → o4.data = .cell (some (.ref aD)) → o3.data = .cell (some (.ref aP)) → (∀ NN, OJ NN L aS aD aO aR aP aC aB oB o1 o2 o3 o4 pv pn ys 0 m nw) → P) : P := by
  obtain ⟨v7, d7⟩ := d7
  obtain ⟨v6, d6⟩ := d6
  obtain ⟨v5, d5⟩ := d5
  obtain ⟨⟨_, _, _, _, _, _, lS⟩, ⟨_, _, _, _, _, lD⟩, ⟨_, _, _, _, lO⟩, ⟨_, _, _, lR⟩, lP, lB⟩ := ord_all hO
  have e := cells_ne L
  refine k aS aD aO aR aB oB o1 o2 o3 o4 o5 v5 _ _ F (news_pull (A := [(aS, listOf #[] 0), (aD, listOf #[] 0), (aO, listOf #[] 0), (aR, listOf #[] 0), (aP, listOf pv.toArray pn), (aC, LCg.lst ys), (aB, oB), (L + 1 + 1 + 1 + 1 + 1 + 1 + 1, o7), (L + 1 + 1 + 1 + 1 + 1 + 1, o6)])
    (T := [(L + 1 + 1 + 1 + 1, o4), (L + 1 + 1 + 1, o3), (L + 1 + 1, o2), (L + 1, o1)]) N) ?_ d5 hO d4 d3 fun NN => ?_
  · exact List.forall_mem_cons.mpr ⟨gtn lS.2.2.1, List.forall_mem_cons.mpr ⟨gtn lD.2.2.1, List.forall_mem_cons.mpr ⟨gtn lO.2.2.1, List.forall_mem_cons.mpr ⟨gtn lR.2.2.1, List.forall_mem_cons.mpr ⟨gtn lP.2.2.1, List.forall_mem_cons.mpr ⟨hO.2.2.2.2.2.2.2.2.2.2.2.2.1, List.forall_mem_cons.mpr ⟨gtn lB.2.2.1,
      List.forall_mem_cons.mpr ⟨gtn (Nat.lt_succ_of_lt (Nat.lt_succ_self _)), List.forall_mem_cons.mpr ⟨gtn (Nat.lt_succ_self _), List.forall_mem_cons.mpr ⟨ltn (Nat.lt_succ_self _), List.forall_mem_cons.mpr ⟨ltn (Nat.lt_succ_of_lt (Nat.lt_succ_self _)), List.forall_mem_cons.mpr ⟨ltn (Nat.lt_succ_of_lt (Nat.lt_succ_of_lt (Nat.lt_succ_self _))),
      List.forall_mem_cons.mpr ⟨ltn (Nat.lt_succ_of_lt (Nat.lt_succ_of_lt (Nat.lt_succ_of_lt (Nat.lt_succ_self _)))), fun _ h => (nomatch h)⟩⟩⟩⟩⟩⟩⟩⟩⟩⟩⟩⟩⟩
  · refine ⟨[], [], [], [], 0, 0, 0, 0, o7, o6, v7, v6, [], [], [], ?_, ?_, ?_, ?_, rfl, d7, d6, ⟨rfl, fun _ _ h => (by simp at h)⟩, ⟨rfl, fun _ _ h => (by simp at h)⟩, rowOk_0 (fun v h => h), rowOk_0 (fun v h => h), ⟨rfl, fun _ h => (by omega)⟩, .nil, ?_⟩
    · rfl
    · rfl
    · rfl
    · rfl
    · exact ⟨fun _ h => (nomatch h), fun _ h => (nomatch h), fun _ h => (nomatch h), fun _ h => (nomatch h), fun _ h => (nomatch h), fun _ h => (nomatch h)⟩
theorem off_facts {aS aD aO aR aP aC aB c7 c6 c4 c3 c2 c1 I c : Addr} {x1 x2 x3 x4 x5 x6 x7 x8 x9 x10 x11 x12 x13 : Obj} {tl : List (Addr × Obj)}
    (off : ∀ p ∈ (aS, x1) :: (aD, x2) :: (aO, x3) :: (aR, x4) :: (aP, x5) :: (aC, x6) :: (aB, x7) :: (c7, x8) :: (c6, x9) :: (c4, x10) :: (c3, x11) :: (c2, x12) :: (c1, x13) :: tl, p.1 ≠ I ∧ p.1 ≠ c) :
    (∀ p ∈ tl, p.1 ≠ I) ∧ (∀ p ∈ tl, p.1 ≠ c) ∧ @Ne Nat aS I ∧ @Ne Nat aD I ∧ @Ne Nat aO I ∧ @Ne Nat aR I ∧ @Ne Nat aP I ∧ @Ne Nat c7 I ∧ @Ne Nat c6 I ∧ True := by
  simp only [List.forall_mem_cons] at off
  obtain ⟨h1, h2, h3, h4, h5, h6, h7, h8, h9, h10, h11, h12, h13, ht⟩ := off
  exact ⟨fun p hp => (ht p hp).1, fun p hp => (ht p hp).2, h1.1, h2.1, h3.1, h4.1, h5.1, h8.1, h9.1, trivial⟩
end Mine
end
section
open PySem PySem.W PySem.Calls PyProof.Rows
set_option Elab.async false
set_option maxRecDepth 100000
set_option linter.unusedVariables false
namespace Mine
/-- the numbers at turn k -/
noncomputable def Step (N : Nat → Int) (i k : Nat) (left top laid : Int) : Prop :=
  (left = 0 ∨ (0 ≤ top ∧ top ≤ 24 ∧ 3 * (left.natAbs : Int) < 2 ^ top.toNat)) ∧ 3 * left.natAbs * 4 ^ k < 2 ^ 22 ∧ left.natAbs ≤ 1048576 ∧ laid + fewest left.natAbs = fewest (N i).natAbs ∧ ∀ v, Term left v → Term (N i) v

/-- the inner loop's state -/
inductive IJ (N : Nat → Int) (L aS aD aO aR aP aC aB I cw : Addr) (oI oc oB o1 o2 o3 o4 : Obj) (pv : List Value) (pn : Nat) (ys sv : List Value) (n4 : Nat) (dv : List Value) (n3 : Nat) (i k : Nat) (m : PySem.Str → Option Value) (nw : List (Addr × Obj)) : Prop
  | mk (left top laid : Int) (t1 t2 t3 t4 t5 : Tok) (rv ov : List Value) (n1 n2 : Nat) (o7 o6 : Obj) (v7 v6 : Option Value) (rts ots : List (Int × Int)) (tl : List (Addr × Obj))
    (e1 : m (PySem.Str.ofString "left") = some (.int left t1)) (e2 : m (PySem.Str.ofString "top") = some (.int top t2)) (e3 : m (PySem.Str.ofString "laid") = some (.int laid t3))
    (e4 : m (PySem.Str.ofString "host") = some (.str (Txt.item (PySem.Str.ofString "ab") (i : Int)) t4)) (e5 : m (PySem.Str.ofString "number") = some (.int (N i) t5))
    (e6 : m (PySem.Str.ofString "cells") = some (.ref aC)) (e7 : m (PySem.Str.ofString "row") = some (.ref aR)) (e8 : m (PySem.Str.ofString "other") = some (.ref aO)) (e9 : m (PySem.Str.ofString "sizes") = some (.ref aS))
    (e : nw = (I, oI) :: (cw, oc) :: (aS, listOf sv.toArray n4) :: (aD, listOf dv.toArray n3) :: (aO, listOf ov.toArray n2) :: (aR, listOf rv.toArray n1) :: (aP, listOf pv.toArray pn) :: (aC, LCg.lst ys) :: (aB, oB) ::
      (L + 1 + 1 + 1 + 1 + 1 + 1 + 1, o7) :: (L + 1 + 1 + 1 + 1 + 1 + 1, o6) :: (L + 1 + 1 + 1 + 1, o4) :: (L + 1 + 1 + 1, o3) :: (L + 1 + 1, o2) :: (L + 1, o1) :: tl)
    (h7 : o7.data = .cell v7) (h6 : o6.data = .cell v6) (hr1 : RowIs tl rv rts) (hr2 : RowIs tl ov ots) (hr3 : RowOk ltA N i k left rts) (hr4 : RowOk ltB N i k left ots) (hst : Step N i k left top laid) (hdu : DueIs N tl dv i) (hf : Far tl aS aD aO aR L) (hI : ∀ p ∈ tl, p.1 ≠ I) (hw : ∀ p ∈ tl, p.1 ≠ cw) :
    IJ N L aS aD aO aR aP aC aB I cw oI oc oB o1 o2 o3 o4 pv pn ys sv n4 dv n3 i k m nw

theorem row_more {news news' : List (Addr × Obj)} {vs : List Value} {ts : List (Int × Int)} (h : RowIs news vs ts) (hs : ∀ p ∈ news, p ∈ news') : RowIs news' vs ts :=
  ⟨h.1, fun i t e => by obtain ⟨a, n, u₁, u₂, h1, h2⟩ := h.2 i t e; exact ⟨a, n, u₁, u₂, h1, hs _ h2⟩⟩
theorem due_more {N : Nat → Int} {news news' : List (Addr × Obj)} {dv : List Value} {i : Nat} (h : DueIs N news dv i) (hs : ∀ p ∈ news, p ∈ news') : DueIs N news' dv i :=
  ⟨h.1, fun w hw => by obtain ⟨a, n, us, h1, h2, h3⟩ := h.2 w hw; exact ⟨a, n, us, h1, hs _ h2, row_more h3 hs⟩⟩
theorem step_0 {N : Nat → Int} {i : Nat} {x : Int} (hx : x = N i) (hb : (N i).natAbs ≤ 1048576) : Step N i 0 x 24 0 := by
  subst hx
  refine ⟨.inr ⟨by decide, by decide, ?_⟩, by omega, hb, by omega, fun _ h => h⟩
  show 3 * ((N i).natAbs : Int) < 16777216
  omega

theorem rowOk_up {lt : Int × Int → Int × Int → Prop} {N : Nat → Int} {i k : Nat} {x : Int} {ts : List (Int × Int)} (h : RowOk lt N i k x ts) : RowOk lt N i (k + 1) x ts := ⟨h.1, Nat.le_succ_of_le h.2.1, h.2.2⟩

theorem pack2 {P : Prop} {N : Nat → Int} {h₀ h : Heap} {L aS aD aO aR aP aC aB I cw d1 d2 d3 : Addr} {oI oc oB o1 o2 o3 o4 o6 o7 x1 x2 x3 : Obj} {pv ys sv dv ov rv : List Value} {pn n1 n2 n3 n4 i : Nat} {v7 v6 : Option Value} {rts ots : List (Int × Int)} {tl : List (Addr × Obj)}
    {m : PySem.Str → Option Value} {t1 t2 t3 t4 t5 : Tok} {left : Int}
    (F : Fr h₀ L h m)
    (e1 : m (PySem.Str.ofString "left") = some (.int left t1)) (e2 : m (PySem.Str.ofString "top") = some (.int 24 t2)) (e3 : m (PySem.Str.ofString "laid") = some (.int 0 t3))
    (e4 : m (PySem.Str.ofString "host") = some (.str (Txt.item (PySem.Str.ofString "ab") (i : Int)) t4)) (e5 : m (PySem.Str.ofString "number") = some (.int (N i) t5))
    (e6 : m (PySem.Str.ofString "cells") = some (.ref aC)) (e7 : m (PySem.Str.ofString "row") = some (.ref aR)) (e8 : m (PySem.Str.ofString "other") = some (.ref aO)) (e9 : m (PySem.Str.ofString "sizes") = some (.ref aS))
    (Nn : News h₀ L h ((d1, x1) :: (d2, x2) :: (d3, x3) :: (I, oI) :: (cw, oc) :: (aS, listOf sv.toArray n4) :: (aD, listOf dv.toArray n3) :: (aO, listOf ov.toArray n2) :: (aR, listOf rv.toArray n1) :: (aP, listOf pv.toArray pn) :: (aC, LCg.lst ys) :: (aB, oB) ::
      (L + 1 + 1 + 1 + 1 + 1 + 1 + 1, o7) :: (L + 1 + 1 + 1 + 1 + 1 + 1, o6) :: (L + 1 + 1 + 1 + 1, o4) :: (L + 1 + 1 + 1, o3) :: (L + 1 + 1, o2) :: (L + 1, o1) :: tl))
    (hx : left = N i) (hb : (N i).natAbs ≤ 1048576)
    (h7 : o7.data = .cell v7) (h6 : o6.data = .cell v6) (hr1 : RowIs tl rv rts) (hr2 : RowIs tl ov ots) (hr3 : RowOk ltA N i 0 (N i) rts) (hr4 : RowOk ltB N i 0 (N i) ots) (hdu : DueIs N tl dv i)
    (hf : Far ((d1, x1) :: (d2, x2) :: (d3, x3) :: tl) aS aD aO aR L) (hI : ∀ p ∈ (d1, x1) :: (d2, x2) :: (d3, x3) :: tl, p.1 ≠ I) (hw : ∀ p ∈ (d1, x1) :: (d2, x2) :: (d3, x3) :: tl, p.1 ≠ cw)
    (k : ∀ nw, News h₀ L h nw → IJ N L aS aD aO aR aP aC aB I cw oI oc oB o1 o2 o3 o4 pv pn ys sv n4 dv n3 i 0 m nw → P) : P := by
  have sub : ∀ p ∈ tl, p ∈ (d1, x1) :: (d2, x2) :: (d3, x3) :: tl := fun p hp => List.mem_cons_of_mem _ (List.mem_cons_of_mem _ (List.mem_cons_of_mem _ hp))
  exact k _ (news_mid (A := [(d1, x1), (d2, x2), (d3, x3)]) (M := [(I, oI), (cw, oc), (aS, listOf sv.toArray n4), (aD, listOf dv.toArray n3), (aO, listOf ov.toArray n2), (aR, listOf rv.toArray n1), (aP, listOf pv.toArray pn), (aC, LCg.lst ys), (aB, oB),
      (L + 1 + 1 + 1 + 1 + 1 + 1 + 1, o7), (L + 1 + 1 + 1 + 1 + 1 + 1, o6), (L + 1 + 1 + 1 + 1, o4), (L + 1 + 1 + 1, o3), (L + 1 + 1, o2), (L + 1, o1)]) (T := tl) Nn) ⟨left, 24, 0, t1, t2, t3, t4, t5, rv, ov, n1, n2, o7, o6, v7, v6, rts, ots, (d1, x1) :: (d2, x2) :: (d3, x3) :: tl, e1, e2, e3, e4, e5, e6, e7, e8, e9, rfl, h7, h6, row_more hr1 sub, row_more hr2 sub,
    hx ▸ hr3, hx ▸ hr4, step_0 hx hb, due_more hdu sub, hf, hI, hw⟩
theorem f3 {d1 d2 d3 a : Addr} {x1 x2 x3 : Obj} {tl : List (Addr × Obj)} (h1 : @Ne Nat d1 a) (h2 : @Ne Nat d2 a) (h3 : @Ne Nat d3 a) (h : ∀ p ∈ tl, p.1 ≠ a) : ∀ p ∈ (d1, x1) :: (d2, x2) :: (d3, x3) :: tl, p.1 ≠ a :=
  List.forall_mem_cons.mpr ⟨h1, List.forall_mem_cons.mpr ⟨h2, List.forall_mem_cons.mpr ⟨h3, h⟩⟩⟩
noncomputable def pinned : List (PySem.Str × Value) → (PySem.Str → Option Value) → PySem.Str → Option Value
  | [], m => m
  | q :: r, m => fun y => if y = q.1 then some q.2 else pinned r m y
theorem pinned_eq : ∀ (l : List (PySem.Str × Value)) (m : PySem.Str → Option Value), (∀ q ∈ l, m q.1 = some q.2) → pinned l m = m
  | [], _, _ => rfl
  | q :: r, m, h => by
    have ih := pinned_eq r m fun p hp => h p (List.mem_cons_of_mem _ hp)
    funext y
    show (if y = q.1 then some q.2 else pinned r m y) = m y
    rw [ih]
    by_cases e : y = q.1
    · rw [if_pos e, e, h q List.mem_cons_self]
    · rw [if_neg e]
theorem Fr_pins {h₀ h : Heap} {L : Addr} {m : PySem.Str → Option Value} {x : PySem.Str} {v : Value} (F : Fr h₀ L h (upd m x v)) (l : List (PySem.Str × Value)) (hl : ∀ q ∈ l, m q.1 = some q.2) : Fr h₀ L h (fun y => if y = x then some v else pinned l m y) := by
  rw [pinned_eq l m hl]; exact F
theorem kv24 : ∀ n : Nat, n < 24 → kvP (rangeKs 0 24) (n : Int) = 2 ^ n := by decide +kernel
theorem mono24 : Mono (kvP (rangeKs 0 24)) 24 := by
  intro i j h0 hij hj
  obtain ⟨a, rfl⟩ := Int.eq_ofNat_of_zero_le h0
  obtain ⟨b, rfl⟩ := Int.eq_ofNat_of_zero_le (Int.le_trans h0 hij)
  rw [kv24 a (by omega), kv24 b (by omega)]
  exact_mod_cast Nat.pow_le_pow_right (by decide) (by omega)
theorem ks24 : ∀ k ∈ rangeKs 0 24, 0 ≤ k ∧ k ≤ 60 := by decide +kernel
theorem pv24 {pv : List Value} (h : IntsAre pv (rangeKs 0 24)) : pv.length = 24 := by rw [ints_len h]; decide +kernel
theorem step_idle {N : Nat → Int} {i k : Nat} {left top laid : Int} (h : Step N i k left top laid) (h0 : left = 0) : Step N i (k + 1) left top laid := by
  subst h0
  exact ⟨.inl rfl, by simp, by decide, h.2.2.2⟩
noncomputable def absI (x : Int) : Int := if x < 0 then -x else x
/-- TO DO (pure) -/
theorem place_top {N : Nat → Int} {i k : Nat} {left top laid : Int} (h : Step N i k left top laid) (h0 : left ≠ 0) : 1 ≤ top ∧ top ≤ 24 := by
  rcases h.1 with e | ⟨h1, h2, h3⟩
  · exact absurd e h0
  · refine ⟨?_, h2⟩
    rcases Int.lt_or_le top 1 with hlt | hge
    · have : top = 0 := by omega
      subst this
      have : 3 * (left.natAbs : Int) < 1 := h3
      omega
    · exact hge
/-- the place -/
theorem place_spec {N : Nat → Int} {i k : Nat} {left top laid r : Int} {n : Nat} (h : Step N i k left top laid) (h0 : left ≠ 0) (hn : n = 24) (hL : BisL (kvP (rangeKs 0 24)) (3 * if left < 0 then -left else left) 0 (n : Int) r) :
    ∃ t : Nat, r = (t : Int) + 2 ∧ t ≤ 20 ∧ 2 * 2 ^ t < 3 * left.natAbs ∧ 3 * left.natAbs < 4 * 2 ^ t := by
  obtain ⟨b1, b2, b3, b4⟩ := hL
  have hx : (3 * if left < 0 then -left else left) = ((3 * left.natAbs : Nat) : Int) := by split <;> omega
  rw [hx] at b3 b4
  have hP : 1 ≤ 4 ^ k := Nat.one_le_pow _ _ (by decide)
  have h22 : 3 * left.natAbs < 2 ^ 22 := Nat.lt_of_le_of_lt (Nat.le_mul_of_pos_right _ hP) h.2.1
  have r1 : r ≤ 22 := by
    rcases Int.lt_or_le 22 r with hr | hr
    · have := b3 22 (by decide) hr
      rw [show (22 : Int) = ((22 : Nat) : Int) from rfl, kv24 22 (by decide)] at this
      have e : ((2 : Int) ^ 22) = 4194304 := by decide
      rw [e] at this
      omega
    · exact hr
  have r2 : 2 ≤ r := by
    rcases Int.lt_or_le r 2 with hr | hr
    · have := b4 1 (by omega) (by omega)
      rw [show (1 : Int) = ((1 : Nat) : Int) from rfl, kv24 1 (by decide)] at this
      have e : ((2 : Int) ^ 1) = 2 := by decide
      rw [e] at this
      omega
    · exact hr
  obtain ⟨t, rfl⟩ : ∃ t : Nat, r = (t : Int) + 2 := ⟨(r - 2).toNat, by omega⟩
  refine ⟨t, rfl, by omega, ?_, ?_⟩
  · have := b3 ((t + 1 : Nat) : Int) (by omega) (by omega)
    rw [kv24 _ (by omega)] at this
    have e : ((2 : Int) ^ (t + 1)) = ((2 ^ (t + 1) : Nat) : Int) := by push_cast; rfl
    rw [e, Nat.pow_succ] at this
    omega
  · have := b4 ((t + 2 : Nat) : Int) (by omega) (by omega)
    rw [kv24 _ (by omega)] at this
    have e : ((2 : Int) ^ (t + 2)) = ((2 ^ (t + 2) : Nat) : Int) := by push_cast; rfl
    rw [e, Nat.pow_succ, Nat.pow_succ] at this
    have := two_pow_mod3 t
    omega
theorem place_same {N : Nat → Int} {i k : Nat} {left top laid r r' : Int} {n : Nat} (h : Step N i k left top laid) (h0 : left ≠ 0) (hn : n = 24) (hL : BisL (kvP (rangeKs 0 24)) (3 * if left < 0 then -left else left) 0 (n : Int) r)
    (hR : BisR (kvP (rangeKs 0 24)) (3 * if left < 0 then -left else left) 1 top r') : r' = r := by
  obtain ⟨t, rfl, ht, h1, h2⟩ := place_spec h h0 hn hL
  obtain ⟨c1, c2, c3, c4⟩ := hR
  obtain ⟨b1, b2, b3, b4⟩ := hL
  have hx : (3 * if left < 0 then -left else left) = ((3 * left.natAbs : Nat) : Int) := by split <;> omega
  rw [hx] at b3 b4 c3 c4
  rcases h.1 with e | ⟨t1, t2, t3⟩
  · exact absurd e h0
  obtain ⟨p, rfl⟩ : ∃ p : Nat, r' = (p : Int) := ⟨r'.toNat, by omega⟩
  obtain ⟨q, rfl⟩ : ∃ q : Nat, top = (q : Int) := ⟨top.toNat, by omega⟩
  have t3' : (3 * left.natAbs : Nat) < 2 ^ q := by
    rw [Int.toNat_natCast] at t3
    have e : ((2 : Int) ^ q) = ((2 ^ q : Nat) : Int) := by push_cast; rfl
    rw [e] at t3
    omega
  rcases Int.lt_trichotomy (p : Int) ((t : Int) + 2) with hlt | heq | hgt
  · exfalso
    have hb := b3 (p : Int) (by omega) hlt
    rw [kv24 _ (by omega)] at hb
    have e : ((2 : Int) ^ p) = ((2 ^ p : Nat) : Int) := by push_cast; rfl
    rw [e] at hb
    rcases Int.lt_or_le (p : Int) (q : Int) with hpq | hpq
    · have hc := c4 (p : Int) (Int.le_refl _) hpq
      rw [kv24 _ (by omega), e] at hc
      omega
    · have : p = q := by omega
      subst this
      omega
  · exact heq
  · exfalso
    have hc := c3 ((t + 2 : Nat) : Int) (by omega) (by omega)
    rw [kv24 _ (by omega)] at hc
    have e : ((2 : Int) ^ (t + 2)) = ((2 ^ (t + 2) : Nat) : Int) := by push_cast; rfl
    rw [e, Nat.pow_succ, Nat.pow_succ] at hc
    omega
theorem place_low {N : Nat → Int} {i k : Nat} {left top laid r : Int} {n : Nat} (h : Step N i k left top laid) (h0 : left ≠ 0) (hn : n = 24) (hL : BisL (kvP (rangeKs 0 24)) (3 * if left < 0 then -left else left) 0 (n : Int) r) : 2 ≤ r ∧ r ≤ 22 := by
  obtain ⟨t, rfl, ht, _, _⟩ := place_spec h h0 hn hL
  omega
/-- v is the term taken off -/
noncomputable def Taken (left v r : Int) : Prop := ∃ t : Nat, r = (t : Int) + 2 ∧ t ≤ 20 ∧ 2 * 2 ^ t < 3 * left.natAbs ∧ 3 * left.natAbs < 4 * 2 ^ t ∧ v = sg left * ((2 ^ t : Nat) : Int)
theorem taken_of {N : Nat → Int} {i k : Nat} {left top laid r v : Int} {n : Nat} (h : Step N i k left top laid) (h0 : left ≠ 0) (hn : n = 24) (hL : BisL (kvP (rangeKs 0 24)) (3 * if left < 0 then -left else left) 0 (n : Int) r)
    (hv : v = if left < 0 then -(2 : Int) ^ (r - 2).toNat else (2 : Int) ^ (r - 2).toNat) : Taken left v r := by
  obtain ⟨t, rfl, ht, h1, h2⟩ := place_spec h h0 hn hL
  refine ⟨t, rfl, ht, h1, h2, ?_⟩
  rw [hv]
  have e : ((t : Int) + 2 - 2).toNat = t := by omega
  have e2 : ((2 : Int) ^ t) = ((2 ^ t : Nat) : Int) := by push_cast; rfl
  rw [e, e2]
  unfold sg
  split <;> omega
theorem step_next {N : Nat → Int} {i k : Nat} {left top laid r v : Int} (h : Step N i k left top laid) (hb : (N i).natAbs ≤ 1048576) (hT : Taken left v r) : Step N i (k + 1) (left - v) (r - 2) (laid + 1) := by
  obtain ⟨t, rfl, ht, h1, h2, rfl⟩ := hT
  obtain ⟨s1, s2, s3, s4, s5⟩ := h
  have h3 := (dig_step0 h1 h2).2
  have hw := wt_step h1 h2
  have htm := (term_step (by omega) h1 h2).2.2
  have hP20 : 2 ^ t ≤ 2 ^ 20 := Nat.pow_le_pow_right (by decide) ht
  refine ⟨.inr ⟨by omega, by omega, ?_⟩, ?_, by omega, ?_, fun v hv => s5 v ((htm v).mpr (.inr hv))⟩
  · have e : ((t : Int) + 2 - 2).toNat = t := by omega
    have e2 : ((2 : Int) ^ t) = ((2 ^ t : Nat) : Int) := by push_cast; rfl
    rw [e, e2]
    omega
  · have hlt : 2 ^ (t + 1 + 2 * k) < 2 ^ 22 := by
      have e : 2 ^ (t + 1 + 2 * k) = 2 * 2 ^ t * 4 ^ k := by
        rw [Nat.pow_add, Nat.pow_succ, Nat.pow_mul, Nat.mul_comm (2 ^ t) 2]
      rw [e]
      exact Nat.lt_of_le_of_lt (Nat.mul_le_mul_right _ (Nat.le_of_lt h1)) s2
    have hexp : t + 1 + 2 * k < 22 := (Nat.pow_lt_pow_iff_right (by decide)).mp hlt
    have hle : 2 ^ t * 4 ^ (k + 1) ≤ 2 ^ 22 := by
      have e : 2 ^ t * 4 ^ (k + 1) = 2 ^ (t + 2 * (k + 1)) := by
        rw [Nat.pow_add 2 t, Nat.pow_mul]
      rw [e]
      exact Nat.pow_le_pow_right (by decide) (by omega)
    exact Nat.lt_of_lt_of_le (Nat.mul_lt_mul_of_pos_right h3 (Nat.pow_pos (by decide))) hle
  · rw [← s4, fewest_wt (by omega), fewest_wt (by omega), hw]
    omega
/-- a row that takes the term -/
theorem mem_ins {α : Type} {l : List α} {x y : α} {n : Nat} : y ∈ l.take n ++ x :: l.drop n ↔ y = x ∨ y ∈ l := by
  rw [List.mem_append, List.mem_cons]
  have : y ∈ l ↔ y ∈ l.take n ∨ y ∈ l.drop n := by rw [← List.mem_append, List.take_append_drop]
  rw [this]
  constructor
  · rintro (h | h | h)
    · exact .inr (.inl h)
    · exact .inl h
    · exact .inr (.inr h)
  · rintro (h | h | h)
    · exact .inr (.inl h)
    · exact .inl h
    · exact .inr (.inr h)
theorem pw_ins {α : Type} {R : α → α → Prop} {l : List α} {x : α} {n : Nat} (h : l.Pairwise R) (h1 : ∀ y ∈ l.take n, R y x) (h2 : ∀ y ∈ l.drop n, R x y) : (l.take n ++ x :: l.drop n).Pairwise R := by
  have h' : (l.take n ++ l.drop n).Pairwise R := by rw [List.take_append_drop]; exact h
  obtain ⟨a, b, c⟩ := List.pairwise_append.mp h'
  refine List.pairwise_append.mpr ⟨a, List.pairwise_cons.mpr ⟨h2, b⟩, fun y hy z hz => ?_⟩
  rcases List.mem_cons.mp hz with rfl | hz
  · exact h1 y hy
  · exact c y hy z hz
theorem mem_take_get {α : Type} {l : List α} {n : Nat} {y : α} (h : y ∈ l.take n) : ∃ j, j < n ∧ l[j]? = some y := by
  obtain ⟨j, hj⟩ := List.mem_iff_getElem?.mp h
  rw [List.getElem?_take] at hj
  split at hj
  · exact ⟨j, by assumption, hj⟩
  · cases hj
theorem mem_drop_get {α : Type} {l : List α} {n : Nat} {y : α} (h : y ∈ l.drop n) : ∃ j, n ≤ j ∧ l[j]? = some y := by
  obtain ⟨j, hj⟩ := List.mem_iff_getElem?.mp h
  rw [List.getElem?_drop] at hj
  exact ⟨n + j, Nat.le_add_right .., hj⟩
theorem kvS_at {ts : List (Int × Int)} {j : Nat} {y : Int × Int} (h : ts[j]? = some y) : kvS ts (j : Int) = (y.1.natAbs : Int) := by
  unfold kvS
  rw [Int.toNat_natCast, List.getD_eq_getElem?_getD, h]
  rfl
theorem row_lt {lt : Int × Int → Int × Int → Prop} {N : Nat → Int} {i k : Nat} {left v r : Int} {ts : List (Int × Int)} (hr : RowOk lt N i k left ts) (hsub : ∀ v, Term left v → Term (N i) v) (hT : Taken left v r) {y : Int × Int} (hy : y ∈ ts) (e : y.1.natAbs = v.natAbs) : y.2 < (i : Int) := by
  obtain ⟨t, rfl, ht, h1, h2, rfl⟩ := hT
  have hts := term_step (by omega : t < 24) h1 h2
  obtain ⟨y1, y2⟩ := y
  rcases (hr.2.2 y1 y2).mp hy with ⟨j, rfl, hj, _⟩ | ⟨rfl, h3, h4⟩
  · show (j : Int) < i; omega
  · exfalso
    have := term_same h3 (hsub _ hts.1) e
    rw [this] at h4
    exact h4 hts.1
theorem row_mem {lt : Int × Int → Int × Int → Prop} {N : Nat → Int} {i k : Nat} {left v r : Int} {ts : List (Int × Int)} {n : Nat} (hr : RowOk lt N i k left ts) (hsub : ∀ v, Term left v → Term (N i) v) (hT : Taken left v r) (u w : Int) :
    (u, w) ∈ ts.take n ++ (v, (i : Int)) :: ts.drop n ↔ (∃ j : Nat, w = j ∧ j < i ∧ Term (N j) u) ∨ (w = (i : Int) ∧ Term (N i) u ∧ ¬ Term (left - v) u) := by
  obtain ⟨t, rfl, ht, h1, h2, rfl⟩ := hT
  obtain ⟨ha, hb, hc⟩ := term_step (by omega : t < 24) h1 h2
  rw [mem_ins, hr.2.2 u w]
  constructor
  · rintro (h | h | ⟨h3, h4, h5⟩)
    · cases h
      exact .inr ⟨rfl, hsub _ ha, hb⟩
    · exact .inl h
    · exact .inr ⟨h3, h4, fun h6 => h5 ((hc u).mpr (.inr h6))⟩
  · rintro (h | ⟨h3, h4, h5⟩)
    · exact .inr (.inl h)
    · by_cases e : u = sg left * ((2 ^ t : Nat) : Int)
      · exact .inl (by rw [e, h3])
      · refine .inr (.inr ⟨h3, h4, fun h6 => ?_⟩)
        rcases (hc u).mp h6 with h7 | h7
        · exact e h7
        · exact h5 h7
theorem row_insA {N : Nat → Int} {i k : Nat} {left v r q : Int} {ts : List (Int × Int)} {n : Nat} (hr : RowOk ltA N i k left ts) (hsub : ∀ v, Term left v → Term (N i) v) (hT : Taken left v r) (hn : n = ts.length) (hB : BisL (kvS ts) (v.natAbs : Int) 0 (n : Int) q) :
    RowOk ltA N i (k + 1) (left - v) (ts.take q.toNat ++ (v, (i : Int)) :: ts.drop q.toNat) := by
  obtain ⟨b1, b2, b3, b4⟩ := hB
  refine ⟨pw_ins hr.1 (fun y hy => ?_) (fun y hy => ?_), ?_, row_mem hr hsub hT⟩
  · obtain ⟨j, hj, e⟩ := mem_take_get hy
    have := b3 (j : Int) (by omega) (by omega)
    rw [kvS_at e] at this
    exact .inl (by show y.1.natAbs < v.natAbs; omega)
  · obtain ⟨j, hj, e⟩ := mem_drop_get hy
    have hlen : j < ts.length := by
      rcases Nat.lt_or_ge j ts.length with h | h
      · exact h
      · rw [List.getElem?_eq_none h] at e; cases e
    have := b4 (j : Int) (by omega) (by omega)
    rw [kvS_at e] at this
    rcases Nat.eq_or_lt_of_le (show v.natAbs ≤ y.1.natAbs by omega) with h | h
    · exact .inr ⟨h, row_lt hr hsub hT (List.mem_of_getElem? e) h.symm⟩
    · exact .inl h
  · have := hr.2.1
    simp only [List.length_append, List.length_take, List.length_cons, List.length_drop]
    omega
theorem row_insB {N : Nat → Int} {i k : Nat} {left v r q : Int} {ts : List (Int × Int)} {n : Nat} (hr : RowOk ltB N i k left ts) (hsub : ∀ v, Term left v → Term (N i) v) (hT : Taken left v r) (hn : n = ts.length) (hB : BisR (kvS ts) (v.natAbs : Int) 0 (n : Int) q) :
    RowOk ltB N i (k + 1) (left - v) (ts.take q.toNat ++ (v, (i : Int)) :: ts.drop q.toNat) := by
  obtain ⟨b1, b2, b3, b4⟩ := hB
  refine ⟨pw_ins hr.1 (fun y hy => ?_) (fun y hy => ?_), ?_, row_mem hr hsub hT⟩
  · obtain ⟨j, hj, e⟩ := mem_take_get hy
    have := b3 (j : Int) (by omega) (by omega)
    rw [kvS_at e] at this
    rcases Nat.eq_or_lt_of_le (show y.1.natAbs ≤ v.natAbs by omega) with h | h
    · exact .inr ⟨h, row_lt hr hsub hT (List.mem_of_getElem? e) h⟩
    · exact .inl h
  · obtain ⟨j, hj, e⟩ := mem_drop_get hy
    have hlen : j < ts.length := by
      rcases Nat.lt_or_ge j ts.length with h | h
      · exact h
      · rw [List.getElem?_eq_none h] at e; cases e
    have := b4 (j : Int) (by omega) (by omega)
    rw [kvS_at e] at this
    exact .inl (by show v.natAbs < y.1.natAbs; omega)
  · have := hr.2.1
    simp only [List.length_append, List.length_take, List.length_cons, List.length_drop]
    omega
/-- the ledger's row with one more -/
theorem rowIs_ins {news : List (Addr × Obj)} {vs : List Value} {ts : List (Int × Int)} {xa : Addr} {v i : Int} {u₁ u₂ : Tok} {n r : Nat} (h : RowIs news vs ts) (hm : (xa, tupO [.int v u₁, .int i u₂] n) ∈ news) : RowIs news (vs.take r ++ .ref xa :: vs.drop r) (ts.take r ++ (v, i) :: ts.drop r) := by
  obtain ⟨hl, h⟩ := h
  refine ⟨by simp only [List.length_append, List.length_take, List.length_cons, List.length_drop, hl], fun j t e => ?_⟩
  rcases Nat.lt_or_ge j (ts.take r).length with hj | hj
  · rw [List.getElem?_append_left hj, List.getElem?_take] at e
    have hj' : j < r := Nat.lt_of_lt_of_le hj (by rw [List.length_take]; exact Nat.min_le_left _ _)
    rw [if_pos hj'] at e
    rw [List.getElem?_append_left (by rw [List.length_take, hl]; rw [List.length_take] at hj; exact hj), List.getElem?_take, if_pos hj']
    exact h j t e
  · rw [List.getElem?_append_right hj] at e
    rw [List.getElem?_append_right (by rw [List.length_take, hl]; rw [List.length_take] at hj; exact hj)]
    have e1 : (vs.take r).length = (ts.take r).length := by rw [List.length_take, List.length_take, hl]
    rw [e1]
    cases hd : j - (ts.take r).length with
    | zero =>
      rw [hd] at e
      simp only [List.getElem?_cons_zero, Option.some.injEq] at e ⊢
      subst e
      exact ⟨xa, n, u₁, u₂, rfl, hm⟩
    | succ p =>
      rw [hd] at e
      simp only [List.getElem?_cons_succ] at e ⊢
      rw [List.getElem?_drop] at e ⊢
      exact h _ t e
theorem term_bnd {r : Int} (h : 2 ≤ r ∧ r ≤ 22) : ((2 : Int) ^ (r - 2).toNat).natAbs ≤ 1048576 ∧ (-(2 : Int) ^ (r - 2).toNat).natAbs ≤ 1048576 := by
  have h1 : (r - 2).toNat ≤ 20 := by omega
  have h2 : (2 : Nat) ^ (r - 2).toNat ≤ 2 ^ 20 := Nat.pow_le_pow_right (by decide) h1
  rw [Int.natAbs_neg, Int.natAbs_pow]
  exact ⟨h2, h2⟩
theorem row_mono {lt : Int × Int → Int × Int → Prop} (hlt : ∀ a b, lt a b → a.1.natAbs ≤ b.1.natAbs) {ts : List (Int × Int)} (h : ts.Pairwise lt) {n : Nat} (hn : n = ts.length) : Mono (kvS ts) n := by
  intro i j h0 hij hj
  obtain ⟨a, rfl⟩ := Int.eq_ofNat_of_zero_le h0
  obtain ⟨b, rfl⟩ := Int.eq_ofNat_of_zero_le (Int.le_trans h0 hij)
  have ha : a < ts.length := by omega
  have hb : b < ts.length := by omega
  unfold kvS
  simp only [Int.ofNat_eq_natCast, Int.toNat_natCast, List.getD_eq_getElem?_getD, List.getElem?_eq_getElem ha, List.getElem?_eq_getElem hb, Option.getD_some]
  rcases Nat.lt_or_ge a b with hab | hab
  · have := hlt _ _ (List.pairwise_iff_getElem.mp h a b ha hb hab)
    omega
  · have : a = b := by omega
    subst this
    omega
theorem ltA_le (a b : Int × Int) (h : ltA a b) : a.1.natAbs ≤ b.1.natAbs := by unfold ltA at h; omega
theorem ltB_le (a b : Int × Int) (h : ltB a b) : a.1.natAbs ≤ b.1.natAbs := by unfold ltB at h; omega
theorem off_facts2 {I cw aS aD aO aR aP aC aB c7 c6 c4 c3 c2 c1 I2 : Addr} {x0 x1 x2 x3 x4 x5 x6 x7 x8 x9 x10 x11 x12 x13 x14 : Obj} {tl : List (Addr × Obj)}
    (off : ∀ p ∈ (I, x0) :: (cw, x14) :: (aS, x1) :: (aD, x2) :: (aO, x3) :: (aR, x4) :: (aP, x5) :: (aC, x6) :: (aB, x7) :: (c7, x8) :: (c6, x9) :: (c4, x10) :: (c3, x11) :: (c2, x12) :: (c1, x13) :: tl, p.1 ≠ I2) :
    (∀ p ∈ tl, p.1 ≠ I2) ∧ @Ne Nat I I2 ∧ @Ne Nat cw I2 ∧ @Ne Nat aS I2 ∧ @Ne Nat aD I2 ∧ @Ne Nat aO I2 ∧ @Ne Nat aR I2 ∧ @Ne Nat aP I2 ∧ True := by
  simp only [List.forall_mem_cons] at off
  obtain ⟨h0, h00, h1, h2, h3, h4, h5, h6, h7, h8, h9, h10, h11, h12, h13, ht⟩ := off
  exact ⟨ht, h0, h00, h1, h2, h3, h4, h5, trivial⟩
end Mine
end
section
open PySem PySem.W PySem.Calls PyProof.Rows
set_option Elab.async false
set_option maxRecDepth 100000
set_option linter.unusedVariables false
namespace Mine
theorem loadX_L {M : Model} {A : Around} {E : Value → Shared → Prop} {s : Shared} {h₀ : Heap} {L a : Addr} {m : PySem.Str → Option Value} {cn : PySem.Str} {cs : Scope} {ccd : Value} {cl : List (PySem.Str × Addr)} {x : PySem.Str} {v : Value} {Q : Value → Shared → Prop}
    (F : Fr h₀ L s.heap m) (hv : m x = some v) (h : Q v s) (hk : cs.kind = .function := by rfl) (hx : (envX cn cs L a ccd cl).kindOf x = some .local := by rfl) :
    wpAny M A (loadName (envX cn cs L a ccd cl) x) Q E s := wpAny_loadName_local hk hx F.ns hv h
abbrev Abv (d I2 I cw aS aD aO aR aP D aB L : Addr) (R : Prop) : Prop :=
  @LT.lt Nat _ I2 d ∧ @LT.lt Nat _ I d ∧ @LT.lt Nat _ cw d ∧ @LT.lt Nat _ aS d ∧ @LT.lt Nat _ aD d ∧ @LT.lt Nat _ aO d ∧ @LT.lt Nat _ aR d ∧ @LT.lt Nat _ aP d ∧ @LT.lt Nat _ D d ∧ @LT.lt Nat _ aB d ∧ @LT.lt Nat _ (L + 1 + 1 + 1 + 1 + 1 + 1 + 1) d ∧ @LT.lt Nat _ (L + 1 + 1 + 1 + 1 + 1 + 1) d ∧ R
theorem f4 {d1 d2 d3 d4 a : Addr} {x1 x2 x3 x4 : Obj} {tl : List (Addr × Obj)} (h1 : @LT.lt Nat _ a d1) (h2 : @LT.lt Nat _ a d2) (h3 : @LT.lt Nat _ a d3) (h4 : @LT.lt Nat _ a d4) (h : ∀ p ∈ tl, p.1 ≠ a) : ∀ p ∈ (d1, x1) :: (d2, x2) :: (d3, x3) :: (d4, x4) :: tl, p.1 ≠ a :=
  List.forall_mem_cons.mpr ⟨Ne.symm (Nat.ne_of_lt h1), List.forall_mem_cons.mpr ⟨Ne.symm (Nat.ne_of_lt h2), List.forall_mem_cons.mpr ⟨Ne.symm (Nat.ne_of_lt h3), List.forall_mem_cons.mpr ⟨Ne.symm (Nat.ne_of_lt h4), h⟩⟩⟩⟩
theorem turn_end {N : Nat → Int} {h₀ h : Heap} {tk : Nat} {s₀ : Shared} {L aS aD aO aR aP aC aB I I2 cw d1 d2 d3 d4 : Addr} {oI oI2 oc oB o1 o2 o3 o4 o6 o7 x3 x4 y1 y2 y3 y4 : Obj} {pv ys sv dv ov rv : List Value} {pn n1 n2 n3 n4 i k q1 q2 : Nat} {v7 v6 : Option Value} {rts ots : List (Int × Int)} {tl : List (Addr × Obj)}
    {m : PySem.Str → Option Value} {t1 t2 t3 t4 t5 u1 u2 u3 u4 : Tok} {left top laid v r rA rB : Int} {R1 R2 R3 R4 : Prop}
    (F : Fr h₀ L h m)
    (e1 : m (PySem.Str.ofString "left") = some (.int (left - v) t1)) (e2 : m (PySem.Str.ofString "top") = some (.int (r - 2) t2)) (e3 : m (PySem.Str.ofString "laid") = some (.int (laid + 1) t3))
    (e4 : m (PySem.Str.ofString "host") = some (.str (Txt.item (PySem.Str.ofString "ab") (i : Int)) t4)) (e5 : m (PySem.Str.ofString "number") = some (.int (N i) t5))
    (e6 : m (PySem.Str.ofString "cells") = some (.ref aC)) (e7 : m (PySem.Str.ofString "row") = some (.ref aR)) (e8 : m (PySem.Str.ofString "other") = some (.ref aO)) (e9 : m (PySem.Str.ofString "sizes") = some (.ref aS))
    (Nn : News h₀ L h ((d1, tupO [.int v u1, .int (i : Int) u2] q1) :: (d2, tupO [.int v u3, .int (i : Int) u4] q2) :: (d3, x3) :: (d4, x4) :: (I2, oI2) :: (I, oI) :: (cw, oc) :: (aS, listOf sv.toArray n4) :: (aD, listOf dv.toArray n3) ::
      (aO, listOf (ov.take rB.toNat ++ .ref d1 :: ov.drop rB.toNat).toArray n2) :: (aR, listOf (rv.take rA.toNat ++ .ref d2 :: rv.drop rA.toNat).toArray n1) :: (aP, listOf pv.toArray pn) :: (aC, LCg.lst ys) :: (aB, oB) ::
      (L + 1 + 1 + 1 + 1 + 1 + 1 + 1, o7) :: (L + 1 + 1 + 1 + 1 + 1 + 1, o6) :: (L + 1 + 1 + 1 + 1, o4) :: (L + 1 + 1 + 1, o3) :: (L + 1 + 1, o2) :: (L + 1, o1) :: tl))
    (l1 : @LT.lt Nat _ d2 d1 ∧ @LT.lt Nat _ d3 d1 ∧ @LT.lt Nat _ d4 d1 ∧ Abv d1 I2 I cw aS aD aO aR aP aC aB L R1) (l2 : @LT.lt Nat _ d3 d2 ∧ @LT.lt Nat _ d4 d2 ∧ Abv d2 I2 I cw aS aD aO aR aP aC aB L R2)
    (l3 : @LT.lt Nat _ d4 d3 ∧ Abv d3 I2 I cw aS aD aO aR aP aC aB L R3) (l4 : Abv d4 I2 I cw aS aD aO aR aP aC aB L R4)
    (off : ∀ p ∈ (I, oI) :: (cw, oc) :: (aS, y1) :: (aD, y2) :: (aO, y3) :: (aR, y4) :: (aP, listOf pv.toArray pn) :: (aC, LCg.lst ys) :: (aB, oB) ::
      (L + 1 + 1 + 1 + 1 + 1 + 1 + 1, o7) :: (L + 1 + 1 + 1 + 1 + 1 + 1, o6) :: (L + 1 + 1 + 1 + 1, o4) :: (L + 1 + 1 + 1, o3) :: (L + 1 + 1, o2) :: (L + 1, o1) :: tl, p.1 ≠ I2)
    (h7 : o7.data = .cell v7) (h6 : o6.data = .cell v6) (hr1 : RowIs tl rv rts) (hr2 : RowIs tl ov ots) (hr3 : RowOk ltA N i k left rts) (hr4 : RowOk ltB N i k left ots) (hst : Step N i k left top laid) (hb : (N i).natAbs ≤ 1048576) (hT : Taken left v r)
    (hA : BisL (kvS rts) (v.natAbs : Int) 0 rv.length rA) (hB : BisR (kvS ots) (v.natAbs : Int) 0 ov.length rB) (hdu : DueIs N tl dv i)
    (hf : Far tl aS aD aO aR L) (hI : ∀ p ∈ tl, p.1 ≠ I) (hw : ∀ p ∈ tl, p.1 ≠ cw) :
    TurnEnd h₀ L s₀ I2 oI2 (IJ N L aS aD aO aR aP aC aB I cw oI oc oB o1 o2 o3 o4 pv pn ys sv n4 dv n3 i (k + 1)) .next { s₀ with heap := h, toks := tk } := by
  have sub : ∀ p ∈ tl, p ∈ (d1, tupO [.int v u1, .int (i : Int) u2] q1) :: (d2, tupO [.int v u3, .int (i : Int) u4] q2) :: (d3, x3) :: (d4, x4) :: tl := fun p hp => List.mem_cons_of_mem _ (List.mem_cons_of_mem _ (List.mem_cons_of_mem _ (List.mem_cons_of_mem _ hp)))
  have N' := news_mid (A := [(d1, tupO [.int v u1, .int (i : Int) u2] q1), (d2, tupO [.int v u3, .int (i : Int) u4] q2), (d3, x3), (d4, x4)]) (M := [(I2, oI2), (I, oI), (cw, oc), (aS, listOf sv.toArray n4), (aD, listOf dv.toArray n3),
      (aO, listOf (ov.take rB.toNat ++ .ref d1 :: ov.drop rB.toNat).toArray n2), (aR, listOf (rv.take rA.toNat ++ .ref d2 :: rv.drop rA.toNat).toArray n1), (aP, listOf pv.toArray pn), (aC, LCg.lst ys), (aB, oB),
      (L + 1 + 1 + 1 + 1 + 1 + 1 + 1, o7), (L + 1 + 1 + 1 + 1 + 1 + 1, o6), (L + 1 + 1 + 1 + 1, o4), (L + 1 + 1 + 1, o3), (L + 1 + 1, o2), (L + 1, o1)]) (T := tl) Nn
  refine ⟨rfl, h, tk, m, _, rfl, F, N', ?_, left - v, r - 2, laid + 1, t1, t2, t3, t4, t5, _, _, n1, n2, o7, o6, v7, v6, rts.take rA.toNat ++ (v, (i : Int)) :: rts.drop rA.toNat, ots.take rB.toNat ++ (v, (i : Int)) :: ots.drop rB.toNat, _,
    e1, e2, e3, e4, e5, e6, e7, e8, e9, rfl, h7, h6, rowIs_ins (row_more hr1 sub) (.tail _ (.head _)), rowIs_ins (row_more hr2 sub) (.head _), row_insA hr3 hst.2.2.2.2 hT hr1.1 hA, row_insB hr4 hst.2.2.2.2 hT hr2.1 hB, step_next hst hb hT, due_more hdu sub,
    ⟨f4 l1.2.2.2.2.2.2.1 l2.2.2.2.2.2.1 l3.2.2.2.2.1 l4.2.2.2.1 hf.1, f4 l1.2.2.2.2.2.2.2.1 l2.2.2.2.2.2.2.1 l3.2.2.2.2.2.1 l4.2.2.2.2.1 hf.2.1, f4 l1.2.2.2.2.2.2.2.2.1 l2.2.2.2.2.2.2.2.1 l3.2.2.2.2.2.2.1 l4.2.2.2.2.2.1 hf.2.2.1, f4 l1.2.2.2.2.2.2.2.2.2.1 l2.2.2.2.2.2.2.2.2.1 l3.2.2.2.2.2.2.2.1 l4.2.2.2.2.2.2.1 hf.2.2.2.1, f4 l1.2.2.2.2.2.2.2.2.2.2.2.2.2.2.1 l2.2.2.2.2.2.2.2.2.2.2.2.2.2.1 l3.2.2.2.2.2.2.2.2.2.2.2.2.1 l4.2.2.2.2.2.2.2.2.2.2.2.1 hf.2.2.2.2.1, f4 l1.2.2.2.2.2.2.2.2.2.2.2.2.2.1 l2.2.2.2.2.2.2.2.2.2.2.2.2.1 l3.2.2.2.2.2.2.2.2.2.2.2.1 l4.2.2.2.2.2.2.2.2.2.2.1 hf.2.2.2.2.2⟩, f4 l1.2.2.2.2.1 l2.2.2.2.1 l3.2.2.1 l4.2.1 hI, f4 l1.2.2.2.2.2.1 l2.2.2.2.2.1 l3.2.2.2.1 l4.2.2.1 hw⟩
  simp only [List.append_eq, List.cons_append, List.nil_append, List.forall_mem_cons] at off ⊢
  exact ⟨off.1, off.2.1, off.2.2.1, off.2.2.2.1, off.2.2.2.2.1, off.2.2.2.2.2.1, off.2.2.2.2.2.2.1, off.2.2.2.2.2.2.2.1, off.2.2.2.2.2.2.2.2.1, off.2.2.2.2.2.2.2.2.2.1, off.2.2.2.2.2.2.2.2.2.2.1, off.2.2.2.2.2.2.2.2.2.2.2.1, off.2.2.2.2.2.2.2.2.2.2.2.2.1, off.2.2.2.2.2.2.2.2.2.2.2.2.2.1, off.2.2.2.2.2.2.2.2.2.2.2.2.2.2.1, Ne.symm (Nat.ne_of_lt l1.2.2.2.1), Ne.symm (Nat.ne_of_lt l2.2.2.1), Ne.symm (Nat.ne_of_lt l3.2.1), Ne.symm (Nat.ne_of_lt l4.1), off.2.2.2.2.2.2.2.2.2.2.2.2.2.2.2⟩
theorem rest_step {N : Nat → Int} {i : Nat} {left top laid : Int} (h : Step N i 11 left top laid) : left = 0 ∧ laid = fewest (N i).natAbs := by
  obtain ⟨_, h2, _, h4, _⟩ := h
  have e : (4 : Nat) ^ 11 = 2 ^ 22 := by decide
  rw [e] at h2
  have h0 : left.natAbs = 0 := by omega
  refine ⟨by omega, ?_⟩
  rw [h0] at h4
  have : fewest ((0 : Nat) : Int) = 0 := by rw [fewest_wt (by decide), wt_0]; rfl
  rw [this] at h4
  omega
theorem Fr_pins0 {h₀ h : Heap} {L : Addr} {m : PySem.Str → Option Value} (F : Fr h₀ L h m) (l : List (PySem.Str × Value)) (hl : ∀ q ∈ l, m q.1 = some q.2) : Fr h₀ L h (pinned l m) := by
  rw [pinned_eq l m hl]; exact F
theorem abs_if (x : Int) : (if x < 0 then -x else x) = (x.natAbs : Int) := by split <;> omega
end Mine
end
section
open PySem PySem.W PySem.Calls PyProof.Rows
set_option Elab.async false
set_option maxRecDepth 100000
set_option linter.unusedVariables false
namespace Mine
theorem bitN_bnd (n k : Nat) : 0 ≤ bitN n k ∧ bitN n k ≤ 1 := by unfold bitN; omega
noncomputable def tmsOf (x i : Nat) : List Int := (List.range i).map fun k => (bitN (3 * x) (k + 1) - bitN x (k + 1)) * 2 ^ k
theorem tms_len (x i : Nat) : (tmsOf x i).length = i := by simp [tmsOf]
theorem tms_snoc {x i : Nat} {ys : List Value} {t : Tok} (h : IntsAre ys (tmsOf x i)) :
    IntsAre (ys ++ [.int ((bitN (3 * x) (i + 1) - bitN x (i + 1)) * 2 ^ ((0 : Int) + (i : Int)).toNat) t]) (tmsOf x (i + 1)) := by
  unfold tmsOf
  rw [List.range_succ, List.map_append]
  have e : ((0 : Int) + (i : Int)).toNat = i := by omega
  rw [e]
  exact IntsAre.append h (IntsAre.cons _ _ IntsAre.nil)
theorem bits_at {vs : List Value} {n m : Nat} (h : IntsAre vs ((List.range m).map (bitN n))) {j : Nat} (hj : j < m) : ∃ t, vs[j]? = some (.int (bitN n j) t) := by
  refine ints_some h ?_
  rw [List.getElem?_map, List.getElem?_range hj]; rfl
/-- what the if leaves: the terms, with their sign -/
noncomputable def IfEnd (h₀ : Heap) (L : Addr) (m : PySem.Str → Option Value) (s₀ : Shared) (base : List (Addr × Obj)) (ts : List Int) (f : Flow) (s' : Shared) : Prop :=
  f = .next ∧ ∃ h tk DT us, s' = { s₀ with heap := h, toks := tk } ∧ Fr h₀ L h (fun y => if y = PySem.Str.ofString "terms" then some (.ref DT) else m y) ∧ News h₀ L h ((DT, LCg.lst us) :: base) ∧ IntsAre us ts ∧ ∀ p ∈ base, p.1 ≠ DT
theorem if_cut {M : Model} {A : Around} {E : Value → Shared → Prop} {s s₀ : Shared} {h₀ h : Heap} {L D : Addr} {o : Obj} {m : PySem.Str → Option Value} {base : List (Addr × Obj)} {ts : List Int} {t : Sem Flow} {Q : Flow → Shared → Prop} (F : Fr h₀ L h m) (N : News h₀ L h ((D, o) :: base))
    (h1 : wpAny M A t (IfEnd h₀ L m s₀ base ts) E s)
    (h2 : ∀ h tk DT us, Fr h₀ L h (fun y => if y = PySem.Str.ofString "terms" then some (.ref DT) else m y) → News h₀ L h ((DT, LCg.lst us) :: base) → IntsAre us ts → (∀ p ∈ base, p.1 ≠ DT) → Q .next { s₀ with heap := h, toks := tk }) : wpAny M A t Q E s := by
  refine wpAny_mono h1 (fun f s' h => ?_) fun _ _ e => e
  obtain ⟨rfl, h, tk, DT, us, rfl, F, N, hu, hd⟩ := h
  exact h2 h tk DT us F N hu hd
noncomputable def ngsOf (x i : Nat) : List Int := (List.range i).map fun k => -((bitN (3 * x) (k + 1) - bitN x (k + 1)) * 2 ^ k)
theorem ngs_len (x i : Nat) : (ngsOf x i).length = i := by simp [ngsOf]
theorem ngs_snoc {x i : Nat} {ys : List Value} {t : Tok} (h : IntsAre ys (ngsOf x i)) :
    IntsAre (ys ++ [.int (-((bitN (3 * x) (i + 1) - bitN x (i + 1)) * 2 ^ i)) t]) (ngsOf x (i + 1)) := by
  unfold ngsOf
  rw [List.range_succ, List.map_append]
  exact IntsAre.append h (IntsAre.cons _ _ IntsAre.nil)
theorem tms_at {vs : List Value} {x m : Nat} (h : IntsAre vs (tmsOf x m)) {j : Nat} {v : Value} (hj : vs.toArray[j]? = some v) (hm : j < m) : ∃ t, v = .int ((bitN (3 * x) (j + 1) - bitN x (j + 1)) * 2 ^ j) t := by
  obtain ⟨t, ht⟩ := ints_some h (i := j) (n := (bitN (3 * x) (j + 1) - bitN x (j + 1)) * 2 ^ j) (by
    unfold tmsOf
    rw [List.getElem?_map, List.getElem?_range hm]; rfl)
  refine ⟨t, ?_⟩
  rw [List.getElem?_toArray, ht] at hj
  cases hj; rfl
theorem tms_pos {n : Int} (h : ¬ n < 0) : tmsOf n.natAbs 24 = (List.range 24).map (fun k => dig n k * 2 ^ k) := by
  unfold tmsOf dig
  rw [if_neg h]
  refine List.map_congr_left fun k _ => ?_
  rw [Int.one_mul]
theorem ngs_neg {n : Int} (h : n < 0) : ngsOf n.natAbs 24 = (List.range 24).map (fun k => dig n k * 2 ^ k) := by
  unfold ngsOf dig
  rw [if_pos h]
  refine List.map_congr_left fun k _ => ?_
  rw [Int.neg_mul, Int.one_mul, Int.neg_mul]
theorem off1_mem {D : Addr} : ∀ {l : List (Addr × Obj)}, LCg.Off1 D l → ∀ p ∈ l, p.1 ≠ D
  | [], _, _, h => (nomatch h)
  | q :: l, h, p, hp => by
    rcases List.mem_cons.mp hp with rfl | hp
    · exact h.1
    · exact off1_mem h.2 p hp
/-- tuples (f k, c) that a comprehension has made -/
noncomputable def TupJ (base : List (Addr × Obj)) (c : Int) (f : Nat → Int) (j : Nat) (ys : List Value) (nw : List (Addr × Obj)) : Prop :=
  ∃ tups, nw = tups ++ base ∧ RowIs tups ys ((List.range j).map fun k => (f k, c)) ∧ ∀ p ∈ tups, ∀ q ∈ base, @LT.lt Nat _ q.1 p.1
theorem tupJ_0 (base : List (Addr × Obj)) (c : Int) (f : Nat → Int) : TupJ base c f 0 [] base := ⟨[], rfl, ⟨rfl, fun _ _ h => by simp at h⟩, fun _ h => (nomatch h)⟩
theorem tupJ_len {base nw : List (Addr × Obj)} {c : Int} {f : Nat → Int} {j : Nat} {ys : List Value} (h : TupJ base c f j ys nw) : ys.length = j := by
  obtain ⟨tups, _, ⟨h1, _⟩, _⟩ := h
  rw [h1]; simp
theorem tupJ_more {base tups : List (Addr × Obj)} {c : Int} {f : Nat → Int} {j n : Nat} {ys : List Value} {d : Addr} {u1 u2 : Tok} (hr : RowIs tups ys ((List.range j).map fun k => (f k, c))) (hb : ∀ p ∈ tups, ∀ q ∈ base, @LT.lt Nat _ q.1 p.1)
    (hd : ∀ q ∈ tups ++ base, @LT.lt Nat _ q.1 d) : TupJ base c f (j + 1) (ys ++ [.ref d]) ((d, tupO [.int (f j) u1, .int c u2] n) :: (tups ++ base)) := by
  refine ⟨(d, tupO [.int (f j) u1, .int c u2] n) :: tups, rfl, ?_, ?_⟩
  · have h2 := row_more hr (news' := (d, tupO [.int (f j) u1, .int c u2] n) :: tups) (fun p hp => .tail _ hp)
    obtain ⟨h1, h3⟩ := h2
    have hl : ys.length = j := by rw [h1]; simp
    refine ⟨by simp [h1], fun i t e => ?_⟩
    rw [List.range_succ, List.map_append] at e
    rcases Nat.lt_or_ge i j with hi | hi
    · rw [List.getElem?_append_left (by simpa using hi)] at e
      rw [List.getElem?_append_left (by omega)]
      exact h3 i t e
    · rw [List.getElem?_append_right (by simpa using hi)] at e
      rw [List.getElem?_append_right (by omega), hl]
      simp only [List.length_map, List.length_range, List.map_cons, List.map_nil] at e
      cases hk : i - j with
      | zero =>
        rw [hk] at e
        simp only [List.getElem?_cons_zero, Option.some.injEq] at e ⊢
        subst e
        exact ⟨d, n, u1, u2, rfl, .head _⟩
      | succ q => rw [hk] at e; simp at e
  · intro p hp q hq
    rcases List.mem_cons.mp hp with rfl | hp
    · exact hd q (List.mem_append_right _ hq)
    · exact hb p hp q hq
noncomputable def mid {α : Type} : Nat → List α → List α → List α
  | 0, t, l => t ++ l
  | n + 1, t, a :: l => a :: mid n t l
  | _ + 1, t, [] => t
theorem mem_mid {α : Type} {p : α} : ∀ {n : Nat} {t l : List α}, p ∈ mid n t l → p ∈ t ++ l
  | 0, _, _, h => h
  | n + 1, t, a :: l, h => by
    rcases List.mem_cons.mp h with rfl | h
    · exact List.mem_append_right _ (.head _)
    · rcases List.mem_append.mp (mem_mid h) with h | h
      · exact List.mem_append_left _ h
      · exact List.mem_append_right _ (.tail _ h)
  | _ + 1, t, [], h => List.mem_append_left _ h
theorem news_midN {h₀ h : Heap} {L : Addr} {x : Addr × Obj} {t l : List (Addr × Obj)} (n : Nat) (N : News h₀ L h (x :: (t ++ l))) : News h₀ L h (x :: mid n t l) := fun p hp => by
  rcases List.mem_cons.mp hp with rfl | hp
  · exact N _ (.head _)
  · exact N _ (.tail _ (mem_mid hp))
theorem news_in3 {h₀ h : Heap} {L : Addr} {x a b c : Addr × Obj} {l : List (Addr × Obj)} (N : News h₀ L h (x :: a :: b :: c :: l)) : News h₀ L h (a :: b :: c :: x :: l) := fun p hp => N p (by
  simp only [List.mem_cons] at hp ⊢
  rcases hp with h | h | h | h | h
  · exact .inr (.inl h)
  · exact .inr (.inr (.inl h))
  · exact .inr (.inr (.inr (.inl h)))
  · exact .inl h
  · exact .inr (.inr (.inr (.inr h))))
theorem rowOk_next {lt : Int × Int → Int × Int → Prop} {N : Nat → Int} {i : Nat} {ts : List (Int × Int)} (h : RowOk lt N i 11 0 ts) : RowOk lt N (i + 1) 0 (N (i + 1)) ts := by
  obtain ⟨h1, h2, h3⟩ := h
  refine ⟨h1, by omega, fun v w => ?_⟩
  rw [h3]
  constructor
  · rintro (⟨j, e, hj, ht⟩ | ⟨e, ht, _⟩)
    · exact .inl ⟨j, e, by omega, ht⟩
    · exact .inl ⟨i, e, by omega, ht⟩
  · rintro (⟨j, e, hj, ht⟩ | ⟨_, ht, hn⟩)
    · rcases Nat.eq_or_lt_of_le (Nat.le_of_lt_succ hj) with he | hl
      · subst he
        exact .inr ⟨e, ht, term_0 v⟩
      · exact .inl ⟨j, e, hl, ht⟩
    · exact absurd ht hn
theorem due_next {N : Nat → Int} {tl tl' : List (Addr × Obj)} {dv dv' : List Value} {i n : Nat} {d : Addr} {zs : List Value} (h : DueIs N tl dv i) (hs : ∀ p ∈ tl, p ∈ tl') (e : dv' = dv ++ [.ref d]) (hm : (d, listOf zs.toArray n) ∈ tl') (hr : RowIs tl' zs ((List.range 24).map fun k => (termAt N i k, (i : Int)))) : DueIs N tl' dv' (i + 1) := by
  subst e
  have h' := due_more h hs
  obtain ⟨h1, h2⟩ := h'
  refine ⟨by simp [h1], fun w hw => ?_⟩
  rcases Nat.eq_or_lt_of_le (Nat.le_of_lt_succ hw) with he | hl
  · subst he
    exact ⟨d, n, zs, by rw [List.getElem?_append_right (by omega), h1]; simp, hm, hr⟩
  · obtain ⟨a, n', us, e1, e2, e3⟩ := h2 w hl
    exact ⟨a, n', us, by rw [List.getElem?_append_left (by omega)]; exact e1, e2, e3⟩
theorem sizes_next {N : Nat → Int} {sv : List Value} {i : Nat} {t : Tok} (h : IntsAre sv (sizesOf N i)) : IntsAre (sv.concat (.int (3 * if N i < 0 then -(N i) else N i) t)) (sizesOf N (i + 1)) := by
  unfold sizesOf
  rw [List.range_succ, List.map_append, List.concat_eq_append, abs_if]
  exact IntsAre.append h (IntsAre.cons _ _ IntsAre.nil)
theorem f4n {d1 d2 d3 d4 a : Addr} {x1 x2 x3 x4 : Obj} {tl : List (Addr × Obj)} (h1 : d1 ≠ a) (h2 : d2 ≠ a) (h3 : d3 ≠ a) (h4 : d4 ≠ a) (h : ∀ p ∈ tl, p.1 ≠ a) : ∀ p ∈ (d1, x1) :: (d2, x2) :: (d3, x3) :: (d4, x4) :: tl, p.1 ≠ a :=
  List.forall_mem_cons.mpr ⟨h1, List.forall_mem_cons.mpr ⟨h2, List.forall_mem_cons.mpr ⟨h3, List.forall_mem_cons.mpr ⟨h4, h⟩⟩⟩⟩
abbrev Abw (d I cw aS aD aO aR aP D aB L : Addr) (R : Prop) : Prop :=
  @LT.lt Nat _ I d ∧ @LT.lt Nat _ cw d ∧ @LT.lt Nat _ aS d ∧ @LT.lt Nat _ aD d ∧ @LT.lt Nat _ aO d ∧ @LT.lt Nat _ aR d ∧ @LT.lt Nat _ aP d ∧ @LT.lt Nat _ D d ∧ @LT.lt Nat _ aB d ∧ @LT.lt Nat _ (L + 1 + 1 + 1 + 1 + 1 + 1 + 1) d ∧ @LT.lt Nat _ (L + 1 + 1 + 1 + 1 + 1 + 1) d ∧ R
/-- a piece's end: an address that is met in a list -/
theorem mem_at {α : Type} {l : List α} {a : α} (n : Nat) (h : l[n]? = some a) : a ∈ l := List.mem_of_getElem? h
theorem rest_end {N : Nat → Int} {h₀ h : Heap} {tk : Nat} {s₀ : Shared} {L aS aD aO aR aP aC aB I cw d1 d2 d3 d4 : Addr} {oI oc oB o1 o2 o3 o4 o6 o7 x2 x3 x4 z1 z2 z3 y1 y2 y3 y4 y5 y6 y7 y8 y9 y10 y11 y12 y13 w1 w2 w3 w4 w5 w6 w7 w8 w9 w10 w11 w12 w13 w14 w15 : Obj} {pv ys sv dv dv' ov rv zs : List Value} {pn n1 n2 n3 n4 i : Nat} {v7' v6' : Option Value} {rts ots : List (Int × Int)} {tl tlo tups : List (Addr × Obj)}
    {m : PySem.Str → Option Value} {R3 R4 : Prop}
    (F : Fr h₀ L h m) (e6 : m (PySem.Str.ofString "cells") = some (.ref aC)) (e7 : m (PySem.Str.ofString "row") = some (.ref aR)) (e8 : m (PySem.Str.ofString "other") = some (.ref aO)) (e9 : m (PySem.Str.ofString "sizes") = some (.ref aS))
    (Nn : News h₀ L h ((d1, LCg.lst zs) :: (d2, x2) :: (d3, x3) :: (d4, x4) :: (I, oI) :: (cw, oc) :: (aS, listOf sv.toArray n4) :: (aD, listOf dv'.toArray n3) :: (aO, listOf ov.toArray n2) :: (aR, listOf rv.toArray n1) :: (aP, listOf pv.toArray pn) :: (aC, LCg.lst ys) :: (aB, oB) ::
      (L + 1 + 1 + 1 + 1 + 1 + 1 + 1, o7) :: (L + 1 + 1 + 1 + 1 + 1 + 1, o6) :: (L + 1 + 1 + 1 + 1, o4) :: (L + 1 + 1 + 1, o3) :: (L + 1 + 1, o2) :: (L + 1, o1) :: (tups ++ tl)))
    (hd1 : ∀ p ∈ tups ++ ((d2, z1) :: (d3, z2) :: (d4, z3) :: (I, w1) :: (cw, w2) :: (aS, w3) :: (aD, w4) :: (aO, w5) :: (aR, w6) :: (aP, w7) :: (aC, w8) :: (aB, w9) :: (L + 1 + 1 + 1 + 1 + 1 + 1 + 1, w10) :: (L + 1 + 1 + 1 + 1 + 1 + 1, w11) :: (L + 1 + 1 + 1 + 1, w12) :: (L + 1 + 1 + 1, w13) :: (L + 1 + 1, w14) :: (L + 1, w15) :: tl), p.1 ≠ d1)
    (hd2 : ∀ p ∈ (d3, z2) :: (d4, z3) :: (I, w1) :: (cw, w2) :: (aS, w3) :: (aD, w4) :: (aO, w5) :: (aR, w6) :: (aP, w7) :: (aC, w8) :: (aB, w9) :: (L + 1 + 1 + 1 + 1 + 1 + 1 + 1, w10) :: (L + 1 + 1 + 1 + 1 + 1 + 1, w11) :: (L + 1 + 1 + 1 + 1, w12) :: (L + 1 + 1 + 1, w13) :: (L + 1 + 1, w14) :: (L + 1, w15) :: tl, p.1 ≠ d2)
    (hd3 : @LT.lt Nat _ d4 d3 ∧ Abw d3 I cw aS aD aO aR aP aC aB L R3) (hd4 : Abw d4 I cw aS aD aO aR aP aC aB L R4)
    (hbt : ∀ p ∈ tups, ∀ q ∈ (d2, z1) :: (d3, z2) :: (d4, z3) :: (I, w1) :: (cw, w2) :: (aS, w3) :: (aD, w4) :: (aO, w5) :: (aR, w6) :: (aP, w7) :: (aC, w8) :: (aB, w9) :: (L + 1 + 1 + 1 + 1 + 1 + 1 + 1, w10) :: (L + 1 + 1 + 1 + 1 + 1 + 1, w11) :: (L + 1 + 1 + 1 + 1, w12) :: (L + 1 + 1 + 1, w13) :: (L + 1 + 1, w14) :: (L + 1, w15) :: tl, @LT.lt Nat _ q.1 p.1)
    (off : ∀ p ∈ (aS, y1) :: (aD, y2) :: (aO, y3) :: (aR, y4) :: (aP, y5) :: (aC, y6) :: (aB, y7) ::
      (L + 1 + 1 + 1 + 1 + 1 + 1 + 1, y8) :: (L + 1 + 1 + 1 + 1 + 1 + 1, y9) :: (L + 1 + 1 + 1 + 1, y10) :: (L + 1 + 1 + 1, y11) :: (L + 1 + 1, y12) :: (L + 1, y13) :: tlo, p.1 ≠ I ∧ p.1 ≠ cw)
    (h7 : o7.data = .cell v7') (h6 : o6.data = .cell v6') (hr1 : RowIs tl rv rts) (hr2 : RowIs tl ov ots) (hr3 : RowOk ltA N i 11 0 rts) (hr4 : RowOk ltB N i 11 0 ots)
    (hdu : DueIs N tl dv i) (edv : dv' = dv ++ [.ref d1]) (hrt : RowIs tups zs ((List.range 24).map fun k => (termAt N i k, (i : Int)))) (hsz : IntsAre sv (sizesOf N (i + 1)))
    (hf : Far tl aS aD aO aR L) (hI : ∀ p ∈ tl, p.1 ≠ I) (hw : ∀ p ∈ tl, p.1 ≠ cw) :
    TurnEndC h₀ L s₀ I oI cw oc (OJ N L aS aD aO aR aP aC aB oB o1 o2 o3 o4 pv pn ys (i + 1)) .next { s₀ with heap := h, toks := tk } := by
  have sub : ∀ p ∈ tl, p ∈ (d1, LCg.lst zs) :: (d2, x2) :: (d3, x3) :: (d4, x4) :: (tups ++ tl) := fun p hp => .tail _ (.tail _ (.tail _ (.tail _ (List.mem_append_right _ hp))))
  have sub2 : ∀ p ∈ tups, p ∈ (d1, LCg.lst zs) :: (d2, x2) :: (d3, x3) :: (d4, x4) :: (tups ++ tl) := fun p hp => .tail _ (.tail _ (.tail _ (.tail _ (List.mem_append_left _ hp))))
  have N' := news_mid (A := [(d1, LCg.lst zs), (d2, x2), (d3, x3), (d4, x4)]) (M := [(I, oI), (cw, oc), (aS, listOf sv.toArray n4), (aD, listOf dv'.toArray n3), (aO, listOf ov.toArray n2), (aR, listOf rv.toArray n1), (aP, listOf pv.toArray pn), (aC, LCg.lst ys), (aB, oB),
      (L + 1 + 1 + 1 + 1 + 1 + 1 + 1, o7), (L + 1 + 1 + 1 + 1 + 1 + 1, o6), (L + 1 + 1 + 1 + 1, o4), (L + 1 + 1 + 1, o3), (L + 1 + 1, o2), (L + 1, o1)]) (T := tups ++ tl) Nn
  simp only [List.forall_mem_append, List.forall_mem_cons] at hd1
  simp only [List.forall_mem_cons] at hd2
  have far : ∀ (a : Addr) (w : Obj), (a, w) ∈ [(d2, z1), (d3, z2), (d4, z3), (I, w1), (cw, w2), (aS, w3), (aD, w4), (aO, w5), (aR, w6), (aP, w7), (aC, w8), (aB, w9), (L + 1 + 1 + 1 + 1 + 1 + 1 + 1, w10), (L + 1 + 1 + 1 + 1 + 1 + 1, w11)] →
      (∀ p ∈ tl, p.1 ≠ a) → ∀ p ∈ tups ++ tl, p.1 ≠ a := by
    intro a w hm ht p hp
    rcases List.mem_append.mp hp with hp | hp
    · refine Ne.symm (Nat.ne_of_lt (hbt p hp (a, w) ?_))
      exact List.mem_append_left (as := [(d2, z1), (d3, z2), (d4, z3), (I, w1), (cw, w2), (aS, w3), (aD, w4), (aO, w5), (aR, w6), (aP, w7), (aC, w8), (aB, w9), (L + 1 + 1 + 1 + 1 + 1 + 1 + 1, w10), (L + 1 + 1 + 1 + 1 + 1 + 1, w11)]) _ hm
    · exact ht p hp
  have gS := far aS w3 (mem_at 5 rfl) hf.1
  have gD := far aD w4 (mem_at 6 rfl) hf.2.1
  have gO := far aO w5 (mem_at 7 rfl) hf.2.2.1
  have gR := far aR w6 (mem_at 8 rfl) hf.2.2.2.1
  have g6 := far _ w11 (mem_at 13 rfl) hf.2.2.2.2.1
  have g7 := far _ w10 (mem_at 12 rfl) hf.2.2.2.2.2
  have gI := far I w1 (mem_at 3 rfl) hI
  have gW := far cw w2 (mem_at 4 rfl) hw
  have offI := f4n (x1 := LCg.lst zs) (x2 := x2) (x3 := x3) (x4 := x4) (Ne.symm hd1.2.2.2.2.1) (Ne.symm hd2.2.2.1) (Ne.symm (Nat.ne_of_lt hd3.2.1)) (Ne.symm (Nat.ne_of_lt hd4.1)) gI
  have offW := f4n (x1 := LCg.lst zs) (x2 := x2) (x3 := x3) (x4 := x4) (Ne.symm hd1.2.2.2.2.2.1) (Ne.symm hd2.2.2.2.1) (Ne.symm (Nat.ne_of_lt hd3.2.2.1)) (Ne.symm (Nat.ne_of_lt hd4.2.1)) gW
  refine ⟨rfl, h, tk, m, _, rfl, F, N', ?_, rv, ov, dv', sv, n1, n2, n3, n4, o7, o6, v7', v6', rts, ots, _, e6, e7, e8, e9, rfl, h7, h6, row_more hr1 sub, row_more hr2 sub, rowOk_next hr3, rowOk_next hr4,
    due_next hdu sub edv (.head _) (row_more hrt sub2), hsz,
    ⟨f4n (Ne.symm hd1.2.2.2.2.2.2.1) (Ne.symm hd2.2.2.2.2.1) (Ne.symm (Nat.ne_of_lt hd3.2.2.2.1)) (Ne.symm (Nat.ne_of_lt hd4.2.2.1)) gS, f4n (Ne.symm hd1.2.2.2.2.2.2.2.1) (Ne.symm hd2.2.2.2.2.2.1) (Ne.symm (Nat.ne_of_lt hd3.2.2.2.2.1)) (Ne.symm (Nat.ne_of_lt hd4.2.2.2.1)) gD, f4n (Ne.symm hd1.2.2.2.2.2.2.2.2.1) (Ne.symm hd2.2.2.2.2.2.2.1) (Ne.symm (Nat.ne_of_lt hd3.2.2.2.2.2.1)) (Ne.symm (Nat.ne_of_lt hd4.2.2.2.2.1)) gO,
     f4n (Ne.symm hd1.2.2.2.2.2.2.2.2.2.1) (Ne.symm hd2.2.2.2.2.2.2.2.1) (Ne.symm (Nat.ne_of_lt hd3.2.2.2.2.2.2.1)) (Ne.symm (Nat.ne_of_lt hd4.2.2.2.2.2.1)) gR, f4n (Ne.symm hd1.2.2.2.2.2.2.2.2.2.2.2.2.2.2.1) (Ne.symm hd2.2.2.2.2.2.2.2.2.2.2.2.2.1) (Ne.symm (Nat.ne_of_lt hd3.2.2.2.2.2.2.2.2.2.2.2.1)) (Ne.symm (Nat.ne_of_lt hd4.2.2.2.2.2.2.2.2.2.2.1)) g6, f4n (Ne.symm hd1.2.2.2.2.2.2.2.2.2.2.2.2.2.1) (Ne.symm hd2.2.2.2.2.2.2.2.2.2.2.2.1) (Ne.symm (Nat.ne_of_lt hd3.2.2.2.2.2.2.2.2.2.2.1)) (Ne.symm (Nat.ne_of_lt hd4.2.2.2.2.2.2.2.2.2.1)) g7⟩⟩
  have offT : ∀ p ∈ (d1, LCg.lst zs) :: (d2, x2) :: (d3, x3) :: (d4, x4) :: (tups ++ tl), p.1 ≠ I ∧ p.1 ≠ cw := fun p hp => ⟨offI p hp, offW p hp⟩
  simp only [List.append_eq, List.cons_append, List.nil_append, List.forall_mem_cons] at off offT ⊢
  obtain ⟨g1, g2, g3, g4, g5, g6, g7, g8, g9, g10, g11, g12, g13, _⟩ := off
  exact ⟨g1, g2, g3, g4, g5, g6, g7, g8, g9, g10, g11, g12, g13, offT⟩
/-- how many of the first i powers are below x -/
noncomputable def cnt (x : Int) : Nat → Nat
  | 0 => 0
  | i + 1 => cnt x i + if (2 : Int) ^ i < x then 1 else 0
theorem cnt_le (x : Int) : ∀ i, cnt x i ≤ i
  | 0 => Nat.le_refl _
  | i + 1 => by
    have := cnt_le x i
    unfold cnt
    split <;> omega
noncomputable def spotsOf (N : Nat → Int) (i : Nat) : List Int := (List.range i).map fun w => ((cnt (3 * ((N w).natAbs : Int)) 24 : Nat) : Int)
theorem spots_len (N : Nat → Int) (i : Nat) : (spotsOf N i).length = i := by simp [spotsOf]
theorem spots_snoc {N : Nat → Int} {i : Nat} {ys : List Value} {t : Tok} (h : IntsAre ys (spotsOf N i)) : IntsAre (ys ++ [.int ((cnt (3 * ((N i).natAbs : Int)) 24 : Nat) : Int) t]) (spotsOf N (i + 1)) := by
  unfold spotsOf
  rw [List.range_succ, List.map_append]
  exact IntsAre.append h (IntsAre.cons _ _ IntsAre.nil)
theorem sizes_at {vs : List Value} {N : Nat → Int} {m : Nat} (h : IntsAre vs (sizesOf N m)) {j : Nat} {v : Value} (hj : vs.toArray[j]? = some v) (hm : j < m) : ∃ t, v = .int (3 * ((N j).natAbs : Int)) t := by
  obtain ⟨t, ht⟩ := ints_some h (i := j) (n := 3 * ((N j).natAbs : Int)) (by
    unfold sizesOf
    rw [List.getElem?_map, List.getElem?_range hm]; rfl)
  refine ⟨t, ?_⟩
  rw [List.getElem?_toArray, ht] at hj
  cases hj; rfl
theorem places_at {vs : List Value} {m : Nat} (h : IntsAre vs (rangeKs 0 m)) {j : Nat} {v : Value} (hj : vs.toArray[j]? = some v) (hm : j < m) : ∃ t, v = .int (j : Int) t := by
  obtain ⟨t, ht⟩ := ints_some h (i := j) (n := (j : Int)) (by
    unfold rangeKs
    rw [List.getElem?_map, List.getElem?_range hm]; simp)
  refine ⟨t, ?_⟩
  rw [List.getElem?_toArray, ht] at hj
  cases hj; rfl
theorem cnt_yes {x : Int} {j : Nat} {ys : List Value} {v : Value} (h : ys.length = cnt x j) (hx : (2 : Int) ^ (j : Int).toNat < x) : (ys ++ [v]).length = cnt x (j + 1) := by
  rw [Int.toNat_natCast] at hx
  rw [List.length_append, h, cnt, if_pos hx]; rfl
theorem cnt_no {x : Int} {j : Nat} {ys : List Value} (h : ys.length = cnt x j) (hx : ¬ (2 : Int) ^ (j : Int).toNat < x) : ys.length = cnt x (j + 1) := by
  rw [Int.toNat_natCast] at hx
  rw [h, cnt, if_neg hx]; rfl
theorem cnt_spec (x : Int) : ∀ i j, j < i → ((2 : Int) ^ j < x ↔ j < cnt x i)
  | 0, j, h => absurd h (Nat.not_lt_zero _)
  | i + 1, j, h => by
    have ih := cnt_spec x i
    have hle := cnt_le x i
    unfold cnt
    by_cases hi : (2 : Int) ^ i < x
    · rw [if_pos hi]
      have low : ∀ q, q < i → (2 : Int) ^ q < x := fun q hq => by
        have e1 : ((2 : Int) ^ q) = ((2 ^ q : Nat) : Int) := by push_cast; rfl
        have e2 : ((2 : Int) ^ i) = ((2 ^ i : Nat) : Int) := by push_cast; rfl
        have := Nat.pow_le_pow_right (show 0 < 2 by decide) (Nat.le_of_lt hq)
        rw [e2] at hi
        rw [e1]
        omega
      have hc : cnt x i = i := by
        rcases Nat.eq_or_lt_of_le hle with e | e
        · exact e
        · have := (ih (cnt x i) e).mp (low _ e)
          exact absurd this (Nat.lt_irrefl _)
      rw [hc]
      refine ⟨fun _ => h, fun _ => ?_⟩
      rcases Nat.eq_or_lt_of_le (Nat.le_of_lt_succ h) with e | e
      · rw [e]; exact hi
      · exact low j e
    · rw [if_neg hi, Nat.add_zero]
      rcases Nat.eq_or_lt_of_le (Nat.le_of_lt_succ h) with e | e
      · subst e
        exact ⟨fun h' => absurd h' hi, fun h' => absurd h' (Nat.not_lt.mpr hle)⟩
      · exact ih j e
theorem kv_cnt {x : Int} {j : Int} (h0 : 0 ≤ j) (hj : j < 24) : kvP (rangeKs 0 24) j < x ↔ j < ((cnt x 24 : Nat) : Int) := by
  obtain ⟨n, rfl⟩ := Int.eq_ofNat_of_zero_le h0
  rw [kv24 n (by omega), cnt_spec x 24 n (by omega)]
  omega
/-- no power is three times a number -/
theorem kv_three {y : Int} {j : Int} (h0 : 0 ≤ j) (hj : j < 24) : kvP (rangeKs 0 24) j ≠ 3 * y := by
  obtain ⟨n, rfl⟩ := Int.eq_ofNat_of_zero_le h0
  rw [kv24 n (by omega)]
  have e : ((2 : Int) ^ n) = ((2 ^ n : Nat) : Int) := by push_cast; rfl
  rw [e]
  have := two_pow_mod3 n
  omega
theorem hitL {x lo hi r : Int} (h : BisL (kvP (rangeKs 0 24)) x lo hi r) (h0 : 0 ≤ lo) (hh : hi ≤ 24) : r = max lo (min hi ((cnt x 24 : Nat) : Int)) := by
  obtain ⟨a, b, c, d⟩ := h
  rcases Int.lt_or_le lo r with h1 | h1
  · have := (kv_cnt (x := x) (j := r - 1) (by omega) (by omega)).mp (c _ (by omega) (by omega))
    rcases Int.lt_or_le r hi with h2 | h2
    · have h3 := d r (Int.le_refl _) h2
      have h4 : ¬ r < ((cnt x 24 : Nat) : Int) := fun q => by
        have := (kv_cnt (x := x) (by omega) (by omega)).mpr q
        omega
      omega
    · omega
  · rcases Int.lt_or_le r hi with h2 | h2
    · have h3 := d r (Int.le_refl _) h2
      have h4 : ¬ r < ((cnt x 24 : Nat) : Int) := fun q => by
        have := (kv_cnt (x := x) (by omega) (by omega)).mpr q
        omega
      omega
    · omega
theorem hitR {y lo hi r : Int} (h : BisR (kvP (rangeKs 0 24)) (3 * y) lo hi r) (h0 : 0 ≤ lo) (hh : hi ≤ 24) : r = max lo (min hi ((cnt (3 * y) 24 : Nat) : Int)) := by
  obtain ⟨a, b, c, d⟩ := h
  refine hitL ⟨a, b, fun j h1 h2 => ?_, fun j h1 h2 => ?_⟩ h0 hh
  · have := c j h1 h2
    have := kv_three (y := y) (j := j) (by omega) (by omega)
    omega
  · exact Int.le_of_lt (d j h1 h2)
theorem spots_at {vs : List Value} {N : Nat → Int} {m : Nat} (h : IntsAre vs (spotsOf N m)) {j : Nat} (hm : j < m) : ∃ t, vs[j]? = some (.int ((cnt (3 * ((N j).natAbs : Int)) 24 : Nat) : Int) t) := by
  refine ints_some h ?_
  unfold spotsOf
  rw [List.getElem?_map, List.getElem?_range hm]; rfl
theorem sizes_at' {vs : List Value} {N : Nat → Int} {m : Nat} (h : IntsAre vs (sizesOf N m)) {j : Nat} (hm : j < m) : ∃ t, vs[j]? = some (.int (3 * ((N j).natAbs : Int)) t) := by
  refine ints_some h ?_
  unfold sizesOf
  rw [List.getElem?_map, List.getElem?_range hm]; rfl
theorem spots_two {N : Nat → Int} {k : Nat} (hk : k < 2) (a : Int) : a ∈ spotsOf N 2 ↔ a = ((cnt (3 * ((N k).natAbs : Int)) 24 : Nat) : Int) ∨ a = ((cnt (3 * ((N (1 - k)).natAbs : Int)) 24 : Nat) : Int) := by
  have e : spotsOf N 2 = [((cnt (3 * ((N 0).natAbs : Int)) 24 : Nat) : Int), ((cnt (3 * ((N 1).natAbs : Int)) 24 : Nat) : Int)] := rfl
  rw [e]
  simp only [List.mem_cons, List.not_mem_nil, or_false]
  have : k = 0 ∨ k = 1 := by omega
  rcases this with rfl | rfl
  · exact Iff.rfl
  · exact Or.comm
theorem spots_min {N : Nat → Int} {k b x : Nat} {M : Int} (hk : k < 2) (h : M ∈ spotsOf N 2) (hle : ∀ a, a ∈ spotsOf N 2 → M ≤ a) (hb : cnt (3 * ((N (1 - k)).natAbs : Int)) 24 = b) (hx : (N k).natAbs = x) : M = min (b : Int) ((cnt (3 * (x : Int)) 24 : Nat) : Int) := by
  have h1 := (spots_two hk M).mp h
  have h2 := hle _ ((spots_two hk _).mpr (.inl rfl))
  have h3 := hle _ ((spots_two hk _).mpr (.inr rfl))
  rw [hb, hx] at h1
  rw [hx] at h2
  rw [hb] at h3
  omega
theorem spots_max {N : Nat → Int} {k b x : Nat} {M : Int} (hk : k < 2) (h : M ∈ spotsOf N 2) (hle : ∀ a, a ∈ spotsOf N 2 → a ≤ M) (hb : cnt (3 * ((N (1 - k)).natAbs : Int)) 24 = b) (hx : (N k).natAbs = x) : M = max (b : Int) ((cnt (3 * (x : Int)) 24 : Nat) : Int) := by
  have h1 := (spots_two hk M).mp h
  have h2 := hle _ ((spots_two hk _).mpr (.inl rfl))
  have h3 := hle _ ((spots_two hk _).mpr (.inr rfl))
  rw [hb, hx] at h1
  rw [hx] at h2
  rw [hb] at h3
  omega
end Mine
end
section
open PySem PySem.W PySem.Calls PyProof.Rows PySem.Spec
set_option Elab.async false
set_option maxRecDepth 100000
set_option linter.unusedVariables false
namespace Mine
section
variable {prog : Program} {w : World} {A : Around} {E : Value → Shared → Prop} {h₀ : Heap} {L : Addr} {m : PySem.Str → Option Value} {s : Shared} {nw : List (Addr × Obj)}
noncomputable def TupAt (ax : Addr) (its : Array Value) (nw : List (Addr × Obj)) : Prop := ∃ o, (ax, o) ∈ nw ∧ o.cls = .type "tuple" ∧ ∃ n, o.data = .seq its n
theorem src_tuple {ax : Addr} {its : Array Value} {k : Nat} {Q : Value → Shared → Prop} (hh : A.handled = none) (F : Fr h₀ L s.heap m) (N : News h₀ L s.heap nw) (hm : (ax, ({ cls := .type "tuple", data := .seq its k } : Obj)) ∈ nw)
    (h : ∀ I h', SrcOf prog w A h₀ L m its.size (fun i v => its[i]? = some v) (fun i h => h.IsTupleIter I ax i ∧ h.IsTuple ax its) (TupAt ax its) [I, ax] I nw { s with heap := h' } → Q (.ref I) { s with heap := h' }) :
    wpAny (model prog w) A (pyIter (.ref ax)) Q E s := by
  have hl : s.heap.IsTuple ax its := ⟨_, (N _ hm).1, rfl, k, rfl⟩
  have hlt : ax < s.heap.objs.size := by obtain ⟨_, e, _⟩ := hl; exact Heap.lt_size e
  have up : ∀ b o, s.heap.get? b = some o → (s.heap.push { cls := .type "tuple_iterator", data := .fields #[.ref ax, .int 0 0] }).get? b = some o := fun b o e => Heap.get?_push_of_some _ e
  refine wpAny_pyIter_tuple hl (h _ _ ⟨Walks.tuple hh s.heap.objs.size ax (Nat.ne_of_lt hlt) its, ⟨⟨_, Heap.get?_push_size _ rfl, rfl, rfl⟩, hl.push _⟩, fun b hb => ?_, fun i h st => by obtain ⟨o, e, _⟩ := st.1; exact ⟨o, e⟩, ?_, F.keeps up, N.grown up, Nat.ne_of_lt F.ns.lt, next_is_new F, fun p hp => Nat.ne_of_lt (Heap.lt_size (N p hp).1)⟩)
  · rcases List.mem_cons.mp hb with rfl | hb
    · exact ⟨_, Heap.get?_push_size _ rfl⟩
    · rw [List.mem_singleton.mp hb]; exact ⟨_, up _ _ (N _ hm).1⟩
  · intro i h h' o nw st e e' _ N' S
    obtain ⟨o2, hm2, hc2, hd2⟩ := S
    refine ⟨?_, ⟨o2, (N' _ hm2).1, hc2, hd2⟩⟩
    obtain ⟨o', q, r⟩ := st.1
    rw [e] at q; cases q
    exact ⟨o, e', r⟩
end
/-- what the last comprehensions tell -/
noncomputable def inTs (N : Nat → Int) (ord : List Nat) (k : Nat) : List (Int × Int) := (ord.map fun w => (termAt N w k, (w : Int))).filter fun t => t.1 != 0
noncomputable def outTs (N : Nat → Int) (ord : List Nat) (i : Nat) : List (Int × Int) := (List.range i).flatMap (inTs N ord)
theorem outTs_succ (N : Nat → Int) (ord : List Nat) (i : Nat) : outTs N ord (i + 1) = outTs N ord i ++ inTs N ord i := by
  unfold outTs
  rw [List.range_succ, List.flatMap_append]
  simp
theorem inTs_snoc (N : Nat → Int) (ord : List Nat) (w k : Nat) : inTs N (ord ++ [w]) k = inTs N ord k ++ if termAt N w k != 0 then [(termAt N w k, (w : Int))] else [] := by
  unfold inTs
  rw [List.map_append, List.filter_append]
  congr 1
  simp only [List.map_cons, List.map_nil, List.filter_cons, List.filter_nil]
theorem inTs_len (N : Nat → Int) (ord : List Nat) (k : Nat) : (inTs N ord k).length ≤ ord.length := by
  unfold inTs
  exact Nat.le_trans (List.length_filter_le _ _) (by simp)
theorem outTs_len (N : Nat → Int) (ord : List Nat) (i : Nat) : (outTs N ord i).length ≤ ord.length * i := by
  induction i with
  | zero => exact Nat.zero_le _
  | succ i ih =>
    rw [outTs_succ, List.length_append, Nat.mul_succ]
    have := inTs_len N ord i
    omega
theorem rowIs_snoc {news : List (Addr × Obj)} {vs : List Value} {ts : List (Int × Int)} {a : Addr} {t : Int × Int} {n : Nat} {u₁ u₂ : Tok} (h : RowIs news vs ts) (hm : (a, tupO [.int t.1 u₁, .int t.2 u₂] n) ∈ news) : RowIs news (vs ++ [.ref a]) (ts ++ [t]) := by
  obtain ⟨h1, h2⟩ := h
  refine ⟨by simp [h1], fun i t' e => ?_⟩
  rcases Nat.lt_or_ge i ts.length with hi | hi
  · rw [List.getElem?_append_left hi] at e
    rw [List.getElem?_append_left (by omega)]
    exact h2 i t' e
  · rw [List.getElem?_append_right hi] at e
    rw [List.getElem?_append_right (by omega), h1]
    cases hk : i - ts.length with
    | zero =>
      rw [hk] at e
      simp only [List.getElem?_cons_zero, Option.some.injEq] at e ⊢
      subst e
      exact ⟨a, n, u₁, u₂, rfl, hm⟩
    | succ q => rw [hk] at e; simp at e
/-- a row as data -/
noncomputable def tDat (t : Int × Int) : Dat := .tuple [.int t.1, .int t.2]
theorem rowIs_dat {news : List (Addr × Obj)} : ∀ {vs : List Value} {ts : List (Int × Int)}, RowIs news vs ts → DatAll news vs (ts.map tDat)
  | [], [], _ => .nil
  | [], _ :: _, h => by have := h.1; simp at this
  | _ :: _, [], h => by have := h.1; simp at this
  | v :: vs, t :: ts, h => by
    obtain ⟨h1, h2⟩ := h
    obtain ⟨a, n, u1, u2, e, hm⟩ := h2 0 t rfl
    simp only [List.getElem?_cons_zero, Option.some.injEq] at e
    subst e
    refine .cons ?_ (rowIs_dat ⟨by simpa using h1, fun i t' e => h2 (i + 1) t' (by simpa using e)⟩)
    exact .tuple hm (.cons (.int _ _) (.cons (.int _ _) .nil))
theorem tDat_ok (ts : List (Int × Int)) : ∀ d ∈ ts.map tDat, kqdOk 8 d = true := by
  intro d hd
  obtain ⟨t, _, rfl⟩ := List.mem_map.mp hd
  simp [tDat, kqdOk]
/-- two lists in strict order with the same members -/
theorem eq_of_sorted {α : Type} {R : α → α → Prop} (irr : ∀ a, ¬ R a a) (asy : ∀ a b, R a b → ¬ R b a) : ∀ {l l' : List α}, l.Pairwise R → l'.Pairwise R → (∀ a, a ∈ l ↔ a ∈ l') → l = l'
  | [], [], _, _, _ => rfl
  | [], b :: l', _, _, h => absurd ((h b).mpr (.head _)) (fun x => nomatch x)
  | a :: l, [], _, _, h => absurd ((h a).mp (.head _)) (fun x => nomatch x)
  | a :: l, b :: l', h1, h2, h => by
    obtain ⟨p1, p2⟩ := List.pairwise_cons.mp h1
    obtain ⟨q1, q2⟩ := List.pairwise_cons.mp h2
    have e : a = b := by
      rcases List.mem_cons.mp ((h a).mp (.head _)) with e | ha
      · exact e
      · rcases List.mem_cons.mp ((h b).mpr (.head _)) with e | hb
        · exact e.symm
        · exact absurd (p1 b hb) (asy _ _ (q1 a ha))
    subst e
    rw [eq_of_sorted irr asy p2 q2 fun c => ⟨fun hc => ?_, fun hc => ?_⟩]
    · rcases List.mem_cons.mp ((h c).mp (.tail _ hc)) with rfl | hc'
      · exact absurd (p1 c hc) (irr _)
      · exact hc'
    · rcases List.mem_cons.mp ((h c).mpr (.tail _ hc)) with rfl | hc'
      · exact absurd (q1 c hc) (irr _)
      · exact hc'
theorem term_of {N : Nat → Int} {w k : Nat} (h : termAt N w k ≠ 0) : dig (N w) k ≠ 0 ∧ (termAt N w k).natAbs = 2 ^ k := by
  have hd : dig (N w) k ≠ 0 := by
    intro e
    exact h (by unfold termAt; rw [e, Int.zero_mul])
  refine ⟨hd, ?_⟩
  unfold termAt
  rw [Int.natAbs_mul, Int.natAbs_pow]
  rcases dig_small (N w) k with e | e | e
  · exact absurd e hd
  · rw [e]; simp
  · rw [e]; simp
theorem outTs_mem {N : Nat → Int} {ord : List Nat} (ho : ∀ j, j ∈ ord ↔ j < 2) (v w : Int) : (v, w) ∈ outTs N ord 24 ↔ ∃ j : Nat, w = j ∧ j < 2 ∧ Term (N j) v := by
  unfold outTs inTs
  simp only [List.mem_flatMap, List.mem_range, List.mem_filter, List.mem_map, Prod.mk.injEq]
  constructor
  · rintro ⟨k, hk, ⟨j, hj, rfl, rfl⟩, hne⟩
    have hne' : termAt N j k ≠ 0 := by simpa using hne
    exact ⟨j, rfl, (ho j).mp hj, k, hk, (term_of hne').1, rfl⟩
  · rintro ⟨j, rfl, hj, k, hk, hd, rfl⟩
    refine ⟨k, hk, ⟨j, (ho j).mpr hj, rfl, rfl⟩, ?_⟩
    have : dig (N j) k * 2 ^ k ≠ 0 := Int.mul_ne_zero hd (Int.ne_of_gt (Int.pow_pos (by decide)))
    simpa using this
theorem outTs_sorted {N : Nat → Int} {ord : List Nat} {lt : Int × Int → Int × Int → Prop} (hlt : ∀ a b, a.1.natAbs < b.1.natAbs → lt a b) (hin : ∀ k, (inTs N ord k).Pairwise lt) : (outTs N ord 24).Pairwise lt := by
  unfold outTs
  refine List.pairwise_flatMap.mpr ⟨fun k _ => hin k, List.Pairwise.imp ?_ List.pairwise_lt_range⟩
  intro k k' hk x hx y hy
  refine hlt _ _ ?_
  have sz : ∀ {q : Nat} {z : Int × Int}, z ∈ inTs N ord q → z.1.natAbs = 2 ^ q := by
    intro q z hz
    unfold inTs at hz
    obtain ⟨hz, hne⟩ := List.mem_filter.mp hz
    obtain ⟨w, _, rfl⟩ := List.mem_map.mp hz
    exact (term_of (by simpa using hne)).2
  rw [sz hx, sz hy]
  exact Nat.pow_lt_pow_right (by decide) hk
theorem inTs_two {N : Nat → Int} {a b k : Nat} {lt : Int × Int → Int × Int → Prop} (h : termAt N a k ≠ 0 → termAt N b k ≠ 0 → lt (termAt N a k, (a : Int)) (termAt N b k, (b : Int))) : (inTs N [a, b] k).Pairwise lt := by
  unfold inTs
  simp only [List.map_cons, List.map_nil, List.filter_cons, List.filter_nil]
  by_cases ha : termAt N a k = 0 <;> by_cases hb : termAt N b k = 0 <;> simp [ha, hb]
  exact h ha hb
theorem row_isA {N : Nat → Int} {ts : List (Int × Int)} (h : RowOk ltA N 2 0 (N 2) ts) : ts = outTs N [1, 0] 24 := by
  obtain ⟨h1, _, h3⟩ := h
  refine eq_of_sorted (R := ltA) (fun a h => by unfold ltA at h; omega) (fun a b h h' => by unfold ltA at h h'; omega) h1 (outTs_sorted (fun a b h => .inl h) fun k => inTs_two fun ha hb => .inr ⟨by rw [(term_of ha).2, (term_of hb).2], by show ((0 : Nat) : Int) < ((1 : Nat) : Int); decide⟩) ?_
  rintro ⟨v, w⟩
  rw [h3, outTs_mem (by intro j; simp; omega)]
  constructor
  · rintro (h | ⟨_, h, h'⟩)
    · exact h
    · exact absurd h h'
  · exact fun h => .inl h
theorem row_isB {N : Nat → Int} {ts : List (Int × Int)} (h : RowOk ltB N 2 0 (N 2) ts) : ts = outTs N [0, 1] 24 := by
  obtain ⟨h1, _, h3⟩ := h
  refine eq_of_sorted (R := ltB) (fun a h => by unfold ltB at h; omega) (fun a b h h' => by unfold ltB at h h'; omega) h1 (outTs_sorted (fun a b h => .inl h) fun k => inTs_two fun ha hb => .inr ⟨by rw [(term_of ha).2, (term_of hb).2], by show ((0 : Nat) : Int) < ((1 : Nat) : Int); decide⟩) ?_
  rintro ⟨v, w⟩
  rw [h3, outTs_mem (by intro j; simp; omega)]
  constructor
  · rintro (h | ⟨_, h, h'⟩)
    · exact h
    · exact absurd h h'
  · exact fun h => .inl h
theorem news_base {h₀ h : Heap} {L : Addr} {x a b c : Addr × Obj} {nw base : List (Addr × Obj)} (hsub : ∀ p ∈ base, p ∈ nw) (N : News h₀ L h (x :: a :: b :: c :: nw)) : News h₀ L h (a :: b :: c :: x :: base) := fun p hp => news_in3 N p (by
  simp only [List.mem_cons] at hp ⊢
  rcases hp with h | h | h | h | h
  · exact .inl h
  · exact .inr (.inl h)
  · exact .inr (.inr (.inl h))
  · exact .inr (.inr (.inr (.inl h)))
  · exact .inr (.inr (.inr (.inr (hsub p h)))))
theorem ord_at {a b : Nat} {ta tb : Tok} {j : Nat} {v : Value} (hv : [Value.int (a : Int) ta, .int (b : Int) tb].toArray[j]? = some v) : ∃ (w : Nat) (t : Tok), v = .int (w : Int) t ∧ [a, b][j]? = some w := by
  match j, hv with
  | 0, hv => exact ⟨a, ta, by simpa using hv.symm, rfl⟩
  | 1, hv => exact ⟨b, tb, by simpa using hv.symm, rfl⟩
  | j + 2, hv => simp at hv
theorem outs_yes {news : List (Addr × Obj)} {zs : List Value} {N : Nat → Int} {ord : List Nat} {i j w n : Nat} {a : Addr} {u₁ u₂ : Tok} (h : RowIs news zs (outTs N ord i ++ inTs N (ord.take j) i)) (hw : ord[j]? = some w) (hm : (a, tupO [.int (termAt N w i) u₁, .int (w : Int) u₂] n) ∈ news)
    (hne : termAt N w i ≠ 0) : RowIs news (zs ++ [.ref a]) (outTs N ord i ++ inTs N (ord.take (j + 1)) i) := by
  rw [List.take_add_one, hw]
  simp only [Option.toList_some]
  rw [inTs_snoc, if_pos (by simpa using hne), ← List.append_assoc]
  exact rowIs_snoc h hm
theorem outs_no {news : List (Addr × Obj)} {zs : List Value} {N : Nat → Int} {ord : List Nat} {i j w : Nat} (h : RowIs news zs (outTs N ord i ++ inTs N (ord.take j) i)) (hw : ord[j]? = some w) (hne : termAt N w i = 0) : RowIs news zs (outTs N ord i ++ inTs N (ord.take (j + 1)) i) := by
  rw [List.take_add_one, hw]
  simp only [Option.toList_some]
  rw [inTs_snoc, if_neg (by simp [hne]), List.append_nil]
  exact h
theorem outs_len {news : List (Addr × Obj)} {zs : List Value} {N : Nat → Int} {a b i j : Nat} (h : RowIs news zs (outTs N [a, b] i ++ inTs N ([a, b].take j) i)) (hi : i < 24) : zs.length ≤ 1000 := by
  have h1 := outTs_len N [a, b] i
  have h2 := inTs_len N ([a, b].take j) i
  have h3 : ([a, b].take j).length ≤ 2 := by rw [List.length_take]; exact Nat.min_le_right _ _
  have h4 : ([a, b] : List Nat).length = 2 := rfl
  rw [h.1, List.length_append]
  rw [h4] at h1
  omega
theorem news_sub1 {h₀ h : Heap} {L : Addr} {x : Addr × Obj} {nw base : List (Addr × Obj)} (hsub : ∀ p ∈ base, p ∈ nw) (N : News h₀ L h (x :: nw)) : News h₀ L h (x :: base) := fun p hp => N p (by
  rcases List.mem_cons.mp hp with h | h
  · exact List.mem_cons.mpr (.inl h)
  · exact List.mem_cons.mpr (.inr (hsub p h)))
theorem rows_eq {prog : Program} {w : World} {A : Around} {E : Value → Shared → Prop} {s : Shared} {h₀ : Heap} {L a b : Addr} {news tl : List (Addr × Obj)} {oa ob : Obj} {xs ys : List Value} {ka kb : Nat} {ts : List (Int × Int)} {Q : Value → Shared → Prop}
    (N : News h₀ L s.heap news) (ma : (a, oa) ∈ news) (ca : oa.cls = .type "list") (da : oa.data = .seq xs.toArray ka) (Da : RowIs tl xs ts) (mb : (b, ob) ∈ news) (cb : ob.cls = .type "list") (db : ob.data = .seq ys.toArray kb) (Db : RowIs tl ys ts)
    (sa : ∀ p ∈ tl, p ∈ news) (hu : A.units + 64 < cLine) (h : Q (.bool true) s) : wpAny (model prog w) A (compareOp .Eq (.ref a) (.ref b)) Q E s :=
  kqd_eq N ma ca da (rowIs_dat Da) sa mb cb db (rowIs_dat Db) sa (tDat_ok ts) (tDat_ok ts) hu (by simpa using h)
end Mine
end
section
open PySem PySem.W PySem.Calls PyProof.Rows
set_option Elab.async false
set_option maxRecDepth 100000
set_option linter.unusedVariables false
namespace Mine
theorem seq_list_iadd : seqSlot? (.type "list") (dunderI "add") = pure (some (.builtin "list.__iadd__")) := PyProof.Rows.seqSlot_of PySem.F.slot_list_iadd.lookup (by decide +kernel)
theorem fills_list_iadd : fillsInplaceSlot (.type "list") "add" (Operator.Add == .Add) = pure false := by
  unfold fillsInplaceSlot
  show (typeLookup (.type "list") (dunderI "add") >>= fun fi => pure (fi.isSome && !isSeqSlot fi)) = pure false
  rw [PySem.F.slot_list_iadd.lookup]
  simp only [pure_bind]
  rw [show isSeqSlot (some (.builtin "list.__iadd__")) = true by decide +kernel]
  rfl
section
variable {prog : Program} {w : World} {A : Around} {E : Value → Shared → Prop} {s : Shared} {h₀ : Heap} {L : Addr} {m : PySem.Str → Option Value} {news news' : List (Addr × Obj)}
theorem inplace_iconcat {a b : Value} {T id : String} {Q : Value → Shared → Prop} (ha : s.TypeIs a T) (hb : s.TypeIs b T)
    (hfi : fillsInplaceSlot (.type T) "add" (Operator.Add == .Add) = pure false) (hfill : fillsNumberSlot (.type T) "add" = pure false) (hsi : seqSlot? (.type T) (dunderI "add") = pure (some (.builtin id)))
    (hc : wpAny (model prog w) A (call (.builtin id) [a, b]) Q E s) : wpAny (model prog w) A (inplaceOp .Add a b) Q E s := by
  unfold inplaceOp
  refine wpAny_holding ?_
  refine wpAny_bind (wpAny_typeOf ha (wpAny_bind (wpAny_of_eq hfi ?_)))
  show wpAny _ A (if false = true then _ else _) Q E s
  rw [if_neg Bool.false_ne_true]
  refine wpAny_bind (wpAny_binaryOp1_none (nm := "add") ha hb hfill ?_)
  refine wpAny_bind (wpAny_of_eq hsi ?_)
  exact wpAny_bind (wpAny_rule hc)
theorem iadd_lists {l b : Addr} {its its2 : List Value} {n n2 : Nat} {Q : Value → Shared → Prop} (F : Fr h₀ L s.heap m) (N : News h₀ L s.heap news) (hb : (b, listOf its2.toArray n2) ∈ news) (hz : its.length + its2.length ≤ 1000)
    (U : Upd l (listOf its.toArray n) (listOf (its ++ its2).toArray (n + 1)) news news') (hne : its2.length ≠ 0) (h : ∀ h', Fr h₀ L h' m → News h₀ L h' news' → Q (.ref l) { s with heap := h' }) :
    wpAny (model prog w) A (inplaceOp .Add (.ref l) (.ref b)) Q E s := by
  have zb := N _ hb
  obtain ⟨pre, post, rfl, rfl, a, c⟩ := U.split
  have z := N (l, listOf its.toArray n) (List.mem_append.mpr (.inr (.head _)))
  have hs1 : its.toArray.size ≤ sizeLine := by rw [List.size_toArray, PySem.sizeLine_eq]; omega
  have hs2 : its.toArray.size + its2.toArray.size ≤ sizeLine + 1 := by rw [List.size_toArray, List.size_toArray, PySem.sizeLine_eq]; omega
  have hs0 : ¬(!its.toArray.isEmpty && Builtin.List.listTooLong (its.toArray.size + its2.toArray.size)) = true := by
    have : Builtin.List.listTooLong (its.toArray.size + its2.toArray.size) = false := by
      unfold Builtin.List.listTooLong
      rw [List.size_toArray, List.size_toArray]
      simp only [decide_eq_false_iff_not]
      have := PySem.sizeLine_eq
      omega
    rw [this]; simp
  refine inplace_iconcat ⟨_, z.1, rfl⟩ ⟨_, zb.1, rfl⟩ fills_list_iadd noFill_list_add seq_list_iadd ?_
  refine call_meets PySem.F.slot_list_iadd ⟨_, z.1, rfl⟩ PySem.F.entry_list_iadd (PySem.F.args_list_iadd_2 _ _) (PySem.AutoSeq1.list___iadd___list_list_0 l its.toArray n b its2.toArray n2 hs0 hs1 hs2) ⟨z.1, zb.1, h _ (F.change (Heap.SameBut.update ..) z.2.1 z.2.2) (kl_turn _ N a c ?_ ?_)⟩
  · simp
  · simp only [List.size_toArray, List.length_append]; omega
end
end Mine
end
section
open PySem PySem.W PySem.Calls PyProof.Rows
set_option Elab.async false
set_option linter.unusedVariables false
namespace Mine
theorem v_toNat0 (i : Nat) : ((0 : Int) + (i : Int)).toNat = i := by omega
theorem v_toNat1 (k : Nat) : ((0 : Int) + (k : Int) + 1).toNat = k + 1 := by omega
theorem v_sub1 {k : Nat} (h : k < 2) : ((1 : Int) - (k : Int)).toNat = 1 - k := by omega
theorem v_nn0 (i : Nat) : (0 : Int) ≤ 0 + (i : Int) := by omega
theorem v_lt0 {i : Nat} (h : i < 24) : (0 : Int) + (i : Int) < 2 ^ 63 := by omega
theorem v_nn1 (i : Nat) : (0 : Int) ≤ 0 + (i : Int) + 1 := by omega
theorem v_lt1 {i : Nat} (h : i < 24) : (0 : Int) + (i : Int) + 1 < 2 ^ 63 := by omega
theorem v_le6 {i : Nat} (h : i < 24) : (0 : Int) + (i : Int) ≤ 1000000 := by omega
theorem v_le6' {i : Nat} (h : i < 24) : (i : Int) ≤ 1000000 := by omega
theorem v_k25 {k : Nat} (h : k < 24) : k + 1 < 25 := Nat.succ_lt_succ h
theorem v_neg3 (x : Int) : (-3 * x).natAbs = 3 * x.natAbs := by omega
theorem v_rows {i k a b : Nat} (hi : i < 2) (hk : k < 11) (h1 : a = b) (h2 : b ≤ 11 * i + k) : a < 1000 := by omega
theorem v_hit1 {bd c : Nat} {r M : Int} (h : r = max 0 (min (bd : Int) (c : Int))) (hM : M = min (bd : Int) (c : Int)) : r = M := by omega
theorem v_hit2 {bd c pl : Nat} {r M : Int} (h : r = max (bd : Int) (min (pl : Int) (c : Int))) (hp : pl = 24) (hc : c ≤ 24) (hM : M = max (bd : Int) (c : Int)) : r = M := by omega
theorem v_len {a j n : Nat} (hj : j ≤ n) (h : a = j) (hn : n ≤ 1000 := by decide) : a ≤ sizeLine := by rw [PySem.sizeLine_eq]; omega
theorem v_len' {a j n : Nat} (hj : j < n) (h : a = j) (hn : n ≤ 1000 := by decide) : a ≤ sizeLine := v_len (Nat.le_of_lt hj) h hn
theorem v_add {a b c d n : Nat} (h : a + b < n) (e : c + d ≤ b) : a + c + d < n := by omega
theorem v_add1 {a b c n : Nat} (h : a + b < n) (e : c ≤ b) : a + c < n := by omega
theorem v_d0 {a b : Nat} (ha : a ≤ 2) (hb : b ≤ 10) : a + b ≤ 100 := Nat.le_trans (Nat.add_le_add ha hb) (by decide)
theorem v_d1 {a b : Nat} (ha : a ≤ 2) (hb : b ≤ 10) : 1 + (a + b) ≤ 100 := Nat.le_trans (Nat.add_le_add_left (Nat.add_le_add ha hb) 1) (by decide)
theorem v_d2 {a b : Nat} (ha : a ≤ 2) (hb : b ≤ 10) : 1 + (a + b) + 1 ≤ 100 := Nat.le_trans (Nat.add_le_add_right (Nat.add_le_add_left (Nat.add_le_add ha hb) 1) 1) (by decide)
theorem v_d3 {a b : Nat} (ha : a ≤ 2) (hb : b ≤ 10) : 1 + (1 + (a + b)) + 1 ≤ 100 := Nat.le_trans (Nat.add_le_add_right (Nat.add_le_add_left (Nat.add_le_add_left (Nat.add_le_add ha hb) 1) 1) 1) (by decide)
theorem v_neg (a b : Nat) : -(a : Int) ≤ (b : Int) := by omega
theorem v_num1 (x : Int) : x % 2097152 - 1048576 < 2 ^ 1920 := by omega
theorem v_num2 (x : Int) : -2 ^ 1920 < x % 2097152 - 1048576 := by omega
theorem v_bit1 {a b : Int} (h : 0 ≤ a ∧ a ≤ 1) (h' : 0 ≤ b ∧ b ≤ 1) : -2 ^ 64 < a - b := by omega
theorem v_bit2 {a b : Int} (h : 0 ≤ a ∧ a ≤ 1) (h' : 0 ≤ b ∧ b ≤ 1) : a - b < 2 ^ 64 := by omega
theorem v_le24 {b pl : Nat} (hp : pl = 24) (hb : b ≤ 24) : (b : Int) ≤ (pl : Int) := by omega
theorem v_b24 {b : Nat} (h : b ≤ 24) : (b : Int) ≤ 24 := by omega
theorem v_pl {b : Nat} (h : b = 24) : (b : Int) ≤ 24 := by omega
theorem v_top {t : Int} {pl : Nat} (h : 1 ≤ t ∧ t ≤ 24) (hp : pl = 24) : t ≤ (pl : Int) := by omega
theorem v_abs0 (x : Int) : 0 ≤ if x < 0 then -x else x := by split <;> omega
theorem v_ap {x : Int} (h : x.natAbs ≤ 1048576) : (-3 * x).natAbs < 2 ^ 30 := by omega
theorem v_ap1 {x : Int} (h : x.natAbs ≤ 1048576) : x.natAbs < 2 ^ 30 := by omega
theorem v_ap3 {x : Int} (h : x.natAbs ≤ 1048576) : 3 * x.natAbs < 2 ^ 24 := by omega
theorem v_ap4 {x : Int} (h : x.natAbs ≤ 1048576) : x.natAbs < 2 ^ 24 := by omega
theorem v_dbl {k : Nat} (h : k < 2) : 1 - k < 2 := by omega
theorem v_lt63 {k n : Nat} (h : k < n) (hn : n ≤ 1000 := by decide) : (k : Int) < 2 ^ 63 := by omega
theorem v_cnt {c j n : Nat} (hj : j ≤ 24) (h : n = c) (hc : c ≤ j) : n ≤ sizeLine := by rw [PySem.sizeLine_eq]; omega
theorem v_sub63 {k : Nat} (h : k < 2) : (0 : Int) ≤ 1 - (k : Int) ∧ (1 : Int) - (k : Int) < 2 ^ 63 := by omega
theorem v_three (x : Nat) : ((3 * x : Nat) : Int) = 3 * (x : Int) := by omega
/-- what the law's if leaves: the term, with its sign -/
noncomputable def IfTerm (h₀ : Heap) (L : Addr) (m : PySem.Str → Option Value) (s₀ : Shared) (base : List (Addr × Obj)) (v : Int) (f : Flow) (s' : Shared) : Prop :=
  f = .next ∧ ∃ h tk t, s' = { s₀ with heap := h, toks := tk } ∧ Fr h₀ L h (fun y => if y = PySem.Str.ofString "term" then some (.int v t) else m y) ∧ News h₀ L h base
theorem if_term {M : Model} {A : Around} {E : Value → Shared → Prop} {s s₀ : Shared} {h₀ h : Heap} {L : Addr} {m : PySem.Str → Option Value} {base : List (Addr × Obj)} {v : Int} {t : Sem Flow} {Q : Flow → Shared → Prop} (F : Fr h₀ L h m) (N : News h₀ L h base)
    (h1 : wpAny M A t (IfTerm h₀ L m s₀ base v) E s)
    (h2 : ∀ h tk t, Fr h₀ L h (fun y => if y = PySem.Str.ofString "term" then some (.int v t) else m y) → News h₀ L h base → Q .next { s₀ with heap := h, toks := tk }) : wpAny M A t Q E s := by
  refine wpAny_mono h1 (fun f s' h => ?_) fun _ _ e => e
  obtain ⟨rfl, h, tk, t, rfl, F, N⟩ := h
  exact h2 h tk t F N
theorem v_term {left v x : Int} (h : x.natAbs ≤ 1048576 ∧ (-x).natAbs ≤ 1048576) (hv : v = if left < 0 then -x else x) : v.natAbs ≤ 1048576 := by
  rw [hv]; split
  · exact h.2
  · exact h.1
/-- the state that the states of a walk are told by -/
noncomputable def AtB (_ : Shared) : Prop := True
section
variable {M : Model} {A : Around} {E : Value → Shared → Prop} {s s₀ : Shared} {h₀ : Heap} {L a : Addr} {m : PySem.Str → Option Value} {cn : PySem.Str} {cs : Scope} {ccd : Value} {cl : List (PySem.Str × Addr)}
  {x : PySem.Str} {v : Value} {Q : Unit → Shared → Prop} {news : List (Addr × Obj)}
theorem store_flat (_ : AtB s₀) (F : Fr h₀ L s.heap m) (N : News h₀ L s.heap news) (e : s = { s₀ with heap := s.heap, toks := s.toks })
    (h : ∀ h' tk', Fr h₀ L h' (fun y => if y = x then some v else m y) → News h₀ L h' news → Q () { s₀ with heap := h', toks := tk' })
    (hk : cs.kind = .function) (hx : (envX cn cs L a ccd cl).kindOf x = some .local) : wpAny M A (storeName (envX cn cs L a ccd cl) x v) Q E s :=
  storeX_L F N (fun h' F' N' => by
    have h1 := h h' (s.toks + 1) F' N'
    rw [show ({ s with heap := h', toks := s.toks + 1 } : Shared) = { s₀ with heap := h', toks := s.toks + 1 } from by rw [e]]
    exact h1) hk hx
theorem store_int {i : Int} {t : Tok} (b : AtB s₀) (F : Fr h₀ L s.heap m) (N : News h₀ L s.heap news) (e : s = { s₀ with heap := s.heap, toks := s.toks })
    (h : ∀ h' tk' t', Fr h₀ L h' (fun y => if y = x then some (.int i t') else m y) → News h₀ L h' news → Q () { s₀ with heap := h', toks := tk' })
    (hk : cs.kind = .function) (hx : (envX cn cs L a ccd cl).kindOf x = some .local) : wpAny M A (storeName (envX cn cs L a ccd cl) x (.int i t)) Q E s :=
  store_flat b F N e (fun h' tk' F' N' => h h' tk' t F' N') hk hx
theorem store_str {i : PySem.Str} {t : Tok} (b : AtB s₀) (F : Fr h₀ L s.heap m) (N : News h₀ L s.heap news) (e : s = { s₀ with heap := s.heap, toks := s.toks })
    (h : ∀ h' tk' t', Fr h₀ L h' (fun y => if y = x then some (.str i t') else m y) → News h₀ L h' news → Q () { s₀ with heap := h', toks := tk' })
    (hk : cs.kind = .function) (hx : (envX cn cs L a ccd cl).kindOf x = some .local) : wpAny M A (storeName (envX cn cs L a ccd cl) x (.str i t)) Q E s :=
  store_flat b F N e (fun h' tk' F' N' => h h' tk' t F' N') hk hx
theorem wpAny_at {α : Type} {t : Sem α} {Q : α → Shared → Prop} {hp : Heap} {tk : Nat} (_ : AtB s₀) (h : wpAny M A t Q E { s₀ with heap := hp, toks := tk }) (e : s = { s₀ with heap := hp, toks := tk }) : wpAny M A t Q E s := e ▸ h
end
end Mine
end
section
open PySem PySem.W PySem.Calls PyProof.Rows
open Sem (wp)
set_option linter.unusedVariables false
set_option maxRecDepth 100000
namespace Mine
theorem caller_here : CallerIn (⟨.builtin "claim.caller" {}, none, none, [], none⟩ : Ctx) := .inl rfl

/-- the claim's own thread, its caller at hand -/
theorem thread_ends_C {prog : Program} {w : World} {t : Sem Fin} {s : Shared} {R : Result → Shared → Prop} (hreg : s.asleep)
    (h : wpC (model prog w) callerA t (fun fin s' => ∃ f, fin = .done f ∧ (R (.ok f) s' ∧ leftWithCleanup s'.gens = false)) (fun e s' => R (.error e) s' ∧ leftWithCleanup s'.gens = false) s) :
    ∃ n r s' s'', runN (denote table) prog w n s ⟨t, .builtin "claim.caller" {}, default, []⟩ = .halted (outcomeOf r) s' ∧
      schedN (denote table) prog w n (.single s ⟨t, .builtin "claim.caller" {}, default, []⟩) = .halted (outcomeOf r) s' ∧ s'.forget = s''.forget ∧ R r s'' := by
  have h0 : wp (model prog w) ⟨.builtin "claim.caller" {}, none, none, [], none⟩ t
      (Sem.finPost (model prog w) ⟨.builtin "claim.caller" {}, none, none, [], none⟩ fun r s' => R r s' ∧ leftWithCleanup s'.gens = false) (fun e _ s' => R (.error e) s' ∧ leftWithCleanup s'.gens = false) default s := by
    refine Sem.wp_mono _ _ t (fun fin p' s' h' => ?_) (fun _ _ _ h' => h') _ _ (h _ default caller_in caller_here)
    obtain ⟨f, rfl, hf⟩ := h'
    exact hf
  obtain ⟨n, r, s₁, s₂, hs, hn, hfo, hR⟩ := wp_halts_full (M := model prog w) (R := R) hreg h0
  exact ⟨n, r, s₂, s₁, hn, hs, hfo, hR⟩

/-- the law's call, asked with the caller below alone -/
abbrev WalkC (q : Program) (loose : List Str) (XP : (Str → Option Value) → Heap → Prop) (YP : World → Heap → Prop) (r : RowW) (d : DefRec) (kwd : List (Str × Expr)) : Prop :=
  ∀ (w : World) (s₀ s₁ : Shared) (mg mb : Str → Option Value), Ground q loose r.records XP w s₀ mg mb s₁.heap → YP w s₁.heap → ∀ (a : Addr) (o : Obj) (pm cd doc dV kV : Value), s₁.heap.get? a = some o →
    o.data = .func { docDef d.name d.params d.body d.scope pm cd doc with defaults := dV, kwdefaults := kV } → s₁.heap.CodeRec cd d.name → Dflts mg s₁.heap d.params kwd dV kV → mg d.name = some (.ref a) → s₁.gens = #[] →
    ∀ (args : List WData) (vals : List Value) (as : List Addr), r.claim.pre args = true → WData.layableAll args = true → ReadsAllW r.records (classAt s₀.heap) s₁.heap vals args as → WellAll w.params s₁.heap vals args → (∀ a ∈ as, (a == sysModules) = false) →
      wpC (model r.prog w) callerA (PySem.call (.ref a) vals) (fun v s' => GoodWG r.claim (classAt s₀.heap) (ExcName.means s₀.heap) args s₁ (.ok (.ret v)) s')
        (fun e s' => GoodWG r.claim (classAt s₀.heap) (ExcName.means s₀.heap) args s₁ (.error e) s') s₁

/-- the library's own equation of the top, under another name: so it is asked of the kernel at once, not in pieces (the pieces' twins would take 12 MB of the compiled file) -/
abbrev LeftAtOnce (p q : Program) (loose : List Str) (Xt : Shared → Bool) {α : Type} (Yf : Shared → α) (Ya : World → α) (N : Nat) : Prop := LeftO p q loose Xt Yf Ya N

theorem PySem.W.holds_open {r : OpenRow} {q : Program} {loose : List Str} {Xt : Shared → Bool} {XP : (Str → Option Value) → Heap → Prop} {α : Type} {Yf : Shared → α} {Ya : World → α} {YP : World → Heap → Prop} {d : DefRec} {kwd : List (Str × Expr)} {N : Nat}
    (left : LeftAtOnce r.prog q loose Xt Yf Ya N) (hY : ∀ w s, Yf s = Ya w → YP w s.heap) (hYk : ∀ w h h', YP w h → (∀ b o, h.get? b = some o → h'.get? b = some o) → YP w h')
    (hX : ∀ s, Xt s = true → XP (s.heap.nsMap mainGlobals) s.heap) (hXk : ∀ mg h h', XP mg h → (∀ b o, h.get? b = some o → h'.get? b = some o) → XP mg h')
    (hdef : defOf q r.name = some (d, kwd)) (hp : r.prog.theDef r.name = some (d.params, d.body, d.scope)) (hk : kwWritten? d.params.kwonlyargs d.params.kw_defaults = some kwd) (hRf : ∀ s, Xt s = true → RecFacts r.records s.heap) (hwr : (!r.writes || r.records.isEmpty) = true)
    (k1 : r.wellSaid = true) (ok : (chainsOk q && opensWell r.prog && (frees r.toRowW && r.within.isEmpty)) = true) (hb : r.prog.bare) (hw : r.toRowW.promised)
    (call : WalkC q loose XP YP r.toRowW d kwd) : r.Holds := by
  obtain ⟨ok, k5⟩ := Bool.and_eq_true_iff.mp ok
  obtain ⟨hch, o1⟩ := Bool.and_eq_true_iff.mp ok
  obtain ⟨k5, k6⟩ := Bool.and_eq_true_iff.mp k5
  obtain ⟨hsame, hu, hap, hap', hm⟩ := frees_parts k5
  refine ⟨k1, hw, ⟨⟨hb, o1, by show r.makers.map _ = []; rw [hm]; rfl⟩, hw.witness, fun w => ⟨(left.behind hX hch w).1, fun s' hs' => hide fun P0 kP => ?_⟩⟩⟩
  obtain ⟨s₀, hf, hg0, s, hT, hz, hgens, hg, G00, y⟩ := (left.behind (XP := fun mg h => XP mg h ∧ RecFacts r.records h) (fun s hs => ⟨hX s hs, hRf s hs⟩) hch w).2 s' hs'
  have G0 : Ground q loose [] XP w s (s.heap.nsMap mainGlobals) (s.heap.nsMap builtinsNs) s.heap := ⟨G00.T, G00.B, G00.D, G00.TE, G00.TD, G00.W, G00.X.1, G00.cls, G00.has, G00.apart, G00.once, G00.K⟩
  have RF := G00.X.2
  have hgens : s.gens = #[] := Array.eq_empty_of_size_eq_zero (beq_iff_eq.mp hgens)
  have G : Ground q loose r.records XP w s _ _ s.heap := RF.ground G0
  refine kP ⟨s₀, hf, hg0, s, hT, ?_, RF.1, RF.2.1, ?_⟩
  · intro n hn
    obtain rfl : n = r.name := by split at hn <;> simp_all
    exact pinned_of_view hg G0 hdef hp hk
  intro args hpre hlay ord hord
  refine hide fun P1 kP1 => ?_
  obtain ⟨⟨vs, s₁⟩, hlaid⟩ := Option.isSome_iff_exists.mp (layAllW_isSome (P := w.params) (ord := ord) G.has args r.args s (pre_splitW hpre).1)
  have keeps := layAllW_keeps _ _ _ hlaid
  have hal := layAllW_rest _ _ _ hlaid
  obtain ⟨as, hrd, hin, hold⟩ := reads_layAllW hord _ _ _ hlaid hlay s₁.heap (fun _ _ e => e)
  have L : Laid r.records w s s₁ args vs as := ⟨⟨ord, hord, hlaid⟩, hrd, hin, hold, keeps, hal.1.trans hgens, hal.2.2.1⟩
  have G₁ := G.keeps hXk keeps
  obtain ⟨a, o, pm, cd, doc, dV, kV, h1, h2, h3, h4, h5⟩ := G₁.fn hdef
  have hmg := defOf_name hdef ▸ h1
  have h := call w s s₁ _ _ G₁ (hYk _ _ _ (hY w s y) keeps) a o pm cd doc dV kV h2 h3 h4 h5 hmg L.gens args vs as hpre hlay L.reads L.well (L.low G.low)
  have hi := ident_freeW hu hap hap'
  have hwi : r.claim.within = [] := List.isEmpty_iff.mp k6
  -- what the claim asks of the end
  let P : Result → Shared → Prop := fun res s' => r.toRowW.claim.Ends s args vs s₁ res s' ∧ s'.os = s.os ∧ (r.writes = true → (∀ kps, namesKept r.prog kps s.heap s'.heap) ∧ ∀ x ∈ r.records, ∀ a, classAt s.heap x.1 = some a → recordClass s'.heap a x.1 (x.2.map (·.1)) = true)
  have fin : ∀ res s', GoodWG r.toRowW.claim (classAt s.heap) (ExcName.means s.heap) args s₁ res s' → P res s' ∧ leftWithCleanup s'.gens = false := fun res s' g =>
    have z := g.laid (c := r.toRowW.claim) hsame hwi hi L
    ⟨⟨z.1, z.2.1, fun q => ⟨fun kps => namesKept_of hT hg kps keeps g.2.1.old, noTable hwr q⟩⟩, leftWithCleanup_false_of_bare z.2.2⟩
  obtain ⟨k, res, s', s'', hrun, hsched, hfo, hcase, hos, hkp⟩ := thread_ends_C (prog := r.prog) (w := w) (s := s₁) (R := P) (t := do match ← nsGet mainNs r.name with
      | some f => do ret (← PySem.call f vs)
      | none => unsupported "claim.caller:no-such-global") (Shared.asleep_of_life hal.2.2.2 hz)
    (wpC_then (wpAny_nsGet G₁.T.g (by rw [h1]; exact wpC_bind (wpC_mono h (fun v s' g => wpC_pure ⟨_, rfl, fin _ _ g⟩) fun e s' g => fin _ _ g))))
  obtain ⟨eh, _, _, eo, _⟩ := Shared.forget_eq hfo
  have hcase := hcase.congr eh
  rw [← eo] at hos
  have hlife : s'.heap.life = s.heap.life := (runN_life _ _ _ hrun).trans hal.2.2.2
  refine kP1 ⟨vs, s₁, hlaid, k, _, s', hsched, ?_, (fun _ i x hx => by rw [hgens] at hx; simp at hx), ?_, by rw [hlife], Shared.rest_eq hos⟩
  · rcases hcase with ⟨v, rfl, d1, d2, d3, d4, d5⟩ | ⟨e, ob, cls, rfl, d1, d2, d3, d4, d5⟩
    · exact .inl ⟨v, rfl, d1, d2, d3, fun b o y _ => d4 b o y, d5⟩
    · exact .inr ⟨e, ob, cls, rfl, d1, d2, d3, d4, fun b o y _ => d5 b o y⟩
  · rw [eh]; exact fun q => ⟨(hkp q).1 _, (hkp q).2⟩
end Mine
end
section
open PySem PySem.W PyProof.Rows
set_option Elab.async false
namespace Mine
set_option maxRecDepth 100000 in
set_option maxHeartbeats 8000000 in
open_top hd for PySem.Challenge.rw_wy0017_01
end Mine
end
open PySem PySem.W PySem.Calls PyProof.Rows
local macro_rules | `(tactic| omega) => `(tactic| (first | with_reducible assumption | decide | with_reducible exact Int.natCast_nonneg _ | with_reducible exact Int.le_of_lt (by with_reducible assumption) | with_reducible exact Nat.lt_of_le_of_lt (Nat.le_add_right _ _) (by with_reducible assumption) | with_reducible exact Mine.v_add (by with_reducible assumption) (by decide) | with_reducible exact Mine.v_add1 (by with_reducible assumption) (by decide) | with_reducible exact Mine.v_neg _ _ | with_reducible exact Int.ofNat_lt.mpr (by with_reducible assumption) | with_reducible exact Mine.v_nn0 _ | with_reducible exact Mine.v_lt0 (by with_reducible assumption) | with_reducible exact Mine.v_le6 (by with_reducible assumption) | with_reducible exact Mine.v_le6' (by with_reducible assumption) | with_reducible exact Mine.v_num1 _ | with_reducible exact Mine.v_num2 _ | with_reducible exact Mine.v_bit1 (by with_reducible assumption) (by with_reducible assumption) | with_reducible exact Mine.v_bit2 (by with_reducible assumption) (by with_reducible assumption) | with_reducible exact Mine.v_abs0 _ | with_reducible exact Int.not_lt.mpr (by with_reducible assumption) | with_reducible exact Nat.le_trans (by with_reducible assumption) (by decide) | with_reducible exact Nat.lt_of_le_of_lt (by with_reducible assumption) (by decide) | with_reducible exact Int.le_trans (by with_reducible assumption) (by decide) | with_reducible exact Int.lt_of_le_of_lt (by with_reducible assumption) (by decide) | omega +splitDisjunctions))
local macro_rules | `(tactic| walk_at "storeName") => `(tactic| (k_here; k_dflt (first | (refine' Mine.store_int ?Bs ?F ?N ?hs ?_ ?a ?b; (case Bs => assumption); (case F => k_asm); (case N => k_asm); (case hs => exact rfl); (case a => rfl); (case b => rfl); k_whole; intro h' tk' t' F' N'; (try k_sweep)) | (refine' Mine.store_str ?Bs ?F ?N ?hs ?_ ?a ?b; (case Bs => assumption); (case F => k_asm); (case N => k_asm); (case hs => exact rfl); (case a => rfl); (case b => rfl); k_whole; intro h' tk' t' F' N'; (try k_sweep)) | (refine' Mine.store_flat ?Bs ?F ?N ?hs ?_ ?a ?b; (case Bs => assumption); (case F => k_asm); (case N => k_asm); (case hs => exact rfl); (case a => rfl); (case b => rfl); k_whole; intro h' tk' F' N'; (try k_sweep)))))
section
open PySem PySem.W PySem.Calls PyProof.Rows
set_option Elab.async false
set_option maxRecDepth 100000
set_option linter.unusedVariables false
namespace Mine
section
variable {prog : Program} {w : World} {p : Program} {loose : List Str} {mean : ExcName → Option Value} {mg mb : Str → Option Value}
  {dp un : Nat} {gd : Option (List Code)} {cn : Str} {cs : Scope} {a : Addr} {ccd : Value} {cl : List (Str × Addr)} {outer : List Env} {A₀ : Around} {base h₀ : Heap} {L : Addr} {m : Str → Option Value} {s : Shared} {Q E : Value → Shared → Prop} {news : List (Addr × Obj)}
  (B : Below A₀ base outer h₀) (F : Fr h₀ L s.heap m) (X : (Mine.hd.heap_39 w.params).In h₀) (N : News h₀ L s.heap news) (T : Top p loose mean mg mb h₀) (hk : cs.kind = .function)
include B F X N T hk
set_option maxHeartbeats 8000000
theorem size_c {l : Addr} {n : Nat} {v : Value} {i : Int} {t₀ : Tok} (hd : dp + 1 < recursionLimit) (hu : un + 8 < cLine) (hm : (l, tupO [.int i t₀, v] n) ∈ news)
    (hret : ∀ t h' tk', Fr h₀ L h' m → News h₀ L h' news → Q (.int (i.natAbs : Int) t) { s with heap := h', toks := tk' }) :
    wpAny (model prog w) (ktrTop dp un gd cn cs L a ccd cl outer) (call (.ref 115) [.ref l]) Q E s := by
  have bs : AtB s := trivial
  refine wpAny_call ?_
  k_dflt cell_enter
  k_steps
  have e : (if i < 0 then -i else i) = (i.natAbs : Int) := by split <;> omega
  rw [e]
  exact hret _ _ _ (by k_asm) (by k_asm)
theorem power_c {i : Int} {t₀ : Tok} (hd : dp + 1 < recursionLimit) (hu : un + 8 < cLine) (h0 : 0 ≤ i) (h1 : i ≤ 60)
    (hret : ∀ t h' tk', Fr h₀ L h' m → News h₀ L h' news → Q (.int (2 ^ i.toNat) t) { s with heap := h', toks := tk' }) :
    wpAny (model prog w) (ktrTop dp un gd cn cs L a ccd cl outer) (call (.ref 108) [.int i t₀]) Q E s := by
  have bs : AtB s := trivial
  refine wpAny_call ?_
  k_dflt cell_enter
  k_steps
  exact hret _ _ _ (by k_asm) (by k_asm)
theorem fewest_c {i : Int} {t₀ : Tok} (hd : dp + 1 < recursionLimit) (hu : un + 8 < cLine) (h0 : 0 ≤ i)
    (hret : ∀ t h' tk', Fr h₀ L h' m → News h₀ L h' news → Q (.int (fewest i) t) { s with heap := h', toks := tk' }) :
    wpAny (model prog w) (ktrTop dp un gd cn cs L a ccd cl outer) (call (.ref 160) [.int i t₀]) Q E s := by
  have bs : AtB s := trivial
  refine wpAny_call ?_
  k_dflt cell_enter
  (repeat' ((fail_if_success (with_reducible show PySem.wpAny _ _ (PySem.pyIter (PySem.Value.ref _)) _ _ _)); (first | (k_unfold; (try dsimp only)) | (k_end; wrow_close) | walk1 | (dsimp only; walk1) | (leave1; (try dsimp only)) | fail "no step")))
  (k_with_none)
  k_state (fun pre here above => (here, above) = pre.foldl (fewStep i) (0, 1)) "here" "above"
  (k_with "state" => first | exact few_a kInv (by assumption) | exact few_b kInv (by assumption))
  k_steps
  have e : (_, _) = (downKs 20 21).foldl (fewStep i) (0, 1) := kInv
  have e' := congrArg Prod.fst e
  dsimp only at e'
  rw [e']
  exact hret _ _ _ (by k_asm) (cb_drop (by assumption) (fun p hp => List.mem_cons_of_mem _ hp))
end
end Mine
end
section
open PySem PySem.W PySem.Calls PyProof.Rows
set_option Elab.async false
set_option maxRecDepth 100000
set_option linter.unusedVariables false
namespace Mine
section
variable {prog : Program} {w : World} {p : Program} {loose : List Str} {mean : ExcName → Option Value} {mg mb : Str → Option Value}
  {dp un : Nat} {gd : Option (List Code)} {cn : Str} {cs : Scope} {a : Addr} {ccd : Value} {cl : List (Str × Addr)} {outer : List Env} {A₀ : Around} {base h₀ : Heap} {L : Addr} {m : Str → Option Value} {s : Shared} {Q E : Value → Shared → Prop} {news : List (Addr × Obj)}
  (B : Below A₀ base outer h₀) (F : Fr h₀ L s.heap m) (X : (Mine.hd.heap_39 w.params).In h₀) (N : News h₀ L s.heap news) (T : Top p loose mean mg mb h₀) (hk : cs.kind = .function)
include B F X N T hk
set_option maxHeartbeats 8000000
theorem bisLP2_c {l : Addr} {n : Nat} {vs : List Value} {ks : List Int} {x lo hi : Int} {t₁ t₂ t₃ : Tok} (hd : dp + 4 < recursionLimit) (hu : un + 20 < cLine)
    (hm : (l, listOf vs.toArray n) ∈ news) (hia : IntsAre vs ks) (hks : ∀ k ∈ ks, 0 ≤ k ∧ k ≤ 60) (hlo : 0 ≤ lo) (hlh : lo ≤ hi) (hhi : hi ≤ vs.length) (hlen : vs.length < 1000) (M : Mono (kvP ks) vs.length)
    (hret : ∀ r t h' tk', BisL (kvP ks) x lo hi r → Fr h₀ L h' m → News h₀ L h' news → Q (.int r t) { s with heap := h', toks := tk' }) :
    wpAny (model prog w) (ktrTop dp un gd cn cs L a ccd cl outer) (call (.ref 50) [.ref l, .int x t₁, .int lo t₂, .int hi t₃] [(PySem.Str.ofString "key", .ref 108)]) Q E s := by
  have bs : AtB s := trivial
  refine wpAny_call ?_
  ((k_dflt (refine' code_def ?k1 ?k2 ?k3 ?k4 ?k5 ?kA ?kF ?kK ?k6 ?k7 ?k8 ?k9 ?kB ?_ ?c2 ?c3 ?c4 ?c5; (case kA => exact rfl); (case kF => exact rfl); (case kK => first | exact rfl | assumption); (case k1 => k_asm); (case k2 => k_asm); (case k3 => k_asm); (case k4 => k_asm); (case k5 => k_asm); (case k6 => k_is); (case k7 => k_is); (case k8 => first | ktr_room | (simp only [Around.mark, Around.deeper, ktrTop] at *; omega)); (case k9 => (refine' kp_binds ?kx ?ke; (case kx => k_in); (case ke => exact fun _ => rfl))); (case c5 => decide); (case kB => exact locs rfl); (case c2 => exact rfl); (case c3 => exact rfl); (case c4 => exact rfl); k_whole; intro g' L' h' FG' F' N' B' X' T'; (try dsimp only); (try k_lift B'); (try k_fold))))
  (repeat' ((fail_if_success (with_reducible show PySem.wpAny _ _ (PySem.exec (PySem.Stmt.While _ _ _ _) _) _ _ _)); (first | (k_unfold; (try dsimp only)) | (k_end; wrow_close) | walk1 | (dsimp only; walk1) | (leave1; (try dsimp only)) | fail "no step")))
  k_with_none
  (k_with "state" => exact bisLI_start _ _ hlh)
  k_while (fun _ (lo' hi' : Int) => BisLI (kvP ks) x lo hi lo' hi') (fun _ (lo' hi' : Int) => (hi' - lo').toNat) "lo" "hi"
  k_with_none
  (repeat' ((fail_if_success (with_reducible show PySem.wpAny _ _ (PyProof.Rows.subscriptTail _ _ _ _) _ _ _)); (first | (k_unfold; (try dsimp only)) | (k_end; wrow_close) | walk1 | (dsimp only; walk1) | (leave1; (try dsimp only)) | fail "no step")))
  · obtain ⟨ti, hti⟩ := bis_item hia kInv (by assumption) hlo hhi
    have hb := bis_bnd kInv (by assumption) hlo hhi hlen
    have hp := bis_in hia hks kInv (by assumption) hlo hhi
    refine item_n (by k_asm) (by k_mem) hb.1 hb.2.1 hti ?_
    (repeat' ((fail_if_success (with_reducible show PySem.wpAny _ _ (PySem.call (PySem.Value.ref _) _ _) _ _ _)); (first | (k_unfold; (try dsimp only)) | (k_end; wrow_close) | walk1 | (dsimp only; walk1) | (leave1; (try dsimp only)) | fail "no step")))
    k_dflt (refine' power_c ?k1 ?k2 ?k3 ?k4 ?k5 ?kK ?kd ?ku hp.1 hp.2 ?_; (((case k1 => k_asm); (case k2 => k_asm); (case k3 => k_asm); (case k4 => k_asm); (case k5 => k_asm); (case kK => first | exact rfl | assumption); (case kd => ktr_room); (case ku => ktr_units))))
    intro t9 h9 tk9 F9 N9
    try dsimp only
    (k_with "state" => first | exact bisLI_up M hlo hhi kInv (by assumption) (by assumption) | exact bisLI_dn M hlo hhi kInv (by assumption) (by assumption))
    (k_with "measure" => first | exact meas_up (by assumption) | exact meas_dn (by assumption))
    k_steps
  · exact hret _ _ _ _ (bisL_of kInv (by assumption)) (by k_asm) (by k_asm)

theorem bisLP1_c {l : Addr} {n : Nat} {vs : List Value} {ks : List Int} {x lo : Int} {t₁ t₂ : Tok} (hd : dp + 4 < recursionLimit) (hu : un + 20 < cLine)
    (hm : (l, listOf vs.toArray n) ∈ news) (hia : IntsAre vs ks) (hks : ∀ k ∈ ks, 0 ≤ k ∧ k ≤ 60) (hlo : 0 ≤ lo) (hlh : lo ≤ vs.length) (hlen : vs.length < 1000) (M : Mono (kvP ks) vs.length)
    (hret : ∀ r t h' tk', BisL (kvP ks) x lo (vs.length : Int) r → Fr h₀ L h' m → News h₀ L h' news → Q (.int r t) { s with heap := h', toks := tk' }) :
    wpAny (model prog w) (ktrTop dp un gd cn cs L a ccd cl outer) (call (.ref 50) [.ref l, .int x t₁, .int lo t₂] [(PySem.Str.ofString "key", .ref 108)]) Q E s := by
  have bs : AtB s := trivial
  refine wpAny_call ?_
  ((k_dflt (refine' code_def ?k1 ?k2 ?k3 ?k4 ?k5 ?kA ?kF ?kK ?k6 ?k7 ?k8 ?k9 ?kB ?_ ?c2 ?c3 ?c4 ?c5; (case kA => exact rfl); (case kF => exact rfl); (case kK => first | exact rfl | assumption); (case k1 => k_asm); (case k2 => k_asm); (case k3 => k_asm); (case k4 => k_asm); (case k5 => k_asm); (case k6 => k_is); (case k7 => k_is); (case k8 => first | ktr_room | (simp only [Around.mark, Around.deeper, ktrTop] at *; omega)); (case k9 => (refine' kp_binds ?kx ?ke; (case kx => k_in); (case ke => exact fun _ => rfl))); (case c5 => decide); (case kB => exact locs rfl); (case c2 => exact rfl); (case c3 => exact rfl); (case c4 => exact rfl); k_whole; intro g' L' h' FG' F' N' B' X' T'; (try dsimp only); (try k_lift B'); (try k_fold))))
  (repeat' ((fail_if_success (with_reducible show PySem.wpAny _ _ (PySem.call (PySem.Value.builtin "len") _ _) _ _ _)); (first | (k_unfold; (try dsimp only)) | (k_end; wrow_close) | walk1 | (dsimp only; walk1) | (leave1; (try dsimp only)) | fail "no step")))
  k_dflt (refine' kst_len ?k1 ?k2 rfl ?k3 ?_; (case k1 => k_asm); (case k2 => k_mem); (case k3 => omega))
  (repeat' ((fail_if_success (with_reducible show PySem.wpAny _ _ (PySem.exec (PySem.Stmt.While _ _ _ _) _) _ _ _)); (first | (k_unfold; (try dsimp only)) | (k_end; wrow_close) | walk1 | (dsimp only; walk1) | (leave1; (try dsimp only)) | fail "no step")))
  k_with_none
  (k_with "state" => exact bisLI_start _ _ hlh)
  k_while (fun _ (lo' hi' : Int) => BisLI (kvP ks) x lo (vs.length : Int) lo' hi') (fun _ (lo' hi' : Int) => (hi' - lo').toNat) "lo" "hi"
  k_with_none
  (repeat' ((fail_if_success (with_reducible show PySem.wpAny _ _ (PyProof.Rows.subscriptTail _ _ _ _) _ _ _)); (first | (k_unfold; (try dsimp only)) | (k_end; wrow_close) | walk1 | (dsimp only; walk1) | (leave1; (try dsimp only)) | fail "no step")))
  · obtain ⟨ti, hti⟩ := bis_item hia kInv (by assumption) hlo (Int.le_refl _)
    have hb := bis_bnd kInv (by assumption) hlo (Int.le_refl _) hlen
    have hp := bis_in hia hks kInv (by assumption) hlo (Int.le_refl _)
    refine item_n (by k_asm) (by k_mem) hb.1 hb.2.1 hti ?_
    (repeat' ((fail_if_success (with_reducible show PySem.wpAny _ _ (PySem.call (PySem.Value.ref _) _ _) _ _ _)); (first | (k_unfold; (try dsimp only)) | (k_end; wrow_close) | walk1 | (dsimp only; walk1) | (leave1; (try dsimp only)) | fail "no step")))
    k_dflt (refine' power_c ?k1 ?k2 ?k3 ?k4 ?k5 ?kK ?kd ?ku hp.1 hp.2 ?_; (((case k1 => k_asm); (case k2 => k_asm); (case k3 => k_asm); (case k4 => k_asm); (case k5 => k_asm); (case kK => first | exact rfl | assumption); (case kd => ktr_room); (case ku => ktr_units))))
    intro t9 h9 tk9 F9 N9
    try dsimp only
    (k_with "state" => first | exact bisLI_up M hlo (Int.le_refl _) kInv (by assumption) (by assumption) | exact bisLI_dn M hlo (Int.le_refl _) kInv (by assumption) (by assumption))
    (k_with "measure" => first | exact meas_up (by assumption) | exact meas_dn (by assumption))
    k_steps
  · exact hret _ _ _ _ (bisL_of kInv (by assumption)) (by k_asm) (by k_asm)
end
end Mine
end
section
open PySem PySem.W PySem.Calls PyProof.Rows
set_option Elab.async false
set_option maxRecDepth 100000
set_option linter.unusedVariables false
namespace Mine
section
variable {prog : Program} {w : World} {p : Program} {loose : List Str} {mean : ExcName → Option Value} {mg mb : Str → Option Value}
  {dp un : Nat} {gd : Option (List Code)} {cn : Str} {cs : Scope} {a : Addr} {ccd : Value} {cl : List (Str × Addr)} {outer : List Env} {A₀ : Around} {base h₀ : Heap} {L : Addr} {m : Str → Option Value} {s : Shared} {Q E : Value → Shared → Prop} {news : List (Addr × Obj)}
  (B : Below A₀ base outer h₀) (F : Fr h₀ L s.heap m) (X : (Mine.hd.heap_39 w.params).In h₀) (N : News h₀ L s.heap news) (T : Top p loose mean mg mb h₀) (hk : cs.kind = .function)
include B F X N T hk
set_option maxHeartbeats 8000000
theorem bisLP0_c {l : Addr} {n : Nat} {vs : List Value} {ks : List Int} {x : Int} {t₁ : Tok} (hd : dp + 4 < recursionLimit) (hu : un + 20 < cLine)
    (hm : (l, listOf vs.toArray n) ∈ news) (hia : IntsAre vs ks) (hks : ∀ k ∈ ks, 0 ≤ k ∧ k ≤ 60)  (hlen : vs.length < 1000) (M : Mono (kvP ks) vs.length)
    (hret : ∀ r t h' tk', BisL (kvP ks) x 0 (vs.length : Int) r → Fr h₀ L h' m → News h₀ L h' news → Q (.int r t) { s with heap := h', toks := tk' }) :
    wpAny (model prog w) (ktrTop dp un gd cn cs L a ccd cl outer) (call (.ref 50) [.ref l, .int x t₁] [(PySem.Str.ofString "key", .ref 108)]) Q E s := by
  have bs : AtB s := trivial
  refine wpAny_call ?_
  ((k_dflt (refine' code_def ?k1 ?k2 ?k3 ?k4 ?k5 ?kA ?kF ?kK ?k6 ?k7 ?k8 ?k9 ?kB ?_ ?c2 ?c3 ?c4 ?c5; (case kA => exact rfl); (case kF => exact rfl); (case kK => first | exact rfl | assumption); (case k1 => k_asm); (case k2 => k_asm); (case k3 => k_asm); (case k4 => k_asm); (case k5 => k_asm); (case k6 => k_is); (case k7 => k_is); (case k8 => first | ktr_room | (simp only [Around.mark, Around.deeper, ktrTop] at *; omega)); (case k9 => (refine' kp_binds ?kx ?ke; (case kx => k_in); (case ke => exact fun _ => rfl))); (case c5 => decide); (case kB => exact locs rfl); (case c2 => exact rfl); (case c3 => exact rfl); (case c4 => exact rfl); k_whole; intro g' L' h' FG' F' N' B' X' T'; (try dsimp only); (try k_lift B'); (try k_fold))))
  (repeat' ((fail_if_success (with_reducible show PySem.wpAny _ _ (PySem.call (PySem.Value.builtin "len") _ _) _ _ _)); (first | (k_unfold; (try dsimp only)) | (k_end; wrow_close) | walk1 | (dsimp only; walk1) | (leave1; (try dsimp only)) | fail "no step")))
  k_dflt (refine' kst_len ?k1 ?k2 rfl ?k3 ?_; (case k1 => k_asm); (case k2 => k_mem); (case k3 => omega))
  (repeat' ((fail_if_success (with_reducible show PySem.wpAny _ _ (PySem.exec (PySem.Stmt.While _ _ _ _) _) _ _ _)); (first | (k_unfold; (try dsimp only)) | (k_end; wrow_close) | walk1 | (dsimp only; walk1) | (leave1; (try dsimp only)) | fail "no step")))
  k_with_none
  (k_with "state" => exact bisLI_start _ _ (Int.natCast_nonneg _))
  k_while (fun _ (lo' hi' : Int) => BisLI (kvP ks) x 0 (vs.length : Int) lo' hi') (fun _ (lo' hi' : Int) => (hi' - lo').toNat) "lo" "hi"
  k_with_none
  (repeat' ((fail_if_success (with_reducible show PySem.wpAny _ _ (PyProof.Rows.subscriptTail _ _ _ _) _ _ _)); (first | (k_unfold; (try dsimp only)) | (k_end; wrow_close) | walk1 | (dsimp only; walk1) | (leave1; (try dsimp only)) | fail "no step")))
  · obtain ⟨ti, hti⟩ := bis_item hia kInv (by assumption) (Int.le_refl 0) (Int.le_refl _)
    have hb := bis_bnd kInv (by assumption) (Int.le_refl 0) (Int.le_refl _) hlen
    have hp := bis_in hia hks kInv (by assumption) (Int.le_refl 0) (Int.le_refl _)
    refine item_n (by k_asm) (by k_mem) hb.1 hb.2.1 hti ?_
    (repeat' ((fail_if_success (with_reducible show PySem.wpAny _ _ (PySem.call (PySem.Value.ref _) _ _) _ _ _)); (first | (k_unfold; (try dsimp only)) | (k_end; wrow_close) | walk1 | (dsimp only; walk1) | (leave1; (try dsimp only)) | fail "no step")))
    k_dflt (refine' power_c ?k1 ?k2 ?k3 ?k4 ?k5 ?kK ?kd ?ku hp.1 hp.2 ?_; (((case k1 => k_asm); (case k2 => k_asm); (case k3 => k_asm); (case k4 => k_asm); (case k5 => k_asm); (case kK => first | exact rfl | assumption); (case kd => ktr_room); (case ku => ktr_units))))
    intro t9 h9 tk9 F9 N9
    try dsimp only
    (k_with "state" => first | exact bisLI_up M (Int.le_refl 0) (Int.le_refl _) kInv (by assumption) (by assumption) | exact bisLI_dn M (Int.le_refl 0) (Int.le_refl _) kInv (by assumption) (by assumption))
    (k_with "measure" => first | exact meas_up (by assumption) | exact meas_dn (by assumption))
    k_steps
  · exact hret _ _ _ _ (bisL_of kInv (by assumption)) (by k_asm) (by k_asm)

theorem bisLSn_c {l : Addr} {n : Nat} {vs : List Value} {ts : List (Int × Int)} {x : Int} {t₁ t₂ : Tok} (hd : dp + 4 < recursionLimit) (hu : un + 20 < cLine)
    (hm : (l, listOf vs.toArray n) ∈ news) (hr : RowIs news vs ts)  (hlen : vs.length < 1000) (M : Mono (kvS ts) vs.length)
    (hret : ∀ r t h' tk', BisL (kvS ts) x 0 (vs.length : Int) r → Fr h₀ L h' m → News h₀ L h' news → Q (.int r t) { s with heap := h', toks := tk' }) :
    wpAny (model prog w) (ktrTop dp un gd cn cs L a ccd cl outer) (call (.ref 50) [.ref l, .int x t₁, .int 0 t₂, .none] [(PySem.Str.ofString "key", .ref 115)]) Q E s := by
  have bs : AtB s := trivial
  refine wpAny_call ?_
  ((k_dflt (refine' code_def ?k1 ?k2 ?k3 ?k4 ?k5 ?kA ?kF ?kK ?k6 ?k7 ?k8 ?k9 ?kB ?_ ?c2 ?c3 ?c4 ?c5; (case kA => exact rfl); (case kF => exact rfl); (case kK => first | exact rfl | assumption); (case k1 => k_asm); (case k2 => k_asm); (case k3 => k_asm); (case k4 => k_asm); (case k5 => k_asm); (case k6 => k_is); (case k7 => k_is); (case k8 => first | ktr_room | (simp only [Around.mark, Around.deeper, ktrTop] at *; omega)); (case k9 => (refine' kp_binds ?kx ?ke; (case kx => k_in); (case ke => exact fun _ => rfl))); (case c5 => decide); (case kB => exact locs rfl); (case c2 => exact rfl); (case c3 => exact rfl); (case c4 => exact rfl); k_whole; intro g' L' h' FG' F' N' B' X' T'; (try dsimp only); (try k_lift B'); (try k_fold))))
  (repeat' ((fail_if_success (with_reducible show PySem.wpAny _ _ (PySem.call (PySem.Value.builtin "len") _ _) _ _ _)); (first | (k_unfold; (try dsimp only)) | (k_end; wrow_close) | walk1 | (dsimp only; walk1) | (leave1; (try dsimp only)) | fail "no step")))
  k_dflt (refine' kst_len ?k1 ?k2 rfl ?k3 ?_; (case k1 => k_asm); (case k2 => k_mem); (case k3 => omega))
  (repeat' ((fail_if_success (with_reducible show PySem.wpAny _ _ (PySem.exec (PySem.Stmt.While _ _ _ _) _) _ _ _)); (first | (k_unfold; (try dsimp only)) | (k_end; wrow_close) | walk1 | (dsimp only; walk1) | (leave1; (try dsimp only)) | fail "no step")))
  k_with_none
  (k_with "state" => exact bisLI_start _ _ (Int.natCast_nonneg _))
  k_while (fun _ (lo' hi' : Int) => BisLI (kvS ts) x 0 (vs.length : Int) lo' hi') (fun _ (lo' hi' : Int) => (hi' - lo').toNat) "lo" "hi"
  k_with_none
  (repeat' ((fail_if_success (with_reducible show PySem.wpAny _ _ (PyProof.Rows.subscriptTail _ _ _ _) _ _ _)); (first | (k_unfold; (try dsimp only)) | (k_end; wrow_close) | walk1 | (dsimp only; walk1) | (leave1; (try dsimp only)) | fail "no step")))
  · obtain ⟨ti, ni, u1, u2, hti, hmi⟩ := row_item hr kInv (by assumption) (Int.le_refl 0) (Int.le_refl _)
    have hb := bis_bnd kInv (by assumption) (Int.le_refl 0) (Int.le_refl _) hlen
    refine item_n (by k_asm) (by k_mem) hb.1 hb.2.1 hti ?_
    (repeat' ((fail_if_success (with_reducible show PySem.wpAny _ _ (PySem.call (PySem.Value.ref _) _ _) _ _ _)); (first | (k_unfold; (try dsimp only)) | (k_end; wrow_close) | walk1 | (dsimp only; walk1) | (leave1; (try dsimp only)) | fail "no step")))
    k_dflt (refine' size_c ?k1 ?k2 ?k3 ?k4 ?k5 ?kK ?kd ?ku hmi ?_; (((case k1 => k_asm); (case k2 => k_asm); (case k3 => k_asm); (case k4 => k_asm); (case k5 => k_asm); (case kK => first | exact rfl | assumption); (case kd => ktr_room); (case ku => ktr_units))))
    intro t9 h9 tk9 F9 N9
    try dsimp only
    (k_with "state" => first | exact bisLI_up M (Int.le_refl 0) (Int.le_refl _) kInv (by assumption) (by assumption) | exact bisLI_dn M (Int.le_refl 0) (Int.le_refl _) kInv (by assumption) (by assumption))
    (k_with "measure" => first | exact meas_up (by assumption) | exact meas_dn (by assumption))
    k_steps
  · exact hret _ _ _ _ (bisL_of kInv (by assumption)) (by k_asm) (by k_asm)
end
end Mine
end
section
open PySem PySem.W PySem.Calls PyProof.Rows
set_option Elab.async false
set_option maxRecDepth 100000
set_option linter.unusedVariables false
namespace Mine
section
variable {prog : Program} {w : World} {p : Program} {loose : List Str} {mean : ExcName → Option Value} {mg mb : Str → Option Value}
  {dp un : Nat} {gd : Option (List Code)} {cn : Str} {cs : Scope} {a : Addr} {ccd : Value} {cl : List (Str × Addr)} {outer : List Env} {A₀ : Around} {base h₀ : Heap} {L : Addr} {m : Str → Option Value} {s : Shared} {Q E : Value → Shared → Prop} {news : List (Addr × Obj)}
  (B : Below A₀ base outer h₀) (F : Fr h₀ L s.heap m) (X : (Mine.hd.heap_39 w.params).In h₀) (N : News h₀ L s.heap news) (T : Top p loose mean mg mb h₀) (hk : cs.kind = .function)
include B F X N T hk
set_option maxHeartbeats 8000000
theorem bisRP2_c {l : Addr} {n : Nat} {vs : List Value} {ks : List Int} {x lo hi : Int} {t₁ t₂ t₃ : Tok} (hd : dp + 4 < recursionLimit) (hu : un + 20 < cLine)
    (hm : (l, listOf vs.toArray n) ∈ news) (hia : IntsAre vs ks) (hks : ∀ k ∈ ks, 0 ≤ k ∧ k ≤ 60) (hlo : 0 ≤ lo) (hlh : lo ≤ hi) (hhi : hi ≤ vs.length) (hlen : vs.length < 1000) (M : Mono (kvP ks) vs.length)
    (hret : ∀ r t h' tk', BisR (kvP ks) x lo hi r → Fr h₀ L h' m → News h₀ L h' news → Q (.int r t) { s with heap := h', toks := tk' }) :
    wpAny (model prog w) (ktrTop dp un gd cn cs L a ccd cl outer) (call (.ref 32) [.ref l, .int x t₁, .int lo t₂, .int hi t₃] [(PySem.Str.ofString "key", .ref 108)]) Q E s := by
  have bs : AtB s := trivial
  refine wpAny_call ?_
  ((k_dflt (refine' code_def ?k1 ?k2 ?k3 ?k4 ?k5 ?kA ?kF ?kK ?k6 ?k7 ?k8 ?k9 ?kB ?_ ?c2 ?c3 ?c4 ?c5; (case kA => exact rfl); (case kF => exact rfl); (case kK => first | exact rfl | assumption); (case k1 => k_asm); (case k2 => k_asm); (case k3 => k_asm); (case k4 => k_asm); (case k5 => k_asm); (case k6 => k_is); (case k7 => k_is); (case k8 => first | ktr_room | (simp only [Around.mark, Around.deeper, ktrTop] at *; omega)); (case k9 => (refine' kp_binds ?kx ?ke; (case kx => k_in); (case ke => exact fun _ => rfl))); (case c5 => decide); (case kB => exact locs rfl); (case c2 => exact rfl); (case c3 => exact rfl); (case c4 => exact rfl); k_whole; intro g' L' h' FG' F' N' B' X' T'; (try dsimp only); (try k_lift B'); (try k_fold))))
  (repeat' ((fail_if_success (with_reducible show PySem.wpAny _ _ (PySem.exec (PySem.Stmt.While _ _ _ _) _) _ _ _)); (first | (k_unfold; (try dsimp only)) | (k_end; wrow_close) | walk1 | (dsimp only; walk1) | (leave1; (try dsimp only)) | fail "no step")))
  k_with_none
  (k_with "state" => exact bisRI_start _ _ hlh)
  k_while (fun _ (lo' hi' : Int) => BisRI (kvP ks) x lo hi lo' hi') (fun _ (lo' hi' : Int) => (hi' - lo').toNat) "lo" "hi"
  k_with_none
  (repeat' ((fail_if_success (with_reducible show PySem.wpAny _ _ (PyProof.Rows.subscriptTail _ _ _ _) _ _ _)); (first | (k_unfold; (try dsimp only)) | (k_end; wrow_close) | walk1 | (dsimp only; walk1) | (leave1; (try dsimp only)) | fail "no step")))
  · obtain ⟨ti, hti⟩ := bisR_item hia kInv (by assumption) hlo hhi
    have hb := bisR_bnd kInv (by assumption) hlo hhi hlen
    have hp := bisR_in hia hks kInv (by assumption) hlo hhi
    refine item_n (by k_asm) (by k_mem) hb.1 hb.2.1 hti ?_
    (repeat' ((fail_if_success (with_reducible show PySem.wpAny _ _ (PySem.call (PySem.Value.ref _) _ _) _ _ _)); (first | (k_unfold; (try dsimp only)) | (k_end; wrow_close) | walk1 | (dsimp only; walk1) | (leave1; (try dsimp only)) | fail "no step")))
    k_dflt (refine' power_c ?k1 ?k2 ?k3 ?k4 ?k5 ?kK ?kd ?ku hp.1 hp.2 ?_; (((case k1 => k_asm); (case k2 => k_asm); (case k3 => k_asm); (case k4 => k_asm); (case k5 => k_asm); (case kK => first | exact rfl | assumption); (case kd => ktr_room); (case ku => ktr_units))))
    intro t9 h9 tk9 F9 N9
    try dsimp only
    (k_with "state" => first | exact bisRI_up M hlo hhi kInv (by assumption) (by assumption) | exact bisRI_dn M hlo hhi kInv (by assumption) (by assumption))
    (k_with "measure" => first | exact meas_up (by assumption) | exact meas_dn (by assumption))
    k_steps
  · exact hret _ _ _ _ (bisR_of kInv (by assumption)) (by k_asm) (by k_asm)

theorem bisRP1_c {l : Addr} {n : Nat} {vs : List Value} {ks : List Int} {x lo : Int} {t₁ t₂ : Tok} (hd : dp + 4 < recursionLimit) (hu : un + 20 < cLine)
    (hm : (l, listOf vs.toArray n) ∈ news) (hia : IntsAre vs ks) (hks : ∀ k ∈ ks, 0 ≤ k ∧ k ≤ 60) (hlo : 0 ≤ lo) (hlh : lo ≤ vs.length) (hlen : vs.length < 1000) (M : Mono (kvP ks) vs.length)
    (hret : ∀ r t h' tk', BisR (kvP ks) x lo (vs.length : Int) r → Fr h₀ L h' m → News h₀ L h' news → Q (.int r t) { s with heap := h', toks := tk' }) :
    wpAny (model prog w) (ktrTop dp un gd cn cs L a ccd cl outer) (call (.ref 32) [.ref l, .int x t₁, .int lo t₂] [(PySem.Str.ofString "key", .ref 108)]) Q E s := by
  have bs : AtB s := trivial
  refine wpAny_call ?_
  ((k_dflt (refine' code_def ?k1 ?k2 ?k3 ?k4 ?k5 ?kA ?kF ?kK ?k6 ?k7 ?k8 ?k9 ?kB ?_ ?c2 ?c3 ?c4 ?c5; (case kA => exact rfl); (case kF => exact rfl); (case kK => first | exact rfl | assumption); (case k1 => k_asm); (case k2 => k_asm); (case k3 => k_asm); (case k4 => k_asm); (case k5 => k_asm); (case k6 => k_is); (case k7 => k_is); (case k8 => first | ktr_room | (simp only [Around.mark, Around.deeper, ktrTop] at *; omega)); (case k9 => (refine' kp_binds ?kx ?ke; (case kx => k_in); (case ke => exact fun _ => rfl))); (case c5 => decide); (case kB => exact locs rfl); (case c2 => exact rfl); (case c3 => exact rfl); (case c4 => exact rfl); k_whole; intro g' L' h' FG' F' N' B' X' T'; (try dsimp only); (try k_lift B'); (try k_fold))))
  (repeat' ((fail_if_success (with_reducible show PySem.wpAny _ _ (PySem.call (PySem.Value.builtin "len") _ _) _ _ _)); (first | (k_unfold; (try dsimp only)) | (k_end; wrow_close) | walk1 | (dsimp only; walk1) | (leave1; (try dsimp only)) | fail "no step")))
  k_dflt (refine' kst_len ?k1 ?k2 rfl ?k3 ?_; (case k1 => k_asm); (case k2 => k_mem); (case k3 => omega))
  (repeat' ((fail_if_success (with_reducible show PySem.wpAny _ _ (PySem.exec (PySem.Stmt.While _ _ _ _) _) _ _ _)); (first | (k_unfold; (try dsimp only)) | (k_end; wrow_close) | walk1 | (dsimp only; walk1) | (leave1; (try dsimp only)) | fail "no step")))
  k_with_none
  (k_with "state" => exact bisRI_start _ _ hlh)
  k_while (fun _ (lo' hi' : Int) => BisRI (kvP ks) x lo (vs.length : Int) lo' hi') (fun _ (lo' hi' : Int) => (hi' - lo').toNat) "lo" "hi"
  k_with_none
  (repeat' ((fail_if_success (with_reducible show PySem.wpAny _ _ (PyProof.Rows.subscriptTail _ _ _ _) _ _ _)); (first | (k_unfold; (try dsimp only)) | (k_end; wrow_close) | walk1 | (dsimp only; walk1) | (leave1; (try dsimp only)) | fail "no step")))
  · obtain ⟨ti, hti⟩ := bisR_item hia kInv (by assumption) hlo (Int.le_refl _)
    have hb := bisR_bnd kInv (by assumption) hlo (Int.le_refl _) hlen
    have hp := bisR_in hia hks kInv (by assumption) hlo (Int.le_refl _)
    refine item_n (by k_asm) (by k_mem) hb.1 hb.2.1 hti ?_
    (repeat' ((fail_if_success (with_reducible show PySem.wpAny _ _ (PySem.call (PySem.Value.ref _) _ _) _ _ _)); (first | (k_unfold; (try dsimp only)) | (k_end; wrow_close) | walk1 | (dsimp only; walk1) | (leave1; (try dsimp only)) | fail "no step")))
    k_dflt (refine' power_c ?k1 ?k2 ?k3 ?k4 ?k5 ?kK ?kd ?ku hp.1 hp.2 ?_; (((case k1 => k_asm); (case k2 => k_asm); (case k3 => k_asm); (case k4 => k_asm); (case k5 => k_asm); (case kK => first | exact rfl | assumption); (case kd => ktr_room); (case ku => ktr_units))))
    intro t9 h9 tk9 F9 N9
    try dsimp only
    (k_with "state" => first | exact bisRI_up M hlo (Int.le_refl _) kInv (by assumption) (by assumption) | exact bisRI_dn M hlo (Int.le_refl _) kInv (by assumption) (by assumption))
    (k_with "measure" => first | exact meas_up (by assumption) | exact meas_dn (by assumption))
    k_steps
  · exact hret _ _ _ _ (bisR_of kInv (by assumption)) (by k_asm) (by k_asm)
end
end Mine
end
section
open PySem PySem.W PySem.Calls PyProof.Rows
set_option Elab.async false
set_option maxRecDepth 100000
set_option linter.unusedVariables false
namespace Mine
section
variable {prog : Program} {w : World} {p : Program} {loose : List Str} {mean : ExcName → Option Value} {mg mb : Str → Option Value}
  {dp un : Nat} {gd : Option (List Code)} {cn : Str} {cs : Scope} {a : Addr} {ccd : Value} {cl : List (Str × Addr)} {outer : List Env} {A₀ : Around} {base h₀ : Heap} {L : Addr} {m : Str → Option Value} {s : Shared} {Q E : Value → Shared → Prop} {news : List (Addr × Obj)}
  (B : Below A₀ base outer h₀) (F : Fr h₀ L s.heap m) (X : (Mine.hd.heap_39 w.params).In h₀) (N : News h₀ L s.heap news) (T : Top p loose mean mg mb h₀) (hk : cs.kind = .function)
include B F X N T hk
set_option maxHeartbeats 8000000
theorem bisRSn_c {l : Addr} {n : Nat} {vs : List Value} {ts : List (Int × Int)} {x : Int} {t₁ t₂ : Tok} (hd : dp + 4 < recursionLimit) (hu : un + 20 < cLine)
    (hm : (l, listOf vs.toArray n) ∈ news) (hr : RowIs news vs ts)  (hlen : vs.length < 1000) (M : Mono (kvS ts) vs.length)
    (hret : ∀ r t h' tk', BisR (kvS ts) x 0 (vs.length : Int) r → Fr h₀ L h' m → News h₀ L h' news → Q (.int r t) { s with heap := h', toks := tk' }) :
    wpAny (model prog w) (ktrTop dp un gd cn cs L a ccd cl outer) (call (.ref 32) [.ref l, .int x t₁, .int 0 t₂, .none] [(PySem.Str.ofString "key", .ref 115)]) Q E s := by
  have bs : AtB s := trivial
  refine wpAny_call ?_
  ((k_dflt (refine' code_def ?k1 ?k2 ?k3 ?k4 ?k5 ?kA ?kF ?kK ?k6 ?k7 ?k8 ?k9 ?kB ?_ ?c2 ?c3 ?c4 ?c5; (case kA => exact rfl); (case kF => exact rfl); (case kK => first | exact rfl | assumption); (case k1 => k_asm); (case k2 => k_asm); (case k3 => k_asm); (case k4 => k_asm); (case k5 => k_asm); (case k6 => k_is); (case k7 => k_is); (case k8 => first | ktr_room | (simp only [Around.mark, Around.deeper, ktrTop] at *; omega)); (case k9 => (refine' kp_binds ?kx ?ke; (case kx => k_in); (case ke => exact fun _ => rfl))); (case c5 => decide); (case kB => exact locs rfl); (case c2 => exact rfl); (case c3 => exact rfl); (case c4 => exact rfl); k_whole; intro g' L' h' FG' F' N' B' X' T'; (try dsimp only); (try k_lift B'); (try k_fold))))
  (repeat' ((fail_if_success (with_reducible show PySem.wpAny _ _ (PySem.call (PySem.Value.builtin "len") _ _) _ _ _)); (first | (k_unfold; (try dsimp only)) | (k_end; wrow_close) | walk1 | (dsimp only; walk1) | (leave1; (try dsimp only)) | fail "no step")))
  k_dflt (refine' kst_len ?k1 ?k2 rfl ?k3 ?_; (case k1 => k_asm); (case k2 => k_mem); (case k3 => omega))
  (repeat' ((fail_if_success (with_reducible show PySem.wpAny _ _ (PySem.exec (PySem.Stmt.While _ _ _ _) _) _ _ _)); (first | (k_unfold; (try dsimp only)) | (k_end; wrow_close) | walk1 | (dsimp only; walk1) | (leave1; (try dsimp only)) | fail "no step")))
  k_with_none
  (k_with "state" => exact bisRI_start _ _ (Int.natCast_nonneg _))
  k_while (fun _ (lo' hi' : Int) => BisRI (kvS ts) x 0 (vs.length : Int) lo' hi') (fun _ (lo' hi' : Int) => (hi' - lo').toNat) "lo" "hi"
  k_with_none
  (repeat' ((fail_if_success (with_reducible show PySem.wpAny _ _ (PyProof.Rows.subscriptTail _ _ _ _) _ _ _)); (first | (k_unfold; (try dsimp only)) | (k_end; wrow_close) | walk1 | (dsimp only; walk1) | (leave1; (try dsimp only)) | fail "no step")))
  · obtain ⟨ti, ni, u1, u2, hti, hmi⟩ := rowR_item hr kInv (by assumption) (Int.le_refl 0) (Int.le_refl _)
    have hb := bisR_bnd kInv (by assumption) (Int.le_refl 0) (Int.le_refl _) hlen
    refine item_n (by k_asm) (by k_mem) hb.1 hb.2.1 hti ?_
    (repeat' ((fail_if_success (with_reducible show PySem.wpAny _ _ (PySem.call (PySem.Value.ref _) _ _) _ _ _)); (first | (k_unfold; (try dsimp only)) | (k_end; wrow_close) | walk1 | (dsimp only; walk1) | (leave1; (try dsimp only)) | fail "no step")))
    k_dflt (refine' size_c ?k1 ?k2 ?k3 ?k4 ?k5 ?kK ?kd ?ku hmi ?_; (((case k1 => k_asm); (case k2 => k_asm); (case k3 => k_asm); (case k4 => k_asm); (case k5 => k_asm); (case kK => first | exact rfl | assumption); (case kd => ktr_room); (case ku => ktr_units))))
    intro t9 h9 tk9 F9 N9
    try dsimp only
    (k_with "state" => first | exact bisRI_up M (Int.le_refl 0) (Int.le_refl _) kInv (by assumption) (by assumption) | exact bisRI_dn M (Int.le_refl 0) (Int.le_refl _) kInv (by assumption) (by assumption))
    (k_with "measure" => first | exact meas_up (by assumption) | exact meas_dn (by assumption))
    k_steps
  · exact hret _ _ _ _ (bisR_of kInv (by assumption)) (by k_asm) (by k_asm)
end
end Mine
end
section
open PySem PySem.W PySem.Calls PyProof.Rows
set_option Elab.async false
set_option maxRecDepth 100000
set_option linter.unusedVariables false
namespace Mine
section
variable {prog : Program} {w : World} {p : Program} {loose : List Str} {mean : ExcName → Option Value} {mg mb : Str → Option Value}
  {dp un : Nat} {gd : Option (List Code)} {cn : Str} {cs : Scope} {a : Addr} {ccd : Value} {cl : List (Str × Addr)} {outer : List Env} {A₀ : Around} {base h₀ : Heap} {L : Addr} {m : Str → Option Value} {s : Shared} {Q E : Value → Shared → Prop} {news : List (Addr × Obj)}
  (B : Below A₀ base outer h₀) (F : Fr h₀ L s.heap m) (X : (Mine.hd.heap_39 w.params).In h₀) (N : News h₀ L s.heap news) (T : Top p loose mean mg mb h₀) (hk : cs.kind = .function)
include B F X N T hk
set_option maxHeartbeats 8000000

theorem reply_c {R M : PySem.Str} {t₁ t₂ : Tok} (hd : dp + 1 < recursionLimit) (hu : un + 8 < cLine) (hR : R.length ≤ 100) (hM : M.length ≤ 1) (hM3 : (Txt.mul M 3).length ≤ 3)
    (hret : ∀ t h' tk', Fr h₀ L h' m → News h₀ L h' news → Q (.str (replyS R M) t) { s with heap := h', toks := tk' }) :
    wpAny (model prog w) (ktrTop dp un gd cn cs L a ccd cl outer) (call (.ref 122) [.str R t₁, .str M t₂]) Q E s := by
  have bs : AtB s := trivial
  refine wpAny_call ?_
  k_dflt cell_enter
  k_steps
  exact hret _ _ _ (by k_asm) (by k_asm)
end
end Mine
end
section
open PySem PySem.W PySem.Calls PyProof.Rows
set_option Elab.async false
set_option maxRecDepth 100000
set_option linter.unusedVariables false
namespace Mine
section
variable {prog : Program} {w : World} {p : Program} {loose : List Str} {mean : ExcName → Option Value} {mg mb : Str → Option Value}
  {dp un : Nat} {gd : Option (List Code)} {cn : Str} {cs : Scope} {a : Addr} {ccd : Value} {cl : List (Str × Addr)} {outer : List Env} {A₀ : Around} {base h₀ : Heap} {L : Addr} {m : Str → Option Value} {s : Shared} {Q E : Value → Shared → Prop} {news : List (Addr × Obj)}
  (B : Below A₀ base outer h₀) (F : Fr h₀ L s.heap m) (X : (Mine.hd.heap_39 w.params).In h₀) (N : News h₀ L s.heap news) (T : Top p loose mean mg mb h₀) (hk : cs.kind = .function)
include B F X N T hk
set_option maxHeartbeats 8000000
theorem insL_c {l xa : Addr} {n nx : Nat} {vs : List Value} {ts : List (Int × Int)} {i : Int} {v : Value} {u₁ : Tok} {nw : List Value → Nat → List (Addr × Obj)} (hd : dp + 8 < recursionLimit) (hu : un + 40 < cLine)
    (hm : (l, listOf vs.toArray n) ∈ news) (hx : (xa, tupO [.int i u₁, v] nx) ∈ news) (hr : RowIs news vs ts) (hlen : vs.length < 1000) (M : Mono (kvS ts) vs.length)
    (hU : ∀ (vs' : List Value) (n' : Nat), Upd l (listOf vs.toArray n) (listOf vs'.toArray n') news (nw vs' n'))
    (hret : ∀ r h' tk', BisL (kvS ts) (i.natAbs : Int) 0 vs.length r → Fr h₀ L h' m → News h₀ L h' (nw (vs.take r.toNat ++ .ref xa :: vs.drop r.toNat) (n + 1)) → Q .none { s with heap := h', toks := tk' }) :
    wpAny (model prog w) (ktrTop dp un gd cn cs L a ccd cl outer) (call (.ref 41) [.ref l, .ref xa] [(PySem.Str.ofString "key", .ref 115)]) Q E s := by
  have bs : AtB s := trivial
  refine wpAny_call ?_
  ((k_dflt (refine' code_def ?k1 ?k2 ?k3 ?k4 ?k5 ?kA ?kF ?kK ?k6 ?k7 ?k8 ?k9 ?kB ?_ ?c2 ?c3 ?c4 ?c5; (case kA => exact rfl); (case kF => exact rfl); (case kK => first | exact rfl | assumption); (case k1 => k_asm); (case k2 => k_asm); (case k3 => k_asm); (case k4 => k_asm); (case k5 => k_asm); (case k6 => k_is); (case k7 => k_is); (case k8 => first | ktr_room | (simp only [Around.mark, Around.deeper, ktrTop] at *; omega)); (case k9 => (refine' kp_binds ?kx ?ke; (case kx => k_in); (case ke => exact fun _ => rfl))); (case c5 => decide); (case kB => exact locs rfl); (case c2 => exact rfl); (case c3 => exact rfl); (case c4 => exact rfl); k_whole; intro g' L' h' FG' F' N' B' X' T'; (try dsimp only); (try k_lift B'); (try k_fold))))
  (repeat' ((fail_if_success (with_reducible show PySem.wpAny _ _ (PySem.call (PySem.Value.ref _) _ _) _ _ _)); (first | (k_unfold; (try dsimp only)) | (k_end; wrow_close) | walk1 | (dsimp only; walk1) | (leave1; (try dsimp only)) | fail "no step")))
  k_dflt (refine' size_c ?k1 ?k2 ?k3 ?k4 ?k5 ?kK ?kd ?ku hx ?_; (((case k1 => k_asm); (case k2 => k_asm); (case k3 => k_asm); (case k4 => k_asm); (case k5 => k_asm); (case kK => first | exact rfl | assumption); (case kd => ktr_room); (case ku => ktr_units))))
  intro t9 h9 tk9 F9 N9
  try dsimp only
  (repeat' ((fail_if_success (with_reducible show PySem.wpAny _ _ (PySem.call (PySem.Value.ref _) _ _) _ _ _)); (first | (k_unfold; (try dsimp only)) | (k_end; wrow_close) | walk1 | (dsimp only; walk1) | (leave1; (try dsimp only)) | fail "no step")))
  k_dflt (refine' bisLSn_c ?k1 ?k2 ?k3 ?k4 ?k5 ?kK ?kd ?ku hm hr hlen M ?_; (((case k1 => k_asm); (case k2 => k_asm); (case k3 => k_asm); (case k4 => k_asm); (case k5 => k_asm); (case kK => first | exact rfl | assumption); (case kd => ktr_room); (case ku => ktr_units))))
  intro r8 t8 h8 tk8 hB F8 N8
  try dsimp only
  (repeat' ((fail_if_success (with_reducible show PySem.wpAny _ _ (PySem.call (PySem.Value.builtin "list.insert") _ _) _ _ _)); (first | (k_unfold; (try dsimp only)) | (k_end; wrow_close) | walk1 | (dsimp only; walk1) | (leave1; (try dsimp only)) | fail "no step")))
  have hins : kl_ins vs.toArray.toList r8 (.ref xa) = vs.take r8.toNat ++ .ref xa :: vs.drop r8.toNat := by
    obtain ⟨b1, b2, _, _⟩ := hB
    unfold kl_ins
    have e1 : ¬ r8 < 0 := by omega
    have e2 : min r8.toNat vs.toArray.toList.length = r8.toNat := by
      rw [List.toList_toArray]; omega
    rw [if_neg e1, e2]
  have hfit : Builtin.List.listFitsIndex r8 = true := by
    obtain ⟨b1, b2, _, _⟩ := hB
    simp only [Builtin.List.listFitsIndex, Bool.and_eq_true, decide_eq_true_eq]; omega
  k_dflt (refine' kl_insert ?F ?N hfit hins (hU _ _) ?z ?_; (case F => k_asm); (case N => k_asm); (case z => (rw [List.toList_toArray, PySem.sizeLine_eq]; omega)))
  intro h7 F7 N7
  k_steps
  exact hret _ _ _ hB (by k_asm) (by k_asm)
end
end Mine
end
section
open PySem PySem.W PySem.Calls PyProof.Rows
set_option Elab.async false
set_option maxRecDepth 100000
set_option linter.unusedVariables false
namespace Mine
section
variable {prog : Program} {w : World} {p : Program} {loose : List Str} {mean : ExcName → Option Value} {mg mb : Str → Option Value}
  {dp un : Nat} {gd : Option (List Code)} {cn : Str} {cs : Scope} {a : Addr} {ccd : Value} {cl : List (Str × Addr)} {outer : List Env} {A₀ : Around} {base h₀ : Heap} {L : Addr} {m : Str → Option Value} {s : Shared} {Q E : Value → Shared → Prop} {news : List (Addr × Obj)}
  (B : Below A₀ base outer h₀) (F : Fr h₀ L s.heap m) (X : (Mine.hd.heap_39 w.params).In h₀) (N : News h₀ L s.heap news) (T : Top p loose mean mg mb h₀) (hk : cs.kind = .function)
include B F X N T hk
set_option maxHeartbeats 8000000
theorem insR_c {l xa : Addr} {n nx : Nat} {vs : List Value} {ts : List (Int × Int)} {i : Int} {v : Value} {u₁ : Tok} {nw : List Value → Nat → List (Addr × Obj)} (hd : dp + 8 < recursionLimit) (hu : un + 40 < cLine)
    (hm : (l, listOf vs.toArray n) ∈ news) (hx : (xa, tupO [.int i u₁, v] nx) ∈ news) (hr : RowIs news vs ts) (hlen : vs.length < 1000) (M : Mono (kvS ts) vs.length)
    (hU : ∀ (vs' : List Value) (n' : Nat), Upd l (listOf vs.toArray n) (listOf vs'.toArray n') news (nw vs' n'))
    (hret : ∀ r h' tk', BisR (kvS ts) (i.natAbs : Int) 0 vs.length r → Fr h₀ L h' m → News h₀ L h' (nw (vs.take r.toNat ++ .ref xa :: vs.drop r.toNat) (n + 1)) → Q .none { s with heap := h', toks := tk' }) :
    wpAny (model prog w) (ktrTop dp un gd cn cs L a ccd cl outer) (call (.ref 23) [.ref l, .ref xa] [(PySem.Str.ofString "key", .ref 115)]) Q E s := by
  have bs : AtB s := trivial
  refine wpAny_call ?_
  ((k_dflt (refine' code_def ?k1 ?k2 ?k3 ?k4 ?k5 ?kA ?kF ?kK ?k6 ?k7 ?k8 ?k9 ?kB ?_ ?c2 ?c3 ?c4 ?c5; (case kA => exact rfl); (case kF => exact rfl); (case kK => first | exact rfl | assumption); (case k1 => k_asm); (case k2 => k_asm); (case k3 => k_asm); (case k4 => k_asm); (case k5 => k_asm); (case k6 => k_is); (case k7 => k_is); (case k8 => first | ktr_room | (simp only [Around.mark, Around.deeper, ktrTop] at *; omega)); (case k9 => (refine' kp_binds ?kx ?ke; (case kx => k_in); (case ke => exact fun _ => rfl))); (case c5 => decide); (case kB => exact locs rfl); (case c2 => exact rfl); (case c3 => exact rfl); (case c4 => exact rfl); k_whole; intro g' L' h' FG' F' N' B' X' T'; (try dsimp only); (try k_lift B'); (try k_fold))))
  (repeat' ((fail_if_success (with_reducible show PySem.wpAny _ _ (PySem.call (PySem.Value.ref _) _ _) _ _ _)); (first | (k_unfold; (try dsimp only)) | (k_end; wrow_close) | walk1 | (dsimp only; walk1) | (leave1; (try dsimp only)) | fail "no step")))
  k_dflt (refine' size_c ?k1 ?k2 ?k3 ?k4 ?k5 ?kK ?kd ?ku hx ?_; (((case k1 => k_asm); (case k2 => k_asm); (case k3 => k_asm); (case k4 => k_asm); (case k5 => k_asm); (case kK => first | exact rfl | assumption); (case kd => ktr_room); (case ku => ktr_units))))
  intro t9 h9 tk9 F9 N9
  try dsimp only
  (repeat' ((fail_if_success (with_reducible show PySem.wpAny _ _ (PySem.call (PySem.Value.ref _) _ _) _ _ _)); (first | (k_unfold; (try dsimp only)) | (k_end; wrow_close) | walk1 | (dsimp only; walk1) | (leave1; (try dsimp only)) | fail "no step")))
  k_dflt (refine' bisRSn_c ?k1 ?k2 ?k3 ?k4 ?k5 ?kK ?kd ?ku hm hr hlen M ?_; (((case k1 => k_asm); (case k2 => k_asm); (case k3 => k_asm); (case k4 => k_asm); (case k5 => k_asm); (case kK => first | exact rfl | assumption); (case kd => ktr_room); (case ku => ktr_units))))
  intro r8 t8 h8 tk8 hB F8 N8
  try dsimp only
  (repeat' ((fail_if_success (with_reducible show PySem.wpAny _ _ (PySem.call (PySem.Value.builtin "list.insert") _ _) _ _ _)); (first | (k_unfold; (try dsimp only)) | (k_end; wrow_close) | walk1 | (dsimp only; walk1) | (leave1; (try dsimp only)) | fail "no step")))
  have hins : kl_ins vs.toArray.toList r8 (.ref xa) = vs.take r8.toNat ++ .ref xa :: vs.drop r8.toNat := by
    obtain ⟨b1, b2, _, _⟩ := hB
    unfold kl_ins
    have e1 : ¬ r8 < 0 := by omega
    have e2 : min r8.toNat vs.toArray.toList.length = r8.toNat := by
      rw [List.toList_toArray]; omega
    rw [if_neg e1, e2]
  have hfit : Builtin.List.listFitsIndex r8 = true := by
    obtain ⟨b1, b2, _, _⟩ := hB
    simp only [Builtin.List.listFitsIndex, Bool.and_eq_true, decide_eq_true_eq]; omega
  k_dflt (refine' kl_insert ?F ?N hfit hins (hU _ _) ?z ?_; (case F => k_asm); (case N => k_asm); (case z => (rw [List.toList_toArray, PySem.sizeLine_eq]; omega)))
  intro h7 F7 N7
  k_steps
  exact hret _ _ _ hB (by k_asm) (by k_asm)
end
end Mine
end
section
open PySem PySem.W PySem.Calls PyProof.Rows
set_option Elab.async false
set_option maxRecDepth 100000
set_option linter.unusedVariables false
namespace Mine
section
variable {prog : Program} {w : World} {p : Program} {loose : List Str} {mean : ExcName → Option Value} {mg mb : Str → Option Value}
  {dp un : Nat} {gd : Option (List Code)} {cn : Str} {cs : Scope} {a : Addr} {ccd : Value} {cl : List (Str × Addr)} {outer : List Env} {A₀ : Around} {base h₀ : Heap} {L : Addr} {m : Str → Option Value} {s : Shared} {Q E : Value → Shared → Prop} {news : List (Addr × Obj)}
  (B : Below A₀ base outer h₀) (F : Fr h₀ L s.heap m) (X : (Mine.hd.heap_39 w.params).In h₀) (N : News h₀ L s.heap news) (T : Top p loose mean mg mb h₀) (hk : cs.kind = .function)
include B F X N T hk
set_option maxHeartbeats 8000000

theorem parse_c {i : Int} {R hs : PySem.Str} {t₁ t₂ : Tok} {v : Value} {la : Addr} {nn : Nat} (hd : dp + 4 < recursionLimit) (hu : un + 20 < cLine) (hm : (la, tupO [.str hs t₂, v] nn) ∈ news) (hD : Dressed i R)
    (hret : ∀ x t t' h' tk', Fr h₀ L h' m → News h₀ L h' ((x, tupO [.str hs t, .int i t'] 0) :: news) → (∀ p ∈ news, p.1 < x) → Q (.ref x) { s with heap := h', toks := tk' }) :
    wpAny (model prog w) (ktrTop dp un gd cn cs L a ccd cl outer) (call (.ref 94) [.str R t₁, .ref la]) Q E s := by
  have bs : AtB s := trivial
  obtain ⟨c, T, ⟨rl, r1, r2, r3, r4, r5, r6⟩, hI, hT, hc⟩ := hD
  refine wpAny_call ?_
  k_dflt cell_enter
  have f1 : (Txt.slice R none (some 3) != PySem.Str.ofString "229") = false := by rw [r1]; decide +kernel
  have hRl : R.length ≤ 44 := by omega
  (repeat' ((fail_if_success (with_reducible show PySem.wpAny _ _ (PySem.storeName _ _ _) _ _ _)); (first | (k_unfold; (try dsimp only)) | (k_end; wrow_close) | walk1 | (dsimp only; walk1) | (leave1; (try dsimp only)) | fail "no step")))
  rw [r2]
  (repeat' ((fail_if_success (with_reducible show PySem.wpAny _ _ (PySem.call (PySem.Value.builtin "str.find") _ _) _ _ _)); (first | (k_unfold; (try dsimp only)) | (k_end; wrow_close) | walk1 | (dsimp only; walk1) | (leave1; (try dsimp only)) | fail "no step")))
  (repeat' ((fail_if_success (with_reducible show PySem.wpAny _ _ (PySem.storeName _ _ _) _ _ _)); (first | (k_unfold; (try dsimp only)) | (k_end; wrow_close) | walk1 | (dsimp only; walk1) | (leave1; (try dsimp only)) | fail "no step")))
  rw [show (8 : Int) + 1 = 9 from rfl, r3]
  (repeat' ((fail_if_success (with_reducible show PySem.wpAny _ _ (PyProof.Rows.subscriptTail (PySem.Expr.Name _ _) (PySem.Expr.BinOp _ _ _ _) _ _) _ _ _)); (first | (k_unfold; (try dsimp only)) | (k_end; wrow_close) | walk1 | (dsimp only; walk1) | (leave1; (try dsimp only)) | fail "no step")))
  rw [show (8 : Int) + 1 = 9 from rfl]
  have f2 : (Txt.item R 9 != Txt.item R ((T.length : Int) + 15 - 1)) = false := by
    rw [show (T.length : Int) + 15 - 1 = (T.length : Int) + 14 by omega, r4, r5]; exact bne_self_eq_false _
  (repeat' ((fail_if_success (with_reducible show PySem.wpAny _ _ (PySem.storeName _ _ _) _ _ _)); (first | (k_unfold; (try dsimp only)) | (k_end; wrow_close) | walk1 | (dsimp only; walk1) | (leave1; (try dsimp only)) | fail "no step")))
  (rename (List.map _ _ = Txt.split _ _) => hk9)
  rw [show (8 : Int) + 1 = 9 from rfl, r4, r6] at hk9
  refine hide fun PH kP => ?_
  obtain ⟨p1, p2, p3, p4, p5, rfl⟩ := five_pairs hk9
  refine kP ?_
  clear kP PH hk9
  simp only [List.map_cons, List.map_nil] at *
  (repeat' ((fail_if_success (with_reducible show PySem.wpAny _ _ (PyProof.Rows.subscriptTail _ _ _ _) _ _ _)); (first | (k_unfold; (try dsimp only)) | (k_end; wrow_close) | walk1 | (dsimp only; walk1) | (leave1; (try dsimp only)) | fail "no step")))
  k_dflt (refine' tup_at (by k_asm) (List.mem_cons_of_mem _ hm) (by decide) (by decide) (j := 0) rfl rfl ?_)
  (repeat' ((fail_if_success (with_reducible show PySem.wpAny _ _ (PySem.call (PySem.Value.type "int") _ _) _ _ _)); (first | (k_unfold; (try dsimp only)) | (k_end; wrow_close) | walk1 | (dsimp only; walk1) | (leave1; (try dsimp only)) | fail "no step")))
  k_dflt (refine' KIN.call_text hI ?_ ?_)
  · show T.toArray.size ≤ 640
    rw [List.size_toArray]; omega
  k_steps
  (rename (_ ∧ AllLt _ _) => hlt)
  exact hret _ _ _ _ _ (by k_asm) (cb_drop (by assumption) drop_2nd) (kst_ltOf hlt.2)
end
end Mine
end
section
open PySem PySem.W PySem.Calls PyProof.Rows
set_option Elab.async false
set_option maxRecDepth 100000
set_option linter.unusedVariables false
namespace Mine
section
variable {prog : Program} {w : World} {p : Program} {loose : List Str} {mean : ExcName → Option Value} {mg mb : Str → Option Value}
  {dp un : Nat} {gd : Option (List Code)} {cn : Str} {cs : Scope} {a : Addr} {ccd : Value} {cl : List (Str × Addr)} {outer : List Env} {A₀ : Around} {base h₀ : Heap} {L : Addr} {m : Str → Option Value} {s : Shared} {Q E : Value → Shared → Prop} {news : List (Addr × Obj)}
  (B : Below A₀ base outer h₀) (F : Fr h₀ L s.heap m) (X : (Mine.hd.heap_39 w.params).In h₀) (N : News h₀ L s.heap news) (T : Top p loose mean mg mb h₀) (hk : cs.kind = .function)
include B F X N T hk
set_option maxHeartbeats 8000000

theorem dressed_c {i d : Int} {t₁ t₂ : Tok} (hd : dp + 4 < recursionLimit) (hu : un + 20 < cLine) (hi : i.natAbs ≤ 1048576)
    (hret : ∀ R t h' tk', Dressed i R → Fr h₀ L h' m → News h₀ L h' news → Q (.str R t) { s with heap := h', toks := tk' }) :
    wpAny (model prog w) (ktrTop dp un gd cn cs L a ccd cl outer) (call (.ref 129) [.int i t₁, .int d t₂]) Q E s := by
  have bs : AtB s := trivial
  refine wpAny_call ?_
  k_dflt cell_enter
  have hz := zeros_len d
  have hn := num_len (i := i) (by omega)
  (repeat' ((fail_if_success (with_reducible show PySem.wpAny _ _ (PySem.call (PySem.Value.ref _) _ _) _ _ _)); (first | (k_unfold; (try dsimp only)) | (k_end; wrow_close) | walk1 | (dsimp only; walk1) | (leave1; (try dsimp only)) | fail "no step")))
  all_goals (
    k_dflt (refine' reply_c ?k1 ?k2 ?k3 ?k4 ?k5 ?kK ?kd ?ku ?kR (mark_len d) (mark_len3 d) ?_; (((case k1 => k_asm); (case k2 => k_asm); (case k3 => k_asm); (case k4 => k_asm); (case k5 => k_asm); (case kK => first | exact rfl | assumption); (case kd => ktr_room); (case ku => ktr_units))); (case kR => (simp only [PySem.Str.length_append, ln_tab, ln_blank, ln_minus, ln_plus]; first | exact v_d3 hz hn | exact v_d2 hz hn | exact v_d1 hz hn | exact v_d0 hz hn | omega)))
    intro t9 h9 tk9 F9 N9
    try dsimp only
    k_steps
    refine hret _ _ _ _ ?_ (by k_asm) (by k_asm)
    have hi9 : i.natAbs < 10 ^ 9 := by omega
    have hz9 := zeros_z d
    first
    | (refine dressed_of (pre := [9]) (sg := [45]) (post := [32]) hi9 hz9 ?hx (by simp) (by simp) (by simp) ?hsi; (case hx => first | (simp only [PySem.Str.cps_append, Array.toList_append, zeros_list, ch_tab, ch_blank, ch_minus, ch_plus, List.append_assoc, List.cons_append, List.nil_append, List.append_nil]; done) | fail "no"); (case hsi => exact ⟨fun _ => by assumption, fun _ => rfl⟩))
    | (refine dressed_of (pre := []) (sg := [45]) (post := []) hi9 hz9 ?hx (by simp) (by simp) (by simp) ?hsi; (case hx => first | (simp only [PySem.Str.cps_append, Array.toList_append, zeros_list, ch_tab, ch_blank, ch_minus, ch_plus, List.append_assoc, List.cons_append, List.nil_append, List.append_nil]; done) | fail "no"); (case hsi => exact ⟨fun _ => by assumption, fun _ => rfl⟩))
    | (refine dressed_of (pre := [9]) (sg := [43]) (post := [32]) hi9 hz9 ?hx (by simp) (by simp) (by simp) ?hsi; (case hx => first | (simp only [PySem.Str.cps_append, Array.toList_append, zeros_list, ch_tab, ch_blank, ch_minus, ch_plus, List.append_assoc, List.cons_append, List.nil_append, List.append_nil]; done) | fail "no"); (case hsi => (refine ⟨fun h => ?_, fun h => absurd h ?_⟩; (simp at h); assumption)))
    | (refine dressed_of (pre := []) (sg := [43]) (post := []) hi9 hz9 ?hx (by simp) (by simp) (by simp) ?hsi; (case hx => first | (simp only [PySem.Str.cps_append, Array.toList_append, zeros_list, ch_tab, ch_blank, ch_minus, ch_plus, List.append_assoc, List.cons_append, List.nil_append, List.append_nil]; done) | fail "no"); (case hsi => (refine ⟨fun h => ?_, fun h => absurd h ?_⟩; (simp at h); assumption)))
    | (refine dressed_of (pre := [9]) (sg := []) (post := [32]) hi9 hz9 ?hx (by simp) (by simp) (by simp) ?hsi; (case hx => first | (simp only [PySem.Str.cps_append, Array.toList_append, zeros_list, ch_tab, ch_blank, ch_minus, ch_plus, List.append_assoc, List.cons_append, List.nil_append, List.append_nil]; done) | fail "no"); (case hsi => (refine ⟨fun h => ?_, fun h => absurd h ?_⟩; (simp at h); assumption)))
    | (refine dressed_of (pre := []) (sg := []) (post := []) hi9 hz9 ?hx (by simp) (by simp) (by simp) ?hsi; (case hx => first | (simp only [PySem.Str.cps_append, Array.toList_append, zeros_list, ch_tab, ch_blank, ch_minus, ch_plus, List.append_assoc, List.cons_append, List.nil_append, List.append_nil]; done) | fail "no"); (case hsi => (refine ⟨fun h => ?_, fun h => absurd h ?_⟩; (simp at h); assumption))))
end
end Mine
end
section
open PySem PySem.W PySem.Calls PyProof.Rows
set_option Elab.async false
set_option maxRecDepth 100000
set_option linter.unusedVariables false
namespace Mine
section
variable {prog : Program} {w : World} {p : Program} {loose : List Str} {mean : ExcName → Option Value} {mg mb : Str → Option Value}
  {dp un : Nat} {gd : Option (List Code)} {cn : Str} {cs : Scope} {a : Addr} {ccd : Value} {cl : List (Str × Addr)} {outer : List Env} {A₀ : Around} {base h₀ : Heap} {L : Addr} {m : Str → Option Value} {s : Shared} {Q E : Value → Shared → Prop} {news : List (Addr × Obj)}
  (B : Below A₀ base outer h₀) (F : Fr h₀ L s.heap m) (X : (Mine.hd.heap_39 w.params).In h₀) (N : News h₀ L s.heap news) (T : Top p loose mean mg mb h₀) (hk : cs.kind = .function)
include B F X N T hk
set_option maxHeartbeats 8000000

theorem int2ap_c {i : Int} {t₀ : Tok} (hd : dp + 1 < recursionLimit) (hu : un + 8 < cLine) (h0 : i.natAbs < 2 ^ 30)
    (hret : ∀ t h' tk', Fr h₀ L h' m → News h₀ L h' news → Q (.bytes (ap i.natAbs).toArray t) { s with heap := h', toks := tk' }) :
    wpAny (model prog w) (ktrTop dp un gd cn cs L a ccd cl outer) (call (.ref 101) [.int i t₀]) Q E s := by
  have bs : AtB s := trivial
  refine wpAny_call ?_
  k_dflt cell_enter
  (repeat' ((fail_if_success (with_reducible show PySem.wpAny _ _ (PySem.exec (PySem.Stmt.While _ _ _ _) _) _ _ _)); (first | (k_unfold; (try dsimp only)) | (k_end; wrow_close) | walk1 | (dsimp only; walk1) | (leave1; (try dsimp only)) | fail "no step")))
  k_with_none
  (k_with "state" => exact apI_start h0)
  k_while (fun _ (num : Int) (val : Array UInt8) => ApI i num val) (fun _ (num : Int) (val : Array UInt8) => num.toNat) "num" "val"
  k_with_none
  (repeat' ((fail_if_success (with_reducible show PySem.wpAny _ _ (PyProof.Rows.subscriptTail _ _ _ _) _ _ _)); (first | (k_unfold; (try dsimp only)) | (k_end; wrow_close) | walk1 | (dsimp only; walk1) | (leave1; (try dsimp only)) | fail "no step")))
  · (with_reducible rename Fr _ _ _ _ => F9)
    (with_reducible rename News _ _ _ _ => N9)
    refine bslice (s := ⟨_, _, _, _, _⟩) F9 N9 (by constructor) (by constructor) (by decide) ?_
    intro h8 t8 tk8 F8 N8
    rw [ap_pick]
    have hroom := apI_room kInv (by assumption)
    (repeat' ((fail_if_success (with_reducible show PySem.wpAny _ _ (PySem.binaryOp PySem.Operator.Add (PySem.Value.bytes _ _) (PySem.Value.bytes _ _)) _ _ _)); (first | (k_unfold; (try dsimp only)) | (k_end; wrow_close) | walk1 | (dsimp only; walk1) | (leave1; (try dsimp only)) | fail "no step")))
    refine KBy.add_bytes (by show 1 + _ ≤ _; omega) ?_
    intro t7 tk7
    (k_with "state" => exact apI_turn kInv (by assumption))
    (k_with "measure" => exact apI_meas kInv (by assumption))
    k_steps
  · rw [apI_end kInv (by assumption)]
    exact hret _ _ _ (by k_asm) (by k_asm)
end
end Mine
end
section
open PySem PySem.W PySem.Calls PyProof.Rows
set_option Elab.async false
set_option maxRecDepth 100000
set_option linter.unusedVariables false
namespace Mine
theorem wpC_hide {α : Type} {M : Model} {A : Around} {t : Sem α} {Q : α → Shared → Prop} {E : Value → Shared → Prop} {s : Shared}
    (h : ∀ (Q' : α → Shared → Prop) (E' : Value → Shared → Prop), (∀ v s, Q v s → Q' v s) → (∀ e s, E e s → E' e s) → wpC M A t Q' E' s) : wpC M A t Q E s := h Q E (fun _ _ h => h) (fun _ _ h => h)
section
variable {prog : Program} {w : World} {p : Program} {loose : List Str} {mean : ExcName → Option Value} {mg mb : Str → Option Value}
  {dp un : Nat} {gd : Option (List Code)} {cn : Str} {cs : Scope} {a : Addr} {ccd : Value} {cl : List (Str × Addr)} {outer : List Env} {A₀ : Around} {base h₀ : Heap} {L : Addr} {m : Str → Option Value} {s : Shared} {Q E : Value → Shared → Prop} {news : List (Addr × Obj)}
  (B : Below A₀ h₀ [] h₀) (F : Fr h₀ L s.heap m) (X : (Mine.hd.heap_39 w.params).In h₀) (N : News h₀ L s.heap news) (T : Top p loose mean mg mb h₀) (hk : cs.kind = .function)

include B F X N T hk
set_option maxHeartbeats 8000000

theorem nonum_c {d : Int} {t₁ : Tok} (hd : dp + 6 < recursionLimit) (hu : un + 40 < cLine)
    (hret : ∀ h' tk', Fr h₀ L h' m → News h₀ L h' news → Q (.bool true) { s with heap := h', toks := tk' }) :
    wpC (model prog w) (ktrTop dp un gd cn cs L a ccd cl []) (call (.ref 136) [.int d t₁]) Q E s := by
  have bs : AtB s := trivial
  refine wpC_call ?_
  ((k_dflt (refine' Mine.codeC_defS ?k1 ?k2 ?k3 ?k4 ?k5 ?kA ?kF ?kK ?k6 ?k7 ?k8 ?k9 ?kB ?_ ?c2 ?c3 ?c4 ?c5; (case kA => exact rfl); (case kF => exact rfl); (case kK => first | exact rfl | assumption); (case k1 => k_asm); (case k2 => k_asm); (case k3 => k_asm); (case k4 => k_asm); (case k5 => k_asm); (case k6 => k_is); (case k7 => k_is); (case k8 => ktr_room); (case k9 => exact BindsTo.of_eq rfl); (case c5 => decide); (case kB => exact locs rfl); (case c2 => exact rfl); (case c3 => exact rfl); (case c4 => exact rfl); k_whole; intro g' L' h' FG' F' N' B' X' T' D'; (try dsimp only); (try k_lift B'))))
  refine wpC_execs_cons (wpC_Try_except (wpC_execs_cons (wpC_Expr (wpC_Call ?_))))
  (try k_fold)
  k_steps
  refine wpC_callWith_K (K := Mine.hd.heap_39 w.params) (by assumption) (by k_is) ?_
  (try k_fold)
  (repeat' ((fail_if_success (with_reducible show PySem.wpAny _ _ (PySem.call (PySem.Value.ref _) _ _) _ _ _)); (first | (k_unfold; (try dsimp only)) | (k_end; wrow_close) | walk1 | (dsimp only; walk1) | (leave1; (try dsimp only)) | fail "no step")))
  k_dflt (refine' reply_c ?k1 ?k2 ?k3 ?k4 ?k5 ?kK ?kd ?ku (by decide +kernel) (mark_len d) (mark_len3 d) ?_; (((case k1 => k_asm); (case k2 => k_asm); (case k3 => k_asm); (case k4 => k_asm); (case k5 => k_asm); (case kK => first | exact rfl | assumption); (case kd => ktr_room); (case ku => ktr_units))))
  intro t9 h9 tk9 F9 N9
  try dsimp only
  (try k_fold)
  k_steps
  obtain ⟨c, hrep⟩ := rep_hyphen d
  generalize replyS (PySem.Str.ofString "-") (Txt.item (PySem.Str.ofString "|=!/") (Int.fmod d 4)) = R at *
  have rl := hrep.len
  have r1 := hrep.head
  have r2 := hrep.left
  have r3 := hrep.right
  have r4 := hrep.i1
  have r5 := hrep.i2
  have r6 := hrep.mid
  clear hrep
  have f1 : (Txt.slice R none (some 3) != PySem.Str.ofString "229") = false := by rw [r1]; decide +kernel
  have hRl : R.length ≤ 44 := by rw [rl]; decide
  refine wpC_hide ?_
  intro Q' E' hQ hE
  refine wpC_call ?_
  ((k_dflt (refine' Mine.codeC_def ?k1 ?k2 ?k3 ?k4 ?k5 ?kA ?kF ?kK ?k6 ?k7 ?k8 ?k9 ?kB ?_ ?c2 ?c3 ?c4 ?c5; (case kA => exact rfl); (case kF => exact rfl); (case kK => first | exact rfl | assumption); (case k1 => k_asm); (case k2 => k_asm); (case k3 => k_asm); (case k4 => k_asm); (case k5 => k_asm); (case k6 => k_is); (case k7 => k_is); (case k8 => ktr_room); (case k9 => exact BindsTo.of_eq rfl); (case c5 => decide); (case kB => exact locs rfl); (case c2 => exact rfl); (case c3 => exact rfl); (case c4 => exact rfl); k_whole; intro g' L' h' FG' F' N' B' X' T'; (try dsimp only); (try k_lift B'))))
  refine wpC_execs_then ?_
  (try k_fold)
  k_steps
  refine wpC_execs_then ?_
  (try k_fold)
  (repeat' ((fail_if_success (with_reducible show PySem.wpAny _ _ (PySem.storeName _ _ _) _ _ _)); (first | (k_unfold; (try dsimp only)) | (k_end; wrow_close) | walk1 | (dsimp only; walk1) | (leave1; (try dsimp only)) | fail "no step")))
  rw [r2]
  k_steps
  refine wpC_execs_then ?_
  (try k_fold)
  k_steps
  refine wpC_execs_then ?_
  (try k_fold)
  (repeat' ((fail_if_success (with_reducible show PySem.wpAny _ _ (PySem.storeName _ _ _) _ _ _)); (first | (k_unfold; (try dsimp only)) | (k_end; wrow_close) | walk1 | (dsimp only; walk1) | (leave1; (try dsimp only)) | fail "no step")))
  rw [show (8 : Int) + 1 = 9 from rfl, r3]
  k_steps
  refine wpC_execs_then ?_
  (try k_fold)
  k_steps
  refine wpC_execs_then ?_
  (try k_fold)
  (repeat' ((fail_if_success (with_reducible show PySem.wpAny _ _ (PyProof.Rows.subscriptTail (PySem.Expr.Name _ _) (PySem.Expr.BinOp _ _ _ _) _ _) _ _ _)); (first | (k_unfold; (try dsimp only)) | (k_end; wrow_close) | walk1 | (dsimp only; walk1) | (leave1; (try dsimp only)) | fail "no step")))
  rw [show (8 : Int) + 1 = 9 from rfl]
  have f2 : (Txt.item R 9 != Txt.item R ((([45] : List Nat).length : Int) + 15 - 1)) = false := by
    rw [show (([45] : List Nat).length : Int) + 15 - 1 = (([45] : List Nat).length : Int) + 14 by decide, r4, r5]; exact bne_self_eq_false _
  k_steps
  refine wpC_execs_then ?_
  (try k_fold)
  (repeat' ((fail_if_success (with_reducible show PySem.wpAny _ _ (PySem.storeName _ _ _) _ _ _)); (first | (k_unfold; (try dsimp only)) | (k_end; wrow_close) | walk1 | (dsimp only; walk1) | (leave1; (try dsimp only)) | fail "no step")))
  (rename (List.map _ _ = Txt.split _ _) => hk9)
  rw [show (8 : Int) + 1 = 9 from rfl, r4, r6] at hk9
  refine hide fun PH kP => ?_
  obtain ⟨p1, p2, p3, p4, p5, rfl⟩ := five_pairs hk9
  refine kP ?_
  clear kP PH hk9
  simp only [List.map_cons, List.map_nil] at *
  k_steps
  refine wpC_execs_then ?_
  (try k_fold)
  k_steps
  refine wpC_execs_then ?_
  (try k_fold)
  k_steps
  refine wpC_execs_cons (wpC_Assign_Name (wpC_Call ?_))
  (try k_fold)
  k_steps
  refine wpC_callWith_T ?_
  (try k_fold)
  k_steps
  refine refuse_call (by rfl) ?_
  intro hx tkx ex hex
  k_steps
  refine hE _ _ ?_
  clear hE hQ
  k_steps
  refine hret _ _ (by k_asm) ?_
  first
  | k_asm
  | exact cb_drop (by assumption) (fun p hp => List.mem_cons_of_mem _ hp)
  | exact cb_drop (by assumption) (fun p hp => List.mem_cons_of_mem _ (List.mem_cons_of_mem _ hp))
end
end Mine
end
section
open PySem PySem.W PySem.Calls PyProof.Rows
set_option Elab.async false
set_option maxRecDepth 100000
set_option linter.unusedVariables false
namespace Mine
section
variable {prog : Program} {w : World} {p : Program} {loose : List Str} {mean : ExcName → Option Value} {mg mb : Str → Option Value}
  {dp un : Nat} {gd : Option (List Code)} {cn : Str} {cs : Scope} {a : Addr} {ccd : Value} {cl : List (Str × Addr)} {outer : List Env} {A₀ : Around} {base h₀ : Heap} {L : Addr} {m : Str → Option Value} {s : Shared} {Q E : Value → Shared → Prop} {news : List (Addr × Obj)}
  (B : Below A₀ h₀ [] h₀) (F : Fr h₀ L s.heap m) (X : (Mine.hd.heap_39 w.params).In h₀) (N : News h₀ L s.heap news) (T : Top p loose mean mg mb h₀) (hk : cs.kind = .function)

include B F X N T hk
set_option maxHeartbeats 8000000


theorem barred_c {l : Addr} (hd : dp + 6 < recursionLimit) (hu : un + 40 < cLine)
    (hret : ∀ h' tk', Fr h₀ L h' m → News h₀ L h' news → Q (.bool true) { s with heap := h', toks := tk' }) :
    wpC (model prog w) (ktrTop dp un gd cn cs L a ccd cl []) (call (.ref 143) [.ref l]) Q E s := by
  have bs : AtB s := trivial
  refine wpC_call ?_
  ((k_dflt (refine' Mine.codeC_defS ?k1 ?k2 ?k3 ?k4 ?k5 ?kA ?kF ?kK ?k6 ?k7 ?k8 ?k9 ?kB ?_ ?c2 ?c3 ?c4 ?c5; (case kA => exact rfl); (case kF => exact rfl); (case kK => first | exact rfl | assumption); (case k1 => k_asm); (case k2 => k_asm); (case k3 => k_asm); (case k4 => k_asm); (case k5 => k_asm); (case k6 => k_is); (case k7 => k_is); (case k8 => ktr_room); (case k9 => exact BindsTo.of_eq rfl); (case c5 => decide); (case kB => exact locs rfl); (case c2 => exact rfl); (case c3 => exact rfl); (case c4 => exact rfl); k_whole; intro g' L' h' FG' F' N' B' X' T' D'; (try dsimp only); (try k_lift B'))))
  refine wpC_execs_then ?_
  (try k_fold)
  k_steps
  refine wpAny_call ?_
  ((k_dflt (refine' code_def ?k1 ?k2 ?k3 ?k4 ?k5 ?kA ?kF ?kK ?k6 ?k7 ?k8 ?k9 ?kB ?_ ?c2 ?c3 ?c4 ?c5; (case kA => exact rfl); (case kF => exact rfl); (case kK => first | exact rfl | assumption); (case k1 => k_asm); (case k2 => k_asm); (case k3 => k_asm); (case k4 => k_asm); (case k5 => k_asm); (case k6 => k_is); (case k7 => k_is); (case k8 => first | ktr_room | (simp only [Around.mark, Around.deeper, ktrTop] at *; omega)); (case k9 => (refine' kp_binds ?kx ?ke; (case kx => k_in); (case ke => exact fun _ => rfl))); (case c5 => decide); (case kB => exact locs rfl); (case c2 => exact rfl); (case c3 => exact rfl); (case c4 => exact rfl); k_whole; intro g' L' h' FG' F' N' B' X' T'; (try dsimp only); (try k_lift B'); (try k_fold))))
  (repeat' ((fail_if_success (with_reducible show PySem.wpAny _ _ (PySem.leaving _ (PySem.Value.ref _)) _ _ _)); (first | (k_unfold; (try dsimp only)) | (k_end; wrow_close) | walk1 | (dsimp only; walk1) | (leave1; (try dsimp only)) | fail "no step")))
  refine leave_newC (by assumption) (by assumption) (by assumption) (by assumption) ?_
  intro h1 R1 U1
  (repeat' ((fail_if_success (with_reducible show PySem.wpAny _ _ (PySem.noteFrame (PySem.Value.ref _) _) _ _ _)); (first | (k_unfold; (try dsimp only)) | (k_end; wrow_close) | walk1 | (dsimp only; walk1) | (leave1; (try dsimp only)) | fail "no step")))
  refine' caughtC (X := "ValueError") (T' := "ValueError") ?R ?F ?K ?U ?XB ?TB ?D ?ex PyProof.Rows.Boot.«ValueError» (by decide) PySem.F.isExc_ValueError PySem.F.notTuple_ValueError ?hs ?_
  case R => exact R1
  case F => assumption
  case K => assumption
  case U => exact U1
  case XB => assumption
  case TB => assumption
  case D => assumption
  case ex => k_is
  case hs => kts_sub
  intro h2 g2 o2 v2 hd2 hv2 T2 F2 N2 K2 X2 P2 D2
  (repeat' ((fail_if_success (with_reducible show PySem.wpAny _ _ (PySem.call (PySem.Value.ref _) _ _) _ _ _)); (first | (k_unfold; (try dsimp only)) | (k_end; wrow_close) | walk1 | (dsimp only; walk1) | (leave1; (try dsimp only)) | fail "no step")))
  refine wpAny_call ?_
  ((k_dflt (refine' code_def ?k1 ?k2 ?k3 ?k4 ?k5 ?kA ?kF ?kK ?k6 ?k7 ?k8 ?k9 ?kB ?_ ?c2 ?c3 ?c4 ?c5; (case kA => exact rfl); (case kF => exact rfl); (case kK => first | exact rfl | assumption); (case k1 => k_asm); (case k2 => k_asm); (case k3 => k_asm); (case k4 => k_asm); (case k5 => k_asm); (case k6 => k_is); (case k7 => k_is); (case k8 => first | ktr_room | (simp only [Around.mark, Around.deeper, ktrTop] at *; omega)); (case k9 => (refine' kp_binds ?kx ?ke; (case kx => k_in); (case ke => exact fun _ => rfl))); (case c5 => decide); (case kB => exact locs rfl); (case c2 => exact rfl); (case c3 => exact rfl); (case c4 => exact rfl); k_whole; intro g' L' h' FG' F' N' B' X' T'; (try dsimp only); (try k_lift B'); (try k_fold))))
  (repeat' ((fail_if_success (with_reducible show PySem.wpAny _ _ (PySem.exec (PySem.Stmt.Raise _ _ _) _) _ _ _)); (first | (k_unfold; (try dsimp only)) | (k_end; wrow_close) | walk1 | (dsimp only; walk1) | (leave1; (try dsimp only)) | fail "no step")))
  refine Raise_ctx rfl ?_
  (repeat' ((fail_if_success (with_reducible show PySem.wpAny _ _ (PySem.call (PySem.Value.type _) _ _) _ _ _)); (first | (k_unfold; (try dsimp only)) | (k_end; wrow_close) | walk1 | (dsimp only; walk1) | (leave1; (try dsimp only)) | fail "no step")))
  rename News _ _ _ ((_, o2) :: news) => N2'
  refine call_exc_two (one_le_line _) excClass_ValueError ?_
  intro h3 e3 hx3
  refine under_of hx3 N2' hd2 hv2 ?_
  intro h4 ob4 t4 he4 hc4 hd4 hk4 hn4
  dsimp only
  (repeat' ((fail_if_success (with_reducible show PySem.wpAny _ _ (PySem.leaving _ (PySem.Value.ref _)) _ _ _)); (first | (k_unfold; (try dsimp only)) | (k_end; wrow_close) | walk1 | (dsimp only; walk1) | (leave1; (try dsimp only)) | fail "no step")))
  refine leave_newX (by assumption) (by assumption) (by assumption) hk4 hn4 he4 hc4 hd4 rfl rfl ?_
  intro h5 R5 RN5 U5
  k_steps
  refine caught_noRaise ?_
  refine' caught_SN0 (A₀ := (ktrTop dp un gd cn cs L a ccd cl []).mark (some (.ref _))) (X := "ValueError") (T' := "ValueError") ?R ?F ?K ?U ?XB ?TB ?D ?T0 ?ex PyProof.Rows.Boot.«ValueError» ?hn PySem.F.isExc_ValueError PySem.F.notTuple_ValueError ?hs ?_
  case R => exact R5
  case F => assumption
  case K => exact below_mark (by assumption)
  case U => exact U5
  case XB => assumption
  case TB => assumption
  case D => assumption
  case T0 => exact KtsTurn.refl
  case hs => kts_sub
  case ex => k_is
  case hn => decide
  intro h6 g6 T6 F6 N6 K6 X6 P6 D6
  k_steps
  dsimp only
  k_steps
  refine leaveS0_ F6 N6 (T2.trans T6) ?_
  intro kF kN
  exact hret _ _ kF (cb_drop kN (fun p hp => List.mem_cons_of_mem _ hp))
end
end Mine
end
section
open PySem PySem.W PySem.Calls PyProof.Rows
set_option Elab.async false
set_option maxRecDepth 100000
set_option linter.unusedVariables false
namespace Mine
section
variable {prog : Program} {w : World} {p : Program} {loose : List Str} {mean : ExcName → Option Value} {mg mb : Str → Option Value}
  {dp un : Nat} {gd : Option (List Code)} {cn : Str} {cs : Scope} {a : Addr} {ccd : Value} {cl : List (Str × Addr)} {outer : List Env} {A₀ : Around} {base h₀ : Heap} {L : Addr} {m : Str → Option Value} {s : Shared} {Q E : Value → Shared → Prop} {news : List (Addr × Obj)}
  (B : Below A₀ base outer h₀) (F : Fr h₀ L s.heap m) (X : (Mine.hd.heap_39 w.params).In h₀) (N : News h₀ L s.heap news) (T : Top p loose mean mg mb h₀) (hk : cs.kind = .function)
include B F X N T hk
set_option maxHeartbeats 8000000
theorem figures_c {b : Array UInt8} {t₀ : Tok} (hd : dp + 1 < recursionLimit) (hu : un + 8 < cLine) (hb : b.size ≤ 6)
    (hret : ∀ l n us h' tk', Fr h₀ L h' m → News h₀ L h' ((l, listOf (List.toArray us) n) :: news) → IntsAre us (figsOf b.toList.reverse ++ List.replicate (25 - 4 * b.size) 0) → (∀ p ∈ news, p.1 < l) → Q (.ref l) { s with heap := h', toks := tk' }) :
    wpAny (model prog w) (ktrTop dp un gd cn cs L a ccd cl outer) (call (.ref 153) [.bytes b t₀]) Q E s := by
  have bs : AtB s := trivial
  refine wpAny_call ?_
  k_dflt cell_enter
  (repeat' ((fail_if_success (with_reducible show PySem.wpAny _ _ (PySem.exec (PySem.Stmt.Assign (_ :: _) (PySem.Expr.ListComp _ _ _ _) _) _) _ _ _)); (first | (k_unfold; (try dsimp only)) | (k_end; wrow_close) | walk1 | (dsimp only; walk1) | (leave1; (try dsimp only)) | fail "no step")))
  refine comp_assign (by with_unfolding_all rfl) (by rfl) (by rfl) (by decide) ?_
  (repeat' ((fail_if_success (with_reducible show PySem.wpAny _ _ (PyProof.Rows.subscriptTail _ _ _ _) _ _ _)); (first | (k_unfold; (try dsimp only)) | (k_end; wrow_close) | walk1 | (dsimp only; walk1) | (leave1; (try dsimp only)) | fail "no step")))
  (with_reducible rename Fr _ _ _ _ => F9)
  (with_reducible rename News _ _ _ _ => N9)
  refine bytes_rev (s := ⟨_, _, _, _, _⟩) F9 N9 (by omega) ?_
  intro h8 t8 tk8 F8 N8
  refine src_bytes (s := ⟨_, _, _, _, _⟩) rfl F8 N8 ?_
  intro I h7 Sr
  refine comp_core2 (by decide) (by rfl) (by rfl) (by rfl) (by decide) Sr (fun i ys nw => nw = news ∧ IntsAre ys (figsOf (b.toList.reverse.take i))) ⟨rfl, .nil⟩ (fun _ _ _ _ => trivial) ?body ?fin
  case body =>
    rintro C D i v ys m₁ nw oI oC h6 tk6 hi ⟨c, u6, hc, rfl⟩ ⟨rfl, hys⟩ hoC hm1 F6 N6 off6 pl
    (repeat' ((fail_if_success (with_reducible show PySem.wpAny _ _ (PySem.pyIter _) _ _ _)); (first | (k_unfold; (try dsimp only)) | (k_end; wrow_close) | walk1 | (dsimp only; walk1) | (leave1; (try dsimp only)) | fail "no step")))
    (with_reducible rename Fr _ _ _ _ => F4)
    (with_reducible rename News _ _ _ _ => N4)
    (with_reducible rename IsRange _ _ _ _ _ _ _ _ => R4)
    refine src_range (s := ⟨_, _, _, _, _⟩) (n := 4) rfl F4 N4 R4 (by decide) (by decide) ?_
    intro I2 h3 Sr2
    rename IntsAre ys _ => hys
    refine ⟨I2, 4, _, _, _, _, nw, h3, _, rfl, rfl, Sr2, ?c1, ?c2, off6, (fun j zs nw' => j ≤ 4 ∧ nw' = nw ∧ IntsAre zs (figsOf (b.toList.reverse.take i) ++ (List.range j).map fun k => Int.fmod (Int.fdiv ((c.toNat : Int) - 65) (2 ^ k)) 2)), ⟨by decide, rfl, by simpa using hys⟩, (fun _ _ _ _ => trivial), ?c3, ?c4, ?c5⟩
    case c1 => 
      have := Sr2.off (C, oC) (by simp)
      simpa using this
    case c2 => 
      have := Sr2.off (D, LCg.lst ys) (by simp)
      simpa using this
    case c3 =>
      rintro j zs nw' ⟨hj, rfl, hzs⟩
      have h1 := ints_len hzs
      rw [List.length_append, fig_len, List.length_map, List.length_range, List.length_take, List.length_reverse] at h1
      have h2 : b.toList.length = b.size := Array.length_toList
      rw [PySem.sizeLine_eq]; omega
    case c4 =>
      rintro j v₂ zs m₂ nw2 oI2 oC2 h2 tk2 hj ⟨t2, rfl⟩ ⟨hj4, rfl, hzs⟩ hoC2 hm21 hm22 F2 N2 off2 pl2 hII
      refine wpAny_tests_nil ?_
      simp only [if_true]
      k_steps
      refine ⟨_, _, _, rfl, F2, N2, ?_, _, rfl, ?_, hj, rfl, fig_snoc hzs⟩
      · intro p hp
        rcases List.mem_cons.mp hp with rfl | hp
        · exact ⟨hII, pl.IC, pl.ID⟩
        · exact ⟨(off2 p hp).1, (off2 p hp).2.1, (off2 p hp).2.2.1⟩
      · exact fun p hp => (off2 p hp).2.2.2
    case c5 =>
      rintro zs nw' ⟨_, rfl, hzs⟩
      exact ⟨rfl, by rw [fig_take (by simpa using hc)]; exact hzs⟩
  case fin =>
    intro C D ys m' nw h6 tk6 hJ F6 hn6 N6 off oD hCD hCL hC0
    refine' post_assign ?q1 ?q2 ?q3 F6 hn6 N6 off hCD hCL hC0 ?_
    case q1 => rfl
    case q2 => rfl
    case q3 => rfl
    intro h5 tk5 F5 N5
    obtain ⟨rfl, hys⟩ := hJ
    dsimp only
    have hyl : ys.length = 4 * b.size := by
      have h1 := ints_len hys
      rw [fig_len] at h1
      rw [h1]
      simp
    (repeat' ((fail_if_success (with_reducible show PySem.wpAny _ _ (PySem.call (PySem.Value.builtin "len") _ _) _ _ _)); (first | (k_unfold; (try dsimp only)) | (k_end; wrow_close) | walk1 | (dsimp only; walk1) | (leave1; (try dsimp only)) | fail "no step")))
    k_dflt (refine' kst_len ?k1 ?k2 hyl ?k3 ?_; (case k1 => k_asm); (case k2 => k_mem); (case k3 => omega))
    (repeat' ((fail_if_success (with_reducible show PySem.wpAny _ _ (PySem.binaryOp PySem.Operator.Add _ _) _ _ _)); (first | (k_unfold; (try dsimp only)) | (k_end; wrow_close) | walk1 | (dsimp only; walk1) | (leave1; (try dsimp only)) | fail "no step")))
    (with_reducible rename News _ _ _ _ => NB)
    k_steps
    (with_reducible rename IntsAre _ _ => hzero)
    refine hret _ _ _ _ _ (by k_asm) (cb_drop (by assumption) drop_3) (fig_all hys hzero) (fun p hp => Heap.lt_size (NB p (.tail _ (.tail _ (.tail _ hp)))).1)
end
end Mine
end
section
open PySem PySem.W PySem.Calls PyProof.Rows
set_option Elab.async false
set_option maxRecDepth 100000
set_option linter.unusedVariables false
namespace Mine
section
variable {prog : Program} {w : World} {p : Program} {loose : List Str} {mean : ExcName → Option Value} {mg mb : Str → Option Value}
  {dp un : Nat} {gd : Option (List Code)} {cn : Str} {cs : Scope} {a : Addr} {ccd : Value} {cl : List (Str × Addr)} {outer : List Env} {A₀ : Around} {base h₀ : Heap} {L : Addr} {m : Str → Option Value} {s : Shared} {Q E : Value → Shared → Prop} {news : List (Addr × Obj)}
  (B : Below A₀ base outer h₀) (F : Fr h₀ L s.heap m) (X : (Mine.hd.heap_39 w.params).In h₀) (N : News h₀ L s.heap news) (T : Top p loose mean mg mb h₀) (hk : cs.kind = .function)
include B F X N T hk
set_option maxHeartbeats 8000000
theorem read_c {b : Array UInt8} {t₀ : Tok} (hd : dp + 1 < recursionLimit) (hu : un + 90 < cLine) (hb : b.size ≤ 6) (hL : ∀ c ∈ b.toList, 65 ≤ c.toNat ∧ c.toNat ≤ 80) (hA : ((KBy.picked b none (some 1)).toList == #[(65 : UInt8)].toList) = false)
    (hret : ∀ t h' tk', Fr h₀ L h' m → News h₀ L h' news → Q (.int (readOf b b.size).sum t) { s with heap := h', toks := tk' }) :
    wpAny (model prog w) (ktrTop dp un gd cn cs L a ccd cl outer) (call (.ref 148) [.bytes b t₀]) Q E s := by
  have bs : AtB s := trivial
  refine wpAny_call ?_
  ((k_dflt (refine' code_defC ?k1 ?k2 ?k3 ?k4 ?k5 ?kA ?kF ?kK ?k6 ?k7 ?k8 ?k9 ?kB ?kD ?_ ?c2 ?c3 ?c4; (case kA => exact rfl); (case kF => exact rfl); (case kK => first | exact rfl | assumption); (case k1 => k_asm); (case k2 => k_asm); (case k3 => k_asm); (case k4 => k_asm); (case k5 => k_asm); (case k6 => k_is); (case k7 => k_is); (case k8 => ktr_room); (case k9 => exact BindsTo.of_eq rfl); (case kB => exact rfl); (case kD => decide +kernel); (case c2 => exact rfl); (case c3 => exact rfl); (case c4 => exact rfl); k_whole; intro g' L' h' tk' cells' FG' F' N' Y' B' X' T' l1; k_cells Y'; (try simp only [List.cons_append, List.nil_append] at N'); (try dsimp only); (try k_lift B'); (try k_fold))))
  (repeat' ((fail_if_success (with_reducible show PySem.wpAny _ _ (PyProof.Rows.subscriptTail _ _ _ _) _ _ _)); (first | (k_unfold; (try dsimp only)) | (k_end; wrow_close) | walk1 | (dsimp only; walk1) | (leave1; (try dsimp only)) | fail "no step")))
  (with_reducible rename Fr _ _ _ _ => F9)
  (with_reducible rename News _ _ _ _ => N9)
  refine bslice (s := ⟨_, _, _, _, _⟩) F9 N9 (by constructor) (by constructor) (by omega) ?_
  intro h8 t8 tk8 F8 N8
  generalize hp : KBy.picked b none (some 1) = b1 at hA ⊢
  (repeat' ((fail_if_success (with_reducible show PySem.wpAny _ _ (PySem.eval (PySem.Expr.ListComp _ _ _ _) _) _ _ _)); (first | (k_unfold; (try dsimp only)) | (k_end; wrow_close) | walk1 | (dsimp only; walk1) | (leave1; (try dsimp only)) | fail "no step")))
  refine comp_eval (by rfl) (by rfl) (by decide) ?_
  (repeat' ((fail_if_success (with_reducible show PySem.wpAny _ _ (PySem.pyIter _) _ _ _)); (first | (k_unfold; (try dsimp only)) | (k_end; wrow_close) | walk1 | (dsimp only; walk1) | (leave1; (try dsimp only)) | fail "no step")))
  (with_reducible rename Fr _ _ _ _ => F7)
  (with_reducible rename News _ _ _ _ => N7)
  refine src_bytes (s := ⟨_, _, _, _, _⟩) rfl F7 N7 ?_
  intro I h7 Sr
  refine comp_core (by decide) (by rfl) (by rfl) Sr (fun i ys nw => nw = _ ∧ ys = []) ⟨rfl, rfl⟩ (fun _ _ _ _ => trivial) (by rintro _ _ _ ⟨_, rfl⟩; exact Nat.zero_le _) ?body ?fin
  case body =>
    rintro C D i v ys m₂ nw oI oC h6 tk6 hi ⟨c, u6, hc, rfl⟩ ⟨rfl, rfl⟩ hoC hm1 F6 N6 off6 pl
    refine wpAny_tests_one ?_
    have hcr := hL c (mem_of_get hc)
    k_steps
    exact ⟨_, _, _, rfl, F6, N6, off6, rfl, rfl⟩
  case fin =>
    rintro C D ys m' nw h6 tk6 ⟨rfl, rfl⟩ F6 hn6 N6 off oD hCD hCL hC0
    refine post_eval F6 hn6 N6 off hCD hCL hC0 ?_
    intro h5 F5 N5
    (repeat' ((fail_if_success (with_reducible show PySem.wpAny _ _ (PySem.eval (PySem.Expr.ListComp _ _ _ _) _) _ _ _)); (first | (k_unfold; (try dsimp only)) | (k_end; wrow_close) | walk1 | (dsimp only; walk1) | (leave1; (try dsimp only)) | fail "no step")))
    refine comp_eval (by rfl) (by rfl) (by decide) ?_
    (repeat' ((fail_if_success (with_reducible show PySem.wpAny _ _ (PySem.pyIter _) _ _ _)); (first | (k_unfold; (try dsimp only)) | (k_end; wrow_close) | walk1 | (dsimp only; walk1) | (leave1; (try dsimp only)) | fail "no step")))
    (with_reducible rename Fr _ _ _ _ => F4)
    (with_reducible rename News _ _ _ _ => N4)
    (with_reducible rename IsRange _ _ _ _ _ _ _ _ => R4)
    refine src_range (s := ⟨_, _, _, _, _⟩) (n := b.size) rfl F4 N4 R4 (rng_small (by omega)) rng_size ?_
    intro I2 h3 Sr2
    refine comp_core (by decide) (by rfl) (by rfl) Sr2 (fun i ys nw => i ≤ b.size ∧ nw = _ ∧ IntsAre ys (readOf b i)) ⟨Nat.zero_le _, rfl, .nil⟩ (fun _ _ _ _ => trivial) ?sz ?body ?fin
    case sz =>
      rintro i ys nw ⟨hi, rfl, hys⟩
      have h1 := ints_len hys
      rw [read_len] at h1
      rw [PySem.sizeLine_eq]; omega
    case body =>
      rintro C D i v ys m₂ nw oI oC h6 tk6 hi ⟨t6, rfl⟩ ⟨hi2, rfl, hys⟩ hoC hm1 F6 N6 off6 pl
      refine wpAny_tests_nil ?_
      simp only [if_true]
      (repeat' ((fail_if_success (with_reducible show PySem.wpAny _ _ (PyProof.Rows.subscriptTail _ _ _ _) _ _ _)); (first | (k_unfold; (try dsimp only)) | (k_end; wrow_close) | walk1 | (dsimp only; walk1) | (leave1; (try dsimp only)) | fail "no step")))
      refine bytes_back (s := ⟨_, _, _, _, _⟩) (k := i) (by omega) (by omega) hi ?_
      have hcr := hL _ (rev_mem hi)
      k_steps
      refine ⟨_, _, _, rfl, F6, N6, off6, hi, rfl, read_snoc hys⟩
    case fin =>
      rintro C D ys m' nw h6 tk6 ⟨_, rfl, hys⟩ F6 hn6 N6 off oD hCD hCL hC0
      refine post_eval F6 hn6 N6 off hCD hCL hC0 ?_
      intro h5 F5 N5
      k_steps
      exact hret _ _ _ (by k_asm) (cb_drop (by assumption) drop_4)
end
end Mine
end
section
open PySem PySem.W PyProof.Rows PySem.Calls
set_option maxRecDepth 100000
set_option linter.unusedVariables false
namespace Mine
local macro_rules | `(tactic| k_all) => `(tactic| assumption)
local macro_rules | `(tactic| walk_at "and find") => `(tactic| (first | with_reducible assumption | exact And.left (by with_reducible assumption) | exact And.left (And.right (by with_reducible assumption)) | exact And.left (And.right (And.right (by with_reducible assumption))) | exact And.left (And.right (And.right (And.right (by with_reducible assumption)))) | exact And.left (And.right (And.right (And.right (And.right (by with_reducible assumption))))) | exact And.left (And.right (And.right (And.right (And.right (And.right (by with_reducible assumption)))))) | exact And.left (And.right (And.right (And.right (And.right (And.right (And.right (by with_reducible assumption))))))) | exact And.left (And.right (And.right (And.right (And.right (And.right (And.right (And.right (by with_reducible assumption)))))))) | exact And.left (And.right (And.right (And.right (And.right (And.right (And.right (And.right (And.right (by with_reducible assumption))))))))) | exact And.left (And.right (And.right (And.right (And.right (And.right (And.right (And.right (And.right (And.right (by with_reducible assumption)))))))))) | exact And.left (And.right (And.right (And.right (And.right (And.right (And.right (And.right (And.right (And.right (And.right (by with_reducible assumption))))))))))) | exact And.left (And.right (And.right (And.right (And.right (And.right (And.right (And.right (And.right (And.right (And.right (And.right (by with_reducible assumption)))))))))))) | exact And.left (And.right (And.right (And.right (And.right (And.right (And.right (And.right (And.right (And.right (And.right (And.right (And.right (by with_reducible assumption))))))))))))) | exact And.left (And.right (And.right (And.right (And.right (And.right (And.right (And.right (And.right (And.right (And.right (And.right (And.right (And.right (by with_reducible assumption)))))))))))))) | exact And.left (And.right (And.right (And.right (And.right (And.right (And.right (And.right (And.right (And.right (And.right (And.right (And.right (And.right (And.right (by with_reducible assumption))))))))))))))) | exact And.left (And.right (And.right (And.right (And.right (And.right (And.right (And.right (And.right (And.right (And.right (And.right (And.right (And.right (And.right (And.right (by with_reducible assumption)))))))))))))))) | exact And.left (And.right (And.right (And.right (And.right (And.right (And.right (And.right (And.right (And.right (And.right (And.right (And.right (And.right (And.right (And.right (And.right (by with_reducible assumption))))))))))))))))) | exact And.left (And.right (And.right (And.right (And.right (And.right (And.right (And.right (And.right (And.right (And.right (And.right (And.right (And.right (And.right (And.right (And.right (And.right (by with_reducible assumption)))))))))))))))))) | exact And.left (And.right (And.right (And.right (And.right (And.right (And.right (And.right (And.right (And.right (And.right (And.right (And.right (And.right (And.right (And.right (And.right (And.right (And.right (by with_reducible assumption))))))))))))))))))) | exact And.left (And.right (And.right (And.right (And.right (And.right (And.right (And.right (And.right (And.right (And.right (And.right (And.right (And.right (And.right (And.right (And.right (And.right (And.right (And.right (by with_reducible assumption)))))))))))))))))))) | exact And.left (And.right (And.right (And.right (And.right (And.right (And.right (And.right (And.right (And.right (And.right (And.right (And.right (And.right (And.right (And.right (And.right (And.right (And.right (And.right (And.right (by with_reducible assumption))))))))))))))))))))) | exact And.left (And.right (And.right (And.right (And.right (And.right (And.right (And.right (And.right (And.right (And.right (And.right (And.right (And.right (And.right (And.right (And.right (And.right (And.right (And.right (And.right (And.right (by with_reducible assumption))))))))))))))))))))))))
local macro_rules | `(tactic| k_ne) => `(tactic| (refine neN ?_; (try dsimp only); first | (refine ltn ?_; walk_at "and find") | (refine gtn ?_; walk_at "and find") | walk_at "and find" | (refine Ne.symm ?_; walk_at "and find") | omega))
set_option maxHeartbeats 0 in
theorem law : PySem.Challenge.rw_wy0017_01.Holds := by
  refine Mine.hd ?_
  w_on
  intro w s₀ s₁ mg mb G Y fa o pm cd doc dV kV ho hd hcd hD hmg hg args vals as hpre hlay hrd hwl hlo
  have KX := kIn_of Y
  have X := (Ground.X G).1
  have V := (Ground.X G).2
  refine Ground.open G ?_
  intro T B D TE TW
  obtain ⟨_, _, M⟩ := bmod_of_top T
  have TA := at_of_top T
  clear hmg
  wrow_args hpre hlay hrd hwl hlo
  rename List Int => ws
  refine enter_C_call ?_
  have K0 := below_caller (Top.heap T)
  have he := Dflts.none hD rfl
  subst he
  have he := Dflts.noKw hD
  subst he
  refine call_cells_C (by decide) ho (fd_plain hd) (Top.nolimit T) hcd rfl (kinds_of (by kinds_ok)) (by decide) fun h₁ tk₁ cells F N0 X0 => ?_
  cells_open X0
  have uL := cells_ne s₁.heap.objs.size
  clear hd TA
  k_drop
  have bs : AtB s₁ := trivial
  refine wpC_execs_then ?_
  (try k_fold)
  k_steps
  refine wpC_execs_then ?_
  (try k_fold)
  (repeat' ((fail_if_success (with_reducible show PySem.wpAny _ _ (PySem.exec (PySem.Stmt.Assign (_ :: _) (PySem.Expr.ListComp _ _ _ _) _) _) _ _ _)); (first | (k_unfold; (try dsimp only)) | (k_end; wrow_close) | walk1 | (dsimp only; walk1) | (leave1; (try dsimp only)) | fail "no step")))
  refine comp_assign (by with_unfolding_all rfl) (by rfl) (by rfl) (by decide) ?_
  (repeat' ((fail_if_success (with_reducible show PySem.wpAny _ _ (PySem.pyIter _) _ _ _)); (first | (k_unfold; (try dsimp only)) | (k_end; wrow_close) | walk1 | (dsimp only; walk1) | (leave1; (try dsimp only)) | fail "no step")))
  (with_reducible rename Fr _ _ _ _ => F7)
  (with_reducible rename News _ _ _ _ => N7)
  (with_reducible rename IsRange _ _ _ _ _ _ _ _ => R7)
  (with_reducible rename IntsAre _ _ => hScr)
  refine src_range (s := ⟨_, _, _, _, _⟩) (n := 3) rfl F7 N7 R7 (by decide) (by decide) ?_
  intro I h6 Sr
  refine comp_core (by decide) (by rfl) (by rfl) Sr (fun i ys nw => i ≤ 3 ∧ nw = _ ∧ IntsAre ys (cellsOf ws i)) ⟨by decide, rfl, .nil⟩ (fun _ _ _ _ => trivial) ?ownsz ?ownbody ?ownfin
  case ownsz =>
    rintro i ys nw ⟨hi, rfl, hys⟩
    have h1 := ints_len hys
    rw [cells_len] at h1
    exact v_len hi h1
  case ownbody =>
    rintro C D i v ys m₂ nw oI oC h6 tk6 hi ⟨t6, rfl⟩ ⟨hi2, rfl, hys⟩ hoC hm1 F6 N6 off6 pl
    refine wpAny_tests_nil ?_
    simp only [if_true]
    (repeat' ((fail_if_success (with_reducible show PySem.wpAny _ _ (PySem.call (PySem.Value.builtin "sum") _ _) _ _ _)); (first | (k_unfold; (try dsimp only)) | (k_end; wrow_close) | walk1 | (dsimp only; walk1) | (leave1; (try dsimp only)) | fail "no step")))
    (with_reducible rename News _ _ _ _ => N9)
    (with_reducible rename Fr _ _ _ _ => F9)
    (with_unfolding_all refine' sumK ?k0 ?k1 ?k2 ?k3 ?k4 ?_)
    case k0 => with_unfolding_all rfl
    case k1 => exact F9
    case k2 => exact N9
    case k3 => exact ⟨_, (N9 _ (List.Mem.head _)).1, rfl, _, rfl⟩
    case k4 => exact IntsAre.pick hScr _ _ _
    k_whole
    intro h' tk' t' F' N'
    k_steps
    refine ⟨_, _, _, rfl, by k_asm, cb_drop (by assumption) drop_1, off6, hi, rfl, cells_snoc hys⟩
  case ownfin =>
    rintro C D ys m' nw h6 tk6 ⟨_, rfl, hys⟩ F6 hn6 N6 off oD hCD hCL hC0
    refine' post_assign ?q1 ?q2 ?q3 F6 hn6 N6 off hCD hCL hC0 ?_
    case q1 => rfl
    case q2 => rfl
    case q3 => rfl
    intro h5 tk5 F5 N5
    simp only [LCg.Off1, and_true] at oD
    obtain ⟨cs3, hcs3⟩ : ∃ cs3, cs3 = cellsOf ws 3 := ⟨_, rfl⟩
    have hcl : cs3.length = 3 := by rw [hcs3, cells_len]
    rw [← hcs3] at hys
    clear hcs3
    dsimp only
    k_steps
    refine wpC_execs_then ?_
    (try k_fold)
    (repeat' ((fail_if_success (with_reducible show PySem.wpAny _ _ (PySem.call (PySem.Value.type "list") _ _) _ _ _)); (first | (k_unfold; (try dsimp only)) | (k_end; wrow_close) | walk1 | (dsimp only; walk1) | (leave1; (try dsimp only)) | fail "no step")))
    (with_reducible rename News _ _ _ _ => N4)
    (with_reducible rename Fr _ _ _ _ => F4)
    (with_reducible rename IsRange _ _ _ _ _ _ _ _ => R4)
    refine kll_range (s := ⟨_, _, _, _, _⟩) (n := 24) rfl F4 N4 R4 (by decide) (by decide) (by decide) ?_
    intro aPl pv pn h3 tk3 F3 N3 lPl hPl
    k_lt lPl
    k_steps
    iterate 4 (refine wpC_execs_then ?_; (try k_fold); k_steps)
    refine wpC_execs_cons (wpC_For (by intro _; rfl) ?_)
    (repeat' ((fail_if_success (with_reducible show PySem.wpAny _ _ (PySem.pyIter (PySem.Value.ref _)) _ _ _)); (first | (k_unfold; (try dsimp only)) | (k_end; wrow_close) | walk1 | (dsimp only; walk1) | (leave1; (try dsimp only)) | fail "no step")))
    (with_reducible rename News _ _ _ _ => N8)
    (with_reducible rename Fr _ _ _ _ => F8)
    (with_reducible rename IsRange _ _ _ _ _ _ _ _ => R8)
    refine pack F8 N8 ?ord ?d7 ?d6 ?d5 ?d4 ?d3 ?_
    case ord => refine ⟨neN' ?_, neN' ?_, neN' ?_, neN' ?_, neN' ?_, neN' ?_, neN' ?_, neN' ?_, neN' ?_, neN' ?_, neN' ?_, neN' ?_, neN' ?_, neN' ?_, neN' ?_⟩ <;> first | walk_at "and find" | k_ne
    case d7 => exact ⟨_, by assumption⟩
    case d6 => exact ⟨_, by assumption⟩
    case d5 => exact ⟨_, by assumption⟩
    case d4 => assumption
    case d3 => assumption
    intro aS aD aO aR aB oB o1 o2 o3 o4 o5 v5 nw m F9 N9 hoff h5 hO h4 h3 hJ
    have uS := (ord_all hO).1
    have uD := (ord_all hO).2.1
    have uO := (ord_all hO).2.2.1
    have uR := (ord_all hO).2.2.2.1
    have uP := (ord_all hO).2.2.2.2.1
    have uB := (ord_all hO).2.2.2.2.2
    clear N8 F8
    rename IntsAre ys _ => hys
    rename IntsAre pv _ => hPl
    refine' for_cell (s₀ := s₁) (n := 2) rfl (by rfl) (by rfl) (by rfl) R8 (by decide) (by decide) F9 N9 hoff h5 (OJ (num cs3) s₁.heap.objs.size aS aD aO aR aPl D aB oB o1 o2 o3 o4 pv pn ys) (hJ _) ?bodyO ?finO
    case finO =>
      clear F9 N9 hoff h5 hJ
      rintro m nw h tk oc v₁ ⟨rv, ov, dv, sv, n1, n2, n3, n4, o7, o6, v7, v6, rts, ots, tl, hm1, hm2, hm3, hm4, rfl, g7, g6, hr1, hr2, hr3, hr4, hdu, hsz, hf⟩ hoc F N offc
      have hf1 := hf.1
      have hf2 := hf.2.1
      have hf3 := hf.2.2.1
      have hf4 := hf.2.2.2.1
      have hf5 := hf.2.2.2.2.1
      have hf6 := hf.2.2.2.2.2
      have qC := hO.2.2.2.2.2.2
      replace F := Fr_pin4 F hm1 hm2 hm3 hm4
      dsimp only
      refine wpC_execs_cons (wpC_If (wpC_Not (wpC_value (wpC_Call ?_))))
      k_steps
      refine wpC_callWith_K (K := Mine.hd.heap_39 w.params) (by assumption) (by k_is) ?_
      k_steps
      k_dflt (refine' barred_c ?k1 ?k2 ?k3 ?k4 ?k5 ?kK ?kd ?ku ?_; (((case k1 => k_asm); (case k2 => k_asm); (case k3 => k_asm); (case k4 => k_asm); (case k5 => k_asm); (case kK => first | exact rfl | assumption); (case kd => ktr_room); (case ku => ktr_units))))
      intro h5 tk5 F5 N5
      k_steps
      refine wpC_of ?_
      (repeat' ((fail_if_success (with_reducible show PySem.wpAny _ _ (PySem.exec (PySem.Stmt.Assign (_ :: _) (PySem.Expr.ListComp _ _ _ _) _) _) _ _ _)); (first | (k_unfold; (try dsimp only)) | (k_end; wrow_close) | walk1 | (dsimp only; walk1) | (leave1; (try dsimp only)) | fail "no step")))
      refine comp_assign (by with_unfolding_all rfl) (by rfl) (by rfl) (by decide) ?_
      (repeat' ((fail_if_success (with_reducible show PySem.wpAny _ _ (PySem.pyIter _) _ _ _)); (first | (k_unfold; (try dsimp only)) | (k_end; wrow_close) | walk1 | (dsimp only; walk1) | (leave1; (try dsimp only)) | fail "no step")))
      (with_reducible rename Fr _ _ _ _ => FA)
      (with_reducible rename News _ _ _ _ => NA)
      refine src_list (s := ⟨_, _, _, _, _⟩) rfl FA NA (.tail _ (.head _)) ?_
      intro I hA Sr
      rename IntsAre sv _ => hsz
      rename IntsAre pv _ => hPl
      have hsl : sv.toArray.size = 2 := by have := ints_len hsz; simpa [sizesOf] using this
      have hpl : pv.toArray.size = 24 := by rw [List.size_toArray]; exact pv24 hPl
      refine comp_coreC (x := PySem.Str.ofString "size") (by intro q; rfl) (by intro h; rfl) (by rfl) (by rfl) Sr (fun j ys nw => j ≤ 2 ∧ nw = _ ∧ IntsAre ys (spotsOf (num cs3) j)) ⟨by decide, rfl, .nil⟩ (by rintro _ _ _ ⟨_, rfl, _⟩; exact .inr ⟨_, .tail _ (.head _), rfl, _, rfl⟩) ?ownsz ?ownbody ?ownfin
      case ownsz =>
        rintro j ys nw ⟨hi, rfl, hys⟩
        have h1 := ints_len hys
        rw [spots_len] at h1
        exact v_len hi h1
      case ownbody =>
        rintro C2 D2 K2 k v zs nw oI2 oC2 oK2 hB tkB hk hv ⟨hk2, rfl, hzs⟩ hoK FB NB offB pl
        rw [hsl] at hk
        obtain ⟨tv, rfl⟩ := sizes_at hsz hv hk
        have hnb : (num cs3 k).natAbs ≤ 1048576 := num_bnd cs3 k
        refine wpAny_tests_nil ?_
        simp only [if_true]
        (repeat' ((fail_if_success (with_reducible show PySem.wpAny _ _ (PySem.eval (PySem.Expr.ListComp _ _ _ _) _) _ _ _)); (first | (k_unfold; (try dsimp only)) | (k_end; wrow_close) | walk1 | (dsimp only; walk1) | (leave1; (try dsimp only)) | fail "no step")))
        refine comp_eval (by rfl) (by rfl) (by decide) ?_
        (repeat' ((fail_if_success (with_reducible show PySem.wpAny _ _ (PySem.pyIter _) _ _ _)); (first | (k_unfold; (try dsimp only)) | (k_end; wrow_close) | walk1 | (dsimp only; walk1) | (leave1; (try dsimp only)) | fail "no step")))
        (with_reducible rename Fr _ _ _ _ => FC)
        (with_reducible rename News _ _ _ _ => NC)
        refine src_list (s := ⟨_, _, _, _, _⟩) rfl FC NC (.tail _ (.tail _ (.tail _ (.tail _ (.tail _ (.tail _ (.tail _ (.tail _ (.tail _ (.head _)))))))))) ?_
        rename IntsAre pv _ => hPl
        intro I3 hC Sr3
        refine comp_core (by decide) (by rfl) (by rfl) Sr3 (fun j ys nw => j ≤ 24 ∧ nw = _ ∧ ys.length = cnt (3 * ((num cs3 k).natAbs : Int)) j) ⟨by decide, rfl, rfl⟩ (by rintro _ _ _ ⟨_, rfl, _⟩; exact .inr ⟨_, (.tail _ (.tail _ (.tail _ (.tail _ (.tail _ (.tail _ (.tail _ (.tail _ (.tail _ (.head _)))))))))), rfl, _, rfl⟩) ?sz3 ?body3 ?fin3
        case sz3 =>
          rintro j ys nw ⟨hi, rfl, hys⟩
          exact v_cnt hi hys (cnt_le _ _)
        case body3 =>
          rintro C3 D3 j v ys m₂ nw oI3 oC h3 tk3 hj hv ⟨hj2, rfl, hys⟩ hoC hm1 F3 N3 off3 pl3
          rw [hpl] at hj
          obtain ⟨tj, rfl⟩ := places_at hPl hv hj
          refine wpAny_tests_one ?_
          k_steps
          · exact ⟨_, _, _, rfl, F3, N3, off3, hj, rfl, cnt_yes hys (by assumption)⟩
          · exact ⟨_, _, _, rfl, F3, N3, off3, hj, rfl, cnt_no hys (by assumption)⟩
        case fin3 =>
          rintro C3 D3 ys3 m' nw hC tkC ⟨_, rfl, hys⟩ FC hnC NC off3 oD3 hCD3 hCL3 hC03
          refine post_eval FC hnC NC off3 hCD3 hCL3 hC03 ?_
          intro hD FD ND
          rw [hpl] at hys
          have hcl := cnt_le (3 * ((num cs3 k).natAbs : Int)) 24
          (repeat' ((fail_if_success (with_reducible show PySem.wpAny _ _ (PySem.call (PySem.Value.builtin "len") _ _) _ _ _)); (first | (k_unfold; (try dsimp only)) | (k_end; wrow_close) | walk1 | (dsimp only; walk1) | (leave1; (try dsimp only)) | fail "no step")))
          k_dflt (refine' kst_len ?k1 ?k2 hys ?k3 ?_; (case k1 => k_asm); (case k2 => k_mem); (case k3 => omega))
          k_steps
          exact ⟨_, _, _, rfl, FD, cb_drop ND drop_1, offB, hk, rfl, spots_snoc hzs⟩
      case ownfin =>
        rintro C2 D2 sps m' nw hA tkA ⟨_, rfl, hsp⟩ FA hnA NA off2 oD2 hCD2 hCL2 hC02
        refine' post_assign ?q1 ?q2 ?q3 FA hnA NA off2 hCD2 hCL2 hC02 ?_
        case q1 => rfl
        case q2 => rfl
        case q3 => rfl
        intro hB tkB FB NB
        rw [hsl] at hsp
        have offS := off1_mem oD2
        dsimp only
        (repeat' ((fail_if_success (with_reducible show PySem.wpAny _ _ (PySem.exec (PySem.Stmt.For _ _ _ _ _) _) _ _ _)); (first | (k_unfold; (try dsimp only)) | (k_end; wrow_close) | walk1 | (dsimp only; walk1) | (leave1; (try dsimp only)) | fail "no step")))
        refine wpAny_For' (by intro _; rfl) ?_
        (repeat' ((fail_if_success (with_reducible show PySem.wpAny _ _ (PySem.pyIter _) _ _ _)); (first | (k_unfold; (try dsimp only)) | (k_end; wrow_close) | walk1 | (dsimp only; walk1) | (leave1; (try dsimp only)) | fail "no step")))
        (with_reducible rename News _ _ _ _ => N4)
        (with_reducible rename Fr _ _ _ _ => F4)
        (with_reducible rename IsRange _ _ _ _ _ _ _ _ => R4)
        refine' for_range (L := s₁.heap.objs.size) (s₀ := s₁) (n := 2) rfl rfl (by rfl) (by rfl) R4 (by decide) (by decide) F4 N4 (fun i m nw => m (PySem.Str.ofString "spots") = some (.ref D2) ∧ m (PySem.Str.ofString "sizes") = some (.ref aS) ∧ m (PySem.Str.ofString "row") = some (.ref aR) ∧ m (PySem.Str.ofString "other") = some (.ref aO) ∧ nw = _) ⟨rfl, rfl, rfl, rfl, rfl⟩ ?body4 ?fin4
        case fin4 =>
          rintro m nw h tk ⟨hm1, hm2, hm3, hm4, rfl⟩ F N
          replace F := Fr_pins0 F [(PySem.Str.ofString "row", .ref aR), (PySem.Str.ofString "other", .ref aO)]
            (List.forall_mem_cons.mpr ⟨hm3, List.forall_mem_cons.mpr ⟨hm4, fun _ h => (nomatch h)⟩⟩)
          dsimp only [pinned] at F
          dsimp only
          (repeat' ((fail_if_success (with_reducible show PySem.wpAny _ _ (PySem.exec (PySem.Stmt.Assign (_ :: _) (PySem.Expr.ListComp _ _ _ _) _) _) _ _ _)); (first | (k_unfold; (try dsimp only)) | (k_end; wrow_close) | walk1 | (dsimp only; walk1) | (leave1; (try dsimp only)) | fail "no step")))
          refine comp_assign (by with_unfolding_all rfl) (by rfl) (by rfl) (by decide) ?_
          (repeat' ((fail_if_success (with_reducible show PySem.wpAny _ _ (PySem.pyIter _) _ _ _)); (first | (k_unfold; (try dsimp only)) | (k_end; wrow_close) | walk1 | (dsimp only; walk1) | (leave1; (try dsimp only)) | fail "no step")))
          (with_reducible rename Fr _ _ _ _ => FA)
          (with_reducible rename News _ _ _ _ => NA)
          (with_reducible rename IsRange _ _ _ _ _ _ _ _ => RA)
          refine src_range (s := ⟨_, _, _, _, _⟩) (n := 24) rfl FA NA RA (by decide) (by decide) ?_
          intro I5 hA Sr
          refine comp_core2 (by decide) (by rfl) (by rfl) (by rfl) (by decide) Sr (fun j ys nw => j ≤ 24 ∧ (∀ p ∈ _, p ∈ nw) ∧ RowIs tl ys (outTs (num cs3) [1, 0] j)) ⟨by decide, fun p hp => hp, ⟨rfl, fun _ _ h => by simp [outTs] at h⟩⟩ (fun _ _ _ _ => trivial) ?body5 ?fin5
          case body5 =>
            rintro C5 D5 i v zs m₁ nw oI oC h6 tk6 hi ⟨t6, rfl⟩ ⟨hi2, hsub, hzs⟩ hoC hm1 F6 N6 off6 pl
            (repeat' ((fail_if_success (with_reducible show PySem.wpAny _ _ (PySem.pyIter _) _ _ _)); (first | (k_unfold; (try dsimp only)) | (k_end; wrow_close) | walk1 | (dsimp only; walk1) | (leave1; (try dsimp only)) | fail "no step")))
            (with_reducible rename Fr _ _ _ _ => FC)
            (with_reducible rename News _ _ _ _ => NC)
            (rename (_ ∧ _ ∧ _ ∧ AllLt _ _) => hlt)
            refine src_tuple (s := ⟨_, _, _, _, _⟩) rfl FC (news_base hsub NC) (.tail _ (.tail _ (.tail _ (.head _)))) ?_
            intro I6 h3 Sr2
            have oI6C : C5 ≠ I6 := Sr2.off (C5, oC) (.tail _ (.head _))
            have oI6D : D5 ≠ I6 := Sr2.off (D5, LCg.lst zs) (.tail _ (.tail _ (.head _)))
            refine ⟨I6, _, _, _, _, _, _, h3, _, rfl, rfl, Sr2, ?c1, ?c2, ?c0, (fun j zs nw' => j ≤ 2 ∧ nw' = _ ∧ RowIs tl zs (outTs (num cs3) [1, 0] i ++ inTs (num cs3) ([1, 0].take j) i)), ⟨by decide, rfl, by simpa [inTs] using hzs⟩, ?cS, ?c3, ?c4, ?c5⟩
            case c1 =>
              simp only [List.mem_cons, List.not_mem_nil, or_false, not_or]
              exact ⟨oI6C, Nat.ne_of_lt hlt.2.1⟩
            case c2 =>
              simp only [List.mem_cons, List.not_mem_nil, or_false, not_or]
              exact ⟨oI6D, Nat.ne_of_lt hlt.2.2.1⟩
            case c0 => exact List.forall_mem_cons.mpr ⟨⟨Ne.symm (Nat.ne_of_lt hlt.1), Ne.symm (Nat.ne_of_lt hlt.2.1), Ne.symm (Nat.ne_of_lt hlt.2.2.1)⟩, fun p hp => off6 p (hsub p hp)⟩
            case cS =>
              rintro j zs nw' ⟨_, rfl, _⟩
              exact ⟨_, .tail _ (.head _), rfl, _, rfl⟩
            case c3 =>
              rintro j zs nw' ⟨_, rfl, h⟩
              have := outs_len h hi
              rw [PySem.sizeLine_eq]; omega
            case c5 =>
              rintro zs nw' ⟨_, rfl, h⟩
              exact ⟨hi, fun p hp => .tail _ hp, by rw [outTs_succ]; exact h⟩
            case c4 =>
              rintro j v₂ zs m₂ nw2 oI2 oC2 h2 tk2 hj hv2 ⟨hj2, rfl, hzs⟩ hoC2 hm21 hm22 F2 N2 off2 pl2 hII
              obtain ⟨w2, t2, rfl, hw2⟩ := ord_at (a := 1) (b := 0) hv2
              have hw : w2 < 2 := by
                have := List.mem_of_getElem? hw2
                simp at this; omega
              refine wpAny_tests_one ?_
              (repeat' ((fail_if_success (with_reducible show PySem.wpAny _ _ (PyProof.Rows.subscriptTail _ _ _ _) _ _ _)); (first | (k_unfold; (try dsimp only)) | (k_end; wrow_close) | walk1 | (dsimp only; walk1) | (leave1; (try dsimp only)) | fail "no step")))
              obtain ⟨aw, nn, uw, d1, d2, d3⟩ := hdu.2 w2 hw
              obtain ⟨a2, nn2, u1, u2, f1, f2⟩ := d3.2 i (termAt (num cs3) w2 i, (w2 : Int)) (by rw [List.getElem?_map, List.getElem?_range hi]; rfl)
              have hi0 : ((0 : Int) + (i : Int)).toNat = i := v_toNat0 i
              refine item_n (s := ⟨_, _, _, _, _⟩) N2 (mem_at 8 rfl) (Int.natCast_nonneg _) (v_lt63 hw) (show dv[((w2 : Int)).toNat]? = _ from by rw [Int.toNat_natCast]; exact d1) ?_
              (repeat' ((fail_if_success (with_reducible show PySem.wpAny _ _ (PyProof.Rows.subscriptTail _ _ _ _) _ _ _)); (first | (k_unfold; (try dsimp only)) | (k_end; wrow_close) | walk1 | (dsimp only; walk1) | (leave1; (try dsimp only)) | fail "no step")))
              refine item_n (s := ⟨_, _, _, _, _⟩) N2 (List.mem_of_mem_drop (i := 20) d2) (v_nn0 i) (v_lt0 hi) (show uw[((0 : Int) + (i : Int)).toNat]? = _ from by rw [hi0]; exact f1) ?_
              (repeat' ((fail_if_success (with_reducible show PySem.wpAny _ _ (PyProof.Rows.subscriptTail _ _ _ _) _ _ _)); (first | (k_unfold; (try dsimp only)) | (k_end; wrow_close) | walk1 | (dsimp only; walk1) | (leave1; (try dsimp only)) | fail "no step")))
              refine tup_at (s := ⟨_, _, _, _, _⟩) N2 (List.mem_of_mem_drop (i := 20) f2) (by decide) (by decide) (j := 0) rfl rfl ?_
              (repeat' ((fail_if_success (with_reducible show PySem.wpAny _ _ (PyProof.Rows.subscriptTail _ _ _ _) _ _ _)); (first | (k_unfold; (try dsimp only)) | (k_end; wrow_close) | walk1 | (dsimp only; walk1) | (leave1; (try dsimp only)) | fail "no step")))
              · have hne : termAt (num cs3) w2 i ≠ 0 := by assumption
                refine item_n (s := ⟨_, _, _, _, _⟩) N2 (mem_at 8 rfl) (Int.natCast_nonneg _) (v_lt63 hw) (show dv[((w2 : Int)).toNat]? = _ from by rw [Int.toNat_natCast]; exact d1) ?_
                (repeat' ((fail_if_success (with_reducible show PySem.wpAny _ _ (PyProof.Rows.subscriptTail _ _ _ _) _ _ _)); (first | (k_unfold; (try dsimp only)) | (k_end; wrow_close) | walk1 | (dsimp only; walk1) | (leave1; (try dsimp only)) | fail "no step")))
                refine item_n (s := ⟨_, _, _, _, _⟩) N2 (List.mem_of_mem_drop (i := 20) d2) (v_nn0 i) (v_lt0 hi) (show uw[((0 : Int) + (i : Int)).toNat]? = _ from by rw [hi0]; exact f1) ?_
                exact ⟨_, _, _, rfl, F2, N2, List.forall_mem_cons.mpr ⟨⟨hII, pl.IC, pl.ID⟩, fun p hp => ⟨(off2 p hp).1, (off2 p hp).2.1, (off2 p hp).2.2.1⟩⟩, _, rfl, fun p hp => (off2 p hp).2.2.2, hj, rfl, outs_yes hzs hw2 f2 hne⟩
              · have hne : termAt (num cs3) w2 i = 0 := by assumption
                exact ⟨_, _, _, rfl, F2, N2, List.forall_mem_cons.mpr ⟨⟨hII, pl.IC, pl.ID⟩, fun p hp => ⟨(off2 p hp).1, (off2 p hp).2.1, (off2 p hp).2.2.1⟩⟩, _, rfl, fun p hp => (off2 p hp).2.2.2, hj, rfl, outs_no hzs hw2 hne⟩
          case fin5 =>
            rintro C5 D5 zs m' nw h6 tk6 ⟨_, hsub, hzs⟩ F6 hn6 N6 off oD hCD hCL hC0
            refine' post_assign ?q1 ?q2 ?q3 F6 hn6 N6 off hCD hCL hC0 ?_
            case q1 => rfl
            case q2 => rfl
            case q3 => rfl
            intro h5 tk5 F5 N5
            replace N5 := news_sub1 hsub N5
            clear N6 oD off hsub
            dsimp only
            (repeat' ((fail_if_success (with_reducible show PySem.wpAny _ _ (PySem.exec (PySem.Stmt.Assign (_ :: _) (PySem.Expr.ListComp _ _ _ _) _) _) _ _ _)); (first | (k_unfold; (try dsimp only)) | (k_end; wrow_close) | walk1 | (dsimp only; walk1) | (leave1; (try dsimp only)) | fail "no step")))
            refine comp_assign (by with_unfolding_all rfl) (by rfl) (by rfl) (by decide) ?_
            (repeat' ((fail_if_success (with_reducible show PySem.wpAny _ _ (PySem.pyIter _) _ _ _)); (first | (k_unfold; (try dsimp only)) | (k_end; wrow_close) | walk1 | (dsimp only; walk1) | (leave1; (try dsimp only)) | fail "no step")))
            (with_reducible rename Fr _ _ _ _ => FA)
            (with_reducible rename News _ _ _ _ => NA)
            (with_reducible rename IsRange _ _ _ _ _ _ _ _ => RA)
            refine src_range (s := ⟨_, _, _, _, _⟩) (n := 24) rfl FA NA RA (by decide) (by decide) ?_
            intro I7 hA Sr
            refine comp_core2 (by decide) (by rfl) (by rfl) (by rfl) (by decide) Sr (fun j ys nw => j ≤ 24 ∧ (∀ p ∈ _, p ∈ nw) ∧ RowIs tl ys (outTs (num cs3) [0, 1] j)) ⟨by decide, fun p hp => hp, ⟨rfl, fun _ _ h => by simp [outTs] at h⟩⟩ (fun _ _ _ _ => trivial) ?body7 ?fin7
            case body7 =>
              rintro C7 D7 i v xs m₁ nw oI oC h6 tk6 hi ⟨t6, rfl⟩ ⟨hi2, hsub, hxs⟩ hoC hm1 F6 N6 off6 pl
              (repeat' ((fail_if_success (with_reducible show PySem.wpAny _ _ (PySem.pyIter _) _ _ _)); (first | (k_unfold; (try dsimp only)) | (k_end; wrow_close) | walk1 | (dsimp only; walk1) | (leave1; (try dsimp only)) | fail "no step")))
              (with_reducible rename Fr _ _ _ _ => FC)
              (with_reducible rename News _ _ _ _ => NC)
              (rename (_ ∧ _ ∧ _ ∧ AllLt _ _) => hlt)
              refine src_tuple (s := ⟨_, _, _, _, _⟩) rfl FC (news_base hsub NC) (.tail _ (.tail _ (.tail _ (.head _)))) ?_
              intro I8 h3 Sr2
              have oI8C : C7 ≠ I8 := Sr2.off (C7, oC) (.tail _ (.head _))
              have oI8D : D7 ≠ I8 := Sr2.off (D7, LCg.lst xs) (.tail _ (.tail _ (.head _)))
              refine ⟨I8, _, _, _, _, _, _, h3, _, rfl, rfl, Sr2, ?c1, ?c2, ?c0, (fun j xs nw' => j ≤ 2 ∧ nw' = _ ∧ RowIs tl xs (outTs (num cs3) [0, 1] i ++ inTs (num cs3) ([0, 1].take j) i)), ⟨by decide, rfl, by simpa [inTs] using hxs⟩, ?cS, ?c3, ?c4, ?c5⟩
              case c1 =>
                simp only [List.mem_cons, List.not_mem_nil, or_false, not_or]
                exact ⟨oI8C, Nat.ne_of_lt hlt.2.1⟩
              case c2 =>
                simp only [List.mem_cons, List.not_mem_nil, or_false, not_or]
                exact ⟨oI8D, Nat.ne_of_lt hlt.2.2.1⟩
              case c0 => exact List.forall_mem_cons.mpr ⟨⟨Ne.symm (Nat.ne_of_lt hlt.1), Ne.symm (Nat.ne_of_lt hlt.2.1), Ne.symm (Nat.ne_of_lt hlt.2.2.1)⟩, fun p hp => off6 p (hsub p hp)⟩
              case cS =>
                rintro j xs nw' ⟨_, rfl, _⟩
                exact ⟨_, .tail _ (.head _), rfl, _, rfl⟩
              case c3 =>
                rintro j xs nw' ⟨_, rfl, h⟩
                have := outs_len h hi
                rw [PySem.sizeLine_eq]; omega
              case c5 =>
                rintro xs nw' ⟨_, rfl, h⟩
                exact ⟨hi, fun p hp => .tail _ hp, by rw [outTs_succ]; exact h⟩
              case c4 =>
                rintro j v₂ xs m₂ nw2 oI2 oC2 h2 tk2 hj hv2 ⟨hj2, rfl, hxs⟩ hoC2 hm21 hm22 F2 N2 off2 pl2 hII
                obtain ⟨w2, t2, rfl, hw2⟩ := ord_at (a := 0) (b := 1) hv2
                have hw : w2 < 2 := by
                  have := List.mem_of_getElem? hw2
                  simp at this; omega
                refine wpAny_tests_one ?_
                (repeat' ((fail_if_success (with_reducible show PySem.wpAny _ _ (PyProof.Rows.subscriptTail _ _ _ _) _ _ _)); (first | (k_unfold; (try dsimp only)) | (k_end; wrow_close) | walk1 | (dsimp only; walk1) | (leave1; (try dsimp only)) | fail "no step")))
                obtain ⟨aw, nn, uw, d1, d2, d3⟩ := hdu.2 w2 hw
                obtain ⟨a2, nn2, u1, u2, f1, f2⟩ := d3.2 i (termAt (num cs3) w2 i, (w2 : Int)) (by rw [List.getElem?_map, List.getElem?_range hi]; rfl)
                have hi0 : ((0 : Int) + (i : Int)).toNat = i := v_toNat0 i
                refine item_n (s := ⟨_, _, _, _, _⟩) N2 (mem_at 9 rfl) (Int.natCast_nonneg _) (v_lt63 hw) (show dv[((w2 : Int)).toNat]? = _ from by rw [Int.toNat_natCast]; exact d1) ?_
                (repeat' ((fail_if_success (with_reducible show PySem.wpAny _ _ (PyProof.Rows.subscriptTail _ _ _ _) _ _ _)); (first | (k_unfold; (try dsimp only)) | (k_end; wrow_close) | walk1 | (dsimp only; walk1) | (leave1; (try dsimp only)) | fail "no step")))
                refine item_n (s := ⟨_, _, _, _, _⟩) N2 (List.mem_of_mem_drop (i := 21) d2) (v_nn0 i) (v_lt0 hi) (show uw[((0 : Int) + (i : Int)).toNat]? = _ from by rw [hi0]; exact f1) ?_
                (repeat' ((fail_if_success (with_reducible show PySem.wpAny _ _ (PyProof.Rows.subscriptTail _ _ _ _) _ _ _)); (first | (k_unfold; (try dsimp only)) | (k_end; wrow_close) | walk1 | (dsimp only; walk1) | (leave1; (try dsimp only)) | fail "no step")))
                refine tup_at (s := ⟨_, _, _, _, _⟩) N2 (List.mem_of_mem_drop (i := 21) f2) (by decide) (by decide) (j := 0) rfl rfl ?_
                (repeat' ((fail_if_success (with_reducible show PySem.wpAny _ _ (PyProof.Rows.subscriptTail _ _ _ _) _ _ _)); (first | (k_unfold; (try dsimp only)) | (k_end; wrow_close) | walk1 | (dsimp only; walk1) | (leave1; (try dsimp only)) | fail "no step")))
                · have hne : termAt (num cs3) w2 i ≠ 0 := by assumption
                  refine item_n (s := ⟨_, _, _, _, _⟩) N2 (mem_at 9 rfl) (Int.natCast_nonneg _) (v_lt63 hw) (show dv[((w2 : Int)).toNat]? = _ from by rw [Int.toNat_natCast]; exact d1) ?_
                  (repeat' ((fail_if_success (with_reducible show PySem.wpAny _ _ (PyProof.Rows.subscriptTail _ _ _ _) _ _ _)); (first | (k_unfold; (try dsimp only)) | (k_end; wrow_close) | walk1 | (dsimp only; walk1) | (leave1; (try dsimp only)) | fail "no step")))
                  refine item_n (s := ⟨_, _, _, _, _⟩) N2 (List.mem_of_mem_drop (i := 21) d2) (v_nn0 i) (v_lt0 hi) (show uw[((0 : Int) + (i : Int)).toNat]? = _ from by rw [hi0]; exact f1) ?_
                  exact ⟨_, _, _, rfl, F2, N2, List.forall_mem_cons.mpr ⟨⟨hII, pl.IC, pl.ID⟩, fun p hp => ⟨(off2 p hp).1, (off2 p hp).2.1, (off2 p hp).2.2.1⟩⟩, _, rfl, fun p hp => (off2 p hp).2.2.2, hj, rfl, outs_yes hxs hw2 f2 hne⟩
                · have hne : termAt (num cs3) w2 i = 0 := by assumption
                  exact ⟨_, _, _, rfl, F2, N2, List.forall_mem_cons.mpr ⟨⟨hII, pl.IC, pl.ID⟩, fun p hp => ⟨(off2 p hp).1, (off2 p hp).2.1, (off2 p hp).2.2.1⟩⟩, _, rfl, fun p hp => (off2 p hp).2.2.2, hj, rfl, outs_no hxs hw2 hne⟩
            case fin7 =>
              rintro C7 D7 xs m' nw h6 tk6 ⟨_, hsub, hxs⟩ F6 hn6 N6 off oD hCD hCL hC0
              refine' post_assign ?q1 ?q2 ?q3 F6 hn6 N6 off hCD hCL hC0 ?_
              case q1 => rfl
              case q2 => rfl
              case q3 => rfl
              intro h5 tk5 F5 N5
              replace N5 := news_sub1 hsub N5
              clear N6 oD off hsub
              dsimp only
              (repeat' ((fail_if_success (with_reducible show PySem.wpAny _ _ (PySem.compareOp PySem.CmpOp.Eq _ _) _ _ _)); (first | (k_unfold; (try dsimp only)) | (k_end; wrow_close) | walk1 | (dsimp only; walk1) | (leave1; (try dsimp only)) | fail "no step")))
              (with_reducible rename News _ _ _ _ => N8)
              have hdl : RowIs tl rv (outTs (num cs3) [1, 0] 24) := by rw [← row_isA hr3]; exact hr1
              have hdr : RowIs tl ov (outTs (num cs3) [0, 1] 24) := by rw [← row_isB hr4]; exact hr2
              refine rows_eq (s := ⟨_, _, _, _, _⟩) N8 (mem_at 7 rfl) rfl rfl hdl (mem_at 1 rfl) rfl rfl hzs (fun p hp => List.mem_of_mem_drop (i := 17) hp) (by ktr_units) ?_
              (repeat' ((fail_if_success (with_reducible show PySem.wpAny _ _ (PySem.compareOp PySem.CmpOp.Eq _ _) _ _ _)); (first | (k_unfold; (try dsimp only)) | (k_end; wrow_close) | walk1 | (dsimp only; walk1) | (leave1; (try dsimp only)) | fail "no step")))
              (with_reducible rename News _ _ _ _ => N9)
              refine rows_eq (s := ⟨_, _, _, _, _⟩) N9 (mem_at 6 rfl) rfl rfl hdr (mem_at 0 rfl) rfl rfl hxs (fun p hp => List.mem_of_mem_drop (i := 17) hp) (by ktr_units) ?_
              k_steps
        case body4 =>
          rintro k I2 oI2 m nw h tk t hk ⟨hm1, hm2, hm3, hm4, rfl⟩ F N off
          replace F := Fr_pins F [(PySem.Str.ofString "spots", .ref D2), (PySem.Str.ofString "sizes", .ref aS), (PySem.Str.ofString "row", .ref aR), (PySem.Str.ofString "other", .ref aO)]
            (List.forall_mem_cons.mpr ⟨hm1, List.forall_mem_cons.mpr ⟨hm2, List.forall_mem_cons.mpr ⟨hm3, List.forall_mem_cons.mpr ⟨hm4, fun _ h => (nomatch h)⟩⟩⟩⟩)
          dsimp only [pinned] at F
          have hpl' : pv.length = 24 := pv24 hPl
          have hk1 : ((1 : Int) - (k : Int)).toNat = 1 - k := v_sub1 hk
          rename IntsAre sps _ => hsp
          rename IntsAre sv _ => hsz
          obtain ⟨tb, htb⟩ := spots_at hsp (j := 1 - k) (v_dbl hk)
          obtain ⟨ts, hts⟩ := sizes_at' hsz (j := k) hk
          have hb24 := cnt_le (3 * ((num cs3 (1 - k)).natAbs : Int)) 24
          have hs24 := cnt_le (3 * ((num cs3 k).natAbs : Int)) 24
          (repeat' ((fail_if_success (with_reducible show PySem.wpAny _ _ (PyProof.Rows.subscriptTail _ _ _ _) _ _ _)); (first | (k_unfold; (try dsimp only)) | (k_end; wrow_close) | walk1 | (dsimp only; walk1) | (leave1; (try dsimp only)) | fail "no step")))
          refine item_n (s := ⟨_, _, _, _, _⟩) N (.tail _ (.head _)) (v_sub63 hk).1 (v_sub63 hk).2 (show sps[((1 : Int) - (k : Int)).toNat]? = _ from by rw [hk1]; exact htb) ?_
          generalize hbd : cnt (3 * ((num cs3 (1 - k)).natAbs : Int)) 24 = bd at *
          (repeat' ((fail_if_success (with_reducible show PySem.wpAny _ _ (PyProof.Rows.subscriptTail _ _ _ _) _ _ _)); (first | (k_unfold; (try dsimp only)) | (k_end; wrow_close) | walk1 | (dsimp only; walk1) | (leave1; (try dsimp only)) | fail "no step")))
          (with_reducible rename News _ _ _ _ => N8)
          refine item_n (s := ⟨_, _, _, _, _⟩) N8 (.tail _ (.tail _ (.tail _ (.head _)))) (Int.natCast_nonneg _) (v_lt63 hk) (show sv[((k : Int)).toNat]? = _ from by rw [Int.toNat_natCast]; exact hts) ?_
          generalize hsn : (num cs3 k).natAbs = sn at *
          (repeat' ((fail_if_success (with_reducible show PySem.wpAny _ _ (PySem.call (PySem.Value.ref _) _ _) _ _ _)); (first | (k_unfold; (try dsimp only)) | (k_end; wrow_close) | walk1 | (dsimp only; walk1) | (leave1; (try dsimp only)) | fail "no step")))
          rename IntsAre pv _ => hPl
          k_dflt (refine' bisLP2_c (ks := rangeKs 0 24) ?k1 ?k2 ?k3 ?k4 ?k5 ?kK ?kd ?ku ?ownhm hPl ks24 ?ownhlo ?ownhlh ?ownhhi ?ownhlen ?ownM ?_; (((case k1 => k_asm); (case k2 => k_asm); (case k3 => k_asm); (case k4 => k_asm); (case k5 => k_asm); (case kK => first | exact rfl | assumption); (case kd => ktr_room); (case ku => ktr_units))); (case ownhm => k_mem); (case ownhlo => decide); (case ownhlh => exact Int.natCast_nonneg _); (case ownhhi => exact v_le24 hpl' hb24); (case ownhlen => rw [hpl']; decide); (case ownM => rw [hpl']; exact mono24))
          intro r1 t1 h1 tk1 hB1 F1 N1
          have e1 := hitL hB1 (by decide) (v_b24 hb24)
          clear hB1
          (repeat' ((fail_if_success (with_reducible show PySem.wpAny _ _ (PyProof.Rows.subscriptTail _ _ _ _) _ _ _)); (first | (k_unfold; (try dsimp only)) | (k_end; wrow_close) | walk1 | (dsimp only; walk1) | (leave1; (try dsimp only)) | fail "no step")))
          (with_reducible rename News _ _ _ _ => N8)
          refine item_n (s := ⟨_, _, _, _, _⟩) N8 (.tail _ (.tail _ (.tail _ (.head _)))) (Int.natCast_nonneg _) (v_lt63 hk) (show sv[((k : Int)).toNat]? = _ from by rw [Int.toNat_natCast]; exact hts) ?_
          (repeat' ((fail_if_success (with_reducible show PySem.wpAny _ _ (PySem.call (PySem.Value.ref _) _ _) _ _ _)); (first | (k_unfold; (try dsimp only)) | (k_end; wrow_close) | walk1 | (dsimp only; walk1) | (leave1; (try dsimp only)) | fail "no step")))
          rename IntsAre pv _ => hPl
          k_dflt (refine' bisLP1_c (ks := rangeKs 0 24) ?k1 ?k2 ?k3 ?k4 ?k5 ?kK ?kd ?ku ?ownhm hPl ks24 ?ownhlo ?ownhlh ?ownhlen ?ownM ?_; (((case k1 => k_asm); (case k2 => k_asm); (case k3 => k_asm); (case k4 => k_asm); (case k5 => k_asm); (case kK => first | exact rfl | assumption); (case kd => ktr_room); (case ku => ktr_units))); (case ownhm => k_mem); (case ownhlo => exact Int.natCast_nonneg _); (case ownhlh => exact v_le24 hpl' hb24); (case ownhlen => rw [hpl']; decide); (case ownM => rw [hpl']; exact mono24))
          intro r2 t2 h2 tk2 hB2 F2 N2
          have e2 := hitL hB2 (Int.natCast_nonneg _) (v_pl hpl')
          clear hB2
          (repeat' ((fail_if_success (with_reducible show PySem.wpAny _ _ (PySem.loadName _ _) _ _ _)); (first | (k_unfold; (try dsimp only)) | (k_end; wrow_close) | walk1 | (dsimp only; walk1) | (leave1; (try dsimp only)) | fail "no step")))
          refine loadX_L (by k_asm) rfl ?_
          (repeat' ((fail_if_success (with_reducible show PySem.wpAny _ _ (PyProof.Rows.subscriptTail _ _ _ _) _ _ _)); (first | (k_unfold; (try dsimp only)) | (k_end; wrow_close) | walk1 | (dsimp only; walk1) | (leave1; (try dsimp only)) | fail "no step")))
          (with_reducible rename News _ _ _ _ => N8)
          refine item_n (s := ⟨_, _, _, _, _⟩) N8 (.tail _ (.tail _ (.tail _ (.tail _ (.head _))))) (Int.natCast_nonneg _) (v_lt63 hk) (show sv[((k : Int)).toNat]? = _ from by rw [Int.toNat_natCast]; exact hts) ?_
          (repeat' ((fail_if_success (with_reducible show PySem.wpAny _ _ (PySem.call (PySem.Value.ref _) _ _) _ _ _)); (first | (k_unfold; (try dsimp only)) | (k_end; wrow_close) | walk1 | (dsimp only; walk1) | (leave1; (try dsimp only)) | fail "no step")))
          rename IntsAre pv _ => hPl
          k_dflt (refine' bisRP2_c (ks := rangeKs 0 24) ?k1 ?k2 ?k3 ?k4 ?k5 ?kK ?kd ?ku ?ownhm hPl ks24 ?ownhlo ?ownhlh ?ownhhi ?ownhlen ?ownM ?_; (((case k1 => k_asm); (case k2 => k_asm); (case k3 => k_asm); (case k4 => k_asm); (case k5 => k_asm); (case kK => first | exact rfl | assumption); (case kd => ktr_room); (case ku => ktr_units))); (case ownhm => k_mem); (case ownhlo => decide); (case ownhlh => exact Int.natCast_nonneg _); (case ownhhi => exact v_le24 hpl' hb24); (case ownhlen => rw [hpl']; decide); (case ownM => rw [hpl']; exact mono24))
          intro r3 t3 h3 tk3 hB3 F3 N3
          have e3 := hitR hB3 (by decide) (v_b24 hb24)
          clear hB3
          (repeat' ((fail_if_success (with_reducible show PySem.wpAny _ _ (PyProof.Rows.subscriptTail _ _ _ _) _ _ _)); (first | (k_unfold; (try dsimp only)) | (k_end; wrow_close) | walk1 | (dsimp only; walk1) | (leave1; (try dsimp only)) | fail "no step")))
          (with_reducible rename News _ _ _ _ => N8)
          refine item_n (s := ⟨_, _, _, _, _⟩) N8 (.tail _ (.tail _ (.tail _ (.tail _ (.head _))))) (Int.natCast_nonneg _) (v_lt63 hk) (show sv[((k : Int)).toNat]? = _ from by rw [Int.toNat_natCast]; exact hts) ?_
          (repeat' ((fail_if_success (with_reducible show PySem.wpAny _ _ (PySem.call (PySem.Value.ref _) _ _) _ _ _)); (first | (k_unfold; (try dsimp only)) | (k_end; wrow_close) | walk1 | (dsimp only; walk1) | (leave1; (try dsimp only)) | fail "no step")))
          rename IntsAre pv _ => hPl
          k_dflt (refine' bisRP1_c (ks := rangeKs 0 24) ?k1 ?k2 ?k3 ?k4 ?k5 ?kK ?kd ?ku ?ownhm hPl ks24 ?ownhlo ?ownhlh ?ownhlen ?ownM ?_; (((case k1 => k_asm); (case k2 => k_asm); (case k3 => k_asm); (case k4 => k_asm); (case k5 => k_asm); (case kK => first | exact rfl | assumption); (case kd => ktr_room); (case ku => ktr_units))); (case ownhm => k_mem); (case ownhlo => exact Int.natCast_nonneg _); (case ownhlh => exact v_le24 hpl' hb24); (case ownhlen => rw [hpl']; decide); (case ownM => rw [hpl']; exact mono24))
          intro r4 t4 h4 tk4 hB4 F4 N4
          have e4 := hitR hB4 (Int.natCast_nonneg _) (v_pl hpl')
          clear hB4
          (repeat' ((fail_if_success (with_reducible show PySem.wpAny _ _ (PySem.inplaceOp PySem.Operator.Add _ _) _ _ _)); (first | (k_unfold; (try dsimp only)) | (k_end; wrow_close) | walk1 | (dsimp only; walk1) | (leave1; (try dsimp only)) | fail "no step")))
          k_dflt (refine' iadd_lists ?ownF ?ownN ?ownhb ?ownhz ?ownU ?ownhne ?_; (case ownF => k_asm); (case ownN => k_asm); (case ownhb => k_mem); (case ownU => k_upd); (case ownhz => simp); (case ownhne => simp))
          intro h5 F5 N5
          simp only [List.cons_append, List.nil_append] at N5
          (repeat' ((fail_if_success (with_reducible show PySem.wpAny _ _ (PySem.call (PySem.Value.builtin "min") _ _) _ _ _)); (first | (k_unfold; (try dsimp only)) | (k_end; wrow_close) | walk1 | (dsimp only; walk1) | (leave1; (try dsimp only)) | fail "no step")))
          (with_reducible rename News _ _ _ _ => N8)
          (with_reducible rename Fr _ _ _ _ => F8)
          rename IntsAre sps _ => hsp
          refine kso_min (s := ⟨_, _, _, _, _⟩) F8 N8 ⟨_, (N8 (D2, LCg.lst sps) (.tail _ (.tail _ (.tail _ (.head _))))).1, rfl, _, rfl⟩ hsp (by rw [spots_len]; decide) (by with_unfolding_all rfl) ?_
          intro h6 M6 t6 tk6 F6 N6 mm ml
          have f6 := spots_min hk mm ml hbd hsn
          clear mm ml
          (repeat' ((fail_if_success (with_reducible show PySem.wpAny _ _ (PySem.call (PySem.Value.builtin "max") _ _) _ _ _)); (first | (k_unfold; (try dsimp only)) | (k_end; wrow_close) | walk1 | (dsimp only; walk1) | (leave1; (try dsimp only)) | fail "no step")))
          (with_reducible rename News _ _ _ _ => N8)
          (with_reducible rename Fr _ _ _ _ => F8)
          rename IntsAre sps _ => hsp
          refine kso_max (s := ⟨_, _, _, _, _⟩) F8 N8 ⟨_, (N8 (D2, LCg.lst sps) (.tail _ (.tail _ (.tail _ (.head _))))).1, rfl, _, rfl⟩ hsp (by rw [spots_len]; decide) (by with_unfolding_all rfl) ?_
          intro h7 M7 t7 tk7 F7 N7 mm ml
          have f7 := spots_max hk mm ml hbd hsn
          clear mm ml
          k_steps
          · (with_reducible rename News _ _ _ _ => N9)
            (with_reducible rename Fr _ _ _ _ => F9)
            exact ⟨rfl, _, _, _, _, rfl, F9, cb_drop N9 drop_4, off, rfl, rfl, rfl, rfl, rfl⟩
          · exfalso
            rename (¬ ([r1, r2, r3, r4] = _)) => hneq
            refine hneq ?_
            rw [v_hit1 e1 f6, v_hit2 e2 hpl' hs24 f7, v_hit1 e3 f6, v_hit2 e4 hpl' hs24 f7]
            rfl
    case bodyO =>
      rintro i I oI oc m nw h tk t hi ⟨rv, ov, dv, sv, n1, n2, n3, n4, o7, o6, v7, v6, rts, ots, tl, hm1, hm2, hm3, hm4, rfl, g7, g6, hr1, hr2, hr3, hr4, hdu, hsz, hf⟩ hoc F N off hIc
      have hf1 := hf.1
      have hf2 := hf.2.1
      have hf3 := hf.2.2.1
      have hf4 := hf.2.2.2.1
      have hf5 := hf.2.2.2.2.1
      have hf6 := hf.2.2.2.2.2
      have qC := hO.2.2.2.2.2.2
      have hIt := (off_facts off).1
      have hct := (off_facts off).2.1
      have yy := (off_facts off).2.2
      replace F := Fr_pin4 F hm1 hm2 hm3 hm4
      obtain ⟨tc, htc⟩ := ints_at hys (i := i) (Nat.lt_trans hi (by rw [hcl]; decide))
      refine wpC_execs_then ?_
      (repeat' ((fail_if_success (with_reducible show PySem.wpAny _ _ (PyProof.Rows.subscriptTail _ _ _ _) _ _ _)); (first | (k_unfold; (try dsimp only)) | (k_end; wrow_close) | walk1 | (dsimp only; walk1) | (leave1; (try dsimp only)) | fail "no step")))
      refine item_n (s := ⟨_, _, _, _, _⟩) N (List.Mem.tail _ (List.Mem.tail _ (List.Mem.tail _ (List.Mem.tail _ (List.Mem.tail _ (List.Mem.tail _ (List.Mem.tail _ (List.Mem.head _)))))))) (by omega) (by omega) (show ys[((i : Int)).toNat]? = _ from by rw [Int.toNat_natCast]; exact htc) ?_
      k_steps
      refine wpC_execs_then ?_
      (repeat' ((fail_if_success (with_reducible show PySem.wpAny _ _ (PySem.call (PySem.Value.builtin "list.append") _ _) _ _ _)); (first | (k_unfold; (try dsimp only)) | (k_end; wrow_close) | walk1 | (dsimp only; walk1) | (leave1; (try dsimp only)) | fail "no step")))
      have hsl : sv.length = i := by have := ints_len hsz; simpa [sizesOf] using this
      k_dflt (refine' append_K ?k1 ?k2 ?k3 ?_ ?ownz; (case k1 => k_asm); (case k2 => k_asm); (case k3 => k_upd); (case ownz => (show sv.toArray.size ≤ sizeLine; rw [List.size_toArray]; exact v_len' hi hsl)))
      intro h8 F8 N8
      k_steps
      refine wpC_execs_then ?_
      (repeat' ((fail_if_success (with_reducible show PySem.wpAny _ _ (PySem.call (PySem.Value.ref _) _ _) _ _ _)); (first | (k_unfold; (try dsimp only)) | (k_end; wrow_close) | walk1 | (dsimp only; walk1) | (leave1; (try dsimp only)) | fail "no step")))
      have hnb : (num cs3 i).natAbs ≤ 1048576 := num_bnd cs3 i
      k_dflt (refine' dressed_c ?k1 ?k2 ?k3 ?k4 ?k5 ?kK ?kd ?ku hnb ?_; (((case k1 => k_asm); (case k2 => k_asm); (case k3 => k_asm); (case k4 => k_asm); (case k5 => k_asm); (case kK => first | exact rfl | assumption); (case kd => ktr_room); (case ku => ktr_units))))
      intro R7 t7 h7 tk7 hD7 F7 N7
      (repeat' ((fail_if_success (with_reducible show PySem.wpAny _ _ (PySem.call (PySem.Value.ref _) _ _) _ _ _)); (first | (k_unfold; (try dsimp only)) | (k_end; wrow_close) | walk1 | (dsimp only; walk1) | (leave1; (try dsimp only)) | fail "no step")))
      k_dflt (refine' parse_c (hD := hD7) ?k1 ?k2 ?k3 ?k4 ?k5 ?kK ?kd ?ku ?ownhm ?_; (((case k1 => k_asm); (case k2 => k_asm); (case k3 => k_asm); (case k4 => k_asm); (case k5 => k_asm); (case kK => first | exact rfl | assumption); (case kd => ktr_room); (case ku => ktr_units))); (case ownhm => k_mem))
      intro x7 t7 t7' h6 tk6 F6 N6 l6
      k_lt l6
      k_steps
      refine wpC_execs_cons (wpC_If (wpC_BoolOp (wpC_or_then ?_)))
      (repeat' ((fail_if_success (with_reducible show PySem.wpAny _ _ (PySem.truthy _) _ _ _)); (first | (k_unfold; (try dsimp only)) | (k_end; wrow_close) | walk1 | (dsimp only; walk1) | (leave1; (try dsimp only)) | fail "no step")))
      rw [bne_self_eq_false]
      k_steps
      refine wpC_or_then ?_
      (repeat' ((fail_if_success (with_reducible show PySem.wpAny _ _ (PySem.truthy _) _ _ _)); (first | (k_unfold; (try dsimp only)) | (k_end; wrow_close) | walk1 | (dsimp only; walk1) | (leave1; (try dsimp only)) | fail "no step")))
      rw [bne_self_eq_false]
      k_steps
      refine wpC_or_last (wpC_Not (wpC_value (wpC_Call ?_)))
      k_steps
      refine wpC_callWith_K (K := Mine.hd.heap_39 w.params) (by assumption) (by k_is) ?_
      k_steps
      k_dflt (refine' nonum_c ?k1 ?k2 ?k3 ?k4 ?k5 ?kK ?kd ?ku ?_; (((case k1 => k_asm); (case k2 => k_asm); (case k3 => k_asm); (case k4 => k_asm); (case k5 => k_asm); (case kK => first | exact rfl | assumption); (case kd => ktr_room); (case ku => ktr_units))))
      intro h5 tk5 F5 N5
      k_steps
      dsimp only
      refine wpC_of ?_
      (repeat' ((fail_if_success (with_reducible show PySem.wpAny _ _ (PySem.exec (PySem.Stmt.For _ _ _ _ _) _) _ _ _)); (first | (k_unfold; (try dsimp only)) | (k_end; wrow_close) | walk1 | (dsimp only; walk1) | (leave1; (try dsimp only)) | fail "no step")))
      refine wpAny_For' (by intro _; rfl) ?_
      (repeat' ((fail_if_success (with_reducible show PySem.wpAny _ _ (PySem.pyIter _) _ _ _)); (first | (k_unfold; (try dsimp only)) | (k_end; wrow_close) | walk1 | (dsimp only; walk1) | (leave1; (try dsimp only)) | fail "no step")))
      (with_reducible rename News _ _ _ _ => N4)
      (with_reducible rename Fr _ _ _ _ => F4)
      (with_reducible rename IsRange _ _ _ _ _ _ _ _ => R4)
      have hct' := hct
      have hIt' := hIt
      refine' pack2 (N := num cs3) (i := i) F4 ?e1 ?e2 ?e3 ?e4 ?e5 ?owne6 ?owne7 ?owne8 ?owne9 N4 ?ownhx hnb g7 g6 hr1 hr2 hr3 hr4 hdu ?hf ?hI ?hw ?_
      case e1 => rfl
      case e2 => rfl
      case e3 => rfl
      case e4 => rfl
      case e5 => rfl
      case owne6 => rfl
      case owne7 => rfl
      case owne8 => rfl
      case owne9 => rfl
      case ownhx => rfl
      case hf => exact ⟨f3 (by k_ne) (by k_ne) (by k_ne) hf.1, f3 (by k_ne) (by k_ne) (by k_ne) hf.2.1, f3 (by k_ne) (by k_ne) (by k_ne) hf.2.2.1, f3 (by k_ne) (by k_ne) (by k_ne) hf.2.2.2.1, f3 (by k_ne) (by k_ne) (by k_ne) hf.2.2.2.2.1, f3 (by k_ne) (by k_ne) (by k_ne) hf.2.2.2.2.2⟩
      case hI => exact f3 (by k_ne) (by k_ne) (by k_ne) hIt
      case hw => exact f3 (by k_ne) (by k_ne) (by k_ne) hct
      intro nwI NI hIJ
      refine' for_range (s₀ := s₁) (n := 11) rfl rfl (by rfl) (by rfl) R4 (by decide) (by decide) F4 NI _ hIJ ?bodyI ?finI
      case finI =>
        clear N4 F4 R4 NI hIJ
        rintro m nw h tk ⟨left, top, laid, t1, t2, t3, t4, t5, rv, ov, n1, n2, o7, o6, v7, v6, rts, ots, tl, e1, e2, e3, e4, e5, e6, e7, e8, e9, rfl, g7, g6, hr1, hr2, hr3, hr4, hst, hdu, hgf, hIt, hct⟩ F N
        obtain ⟨rfl, rfl⟩ := rest_step hst
        have gf1 := hgf.1
        have gf2 := hgf.2.1
        have gf3 := hgf.2.2.1
        have gf4 := hgf.2.2.2.1
        have gf5 := hgf.2.2.2.2.1
        have gf6 := hgf.2.2.2.2.2
        replace F := Fr_pins0 F [(PySem.Str.ofString "left", .int 0 t1), (PySem.Str.ofString "laid", .int (fewest (num cs3 i).natAbs) t3), (PySem.Str.ofString "host", .str (Txt.item (PySem.Str.ofString "ab") (i : Int)) t4), (PySem.Str.ofString "number", .int (num cs3 i) t5),
          (PySem.Str.ofString "cells", .ref D), (PySem.Str.ofString "row", .ref aR), (PySem.Str.ofString "other", .ref aO), (PySem.Str.ofString "sizes", .ref aS)]
          (List.forall_mem_cons.mpr ⟨e1, List.forall_mem_cons.mpr ⟨e3, List.forall_mem_cons.mpr ⟨e4, List.forall_mem_cons.mpr ⟨e5, List.forall_mem_cons.mpr ⟨e6, List.forall_mem_cons.mpr ⟨e7, List.forall_mem_cons.mpr ⟨e8, List.forall_mem_cons.mpr ⟨e9, fun _ h => (nomatch h)⟩⟩⟩⟩⟩⟩⟩⟩)
        dsimp only [pinned] at F
        dsimp only
        (repeat' ((fail_if_success (with_reducible show PySem.wpAny _ _ (PySem.truthy _) _ _ _)); (first | (k_unfold; (try dsimp only)) | (k_end; wrow_close) | walk1 | (dsimp only; walk1) | (leave1; (try dsimp only)) | fail "no step")))
        rw [bne_self_eq_false]
        (repeat' ((fail_if_success (with_reducible show PySem.wpAny _ _ (PySem.call (PySem.Value.ref _) _ _) _ _ _)); (first | (k_unfold; (try dsimp only)) | (k_end; wrow_close) | walk1 | (dsimp only; walk1) | (leave1; (try dsimp only)) | fail "no step")))
        k_dflt (refine' fewest_c ?k1 ?k2 ?k3 ?k4 ?k5 ?kK ?kd ?ku ?ownh0 ?_; (((case k1 => k_asm); (case k2 => k_asm); (case k3 => k_asm); (case k4 => k_asm); (case k5 => k_asm); (case kK => first | exact rfl | assumption); (case kd => ktr_room); (case ku => ktr_units))); (case ownh0 => omega))
        intro t8 h8 tk8 F8 N8
        rw [abs_if]
        (repeat' ((fail_if_success (with_reducible show PySem.wpAny _ _ (PySem.truthy _) _ _ _)); (first | (k_unfold; (try dsimp only)) | (k_end; wrow_close) | walk1 | (dsimp only; walk1) | (leave1; (try dsimp only)) | fail "no step")))
        rw [bne_self_eq_false]
        have hn3 : (-3 * num cs3 i).natAbs = 3 * (num cs3 i).natAbs := v_neg3 _
        (repeat' ((fail_if_success (with_reducible show PySem.wpAny _ _ (PySem.call (PySem.Value.ref _) _ _) _ _ _)); (first | (k_unfold; (try dsimp only)) | (k_end; wrow_close) | walk1 | (dsimp only; walk1) | (leave1; (try dsimp only)) | fail "no step")))
        k_dflt (refine' int2ap_c ?k1 ?k2 ?k3 ?k4 ?k5 ?kK ?kd ?ku ?ownh0 ?_; (((case k1 => k_asm); (case k2 => k_asm); (case k3 => k_asm); (case k4 => k_asm); (case k5 => k_asm); (case kK => first | exact rfl | assumption); (case kd => ktr_room); (case ku => ktr_units))); (case ownh0 => exact v_ap1 hnb))
        intro t7 h7 tk7 F7 N7
        (repeat' ((fail_if_success (with_reducible show PySem.wpAny _ _ (PySem.call (PySem.Value.ref _) _ _) _ _ _)); (first | (k_unfold; (try dsimp only)) | (k_end; wrow_close) | walk1 | (dsimp only; walk1) | (leave1; (try dsimp only)) | fail "no step")))
        k_dflt (refine' int2ap_c ?k1 ?k2 ?k3 ?k4 ?k5 ?kK ?kd ?ku ?ownh0 ?_; (((case k1 => k_asm); (case k2 => k_asm); (case k3 => k_asm); (case k4 => k_asm); (case k5 => k_asm); (case kK => first | exact rfl | assumption); (case kd => ktr_room); (case ku => ktr_units))); (case ownh0 => exact v_ap hnb))
        intro t6 h6 tk6 F6 N6
        rw [hn3]
        have hx1 : (num cs3 i).natAbs < 2 ^ 24 := v_ap4 hnb
        have hx3 : 3 * (num cs3 i).natAbs < 2 ^ 24 := v_ap3 hnb
        (repeat' ((fail_if_success (with_reducible show PySem.wpAny _ _ (PySem.call (PySem.Value.ref _) _ _) _ _ _)); (first | (k_unfold; (try dsimp only)) | (k_end; wrow_close) | walk1 | (dsimp only; walk1) | (leave1; (try dsimp only)) | fail "no step")))
        k_dflt (refine' read_c ?k1 ?k2 ?k3 ?k4 ?k5 ?kK ?kd ?ku ?ownhb ?ownhL ?ownhA ?_; (((case k1 => k_asm); (case k2 => k_asm); (case k3 => k_asm); (case k4 => k_asm); (case k5 => k_asm); (case kK => first | exact rfl | assumption); (case kd => ktr_room); (case ku => ktr_units))); (case ownhb => exact ap_size hx1); (case ownhL => exact ap_letters _); (case ownhA => exact ap_notA _))
        intro t8 h8 tk8 F8 N8
        rw [read_ap]
        (repeat' ((fail_if_success (with_reducible show PySem.wpAny _ _ (PySem.compareOp PySem.CmpOp.NotEq _ _) _ _ _)); (first | (k_unfold; (try dsimp only)) | (k_end; wrow_close) | walk1 | (dsimp only; walk1) | (leave1; (try dsimp only)) | fail "no step")))
        rw [abs_if]
        (repeat' ((fail_if_success (with_reducible show PySem.wpAny _ _ (PySem.truthy _) _ _ _)); (first | (k_unfold; (try dsimp only)) | (k_end; wrow_close) | walk1 | (dsimp only; walk1) | (leave1; (try dsimp only)) | fail "no step")))
        rw [bne_self_eq_false]
        (repeat' ((fail_if_success (with_reducible show PySem.wpAny _ _ (PySem.call (PySem.Value.ref _) _ _) _ _ _)); (first | (k_unfold; (try dsimp only)) | (k_end; wrow_close) | walk1 | (dsimp only; walk1) | (leave1; (try dsimp only)) | fail "no step")))
        k_dflt (refine' read_c ?k1 ?k2 ?k3 ?k4 ?k5 ?kK ?kd ?ku ?ownhb ?ownhL ?ownhA ?_; (((case k1 => k_asm); (case k2 => k_asm); (case k3 => k_asm); (case k4 => k_asm); (case k5 => k_asm); (case kK => first | exact rfl | assumption); (case kd => ktr_room); (case ku => ktr_units))); (case ownhb => exact ap_size hx3); (case ownhL => exact ap_letters _); (case ownhA => exact ap_notA _))
        intro t9 h9 tk9 F9 N9
        rw [read_ap]
        (repeat' ((fail_if_success (with_reducible show PySem.wpAny _ _ (PySem.compareOp PySem.CmpOp.NotEq _ _) _ _ _)); (first | (k_unfold; (try dsimp only)) | (k_end; wrow_close) | walk1 | (dsimp only; walk1) | (leave1; (try dsimp only)) | fail "no step")))
        rw [abs_if, show ((3 * (num cs3 i).natAbs : Nat) : Int) = 3 * ((num cs3 i).natAbs : Int) from v_three _]
        (repeat' ((fail_if_success (with_reducible show PySem.wpAny _ _ (PySem.truthy _) _ _ _)); (first | (k_unfold; (try dsimp only)) | (k_end; wrow_close) | walk1 | (dsimp only; walk1) | (leave1; (try dsimp only)) | fail "no step")))
        rw [bne_self_eq_false]
        (repeat' ((fail_if_success (with_reducible show PySem.wpAny _ _ (PySem.call (PySem.Value.ref _) _ _) _ _ _)); (first | (k_unfold; (try dsimp only)) | (k_end; wrow_close) | walk1 | (dsimp only; walk1) | (leave1; (try dsimp only)) | fail "no step")))
        k_dflt (refine' figures_c ?k1 ?k2 ?k3 ?k4 ?k5 ?kK ?kd ?ku ?ownhb ?_; (((case k1 => k_asm); (case k2 => k_asm); (case k3 => k_asm); (case k4 => k_asm); (case k5 => k_asm); (case kK => first | exact rfl | assumption); (case kd => ktr_room); (case ku => ktr_units))); (case ownhb => exact ap_size hx1))
        intro lo ln lus h5 tk5 F5 N5 hlow llo
        k_lt llo
        rw [figs25 hx1] at hlow
        (repeat' ((fail_if_success (with_reducible show PySem.wpAny _ _ (PySem.call (PySem.Value.ref _) _ _) _ _ _)); (first | (k_unfold; (try dsimp only)) | (k_end; wrow_close) | walk1 | (dsimp only; walk1) | (leave1; (try dsimp only)) | fail "no step")))
        k_dflt (refine' figures_c ?k1 ?k2 ?k3 ?k4 ?k5 ?kK ?kd ?ku ?ownhb ?_; (((case k1 => k_asm); (case k2 => k_asm); (case k3 => k_asm); (case k4 => k_asm); (case k5 => k_asm); (case kK => first | exact rfl | assumption); (case kd => ktr_room); (case ku => ktr_units))); (case ownhb => exact ap_size hx3))
        intro uo un uus h4 tk4 F4 N4 hupp luo
        k_lt luo
        rw [figs25 hx3] at hupp
        (repeat' ((fail_if_success (with_reducible show PySem.wpAny _ _ (PySem.exec (PySem.Stmt.Assign (_ :: _) (PySem.Expr.ListComp _ _ _ _) _) _) _ _ _)); (first | (k_unfold; (try dsimp only)) | (k_end; wrow_close) | walk1 | (dsimp only; walk1) | (leave1; (try dsimp only)) | fail "no step")))
        refine comp_assign (by with_unfolding_all rfl) (by rfl) (by rfl) (by decide) ?_
        (repeat' ((fail_if_success (with_reducible show PySem.wpAny _ _ (PySem.pyIter _) _ _ _)); (first | (k_unfold; (try dsimp only)) | (k_end; wrow_close) | walk1 | (dsimp only; walk1) | (leave1; (try dsimp only)) | fail "no step")))
        (with_reducible rename Fr _ _ _ _ => FA)
        (with_reducible rename News _ _ _ _ => NA)
        (with_reducible rename IsRange _ _ _ _ _ _ _ _ => RA)
        refine src_range (s := ⟨_, _, _, _, _⟩) (n := 24) rfl FA NA RA (by decide) (by decide) ?_
        intro I2 hA Sr
        refine comp_core (by decide) (by rfl) (by rfl) Sr (fun j ys nw => j ≤ 24 ∧ nw = _ ∧ IntsAre ys (tmsOf (num cs3 i).natAbs j)) ⟨by decide, rfl, .nil⟩ (fun _ _ _ _ => trivial) ?ownsz ?ownbody ?ownfin
        case ownsz =>
          rintro j ys nw ⟨hi, rfl, hys⟩
          have h1 := ints_len hys
          rw [tms_len] at h1
          exact v_len hi h1
        case ownbody =>
          rintro C2 D2 k v zs m₂ nw oI2 oC hB tkB hk ⟨tk, rfl⟩ ⟨hk2, rfl, hzs⟩ hoC hm1 FB NB offB pl
          refine wpAny_tests_nil ?_
          simp only [if_true]
          (repeat' ((fail_if_success (with_reducible show PySem.wpAny _ _ (PyProof.Rows.subscriptTail _ _ _ _) _ _ _)); (first | (k_unfold; (try dsimp only)) | (k_end; wrow_close) | walk1 | (dsimp only; walk1) | (leave1; (try dsimp only)) | fail "no step")))
          rename IntsAre uus _ => hupp
          rename IntsAre lus _ => hlow
          have hq1 : ((0 : Int) + (k : Int) + 1).toNat = k + 1 := v_toNat1 k
          obtain ⟨tu1, htu⟩ := bits_at hupp (j := k + 1) (v_k25 hk)
          obtain ⟨tu2, htl⟩ := bits_at hlow (j := k + 1) (v_k25 hk)
          have hb1 := bitN_bnd (3 * (num cs3 i).natAbs) (k + 1)
          have hb2 := bitN_bnd (num cs3 i).natAbs (k + 1)
          refine item_n (s := ⟨_, _, _, _, _⟩) NB (by k_mem) (v_nn1 k) (v_lt1 hk) (show uus[((0 : Int) + (k : Int) + 1).toNat]? = _ from by rw [hq1]; exact htu) ?_
          (repeat' ((fail_if_success (with_reducible show PySem.wpAny _ _ (PyProof.Rows.subscriptTail _ _ _ _) _ _ _)); (first | (k_unfold; (try dsimp only)) | (k_end; wrow_close) | walk1 | (dsimp only; walk1) | (leave1; (try dsimp only)) | fail "no step")))
          refine item_n (s := ⟨_, _, _, _, _⟩) NB (by k_mem) (v_nn1 k) (v_lt1 hk) (show lus[((0 : Int) + (k : Int) + 1).toNat]? = _ from by rw [hq1]; exact htl) ?_
          k_steps
          refine ⟨_, _, _, rfl, FB, NB, offB, hk, rfl, tms_snoc hzs⟩
        case ownfin =>
          rintro C2 D2 zs m' nw hA tkA ⟨_, rfl, hzs⟩ FA hnA NA off2 oD2 hCD2 hCL2 hC02
          refine' post_assign ?q1 ?q2 ?q3 FA hnA NA off2 hCD2 hCL2 hC02 ?_
          case q1 => rfl
          case q2 => rfl
          case q3 => rfl
          intro hB tkB FB NB
          have offD2 := off1_mem oD2
          simp only [LCg.Off1] at oD2
          dsimp only
          (repeat' ((fail_if_success (with_reducible show PySem.wpAny _ _ (PySem.exec (PySem.Stmt.If _ _ _ _) _) _ _ _)); (first | (k_unfold; (try dsimp only)) | (k_end; wrow_close) | walk1 | (dsimp only; walk1) | (leave1; (try dsimp only)) | fail "no step")))
          refine if_cut (s₀ := s₁) (ts := (List.range 24).map (fun k => dig (num cs3 i) k * 2 ^ k)) FB NB ?ifs ?cont
          case ifs =>
            by_cases hneg : num cs3 i < 0
            · (repeat' ((fail_if_success (with_reducible show PySem.wpAny _ _ (PySem.exec (PySem.Stmt.Assign (_ :: _) (PySem.Expr.ListComp _ _ _ _) _) _) _ _ _)); (first | (k_unfold; (try dsimp only)) | (k_end; wrow_close) | walk1 | (dsimp only; walk1) | (leave1; (try dsimp only)) | fail "no step")))
              refine comp_assign (by with_unfolding_all rfl) (by rfl) (by rfl) (by decide) ?_
              (repeat' ((fail_if_success (with_reducible show PySem.wpAny _ _ (PySem.pyIter _) _ _ _)); (first | (k_unfold; (try dsimp only)) | (k_end; wrow_close) | walk1 | (dsimp only; walk1) | (leave1; (try dsimp only)) | fail "no step")))
              (with_reducible rename Fr _ _ _ _ => FC)
              (with_reducible rename News _ _ _ _ => NC)
              refine src_list (s := ⟨_, _, _, _, _⟩) rfl FC NC (.head _) ?_
              intro I3 hC Sr3
              rename IntsAre zs _ => hzs
              have hzl := ints_len hzs
              rw [tms_len] at hzl
              have hzl' : zs.toArray.size = 24 := by rw [List.size_toArray, hzl]
              refine comp_core (by decide) (by rfl) (by rfl) Sr3 (fun j ys nw => j ≤ 24 ∧ nw = _ ∧ IntsAre ys (ngsOf (num cs3 i).natAbs j)) ⟨by decide, rfl, .nil⟩ (by rintro _ _ _ ⟨_, rfl, _⟩; exact .inr ⟨_, .head _, rfl, _, rfl⟩) ?ownsz ?ownbody ?ownfin
              case ownsz =>
                rintro j ys nw ⟨hi, rfl, hys⟩
                have h1 := ints_len hys
                rw [ngs_len] at h1
                exact v_len hi h1
              case ownbody =>
                rintro C3 D3 k v ys m₂ nw oI3 oC h3 tk3 hk hv ⟨hk2, rfl, hys⟩ hoC hm1 F3 N3 off3 pl
                rw [hzl'] at hk
                obtain ⟨tv, rfl⟩ := tms_at hzs hv hk
                refine wpAny_tests_nil ?_
                simp only [if_true]
                k_steps
                exact ⟨_, _, _, rfl, F3, N3, off3, hk, rfl, ngs_snoc hys⟩
              case ownfin =>
                rintro C3 D3 us m' nw hA tkA ⟨_, rfl, hus⟩ FA hnA NA off3 oD3 hCD3 hCL3 hC03
                refine' post_assign ?q1 ?q2 ?q3 FA hnA NA off3 hCD3 hCL3 hC03 ?_
                case q1 => rfl
                case q2 => rfl
                case q3 => rfl
                intro hF tkF FF NF
                have offD3 := off1_mem oD3
                rw [hzl', ngs_neg hneg] at hus
                dsimp only
                k_steps
                exact ⟨rfl, _, _, _, _, rfl, FF, cb_drop NF drop_2nd, hus, fun p hp => offD3 p (.tail _ hp)⟩
            · k_steps
              rename IntsAre zs _ => hzs
              rw [tms_pos hneg] at hzs
              exact ⟨rfl, _, _, _, _, rfl, Fr_pin FB rfl, NB, hzs, offD2⟩
          case cont =>
            intro hE tkE DT us FE NE hus offT
            have hoc0 := hoc
            dsimp only
            (repeat' ((fail_if_success (with_reducible show PySem.wpAny _ _ (PySem.eval (PySem.Expr.ListComp _ _ _ _) _) _ _ _)); (first | (k_unfold; (try dsimp only)) | (k_end; wrow_close) | walk1 | (dsimp only; walk1) | (leave1; (try dsimp only)) | fail "no step")))
            refine comp_eval (by rfl) (by rfl) (by decide) ?_
            (repeat' ((fail_if_success (with_reducible show PySem.wpAny _ _ (PySem.pyIter _) _ _ _)); (first | (k_unfold; (try dsimp only)) | (k_end; wrow_close) | walk1 | (dsimp only; walk1) | (leave1; (try dsimp only)) | fail "no step")))
            (with_reducible rename Fr _ _ _ _ => FC)
            (with_reducible rename News _ _ _ _ => NC)
            refine src_list (s := ⟨_, _, _, _, _⟩) rfl FC NC (.head _) ?_
            intro I3 hC Sr3
            rename IntsAre us _ => hus
            have hul := ints_len hus
            rw [List.length_map, List.length_range] at hul
            have hul' : us.toArray.size = 24 := by rw [List.size_toArray, hul]
            refine comp_core (by decide) (by rfl) (by rfl) Sr3 (fun j ys nw => j ≤ 24 ∧ TupJ _ (i : Int) (termAt (num cs3) i) j ys nw) ⟨by decide, tupJ_0 _ _ _⟩ (by rintro _ _ _ ⟨_, tups, rfl, _, _⟩; exact .inr ⟨_, List.mem_append_right _ (.head _), rfl, _, rfl⟩) ?ownsz ?ownbody ?ownfin
            case ownsz =>
              rintro j ys nw ⟨hi, hJ⟩
              have h1 := tupJ_len hJ
              exact v_len hi h1
            case ownbody =>
              rintro C3 D3 k v ys m₂ nw oI3 oC h3 tk3 hk hv ⟨hk2, tups, rfl, hrt, hbt⟩ hoC hm1 F3 N3 off3 pl
              rw [hul'] at hk
              obtain ⟨tv, rfl⟩ : ∃ t, v = .int (termAt (num cs3) i k) t := by
                obtain ⟨t, ht⟩ := ints_some hus (i := k) (n := termAt (num cs3) i k) (by rw [List.getElem?_map, List.getElem?_range hk]; rfl)
                rw [List.getElem?_toArray, ht] at hv
                cases hv; exact ⟨t, rfl⟩
              refine wpAny_tests_nil ?_
              simp only [if_true]
              (repeat' ((fail_if_success (with_reducible show PySem.wpAny _ _ (PySem.eval (PySem.Expr.Name _ _) _) _ _ _)); (first | (k_unfold; (try dsimp only)) | (k_end; wrow_close) | walk1 | (dsimp only; walk1) | (leave1; (try dsimp only)) | fail "no step")))
              walk1
              (repeat' ((fail_if_success (with_reducible show PySem.wpAny _ _ (PySem.eval (PySem.Expr.Name _ _) _) _ _ _)); (first | (k_unfold; (try dsimp only)) | (k_end; wrow_close) | walk1 | (dsimp only; walk1) | (leave1; (try dsimp only)) | fail "no step")))
              first
              | refine lcf_free N3 rfl (.tail _ (.tail _ (.tail _ (List.mem_append_right tups (.tail _ (.tail _ (.tail _ (.tail _ (.head _))))))))) hoc0 ?_
              | refine lcf_cell N3 rfl (.tail _ (.tail _ (.tail _ (List.mem_append_right tups (.tail _ (.tail _ (.tail _ (.tail _ (.head _))))))))) hoc0 ?_
              | refine kcf_cell N3 rfl (.tail _ (.tail _ (.tail _ (List.mem_append_right tups (.tail _ (.tail _ (.tail _ (.tail _ (.head _))))))))) hoc0 ?_
              k_steps
              (with_reducible rename News _ _ _ _ => N4)
              (with_reducible rename Fr _ _ _ _ => F4)
              (rename (_ ∧ _ ∧ _ ∧ AllLt _ _) => hlt)
              exact ⟨_, _, _, rfl, F4, news_in3 N4, List.forall_mem_cons.mpr ⟨⟨Ne.symm (Nat.ne_of_lt hlt.1), Ne.symm (Nat.ne_of_lt hlt.2.1), Ne.symm (Nat.ne_of_lt hlt.2.2.1)⟩, off3⟩, hk, tupJ_more hrt hbt (kst_ltOf hlt.2.2.2)⟩
            case ownfin =>
              rintro C3 D3 zs m' nw hA tkA ⟨_, tups, rfl, hrt, hbt⟩ FA hnA NA off3 oD3 hCD3 hCL3 hC03
              rw [hul'] at hrt
              have offD3 := off1_mem oD3
              refine post_eval FA hnA NA off3 hCD3 hCL3 hC03 ?_
              intro hB FB NB
              replace NB := news_midN 18 NB
              simp only [mid] at NB
              have hfD : ∀ p ∈ tups ++ tl, p.1 ≠ aD := fun p hp => by
                rcases List.mem_append.mp hp with hp | hp
                · exact Ne.symm (Nat.ne_of_lt (hbt p hp (aD, _) (.tail _ (.tail _ (.tail _ (.tail _ (.tail _ (.tail _ (.head _)))))))))
                · exact hgf.2.1 p hp
              have na1 : @Ne Nat aD D3 := offD3 (aD, _) (List.mem_append_right _ (.tail _ (.tail _ (.tail _ (.tail _ (.tail _ (.tail _ (.head _))))))))
              have na2 : @Ne Nat aD DT := offT (aD, _) (.tail _ (.tail _ (.tail _ (.tail _ (.tail _ (.head _))))))
              have hdl : dv.length = i := hdu.1
              (repeat' ((fail_if_success (with_reducible show PySem.wpAny _ _ (PySem.call (PySem.Value.builtin "list.append") _ _) _ _ _)); (first | (k_unfold; (try dsimp only)) | (k_end; wrow_close) | walk1 | (dsimp only; walk1) | (leave1; (try dsimp only)) | fail "no step")))
              k_dflt (refine' append_K ?k1 ?k2 ?k3 ?_ ?ownz; (case k1 => k_asm); (case k2 => k_asm); (case k3 => k_upd); (case ownz => (show dv.toArray.size ≤ sizeLine; rw [List.size_toArray]; exact v_len' hi hdl)))
              intro h9 F9 N9
              k_steps
              (with_reducible rename News _ _ _ _ => N9)
              (with_reducible rename Fr _ _ _ _ => F9)
              rename IntsAre sv _ => hsz
              refine rest_end (v7' := some (Value.ref uo)) (v6' := some (Value.ref lo)) F9 ?owne6 ?owne7 ?owne8 ?owne9 N9 offD3 offT luo llo hbt off ?ownh7 ?ownh6 hr1 hr2 hr3 hr4 hdu ?ownedv hrt ?ownhsz hgf hIt hct
              case owne6 => rfl
              case owne7 => rfl
              case owne8 => rfl
              case owne9 => rfl
              case ownh7 => assumption
              case ownh6 => assumption
              case ownedv => simp
              case ownhsz => exact sizes_next hsz
      case bodyI =>
        rintro k I2 oI2 m2 nw2 h6 tk6 t6 hk ⟨left, top, laid, t1, t2, t3, t4, t5, rv, ov, n1, n2, o7, o6, v7, v6, rts, ots, tl, e1, e2, e3, e4, e5, e6, e7, e8, e9, rfl, g7, g6, hr1, hr2, hr3, hr4, hst, hdu, hgf, hIt, hct⟩ F N off
        have gf1 := hgf.1
        have gf2 := hgf.2.1
        have gf3 := hgf.2.2.1
        have gf4 := hgf.2.2.2.1
        have gf5 := hgf.2.2.2.2.1
        have gf6 := hgf.2.2.2.2.2
        have z0 := (off_facts2 off).1
        have zz := (off_facts2 off).2
        replace F := Fr_pins F [(PySem.Str.ofString "left", .int left t1), (PySem.Str.ofString "top", .int top t2), (PySem.Str.ofString "laid", .int laid t3), (PySem.Str.ofString "host", .str (Txt.item (PySem.Str.ofString "ab") (i : Int)) t4), (PySem.Str.ofString "number", .int (num cs3 i) t5),
          (PySem.Str.ofString "cells", .ref D), (PySem.Str.ofString "row", .ref aR), (PySem.Str.ofString "other", .ref aO), (PySem.Str.ofString "sizes", .ref aS)]
          (List.forall_mem_cons.mpr ⟨e1, List.forall_mem_cons.mpr ⟨e2, List.forall_mem_cons.mpr ⟨e3, List.forall_mem_cons.mpr ⟨e4, List.forall_mem_cons.mpr ⟨e5, List.forall_mem_cons.mpr ⟨e6, List.forall_mem_cons.mpr ⟨e7, List.forall_mem_cons.mpr ⟨e8, List.forall_mem_cons.mpr ⟨e9, fun _ h => (nomatch h)⟩⟩⟩⟩⟩⟩⟩⟩⟩)
        dsimp only [pinned] at F
        have pvl := pv24 hPl
        (repeat' ((fail_if_success (with_reducible show PySem.wpAny _ _ (PySem.call (PySem.Value.ref _) _ _) _ _ _)); (first | (k_unfold; (try dsimp only)) | (k_end; wrow_close) | walk1 | (dsimp only; walk1) | (leave1; (try dsimp only)) | fail "no step")))
        rotate_left
        · have hz : left = 0 := by first | assumption | omega | (rename (_ != _) = false => hh; simpa using hh)
          exact ⟨rfl, _, _, _, _, rfl, F, cb_drop N (fun p hp => hp), off, ⟨left, top, laid, t1, t2, t3, t4, t5, rv, ov, n1, n2, o7, o6, v7, v6, rts, ots, tl, rfl, rfl, rfl, rfl, rfl, rfl, rfl, rfl, rfl, rfl, g7, g6, hr1, hr2, rowOk_up hr3, rowOk_up hr4, step_idle hst hz, hdu, hgf, hIt, hct⟩⟩
        k_dflt (refine' bisLP0_c (ks := rangeKs 0 24) ?k1 ?k2 ?k3 ?k4 ?k5 ?kK ?kd ?ku ?ownhm hPl ks24 ?ownhlen ?ownM ?_; (((case k1 => k_asm); (case k2 => k_asm); (case k3 => k_asm); (case k4 => k_asm); (case k5 => k_asm); (case kK => first | exact rfl | assumption); (case kd => ktr_room); (case ku => ktr_units))); (case ownhm => k_mem); (case ownhlen => rw [pvl]; decide); (case ownM => rw [pvl]; exact mono24))
        intro r8 t8 h8 tk8 hB8 F8 N8
        have hne : left ≠ 0 := by first | assumption | (rename (_ != _) = true => hh; simpa using hh)
        have htop := place_top hst hne
        (repeat' ((fail_if_success (with_reducible show PySem.wpAny _ _ (PySem.call (PySem.Value.ref _) _ _) _ _ _)); (first | (k_unfold; (try dsimp only)) | (k_end; wrow_close) | walk1 | (dsimp only; walk1) | (leave1; (try dsimp only)) | fail "no step")))
        k_dflt (refine' bisRP2_c (ks := rangeKs 0 24) ?k1 ?k2 ?k3 ?k4 ?k5 ?kK ?kd ?ku ?ownhm hPl ks24 ?ownhlo ?ownhlh ?ownhhi ?ownhlen ?ownM ?_; (((case k1 => k_asm); (case k2 => k_asm); (case k3 => k_asm); (case k4 => k_asm); (case k5 => k_asm); (case kK => first | exact rfl | assumption); (case kd => ktr_room); (case ku => ktr_units))); (case ownhm => k_mem); (case ownhlo => decide); (case ownhlh => exact htop.1); (case ownhhi => exact v_top htop pvl); (case ownhlen => rw [pvl]; decide); (case ownM => rw [pvl]; exact mono24))
        intro r7 t7 h7 tk7 hB7 F7 N7
        have hsame := place_same hst hne pvl hB8 hB7
        subst hsame
        have hlow := place_low hst hne pvl hB8
        (repeat' ((fail_if_success (with_reducible show PySem.wpAny _ _ (PySem.truthy _) _ _ _)); (first | (k_unfold; (try dsimp only)) | (k_end; wrow_close) | walk1 | (dsimp only; walk1) | (leave1; (try dsimp only)) | fail "no step")))
        rw [bne_self_eq_false]
        have htb := term_bnd hlow
        obtain ⟨v, hv⟩ : ∃ v : Int, v = if left < 0 then -(2 : Int) ^ (r7 - 2).toNat else (2 : Int) ^ (r7 - 2).toNat := ⟨_, rfl⟩
        have hvb : v.natAbs ≤ 1048576 := v_term htb hv
        (repeat' ((fail_if_success (with_reducible show PySem.wpAny _ _ (PySem.exec (PySem.Stmt.If _ _ _ _) _) _ _ _)); (first | (k_unfold; (try dsimp only)) | (k_end; wrow_close) | walk1 | (dsimp only; walk1) | (leave1; (try dsimp only)) | fail "no step")))
        (with_reducible rename News _ _ _ _ => NV)
        (with_reducible rename Fr _ _ _ _ => FV)
        refine if_term (s₀ := s₁) (v := v) FV NV ?ifs ?cont
        case ifs =>
          by_cases hneg : left < 0
          · rw [if_pos hneg] at hv
            subst hv
            k_steps
            exact ⟨rfl, _, _, _, rfl, by k_asm, by k_asm⟩
          · rw [if_neg hneg] at hv
            subst hv
            k_steps
            exact ⟨rfl, _, _, _, rfl, Fr_pin (by k_asm) rfl, by k_asm⟩
        case cont =>
          intro hV tkV tV FV NV
          (repeat' ((fail_if_success (with_reducible show PySem.wpAny _ _ (PySem.call (PySem.Value.ref _) _ _) _ _ _)); (first | (k_unfold; (try dsimp only)) | (k_end; wrow_close) | walk1 | (dsimp only; walk1) | (leave1; (try dsimp only)) | fail "no step")))
          k_dflt (refine' dressed_c ?k1 ?k2 ?k3 ?k4 ?k5 ?kK ?kd ?ku hvb ?_; (((case k1 => k_asm); (case k2 => k_asm); (case k3 => k_asm); (case k4 => k_asm); (case k5 => k_asm); (case kK => first | exact rfl | assumption); (case kd => ktr_room); (case ku => ktr_units))))
          intro R6 tR hR tkR hDR FR NR
          (repeat' ((fail_if_success (with_reducible show PySem.wpAny _ _ (PySem.call (PySem.Value.ref _) _ _) _ _ _)); (first | (k_unfold; (try dsimp only)) | (k_end; wrow_close) | walk1 | (dsimp only; walk1) | (leave1; (try dsimp only)) | fail "no step")))
          k_dflt (refine' parse_c (hD := hDR) ?k1 ?k2 ?k3 ?k4 ?k5 ?kK ?kd ?ku ?ownhm ?_; (((case k1 => k_asm); (case k2 => k_asm); (case k3 => k_asm); (case k4 => k_asm); (case k5 => k_asm); (case kK => first | exact rfl | assumption); (case kd => ktr_room); (case ku => ktr_units))); (case ownhm => k_mem))
          intro xP tP tP' hP tkP FP NP lP
          k_lt lP
          (repeat' ((fail_if_success (with_reducible show PySem.wpAny _ _ (PySem.call (PySem.Value.ref _) _ _) _ _ _)); (first | (k_unfold; (try dsimp only)) | (k_end; wrow_close) | walk1 | (dsimp only; walk1) | (leave1; (try dsimp only)) | fail "no step")))
          have hrl : rv.length < 1000 := v_rows hi hk hr1.1 hr3.2.1
          k_dflt (refine' insL_c ?k1 ?k2 ?k3 ?k4 ?k5 ?kK ?kd ?ku ?ownhm ?ownhx ?ownhr hrl ?ownM ?ownhU ?_; (((case k1 => k_asm); (case k2 => k_asm); (case k3 => k_asm); (case k4 => k_asm); (case k5 => k_asm); (case kK => first | exact rfl | assumption); (case kd => ktr_room); (case ku => ktr_units))); (case ownhm => k_mem); (case ownhx => k_mem); (case ownhr => exact row_more hr1 (fun p hp => by simp [hp])); (case ownM => exact row_mono ltA_le hr3.1 hr1.1); (case ownhU => intro vs' n'; k_upd))
          intro rA hA tkA hBA FA NA
          (repeat' ((fail_if_success (with_reducible show PySem.wpAny _ _ (PySem.call (PySem.Value.ref _) _ _) _ _ _)); (first | (k_unfold; (try dsimp only)) | (k_end; wrow_close) | walk1 | (dsimp only; walk1) | (leave1; (try dsimp only)) | fail "no step")))
          have hol : ov.length < 1000 := v_rows hi hk hr2.1 hr4.2.1
          k_dflt (refine' insR_c ?k1 ?k2 ?k3 ?k4 ?k5 ?kK ?kd ?ku ?ownhm ?ownhx ?ownhr hol ?ownM ?ownhU ?_; (((case k1 => k_asm); (case k2 => k_asm); (case k3 => k_asm); (case k4 => k_asm); (case k5 => k_asm); (case kK => first | exact rfl | assumption); (case kd => ktr_room); (case ku => ktr_units))); (case ownhm => k_mem); (case ownhx => k_mem); (case ownhr => exact row_more hr2 (fun p hp => by simp [hp])); (case ownM => exact row_mono ltB_le hr4.1 hr2.1); (case ownhU => intro vs' n'; k_upd))
          intro rB hB tkB hBB FB NB
          (repeat' ((fail_if_success (with_reducible show PySem.wpAny _ _ (PySem.loadName _ _) _ _ _)); (first | (k_unfold; (try dsimp only)) | (k_end; wrow_close) | walk1 | (dsimp only; walk1) | (leave1; (try dsimp only)) | fail "no step")))
          refine loadX_L FB rfl ?_
          (repeat' ((fail_if_success (with_reducible show PySem.wpAny _ _ (PySem.loadName _ _) _ _ _)); (first | (k_unfold; (try dsimp only)) | (k_end; wrow_close) | walk1 | (dsimp only; walk1) | (leave1; (try dsimp only)) | fail "no step")))
          refine loadX_L (by k_asm) rfl ?_
          k_steps
          (with_reducible rename News _ _ _ _ => N9)
          (with_reducible rename Fr _ _ _ _ => F9)
          refine turn_end (v := v) F9 rfl rfl rfl rfl rfl rfl rfl rfl rfl N9 (by assumption) (by assumption) (by assumption) (by assumption) off g7 g6 hr1 hr2 hr3 hr4 hst hnb (taken_of hst hne pvl hB8 hv) hBA hBB hdu hgf hIt hct
end Mine
end
set_option maxHeartbeats 4000000 in
theorem PySem.Challenge.cw_wy0017_01_holds : PySem.Challenge.rw_wy0017_01.Holds := by
  exact Mine.law
