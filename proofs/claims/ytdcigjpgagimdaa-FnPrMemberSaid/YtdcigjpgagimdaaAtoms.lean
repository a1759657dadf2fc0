/-
Strings, numbers and tabs: what the printing functions come to on their texts.
-/
import Derived.Test.YtdcigjpgagimdaaMx7
import Derived.Test.YtdcigjpgagimdaaMx8
import Derived.Test.YtdcigjpgagimdaaMx9
import Derived.Test.YtdcigjpgagimdaaBuf
import Derived.Test.YtdcigjpgagimdaaTx2
set_option linter.unusedVariables false
set_option linter.unusedSimpArgs false
namespace Go.Proofs.Ytdcigjpgagimdaa.M
open Go Go.RowKit Tx Go.Proofs.YtdcigjpgagimdaaW.PrintWords

theorem w_up {q : Nat} (h : q < 4398046511104) : wrap64 ((q : Int) + 1) = ((q + 1 : Nat) : Int) := by
  unfold wrap64
  omega
theorem w_down {q : Nat} (h : q < 4398046511104) : wrap64 (((q + 1 : Nat) : Int) - 1) = (q : Int) := by
  unfold wrap64
  omega
theorem rd_at {l : List Int} {q : Nat} {z : Int} {r : List Int} (h : l.drop q = z :: r) : rd l (q : Int) = z := (drop_cons h).2.2
theorem mid_at {l : List Int} {i : Nat} {a t : List Int} (h : l.drop i = a ++ t) : (l.take ((i + a.length : Nat) : Int).toNat).drop ((i : Nat) : Int).toNat = a := by
  have e : (l.take (i + a.length)).drop i = a := by
    rw [List.drop_take, h]
    simp
  rw [Int.toNat_natCast, Int.toNat_natCast]
  exact e
theorem drop_le {l : List Int} {i : Nat} {a t : List Int} (h : l.drop i = a ++ t) (ha : 0 < a.length) : i + a.length + t.length = l.length := by
  have h2 := congrArg List.length h
  simp only [List.length_drop, List.length_append] at h2
  omega

/-! ### Tabs -/
theorem bytesOf_two {d : ByteArray} (h1 : (d.size : Int) = 2) (h2 : bt d 0 = 32) (h3 : bt d 1 = 32) : bytesOf d = [32, 32] := by
  have hs : d.size = 2 := by omega
  apply List.ext_getElem
  · rw [bytesOf_length, hs]; rfl
  · intro j hj1 hj2
    have hjs : j < d.size := by rw [bytesOf_length] at hj1; exact hj1
    have e : (bytesOf d)[j] = bt d (j : Int) := by
      have := bt_at d (j : Int) (by simpa using hjs)
      rw [← this]
      simp [bytesOf]
      rfl
    rw [e]
    match j, hj2 with
    | 0, _ => simpa using h2
    | 1, _ => simpa using h3

theorem tabs_l1 (d : ByteArray) (n : Nat) (hn : n < 1099511627776) : ∀ (m j : Nat) (ys : List Int), j + m = n → ys.length + m * (bytesOf d).length < 140737488355328 →
    pretty_appendTabs.l1 (m + 1) ys d (n : Int) (j : Int) = some (ys ++ (List.replicate m (bytesOf d)).flatten) := by
  intro m
  induction m with
  | zero =>
    intro j ys hj hL
    unfold pretty_appendTabs.l1
    rw [if_neg (by omega)]
    simp
  | succ m ih =>
    intro j ys hj hL
    unfold pretty_appendTabs.l1
    rw [Nat.succ_mul] at hL
    rw [if_pos (by omega), if_pos (by rw [← bytesOf_length]; omega), w_up (by omega), ih (j + 1) _ (by omega) (by rw [List.length_append]; omega)]
    simp [List.replicate_succ]

theorem tabs_l0 (n : Nat) (hn : n < 1099511627776) : ∀ (m j : Nat) (ys : List Int), j + m = n → ys.length + m * 2 < 140737488355328 →
    pretty_appendTabs.l0 (m + 1) ys (n : Int) (j : Int) = some (ys ++ (List.replicate m ([32, 32] : List Int)).flatten) := by
  intro m
  induction m with
  | zero =>
    intro j ys hj hL
    unfold pretty_appendTabs.l0
    rw [if_neg (by omega)]
    simp
  | succ m ih =>
    intro j ys hj hL
    unfold pretty_appendTabs.l0
    rw [Nat.succ_mul] at hL
    rw [if_pos (by omega), Option.bind_some, if_pos (by simp only [List.length_cons, List.length_nil]; omega), w_up (by omega), ih (j + 1) _ (by omega) (by simp only [List.length_append, List.length_cons, List.length_nil]; omega)]
    simp [List.replicate_succ]

theorem tabs_flat (p d : List Int) (n : Nat) : tabs p d n = p ++ (List.replicate n d).flatten := by
  induction n with
  | zero => simp [tabs]
  | succ n ih => rw [tabs, ih, List.replicate_succ']; simp

theorem tabs_j0 (d : ByteArray) (n : Nat) (hn : n < 1099511627776) (ys : List Int) (hL : ys.length + n * (bytesOf d).length < 140737488355328) :
    pretty_appendTabs.j0 (n + 1 + 1 + 1) ys d (n : Int) = some (ys ++ (List.replicate n (bytesOf d)).flatten) := by
  have hl1 := tabs_l1 d n hn n 0 ys (by omega) hL
  rw [pretty_appendTabs.j0]
  by_cases h1 : (d.size : Int) = 2
  · rw [if_pos h1, if_pos (by omega)]
    by_cases h2 : bt d 0 = 32
    · rw [if_pos h2, if_pos (by omega)]
      rw [pretty_appendTabs.j1]
      by_cases h3 : bt d 1 = 32
      · rw [if_pos (by rw [h3]; rfl)]
        have e := bytesOf_two h1 h2 h3
        rw [e] at hL ⊢
        exact tabs_l0 n hn n 0 ys (by omega) hL
      · rw [if_neg (by simpa using h3)]
        exact hl1
    · rw [if_neg h2]
      rw [pretty_appendTabs.j1]
      rw [if_neg (by simp)]
      exact hl1
  · rw [if_neg h1]
    rw [pretty_appendTabs.j1]
    rw [if_neg (by simp)]
    exact hl1

theorem tabs_f (p d : ByteArray) (n : Nat) (hn : n < 1099511627776) (xs : List Int) (hL : xs.length + (tabs (bytesOf p) (bytesOf d) n).length < 140737488355328) :
    ∃ k, pretty_appendTabs.f k xs p d (n : Int) = some (xs ++ tabs (bytesOf p) (bytesOf d) n) := by
  refine ⟨n + 1 + 1 + 1, ?_⟩
  rw [tabs_length] at hL
  rw [tabs_flat]
  unfold pretty_appendTabs.f
  by_cases h : (p.size : Int) = 0
  · have e : bytesOf p = [] := List.eq_nil_of_length_eq_zero (by rw [bytesOf_length]; omega)
    rw [if_pos h, tabs_j0 d n hn xs (by omega), e, List.nil_append]
  · rw [if_neg h, if_pos (by rw [← bytesOf_length]; omega), tabs_j0 d n hn _ (by rw [List.length_append]; omega), List.append_assoc]

/-! ### Numbers -/
theorem num_l0 (l rest xs : List Int) (nl : Int) (i : Nat) (hl : l.length < 1099511627776) (hs : StopAt rest) : ∀ (r pre : List Int), l.drop i = pre ++ (r ++ rest) → 0 < pre.length → (∀ c ∈ r, ¬ Stop c) → xs.length + (pre ++ r).length < 140737488355328 →
    pretty_appendPrettyNumber.l0 (r.length + 1) xs l ((i + pre.length : Nat) : Int) nl (i : Int) = some (xs ++ (pre ++ r), ((i + (pre ++ r).length : Nat) : Int), nl, true) := by
  intro r
  induction r with
  | nil =>
    intro pre hd hp hr hL
    rw [List.nil_append] at hd
    rw [List.append_nil] at hL ⊢
    have hm := mid_at hd
    have hlen := drop_le hd hp
    have fin : (if 0 ≤ (i : Int) then (if (i : Int) ≤ ((i + pre.length : Nat) : Int) then (if ((i + pre.length : Nat) : Int) ≤ (l.length : Int) then ((some ((l.take (((i + pre.length : Nat) : Int)).toNat).drop ((i : Int)).toNat : List Int)).bind fun y => (if xs.length + y.length < 140737488355328 then (some ((xs ++ y), ((i + pre.length : Nat) : Int), nl, true)) else (none))) else (none)) else (none)) else (none)) = some (xs ++ pre, ((i + pre.length : Nat) : Int), nl, true) := by
      rw [if_pos (by omega), if_pos (by omega), if_pos (by omega), Option.bind_some, hm, if_pos hL]
    unfold pretty_appendPrettyNumber.l0
    rcases hs with hs | ⟨c, r', hs, hc⟩
    · subst hs
      rw [if_neg (by simp only [List.length_nil] at hlen; omega)]
      exact fin
    · subst hs
      have hrd := rd_at (drop_app hd)
      simp only [List.length_cons] at hlen
      rw [if_pos (by omega), if_pos (by omega), hrd]
      rcases hc with hc | hc | hc | hc | hc
      · rw [if_pos hc]; exact fin
      all_goals rw [if_neg (by omega)]
      · rw [if_pos hc]; exact fin
      all_goals rw [if_neg (by omega)]
      · rw [if_pos hc]; exact fin
      all_goals rw [if_neg (by omega)]
      · rw [if_pos hc]; exact fin
      all_goals rw [if_neg (by omega)]
      rw [if_pos hc]; exact fin
  | cons c r ih =>
    intro pre hd hp hr hL
    have hlen := drop_le hd hp
    have hrd := rd_at (show l.drop (i + pre.length) = c :: (r ++ rest) from drop_app hd)
    simp only [List.length_append, List.length_cons] at hlen
    have hns := hr c (by simp)
    unfold Stop at hns
    have e := ih (pre ++ [c]) (by rw [hd]; simp) (by simp) (fun x hx => hr x (by simp [hx])) (by simp only [List.length_append, List.length_cons, List.length_nil] at hL ⊢; omega)
    rw [show pre ++ [c] ++ r = pre ++ c :: r by simp] at e
    unfold pretty_appendPrettyNumber.l0
    rw [if_pos (by omega), if_pos (by omega), hrd, if_neg (by omega), if_neg (by omega), if_neg (by omega), if_neg (by omega), if_neg (by omega), w_up (by omega)]
    rw [show i + pre.length + 1 = i + (pre ++ [c]).length by simp only [List.length_append, List.length_cons, List.length_nil]; omega]
    exact e

theorem num_f (raw rest l : List Int) (h : NumTok raw) (hs : StopAt rest) (i : Nat) (hd : l.drop i = raw ++ rest) (hl : l.length < 1099511627776) (nl : Int) (xs : List Int) (hL : xs.length + raw.length < 140737488355328) :
    ∃ k, pretty_appendPrettyNumber.f k xs l (i : Int) nl = some (xs ++ raw, ((i + raw.length : Nat) : Int), nl, true) := by
  obtain ⟨c, r, hr, _⟩ := h.head
  subst hr
  refine ⟨r.length + 1, ?_⟩
  have hlen := drop_le hd (by simp)
  simp only [List.length_cons] at hlen
  unfold pretty_appendPrettyNumber.f
  rw [w_up (by omega)]
  exact num_l0 l rest xs nl i hl hs r [c] hd (by simp) (fun x hx => h.all x (by simp [hx])) (by simpa using hL)

/-! ### Strings -/
def cntR : List Int → Nat
  | [] => 0
  | c :: l => if c = 92 then cntR l + 1 else 0

theorem str_up {k : Nat} {x0 x1 : List Int} {x2 x3 x12 : Int} {r : List Int × Int × Int × Bool} (h : pretty_appendPrettyString.l0 k x0 x1 x2 x3 x12 = some r) : ∀ m, pretty_appendPrettyString.l0 (k + m) x0 x1 x2 x3 x12 = some r := by
  intro m
  induction m with
  | zero => exact h
  | succ m ih => exact (pretty_appendPrettyString.mono_l (k + m)).1 _ _ _ _ _ r ih

theorem par_tmod (c : Nat) : (Int.tmod (c : Int) 2 = 1) ↔ c % 2 = 1 := by
  rw [Int.tmod_eq_emod_of_nonneg (by omega)]
  omega

/-- Back over the backslashes: an odd count goes on. -/
theorem str_odd (l xs : List Int) (nl x2 : Int) (i : Nat) (hl : l.length < 1099511627776) (R : List Int × Int × Int × Bool) (k : Nat) (h0 : pretty_appendPrettyString.l0 k xs l (wrap64 (x2 + 1)) nl (i : Int) = some R) :
    ∀ (rp tail : List Int) (c : Nat), l.drop i = 34 :: (rp.reverse ++ tail) → c < 1099511627776 → (c + cntR rp) % 2 = 1 → c + rp.length < 1099511627776 →
      pretty_appendPrettyString.l1 (k + rp.length + 1) xs l x2 nl (i : Int) (c : Int) ((i + rp.length : Nat) : Int) = some R := by
  intro rp
  induction rp with
  | nil =>
    intro tail c hd hc hp hcl
    unfold pretty_appendPrettyString.l1
    simp only [cntR, Nat.add_zero] at hp
    rw [if_neg (by simp), if_pos ((par_tmod c).mpr hp)]
    exact h0
  | cons z rp ih =>
    intro tail c hd hc hp hcl
    have hd' : l.drop i = 34 :: (rp.reverse ++ (z :: tail)) := by rw [hd]; simp
    have hlen := drop_le (a := [34]) (t := (z :: rp).reverse ++ tail) hd (by simp)
    simp only [List.length_append, List.length_cons, List.length_nil, List.length_reverse] at hlen
    have hrd : rd l ((i + (z :: rp).length : Nat) : Int) = z := by
      refine rd_at (r := tail) ?_
      have := drop_app (a := 34 :: rp.reverse) (r := z :: tail) (by rw [hd']; rfl)
      rw [← this]
      simp
    unfold pretty_appendPrettyString.l1
    rw [if_pos (by simp only [List.length_cons]; omega), if_pos (by omega), if_pos (by simp only [List.length_cons]; omega), hrd]
    by_cases hz : z = 92
    · subst hz
      simp only [cntR, if_true] at hp
      simp only [List.length_cons] at hcl
      rw [if_pos rfl, w_up (by omega), show i + (92 :: rp).length = i + rp.length + 1 by simp only [List.length_cons]; omega, w_down (by omega)]
      exact ih (92 :: tail) (c + 1) hd' (by omega) (by omega) (by omega)
    · simp only [cntR, if_neg hz, Nat.add_zero] at hp
      rw [if_neg hz, if_pos ((par_tmod c).mpr hp)]
      exact str_up h0 (rp.length + 1)

/-- Back over the backslashes: an even count ends the string. -/
theorem str_even (l xs raw rest : List Int) (nl : Int) (i q : Nat) (hl : l.length < 1099511627776) (hraw : l.drop i = raw ++ rest) (hq : q + 1 = i + raw.length) (hi : i ≤ q) (hL : xs.length + raw.length < 140737488355328) :
    ∀ (rp tail : List Int) (c : Nat), l.drop i = 34 :: (rp.reverse ++ tail) → (c + cntR rp) % 2 = 0 → c + rp.length < 1099511627776 →
      pretty_appendPrettyString.l1 (rp.length + 1) xs l (q : Int) nl (i : Int) (c : Int) ((i + rp.length : Nat) : Int) = some (xs ++ raw, ((i + raw.length : Nat) : Int), nl, true) := by
  have hlr := congrArg List.length hraw
  simp only [List.length_drop, List.length_append] at hlr
  have hm := mid_at hraw
  have fin : (if 0 ≤ (i : Int) then (if (i : Int) ≤ (wrap64 ((q : Int) + 1)) then (if (wrap64 ((q : Int) + 1)) ≤ (l.length : Int) then ((some ((l.take ((wrap64 ((q : Int) + 1)) : Int).toNat).drop ((i : Int)).toNat : List Int)).bind fun y => (if xs.length + y.length < 140737488355328 then (some ((xs ++ y), wrap64 ((q : Int) + 1), nl, true)) else (none))) else (none)) else (none)) else (none)) = some (xs ++ raw, ((i + raw.length : Nat) : Int), nl, true) := by
    rw [w_up (by omega), hq, if_pos (by omega), if_pos (by omega), if_pos (by omega), Option.bind_some, hm, if_pos hL]
  intro rp
  induction rp with
  | nil =>
    intro tail c hd hp hcl
    unfold pretty_appendPrettyString.l1
    simp only [cntR, Nat.add_zero] at hp
    rw [if_neg (by simp), if_neg (by rw [par_tmod]; omega)]
    exact fin
  | cons z rp ih =>
    intro tail c hd hp hcl
    have hd' : l.drop i = 34 :: (rp.reverse ++ (z :: tail)) := by rw [hd]; simp
    have hlen := drop_le (a := [34]) (t := (z :: rp).reverse ++ tail) hd (by simp)
    simp only [List.length_append, List.length_cons, List.length_nil, List.length_reverse] at hlen
    have hrd : rd l ((i + (z :: rp).length : Nat) : Int) = z := by
      refine rd_at (r := tail) ?_
      have := drop_app (a := 34 :: rp.reverse) (r := z :: tail) (by rw [hd']; rfl)
      rw [← this]
      simp
    unfold pretty_appendPrettyString.l1
    rw [if_pos (by simp only [List.length_cons]; omega), if_pos (by omega), if_pos (by simp only [List.length_cons]; omega), hrd]
    by_cases hz : z = 92
    · subst hz
      simp only [cntR, if_true] at hp
      simp only [List.length_cons] at hcl
      rw [if_pos rfl, w_up (by omega), show i + (92 :: rp).length = i + rp.length + 1 by simp only [List.length_cons]; omega, w_down (by omega)]
      exact ih (92 :: tail) (c + 1) hd' (by omega) (by omega)
    · simp only [cntR, if_neg hz, Nat.add_zero] at hp
      rw [if_neg hz, if_neg (by rw [par_tmod]; omega)]
      exact fin

theorem str_l0 (l xs raw rest : List Int) (nl : Int) (i : Nat) (hl : l.length < 1099511627776) (hraw : l.drop i = raw ++ rest) (hL : xs.length + raw.length < 140737488355328) :
    ∀ (body rp : List Int) (b : Bool), EscB b body → cntR rp % 2 = (if b then 1 else 0) → raw = 34 :: (rp.reverse ++ (body ++ [34])) →
      ∃ k, pretty_appendPrettyString.l0 k xs l ((i + 1 + rp.length : Nat) : Int) nl (i : Int) = some (xs ++ raw, ((i + raw.length : Nat) : Int), nl, true) := by
  intro body
  induction body with
  | nil =>
    intro rp b hb hp hr
    simp only [EscB] at hb
    subst hb
    simp only [Bool.false_eq_true, if_false] at hp
    have hd : l.drop i = 34 :: (rp.reverse ++ (34 :: rest)) := by rw [hraw, hr]; simp
    have hd2 : l.drop (i + 1 + rp.length) = 34 :: rest := by
      have := drop_app (a := 34 :: rp.reverse) (r := 34 :: rest) (by rw [hd]; rfl)
      rw [← this]
      simp only [List.length_cons, List.length_reverse]
      congr 1
      omega
    obtain ⟨hlt, _, _⟩ := drop_cons hd2
    have hrl : raw.length = rp.length + 2 := by rw [hr]; simp
    refine ⟨rp.length + 1 + 1, ?_⟩
    unfold pretty_appendPrettyString.l0
    rw [if_pos (by omega), if_pos (by omega), rd_at hd2, if_pos rfl, show i + 1 + rp.length = (i + rp.length) + 1 by omega, w_down (by omega)]
    exact str_even l xs raw rest nl i (i + rp.length + 1) hl hraw (by omega) (by omega) hL rp (34 :: rest) 0 hd (by omega) (by omega)
  | cons c body ih =>
    intro rp b hb hp hr
    have hd : l.drop i = 34 :: (rp.reverse ++ (c :: (body ++ 34 :: rest))) := by rw [hraw, hr]; simp
    have hd2 : l.drop (i + 1 + rp.length) = c :: (body ++ 34 :: rest) := by
      have := drop_app (a := 34 :: rp.reverse) (r := c :: (body ++ 34 :: rest)) (by rw [hd]; rfl)
      rw [← this]
      simp only [List.length_cons, List.length_reverse]
      congr 1
      omega
    obtain ⟨hlt, _, _⟩ := drop_cons hd2
    have hr' : raw = 34 :: ((c :: rp).reverse ++ (body ++ [34])) := by rw [hr]; simp
    simp only [EscB] at hb
    by_cases h92 : c = 92
    · subst h92
      rw [if_pos rfl] at hb
      obtain ⟨k, hk⟩ := ih (92 :: rp) (!b) hb (by simp only [cntR, if_true]; cases b <;> simp at hp ⊢ <;> omega) hr'
      refine ⟨k + 1, ?_⟩
      unfold pretty_appendPrettyString.l0
      rw [if_pos (by omega), if_pos (by omega), rd_at hd2, if_neg (by decide), w_up (by omega)]
      exact hk
    · rw [if_neg h92] at hb
      by_cases h34 : c = 34
      · subst h34
        rw [if_pos rfl] at hb
        obtain ⟨hbt, hb⟩ := hb
        subst hbt
        obtain ⟨k, hk⟩ := ih (34 :: rp) false hb (by simp [cntR]) hr'
        refine ⟨k + rp.length + 1 + 1, ?_⟩
        unfold pretty_appendPrettyString.l0
        rw [if_pos (by omega), if_pos (by omega), rd_at hd2, if_pos rfl, show i + 1 + rp.length = (i + rp.length) + 1 by omega, w_down (by omega)]
        refine str_odd l xs nl _ i hl _ k ?_ rp (34 :: (body ++ 34 :: rest)) 0 hd (by omega) (by simpa using hp) (by omega)
        rw [w_up (by omega), show i + rp.length + 1 + 1 = i + 1 + (34 :: rp).length by simp only [List.length_cons]; omega]
        exact hk
      · rw [if_neg h34] at hb
        obtain ⟨k, hk⟩ := ih (c :: rp) false hb (by simp [cntR, h92]) hr'
        refine ⟨k + 1, ?_⟩
        unfold pretty_appendPrettyString.l0
        rw [if_pos (by omega), if_pos (by omega), rd_at hd2, if_neg h34, w_up (by omega)]
        exact hk

theorem str_f (raw rest l : List Int) (h : StrTok raw) (i : Nat) (hd : l.drop i = raw ++ rest) (hl : l.length < 1099511627776) (nl : Int) (xs : List Int) (hL : xs.length + raw.length < 140737488355328) :
    ∃ k, pretty_appendPrettyString.f k xs l (i : Int) nl = some (xs ++ raw, ((i + raw.length : Nat) : Int), nl, true) := by
  obtain ⟨b, hb, he⟩ := h.body
  obtain ⟨k, hk⟩ := str_l0 l xs raw rest nl i hl hd hL b [] false he rfl hb
  refine ⟨k, ?_⟩
  have hlt : i < l.length := (drop_cons (show l.drop i = 34 :: (b ++ [34] ++ rest) by rw [hd, hb]; rfl)).1
  unfold pretty_appendPrettyString.f
  rw [w_up (by omega)]
  exact hk

theorem tabs_fits (p d : ByteArray) (n : Nat) (a3 : Int) (h3 : a3 = (n : Int)) (hn : n < 1099511627776) (w0 w : World) (v : Value) (xs : List Int) (hne : xs ≠ []) (hB : Below w0.heap.size w0 w) (hO : Buf w0 w v xs)
    (hL : xs.length + (tabs (bytesOf p) (bytesOf d) n).length < 140737488355328) :
    Calls Try.prog 37 #[v, .string p, .string d, .int .i64 a3] w fun e w' => ∃ (g c : Nat) (ys : List Int), e = .returned (.slice (some ⟨g, 0, none⟩) ys.length c) ∧ ys = xs ++ tabs (bytesOf p) (bytesOf d) n ∧ w0.heap.size ≤ g ∧ Buf w0 w' (.slice (some ⟨g, 0, none⟩) ys.length c) ys ∧ Below w0.heap.size w0 w' := by
  obtain ⟨k, hk⟩ := tabs_f p d n hn xs hL
  subst h3
  refine (pretty_appendTabs.calls k (fun k => w0.heap.size ≤ k) v xs p d (n : Int) _ w0 w hB hO hk).mono ?_
  rintro e w' ⟨v', rfl, ho, hb, _⟩
  have ho' : Buf w0 w' v' (xs ++ tabs (bytesOf p) (bytesOf d) n) := Kd.R_mono ho (fun k hk => hk.elim id (fun h => Nat.le_trans hB.size h))
  obtain ⟨g, c, hv, hg⟩ := ho'.shape (by simp [hne])
  rw [hv] at ho' ⊢
  exact ⟨g, c, _, rfl, rfl, hg, ho', hb⟩

theorem str_fits (raw rest l : List Int) (h : StrTok raw) (i : Nat) (a2 : Int) (h2 : a2 = (i : Int)) (hd : l.drop i = raw ++ rest) (hl : l.length < 1099511627776) (nl : Int) (w0 w : World) (ad : Addr) (c1 : Nat) (v : Value) (xs : List Int)
    (hB : Below w0.heap.size w0 w) (hC : Kd.C (Kd.int .u8) w0 (some ad) l.length l) (hc : l.length ≤ c1) (hO : Buf w0 w v xs) (hL : xs.length + raw.length < 140737488355328) :
    Calls Try.prog 29 #[v, .slice (some ad) l.length c1, .int .i64 a2, .int .i64 nl] w fun e w' => ∃ (g c : Nat) (ys : List Int) (e2 : Int), e = .returned (.tuple #[.slice (some ⟨g, 0, none⟩) ys.length c, .int .i64 e2, .int .i64 nl, .bool true]) ∧ e2 = ((i + raw.length : Nat) : Int) ∧ ys = xs ++ raw ∧ w0.heap.size ≤ g ∧ Buf w0 w' (.slice (some ⟨g, 0, none⟩) ys.length c) ys ∧ Below w0.heap.size w0 w' := by
  obtain ⟨k, hk⟩ := str_f raw rest l h i hd hl nl xs hL
  subst h2
  refine (pretty_appendPrettyString.calls k (fun k => w0.heap.size ≤ k) v xs (some ad) c1 l (i : Int) nl _ _ _ _ w0 w hB hO (js_kept hC hB) hc hk).mono ?_
  rintro e w' ⟨v', rfl, ho, hb, _⟩
  have ho' : Buf w0 w' v' (xs ++ raw) := Kd.R_mono ho (fun k hk => hk.elim id (fun h => Nat.le_trans hB.size h))
  obtain ⟨b, hb2, _⟩ := h.body
  obtain ⟨g, c, hv, hg⟩ := ho'.shape (by simp [hb2])
  rw [hv] at ho' ⊢
  exact ⟨g, c, _, _, rfl, rfl, rfl, hg, ho', hb⟩

theorem num_fits (raw rest l : List Int) (h : NumTok raw) (hs : StopAt rest) (i : Nat) (a2 : Int) (h2 : a2 = (i : Int)) (hd : l.drop i = raw ++ rest) (hl : l.length < 1099511627776) (nl : Int) (w0 w : World) (ad : Addr) (c1 : Nat) (v : Value) (xs : List Int)
    (hB : Below w0.heap.size w0 w) (hC : Kd.C (Kd.int .u8) w0 (some ad) l.length l) (hc : l.length ≤ c1) (hO : Buf w0 w v xs) (hL : xs.length + raw.length < 140737488355328) :
    Calls Try.prog 31 #[v, .slice (some ad) l.length c1, .int .i64 a2, .int .i64 nl] w fun e w' => ∃ (v' : Value) (e2 : Int), e = .returned (.tuple #[v', .int .i64 e2, .int .i64 nl, .bool true]) ∧ e2 = ((i + raw.length : Nat) : Int) ∧ Buf w0 w' v' (xs ++ raw) ∧ Below w0.heap.size w0 w' := by
  obtain ⟨k, hk⟩ := num_f raw rest l h hs i hd hl nl xs hL
  subst h2
  refine (pretty_appendPrettyNumber.calls k (fun k => w0.heap.size ≤ k) v xs (some ad) c1 l (i : Int) nl _ _ _ _ w0 w hB hO (js_kept hC hB) hc hk).mono ?_
  rintro e w' ⟨v', rfl, ho, hb, _⟩
  exact ⟨v', _, rfl, rfl, Kd.R_mono ho (fun k hk => hk.elim id (fun h => Nat.le_trans hB.size h)), hb⟩
end Go.Proofs.Ytdcigjpgagimdaa.M
