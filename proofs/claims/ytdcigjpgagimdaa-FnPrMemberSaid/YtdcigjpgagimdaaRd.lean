/-
The reader: on every text it ends, and where it says yes, what it has read is the text of a tree. About the Lean functions that the walks come to; no program in sight.
-/
import Derived.Test.YtdcigjpgagimdaaMx3
import Derived.Test.YtdcigjpgagimdaaTx2
set_option linter.unusedVariables false
set_option linter.unusedSimpArgs false
namespace Go.Proofs.Ytdcigjpgagimdaa.M
open Go Go.RowKit Tx Go.Proofs.YtdcigjpgagimdaaW.PrintWords

/-- From some fuel on, this is the answer. -/
def Ev {α : Type} (f : Nat → Option α) (r : α) : Prop := ∃ K, ∀ k, K ≤ k → f k = some r

theorem Ev.of {α : Type} {f : Nat → Option α} {r : α} (h : ∀ k, f k = some r) : Ev f r := ⟨0, fun k _ => h k⟩
theorem Ev.step {α : Type} {f g : Nat → Option α} {r : α} (h : Ev g r) (hs : ∀ k, f (k + 1) = g k) : Ev f r := by
  obtain ⟨K, hK⟩ := h
  refine ⟨K + 1, fun k hk => ?_⟩
  obtain ⟨m, rfl⟩ : ∃ m, k = m + 1 := ⟨k - 1, by omega⟩
  rw [hs]
  exact hK m (by omega)
theorem Ev.eq {α : Type} {f g : Nat → Option α} {r : α} (h : Ev g r) (hs : ∀ k, f k = g k) : Ev f r := by
  obtain ⟨K, hK⟩ := h
  exact ⟨K, fun k hk => (hs k).trans (hK k hk)⟩
theorem Ev.bind {α β : Type} {f : Nat → Option α} {g : Nat → α → Option β} {r : α} {s : β} (h : Ev f r) (h2 : Ev (fun k => g k r) s) : Ev (fun k => (f k).bind (g k)) s := by
  obtain ⟨K, hK⟩ := h
  obtain ⟨K2, hK2⟩ := h2
  refine ⟨max K K2, fun k hk => ?_⟩
  show (f k).bind (g k) = some s
  rw [hK k (by omega), Option.bind_some]
  exact hK2 k (by omega)
theorem Ev.some {α : Type} {r : α} : Ev (fun _ => Option.some r) r := ⟨0, fun _ _ => rfl⟩
theorem Ev.get {α : Type} {f : Nat → Option α} {r : α} (h : Ev f r) : ∃ k, f k = Option.some r := by
  obtain ⟨K, hK⟩ := h
  exact ⟨K, hK K (Nat.le_refl _)⟩

/-- The bytes from i to j are s. -/
structure Seg (l : List Int) (i j : Nat) (s : List Int) : Prop where
  eq : l.drop i = s ++ l.drop j
  at_ : j = i + s.length
  le : j ≤ l.length

theorem Seg.nil {l : List Int} {i : Nat} (h : i ≤ l.length) : Seg l i i [] := ⟨rfl, by simp, h⟩
theorem Seg.app {l : List Int} {i j k : Nat} {s s2 : List Int} (h : Seg l i j s) (h2 : Seg l j k s2) : Seg l i k (s ++ s2) :=
  ⟨by rw [h.eq, h2.eq, List.append_assoc], by rw [h2.at_, h.at_, List.length_append, Nat.add_assoc], h2.le⟩
theorem Seg.one {l : List Int} {i : Nat} (h : i < l.length) : Seg l i (i + 1) [l.getD i 0] :=
  ⟨by rw [List.drop_eq_getElem_cons h]; simp [List.getD, h], by simp, h⟩
theorem Seg.ge {l : List Int} {i j : Nat} {s : List Int} (h : Seg l i j s) : i ≤ j := by have := h.at_; omega

theorem bt_l (t : ByteArray) (i : Nat) (h : i < t.size) : bt t (i : Int) = (bytesOf t).getD i 0 := by
  have h2 := bt_at t (i : Int) (by simpa using h)
  have hl : i < t.data.toList.length := by simpa using h
  rw [← h2, bytesOf]
  simp only [List.getD, List.getElem?_map, List.getElem?_eq_getElem hl, Option.map_some, Option.getD_some]
  simp
  rfl

theorem w_one {i n : Nat} (h : i < n) (hn : n ≤ 4096) : wrap64 ((i : Int) + 1) = ((i + 1 : Nat) : Int) := by
  unfold wrap64
  omega

section
variable (t : ByteArray) (ht : t.size ≤ 4096)
include ht

theorem blanks_ev : ∀ (m i : Nat), t.size - i ≤ m → i ≤ t.size → ∃ (j : Nat) (s : List Int), Ev (fun k => spec_reader_blanks.f k t (i : Int)) (t, (j : Int)) ∧ Seg (bytesOf t) i j s ∧ Blanks s := by
  intro m
  induction m with
  | zero =>
    intro i hm hi
    refine ⟨i, [], ?_, Seg.nil (by rw [bytesOf_length]; exact hi), by intro c hc; cases hc⟩
    refine Ev.step (g := fun _ => some (t, (i : Int))) Ev.some (fun k => ?_)
    unfold spec_reader_blanks.f spec_reader_blanks.l0
    rw [if_neg (by omega)]
  | succ m ih =>
    intro i hm hi
    by_cases h1 : i < t.size
    · have hb := bt_l t i h1
      by_cases h2 : Ws ((bytesOf t).getD i 0)
      · obtain ⟨j, s, he, hs, hbl⟩ := ih (i + 1) (by omega) (by omega)
        refine ⟨j, _, ?_, (Seg.one (by rw [bytesOf_length]; exact h1)).app hs, ?_⟩
        · refine Ev.step he (fun k => ?_)
          show spec_reader_blanks.f (k + 1) t i = spec_reader_blanks.f k t ((i + 1 : Nat) : Int)
          unfold spec_reader_blanks.f
          conv => lhs; unfold spec_reader_blanks.l0
          rw [if_pos (by omega), if_pos (by omega), hb]
          have : spec_Blank.f ((bytesOf t).getD i 0) = some true := by
            unfold spec_Blank.f
            rcases h2 with h | h | h | h <;> rw [h] <;> rfl
          rw [this, Option.bind_some, if_pos rfl, w_one h1 ht]
        · intro c hc
          rcases List.mem_append.mp hc with hc | hc
          · rw [List.mem_singleton.mp hc]; exact h2
          · exact hbl c hc
      · refine ⟨i, [], ?_, Seg.nil (by rw [bytesOf_length]; exact hi), by intro c hc; cases hc⟩
        refine Ev.step (g := fun _ => some (t, (i : Int))) Ev.some (fun k => ?_)
        unfold spec_reader_blanks.f spec_reader_blanks.l0
        rw [if_pos (by omega), if_pos (by omega), hb]
        have : spec_Blank.f ((bytesOf t).getD i 0) = some false := by
          unfold Ws at h2
          unfold spec_Blank.f
          rw [if_neg (by omega), if_neg (by omega), if_neg (by omega)]
          have : ((bytesOf t).getD i 0 == 13) = false := beq_eq_false_iff_ne.mpr (by omega)
          rw [this]
        rw [this, Option.bind_some, if_neg (by decide)]
    · refine ⟨i, [], ?_, Seg.nil (by rw [bytesOf_length]; exact hi), by intro c hc; cases hc⟩
      refine Ev.step (g := fun _ => some (t, (i : Int))) Ev.some (fun k => ?_)
      unfold spec_reader_blanks.f spec_reader_blanks.l0
      rw [if_neg (by omega)]

omit ht in
theorem here_f (i : Nat) (hi : i ≤ t.size) : spec_reader_here.f t (i : Int) = some ((bytesOf t).getD i 0, t, (i : Int)) := by
  unfold spec_reader_here.f
  by_cases h : i < t.size
  · rw [if_pos (by omega), if_pos (by omega), bt_l t i h]
  · rw [if_neg (by omega)]
    have : (bytesOf t)[i]? = none := List.getElem?_eq_none (by rw [bytesOf_length]; omega)
    rw [List.getD, this]
    rfl

omit ht in
theorem getD_pos (i : Nat) (h : (bytesOf t).getD i 0 ≠ 0) : i < t.size := by
  rcases Nat.lt_or_ge i t.size with h2 | h2
  · exact h2
  · exfalso
    apply h
    have : (bytesOf t)[i]? = none := List.getElem?_eq_none (by rw [bytesOf_length]; omega)
    rw [List.getD, this]
    rfl

omit ht in
theorem seg_here (i : Nat) (c : Int) (h : (bytesOf t).getD i 0 = c) (hc : c ≠ 0) : Seg (bytesOf t) i (i + 1) [c] := by
  subst h
  exact Seg.one (by rw [bytesOf_length]; exact getD_pos t i hc)

theorem take_f (i : Nat) (hi : i ≤ t.size) (a : Int) (ha : a ≠ 0) : (spec_reader_take.f t (i : Int) a = some (true, t, ((i + 1 : Nat) : Int)) ∧ Seg (bytesOf t) i (i + 1) [a]) ∨ spec_reader_take.f t (i : Int) a = some (false, t, (i : Int)) := by
  unfold spec_reader_take.f
  by_cases h : i < t.size
  · rw [if_pos (by omega), if_pos (by omega), bt_l t i h]
    by_cases h2 : (bytesOf t).getD i 0 = a
    · rw [if_pos h2, w_one h ht]
      exact .inl ⟨rfl, seg_here t i a h2 ha⟩
    · rw [if_neg h2]
      exact .inr rfl
  · rw [if_neg (by omega)]
    exact .inr rfl

/-- Digits: a run of them; yes if there is one. -/
def DigsOk (s : List Int) : Prop := ∀ c ∈ s, 48 ≤ c ∧ c ≤ 57

theorem digits_l0 (i0 : Nat) : ∀ (m i : Nat), t.size - i ≤ m → i ≤ t.size → ∃ (j : Nat) (s : List Int), Ev (fun k => spec_reader_digits.l0 k (i0 : Int) ((bytesOf t).getD i 0) t (i : Int)) (decide ((j : Int) > (i0 : Int)), t, (j : Int)) ∧ Seg (bytesOf t) i j s ∧ DigsOk s := by
  intro m
  induction m with
  | zero =>
    intro i hm hi
    refine ⟨i, [], ?_, Seg.nil (by rw [bytesOf_length]; exact hi), by intro c hc; cases hc⟩
    refine Ev.step (g := fun _ => some (decide ((i : Int) > (i0 : Int)), t, (i : Int))) Ev.some (fun k => ?_)
    unfold spec_reader_digits.l0
    have h0 : (bytesOf t).getD i 0 = 0 := by
      have : (bytesOf t)[i]? = none := List.getElem?_eq_none (by rw [bytesOf_length]; omega)
      rw [List.getD, this]
      rfl
    rw [h0, if_neg (by decide)]
  | succ m ih =>
    intro i hm hi
    by_cases h1 : 48 ≤ (bytesOf t).getD i 0 ∧ (bytesOf t).getD i 0 ≤ 57
    · have hlt := getD_pos t i (by omega)
      obtain ⟨j, s, he, hs, hd⟩ := ih (i + 1) (by omega) (by omega)
      refine ⟨j, _, ?_, (Seg.one (by rw [bytesOf_length]; exact hlt)).app hs, ?_⟩
      · refine Ev.step he (fun k => ?_)
        conv => lhs; unfold spec_reader_digits.l0
        rw [if_pos h1.1, if_pos h1.2, w_one hlt ht, here_f t (i + 1) (by omega), Option.bind_some]
      · intro c hc
        rcases List.mem_append.mp hc with hc | hc
        · rw [List.mem_singleton.mp hc]; exact h1
        · exact hd c hc
    · refine ⟨i, [], ?_, Seg.nil (by rw [bytesOf_length]; exact hi), by intro c hc; cases hc⟩
      refine Ev.step (g := fun _ => some (decide ((i : Int) > (i0 : Int)), t, (i : Int))) Ev.some (fun k => ?_)
      unfold spec_reader_digits.l0
      by_cases h2 : 48 ≤ (bytesOf t).getD i 0
      · rw [if_pos h2, if_neg (by omega)]
      · rw [if_neg h2]

theorem digits_ev (i : Nat) (hi : i ≤ t.size) : ∃ (j : Nat) (s : List Int) (b : Bool), Ev (fun k => spec_reader_digits.f k t (i : Int)) (b, t, (j : Int)) ∧ Seg (bytesOf t) i j s ∧ DigsOk s ∧ (b = true → s ≠ []) := by
  obtain ⟨j, s, he, hs, hd⟩ := digits_l0 t ht i (t.size - i) i (Nat.le_refl _) hi
  refine ⟨j, s, decide ((j : Int) > (i : Int)), ?_, hs, hd, ?_⟩
  · refine he.eq (fun k => ?_)
    unfold spec_reader_digits.f
    rw [here_f t i hi, Option.bind_some]
  · intro hb h0
    have h1 := hs.at_
    have h2 := of_decide_eq_true hb
    subst h0
    simp only [List.length_nil] at h1
    omega
end

/-! ### Numbers -/
def NumCh (c : Int) : Prop := c = 43 ∨ c = 45 ∨ c = 46 ∨ (48 ≤ c ∧ c ≤ 57) ∨ c = 69 ∨ c = 101
def NumOk (s : List Int) : Prop := ∀ c ∈ s, NumCh c
theorem NumOk.nil : NumOk [] := by intro c hc; cases hc
theorem NumOk.app {a b : List Int} (ha : NumOk a) (hb : NumOk b) : NumOk (a ++ b) := by
  intro c hc
  rcases List.mem_append.mp hc with h | h
  · exact ha c h
  · exact hb c h
theorem NumOk.one {c : Int} (h : NumCh c) : NumOk [c] := by
  intro x hx
  rw [List.mem_singleton.mp hx]
  exact h
theorem DigsOk.num {s : List Int} (h : DigsOk s) : NumOk s := fun c hc => .inr (.inr (.inr (.inl (h c hc))))

section
variable (t : ByteArray) (ht : t.size ≤ 4096)
include ht

theorem number_j2 (x : Bool) (i : Nat) (hi : i ≤ t.size) : ∃ (j : Nat) (s : List Int) (b : Bool), Ev (fun k => spec_reader_number.j2 k x t (i : Int)) (b, t, (j : Int)) ∧ Seg (bytesOf t) i j s ∧ NumOk s := by
  have hil : i ≤ (bytesOf t).length := by rw [bytesOf_length]; exact hi
  cases x with
  | false =>
    refine ⟨i, [], true, Ev.step (g := fun _ => some (true, t, (i : Int))) Ev.some (fun k => ?_), Seg.nil hil, NumOk.nil⟩
    rw [spec_reader_number.j2, if_neg (by simp)]
  | true =>
    rcases take_f t ht i hi 43 (by decide) with ⟨h, hs⟩ | h
    · obtain ⟨j, s, b, he, hs2, hd, _⟩ := digits_ev t ht (i + 1) (by have := hs.le; rw [bytesOf_length] at this; exact this)
      refine ⟨j, _, b, Ev.step (he.bind (g := fun k bt144 => some (bt144.1, bt144.2.1, bt144.2.2)) Ev.some) (fun k => ?_), hs.app hs2, (NumOk.one (.inl rfl)).app hd.num⟩
      rw [spec_reader_number.j2, if_pos rfl, h, Option.bind_some, if_pos rfl]
    · rcases take_f t ht i hi 45 (by decide) with ⟨h2, hs⟩ | h2
      · obtain ⟨j, s, b, he, hs2, hd, _⟩ := digits_ev t ht (i + 1) (by have := hs.le; rw [bytesOf_length] at this; exact this)
        refine ⟨j, _, b, Ev.step (he.bind (g := fun k bt144 => some (bt144.1, bt144.2.1, bt144.2.2)) Ev.some) (fun k => ?_), hs.app hs2, (NumOk.one (.inr (.inl rfl))).app hd.num⟩
        rw [spec_reader_number.j2, if_pos rfl, h, Option.bind_some, if_neg (by simp), h2, Option.bind_some]
      · obtain ⟨j, s, b, he, hs2, hd, _⟩ := digits_ev t ht i hi
        refine ⟨j, _, b, Ev.step (he.bind (g := fun k bt144 => some (bt144.1, bt144.2.1, bt144.2.2)) Ev.some) (fun k => ?_), hs2, hd.num⟩
        rw [spec_reader_number.j2, if_pos rfl, h, Option.bind_some, if_neg (by simp), h2, Option.bind_some]

theorem number_j1 (x : Bool) (i : Nat) (hi : i ≤ t.size) : ∃ (j : Nat) (s : List Int) (b : Bool), Ev (fun k => spec_reader_number.j1 k x t (i : Int)) (b, t, (j : Int)) ∧ Seg (bytesOf t) i j s ∧ NumOk s ∧ (b = true → x = false) := by
  have hil : i ≤ (bytesOf t).length := by rw [bytesOf_length]; exact hi
  cases x with
  | true =>
    refine ⟨i, [], false, Ev.step (g := fun _ => some (false, t, (i : Int))) Ev.some (fun k => ?_), Seg.nil hil, NumOk.nil, fun h => by cases h⟩
    rw [spec_reader_number.j1, if_pos rfl]
  | false =>
    rcases take_f t ht i hi 101 (by decide) with ⟨h, hs⟩ | h
    · obtain ⟨j, s, b, he, hs2, hn⟩ := number_j2 t ht true (i + 1) (by have := hs.le; rw [bytesOf_length] at this; exact this)
      refine ⟨j, _, b, Ev.step he (fun k => ?_), hs.app hs2, (NumOk.one (by simp [NumCh])).app hn, fun _ => rfl⟩
      rw [spec_reader_number.j1, if_neg (by simp), h, Option.bind_some, if_pos rfl]
    · rcases take_f t ht i hi 69 (by decide) with ⟨h2, hs⟩ | h2
      · obtain ⟨j, s, b, he, hs2, hn⟩ := number_j2 t ht true (i + 1) (by have := hs.le; rw [bytesOf_length] at this; exact this)
        refine ⟨j, _, b, Ev.step he (fun k => ?_), hs.app hs2, (NumOk.one (by simp [NumCh])).app hn, fun _ => rfl⟩
        rw [spec_reader_number.j1, if_neg (by simp), h, Option.bind_some, if_neg (by simp), h2, Option.bind_some]
      · obtain ⟨j, s, b, he, hs2, hn⟩ := number_j2 t ht false i hi
        refine ⟨j, _, b, Ev.step he (fun k => ?_), hs2, hn, fun _ => rfl⟩
        rw [spec_reader_number.j1, if_neg (by simp), h, Option.bind_some, if_neg (by simp), h2, Option.bind_some]

theorem number_j0 (x : Bool) (i : Nat) (hi : i ≤ t.size) : ∃ (j : Nat) (s : List Int) (b : Bool), Ev (fun k => spec_reader_number.j0 k x t (i : Int)) (b, t, (j : Int)) ∧ Seg (bytesOf t) i j s ∧ NumOk s ∧ (b = true → x = false) := by
  have hil : i ≤ (bytesOf t).length := by rw [bytesOf_length]; exact hi
  cases x with
  | true =>
    refine ⟨i, [], false, Ev.step (g := fun _ => some (false, t, (i : Int))) Ev.some (fun k => ?_), Seg.nil hil, NumOk.nil, fun h => by cases h⟩
    rw [spec_reader_number.j0, if_pos rfl]
  | false =>
    rcases take_f t ht i hi 46 (by decide) with ⟨h, hs⟩ | h
    · obtain ⟨j, s, b, he, hs2, hd, _⟩ := digits_ev t ht (i + 1) (by have := hs.le; rw [bytesOf_length] at this; exact this)
      obtain ⟨j2, s2, b2, he2, hs3, hn, _⟩ := number_j1 t ht (!b) j (by have := hs2.le; rw [bytesOf_length] at this; exact this)
      refine ⟨j2, _, b2, Ev.step (he.bind (g := fun k bt132 => spec_reader_number.j1 k (!bt132.1) bt132.2.1 bt132.2.2) he2) (fun k => ?_), (hs.app hs2).app hs3, ((NumOk.one (by simp [NumCh])).app hd.num).app hn, fun _ => rfl⟩
      rw [spec_reader_number.j0, if_neg (by simp), h, Option.bind_some, if_pos rfl]
    · obtain ⟨j, s, b, he, hs2, hn, _⟩ := number_j1 t ht false i hi
      refine ⟨j, _, b, Ev.step he (fun k => ?_), hs2, hn, fun _ => rfl⟩
      rw [spec_reader_number.j0, if_neg (by simp), h, Option.bind_some, if_neg (by simp)]

theorem number_ev (i : Nat) (hi : i ≤ t.size) : ∃ (j : Nat) (s : List Int) (b : Bool), Ev (fun k => spec_reader_number.f k t (i : Int)) (b, t, (j : Int)) ∧ Seg (bytesOf t) i j s ∧ NumOk s ∧ (b = true → s ≠ []) := by
  obtain ⟨i1, s1, b1, h1, hs1, hn1⟩ : ∃ (i1 : Nat) (s1 : List Int) (b1 : Bool), spec_reader_take.f t (i : Int) 45 = some (b1, t, (i1 : Int)) ∧ Seg (bytesOf t) i i1 s1 ∧ NumOk s1 := by
    rcases take_f t ht i hi 45 (by decide) with ⟨h, hs⟩ | h
    · exact ⟨_, _, _, h, hs, NumOk.one (by simp [NumCh])⟩
    · exact ⟨_, _, _, h, Seg.nil (by rw [bytesOf_length]; exact hi), NumOk.nil⟩
  have hi1 : i1 ≤ t.size := by have := hs1.le; rw [bytesOf_length] at this; exact this
  rcases take_f t ht i1 hi1 48 (by decide) with ⟨h, hs⟩ | h
  · obtain ⟨j, s, b, he, hs2, hn, _⟩ := number_j0 t ht false (i1 + 1) (by have := hs.le; rw [bytesOf_length] at this; exact this)
    refine ⟨j, _, b, he.eq (fun k => ?_), (hs1.app hs).app hs2, (hn1.app (NumOk.one (by simp [NumCh]))).app hn, fun _ => by simp⟩
    rw [spec_reader_number.f, h1, Option.bind_some, h, Option.bind_some, if_pos rfl]
  · obtain ⟨j, s, b, he, hs2, hd, hne⟩ := digits_ev t ht i1 hi1
    obtain ⟨j2, s2, b2, he2, hs3, hn, hb⟩ := number_j0 t ht (!b) j (by have := hs2.le; rw [bytesOf_length] at this; exact this)
    refine ⟨j2, _, b2, (he.bind (g := fun k bt126 => spec_reader_number.j0 k (!bt126.1) bt126.2.1 bt126.2.2) he2).eq (fun k => ?_), (hs1.app hs2).app hs3, (hn1.app hd.num).app hn, fun h2 => ?_⟩
    · rw [spec_reader_number.f, h1, Option.bind_some, h, Option.bind_some, if_neg (by simp)]
    · have h3 := hb h2
      have h4 := hne (by cases b <;> simp at h3 ⊢)
      intro h5
      simp only [List.append_eq_nil_iff] at h5
      exact h4 h5.1.2

/-! ### Words -/
theorem word_f (i : Nat) (hi : i ≤ t.size) (a : ByteArray) (ha : a.size ≤ 16) : (spec_reader_word.f t (i : Int) a = some (true, t, ((i + a.size : Nat) : Int)) ∧ Seg (bytesOf t) i (i + a.size) (bytesOf a)) ∨ spec_reader_word.f t (i : Int) a = some (false, t, (i : Int)) := by
  have w1 : wrap64 ((t.size : Int) - (i : Int)) = (t.size : Int) - (i : Int) := by unfold wrap64; omega
  have w2 : wrap64 ((i : Int) + (a.size : Int)) = ((i + a.size : Nat) : Int) := by unfold wrap64; omega
  unfold spec_reader_word.f
  rw [w1, w2]
  by_cases h : (t.size : Int) - (i : Int) < (a.size : Int)
  · rw [if_pos h]
    exact .inr rfl
  · rw [if_neg h, if_pos (by omega), if_pos (by omega), if_pos (by omega)]
    by_cases h2 : (t.extract (i : Int).toNat ((i + a.size : Nat) : Int).toNat).toList = a.toList
    · rw [if_pos h2]
      refine .inl ⟨rfl, ?_, by rw [bytesOf_length], by rw [bytesOf_length]; omega⟩
      rw [ByteArray.toList_eq, ByteArray.toList_eq, Int.toNat_natCast, Int.toNat_natCast] at h2
      have h3 : (bytesOf t).drop i = ((bytesOf t).drop i).take a.size ++ ((bytesOf t).drop i).drop a.size := (List.take_append_drop _ _).symm
      rw [h3, List.drop_drop]
      congr 1
      rw [bytesOf, bytesOf, ← h2]
      simp [ByteArray.data_extract, List.map_drop, List.map_take, List.drop_take]
    · rw [if_neg h2]
      exact .inr rfl
end

/-! ### Strings -/
def HexCh (c : Int) : Prop := (48 ≤ c ∧ c ≤ 57) ∨ (97 ≤ c ∧ c ≤ 102) ∨ (65 ≤ c ∧ c ≤ 70)

theorem hex_j1 (c : Int) (x : Bool) (hx : x = true → 97 ≤ c ∧ c ≤ 102) : ∃ (v : Int) (b : Bool), Ev (fun k => spec_hexDigit.j1 k c x) (v, b) ∧ (b = true → HexCh c) := by
  by_cases h1 : x = true
  · exact ⟨_, true, Ev.step (g := fun _ => some (((c - 97) % 256) + 10, true)) Ev.some (fun k => by rw [spec_hexDigit.j1, if_pos h1]), fun _ => .inr (.inl (hx h1))⟩
  · by_cases h2 : 65 ≤ c
    · by_cases h3 : c ≤ 70
      · exact ⟨_, true, Ev.step (g := fun _ => some (((c - 65) % 256) + 10, true)) Ev.some (fun k => by rw [spec_hexDigit.j1, if_neg h1, if_pos h2, if_pos h3]), fun _ => .inr (.inr ⟨h2, h3⟩)⟩
      · exact ⟨0, false, Ev.step (g := fun _ => some (0, false)) Ev.some (fun k => by rw [spec_hexDigit.j1, if_neg h1, if_pos h2, if_neg h3]), fun h => by cases h⟩
    · exact ⟨0, false, Ev.step (g := fun _ => some (0, false)) Ev.some (fun k => by rw [spec_hexDigit.j1, if_neg h1, if_neg h2]), fun h => by cases h⟩

theorem hex_j0 (c : Int) (x : Bool) (hx : x = true → 48 ≤ c ∧ c ≤ 57) : ∃ (v : Int) (b : Bool), Ev (fun k => spec_hexDigit.j0 k c x) (v, b) ∧ (b = true → HexCh c) := by
  by_cases h1 : x = true
  · exact ⟨_, true, Ev.step (g := fun _ => some ((c - 48) % 256, true)) Ev.some (fun k => by rw [spec_hexDigit.j0, if_pos h1]), fun _ => .inl (hx h1)⟩
  · by_cases h2 : 97 ≤ c
    · obtain ⟨v, b, he, hb⟩ := hex_j1 c (decide (c ≤ 102)) (fun h => ⟨h2, of_decide_eq_true h⟩)
      exact ⟨v, b, Ev.step he (fun k => by rw [spec_hexDigit.j0, if_neg h1, if_pos h2]), hb⟩
    · obtain ⟨v, b, he, hb⟩ := hex_j1 c false (fun h => by cases h)
      exact ⟨v, b, Ev.step he (fun k => by rw [spec_hexDigit.j0, if_neg h1, if_neg h2]), hb⟩

theorem hex_ev (c : Int) : ∃ (v : Int) (b : Bool), Ev (fun k => spec_hexDigit.f k c) (v, b) ∧ (b = true → HexCh c) := by
  by_cases h : 48 ≤ c
  · obtain ⟨v, b, he, hb⟩ := hex_j0 c (decide (c ≤ 57)) (fun h2 => ⟨h, of_decide_eq_true h2⟩)
    exact ⟨v, b, he.eq (fun k => by rw [spec_hexDigit.f, if_pos h]), hb⟩
  · obtain ⟨v, b, he, hb⟩ := hex_j0 c false (fun h => by cases h)
    exact ⟨v, b, he.eq (fun k => by rw [spec_hexDigit.f, if_neg h]), hb⟩

def HexOk (s : List Int) : Prop := ∀ c ∈ s, HexCh c

theorem HexOk.esc {s r : List Int} (h : HexOk s) (hr : EscB false r) : EscB false (s ++ r) := by
  induction s with
  | nil => exact hr
  | cons c s ih =>
    have hc := h c (by simp)
    unfold HexCh at hc
    simp only [List.cons_append, EscB]
    rw [if_neg (by omega), if_neg (by omega)]
    exact ih (fun x hx => h x (by simp [hx]))

theorem HexOk.nonl {s : List Int} (h : HexOk s) : NoNl s := by
  intro c hc
  have := h c hc
  unfold HexCh at this
  omega

/-- What an escape's text is, behind its backslash. -/
def EscOk (s : List Int) : Prop := NoNl s ∧ ∀ r, EscB false r → EscB true (s ++ r)

theorem EscOk.of {c : Int} {s : List Int} (hc : c ≠ 10) (h : HexOk s) (h92 : c = 92 → s = []) : EscOk (c :: s) := by
  refine ⟨?_, fun r hr => ?_⟩
  · intro x hx
    rcases List.mem_cons.mp hx with hx | hx
    · rw [hx]; exact hc
    · exact h.nonl x hx
  · simp only [List.cons_append, EscB]
    by_cases h1 : c = 92
    · rw [if_pos h1, h92 h1]
      exact hr
    · rw [if_neg h1]
      by_cases h2 : c = 34
      · rw [if_pos h2]
        exact ⟨trivial, h.esc hr⟩
      · rw [if_neg h2]
        exact h.esc hr

section
variable (t : ByteArray) (ht : t.size ≤ 4096)
include ht

theorem escape_l0 : ∀ (m n i : Nat), n + m = 4 → i ≤ t.size → ∃ (j : Nat) (s : List Int) (b : Bool), Ev (fun k => spec_reader_escape.l0 k (n : Int) t (i : Int)) (b, t, (j : Int)) ∧ Seg (bytesOf t) i j s ∧ (b = true → HexOk s) := by
  intro m
  induction m with
  | zero =>
    intro n i hn hi
    refine ⟨i, [], true, Ev.step (g := fun _ => some (true, t, (i : Int))) Ev.some (fun k => ?_), Seg.nil (by rw [bytesOf_length]; exact hi), fun _ => by intro c hc; cases hc⟩
    rw [spec_reader_escape.l0, if_neg (by omega)]
  | succ m ih =>
    intro n i hn hi
    obtain ⟨v, b, he, hb⟩ := hex_ev ((bytesOf t).getD i 0)
    cases b with
    | false =>
      refine ⟨i, [], false, Ev.step (he.bind (g := fun k bt109 => if bt109.2 = true then (spec_reader_escape.l0 k (wrap64 ((n : Int) + 1)) t (wrap64 ((i : Int) + 1))) else (some (false, t, (i : Int)))) ?_) (fun k => ?_), Seg.nil (by rw [bytesOf_length]; exact hi), fun h => by cases h⟩
      · simp only [Bool.false_eq_true, if_false]
        exact Ev.some
      · rw [spec_reader_escape.l0, if_pos (by omega), here_f t i hi, Option.bind_some]
    | true =>
      have hx := hb rfl
      have hlt := getD_pos t i (by unfold HexCh at hx; omega)
      obtain ⟨j, s, b2, he2, hs, hh⟩ := ih (n + 1) (i + 1) (by omega) (by omega)
      refine ⟨j, _, b2, Ev.step (he.bind (g := fun k bt109 => if bt109.2 = true then (spec_reader_escape.l0 k (wrap64 ((n : Int) + 1)) t (wrap64 ((i : Int) + 1))) else (some (false, t, (i : Int)))) ?_) (fun k => ?_), (Seg.one (by rw [bytesOf_length]; exact hlt)).app hs, fun h => ?_⟩
      · simp only [if_true]
        rw [w_one hlt ht, w_one (n := 4) (by omega) (by omega)]
        exact he2
      · rw [spec_reader_escape.l0, if_pos (by omega), here_f t i hi, Option.bind_some]
      · intro c hc
        rcases List.mem_append.mp hc with hc | hc
        · rw [List.mem_singleton.mp hc]; exact hx
        · exact hh h c hc

theorem escape_j0 (i : Nat) (hi : i ≤ t.size) (x : Bool) (hx : x = true → (bytesOf t).getD i 0 ≠ 0 ∧ (bytesOf t).getD i 0 ≠ 10) : ∃ (j : Nat) (s : List Int) (b : Bool), Ev (fun k => spec_reader_escape.j0 k ((bytesOf t).getD i 0) x t (i : Int)) (b, t, (j : Int)) ∧ Seg (bytesOf t) i j s ∧ (b = true → EscOk s) := by
  by_cases h1 : x = true
  · have hlt := getD_pos t i (hx h1).1
    refine ⟨i + 1, _, true, Ev.step (g := fun _ => some (true, t, ((i + 1 : Nat) : Int))) Ev.some (fun k => ?_), Seg.one (by rw [bytesOf_length]; exact hlt), fun _ => EscOk.of (hx h1).2 (by intro c hc; cases hc) (fun _ => rfl)⟩
    rw [spec_reader_escape.j0, if_pos h1, w_one hlt ht]
  · by_cases h2 : (bytesOf t).getD i 0 = 117
    · have hlt := getD_pos t i (by omega)
      obtain ⟨j, s, b, he, hs, hh⟩ := escape_l0 t ht 4 0 (i + 1) (by omega) (by omega)
      refine ⟨j, _, b, Ev.step he (fun k => ?_), (Seg.one (by rw [bytesOf_length]; exact hlt)).app hs, fun h => ?_⟩
      · rw [spec_reader_escape.j0, if_neg h1, if_pos h2, w_one hlt ht]
        rfl
      · rw [h2]
        exact EscOk.of (by decide) (hh h) (fun h => by cases h)
    · refine ⟨i, [], false, Ev.step (g := fun _ => some (false, t, (i : Int))) Ev.some (fun k => ?_), Seg.nil (by rw [bytesOf_length]; exact hi), fun h => by cases h⟩
      rw [spec_reader_escape.j0, if_neg h1, if_neg h2]

theorem escape_ev (i : Nat) (hi : i ≤ t.size) : ∃ (j : Nat) (s : List Int) (b : Bool), Ev (fun k => spec_reader_escape.f k t (i : Int)) (b, t, (j : Int)) ∧ Seg (bytesOf t) i j s ∧ (b = true → EscOk s) := by
  obtain ⟨x, hx, hf⟩ : ∃ x : Bool, (x = true → (bytesOf t).getD i 0 ≠ 0 ∧ (bytesOf t).getD i 0 ≠ 10) ∧ ∀ k, spec_reader_escape.f k t (i : Int) = spec_reader_escape.j0 k ((bytesOf t).getD i 0) x t (i : Int) := by
    have hb : ∀ (c z : Int), (z == c) = true → z = c := fun c z h => beq_iff_eq.mp h
    by_cases h1 : (bytesOf t).getD i 0 = 34
    · exact ⟨((bytesOf t).getD i 0 == 34), fun h => by omega, fun k => by rw [spec_reader_escape.f, here_f t i hi, Option.bind_some, if_pos h1]⟩
    by_cases h2 : (bytesOf t).getD i 0 = 92
    · exact ⟨((bytesOf t).getD i 0 == 92), fun h => by omega, fun k => by rw [spec_reader_escape.f, here_f t i hi, Option.bind_some, if_neg h1, if_pos h2]⟩
    by_cases h3 : (bytesOf t).getD i 0 = 47
    · exact ⟨((bytesOf t).getD i 0 == 47), fun h => by omega, fun k => by rw [spec_reader_escape.f, here_f t i hi, Option.bind_some, if_neg h1, if_neg h2, if_pos h3]⟩
    by_cases h4 : (bytesOf t).getD i 0 = 98
    · exact ⟨((bytesOf t).getD i 0 == 98), fun h => by omega, fun k => by rw [spec_reader_escape.f, here_f t i hi, Option.bind_some, if_neg h1, if_neg h2, if_neg h3, if_pos h4]⟩
    by_cases h5 : (bytesOf t).getD i 0 = 102
    · exact ⟨((bytesOf t).getD i 0 == 102), fun h => by omega, fun k => by rw [spec_reader_escape.f, here_f t i hi, Option.bind_some, if_neg h1, if_neg h2, if_neg h3, if_neg h4, if_pos h5]⟩
    by_cases h6 : (bytesOf t).getD i 0 = 110
    · exact ⟨((bytesOf t).getD i 0 == 110), fun h => by omega, fun k => by rw [spec_reader_escape.f, here_f t i hi, Option.bind_some, if_neg h1, if_neg h2, if_neg h3, if_neg h4, if_neg h5, if_pos h6]⟩
    by_cases h7 : (bytesOf t).getD i 0 = 114
    · exact ⟨((bytesOf t).getD i 0 == 114), fun h => by omega, fun k => by rw [spec_reader_escape.f, here_f t i hi, Option.bind_some, if_neg h1, if_neg h2, if_neg h3, if_neg h4, if_neg h5, if_neg h6, if_pos h7]⟩
    exact ⟨((bytesOf t).getD i 0 == 116), fun h => by have := hb _ _ h; omega, fun k => by rw [spec_reader_escape.f, here_f t i hi, Option.bind_some, if_neg h1, if_neg h2, if_neg h3, if_neg h4, if_neg h5, if_neg h6, if_neg h7]⟩
  obtain ⟨j, s, b, he, hs, hh⟩ := escape_j0 t ht i hi x hx
  exact ⟨j, s, b, he.eq hf, hs, hh⟩

theorem quoted_l0 : ∀ (m i : Nat), t.size - i ≤ m → i ≤ t.size → ∃ (j : Nat) (s : List Int) (b : Bool), Ev (fun k => spec_reader_quoted.l0 k t (i : Int)) (b, t, (j : Int)) ∧ Seg (bytesOf t) i j s ∧ (b = true → ∃ body, s = body ++ [34] ∧ EscB false body ∧ NoNl body) := by
  intro m
  induction m with
  | zero =>
    intro i hm hi
    refine ⟨i, [], false, Ev.step (g := fun _ => some (false, t, (i : Int))) Ev.some (fun k => ?_), Seg.nil (by rw [bytesOf_length]; exact hi), fun h => by cases h⟩
    rw [spec_reader_quoted.l0, if_neg (by omega)]
  | succ m ih =>
    intro i hm hi
    by_cases h1 : i < t.size
    case neg =>
      refine ⟨i, [], false, Ev.step (g := fun _ => some (false, t, (i : Int))) Ev.some (fun k => ?_), Seg.nil (by rw [bytesOf_length]; exact hi), fun h => by cases h⟩
      rw [spec_reader_quoted.l0, if_neg (by omega)]
    have hb := bt_l t i h1
    have hone := Seg.one (l := bytesOf t) (i := i) (by rw [bytesOf_length]; exact h1)
    have hw := w_one h1 ht
    by_cases h2 : (bytesOf t).getD i 0 = 34
    · refine ⟨i + 1, _, true, Ev.step (g := fun _ => some (true, t, ((i + 1 : Nat) : Int))) Ev.some (fun k => ?_), hone, fun _ => ⟨[], by rw [h2]; rfl, rfl, by intro c hc; cases hc⟩⟩
      rw [spec_reader_quoted.l0, if_pos (by omega), if_pos (by omega), hb, if_pos h2, hw]
    by_cases h3 : (bytesOf t).getD i 0 < 32
    · refine ⟨i + 1, _, false, Ev.step (g := fun _ => some (false, t, ((i + 1 : Nat) : Int))) Ev.some (fun k => ?_), hone, fun h => by cases h⟩
      rw [spec_reader_quoted.l0, if_pos (by omega), if_pos (by omega), hb, if_neg h2, if_pos h3, hw]
    by_cases h4 : (bytesOf t).getD i 0 = 92
    · obtain ⟨j, s, b, he, hs, hh⟩ := escape_ev t ht (i + 1) (by omega)
      have hj : j ≤ t.size := by have := hs.le; rw [bytesOf_length] at this; exact this
      have hge := hs.ge
      cases b with
      | false =>
        refine ⟨j, _, false, Ev.step (he.bind (g := fun k bt111 => if bt111.1 = true then (spec_reader_quoted.l0 k bt111.2.1 bt111.2.2) else (some (false, bt111.2.1, bt111.2.2))) ?_) (fun k => ?_), hone.app hs, fun h => by cases h⟩
        · simp only [Bool.false_eq_true, if_false]
          exact Ev.some
        · rw [spec_reader_quoted.l0, if_pos (by omega), if_pos (by omega), hb, if_neg h2, if_neg h3, if_pos h4, hw]
      | true =>
        obtain ⟨j2, s2, b2, he2, hs2, hh2⟩ := ih j (by omega) hj
        refine ⟨j2, _, b2, Ev.step (he.bind (g := fun k bt111 => if bt111.1 = true then (spec_reader_quoted.l0 k bt111.2.1 bt111.2.2) else (some (false, bt111.2.1, bt111.2.2))) ?_) (fun k => ?_), (hone.app hs).app hs2, fun h => ?_⟩
        · simp only [if_true]
          exact he2
        · rw [spec_reader_quoted.l0, if_pos (by omega), if_pos (by omega), hb, if_neg h2, if_neg h3, if_pos h4, hw]
        · obtain ⟨body, hbd, hesc, hnl⟩ := hh2 h
          obtain ⟨hn, hE⟩ := hh rfl
          refine ⟨92 :: (s ++ body), by rw [h4, hbd]; simp, ?_, ?_⟩
          · simp only [EscB, if_true]
            exact hE body hesc
          · intro c hc
            rcases List.mem_cons.mp hc with hc | hc
            · rw [hc]; decide
            · rcases List.mem_append.mp hc with hc | hc
              · exact hn c hc
              · exact hnl c hc
    · obtain ⟨j, s, b, he, hs, hh⟩ := ih (i + 1) (by omega) (by omega)
      refine ⟨j, _, b, Ev.step he (fun k => ?_), hone.app hs, fun h => ?_⟩
      · rw [spec_reader_quoted.l0, if_pos (by omega), if_pos (by omega), hb, if_neg h2, if_neg h3, if_neg h4, hw]
      · obtain ⟨body, hbd, hesc, hnl⟩ := hh h
        refine ⟨(bytesOf t).getD i 0 :: body, by rw [hbd]; rfl, ?_, ?_⟩
        · simp only [EscB]
          rw [if_neg h4, if_neg h2]
          exact hesc
        · intro c hc
          rcases List.mem_cons.mp hc with hc | hc
          · rw [hc]; omega
          · exact hnl c hc

theorem quoted_ev (i : Nat) (h : (bytesOf t).getD i 0 = 34) : ∃ (j : Nat) (s : List Int) (b : Bool), Ev (fun k => spec_reader_quoted.f k t (i : Int)) (b, t, (j : Int)) ∧ Seg (bytesOf t) i j s ∧ i < j ∧ (b = true → StrTok s) := by
  have hlt := getD_pos t i (by rw [h]; decide)
  obtain ⟨j, s, b, he, hs, hh⟩ := quoted_l0 t ht (t.size - (i + 1)) (i + 1) (Nat.le_refl _) (by omega)
  have hge := hs.ge
  refine ⟨j, _, b, he.eq (fun k => ?_), (seg_here t i 34 h (by decide)).app hs, by omega, fun hb => ?_⟩
  · rw [spec_reader_quoted.f, w_one hlt ht]
  · obtain ⟨body, hbd, hesc, hnl⟩ := hh hb
    refine ⟨⟨body, by rw [hbd]; rfl, hesc⟩, ?_⟩
    rw [hbd]
    intro c hc
    simp only [List.cons_append, List.nil_append, List.mem_cons, List.mem_append] at hc
    rcases hc with hc | hc | hc | hc
    · omega
    · exact hnl c hc
    · omega
    · cases hc
end

/-! ### Values -/
theorem NumOk.tok {s : List Int} (h : NumOk s) {z : Int} {r : List Int} (hs : s = z :: r) (hz : z = 45 ∨ (48 ≤ z ∧ z ≤ 57)) : NumTok s := by
  refine ⟨⟨z, r, hs, hz⟩, fun c hc hst => ?_⟩
  have := h c hc
  unfold NumCh at this
  unfold Stop at hst
  omega

theorem Seg.head {l : List Int} {i j : Nat} {s : List Int} (h : Seg l i j s) (hne : s ≠ []) : ∃ r, s = l.getD i 0 :: r := by
  cases s with
  | nil => exact absurd rfl hne
  | cons z r =>
    have h2 := (drop_cons (show l.drop i = z :: (r ++ l.drop j) from h.eq)).2.2
    exact ⟨r, by rw [h2]⟩

/-- What a value's reading comes to. -/
def ValAt (t : ByteArray) (f : Nat → Option (Int × Int × Int × List S66 × List S28 × Bool × ByteArray × Int)) (i : Nat) : Prop :=
  ∃ (r1 r2 r3 : Int) (r4 : List S66) (r5 : List S28) (b : Bool) (j : Nat) (s : List Int), Ev f (r1, r2, r3, r4, r5, b, t, (j : Int)) ∧ Seg (bytesOf t) i j s ∧ (b = true → i < j ∧ ∃ c : Cst, c.ok ∧ c.text = s)

theorem ValAt.eq {t : ByteArray} {f g : Nat → Option (Int × Int × Int × List S66 × List S28 × Bool × ByteArray × Int)} {i : Nat} (h : ValAt t g i) (hs : ∀ k, f k = g k) : ValAt t f i := by
  obtain ⟨r1, r2, r3, r4, r5, b, j, s, he, h2⟩ := h
  exact ⟨r1, r2, r3, r4, r5, b, j, s, he.eq hs, h2⟩
theorem ValAt.step {t : ByteArray} {f g : Nat → Option (Int × Int × Int × List S66 × List S28 × Bool × ByteArray × Int)} {i : Nat} (h : ValAt t g i) (hs : ∀ k, f (k + 1) = g k) : ValAt t f i := by
  obtain ⟨r1, r2, r3, r4, r5, b, j, s, he, h2⟩ := h
  exact ⟨r1, r2, r3, r4, r5, b, j, s, he.step hs, h2⟩

section
variable (t : ByteArray) (ht : t.size ≤ 4096)
include ht

omit ht in
theorem seg_size {i j : Nat} {s : List Int} (h : Seg (bytesOf t) i j s) : j ≤ t.size := by have := h.le; rw [bytesOf_length] at this; exact this

theorem value_j0 (i : Nat) (hi : i ≤ t.size) (x : Bool) (hx : x = true → ((bytesOf t).getD i 0 = 45 ∨ (48 ≤ (bytesOf t).getD i 0 ∧ (bytesOf t).getD i 0 ≤ 57))) (y0 y1 y2 : Int) : ValAt t (fun k => spec_reader_value.j0 k true x t (i : Int) y0 y1 y2) i := by
  by_cases h1 : x = true
  · obtain ⟨j, s, b, he, hs, hn, hne⟩ := number_ev t ht i hi
    refine ⟨3, y1, j, [], [], b, j, s, Ev.step (he.bind (g := fun k bt254 => some (3, y1, bt254.2.2, ([] : List (S66)), ([] : List (S28)), bt254.1, bt254.2.1, bt254.2.2)) Ev.some) (fun k => ?_), hs, fun hb => ?_⟩
    · rw [spec_reader_value.j0, if_pos h1]
    · obtain ⟨r, hr⟩ := hs.head (hne hb)
      have ha := hs.at_
      rw [hr] at ha
      simp only [List.length_cons] at ha
      exact ⟨by omega, .atom 1 s, hn.tok hr (hx h1), rfl⟩
  · rcases word_f t ht i hi ⟨#[110, 117, 108, 108]⟩ (by decide) with ⟨h, hs⟩ | h
    · refine ⟨0, y1, _, [], [], true, i + 4, _, Ev.step (g := fun _ => some (0, y1, ((i + 4 : Nat) : Int), ([] : List (S66)), ([] : List (S28)), true, t, ((i + 4 : Nat) : Int))) Ev.some (fun k => ?_), hs, fun _ => ⟨by omega, .atom 2 _, .inr (.inr rfl), rfl⟩⟩
      rw [spec_reader_value.j0, if_neg h1, h, Option.bind_some, if_pos rfl]
      rfl
    · rcases word_f t ht i hi ⟨#[102, 97, 108, 115, 101]⟩ (by decide) with ⟨h2, hs⟩ | h2
      · refine ⟨1, y1, _, [], [], true, i + 5, _, Ev.step (g := fun _ => some (1, y1, ((i + 5 : Nat) : Int), ([] : List (S66)), ([] : List (S28)), true, t, ((i + 5 : Nat) : Int))) Ev.some (fun k => ?_), hs, fun _ => ⟨by omega, .atom 2 _, .inr (.inl rfl), rfl⟩⟩
        rw [spec_reader_value.j0, if_neg h1, h, Option.bind_some, if_neg (by simp), h2, Option.bind_some, if_pos rfl]
        rfl
      · rcases word_f t ht i hi ⟨#[116, 114, 117, 101]⟩ (by decide) with ⟨h3, hs⟩ | h3
        · refine ⟨2, y1, _, [], [], true, i + 4, _, Ev.step (g := fun _ => some (2, y1, ((i + 4 : Nat) : Int), ([] : List (S66)), ([] : List (S28)), true, t, ((i + 4 : Nat) : Int))) Ev.some (fun k => ?_), hs, fun _ => ⟨by omega, .atom 2 _, .inl rfl, rfl⟩⟩
          rw [spec_reader_value.j0, if_neg h1, h, Option.bind_some, if_neg (by simp), h2, Option.bind_some, if_neg (by simp), h3, Option.bind_some, if_pos rfl]
          rfl
        · refine ⟨y0, y1, _, [], [], false, i, [], Ev.step (g := fun _ => some (y0, y1, (i : Int), ([] : List (S66)), ([] : List (S28)), false, t, (i : Int))) Ev.some (fun k => ?_), Seg.nil (by rw [bytesOf_length]; exact hi), fun h => by cases h⟩
          rw [spec_reader_value.j0, if_neg h1, h, Option.bind_some, if_neg (by simp), h2, Option.bind_some, if_neg (by simp), h3, Option.bind_some, if_neg (by simp)]

def MemAt (i : Nat) : Prop := ∀ (x5 : List S66) (x6 : List S28), x5.length ≤ i → x6.length ≤ i → ∃ (r1 : List S66) (r2 : List S28) (b : Bool) (j : Nat) (s : List Int), Ev (fun k => spec_reader_members.l0 k x5 x6 t (i : Int)) (r1, r2, b, t, (j : Int)) ∧ Seg (bytesOf t) i j s ∧
  (b = true → ∀ (u : List Int) (first : Bool), (∀ c ∈ u, Ws c ∨ c = 44) → (first = false → u ≠ []) → ∃ its : Its, its.text true = u ++ s ∧ its.ok true first)

def ElAt (i : Nat) : Prop := ∀ (x4 : List S28), x4.length ≤ i → ∃ (r1 : List S28) (b : Bool) (j : Nat) (s : List Int), Ev (fun k => spec_reader_elements.l0 k x4 t (i : Int)) (r1, b, t, (j : Int)) ∧ Seg (bytesOf t) i j s ∧
  (b = true → ∀ (u junk : List Int) (first : Bool), Blanks u → (junk = [] ∨ ∃ j, junk = 44 :: j ∧ Blanks j) → (first = false → junk ≠ []) → ∃ its : Its, its.text false = u ++ (junk ++ s) ∧ its.ok false first)

theorem members_ev (i : Nat) (h : (bytesOf t).getD i 0 = 123) (ih : ∀ j, i < j → j ≤ t.size → MemAt t j) : ∃ (r1 : List S66) (r2 : List S28) (b : Bool) (j : Nat) (s : List Int), Ev (fun k => spec_reader_members.f k t (i : Int)) (r1, r2, b, t, (j : Int)) ∧ Seg (bytesOf t) i j s ∧
    (b = true → i < j ∧ ∃ c : Cst, c.ok ∧ c.text = s) := by
  have hlt := getD_pos t i (by rw [h]; decide)
  have h1 := seg_here t i 123 h (by decide)
  obtain ⟨j, s, he, hs, hbl⟩ := blanks_ev t ht (t.size - (i + 1)) (i + 1) (Nat.le_refl _) (by omega)
  have hj := seg_size t hs
  have hge := hs.ge
  rcases take_f t ht j hj 125 (by decide) with ⟨h2, hs2⟩ | h2
  · refine ⟨[], [], true, j + 1, _, Ev.step (he.bind (g := fun k bt153 => (spec_reader_take.f bt153.1 bt153.2 125).bind fun bt155 => (if bt155.1 = true then (some (([] : List (S66)), ([] : List (S28)), true, bt155.2.1, bt155.2.2)) else (spec_reader_members.l0 k ([] : List (S66)) ([] : List (S28)) bt155.2.1 bt155.2.2))) (Ev.some.eq (fun k => by rw [h2, Option.bind_some, if_pos rfl]))) (fun k => ?_), (h1.app hs).app hs2, fun _ => ⟨by omega, .box true (.fin s), hbl, ?_⟩⟩
    · rw [spec_reader_members.f, w_one hlt ht]
    · simp [Cst.text, Its.text, opn, cls]
  · obtain ⟨r1, r2, b, j2, s2, he2, hs2, hb⟩ := ih j (by omega) hj [] [] (by simp) (by simp)
    have hge2 := hs2.ge
    refine ⟨r1, r2, b, j2, _, Ev.step (he.bind (g := fun k bt153 => (spec_reader_take.f bt153.1 bt153.2 125).bind fun bt155 => (if bt155.1 = true then (some (([] : List (S66)), ([] : List (S28)), true, bt155.2.1, bt155.2.2)) else (spec_reader_members.l0 k ([] : List (S66)) ([] : List (S28)) bt155.2.1 bt155.2.2))) (he2.eq (fun k => by rw [h2, Option.bind_some, if_neg (by simp)]))) (fun k => ?_), (h1.app hs).app hs2, fun hbt => ⟨by omega, ?_⟩⟩
    · rw [spec_reader_members.f, w_one hlt ht]
    · obtain ⟨its, htx, hok⟩ := hb hbt s true (fun c hc => .inl (hbl c hc)) (by simp)
      exact ⟨.box true its, hok, by simp [Cst.text, opn, htx]⟩

theorem elements_ev (i : Nat) (h : (bytesOf t).getD i 0 = 91) (ih : ∀ j, i < j → j ≤ t.size → ElAt t j) : ∃ (r1 : List S28) (b : Bool) (j : Nat) (s : List Int), Ev (fun k => spec_reader_elements.f k t (i : Int)) (r1, b, t, (j : Int)) ∧ Seg (bytesOf t) i j s ∧
    (b = true → i < j ∧ ∃ c : Cst, c.ok ∧ c.text = s) := by
  have hlt := getD_pos t i (by rw [h]; decide)
  have h1 := seg_here t i 91 h (by decide)
  obtain ⟨j, s, he, hs, hbl⟩ := blanks_ev t ht (t.size - (i + 1)) (i + 1) (Nat.le_refl _) (by omega)
  have hj := seg_size t hs
  have hge := hs.ge
  rcases take_f t ht j hj 93 (by decide) with ⟨h2, hs2⟩ | h2
  · refine ⟨[], true, j + 1, _, Ev.step (he.bind (g := fun k bt200 => (spec_reader_take.f bt200.1 bt200.2 93).bind fun bt202 => (if bt202.1 = true then (some (([] : List (S28)), true, bt202.2.1, bt202.2.2)) else (spec_reader_elements.l0 k ([] : List (S28)) bt202.2.1 bt202.2.2))) (Ev.some.eq (fun k => by rw [h2, Option.bind_some, if_pos rfl]))) (fun k => ?_), (h1.app hs).app hs2, fun _ => ⟨by omega, .box false (.fin s), hbl, ?_⟩⟩
    · rw [spec_reader_elements.f, w_one hlt ht]
    · simp [Cst.text, Its.text, opn, cls]
  · obtain ⟨r1, b, j2, s2, he2, hs2, hb⟩ := ih j (by omega) hj [] (by simp)
    have hge2 := hs2.ge
    refine ⟨r1, b, j2, _, Ev.step (he.bind (g := fun k bt200 => (spec_reader_take.f bt200.1 bt200.2 93).bind fun bt202 => (if bt202.1 = true then (some (([] : List (S28)), true, bt202.2.1, bt202.2.2)) else (spec_reader_elements.l0 k ([] : List (S28)) bt202.2.1 bt202.2.2))) (he2.eq (fun k => by rw [h2, Option.bind_some, if_neg (by simp)]))) (fun k => ?_), (h1.app hs).app hs2, fun hbt => ⟨by omega, ?_⟩⟩
    · rw [spec_reader_elements.f, w_one hlt ht]
    · obtain ⟨its, htx, hok⟩ := hb hbt s [] true hbl (.inl rfl) (by simp)
      exact ⟨.box false its, hok, by simp [Cst.text, opn, htx]⟩

theorem value_ev (i : Nat) (hi : i ≤ t.size) (ihM : ∀ j, i < j → j ≤ t.size → MemAt t j) (ihE : ∀ j, i < j → j ≤ t.size → ElAt t j) : ValAt t (fun k => spec_reader_value.f k t (i : Int)) i := by
  have hh := here_f t i hi
  by_cases h1 : (bytesOf t).getD i 0 = 123
  · obtain ⟨r1, r2, b, j, s, he, hs, hb⟩ := members_ev t ht i h1 ihM
    refine ⟨6, i, j, r1, r2, b, j, s, Ev.step (he.bind (g := fun k bt236 => some (6, (i : Int), bt236.2.2.2.2, bt236.1, bt236.2.1, bt236.2.2.1, bt236.2.2.2.1, bt236.2.2.2.2)) Ev.some) (fun k => ?_), hs, hb⟩
    rw [spec_reader_value.f, hh, Option.bind_some, if_pos h1]
  by_cases h2 : (bytesOf t).getD i 0 = 91
  · obtain ⟨r1, b, j, s, he, hs, hb⟩ := elements_ev t ht i h2 ihE
    refine ⟨5, i, j, [], r1, b, j, s, Ev.step (he.bind (g := fun k bt245 => some (5, (i : Int), bt245.2.2.2, ([] : List (S66)), bt245.1, bt245.2.1, bt245.2.2.1, bt245.2.2.2)) Ev.some) (fun k => ?_), hs, hb⟩
    rw [spec_reader_value.f, hh, Option.bind_some, if_neg h1, if_pos h2]
  by_cases h3 : (bytesOf t).getD i 0 = 34
  · obtain ⟨j, s, b, he, hs, hlt, hb⟩ := quoted_ev t ht i h3
    refine ⟨4, i, j, [], [], b, j, s, Ev.step (he.bind (g := fun k bt251 => some (4, (i : Int), bt251.2.2, ([] : List (S66)), ([] : List (S28)), bt251.1, bt251.2.1, bt251.2.2)) Ev.some) (fun k => ?_), hs, fun hbt => ⟨hlt, .atom 0 s, hb hbt, rfl⟩⟩
    rw [spec_reader_value.f, hh, Option.bind_some, if_neg h1, if_neg h2, if_pos h3]
  by_cases h4 : (bytesOf t).getD i 0 = 45
  · exact (value_j0 t ht i hi true (fun _ => .inl h4) 0 i 0).step (fun k => by rw [spec_reader_value.f, hh, Option.bind_some, if_neg h1, if_neg h2, if_neg h3, if_pos h4])
  by_cases h5 : 48 ≤ (bytesOf t).getD i 0
  · exact (value_j0 t ht i hi (decide ((bytesOf t).getD i 0 ≤ 57)) (fun h => .inr ⟨h5, of_decide_eq_true h⟩) 0 i 0).step (fun k => by rw [spec_reader_value.f, hh, Option.bind_some, if_neg h1, if_neg h2, if_neg h3, if_neg h4, if_pos h5])
  · exact (value_j0 t ht i hi false (fun h => by cases h) 0 i 0).step (fun k => by rw [spec_reader_value.f, hh, Option.bind_some, if_neg h1, if_neg h2, if_neg h3, if_neg h4, if_neg h5])
end

section
variable (t : ByteArray) (ht : t.size ≤ 4096)
include ht

/-- Behind a member's key. -/
theorem mem_j1 (p : Nat) (hp : p ≤ t.size) (hpos : 0 < p) (x5 : List S66) (x6 : List S28) (h5 : x5.length < p) (h6 : x6.length < p) (x7 : Int)
    (ihV : ∀ j, p < j → j ≤ t.size → ValAt t (fun k => spec_reader_value.f k t (j : Int)) j) (ihM : ∀ j, p ≤ j → j ≤ t.size → MemAt t j) :
    ∃ (r1 : List S66) (r2 : List S28) (b : Bool) (j : Nat) (s : List Int), Ev (fun k => spec_reader_members.j1 k x5 x6 x7 false t (p : Int)) (r1, r2, b, t, (j : Int)) ∧ Seg (bytesOf t) p j s ∧
      (b = true → ∀ (u key : List Int) (first : Bool), (∀ c ∈ u, Ws c ∨ c = 44) → (first = false → u ≠ []) → StrTok key → ∃ its : Its, its.text true = u ++ (key ++ s) ∧ its.ok true first) := by
  obtain ⟨y, hy⟩ : ∃ q : List S66, q = x5 ++ [(⟨x7, (p : Int)⟩ : S66)] := ⟨_, rfl⟩
  have hyl : y.length ≤ p := by rw [hy, List.length_append, List.length_singleton]; omega
  obtain ⟨p1, w1, ⟨K1, e1⟩, s1, b1⟩ := blanks_ev t ht (t.size - p) p (Nat.le_refl _) hp
  dsimp only at e1
  have hp1 := seg_size t s1
  have g1 := s1.ge
  rcases take_f t ht p1 hp1 58 (by decide) with ⟨t2, s2⟩ | t2
  case inr =>
    refine ⟨[], [], false, p1, _, ⟨K1 + 1, fun k hk => by
      obtain ⟨m, rfl⟩ : ∃ m, k = m + 1 := ⟨k - 1, by omega⟩
      show spec_reader_members.j1 (m + 1) x5 x6 x7 false t (p : Int) = _
      rw [spec_reader_members.j1, if_neg (by simp), if_pos (by omega), Option.bind_some, ← hy, e1 m (by omega), Option.bind_some, t2, Option.bind_some, if_neg (by simp)]⟩, s1, fun h => by cases h⟩
  obtain ⟨p3, w3, ⟨K3, e3⟩, s3, b3⟩ := blanks_ev t ht (t.size - (p1 + 1)) (p1 + 1) (Nat.le_refl _) (seg_size t s2)
  dsimp only at e3
  have hp3 := seg_size t s3
  have g3 := s3.ge
  obtain ⟨v1, v2, v3, v4, v5, vb, p4, sv, ⟨K4, e4⟩, s4, hv⟩ := ihV p3 (by omega) hp3
  dsimp only at e4
  have hp4 := seg_size t s4
  have g4 := s4.ge
  cases vb with
  | false =>
    refine ⟨[], [], false, p4, _, ⟨K1 + K3 + K4 + 1, fun k hk => by
      obtain ⟨m, rfl⟩ : ∃ m, k = m + 1 := ⟨k - 1, by omega⟩
      show spec_reader_members.j1 (m + 1) x5 x6 x7 false t (p : Int) = _
      rw [spec_reader_members.j1, if_neg (by simp), if_pos (by omega), Option.bind_some, ← hy, e1 m (by omega), Option.bind_some, t2, Option.bind_some, if_pos rfl, e3 m (by omega), Option.bind_some, e4 m (by omega), Option.bind_some, if_neg (by simp)]⟩, ((s1.app s2).app s3).app s4, fun h => by cases h⟩
  | true =>
  obtain ⟨hlt4, c, hcok, hct⟩ := hv rfl
  obtain ⟨z, hz⟩ : ∃ q : List S28, q = x6 ++ [(⟨v1, v2, v3, v4, v5⟩ : S28)] := ⟨_, rfl⟩
  have hzl : z.length ≤ p := by rw [hz, List.length_append, List.length_singleton]; omega
  obtain ⟨p5, w5, ⟨K5, e5⟩, s5, b5⟩ := blanks_ev t ht (t.size - p4) p4 (Nat.le_refl _) hp4
  dsimp only at e5
  have hp5 := seg_size t s5
  have g5 := s5.ge
  have S5 := (((s1.app s2).app s3).app s4).app s5
  rcases take_f t ht p5 hp5 125 (by decide) with ⟨t6, s6⟩ | t6
  · refine ⟨y, z, true, p5 + 1, _, ⟨K1 + K3 + K4 + K5 + 1, fun k hk => by
      obtain ⟨m, rfl⟩ : ∃ m, k = m + 1 := ⟨k - 1, by omega⟩
      show spec_reader_members.j1 (m + 1) x5 x6 x7 false t (p : Int) = _
      rw [spec_reader_members.j1, if_neg (by simp), if_pos (by omega), Option.bind_some, ← hy, e1 m (by omega), Option.bind_some, t2, Option.bind_some, if_pos rfl, e3 m (by omega), Option.bind_some, e4 m (by omega), Option.bind_some, if_pos rfl, if_pos (by omega), Option.bind_some, ← hz, e5 m (by omega), Option.bind_some, t6, Option.bind_some, if_pos rfl]⟩, S5.app s6, fun _ u key first hu hf hkey => ?_⟩
    refine ⟨.cons u key (w1 ++ [58] ++ w3) c (.fin w5), by simp [Its.text, hct, cls], ?_⟩
    simp only [Its.ok, if_true]
    refine ⟨⟨hu, hf, hkey, fun x hx => ?_⟩, hcok, b5⟩
    simp only [List.mem_append, List.mem_singleton] at hx
    rcases hx with (hx | hx) | hx
    · exact .inl (b1 x hx)
    · exact .inr hx
    · exact .inl (b3 x hx)
  rcases take_f t ht p5 hp5 44 (by decide) with ⟨t7, s7⟩ | t7
  · obtain ⟨p8, w8, ⟨K8, e8⟩, s8, b8⟩ := blanks_ev t ht (t.size - (p5 + 1)) (p5 + 1) (Nat.le_refl _) (seg_size t s7)
    dsimp only at e8
    have hp8 := seg_size t s8
    have g8 := s8.ge
    obtain ⟨r1, r2, rb, p9, s9, ⟨K9, e9⟩, S9, h9⟩ := ihM p8 (by omega) hp8 y z (by omega) (by omega)
    dsimp only at e9
    refine ⟨r1, r2, rb, p9, _, ⟨K1 + K3 + K4 + K5 + K8 + K9 + 1, fun k hk => by
      obtain ⟨m, rfl⟩ : ∃ m, k = m + 1 := ⟨k - 1, by omega⟩
      show spec_reader_members.j1 (m + 1) x5 x6 x7 false t (p : Int) = _
      rw [spec_reader_members.j1, if_neg (by simp), if_pos (by omega), Option.bind_some, ← hy, e1 m (by omega), Option.bind_some, t2, Option.bind_some, if_pos rfl, e3 m (by omega), Option.bind_some, e4 m (by omega), Option.bind_some, if_pos rfl, if_pos (by omega), Option.bind_some, ← hz, e5 m (by omega), Option.bind_some, t6, Option.bind_some, if_neg (by simp), t7, Option.bind_some, if_pos rfl, e8 m (by omega), Option.bind_some, e9 m (by omega)]⟩, ((S5.app s7).app s8).app S9, fun hb u key first hu hf hkey => ?_⟩
    obtain ⟨its, htx, hok⟩ := h9 hb (w5 ++ [44] ++ w8) false (fun x hx => by
      simp only [List.mem_append, List.mem_singleton] at hx
      rcases hx with (hx | hx) | hx
      · exact .inl (b5 x hx)
      · exact .inr hx
      · exact .inl (b8 x hx)) (fun _ => by simp)
    refine ⟨.cons u key (w1 ++ [58] ++ w3) c its, by simp [Its.text, hct, htx], ?_⟩
    simp only [Its.ok, if_true]
    refine ⟨⟨hu, hf, hkey, fun x hx => ?_⟩, hcok, hok⟩
    simp only [List.mem_append, List.mem_singleton] at hx
    rcases hx with (hx | hx) | hx
    · exact .inl (b1 x hx)
    · exact .inr hx
    · exact .inl (b3 x hx)
  · refine ⟨[], [], false, p5, _, ⟨K1 + K3 + K4 + K5 + 1, fun k hk => by
      obtain ⟨m, rfl⟩ : ∃ m, k = m + 1 := ⟨k - 1, by omega⟩
      show spec_reader_members.j1 (m + 1) x5 x6 x7 false t (p : Int) = _
      rw [spec_reader_members.j1, if_neg (by simp), if_pos (by omega), Option.bind_some, ← hy, e1 m (by omega), Option.bind_some, t2, Option.bind_some, if_pos rfl, e3 m (by omega), Option.bind_some, e4 m (by omega), Option.bind_some, if_pos rfl, if_pos (by omega), Option.bind_some, ← hz, e5 m (by omega), Option.bind_some, t6, Option.bind_some, if_neg (by simp), t7, Option.bind_some, if_neg (by simp)]⟩, S5, fun h => by cases h⟩

theorem mem_at (i : Nat) (hi : i ≤ t.size) (ihV : ∀ j, i < j → j ≤ t.size → ValAt t (fun k => spec_reader_value.f k t (j : Int)) j) (ihM : ∀ j, i < j → j ≤ t.size → MemAt t j) : MemAt t i := by
  intro x5 x6 h5 h6
  have hh := here_f t i hi
  by_cases h1 : (bytesOf t).getD i 0 = 34
  · obtain ⟨p, s, b, e, sg, hlt, hb⟩ := quoted_ev t ht i h1
    have hp := seg_size t sg
    have hst : ∀ k, spec_reader_members.l0 (k + 1) x5 x6 t (i : Int) = (spec_reader_quoted.f k t (i : Int)).bind fun bt161 => spec_reader_members.j1 k x5 x6 (i : Int) (!bt161.1) bt161.2.1 bt161.2.2 := fun k => by
      rw [spec_reader_members.l0, hh, Option.bind_some, if_pos h1]
    cases b with
    | false =>
      refine ⟨[], [], false, p, _, Ev.step (e.bind ?_) hst, sg, fun h => by cases h⟩
      exact Ev.step (g := fun _ => some (([] : List (S66)), ([] : List (S28)), false, t, (p : Int))) Ev.some (fun k => by
        show spec_reader_members.j1 (k + 1) x5 x6 (i : Int) true t (p : Int) = _
        rw [spec_reader_members.j1, if_pos rfl])
    | true =>
      obtain ⟨r1, r2, b2, p2, s2, e2, sg2, hh2⟩ := mem_j1 t ht p hp (by omega) x5 x6 (by omega) (by omega) (i : Int) (fun j hj => ihV j (by omega)) (fun j hj => ihM j (by omega))
      exact ⟨r1, r2, b2, p2, _, Ev.step (e.bind e2) hst, sg.app sg2, fun hbt u first hu hf => hh2 hbt u s first hu hf (hb rfl)⟩
  · refine ⟨[], [], false, i, [], Ev.step (g := fun k => spec_reader_members.j1 k x5 x6 (i : Int) true t (i : Int)) ?_ (fun k => ?_), Seg.nil (by rw [bytesOf_length]; exact hi), fun h => by cases h⟩
    · exact Ev.step (g := fun _ => some (([] : List (S66)), ([] : List (S28)), false, t, (i : Int))) Ev.some (fun k => by rw [spec_reader_members.j1, if_pos rfl])
    · rw [spec_reader_members.l0, hh, Option.bind_some, if_neg h1]

theorem el_at (i : Nat) (hi : i ≤ t.size) (hV : ValAt t (fun k => spec_reader_value.f k t (i : Int)) i) (ihE : ∀ j, i < j → j ≤ t.size → ElAt t j) : ElAt t i := by
  intro x4 h4
  obtain ⟨v1, v2, v3, v4, v5, vb, p4, sv, ⟨K4, e4⟩, s4, hv⟩ := hV
  dsimp only at e4
  have hp4 := seg_size t s4
  cases vb with
  | false =>
    refine ⟨[], false, p4, _, ⟨K4 + 1, fun k hk => by
      obtain ⟨m, rfl⟩ : ∃ m, k = m + 1 := ⟨k - 1, by omega⟩
      show spec_reader_elements.l0 (m + 1) x4 t (i : Int) = _
      rw [spec_reader_elements.l0, e4 m (by omega), Option.bind_some, if_neg (by simp)]⟩, s4, fun h => by cases h⟩
  | true =>
  obtain ⟨hlt4, c, hcok, hct⟩ := hv rfl
  obtain ⟨z, hz⟩ : ∃ q : List S28, q = x4 ++ [(⟨v1, v2, v3, v4, v5⟩ : S28)] := ⟨_, rfl⟩
  have hzl : z.length ≤ i + 1 := by rw [hz, List.length_append, List.length_singleton]; omega
  obtain ⟨p5, w5, ⟨K5, e5⟩, s5, b5⟩ := blanks_ev t ht (t.size - p4) p4 (Nat.le_refl _) hp4
  dsimp only at e5
  have hp5 := seg_size t s5
  have g5 := s5.ge
  have S5 := s4.app s5
  rcases take_f t ht p5 hp5 93 (by decide) with ⟨t6, s6⟩ | t6
  · refine ⟨z, true, p5 + 1, _, ⟨K4 + K5 + 1, fun k hk => by
      obtain ⟨m, rfl⟩ : ∃ m, k = m + 1 := ⟨k - 1, by omega⟩
      show spec_reader_elements.l0 (m + 1) x4 t (i : Int) = _
      rw [spec_reader_elements.l0, e4 m (by omega), Option.bind_some, if_pos rfl, if_pos (by omega), Option.bind_some, ← hz, e5 m (by omega), Option.bind_some, t6, Option.bind_some, if_pos rfl]⟩, S5.app s6, fun _ u junk first hu hj hf => ?_⟩
    refine ⟨.cons u [] junk c (.fin w5), by simp [Its.text, hct, cls], ?_⟩
    simp only [Its.ok, Bool.false_eq_true, if_false]
    exact ⟨⟨hu, trivial, hj, hf⟩, hcok, b5⟩
  rcases take_f t ht p5 hp5 44 (by decide) with ⟨t7, s7⟩ | t7
  · obtain ⟨p8, w8, ⟨K8, e8⟩, s8, b8⟩ := blanks_ev t ht (t.size - (p5 + 1)) (p5 + 1) (Nat.le_refl _) (seg_size t s7)
    dsimp only at e8
    have hp8 := seg_size t s8
    have g8 := s8.ge
    obtain ⟨r1, rb, p9, s9, ⟨K9, e9⟩, S9, h9⟩ := ihE p8 (by omega) hp8 z (by omega)
    dsimp only at e9
    refine ⟨r1, rb, p9, _, ⟨K4 + K5 + K8 + K9 + 1, fun k hk => by
      obtain ⟨m, rfl⟩ : ∃ m, k = m + 1 := ⟨k - 1, by omega⟩
      show spec_reader_elements.l0 (m + 1) x4 t (i : Int) = _
      rw [spec_reader_elements.l0, e4 m (by omega), Option.bind_some, if_pos rfl, if_pos (by omega), Option.bind_some, ← hz, e5 m (by omega), Option.bind_some, t6, Option.bind_some, if_neg (by simp), t7, Option.bind_some, if_pos rfl, e8 m (by omega), Option.bind_some, e9 m (by omega)]⟩, ((S5.app s7).app s8).app S9, fun hb u junk first hu hj hf => ?_⟩
    obtain ⟨its, htx, hok⟩ := h9 hb w5 (44 :: w8) false b5 (.inr ⟨w8, rfl, b8⟩) (fun _ => by simp)
    refine ⟨.cons u [] junk c its, by simp [Its.text, hct, htx], ?_⟩
    simp only [Its.ok, Bool.false_eq_true, if_false]
    exact ⟨⟨hu, trivial, hj, hf⟩, hcok, hok⟩
  · refine ⟨[], false, p5, _, ⟨K4 + K5 + 1, fun k hk => by
      obtain ⟨m, rfl⟩ : ∃ m, k = m + 1 := ⟨k - 1, by omega⟩
      show spec_reader_elements.l0 (m + 1) x4 t (i : Int) = _
      rw [spec_reader_elements.l0, e4 m (by omega), Option.bind_some, if_pos rfl, if_pos (by omega), Option.bind_some, ← hz, e5 m (by omega), Option.bind_some, t6, Option.bind_some, if_neg (by simp), t7, Option.bind_some, if_neg (by simp)]⟩, S5, fun h => by cases h⟩

theorem read_all : ∀ (m i : Nat), t.size - i ≤ m → i ≤ t.size → ValAt t (fun k => spec_reader_value.f k t (i : Int)) i ∧ MemAt t i ∧ ElAt t i := by
  intro m
  induction m with
  | zero =>
    intro i hm hi
    have hV := value_ev t ht i hi (fun j h1 h2 => by omega) (fun j h1 h2 => by omega)
    exact ⟨hV, mem_at t ht i hi (fun j h1 h2 => by omega) (fun j h1 h2 => by omega), el_at t ht i hi hV (fun j h1 h2 => by omega)⟩
  | succ m ih =>
    intro i hm hi
    have hV := value_ev t ht i hi (fun j h1 h2 => (ih j (by omega) h2).2.1) (fun j h1 h2 => (ih j (by omega) h2).2.2)
    exact ⟨hV, mem_at t ht i hi (fun j h1 h2 => (ih j (by omega) h2).1) (fun j h1 h2 => (ih j (by omega) h2).2.1), el_at t ht i hi hV (fun j h1 h2 => (ih j (by omega) h2).2.2)⟩
end
end Go.Proofs.Ytdcigjpgagimdaa.M
