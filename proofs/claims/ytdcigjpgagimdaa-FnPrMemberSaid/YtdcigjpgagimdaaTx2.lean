/-
What is asked of a JSON text's tree (its text is JSON), and small laws of texts, by places. Plain Lean: no program in sight.
-/
import Derived.Test.YtdcigjpgagimdaaTx
set_option linter.unusedVariables false
set_option linter.unusedSimpArgs false
namespace Tx

/-- The inside of a string's text: escapes are closed; b: a backslash has been read that is not spent. -/
def EscB : Bool → List Int → Prop
  | b, [] => b = false
  | b, c :: l => if c = 92 then EscB (!b) l else if c = 34 then b = true ∧ EscB false l else EscB false l

structure StrTok (raw : List Int) : Prop where
  body : ∃ b, raw = 34 :: (b ++ [34]) ∧ EscB false b
  nonl : NoNl raw

/-- A byte at which the printer's scan of a number stops. -/
def Stop (c : Int) : Prop := c ≤ 32 ∨ c = 44 ∨ c = 58 ∨ c = 93 ∨ c = 125

structure NumTok (raw : List Int) : Prop where
  head : ∃ c r, raw = c :: r ∧ (c = 45 ∨ (48 ≤ c ∧ c ≤ 57))
  all : ∀ c ∈ raw, ¬ Stop c

def AtomOk : Nat → List Int → Prop
  | 0, raw => StrTok raw
  | 1, raw => NumTok raw
  | _, raw => raw = [116, 114, 117, 101] ∨ raw = [102, 97, 108, 115, 101] ∨ raw = [110, 117, 108, 108]

mutual
def Cst.ok : Cst → Prop
  | .atom k raw => AtomOk k raw
  | .box ob its => its.ok ob true
def Its.ok (ob first : Bool) : Its → Prop
  | .fin w => Blanks w
  | .cons u key junk v t =>
    (if ob = true then (∀ c ∈ u, Ws c ∨ c = 44) ∧ (first = false → u ≠ []) ∧ StrTok key ∧ (∀ c ∈ junk, Ws c ∨ c = 58)
     else Blanks u ∧ key = [] ∧ (junk = [] ∨ ∃ j, junk = 44 :: j ∧ Blanks j) ∧ (first = false → junk ≠ []))
    ∧ v.ok ∧ t.ok ob false
end

/-- What follows a value: nothing, or a byte at which a number's scan stops. -/
def StopAt (l : List Int) : Prop := l = [] ∨ ∃ c r, l = c :: r ∧ Stop c

theorem Ws.le {c : Int} (h : Ws c) : c ≤ 32 := by rcases h with h | h | h | h <;> omega
theorem Ws.stop {c : Int} (h : Ws c) : Stop c := .inl h.le

theorem Its.ok_first {ob first : Bool} {t : Its} (h : t.ok ob first) : t.ok ob true := by
  cases t with
  | fin w => exact h
  | cons u key junk v t =>
    simp only [Its.ok] at h ⊢
    refine ⟨?_, h.2⟩
    cases ob with
    | true => simp only [if_true] at h ⊢; exact ⟨h.1.1, by simp, h.1.2.2⟩
    | false => simp only [Bool.false_eq_true, if_false] at h ⊢; exact ⟨h.1.1, h.1.2.1, h.1.2.2.1, by simp⟩

/-- The text of what follows a value in a box begins with a stop. -/
theorem Its.ok_stop {ob : Bool} {t : Its} (h : t.ok ob false) (r : List Int) : StopAt (t.text ob ++ r) := by
  right
  cases t with
  | fin w =>
    cases w with
    | nil => exact ⟨cls ob, r, by simp [Its.text], by cases ob <;> simp [cls, Stop]⟩
    | cons c w => exact ⟨c, w ++ [cls ob] ++ r, by simp [Its.text], (h c (by simp)).stop⟩
  | cons u key junk v t =>
    simp only [Its.ok] at h
    cases u with
    | cons c u =>
      refine ⟨c, _, by rw [Its.text]; rfl, ?_⟩
      cases ob with
      | true =>
        simp only [if_true] at h
        rcases h.1.1 c (by simp) with h | h
        · exact h.stop
        · exact .inr (.inl h)
      | false =>
        simp only [Bool.false_eq_true, if_false] at h
        exact (h.1.1 c (by simp)).stop
    | nil =>
      cases ob with
      | true => simp only [if_true] at h; exact absurd rfl (h.1.2.1 trivial)
      | false =>
        simp only [Bool.false_eq_true, if_false] at h
        obtain ⟨hk, hj, hf⟩ := h.1.2
        rcases hj with hj | ⟨j, hj, _⟩
        · exact absurd hj (hf trivial)
        · subst hj; subst hk
          exact ⟨44, _, by rw [Its.text]; rfl, .inr (.inl rfl)⟩

/-- The first byte of a value's text. -/
theorem Cst.text_head {c : Cst} (h : c.ok) : ∃ z r, c.text = z :: r ∧ (z = 34 ∨ z = 45 ∨ (48 ≤ z ∧ z ≤ 57) ∨ z = 116 ∨ z = 102 ∨ z = 110 ∨ z = 123 ∨ z = 91) := by
  cases c with
  | box ob its => exact ⟨opn ob, _, rfl, by cases ob <;> simp [opn]⟩
  | atom k raw =>
    match k, h with
    | 0, h => obtain ⟨b, hb, _⟩ := StrTok.body h; exact ⟨34, _, hb, .inl rfl⟩
    | 1, h => obtain ⟨c, r, hr, hc⟩ := NumTok.head h; exact ⟨c, r, hr, by omega⟩
    | k + 2, h =>
      rcases h with h | h | h <;> subst h
      · exact ⟨116, _, rfl, by simp⟩
      · exact ⟨102, _, rfl, by simp⟩
      · exact ⟨110, _, rfl, by simp⟩

/-- The last byte of a value's layout is no blank. -/
theorem StrTok.last {raw : List Int} (h : StrTok raw) : ∃ ys, raw = ys ++ [34] := by
  obtain ⟨b, hb, _⟩ := h.body
  exact ⟨34 :: b, by rw [hb]; rfl⟩

theorem Its.lay_last (p d : List Int) (n : Nat) (ob : Bool) : (first : Bool) → (t : Its) → ∃ ys, t.lay p d n ob first = ys ++ [cls ob]
  | _, .fin _ => ⟨_, by rw [Its.lay]⟩
  | first, .cons u key junk v t => by
    obtain ⟨ys, h⟩ := Its.lay_last p d n ob false t
    rw [Its.lay, h]
    exact ⟨(if first then [] else [44]) ++ ((10 :: tabs p d (n + 1)) ++ ((if ob then key ++ [58, 32] else []) ++ (v.lay p d (n + 1) ++ ys))), by simp⟩
termination_by _ t => t

theorem Cst.lay_last (p d : List Int) (n : Nat) {c : Cst} (h : c.ok) : ∃ ys z, c.lay p d n = ys ++ [z] ∧ z ≠ 32 := by
  cases c with
  | box ob its =>
    obtain ⟨ys, hy⟩ := Its.lay_last p d n ob true its
    exact ⟨opn ob :: ys, cls ob, by rw [Cst.lay, hy]; rfl, by cases ob <;> decide⟩
  | atom k raw =>
    rw [Cst.lay]
    match k, h with
    | 0, h => obtain ⟨ys, hy⟩ := StrTok.last h; exact ⟨ys, 34, hy, by decide⟩
    | 1, h =>
      obtain ⟨c, r, hr, _⟩ := NumTok.head h
      have hne : raw ≠ [] := by rw [hr]; simp
      refine ⟨raw.dropLast, raw.getLast hne, (List.dropLast_concat_getLast hne).symm, ?_⟩
      have := NumTok.all h _ (List.getLast_mem hne)
      intro he
      exact this (.inl (by omega))
    | k + 2, h =>
      rcases h with h | h | h <;> subst h
      · exact ⟨[116, 114, 117], 101, rfl, by decide⟩
      · exact ⟨[102, 97, 108, 115], 101, rfl, by decide⟩
      · exact ⟨[110, 117, 108], 108, rfl, by decide⟩

/-! ### Places in a text -/
theorem drop_cons {l : List Int} {i : Nat} {z : Int} {r : List Int} (h : l.drop i = z :: r) : i < l.length ∧ l.drop (i + 1) = r ∧ l.getD i 0 = z := by
  have hi : i < l.length := by
    rcases Nat.lt_or_ge i l.length with hi | hi
    · exact hi
    · rw [List.drop_eq_nil_of_le hi] at h; cases h
  rw [List.drop_eq_getElem_cons hi] at h
  injection h with h1 h2
  exact ⟨hi, h2, by simp [List.getD, hi, h1]⟩

theorem drop_app {l : List Int} {i : Nat} {a r : List Int} (h : l.drop i = a ++ r) : l.drop (i + a.length) = r := by
  rw [← List.drop_drop, h, List.drop_left']
  rfl

theorem Its.text_ne (ob : Bool) (t : Its) : t.text ob ≠ [] := by
  induction t using Its.rec (motive_1 := fun _ => True) with
  | fin w => simp [Its.text]
  | cons u key junk v t _ ih => simp [Its.text, ih]
  | atom => trivial
  | box => trivial

/-- The next byte of a box: it is passed over, or the box ends, or an item begins. -/
theorem Its.round {ob : Bool} {t : Its} (h : t.ok ob true) :
    (∃ (z : Int) (t' : Its), t.text ob = z :: t'.text ob ∧ t'.ok ob true ∧ t'.size = t.size ∧ (∀ p d n first, t'.lay p d n ob first = t.lay p d n ob first) ∧ (z ≤ 32 ∨ (ob = true ∧ z = 44))) ∨ t = .fin [] ∨ (∃ (key junk : List Int) (v : Cst) (t' : Its), t = .cons [] key junk v t') := by
  cases t with
  | fin w =>
    cases w with
    | nil => exact .inr (.inl rfl)
    | cons c w => exact .inl ⟨c, .fin w, by simp [Its.text], fun x hx => h x (by simp [hx]), rfl, fun _ _ _ _ => by simp [Its.lay], .inl (h c (by simp)).le⟩
  | cons u key junk v t =>
    cases u with
    | nil => exact .inr (.inr ⟨key, junk, v, t, rfl⟩)
    | cons c u =>
      simp only [Its.ok] at h
      cases ob with
      | true =>
        simp only [if_true] at h
        refine .inl ⟨c, .cons u key junk v t, by simp [Its.text], ?_, by simp [Its.size], fun _ _ _ _ => by simp [Its.lay], ?_⟩
        · simp only [Its.ok, if_true]
          exact ⟨⟨fun x hx => h.1.1 x (by simp [hx]), by simp, h.1.2.2⟩, h.2⟩
        · rcases h.1.1 c (by simp) with h | h
          · exact .inl h.le
          · exact .inr ⟨rfl, h⟩
      | false =>
        simp only [Bool.false_eq_true, if_false] at h
        refine .inl ⟨c, .cons u key junk v t, by simp [Its.text], ?_, by simp [Its.size], fun _ _ _ _ => by simp [Its.lay], .inl (h.1.1 c (by simp)).le⟩
        simp only [Its.ok, Bool.false_eq_true, if_false]
        exact ⟨⟨fun x hx => h.1.1 x (by simp [hx]), h.1.2.1, h.1.2.2.1, by simp⟩, h.2⟩

/-- An item's first byte, in an array. -/
theorem Its.item_head {junk : List Int} {v : Cst} (hj : junk = [] ∨ ∃ j, junk = 44 :: j ∧ Blanks j) (hv : v.ok) (r : List Int) : ∃ z r', junk ++ (v.text ++ r) = z :: r' ∧ 32 < z ∧ z ≠ 93 := by
  rcases hj with hj | ⟨j, hj, _⟩
  · obtain ⟨z, r', hz, hh⟩ := v.text_head hv
    subst hj
    exact ⟨z, r' ++ r, by rw [hz]; rfl, by omega, by omega⟩
  · subst hj
    exact ⟨44, j ++ (v.text ++ r), rfl, by decide, by decide⟩
end Tx
