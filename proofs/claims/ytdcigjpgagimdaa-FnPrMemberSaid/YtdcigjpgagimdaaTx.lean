/-
JSON texts as concrete trees, their text, what PrettyOptions lays out of them, and the laws of that layout. Plain Lean: no program in sight.
-/
set_option linter.unusedVariables false
set_option linter.unusedSimpArgs false
namespace Tx

/-- A blank of RFC 8259. -/
def Ws (c : Int) : Prop := c = 32 ∨ c = 9 ∨ c = 10 ∨ c = 13
def Blanks (l : List Int) : Prop := ∀ c ∈ l, Ws c

mutual
inductive Cst where
  | atom (k : Nat) (raw : List Int)
  | box (ob : Bool) (its : Its)
inductive Its where
  | fin (w : List Int)
  | cons (u key junk : List Int) (v : Cst) (t : Its)
end

def opn (ob : Bool) : Int := if ob then 123 else 91
def cls (ob : Bool) : Int := if ob then 125 else 93

mutual
def Cst.text : Cst → List Int
  | .atom _ raw => raw
  | .box ob its => opn ob :: its.text ob
def Its.text (ob : Bool) : Its → List Int
  | .fin w => w ++ [cls ob]
  | .cons u key junk v t => u ++ (key ++ (junk ++ (v.text ++ t.text ob)))
end

def tabs (p d : List Int) : Nat → List Int
  | 0 => p
  | n + 1 => tabs p d n ++ d

mutual
def Cst.lay (p d : List Int) (n : Nat) : Cst → List Int
  | .atom _ raw => raw
  | .box ob its => opn ob :: its.lay p d n ob true
def Its.lay (p d : List Int) (n : Nat) (ob : Bool) (first : Bool) : Its → List Int
  | .fin _ => (if first then [] else 10 :: tabs p d n) ++ [cls ob]
  | .cons _ key _ v t => (if first then [] else [44]) ++ ((10 :: tabs p d (n + 1)) ++ ((if ob then key ++ [58, 32] else []) ++ (v.lay p d (n + 1) ++ t.lay p d n ob false)))
end

theorem tabs_shift (p d : List Int) (n : Nat) : tabs (p ++ d) d n = tabs p d (n + 1) := by
  induction n with
  | zero => rfl
  | succ n ih => rw [tabs, ih]; rfl

mutual
theorem Cst.lay_shift (p d : List Int) (n : Nat) : (c : Cst) → c.lay (p ++ d) d n = c.lay p d (n + 1)
  | .atom _ _ => rfl
  | .box ob its => by rw [Cst.lay, Cst.lay, Its.lay_shift p d n ob true its]
theorem Its.lay_shift (p d : List Int) (n : Nat) (ob first : Bool) : (t : Its) → t.lay (p ++ d) d n ob first = t.lay p d (n + 1) ob first
  | .fin _ => by rw [Its.lay, Its.lay, tabs_shift]
  | .cons _ _ _ v t => by rw [Its.lay, Its.lay, tabs_shift, Cst.lay_shift p d (n + 1) v, Its.lay_shift p d n ob false t]
end

/-- What is asked of an atom by its kind: its text begins with a byte that is none of the marks, and has no line feed. -/
def NoNl (l : List Int) : Prop := ∀ c ∈ l, c ≠ 10

mutual
/-- No raw text holds a line feed, none is empty. -/
def Cst.line : Cst → Prop
  | .atom _ raw => NoNl raw ∧ raw ≠ []
  | .box ob its => its.line ob
def Its.line (ob : Bool) : Its → Prop
  | .fin _ => True
  | .cons _ key _ v t => (ob = true → NoNl key ∧ key ≠ []) ∧ v.line ∧ t.line ob
end

/-- The prefix ahead of each line. -/
def ap (p : List Int) : Bool → List Int → List Int
  | _, [] => []
  | f, c :: l => (if f then p else []) ++ c :: ap p (decide (c = 10)) l

theorem ap_flat (p : List Int) (r x : List Int) (hr : NoNl r) : ap p false (r ++ x) = r ++ ap p false x := by
  induction r with
  | nil => rfl
  | cons c r ih =>
    have hc : c ≠ 10 := hr c (by simp)
    have := ih (fun y hy => hr y (by simp [hy]))
    simp [ap, hc, this]

theorem ap_fresh (p : List Int) (r x : List Int) (hr : NoNl r) (c : Int) (hx : x.head? = some c) (hc : c ≠ 10) : ap p true (r ++ x) = p ++ (r ++ ap p false x) := by
  cases r with
  | nil =>
    cases x with
    | nil => simp at hx
    | cons y x =>
      simp at hx
      subst hx
      simp [ap]
  | cons y r =>
    have hy : y ≠ 10 := hr y (by simp)
    have := ap_flat p r x (fun z hz => hr z (by simp [hz]))
    simp [ap, hy, this]

theorem tabs_nil_nonl (d : List Int) (hd : NoNl d) (n : Nat) : NoNl (tabs [] d n) := by
  induction n with
  | zero => intro c hc; simp [tabs] at hc
  | succ n ih =>
    intro c hc
    rw [tabs, List.mem_append] at hc
    rcases hc with hc | hc
    · exact ih c hc
    · exact hd c hc

theorem tabs_eq (p d : List Int) (n : Nat) : tabs p d n = p ++ tabs [] d n := by
  induction n with
  | zero => simp [tabs]
  | succ n ih => rw [tabs, ih, tabs, List.append_assoc]

theorem opn_ne (ob : Bool) : opn ob ≠ 10 := by cases ob <;> decide
theorem cls_ne (ob : Bool) : cls ob ≠ 10 := by cases ob <;> decide

theorem Cst.lay_head (p d : List Int) (n : Nat) (c : Cst) (h : c.line) : ∃ x, (c.lay p d n).head? = some x ∧ x ≠ 10 := by
  cases c with
  | atom k raw =>
    rw [Cst.line] at h
    cases raw with
    | nil => exact absurd rfl h.2
    | cons y r => exact ⟨y, by simp [Cst.lay], h.1 y (by simp)⟩
  | box ob its => exact ⟨opn ob, by simp [Cst.lay], opn_ne ob⟩

theorem head_app {l m : List Int} {x : Int} (h : l.head? = some x) : (l ++ m).head? = some x := by
  cases l with
  | nil => simp at h
  | cons y l => simpa using h

theorem ap_nl (p : List Int) (x : List Int) (f : Bool) : ap p f (10 :: x) = (if f then p else []) ++ 10 :: ap p true x := by simp [ap]

mutual
theorem Cst.lay_ap (p d : List Int) (hd : NoNl d) (n : Nat) (x : List Int) : (c : Cst) → c.line → ap p false (c.lay [] d n ++ x) = c.lay p d n ++ ap p false x
  | .atom _ raw, h => by
    rw [Cst.line] at h
    rw [Cst.lay, Cst.lay, ap_flat p raw x h.1]
  | .box ob its, h => by
    rw [Cst.line] at h
    rw [Cst.lay, Cst.lay, List.cons_append, List.cons_append]
    have := ap_flat p [opn ob] (its.lay [] d n ob true ++ x) (fun c hc => by simp at hc; subst hc; exact opn_ne ob)
    simp only [List.cons_append, List.nil_append] at this
    rw [this, Its.lay_ap p d hd n ob true x its h]
theorem Its.lay_ap (p d : List Int) (hd : NoNl d) (n : Nat) (ob first : Bool) (x : List Int) : (t : Its) → t.line ob → ap p false (t.lay [] d n ob first ++ x) = t.lay p d n ob first ++ ap p false x
  | .fin _, _ => by
    have hcl : ∀ y, ap p false (cls ob :: y) = cls ob :: ap p false y := fun y => by
      have := ap_flat p [cls ob] y (fun c hc => by simp at hc; subst hc; exact cls_ne ob)
      simpa using this
    cases first with
    | true => simp [Its.lay, hcl]
    | false =>
      have h1 := ap_fresh p (tabs [] d n) (cls ob :: x) (tabs_nil_nonl d hd n) (cls ob) rfl (cls_ne ob)
      rw [hcl] at h1
      simp only [Its.lay, Bool.false_eq_true, if_false, List.append_assoc, List.cons_append, List.nil_append]
      rw [ap_nl, h1, tabs_eq p d n]
      simp
  | .cons u key junk v t, h => by
    rw [Its.line] at h
    have hv := Cst.lay_ap p d hd (n + 1) (t.lay [] d n ob false ++ x) v h.2.1
    have ht := Its.lay_ap p d hd n ob false x t h.2.2
    have key_ap : ap p true (tabs [] d (n + 1) ++ ((if ob then key ++ [58, 32] else []) ++ (v.lay [] d (n + 1) ++ (t.lay [] d n ob false ++ x)))) = p ++ (tabs [] d (n + 1) ++ ((if ob then key ++ [58, 32] else []) ++ (v.lay p d (n + 1) ++ (t.lay p d n ob false ++ ap p false x)))) := by
      obtain ⟨y, hy, hny⟩ := Cst.lay_head [] d (n + 1) v h.2.1
      cases ob with
      | false =>
        simp only [Bool.false_eq_true, if_false, List.nil_append] at hv ht ⊢
        rw [ap_fresh p _ _ (tabs_nil_nonl d hd (n + 1)) y (head_app hy) hny, hv, ht]
      | true =>
        obtain ⟨hk, _⟩ := h
        obtain ⟨hk1, hk2⟩ := hk rfl
        have hkn : NoNl (key ++ [58, 32]) := by
          intro c hc
          rw [List.mem_append] at hc
          rcases hc with hc | hc
          · exact hk1 c hc
          · simp at hc; omega
        obtain ⟨z, hz⟩ : ∃ z, key.head? = some z := by
          cases key with
          | nil => exact absurd rfl hk2
          | cons z l => exact ⟨z, rfl⟩
        have hzn : z ≠ 10 := hk1 z (List.mem_of_mem_head? hz)
        simp only [if_true] at hv ht ⊢
        rw [ap_fresh p _ _ (tabs_nil_nonl d hd (n + 1)) z (head_app (head_app hz)) hzn, ap_flat p _ _ hkn, hv, ht]
    have hc44 : ∀ y, ap p false (44 :: y) = 44 :: ap p false y := fun y => by simp [ap]
    simp only [Its.lay, List.append_assoc, List.cons_append, List.nil_append]
    rw [tabs_eq p d (n + 1)]
    cases first with
    | true =>
      simp only [if_true, List.nil_append, List.append_assoc]
      rw [ap_nl, key_ap]
      simp
    | false =>
      simp only [Bool.false_eq_true, if_false, List.cons_append, List.nil_append, List.append_assoc]
      rw [hc44, ap_nl, key_ap]
      simp
end

/-- The law of the prefix: what is laid without one, with the prefix ahead of each line. -/
theorem Cst.prefix_law (p d : List Int) (hd : NoNl d) (c : Cst) (h : c.line) : ap p true (c.lay [] d 0 ++ [10]) = p ++ (c.lay p d 0 ++ [10]) := by
  obtain ⟨y, hy, hny⟩ := Cst.lay_head [] d 0 c h
  have h1 := ap_fresh p [] (c.lay [] d 0 ++ [10]) (fun _ hc => by simp at hc) y (head_app hy) hny
  simp only [List.nil_append] at h1
  rw [h1, Cst.lay_ap p d hd 0 [10] c h]
  simp [ap]

/-! ### Sizes -/
theorem tabs_length (p d : List Int) (n : Nat) : (tabs p d n).length = p.length + n * d.length := by
  induction n with
  | zero => simp [tabs]
  | succ n ih => rw [tabs, List.length_append, ih, Nat.succ_mul]; omega

mutual
def Cst.size : Cst → Nat
  | .atom _ _ => 1
  | .box _ its => 1 + its.size
def Its.size : Its → Nat
  | .fin _ => 1
  | .cons _ _ _ v t => 1 + v.size + t.size
end

end Tx
