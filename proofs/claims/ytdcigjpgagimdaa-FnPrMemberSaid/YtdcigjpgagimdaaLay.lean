/-
Sizes of trees, of their texts and layouts; what the law's helpers come to on every input.
-/
import Derived.Test.YtdcigjpgagimdaaRd
import Derived.Test.YtdcigjpgagimdaaPlc
import Derived.Test.YtdcigjpgagimdaaMx5b
set_option linter.unusedVariables false
set_option linter.unusedSimpArgs false
namespace Tx

mutual
theorem Cst.ok_line : (c : Cst) → c.ok → c.line
  | .atom k raw, h => by
    rw [Cst.line]
    match k, h with
    | 0, h =>
      obtain ⟨b, hb, _⟩ := StrTok.body h
      exact ⟨StrTok.nonl h, by rw [hb]; simp⟩
    | 1, h =>
      obtain ⟨c, r, hr, _⟩ := NumTok.head h
      exact ⟨fun x hx he => NumTok.all h x hx (.inl (by omega)), by rw [hr]; simp⟩
    | k + 2, h =>
      rcases h with h | h | h <;> subst h <;> exact ⟨by intro c hc; simp at hc; omega, by simp⟩
  | .box ob its, h => by
    rw [Cst.line]
    exact Its.ok_line ob true its h
theorem Its.ok_line (ob first : Bool) : (t : Its) → t.ok ob first → t.line ob
  | .fin _, _ => by rw [Its.line]; trivial
  | .cons u key junk v t, h => by
    rw [Its.line]
    rw [Its.ok] at h
    refine ⟨fun ho => ?_, Cst.ok_line v h.2.1, Its.ok_line ob false t h.2.2⟩
    rw [if_pos ho] at h
    obtain ⟨b, hb, _⟩ := StrTok.body h.1.2.2.1
    exact ⟨StrTok.nonl h.1.2.2.1, by rw [hb]; simp⟩
end

mutual
theorem Cst.size_text : (c : Cst) → c.ok → c.size + 1 ≤ 2 * c.text.length
  | .atom k raw, h => by
    obtain ⟨z, r, hz, _⟩ := Cst.text_head h
    rw [hz, Cst.size, List.length_cons]
    omega
  | .box ob its, h => by
    have := Its.size_text ob true its h
    rw [Cst.size, Cst.text, List.length_cons]
    omega
theorem Its.size_text (ob first : Bool) : (t : Its) → t.ok ob first → t.size + 1 ≤ 2 * (t.text ob).length
  | .fin w, _ => by
    rw [Its.size, Its.text, List.length_append, List.length_singleton]
    omega
  | .cons u key junk v t, h => by
    rw [Its.ok] at h
    have h1 := Cst.size_text v h.2.1
    have h2 := Its.size_text ob false t h.2.2
    rw [Its.size, Its.text]
    simp only [List.length_append]
    omega
end

mutual
theorem Cst.lay_len (p d : List Int) (W M : Nat) (hW : ∀ m, m ≤ M → (tabs p d m).length ≤ W) : (c : Cst) → c.ok → (n : Nat) → n + c.size ≤ M → (c.lay p d n).length ≤ c.text.length + c.size * (W + 4)
  | .atom k raw, _, n, _ => by
    rw [Cst.lay, Cst.text]
    omega
  | .box ob its, h, n, hn => by
    rw [Cst.size] at hn
    have := Its.lay_len p d W M hW ob true its h n (by omega)
    rw [Cst.lay, Cst.text, Cst.size, List.length_cons, List.length_cons, Nat.add_mul]
    omega
theorem Its.lay_len (p d : List Int) (W M : Nat) (hW : ∀ m, m ≤ M → (tabs p d m).length ≤ W) (ob first : Bool) : (t : Its) → t.ok ob first → (n : Nat) → n + t.size ≤ M → (t.lay p d n ob first).length ≤ (t.text ob).length + t.size * (W + 4)
  | .fin w, _, n, hn => by
    have := hW n (by omega)
    rw [Its.lay, Its.text, Its.size]
    cases first <;> simp <;> omega
  | .cons u key junk v t, h, n, hn => by
    rw [Its.ok] at h
    rw [Its.size] at hn
    have h1 := Cst.lay_len p d W M hW v h.2.1 (n + 1) (by omega)
    have h2 := Its.lay_len p d W M hW ob false t h.2.2 n (by omega)
    have h3 := hW (n + 1) (by omega)
    rw [Its.lay, Its.text, Its.size, Nat.add_mul, Nat.add_mul, Nat.one_mul]
    cases first <;> cases ob <;> simp <;> omega
end

theorem Cst.lay_small (p d : List Int) (hp : p.length ≤ 128) (hd : d.length ≤ 64) (c : Cst) (h : c.ok) (ht : c.text.length ≤ 4096) : (c.lay p d 0).length < 8589934592 ∧ c.size < 8192 := by
  have hs := c.size_text h
  have hl := c.lay_len p d 524416 8192 (fun m hm => by
    rw [tabs_length]
    have : m * d.length ≤ 8192 * 64 := Nat.mul_le_mul hm hd
    omega) h 0 (by omega)
  have : c.size * (524416 + 4) ≤ 8192 * (524416 + 4) := Nat.mul_le_mul_right _ (by omega)
  exact ⟨by omega, by omega⟩
end Tx

namespace Go.Proofs.Ytdcigjpgagimdaa.M
open Go Go.RowKit Tx Go.Proofs.YtdcigjpgagimdaaW.PrintWords

/-- prPlaces ends on every text; where it says yes, the text is one of a tree. -/
theorem places_ev (t : ByteArray) : ∃ (r1 r2 r3 : Int) (r4 : List S66) (r5 : List S28) (b : Bool), Ev (fun k => laws_prPlaces.f k t) (r1, r2, r3, r4, r5, b) ∧
    (b = true → t.size ≤ 4096 ∧ ∃ (c : Cst) (junk rest : List Int), c.ok ∧ bytesOf t = junk ++ (c.text ++ rest) ∧ Blanks junk ∧ Blanks rest) := by
  by_cases hl : (t.size : Int) > 4096
  · refine ⟨0, 0, 0, [], [], false, ⟨0, fun k _ => ?_⟩, fun h => by cases h⟩
    show laws_prPlaces.f k t = _
    rw [laws_prPlaces.f, if_pos hl]
  have ht : t.size ≤ 4096 := by omega
  obtain ⟨i, s, ⟨K1, e1⟩, s1, b1⟩ := blanks_ev t ht t.size 0 (by omega) (by omega)
  have hi := seg_size t s1
  obtain ⟨v1, v2, v3, v4, v5, vb, j, sv, ⟨K2, e2⟩, s2, hv⟩ := (read_all t ht t.size i (by omega) hi).1
  have hj := seg_size t s2
  obtain ⟨j2, w2, ⟨K3, e3⟩, s3, b3⟩ := blanks_ev t ht (t.size - j) j (Nat.le_refl _) hj
  dsimp only at e1 e2 e3
  have hz : ∀ k, spec_Places.f k t = (spec_reader_blanks.f k t ((0 : Nat) : Int)).bind fun b => _ := fun k => rfl
  cases vb with
  | false =>
    refine ⟨0, 0, 0, [], [], false, ⟨K1 + K2 + K3, fun k hk => ?_⟩, fun h => by cases h⟩
    show laws_prPlaces.f k t = _
    rw [laws_prPlaces.f, if_neg hl, hz k, e1 k (by omega), Option.bind_some, e2 k (by omega), Option.bind_some, if_neg (by simp)]
    rfl
  | true =>
    by_cases he : j2 = t.size
    · refine ⟨v1, v2, v3, v4, v5, true, ⟨K1 + K2 + K3, fun k hk => ?_⟩, fun _ => ⟨ht, ?_⟩⟩
      · show laws_prPlaces.f k t = _
        rw [laws_prPlaces.f, if_neg hl, hz k, e1 k (by omega), Option.bind_some, e2 k (by omega), Option.bind_some, if_pos rfl, e3 k (by omega), Option.bind_some, if_pos (by rw [he])]
        rfl
      · obtain ⟨_, c, hc, hct⟩ := hv rfl
        refine ⟨c, s, w2, hc, ?_, b1, b3⟩
        have S := (s1.app s2).app s3
        have := S.eq
        have h0 : (bytesOf t).drop t.size = [] := List.drop_eq_nil_of_le (by rw [bytesOf_length]; exact Nat.le_refl _)
        rw [he, h0, List.append_nil, List.drop_zero] at this
        rw [this, hct, List.append_assoc]
    · refine ⟨0, 0, 0, [], [], false, ⟨K1 + K2 + K3, fun k hk => ?_⟩, fun h => by cases h⟩
      show laws_prPlaces.f k t = _
      rw [laws_prPlaces.f, if_neg hl, hz k, e1 k (by omega), Option.bind_some, e2 k (by omega), Option.bind_some, if_pos rfl, e3 k (by omega), Option.bind_some, if_neg (by omega)]
      rfl

/-- One line of at most 64 bytes. -/
def Line (s : ByteArray) : Prop := s.size ≤ 64 ∧ NoNl (bytesOf s)

theorem oneLine_l1 (x10 : List ByteArray) (x11 x12 : Int) (s : ByteArray) (hs : s.size < 4294967296) (R : Bool) (hR : s.size ≤ 64 → Ev (fun k => laws_prOneLine.l0 k x10 x11 (wrap64 (x12 + 1))) R) : ∀ (m i : Nat), i + m = s.size → (∀ c ∈ (bytesOf s).take i, c ≠ 10) →
    ∃ b, Ev (fun k => laws_prOneLine.l1 k s (i : Int) x10 x11 x12) b ∧ (b = true → Line s ∧ R = true) := by
  intro m
  induction m with
  | zero =>
    intro i hi hn
    by_cases h : s.size ≤ 64
    · refine ⟨R, (hR h).step (fun k => ?_), fun hb => ⟨⟨h, ?_⟩, hb⟩⟩
      · rw [laws_prOneLine.l1, if_neg (by omega), if_neg (by omega)]
      · rw [List.take_of_length_le (by rw [bytesOf_length]; omega)] at hn
        exact hn
    · refine ⟨false, Ev.step (g := fun _ => some false) Ev.some (fun k => ?_), fun h => by cases h⟩
      rw [laws_prOneLine.l1, if_neg (by omega), if_pos (by omega)]
  | succ m ih =>
    intro i hi hn
    have hb := bt_l s i (by omega)
    have hw : wrap64 ((i : Int) + 1) = ((i + 1 : Nat) : Int) := by unfold wrap64; omega
    by_cases h : (bytesOf s).getD i 0 = 10
    · refine ⟨false, Ev.step (g := fun _ => some false) Ev.some (fun k => ?_), fun h => by cases h⟩
      rw [laws_prOneLine.l1, if_pos (by omega), if_pos (by omega), hb, if_pos h]
    · obtain ⟨b, he, hr⟩ := ih (i + 1) (by omega) (by
        intro c hc
        have hl : i < (bytesOf s).length := by rw [bytesOf_length]; omega
        rw [List.take_succ_eq_append_getElem hl] at hc
        rcases List.mem_append.mp hc with hc | hc
        · exact hn c hc
        · rw [List.mem_singleton.mp hc]
          simpa [List.getD, hl] using h)
      refine ⟨b, he.step (fun k => ?_), hr⟩
      rw [laws_prOneLine.l1, if_pos (by omega), if_pos (by omega), hb, if_neg h, hw]

theorem oneLine_ev (o0 : Int) (o1 o2 : ByteArray) (o3 : Bool) (h1 : o1.size < 4294967296) (h2 : o2.size < 4294967296) : ∃ b, Ev (fun k => laws_prOneLine.f k o0 o1 o2 o3) b ∧ (b = true → Line o1 ∧ Line o2) := by
  have wA : wrap64 ((0 : Int) + 1) = 1 := by unfold wrap64; omega
  have wB : wrap64 ((1 : Int) + 1) = 2 := by unfold wrap64; omega
  have e2 : Ev (fun k => laws_prOneLine.l0 k [o1, o2] 2 (wrap64 (1 + 1))) true :=
    Ev.step (g := fun _ => some true) Ev.some (fun k => by rw [wB, laws_prOneLine.l0, if_neg (by omega)])
  obtain ⟨b2, f2, g2⟩ := oneLine_l1 [o1, o2] 2 1 o2 h2 true (fun _ => e2) o2.size 0 (by omega) (by intro c hc; simp at hc)
  have e1 : Ev (fun k => laws_prOneLine.l0 k [o1, o2] 2 (wrap64 (0 + 1))) b2 := f2.step (fun k => by
    show laws_prOneLine.l0 (k + 1) [o1, o2] 2 (wrap64 (0 + 1)) = _
    rw [wA, laws_prOneLine.l0, if_pos (by omega), if_pos (by omega), if_pos (by simp)]
    rfl)
  obtain ⟨b1, f1, g1⟩ := oneLine_l1 [o1, o2] 2 0 o1 h1 b2 (fun _ => e1) o1.size 0 (by omega) (by intro c hc; simp at hc)
  refine ⟨b1, ?_, fun h => ⟨(g1 h).1, (g2 (g1 h).2).1⟩⟩
  refine (f1.step (f := fun k => laws_prOneLine.l0 k [o1, o2] 2 0) (fun k => ?_)).eq (fun k => ?_)
  · show laws_prOneLine.l0 (k + 1) [o1, o2] 2 0 = _
    rw [laws_prOneLine.l0, if_pos (by omega), if_pos (by omega), if_pos (by simp)]
    rfl
  · rw [laws_prOneLine.f, Option.bind_some]
    rfl
end Go.Proofs.Ytdcigjpgagimdaa.M
