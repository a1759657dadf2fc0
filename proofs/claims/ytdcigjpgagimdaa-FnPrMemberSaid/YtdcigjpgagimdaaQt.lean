/-
Quote's text is a string of JSON; UTF8 ends on every text; what prLater gives back of a text with a line feed at its end. About the Lean functions that the walks come to; no program in sight.
-/
import Derived.Test.YtdcigjpgagimdaaRng
import Derived.Test.YtdcigjpgagimdaaMx6
import Derived.Test.YtdcigjpgagimdaaMx13
import Derived.Lib.Strings
set_option linter.unusedVariables false
set_option linter.unusedSimpArgs false
namespace Tx

/-- Escapes are closed in what has been read; what comes behind begins anew. -/
theorem EscB.app : ∀ (a : List Int) (b : Bool) (c : List Int), EscB b a → EscB false c → EscB b (a ++ c)
  | [], b, c, h, hc => by
    have h : b = false := h
    subst h
    exact hc
  | x :: a, b, c, h, hc => by
    rw [EscB] at h
    rw [List.cons_append, EscB]
    by_cases h1 : x = 92
    · rw [if_pos h1] at h ⊢
      exact EscB.app a _ c h hc
    · rw [if_neg h1] at h ⊢
      by_cases h2 : x = 34
      · rw [if_pos h2] at h ⊢
        exact ⟨h.1, EscB.app a _ c h.2 hc⟩
      · rw [if_neg h2] at h ⊢
        exact EscB.app a _ c h hc

theorem EscB.two (x : Int) : EscB false [92, x] := by
  rw [EscB, if_pos rfl, EscB]
  by_cases h1 : x = 92
  · rw [if_pos h1]; rfl
  · rw [if_neg h1]
    by_cases h2 : x = 34
    · rw [if_pos h2]; exact ⟨rfl, rfl⟩
    · rw [if_neg h2]; rfl

theorem EscB.one {x : Int} (h1 : x ≠ 92) (h2 : x ≠ 34) : EscB false [x] := by
  rw [EscB, if_neg h1, if_neg h2]; rfl

theorem NoNl.app {a b : List Int} (ha : NoNl a) (hb : NoNl b) : NoNl (a ++ b) := by
  intro z hz
  rcases List.mem_append.mp hz with h | h
  · exact ha z h
  · exact hb z h

/-- What Quote has written by a place: the mark, and a closed inside without a line feed. -/
structure QBody (l : List Int) : Prop where
  form : ∃ b, l = 34 :: b ∧ EscB false b
  nonl : NoNl l
  rng : Rng l

theorem QBody.start : QBody [34] := ⟨⟨[], rfl, rfl⟩, by intro c hc; simp at hc; omega, by intro c hc; simp at hc; omega⟩

theorem QBody.app {l y : List Int} (h : QBody l) (he : EscB false y) (hn : NoNl y) (hr : Rng y) : QBody (l ++ y) := by
  obtain ⟨b, rfl, hb⟩ := h.form
  exact ⟨⟨b ++ y, rfl, EscB.app b false y hb he⟩, h.nonl.app hn, h.rng.app hr⟩

theorem QBody.tok {l : List Int} (h : QBody l) : StrTok (l ++ [34]) := by
  obtain ⟨b, hl, hb⟩ := h.form
  exact ⟨⟨b, by rw [hl]; rfl, hb⟩, h.nonl.app (by intro c hc; simp at hc; omega)⟩
end Tx

namespace Go.Proofs.Ytdcigjpgagimdaa.M
open Go Go.RowKit Tx Go.Proofs.YtdcigjpgagimdaaW.PrintWords

theorem bt_rng (t : ByteArray) (i : Int) : 0 ≤ bt t i ∧ bt t i < 256 := by
  rw [← rd_bytesOf]
  show 0 ≤ (bytesOf t).getD i.toNat 0 ∧ (bytesOf t).getD i.toNat 0 < 256
  by_cases h : i.toNat < (bytesOf t).length
  · have := bytesOf_rng t ((bytesOf t).getD i.toNat 0) (by simp [List.getD, h])
    exact this
  · have h2 : (bytesOf t)[i.toNat]? = none := List.getElem?_eq_none (by omega)
    simp [List.getD, h2]

theorem shortOf_ev (c : Int) : ∃ l b, spec_shortOf.f c = some (l, b) ∧ (b = true → (l = 98 ∨ l = 102 ∨ l = 110 ∨ l = 114 ∨ l = 116 ∨ l = 34 ∨ l = 92 ∨ l = 47)) ∧ (b = false → c ≠ 34 ∧ c ≠ 92 ∧ c ≠ 10) := by
  unfold spec_shortOf.f
  by_cases h1 : c = 8
  · exact ⟨98, true, by rw [if_pos h1], by simp, by simp⟩
  by_cases h2 : c = 12
  · exact ⟨102, true, by rw [if_neg h1, if_pos h2], by simp, by simp⟩
  by_cases h3 : c = 10
  · exact ⟨110, true, by rw [if_neg h1, if_neg h2, if_pos h3], by simp, by simp⟩
  by_cases h4 : c = 13
  · exact ⟨114, true, by rw [if_neg h1, if_neg h2, if_neg h3, if_pos h4], by simp, by simp⟩
  by_cases h5 : c = 9
  · exact ⟨116, true, by rw [if_neg h1, if_neg h2, if_neg h3, if_neg h4, if_pos h5], by simp, by simp⟩
  by_cases h6 : c = 34
  · exact ⟨c, true, by rw [if_neg h1, if_neg h2, if_neg h3, if_neg h4, if_neg h5, if_pos h6], fun _ => by omega, by simp⟩
  by_cases h7 : c = 92
  · exact ⟨c, true, by rw [if_neg h1, if_neg h2, if_neg h3, if_neg h4, if_neg h5, if_neg h6, if_pos h7], fun _ => by omega, by simp⟩
  by_cases h8 : c = 47
  · exact ⟨c, true, by rw [if_neg h1, if_neg h2, if_neg h3, if_neg h4, if_neg h5, if_neg h6, if_neg h7, if_pos h8], fun _ => by omega, by simp⟩
  · exact ⟨0, false, by rw [if_neg h1, if_neg h2, if_neg h3, if_neg h4, if_neg h5, if_neg h6, if_neg h7, if_neg h8], by simp, fun _ => ⟨h6, h7, h3⟩⟩

theorem digitOf_ev (d : Int) (h0 : 0 ≤ d) (h1 : d < 16) : ∃ z, spec_digitOf.f d false = some z ∧ 48 ≤ z ∧ z < 103 ∧ z ≠ 92 := by
  unfold spec_digitOf.f
  by_cases h : d < 10
  · exact ⟨_, by rw [if_pos h], by unfold wrap64; omega, by unfold wrap64; omega, by unfold wrap64; omega⟩
  · exact ⟨_, by rw [if_neg h, if_neg (by simp)], by unfold wrap64; omega, by unfold wrap64; omega, by unfold wrap64; omega⟩

theorem bn47 (z : Int) : ((z != 47) = true) ∨ ((z != 47) = false ∧ z = 47) := by
  by_cases h : z = 47
  · exact .inr ⟨bne_eq_false_iff_eq.mpr h, h⟩
  · exact .inl (bne_iff_ne.mpr h)

theorem quote_l (s : ByteArray) (hs : s.size ≤ 4096) : ∀ (m i : Nat) (l : List Int), i + m = s.size → QBody l → l.length ≤ 1 + 6 * i →
    ∃ q, Ev (fun k => spec_Quote.l0 k s l (i : Int)) q ∧ StrTok (bytesOf q) ∧ q.size ≤ 2 + 6 * s.size := by
  intro m
  induction m with
  | zero =>
    intro i l hi hq hl
    refine ⟨strOfNums (l ++ [34]), Ev.step (g := fun _ => some (strOfNums (l ++ [34]))) Ev.some (fun k => ?_), ?_, ?_⟩
    · rw [spec_Quote.l0, if_neg (by omega), if_pos (by omega)]
    · rw [bytes_back (hq.rng.app (Rng.cons (by decide) Rng.nil))]
      exact hq.tok
    · rw [← bytesOf_length, bytes_back (hq.rng.app (Rng.cons (by decide) Rng.nil)), List.length_append, List.length_singleton]
      omega
  | succ m ih =>
    intro i l hi hq hl
    have hb := bt_rng s (i : Int)
    have hw : wrap64 ((i : Int) + 1) = ((i + 1 : Nat) : Int) := by unfold wrap64; omega
    obtain ⟨c, hc⟩ : ∃ c, c = bt s (i : Int) := ⟨_, rfl⟩
    rw [← hc] at hb
    obtain ⟨x, b, hx, hx1, hx2⟩ := shortOf_ev c
    have plain : c ≠ 34 → c ≠ 92 → c ≠ 10 → ∃ q, Ev (fun k => spec_Quote.j1 k s l (i : Int) c x false) q ∧ StrTok (bytesOf q) ∧ q.size ≤ 2 + 6 * s.size := by
      intro h34 h92 h10
      by_cases h32 : c < 32
      · have em : Int.tmod c 16 = c % 16 := Int.tmod_eq_emod_of_nonneg hb.1
        have ed : Int.tdiv c 16 = c / 16 := Int.tdiv_eq_ediv_of_nonneg hb.1
        obtain ⟨z, hz, hz0, hz1, hz2⟩ := digitOf_ev (wrap64 (Int.tmod c 16)) (by rw [em]; unfold wrap64; omega) (by rw [em]; unfold wrap64; omega)
        have hd : 48 ≤ (48 + ((Int.tdiv c 16) % 256)) % 256 ∧ (48 + ((Int.tdiv c 16) % 256)) % 256 < 51 := by rw [ed]; omega
        obtain ⟨t, ht⟩ : ∃ t, t = (48 + ((Int.tdiv c 16) % 256)) % 256 := ⟨_, rfl⟩
        rw [← ht] at hd
        obtain ⟨q, hq1, hq2, hq3⟩ := ih (i + 1) (l ++ [92, 117, 48, 48, t, z]) (by omega) (hq.app (EscB.app [92, 117] false [48, 48, t, z] (EscB.two 117) (EscB.app [48] false _ (EscB.one (by decide) (by decide)) (EscB.app [48] false _ (EscB.one (by decide) (by decide)) (EscB.app [t] false _ (EscB.one (by omega) (by omega)) (EscB.one (by omega) (by omega)))))) (by intro y hy; simp at hy; omega) (by intro y hy; simp at hy; omega)) (by simp; omega)
        refine ⟨q, hq1.step (fun k => ?_), hq2, hq3⟩
        rw [spec_Quote.j1, if_neg (by simp), if_pos h32, hz, Option.bind_some, Option.bind_some, if_pos (by simp; omega), hw, ← ht]
      · obtain ⟨q, hq1, hq2, hq3⟩ := ih (i + 1) (l ++ [c]) (by omega) (hq.app (EscB.one h92 h34) (by intro y hy; simp at hy; omega) (by intro y hy; simp at hy; omega)) (by simp; omega)
        refine ⟨q, hq1.step (fun k => ?_), hq2, hq3⟩
        rw [spec_Quote.j1, if_neg (by simp), if_neg h32, if_pos (by omega), hw]
    cases b with
    | false =>
      obtain ⟨h34, h92, h10⟩ := hx2 rfl
      obtain ⟨q, hq1, hq2, hq3⟩ := plain h34 h92 h10
      refine ⟨q, hq1.step (fun k => ?_), hq2, hq3⟩
      rw [spec_Quote.l0, if_pos (by omega), if_pos (by omega), ← hc, hx, Option.bind_some, if_neg (by simp)]
    | true =>
      rcases bn47 c with h47 | ⟨h47, h47e⟩
      · have hxx := hx1 rfl
        obtain ⟨q, hq1, hq2, hq3⟩ := ih (i + 1) (l ++ [92, x]) (by omega) (hq.app (EscB.two x) (by intro y hy; simp at hy; omega) (by intro y hy; simp at hy; omega)) (by simp; omega)
        have e1 : Ev (fun k => spec_Quote.j1 k s l (i : Int) c x true) q := hq1.step (fun k => by
          rw [spec_Quote.j1, if_pos rfl, Option.bind_some, if_pos (by simp; omega), hw])
        refine ⟨q, e1.step (fun k => ?_), hq2, hq3⟩
        rw [spec_Quote.l0, if_pos (by omega), if_pos (by omega), ← hc, hx, Option.bind_some, if_pos rfl, h47]
      · obtain ⟨q, hq1, hq2, hq3⟩ := plain (by omega) (by omega) (by omega)
        refine ⟨q, hq1.step (fun k => ?_), hq2, hq3⟩
        rw [spec_Quote.l0, if_pos (by omega), if_pos (by omega), ← hc, hx, Option.bind_some, if_pos rfl, h47]

theorem quote_ev (s : ByteArray) (hs : s.size ≤ 4096) : ∃ q, Ev (fun k => spec_Quote.f k s) q ∧ StrTok (bytesOf q) ∧ q.size ≤ 2 + 6 * s.size :=
  quote_l s hs s.size 0 [34] (by omega) QBody.start (by simp)

/-- A character's size is from 1 to 4, and it is one more than what it has behind its first byte. -/
theorem char_l (s : ByteArray) (hs : s.size ≤ 4096) (i : Nat) (hi : i < s.size) (n : Nat) (hn : n ≤ 3) (hin : i + n < s.size) (lo : Int) : ∀ (m j : Nat) (c : Int), j + m = n + 1 → 1 ≤ j →
    ∃ (r1 r2 : Int) (b : Bool), Ev (fun k => spec_Character.l0 k s (i : Int) c (n : Int) lo (j : Int)) (r1, r2, b) ∧ (b = true → r2 = ((n + 1 : Nat) : Int)) := by
  intro m
  induction m with
  | zero =>
    intro j c hj h1
    have no : ∀ (r : Int × Int × Bool), (∀ k, spec_Character.l0 (k + 1) s (i : Int) c (n : Int) lo (j : Int) = some r) → Ev (fun k => spec_Character.l0 k s (i : Int) c (n : Int) lo (j : Int)) r := fun r h => Ev.step (g := fun _ => some r) Ev.some h
    by_cases ha : c < lo
    · exact ⟨65533, 1, false, no _ (fun k => by rw [spec_Character.l0, if_neg (by omega), if_pos ha]), by simp⟩
    by_cases hb : c > 1114111
    · exact ⟨65533, 1, false, no _ (fun k => by rw [spec_Character.l0, if_neg (by omega), if_neg ha, if_pos hb]), by simp⟩
    have hh : ∃ b, spec_high.f c = some b := by unfold spec_high.f; repeat (first | exact ⟨_, rfl⟩ | split)
    have hl : ∃ b, spec_low.f c = some b := by unfold spec_low.f; repeat (first | exact ⟨_, rfl⟩ | split)
    obtain ⟨b1, hb1⟩ := hh
    obtain ⟨b2, hb2⟩ := hl
    cases b1 with
    | true => exact ⟨65533, 1, false, no _ (fun k => by rw [spec_Character.l0, if_neg (by omega), if_neg ha, if_neg hb, hb1, Option.bind_some, if_pos rfl]), by simp⟩
    | false =>
      cases b2 with
      | true => exact ⟨65533, 1, false, no _ (fun k => by rw [spec_Character.l0, if_neg (by omega), if_neg ha, if_neg hb, hb1, Option.bind_some, if_neg (by simp), hb2, Option.bind_some, if_pos rfl]), by simp⟩
      | false => exact ⟨c, wrap64 ((n : Int) + 1), true, no _ (fun k => by rw [spec_Character.l0, if_neg (by omega), if_neg ha, if_neg hb, hb1, Option.bind_some, if_neg (by simp), hb2, Option.bind_some, if_neg (by simp)]), fun _ => by unfold wrap64; omega⟩
  | succ m ih =>
    intro j c hj h1
    have hw : wrap64 ((i : Int) + (j : Int)) = ((i + j : Nat) : Int) := by unfold wrap64; omega
    have hw1 : wrap64 ((j : Int) + 1) = ((j + 1 : Nat) : Int) := by unfold wrap64; omega
    have hb := bt_rng s ((i + j : Nat) : Int)
    have hwb : wrap64 (bt s ((i + j : Nat) : Int)) = bt s ((i + j : Nat) : Int) := by unfold wrap64; omega
    have no : ∀ (r : Int × Int × Bool), (∀ k, spec_Character.l0 (k + 1) s (i : Int) c (n : Int) lo (j : Int) = some r) → Ev (fun k => spec_Character.l0 k s (i : Int) c (n : Int) lo (j : Int)) r := fun r h => Ev.step (g := fun _ => some r) Ev.some h
    by_cases ha : bt s ((i + j : Nat) : Int) < 128
    · exact ⟨65533, 1, false, no _ (fun k => by rw [spec_Character.l0, if_pos (by omega), hw, if_pos (by omega), if_pos (by omega), hwb, if_pos ha]), by simp⟩
    by_cases hbb : bt s ((i + j : Nat) : Int) > 191
    · exact ⟨65533, 1, false, no _ (fun k => by rw [spec_Character.l0, if_pos (by omega), hw, if_pos (by omega), if_pos (by omega), hwb, if_neg ha, if_pos hbb]), by simp⟩
    obtain ⟨r1, r2, b, he, hr⟩ := ih (j + 1) (wrap64 ((wrap64 ((wrap64 (c * 64)) + bt s ((i + j : Nat) : Int))) - 128)) (by omega) (by omega)
    refine ⟨r1, r2, b, he.step (fun k => ?_), hr⟩
    rw [spec_Character.l0, if_pos (by omega), hw, if_pos (by omega), if_pos (by omega), hwb, if_neg ha, if_neg hbb, hw1]

theorem char_j2 (s : ByteArray) (hs : s.size ≤ 4096) (i : Nat) (hi : i < s.size) (n : Nat) (hn : n ≤ 3) (lo c : Int) : ∃ (r1 r2 : Int) (b : Bool), Ev (fun k => spec_Character.j2 k s (i : Int) c (n : Int) lo) (r1, r2, b) ∧ (b = true → 1 ≤ r2 ∧ (i : Int) + r2 ≤ s.size) := by
  have hw : wrap64 ((s.size : Int) - (i : Int)) = (s.size : Int) - (i : Int) := by unfold wrap64; omega
  by_cases h : (s.size : Int) - (i : Int) ≤ (n : Int)
  · exact ⟨65533, 1, false, Ev.step (g := fun _ => some (65533, 1, false)) Ev.some (fun k => by rw [spec_Character.j2, hw, if_pos h]), by simp⟩
  · obtain ⟨r1, r2, b, he, hr⟩ := char_l s hs i hi n hn (by omega) lo n 1 c (by omega) (by omega)
    refine ⟨r1, r2, b, he.step (fun k => ?_), fun hb => ?_⟩
    · rw [spec_Character.j2, hw, if_neg h]
      rfl
    · have := hr hb
      omega

theorem char_ev (s : ByteArray) (hs : s.size ≤ 4096) (i : Nat) (hi : i < s.size) : ∃ (r1 r2 : Int) (b : Bool), Ev (fun k => spec_Character.f k s (i : Int)) (r1, r2, b) ∧ (b = true → 1 ≤ r2 ∧ (i : Int) + r2 ≤ s.size) := by
  have hb := bt_rng s (i : Int)
  have hwb : wrap64 (bt s (i : Int)) = bt s (i : Int) := by unfold wrap64; omega
  obtain ⟨c, hc⟩ : ∃ c, c = bt s (i : Int) := ⟨_, rfl⟩
  rw [← hc] at hb hwb
  by_cases h1 : c < 128
  · exact ⟨c, 1, true, Ev.of (fun k => by rw [spec_Character.f, if_pos (by omega), if_pos (by omega), ← hc, hwb, if_pos h1]), fun _ => ⟨by omega, by omega⟩⟩
  -- the four kinds of first bytes
  have j1n : ∃ (r1 r2 : Int) (b : Bool), Ev (fun k => spec_Character.j1 k s (i : Int) c false) (r1, r2, b) ∧ (b = true → 1 ≤ r2 ∧ (i : Int) + r2 ≤ s.size) := by
    have no : (∀ k, spec_Character.j1 (k + 1) s (i : Int) c false = some (65533, 1, false)) → Ev (fun k => spec_Character.j1 k s (i : Int) c false) (65533, 1, false) := fun h => Ev.step (g := fun _ => some (65533, 1, false)) Ev.some h
    by_cases h240 : 240 ≤ c
    · by_cases h244 : c ≤ 244
      · obtain ⟨r1, r2, b, he, hr⟩ := char_j2 s hs i hi 3 (by omega) 65536 (wrap64 (c - 240))
        exact ⟨r1, r2, b, he.step (fun k => by rw [spec_Character.j1, if_neg (by simp), if_pos h240, if_pos h244]; rfl), hr⟩
      · exact ⟨65533, 1, false, no (fun k => by rw [spec_Character.j1, if_neg (by simp), if_pos h240, if_neg h244]), by simp⟩
    · exact ⟨65533, 1, false, no (fun k => by rw [spec_Character.j1, if_neg (by simp), if_neg h240]), by simp⟩
  have j0n : ∃ (r1 r2 : Int) (b : Bool), Ev (fun k => spec_Character.j0 k s (i : Int) c false) (r1, r2, b) ∧ (b = true → 1 ≤ r2 ∧ (i : Int) + r2 ≤ s.size) := by
    by_cases h224 : 224 ≤ c
    · by_cases h239 : c ≤ 239
      · obtain ⟨r1, r2, b, he, hr⟩ := char_j2 s hs i hi 2 (by omega) 2048 (wrap64 (c - 224))
        have e1 : Ev (fun k => spec_Character.j1 k s (i : Int) c true) (r1, r2, b) := he.step (fun k => by rw [spec_Character.j1, if_pos rfl]; rfl)
        exact ⟨r1, r2, b, e1.step (fun k => by rw [spec_Character.j0, if_neg (by simp), if_pos h224, decide_eq_true h239]), hr⟩
      · obtain ⟨r1, r2, b, he, hr⟩ := j1n
        exact ⟨r1, r2, b, he.step (fun k => by rw [spec_Character.j0, if_neg (by simp), if_pos h224, decide_eq_false h239]), hr⟩
    · obtain ⟨r1, r2, b, he, hr⟩ := j1n
      exact ⟨r1, r2, b, he.step (fun k => by rw [spec_Character.j0, if_neg (by simp), if_neg h224]), hr⟩
  by_cases h194 : 194 ≤ c
  · by_cases h223 : c ≤ 223
    · obtain ⟨r1, r2, b, he, hr⟩ := char_j2 s hs i hi 1 (by omega) 128 (wrap64 (c - 192))
      have e1 : Ev (fun k => spec_Character.j0 k s (i : Int) c true) (r1, r2, b) := he.step (fun k => by rw [spec_Character.j0, if_pos rfl]; rfl)
      exact ⟨r1, r2, b, e1.eq (fun k => by rw [spec_Character.f, if_pos (by omega), if_pos (by omega), ← hc, hwb, if_neg h1, if_pos h194, decide_eq_true h223]), hr⟩
    · obtain ⟨r1, r2, b, he, hr⟩ := j0n
      exact ⟨r1, r2, b, he.eq (fun k => by rw [spec_Character.f, if_pos (by omega), if_pos (by omega), ← hc, hwb, if_neg h1, if_pos h194, decide_eq_false h223]), hr⟩
  · obtain ⟨r1, r2, b, he, hr⟩ := j0n
    exact ⟨r1, r2, b, he.eq (fun k => by rw [spec_Character.f, if_pos (by omega), if_pos (by omega), ← hc, hwb, if_neg h1, if_neg h194]), hr⟩

theorem utf8_l (s : ByteArray) (hs : s.size ≤ 4096) : ∀ (m i : Nat), s.size ≤ i + m → i ≤ s.size → ∃ b, Ev (fun k => spec_UTF8.l0 k s (i : Int)) b := by
  intro m
  induction m with
  | zero =>
    intro i hi hi2
    exact ⟨true, Ev.step (g := fun _ => some true) Ev.some (fun k => by rw [spec_UTF8.l0, if_neg (by omega)])⟩
  | succ m ih =>
    intro i hi hi2
    by_cases hlt : i < s.size
    · obtain ⟨r1, r2, b, he, hr⟩ := char_ev s hs i hlt
      cases b with
      | false =>
        refine ⟨false, Ev.step (f := fun k => spec_UTF8.l0 k s (i : Int)) (g := fun k => (spec_Character.f k s (i : Int)).bind fun bt284 => (if bt284.2.2 = true then (spec_UTF8.l0 k s (wrap64 ((i : Int) + bt284.2.1))) else (some false))) (Ev.bind he ?_) (fun k => ?_)⟩
        · exact Ev.of (fun k => by rw [if_neg (by simp)])
        · rw [spec_UTF8.l0, if_pos (by omega)]
      | true =>
        have h := hr rfl
        obtain ⟨n, hn⟩ : ∃ n : Nat, r2 = (n : Int) := ⟨r2.toNat, by omega⟩
        subst hn
        obtain ⟨b, hb⟩ := ih (i + n) (by omega) (by omega)
        have hw : wrap64 ((i : Int) + (n : Int)) = ((i + n : Nat) : Int) := by unfold wrap64; omega
        refine ⟨b, Ev.step (f := fun k => spec_UTF8.l0 k s (i : Int)) (g := fun k => (spec_Character.f k s (i : Int)).bind fun bt284 => (if bt284.2.2 = true then (spec_UTF8.l0 k s (wrap64 ((i : Int) + bt284.2.1))) else (some false))) (Ev.bind he ?_) (fun k => ?_)⟩
        · refine hb.eq (fun k => ?_)
          show (if (true = true) then spec_UTF8.l0 k s (wrap64 ((i : Int) + (n : Int))) else some false) = _
          rw [if_pos rfl, hw]
        · rw [spec_UTF8.l0, if_pos (by omega)]
    · exact ⟨true, Ev.step (g := fun _ => some true) Ev.some (fun k => by rw [spec_UTF8.l0, if_neg (by omega)])⟩

theorem utf8_ev (s : ByteArray) (hs : s.size ≤ 4096) : ∃ b, Ev (fun k => spec_UTF8.f k s) b := utf8_l s hs s.size 0 (by omega) (by omega)

/-- What stands in o behind a and ahead of a line feed. -/
theorem later_ev (o a m : ByteArray) (hs : o.size < 4294967296 * 4294967296 / 4) (h : bytesOf o = bytesOf a ++ (bytesOf m ++ [10])) : laws_prLater.f o a = some (m, true) := by
  have hl : o.size = a.size + m.size + 1 := by
    have := congrArg List.length h
    simp only [List.length_append, bytesOf_length, List.length_singleton] at this
    omega
  have hw : wrap64 ((o.size : Int) - 1) = ((a.size + m.size : Nat) : Int) := by unfold wrap64; omega
  have hx : ∀ i j : Nat, bytesOf (o.extract i j) = ((bytesOf o).drop i).take (j - i) := fun i j => by
    unfold bytesOf
    rw [← List.map_drop, ← List.map_take, Lib.extract_data]
  have h1 : o.extract 0 a.size = a := bytesOf_inj (by
    rw [hx, h, List.drop_zero, Nat.sub_zero]
    exact List.take_left' (bytesOf_length a))
  have h2 : o.extract a.size (a.size + m.size) = m := bytesOf_inj (by
    rw [hx, h, Nat.add_sub_cancel_left, List.drop_left' (bytesOf_length a)]
    exact List.take_left' (bytesOf_length m))
  have h3 : bt o ((a.size + m.size : Nat) : Int) = 10 := by
    rw [bt_l o (a.size + m.size) (by omega), h, ← List.append_assoc]
    have : (bytesOf a ++ bytesOf m).length = a.size + m.size := by rw [List.length_append, bytesOf_length, bytesOf_length]
    simp [List.getD, ← this]
  unfold laws_prLater.f
  rw [if_neg (by omega), if_pos (by omega), if_pos (by omega), hw, if_pos (by rw [h1]), if_pos (by omega), if_pos (by omega), if_pos h3, if_pos (by omega), if_pos (by omega), Int.toNat_natCast, h2]
end Go.Proofs.Ytdcigjpgagimdaa.M
