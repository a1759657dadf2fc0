-- Written by a program of this work (wip/patch_print.py over the kit's printer) for this claim: each Go function as a Lean function, and that the Go code comes to its answers.
import Derived.Test.YtdcigjpgagimdaaMx0
namespace Go.Proofs.Ytdcigjpgagimdaa.M
open Go.RowKit Go.Proofs.YtdcigjpgagimdaaW.PrintWords Go.Proofs.YtdcigjpgagimdaaW.PrintLast Go.Proofs.YtdcigjpgagimdaaW.PrintMore
attribute [local go_sem] max2_int min2_int max_two min_two max_three min_three max_four min_four   -- for this text's walks alone
set_option linter.unusedVariables false
set_option linter.unusedSimpArgs false

/-! ### spec_shortOf: function 15 -/
def spec_shortOf.f (a0 : Int) : Option (Int × Bool) := if a0 = 8 then (some (98, true)) else (if a0 = 12 then (some (102, true)) else (if a0 = 10 then (some (110, true)) else (if a0 = 13 then (some (114, true)) else (if a0 = 9 then (some (116, true)) else (if a0 = 34 then (some (a0, true)) else (if a0 = 92 then (some (a0, true)) else (if a0 = 47 then (some (a0, true)) else (some (0, false)))))))))
set_option maxHeartbeats 8000000 in
set_option maxRecDepth 100000 in
theorem spec_shortOf.calls (a0 : Int) (r1 : Int) (r2 : Bool) (w : World) (h : spec_shortOf.f a0 = some (r1, r2)) :
    Calls Try.prog 15 #[.int .u8 a0] w fun e w' => e = .returned (.tuple #[.int .u8 r1, .bool r2]) ∧ Drawn0 w w' := by
  have H : (if a0 = 8 then (some (98, true)) else (if a0 = 12 then (some (102, true)) else (if a0 = 10 then (some (110, true)) else (if a0 = 13 then (some (114, true)) else (if a0 = 9 then (some (116, true)) else (if a0 = 34 then (some (a0, true)) else (if a0 = 92 then (some (a0, true)) else (if a0 = 47 then (some (a0, true)) else (some (0, false)))))))))) = some (r1, r2) := h
  clear h
  by_cases c2 : a0 = 8
  · rw [if_pos c2] at H
    have c2b0 : (a0 == 8) = true := beq_iff_eq.mpr c2
    have c2b1 : (a0 != 8) = false := bne_eq_false_iff_eq.mpr c2
    clear c2
    as_aux_lemma =>
      simp only [Option.some.injEq, Prod.mk.injEq] at H
      obtain ⟨rfl, rfl⟩ := H
      go_enter Try.func15, Try.ntmps15
      go_wp2
      go_ret2
      exact ⟨by first | rfl | (simp; done) | (simp [*]; done), by repeat (first | exact Drawn0.refl _ | apply Drawn0.step)⟩
  · rw [if_neg c2] at H
    have c2b0 : (a0 == 8) = false := beq_eq_false_iff_ne.mpr c2
    have c2b1 : (a0 != 8) = true := bne_iff_ne.mpr c2
    by_cases c3 : a0 = 12
    · rw [if_pos c3] at H
      have c3b0 : (a0 == 12) = true := beq_iff_eq.mpr c3
      have c3b1 : (a0 != 12) = false := bne_eq_false_iff_eq.mpr c3
      clear c3
      as_aux_lemma =>
        simp only [Option.some.injEq, Prod.mk.injEq] at H
        obtain ⟨rfl, rfl⟩ := H
        go_enter Try.func15, Try.ntmps15
        go_wp2
        go_ret2
        exact ⟨by first | rfl | (simp; done) | (simp [*]; done), by repeat (first | exact Drawn0.refl _ | apply Drawn0.step)⟩
    · rw [if_neg c3] at H
      have c3b0 : (a0 == 12) = false := beq_eq_false_iff_ne.mpr c3
      have c3b1 : (a0 != 12) = true := bne_iff_ne.mpr c3
      by_cases c4 : a0 = 10
      · rw [if_pos c4] at H
        have c4b0 : (a0 == 10) = true := beq_iff_eq.mpr c4
        have c4b1 : (a0 != 10) = false := bne_eq_false_iff_eq.mpr c4
        clear c4
        as_aux_lemma =>
          simp only [Option.some.injEq, Prod.mk.injEq] at H
          obtain ⟨rfl, rfl⟩ := H
          go_enter Try.func15, Try.ntmps15
          go_wp2
          go_ret2
          exact ⟨by first | rfl | (simp; done) | (simp [*]; done), by repeat (first | exact Drawn0.refl _ | apply Drawn0.step)⟩
      · rw [if_neg c4] at H
        have c4b0 : (a0 == 10) = false := beq_eq_false_iff_ne.mpr c4
        have c4b1 : (a0 != 10) = true := bne_iff_ne.mpr c4
        by_cases c5 : a0 = 13
        · rw [if_pos c5] at H
          have c5b0 : (a0 == 13) = true := beq_iff_eq.mpr c5
          have c5b1 : (a0 != 13) = false := bne_eq_false_iff_eq.mpr c5
          clear c5
          as_aux_lemma =>
            simp only [Option.some.injEq, Prod.mk.injEq] at H
            obtain ⟨rfl, rfl⟩ := H
            go_enter Try.func15, Try.ntmps15
            go_wp2
            go_ret2
            exact ⟨by first | rfl | (simp; done) | (simp [*]; done), by repeat (first | exact Drawn0.refl _ | apply Drawn0.step)⟩
        · rw [if_neg c5] at H
          have c5b0 : (a0 == 13) = false := beq_eq_false_iff_ne.mpr c5
          have c5b1 : (a0 != 13) = true := bne_iff_ne.mpr c5
          by_cases c6 : a0 = 9
          · rw [if_pos c6] at H
            have c6b0 : (a0 == 9) = true := beq_iff_eq.mpr c6
            have c6b1 : (a0 != 9) = false := bne_eq_false_iff_eq.mpr c6
            clear c6
            as_aux_lemma =>
              simp only [Option.some.injEq, Prod.mk.injEq] at H
              obtain ⟨rfl, rfl⟩ := H
              go_enter Try.func15, Try.ntmps15
              go_wp2
              go_ret2
              exact ⟨by first | rfl | (simp; done) | (simp [*]; done), by repeat (first | exact Drawn0.refl _ | apply Drawn0.step)⟩
          · rw [if_neg c6] at H
            have c6b0 : (a0 == 9) = false := beq_eq_false_iff_ne.mpr c6
            have c6b1 : (a0 != 9) = true := bne_iff_ne.mpr c6
            by_cases c7 : a0 = 34
            · rw [if_pos c7] at H
              have c7b0 : (a0 == 34) = true := beq_iff_eq.mpr c7
              have c7b1 : (a0 != 34) = false := bne_eq_false_iff_eq.mpr c7
              clear c7
              as_aux_lemma =>
                simp only [Option.some.injEq, Prod.mk.injEq] at H
                obtain ⟨rfl, rfl⟩ := H
                go_enter Try.func15, Try.ntmps15
                go_wp2
                go_ret2
                exact ⟨by first | rfl | (simp; done) | (simp [*]; done), by repeat (first | exact Drawn0.refl _ | apply Drawn0.step)⟩
            · rw [if_neg c7] at H
              have c7b0 : (a0 == 34) = false := beq_eq_false_iff_ne.mpr c7
              have c7b1 : (a0 != 34) = true := bne_iff_ne.mpr c7
              by_cases c8 : a0 = 92
              · rw [if_pos c8] at H
                have c8b0 : (a0 == 92) = true := beq_iff_eq.mpr c8
                have c8b1 : (a0 != 92) = false := bne_eq_false_iff_eq.mpr c8
                clear c8
                as_aux_lemma =>
                  simp only [Option.some.injEq, Prod.mk.injEq] at H
                  obtain ⟨rfl, rfl⟩ := H
                  go_enter Try.func15, Try.ntmps15
                  go_wp2
                  go_ret2
                  exact ⟨by first | rfl | (simp; done) | (simp [*]; done), by repeat (first | exact Drawn0.refl _ | apply Drawn0.step)⟩
              · rw [if_neg c8] at H
                have c8b0 : (a0 == 92) = false := beq_eq_false_iff_ne.mpr c8
                have c8b1 : (a0 != 92) = true := bne_iff_ne.mpr c8
                by_cases c9 : a0 = 47
                · rw [if_pos c9] at H
                  have c9b0 : (a0 == 47) = true := beq_iff_eq.mpr c9
                  have c9b1 : (a0 != 47) = false := bne_eq_false_iff_eq.mpr c9
                  clear c9
                  as_aux_lemma =>
                    simp only [Option.some.injEq, Prod.mk.injEq] at H
                    obtain ⟨rfl, rfl⟩ := H
                    go_enter Try.func15, Try.ntmps15
                    go_wp2
                    go_ret2
                    exact ⟨by first | rfl | (simp; done) | (simp [*]; done), by repeat (first | exact Drawn0.refl _ | apply Drawn0.step)⟩
                · rw [if_neg c9] at H
                  have c9b0 : (a0 == 47) = false := beq_eq_false_iff_ne.mpr c9
                  have c9b1 : (a0 != 47) = true := bne_iff_ne.mpr c9
                  as_aux_lemma =>
                    simp only [Option.some.injEq, Prod.mk.injEq] at H
                    obtain ⟨rfl, rfl⟩ := H
                    go_enter Try.func15, Try.ntmps15
                    go_wp2
                    go_ret2
                    exact ⟨by first | rfl | (simp; done) | (simp [*]; done), by repeat (first | exact Drawn0.refl _ | apply Drawn0.step)⟩

/-! ### spec_digitOf: function 16 -/
def spec_digitOf.f (a0 : Int) (a1 : Bool) : Option (Int) := if a0 < 10 then (some ((wrap64 (48 + a0)) % 256)) else (if a1 = true then (some ((wrap64 ((wrap64 (65 + a0)) - 10)) % 256)) else (some ((wrap64 ((wrap64 (97 + a0)) - 10)) % 256)))
set_option maxHeartbeats 8000000 in
set_option maxRecDepth 100000 in
theorem spec_digitOf.calls (a0 : Int) (a1 : Bool) (r : Int) (w : World) (h : spec_digitOf.f a0 a1 = some r) :
    Calls Try.prog 16 #[.int .i64 a0, .bool a1] w fun e w' => e = .returned (.int .u8 r) ∧ Drawn0 w w' := by
  have H : (if a0 < 10 then (some ((wrap64 (48 + a0)) % 256)) else (if a1 = true then (some ((wrap64 ((wrap64 (65 + a0)) - 10)) % 256)) else (some ((wrap64 ((wrap64 (97 + a0)) - 10)) % 256)))) = some r := h
  clear h
  by_cases c3 : a0 < 10
  · rw [if_pos c3] at H
    have c3b0 : decide (a0 < 10) = true := decide_eq_true c3
    clear c3
    as_aux_lemma =>
      obtain rfl := Option.some.inj H
      go_enter Try.func16, Try.ntmps16
      go_wp2
      go_ret
      exact ⟨by first | rfl | (simp; done) | (simp [*]; done), by repeat (first | exact Drawn0.refl _ | apply Drawn0.step)⟩
  · rw [if_neg c3] at H
    have c3b0 : decide (a0 < 10) = false := decide_eq_false c3
    clear c3
    by_cases c4 : a1 = true
    · subst c4
      have H1 : (some ((wrap64 ((wrap64 (65 + a0)) - 10)) % 256)) = some r := by rw [if_pos rfl] at H; exact H
      clear H
      have H := H1
      clear H1
      as_aux_lemma =>
        obtain rfl := Option.some.inj H
        go_enter Try.func16, Try.ntmps16
        go_wp2
        go_ret
        exact ⟨by first | rfl | (simp; done) | (simp [*]; done), by repeat (first | exact Drawn0.refl _ | apply Drawn0.step)⟩
    · replace c4 := Bool.eq_false_iff.mpr c4
      subst c4
      have H1 : (some ((wrap64 ((wrap64 (97 + a0)) - 10)) % 256)) = some r := by rw [if_neg (show ¬ (false = true) by decide)] at H; exact H
      clear H
      have H := H1
      clear H1
      as_aux_lemma =>
        obtain rfl := Option.some.inj H
        go_enter Try.func16, Try.ntmps16
        go_wp2
        go_ret
        exact ⟨by first | rfl | (simp; done) | (simp [*]; done), by repeat (first | exact Drawn0.refl _ | apply Drawn0.step)⟩

end Go.Proofs.Ytdcigjpgagimdaa.M
