-- Written by a program of this work (wip/patch_print.py over the kit's printer) for this claim: each Go function as a Lean function, and that the Go code comes to its answers.
import Derived.Test.YtdcigjpgagimdaaMx0
namespace Go.Proofs.Ytdcigjpgagimdaa.M
open Go.RowKit Go.Proofs.YtdcigjpgagimdaaW.PrintWords Go.Proofs.YtdcigjpgagimdaaW.PrintLast Go.Proofs.YtdcigjpgagimdaaW.PrintMore
attribute [local go_sem] max2_int min2_int max_two min_two max_three min_three max_four min_four   -- for this text's walks alone
set_option linter.unusedVariables false
set_option linter.unusedSimpArgs false

/-! ### pretty_appendPrettyNumber: function 31 -/
def pretty_appendPrettyNumber.l0 : Nat → List Int → List Int → Int → Int → Int → Option (List Int × Int × Int × Bool)
  | 0, _, _, _, _, _ => none
  | k + 1, x0, x1, x2, x3, x12 => if x2 < (x1.length : Int) then (if 0 ≤ x2 then (if (rd x1 x2) ≤ 32 then (if 0 ≤ x12 then (if x12 ≤ x2 then (if x2 ≤ (x1.length : Int) then ((some ((x1.take (x2 : Int).toNat).drop (x12 : Int).toNat : List Int)).bind fun y317 => (if x0.length + y317.length < 140737488355328 then (some ((x0 ++ y317), x2, x3, true)) else (none))) else (none)) else (none)) else (none)) else (if (rd x1 x2) = 44 then (if 0 ≤ x12 then (if x12 ≤ x2 then (if x2 ≤ (x1.length : Int) then ((some ((x1.take (x2 : Int).toNat).drop (x12 : Int).toNat : List Int)).bind fun y325 => (if x0.length + y325.length < 140737488355328 then (some ((x0 ++ y325), x2, x3, true)) else (none))) else (none)) else (none)) else (none)) else (if (rd x1 x2) = 58 then (if 0 ≤ x12 then (if x12 ≤ x2 then (if x2 ≤ (x1.length : Int) then ((some ((x1.take (x2 : Int).toNat).drop (x12 : Int).toNat : List Int)).bind fun y333 => (if x0.length + y333.length < 140737488355328 then (some ((x0 ++ y333), x2, x3, true)) else (none))) else (none)) else (none)) else (none)) else (if (rd x1 x2) = 93 then (if 0 ≤ x12 then (if x12 ≤ x2 then (if x2 ≤ (x1.length : Int) then ((some ((x1.take (x2 : Int).toNat).drop (x12 : Int).toNat : List Int)).bind fun y341 => (if x0.length + y341.length < 140737488355328 then (some ((x0 ++ y341), x2, x3, true)) else (none))) else (none)) else (none)) else (none)) else (if (rd x1 x2) = 125 then (if 0 ≤ x12 then (if x12 ≤ x2 then (if x2 ≤ (x1.length : Int) then ((some ((x1.take (x2 : Int).toNat).drop (x12 : Int).toNat : List Int)).bind fun y349 => (if x0.length + y349.length < 140737488355328 then (some ((x0 ++ y349), x2, x3, true)) else (none))) else (none)) else (none)) else (none)) else (pretty_appendPrettyNumber.l0 k x0 x1 (wrap64 (x2 + 1)) x3 x12)))))) else (none)) else (if 0 ≤ x12 then (if x12 ≤ x2 then (if x2 ≤ (x1.length : Int) then ((some ((x1.take (x2 : Int).toNat).drop (x12 : Int).toNat : List Int)).bind fun y356 => (if x0.length + y356.length < 140737488355328 then (some ((x0 ++ y356), x2, x3, true)) else (none))) else (none)) else (none)) else (none))
def pretty_appendPrettyNumber.f (k : Nat) (l0 : List Int) (l1 : List Int) (a2 : Int) (a3 : Int) : Option (List Int × Int × Int × Bool) := pretty_appendPrettyNumber.l0 k l0 l1 (wrap64 (a2 + 1)) a3 a2
theorem pretty_appendPrettyNumber.mono_l : ∀ k, (∀ y0 y1 y2 y3 y4, LeO (pretty_appendPrettyNumber.l0 k y0 y1 y2 y3 y4) (pretty_appendPrettyNumber.l0 (k + 1) y0 y1 y2 y3 y4))
  | 0 => fun _ _ _ _ _ r h => by simp [pretty_appendPrettyNumber.l0] at h
  | k + 1 => by
    have ih0 := pretty_appendPrettyNumber.mono_l k
    · intro y0 y1 y2 y3 y4
      unfold pretty_appendPrettyNumber.l0
      repeat' first
      | (with_reducible exact ih0 _ _ _ _ _)
      | (with_reducible exact LeO.refl _)
      | (with_reducible exact LeO.none _)
      | (with_reducible refine LeO.ite ?_ ?_)
      | (with_reducible refine LeO.bind ?_ (fun _ => ?_))
      | exact ih0 _ _ _ _ _
      | exact LeO.none _
      | refine LeO.ite ?_ ?_
      | refine LeO.bind ?_ (fun _ => ?_)
theorem pretty_appendPrettyNumber.mono : ∀ a0 a1 a2 a3 k, LeO (pretty_appendPrettyNumber.f k a0 a1 a2 a3) (pretty_appendPrettyNumber.f (k + 1) a0 a1 a2 a3) := by
  intro a0 a1 a2 a3 k
  have ih0 := pretty_appendPrettyNumber.mono_l k
  unfold pretty_appendPrettyNumber.f
  repeat' first
      | (with_reducible exact ih0 _ _ _ _ _)
      | (with_reducible exact LeO.refl _)
      | (with_reducible exact LeO.none _)
      | (with_reducible refine LeO.ite ?_ ?_)
      | (with_reducible refine LeO.bind ?_ (fun _ => ?_))
      | exact ih0 _ _ _ _ _
      | exact LeO.none _
      | refine LeO.ite ?_ ?_
      | refine LeO.bind ?_ (fun _ => ?_)
set_option maxHeartbeats 8000000 in
set_option maxRecDepth 100000 in
theorem pretty_appendPrettyNumber.calls (k : Nat) (P0_ : Nat → Prop) (u9000_ : Value) (l0 : List Int) (A1 : Option Addr) (c1 : Nat) (l1 : List Int) (a2 : Int) (a3 : Int) (r1 : List Int) (r2 : Int) (r3 : Int) (r4 : Bool) (w0 w : World) (hB : Below w0.heap.size w0 w) (ho0 : Kd.R (Kd.int .u8) 5 w w0.heap.size P0_ u9000_ l0) (hr1 : ∀ W_, Kept w W_ (fun k_ => P0_ k_) → Kd.C (Kd.int .u8) W_ A1 l1.length l1) (hc1 : l1.length ≤ c1) (h : pretty_appendPrettyNumber.f k l0 l1 a2 a3 = some (r1, r2, r3, r4)) :
    Calls Try.prog 31 #[u9000_, .slice A1 l1.length c1, .int .i64 a2, .int .i64 a3] w fun e w' => ∃ v0_ : Value, e = .returned (.tuple #[v0_, .int .i64 r2, .int .i64 r3, .bool r4]) ∧ Kd.R (Kd.int .u8) 5 w' w0.heap.size (fun k_ => (P0_ k_ ∨ w.heap.size ≤ k_)) v0_ r1 ∧ Below w0.heap.size w0 w' ∧ Kept w w' (fun k_ => P0_ k_) := by
  have HO0 := Aside0.mk (show Kd.R (Kd.int .u8) 5 w w0.heap.size (fun k_ => (P0_ k_ ∨ w.heap.size ≤ k_)) u9000_ l0 from Kd.R_mono ho0 (fun k_ hk => (.inl hk)))
  have HR1 := Aside0.mk hr1
  have HC1 := Aside0.mk hc1
  clear hr1 hc1
  have HK := Aside0.mk (Kept.refl w (fun k_ => P0_ k_))
  have HW0 := Aside0.mk hB.size
  have HB := Aside0.mk hB
  clear hB
  have H : (pretty_appendPrettyNumber.l0 k l0 l1 (wrap64 (a2 + 1)) a3 a2) = some (r1, r2, r3, r4) := h
  clear h
  have H' := Aside0.mk H
  clear H
  go_enter Try.func31, Try.ntmps31
  go_wp2
  (try simp only [Act.put, List.setIfInBounds_toArray, List.set_cons_succ, List.set_cons_zero])
  go_loopg [2] k (fun kq v2 w' => ∃ (x2_1 : Int), v2 = .int .i64 x2_1 ∧ Aside0 (pretty_appendPrettyNumber.l0 kq l0 l1 x2_1 a3 a2 = some (r1, r2, r3, r4)) ∧ Aside0 (kq ≤ k) ∧ Aside0 (Kd.R (Kd.int .u8) 5 w' w0.heap.size (fun k_ => (P0_ k_ ∨ w.heap.size ≤ k_)) u9000_ l0) ∧ Aside0 (Kept w w' (fun k_ => P0_ k_)) ∧ Aside0 (Below w0.heap.size w0 w'))
  case atStart => exact ⟨(wrap64 (a2 + 1)), (by first | rfl | (simp; done) | (simp [*]; done)), H', ⟨Nat.le_refl _⟩, ⟨by (with_reducible repeat (first | apply Kd.R_alloc | apply Kd.R_drewN | apply Kd.R_drew)); exact HO0.out⟩, ⟨by repeat (first | (with_reducible first | exact HK.out | apply Kept.alloc | apply Kept.drewN | apply Kept.drew) | exact HK.out)⟩, ⟨by repeat (first | (with_reducible first | exact HB.out | apply below_alloc | apply pw_below_drewN | apply below_drew1) | exact HB.out)⟩⟩
  case round =>
    clear H'
    try clear c1
    try clear p2
    try clear c3
    obtain ⟨x2_1, rfl, HA, HK1, HO_0, HK, HB⟩ := hrel
    cases gk with
    | zero => exact absurd HA.out (by simp [pretty_appendPrettyNumber.l0])
    | succ k1 =>
      have H := HA.out
      clear HA
      simp only [pretty_appendPrettyNumber.l0] at H
      by_cases c5 : x2_1 < (l1.length : Int)
      · rw [if_pos c5] at H
        have c5b0 : decide (x2_1 < (l1.length : Int)) = true := decide_eq_true c5
        clear c5
        by_cases c6 : 0 ≤ x2_1
        · rw [if_pos c6] at H
          have c6b0 : decide (0 ≤ x2_1) = true := decide_eq_true c6
          clear c6
          by_cases c7 : (rd l1 x2_1) ≤ 32
          · rw [if_pos c7] at H
            have c7b0 : decide ((rd l1 x2_1) ≤ 32) = true := decide_eq_true c7
            clear c7
            by_cases c8 : 0 ≤ a2
            · rw [if_pos c8] at H
              have c8b0 := eq_true c8
              have c8b1 : decide (0 ≤ a2) = true := decide_eq_true c8
              clear c8
              by_cases c9 : a2 ≤ x2_1
              · rw [if_pos c9] at H
                have c9b0 := eq_true c9
                have c9b1 : decide (a2 ≤ x2_1) = true := decide_eq_true c9
                clear c9
                by_cases c10 : x2_1 ≤ (l1.length : Int)
                · rw [if_pos c10] at H
                  have c10b0 := eq_true c10
                  have c10b1 : decide (x2_1 ≤ (l1.length : Int)) = true := decide_eq_true c10
                  clear c10
                  obtain ⟨y317, hy317⟩ : ∃ y_ : List Int, y_ = ((l1.take (x2_1 : Int).toNat).drop (a2 : Int).toNat) := ⟨_, rfl⟩
                  replace H : (if l0.length + y317.length < 140737488355328 then (some ((l0 ++ y317), x2_1, a3, true)) else (none)) = some (r1, r2, r3, r4) := by first | (rw [hy317]; with_reducible exact H) | (have H2_ := (Option.bind_some _ _).symm.trans H; rw [hy317]; with_reducible exact H2_) | (have H2_ := (Option.bind_some _ _).symm.trans H; with_reducible exact H2_) | with_reducible exact H | (rw [hy317]; exact H) | exact H
                  have Ny317 := Aside0.mk hy317
                  clear hy317
                  by_cases c11 : l0.length + y317.length < 140737488355328
                  · rw [if_pos c11] at H
                    have LMc11 := Aside0.mk c11
                    clear c11
                    obtain ⟨y321, hy321⟩ : ∃ y_ : List Int, y_ = (l0 ++ y317) := ⟨_, rfl⟩
                    replace H : (some (y321, x2_1, a3, true)) = some (r1, r2, r3, r4) := by first | (rw [hy321]; with_reducible exact H) | (have H2_ := (Option.bind_some _ _).symm.trans H; rw [hy321]; with_reducible exact H2_) | (have H2_ := (Option.bind_some _ _).symm.trans H; with_reducible exact H2_) | with_reducible exact H | (rw [hy321]; exact H) | exact H
                    have Ny321 := Aside0.mk hy321
                    clear hy321
                    as_aux_lemma =>
                      simp only [Option.some.injEq, Prod.mk.injEq] at H
                      obtain ⟨rfl, rfl, rfl, rfl⟩ := H
                      have p316 : 0 ≤ (x2_1 : Int) := of_decide_eq_true (by first | (with_reducible assumption) | assumption)
                      have q316 : x2_1 < (l1.length : Int) := of_decide_eq_true (by first | (with_reducible assumption) | assumption)
                      obtain ⟨ad316, e316, hx316_0⟩ := Kd.at_int (Kd.C_kept_now HR1.out HK.out) x2_1 p316 q316
                      cases e316
                      replace p316 := eq_true p316
                      replace q316 := eq_true q316
                      have q12 : (x2_1 : Int) ≤ ((l1.length : Int) : Int) := of_decide_eq_true (by first | (with_reducible assumption) | assumption)
                      obtain ⟨i012, hi012, _, hsz12, _⟩ := info_parts info5
                      have hroom12 : l1.length ≤ c1 := HC1.out
                      have hC12 : Kd.C (Kd.int .u8) _ (some ad316) l1.length l1 := (Kd.C_kept_now HR1.out HK.out)
                      have ql12 : (a2 : Int) ≤ (x2_1 : Int) := of_decide_eq_true (by first | (with_reducible assumption) | assumption)
                      have q012 : (0 : Int) ≤ (a2 : Int) := of_decide_eq_true (by first | (with_reducible assumption) | assumption)
                      have hcut12 := cut_mid (P := Try.prog) 37 5 .i64 .i64 Try.underlying37 hi012 1 hsz12 (some ad316) l1.length c1 a2 x2_1 q012 ql12 q12 hroom12
                      have hr12 := Kd.C_mid (lo := (a2 : Int).toNat) (hi := (x2_1 : Int).toNat) (c := c1) hC12 (by omega) (by omega) hroom12
                      obtain ⟨A12, hA12⟩ : ∃ z_, z_ = (if c1 = (a2 : Int).toNat then (some ad316) else ((some ad316) : Option Addr).map (·.add ((a2 : Int).toNat * 1))) := ⟨_, rfl⟩
                      obtain ⟨c12, hc12⟩ : ∃ z_, z_ = c1 - (a2 : Int).toNat := ⟨_, rfl⟩
                      have hy12 : y317.length = (x2_1 : Int).toNat - (a2 : Int).toNat := (by rw [Ny317.out, List.length_drop, List.length_take] <;> omega)
                      rw [show ((l1).take (x2_1 : Int).toNat).drop (a2 : Int).toNat = y317 from Ny317.out.symm] at hr12
                      replace hr12 : Kd.C (Kd.int .u8) _ A12 y317.length y317 := (by rw [hA12]; exact hr12)
                      rw [← hy12, ← hA12, ← hc12] at hcut12
                      have HR320 := Aside0.mk hr12
                      have HC320 := Aside0.mk (show y317.length ≤ c12 from by rw [hy12, hc12]; exact Nat.sub_le_sub_right (Nat.le_trans (by omega) hroom12) _)
                      clear hr12 hC12 hroom12 hi012 hsz12 hc12
                      have KY12 := Aside0.mk hy12
                      have KA12 := Aside0.mk hA12
                      clear hy12 hA12
                      have KL12 := Aside0.mk (show (x2_1 : Int).toNat ≤ l1.length from by omega)
                      have KM12 := Aside0.mk (show (a2 : Int).toNat ≤ (x2_1 : Int).toNat from by omega)
                      replace q12 := eq_true q12
                      go_wp2_with (first | ((with_reducible refine gate_builtin (b := .append) (xs := #[.tmp 55, .tmp 59]) rfl ?_); at_builtin; refine Kd.R_append_rows (Kd.int .u8) (w0 := w0) w0.heap.size rfl (.tmp 55) (.tmp 59) 37 5 (.int .u8 0) 1 rfl Try.underlying37 info5 rfl (by decide) (by omega) u9000_ l0 y317 _ _ _ (fun k_ => (P0_ k_ ∨ w.heap.size ≤ k_)) (fun _ => False) rfl rfl ?aO ?aR (fun _ _ h => h) (fun _ h => h.elim) ?aF ?aB ?aS ?aL ?_; (case aR => repeat (first | exact (by repeat (first | (with_reducible exact HR320.out) | (with_reducible refine Kd.C_alloc ?_ _) | (with_reducible refine Kd.C_drewN ?_ _) | (with_reducible refine Kd.C_drew ?_) | exact HR320.out)) | (with_reducible refine Kd.C_alloc ?_ _) | (with_reducible refine Kd.C_drewN ?_ _) | (with_reducible refine Kd.C_drew ?_))); (case aB => exact (by repeat (first | (with_reducible first | exact HB.out | apply below_alloc | apply pw_below_drewN | apply below_drew1) | exact HB.out))); (case aF => exact (fun k_ hk => (.inr (Nat.le_trans (by first | exact HK.out.1 | exact (show Kept w _ (fun k_ => P0_ k_) from by repeat (first | (with_reducible first | exact HK.out | apply Kept.alloc | apply Kept.drewN | apply Kept.drew) | exact HK.out)).1) hk)))); (case aO => exact (by (with_reducible repeat (first | apply Kd.R_alloc | apply Kd.R_drewN | apply Kd.R_drew)); exact HO_0.out)); (case aS => exact (below_size (by repeat (first | (with_reducible first | exact HB.out | apply below_alloc | apply pw_below_drewN | apply below_drew1) | exact HB.out)))); (case aL => have := LMc11.out; omega); intro v322 w13 ho hb hg hat; rw [← Ny321.out] at ho; have n0_ := Aside0.mk (hb); have n1_ := Aside0.mk (Kept.of_grown (S := (fun k_ => P0_ k_)) hg (by repeat (first | (with_reducible first | exact HK.out | apply Kept.alloc | apply Kept.drewN | apply Kept.drew) | exact HK.out)) (fun k_ e_ => (HO_0.out.1 k_ e_))); have n2_ := Aside0.mk ((show Kd.C (Kd.int .u8) w13 A12 y317.length y317 from by rw [Ny317.out, KA12.out]; exact Kd.C_mid (lo := (a2 : Int).toNat) (hi := (x2_1 : Int).toNat) (c := c1) (Kd.C_kept_now HR1.out (show Kept w w13 (fun k_ => P0_ k_) from (Kept.of_grown (S := (fun k_ => P0_ k_)) hg (by repeat (first | (with_reducible first | exact HK.out | apply Kept.alloc | apply Kept.drewN | apply Kept.drew) | exact HK.out)) (fun k_ e_ => (HO_0.out.1 k_ e_))))) KM12.out KL12.out HC1.out)); have n3_ := Aside0.mk (ho); clear HB; clear HK; clear HR320; clear HO_0; have HB := n0_; have HK := n1_; have HR320 := n2_; have HO323 := n3_; clear n0_ n1_ n2_ n3_; clear ho hb hg hat))
                      refine bodyPost_ret (results_list (rs := [.tmp 8, .tmp 9, .tmp 10, .tmp 11]) rfl (by simp) (.tmp (.tmp (.tmp (.tmp .nil))))) rfl ?_
                      exact ⟨_, by first | rfl | (simp [errW_none, errW_some] <;> rfl) | (simp [*, errW_none, errW_some] <;> rfl), by (with_reducible repeat (first | apply Kd.R_alloc | apply Kd.R_drewN | apply Kd.R_drew)); exact HO323.out, by repeat (first | (with_reducible first | exact HB.out | apply below_alloc | apply pw_below_drewN | apply below_drew1) | exact HB.out), by repeat (first | (with_reducible first | exact HK.out | apply Kept.alloc | apply Kept.drewN | apply Kept.drew) | exact HK.out)⟩
                  · rw [if_neg c11] at H
                    exact absurd H (by simp)
                · rw [if_neg c10] at H
                  exact absurd H (by simp)
              · rw [if_neg c9] at H
                exact absurd H (by simp)
            · rw [if_neg c8] at H
              exact absurd H (by simp)
          · rw [if_neg c7] at H
            have c7b0 : decide ((rd l1 x2_1) ≤ 32) = false := decide_eq_false c7
            clear c7
            by_cases c14 : (rd l1 x2_1) = 44
            · rw [if_pos c14] at H
              have c14b0 : ((rd l1 x2_1) == 44) = true := beq_iff_eq.mpr c14
              have c14b1 : ((rd l1 x2_1) != 44) = false := bne_eq_false_iff_eq.mpr c14
              clear c14
              by_cases c15 : 0 ≤ a2
              · rw [if_pos c15] at H
                have c15b0 := eq_true c15
                have c15b1 : decide (0 ≤ a2) = true := decide_eq_true c15
                clear c15
                by_cases c16 : a2 ≤ x2_1
                · rw [if_pos c16] at H
                  have c16b0 := eq_true c16
                  have c16b1 : decide (a2 ≤ x2_1) = true := decide_eq_true c16
                  clear c16
                  by_cases c17 : x2_1 ≤ (l1.length : Int)
                  · rw [if_pos c17] at H
                    have c17b0 := eq_true c17
                    have c17b1 : decide (x2_1 ≤ (l1.length : Int)) = true := decide_eq_true c17
                    clear c17
                    obtain ⟨y325, hy325⟩ : ∃ y_ : List Int, y_ = ((l1.take (x2_1 : Int).toNat).drop (a2 : Int).toNat) := ⟨_, rfl⟩
                    replace H : (if l0.length + y325.length < 140737488355328 then (some ((l0 ++ y325), x2_1, a3, true)) else (none)) = some (r1, r2, r3, r4) := by first | (rw [hy325]; with_reducible exact H) | (have H2_ := (Option.bind_some _ _).symm.trans H; rw [hy325]; with_reducible exact H2_) | (have H2_ := (Option.bind_some _ _).symm.trans H; with_reducible exact H2_) | with_reducible exact H | (rw [hy325]; exact H) | exact H
                    have Ny325 := Aside0.mk hy325
                    clear hy325
                    by_cases c18 : l0.length + y325.length < 140737488355328
                    · rw [if_pos c18] at H
                      have LMc18 := Aside0.mk c18
                      clear c18
                      obtain ⟨y329, hy329⟩ : ∃ y_ : List Int, y_ = (l0 ++ y325) := ⟨_, rfl⟩
                      replace H : (some (y329, x2_1, a3, true)) = some (r1, r2, r3, r4) := by first | (rw [hy329]; with_reducible exact H) | (have H2_ := (Option.bind_some _ _).symm.trans H; rw [hy329]; with_reducible exact H2_) | (have H2_ := (Option.bind_some _ _).symm.trans H; with_reducible exact H2_) | with_reducible exact H | (rw [hy329]; exact H) | exact H
                      have Ny329 := Aside0.mk hy329
                      clear hy329
                      as_aux_lemma =>
                        simp only [Option.some.injEq, Prod.mk.injEq] at H
                        obtain ⟨rfl, rfl, rfl, rfl⟩ := H
                        have p316 : 0 ≤ (x2_1 : Int) := of_decide_eq_true (by first | (with_reducible assumption) | assumption)
                        have q316 : x2_1 < (l1.length : Int) := of_decide_eq_true (by first | (with_reducible assumption) | assumption)
                        obtain ⟨ad316, e316, hx316_0⟩ := Kd.at_int (Kd.C_kept_now HR1.out HK.out) x2_1 p316 q316
                        cases e316
                        replace p316 := eq_true p316
                        replace q316 := eq_true q316
                        have p324 : 0 ≤ (x2_1 : Int) := of_decide_eq_true (by first | (with_reducible assumption) | assumption)
                        have q324 : x2_1 < (l1.length : Int) := of_decide_eq_true (by first | (with_reducible assumption) | assumption)
                        obtain ⟨ad324, e324, hx324_0⟩ := Kd.at_int (Kd.C_kept_now HR1.out HK.out) x2_1 p324 q324
                        obtain rfl : ad316 = ad324 := (by injection e324)
                        replace p324 := eq_true p324
                        replace q324 := eq_true q324
                        have q19 : (x2_1 : Int) ≤ ((l1.length : Int) : Int) := of_decide_eq_true (by first | (with_reducible assumption) | assumption)
                        obtain ⟨i019, hi019, _, hsz19, _⟩ := info_parts info5
                        have hroom19 : l1.length ≤ c1 := HC1.out
                        have hC19 : Kd.C (Kd.int .u8) _ (some ad316) l1.length l1 := (Kd.C_kept_now HR1.out HK.out)
                        have ql19 : (a2 : Int) ≤ (x2_1 : Int) := of_decide_eq_true (by first | (with_reducible assumption) | assumption)
                        have q019 : (0 : Int) ≤ (a2 : Int) := of_decide_eq_true (by first | (with_reducible assumption) | assumption)
                        have hcut19 := cut_mid (P := Try.prog) 37 5 .i64 .i64 Try.underlying37 hi019 1 hsz19 (some ad316) l1.length c1 a2 x2_1 q019 ql19 q19 hroom19
                        have hr19 := Kd.C_mid (lo := (a2 : Int).toNat) (hi := (x2_1 : Int).toNat) (c := c1) hC19 (by omega) (by omega) hroom19
                        obtain ⟨A19, hA19⟩ : ∃ z_, z_ = (if c1 = (a2 : Int).toNat then (some ad316) else ((some ad316) : Option Addr).map (·.add ((a2 : Int).toNat * 1))) := ⟨_, rfl⟩
                        obtain ⟨c19, hc19⟩ : ∃ z_, z_ = c1 - (a2 : Int).toNat := ⟨_, rfl⟩
                        have hy19 : y325.length = (x2_1 : Int).toNat - (a2 : Int).toNat := (by rw [Ny325.out, List.length_drop, List.length_take] <;> omega)
                        rw [show ((l1).take (x2_1 : Int).toNat).drop (a2 : Int).toNat = y325 from Ny325.out.symm] at hr19
                        replace hr19 : Kd.C (Kd.int .u8) _ A19 y325.length y325 := (by rw [hA19]; exact hr19)
                        rw [← hy19, ← hA19, ← hc19] at hcut19
                        have HR328 := Aside0.mk hr19
                        have HC328 := Aside0.mk (show y325.length ≤ c19 from by rw [hy19, hc19]; exact Nat.sub_le_sub_right (Nat.le_trans (by omega) hroom19) _)
                        clear hr19 hC19 hroom19 hi019 hsz19 hc19
                        have KY19 := Aside0.mk hy19
                        have KA19 := Aside0.mk hA19
                        clear hy19 hA19
                        have KL19 := Aside0.mk (show (x2_1 : Int).toNat ≤ l1.length from by omega)
                        have KM19 := Aside0.mk (show (a2 : Int).toNat ≤ (x2_1 : Int).toNat from by omega)
                        replace q19 := eq_true q19
                        go_wp2_with (first | ((with_reducible refine gate_builtin (b := .append) (xs := #[.tmp 55, .tmp 59]) rfl ?_); at_builtin; refine Kd.R_append_rows (Kd.int .u8) (w0 := w0) w0.heap.size rfl (.tmp 55) (.tmp 59) 37 5 (.int .u8 0) 1 rfl Try.underlying37 info5 rfl (by decide) (by omega) u9000_ l0 y325 _ _ _ (fun k_ => (P0_ k_ ∨ w.heap.size ≤ k_)) (fun _ => False) rfl rfl ?aO ?aR (fun _ _ h => h) (fun _ h => h.elim) ?aF ?aB ?aS ?aL ?_; (case aR => repeat (first | exact (by repeat (first | (with_reducible exact HR328.out) | (with_reducible refine Kd.C_alloc ?_ _) | (with_reducible refine Kd.C_drewN ?_ _) | (with_reducible refine Kd.C_drew ?_) | exact HR328.out)) | (with_reducible refine Kd.C_alloc ?_ _) | (with_reducible refine Kd.C_drewN ?_ _) | (with_reducible refine Kd.C_drew ?_))); (case aB => exact (by repeat (first | (with_reducible first | exact HB.out | apply below_alloc | apply pw_below_drewN | apply below_drew1) | exact HB.out))); (case aF => exact (fun k_ hk => (.inr (Nat.le_trans (by first | exact HK.out.1 | exact (show Kept w _ (fun k_ => P0_ k_) from by repeat (first | (with_reducible first | exact HK.out | apply Kept.alloc | apply Kept.drewN | apply Kept.drew) | exact HK.out)).1) hk)))); (case aO => exact (by (with_reducible repeat (first | apply Kd.R_alloc | apply Kd.R_drewN | apply Kd.R_drew)); exact HO_0.out)); (case aS => exact (below_size (by repeat (first | (with_reducible first | exact HB.out | apply below_alloc | apply pw_below_drewN | apply below_drew1) | exact HB.out)))); (case aL => have := LMc18.out; omega); intro v330 w20 ho hb hg hat; rw [← Ny329.out] at ho; have n0_ := Aside0.mk (hb); have n1_ := Aside0.mk (Kept.of_grown (S := (fun k_ => P0_ k_)) hg (by repeat (first | (with_reducible first | exact HK.out | apply Kept.alloc | apply Kept.drewN | apply Kept.drew) | exact HK.out)) (fun k_ e_ => (HO_0.out.1 k_ e_))); have n2_ := Aside0.mk ((show Kd.C (Kd.int .u8) w20 A19 y325.length y325 from by rw [Ny325.out, KA19.out]; exact Kd.C_mid (lo := (a2 : Int).toNat) (hi := (x2_1 : Int).toNat) (c := c1) (Kd.C_kept_now HR1.out (show Kept w w20 (fun k_ => P0_ k_) from (Kept.of_grown (S := (fun k_ => P0_ k_)) hg (by repeat (first | (with_reducible first | exact HK.out | apply Kept.alloc | apply Kept.drewN | apply Kept.drew) | exact HK.out)) (fun k_ e_ => (HO_0.out.1 k_ e_))))) KM19.out KL19.out HC1.out)); have n3_ := Aside0.mk (ho); clear HB; clear HK; clear HR328; clear HO_0; have HB := n0_; have HK := n1_; have HR328 := n2_; have HO331 := n3_; clear n0_ n1_ n2_ n3_; clear ho hb hg hat))
                        refine bodyPost_ret (results_list (rs := [.tmp 8, .tmp 9, .tmp 10, .tmp 11]) rfl (by simp) (.tmp (.tmp (.tmp (.tmp .nil))))) rfl ?_
                        exact ⟨_, by first | rfl | (simp [errW_none, errW_some] <;> rfl) | (simp [*, errW_none, errW_some] <;> rfl), by (with_reducible repeat (first | apply Kd.R_alloc | apply Kd.R_drewN | apply Kd.R_drew)); exact HO331.out, by repeat (first | (with_reducible first | exact HB.out | apply below_alloc | apply pw_below_drewN | apply below_drew1) | exact HB.out), by repeat (first | (with_reducible first | exact HK.out | apply Kept.alloc | apply Kept.drewN | apply Kept.drew) | exact HK.out)⟩
                    · rw [if_neg c18] at H
                      exact absurd H (by simp)
                  · rw [if_neg c17] at H
                    exact absurd H (by simp)
                · rw [if_neg c16] at H
                  exact absurd H (by simp)
              · rw [if_neg c15] at H
                exact absurd H (by simp)
            · rw [if_neg c14] at H
              have c14b0 : ((rd l1 x2_1) == 44) = false := beq_eq_false_iff_ne.mpr c14
              have c14b1 : ((rd l1 x2_1) != 44) = true := bne_iff_ne.mpr c14
              by_cases c21 : (rd l1 x2_1) = 58
              · rw [if_pos c21] at H
                have c21b0 : ((rd l1 x2_1) == 58) = true := beq_iff_eq.mpr c21
                have c21b1 : ((rd l1 x2_1) != 58) = false := bne_eq_false_iff_eq.mpr c21
                clear c21
                by_cases c22 : 0 ≤ a2
                · rw [if_pos c22] at H
                  have c22b0 := eq_true c22
                  have c22b1 : decide (0 ≤ a2) = true := decide_eq_true c22
                  clear c22
                  by_cases c23 : a2 ≤ x2_1
                  · rw [if_pos c23] at H
                    have c23b0 := eq_true c23
                    have c23b1 : decide (a2 ≤ x2_1) = true := decide_eq_true c23
                    clear c23
                    by_cases c24 : x2_1 ≤ (l1.length : Int)
                    · rw [if_pos c24] at H
                      have c24b0 := eq_true c24
                      have c24b1 : decide (x2_1 ≤ (l1.length : Int)) = true := decide_eq_true c24
                      clear c24
                      obtain ⟨y333, hy333⟩ : ∃ y_ : List Int, y_ = ((l1.take (x2_1 : Int).toNat).drop (a2 : Int).toNat) := ⟨_, rfl⟩
                      replace H : (if l0.length + y333.length < 140737488355328 then (some ((l0 ++ y333), x2_1, a3, true)) else (none)) = some (r1, r2, r3, r4) := by first | (rw [hy333]; with_reducible exact H) | (have H2_ := (Option.bind_some _ _).symm.trans H; rw [hy333]; with_reducible exact H2_) | (have H2_ := (Option.bind_some _ _).symm.trans H; with_reducible exact H2_) | with_reducible exact H | (rw [hy333]; exact H) | exact H
                      have Ny333 := Aside0.mk hy333
                      clear hy333
                      by_cases c25 : l0.length + y333.length < 140737488355328
                      · rw [if_pos c25] at H
                        have LMc25 := Aside0.mk c25
                        clear c25
                        obtain ⟨y337, hy337⟩ : ∃ y_ : List Int, y_ = (l0 ++ y333) := ⟨_, rfl⟩
                        replace H : (some (y337, x2_1, a3, true)) = some (r1, r2, r3, r4) := by first | (rw [hy337]; with_reducible exact H) | (have H2_ := (Option.bind_some _ _).symm.trans H; rw [hy337]; with_reducible exact H2_) | (have H2_ := (Option.bind_some _ _).symm.trans H; with_reducible exact H2_) | with_reducible exact H | (rw [hy337]; exact H) | exact H
                        have Ny337 := Aside0.mk hy337
                        clear hy337
                        as_aux_lemma =>
                          simp only [Option.some.injEq, Prod.mk.injEq] at H
                          obtain ⟨rfl, rfl, rfl, rfl⟩ := H
                          have p316 : 0 ≤ (x2_1 : Int) := of_decide_eq_true (by first | (with_reducible assumption) | assumption)
                          have q316 : x2_1 < (l1.length : Int) := of_decide_eq_true (by first | (with_reducible assumption) | assumption)
                          obtain ⟨ad316, e316, hx316_0⟩ := Kd.at_int (Kd.C_kept_now HR1.out HK.out) x2_1 p316 q316
                          cases e316
                          replace p316 := eq_true p316
                          replace q316 := eq_true q316
                          have p324 : 0 ≤ (x2_1 : Int) := of_decide_eq_true (by first | (with_reducible assumption) | assumption)
                          have q324 : x2_1 < (l1.length : Int) := of_decide_eq_true (by first | (with_reducible assumption) | assumption)
                          obtain ⟨ad324, e324, hx324_0⟩ := Kd.at_int (Kd.C_kept_now HR1.out HK.out) x2_1 p324 q324
                          obtain rfl : ad316 = ad324 := (by injection e324)
                          replace p324 := eq_true p324
                          replace q324 := eq_true q324
                          have p332 : 0 ≤ (x2_1 : Int) := of_decide_eq_true (by first | (with_reducible assumption) | assumption)
                          have q332 : x2_1 < (l1.length : Int) := of_decide_eq_true (by first | (with_reducible assumption) | assumption)
                          obtain ⟨ad332, e332, hx332_0⟩ := Kd.at_int (Kd.C_kept_now HR1.out HK.out) x2_1 p332 q332
                          obtain rfl : ad316 = ad332 := (by injection e332)
                          replace p332 := eq_true p332
                          replace q332 := eq_true q332
                          have q26 : (x2_1 : Int) ≤ ((l1.length : Int) : Int) := of_decide_eq_true (by first | (with_reducible assumption) | assumption)
                          obtain ⟨i026, hi026, _, hsz26, _⟩ := info_parts info5
                          have hroom26 : l1.length ≤ c1 := HC1.out
                          have hC26 : Kd.C (Kd.int .u8) _ (some ad316) l1.length l1 := (Kd.C_kept_now HR1.out HK.out)
                          have ql26 : (a2 : Int) ≤ (x2_1 : Int) := of_decide_eq_true (by first | (with_reducible assumption) | assumption)
                          have q026 : (0 : Int) ≤ (a2 : Int) := of_decide_eq_true (by first | (with_reducible assumption) | assumption)
                          have hcut26 := cut_mid (P := Try.prog) 37 5 .i64 .i64 Try.underlying37 hi026 1 hsz26 (some ad316) l1.length c1 a2 x2_1 q026 ql26 q26 hroom26
                          have hr26 := Kd.C_mid (lo := (a2 : Int).toNat) (hi := (x2_1 : Int).toNat) (c := c1) hC26 (by omega) (by omega) hroom26
                          obtain ⟨A26, hA26⟩ : ∃ z_, z_ = (if c1 = (a2 : Int).toNat then (some ad316) else ((some ad316) : Option Addr).map (·.add ((a2 : Int).toNat * 1))) := ⟨_, rfl⟩
                          obtain ⟨c26, hc26⟩ : ∃ z_, z_ = c1 - (a2 : Int).toNat := ⟨_, rfl⟩
                          have hy26 : y333.length = (x2_1 : Int).toNat - (a2 : Int).toNat := (by rw [Ny333.out, List.length_drop, List.length_take] <;> omega)
                          rw [show ((l1).take (x2_1 : Int).toNat).drop (a2 : Int).toNat = y333 from Ny333.out.symm] at hr26
                          replace hr26 : Kd.C (Kd.int .u8) _ A26 y333.length y333 := (by rw [hA26]; exact hr26)
                          rw [← hy26, ← hA26, ← hc26] at hcut26
                          have HR336 := Aside0.mk hr26
                          have HC336 := Aside0.mk (show y333.length ≤ c26 from by rw [hy26, hc26]; exact Nat.sub_le_sub_right (Nat.le_trans (by omega) hroom26) _)
                          clear hr26 hC26 hroom26 hi026 hsz26 hc26
                          have KY26 := Aside0.mk hy26
                          have KA26 := Aside0.mk hA26
                          clear hy26 hA26
                          have KL26 := Aside0.mk (show (x2_1 : Int).toNat ≤ l1.length from by omega)
                          have KM26 := Aside0.mk (show (a2 : Int).toNat ≤ (x2_1 : Int).toNat from by omega)
                          replace q26 := eq_true q26
                          go_wp2_with (first | ((with_reducible refine gate_builtin (b := .append) (xs := #[.tmp 55, .tmp 59]) rfl ?_); at_builtin; refine Kd.R_append_rows (Kd.int .u8) (w0 := w0) w0.heap.size rfl (.tmp 55) (.tmp 59) 37 5 (.int .u8 0) 1 rfl Try.underlying37 info5 rfl (by decide) (by omega) u9000_ l0 y333 _ _ _ (fun k_ => (P0_ k_ ∨ w.heap.size ≤ k_)) (fun _ => False) rfl rfl ?aO ?aR (fun _ _ h => h) (fun _ h => h.elim) ?aF ?aB ?aS ?aL ?_; (case aR => repeat (first | exact (by repeat (first | (with_reducible exact HR336.out) | (with_reducible refine Kd.C_alloc ?_ _) | (with_reducible refine Kd.C_drewN ?_ _) | (with_reducible refine Kd.C_drew ?_) | exact HR336.out)) | (with_reducible refine Kd.C_alloc ?_ _) | (with_reducible refine Kd.C_drewN ?_ _) | (with_reducible refine Kd.C_drew ?_))); (case aB => exact (by repeat (first | (with_reducible first | exact HB.out | apply below_alloc | apply pw_below_drewN | apply below_drew1) | exact HB.out))); (case aF => exact (fun k_ hk => (.inr (Nat.le_trans (by first | exact HK.out.1 | exact (show Kept w _ (fun k_ => P0_ k_) from by repeat (first | (with_reducible first | exact HK.out | apply Kept.alloc | apply Kept.drewN | apply Kept.drew) | exact HK.out)).1) hk)))); (case aO => exact (by (with_reducible repeat (first | apply Kd.R_alloc | apply Kd.R_drewN | apply Kd.R_drew)); exact HO_0.out)); (case aS => exact (below_size (by repeat (first | (with_reducible first | exact HB.out | apply below_alloc | apply pw_below_drewN | apply below_drew1) | exact HB.out)))); (case aL => have := LMc25.out; omega); intro v338 w27 ho hb hg hat; rw [← Ny337.out] at ho; have n0_ := Aside0.mk (hb); have n1_ := Aside0.mk (Kept.of_grown (S := (fun k_ => P0_ k_)) hg (by repeat (first | (with_reducible first | exact HK.out | apply Kept.alloc | apply Kept.drewN | apply Kept.drew) | exact HK.out)) (fun k_ e_ => (HO_0.out.1 k_ e_))); have n2_ := Aside0.mk ((show Kd.C (Kd.int .u8) w27 A26 y333.length y333 from by rw [Ny333.out, KA26.out]; exact Kd.C_mid (lo := (a2 : Int).toNat) (hi := (x2_1 : Int).toNat) (c := c1) (Kd.C_kept_now HR1.out (show Kept w w27 (fun k_ => P0_ k_) from (Kept.of_grown (S := (fun k_ => P0_ k_)) hg (by repeat (first | (with_reducible first | exact HK.out | apply Kept.alloc | apply Kept.drewN | apply Kept.drew) | exact HK.out)) (fun k_ e_ => (HO_0.out.1 k_ e_))))) KM26.out KL26.out HC1.out)); have n3_ := Aside0.mk (ho); clear HB; clear HK; clear HR336; clear HO_0; have HB := n0_; have HK := n1_; have HR336 := n2_; have HO339 := n3_; clear n0_ n1_ n2_ n3_; clear ho hb hg hat))
                          refine bodyPost_ret (results_list (rs := [.tmp 8, .tmp 9, .tmp 10, .tmp 11]) rfl (by simp) (.tmp (.tmp (.tmp (.tmp .nil))))) rfl ?_
                          exact ⟨_, by first | rfl | (simp [errW_none, errW_some] <;> rfl) | (simp [*, errW_none, errW_some] <;> rfl), by (with_reducible repeat (first | apply Kd.R_alloc | apply Kd.R_drewN | apply Kd.R_drew)); exact HO339.out, by repeat (first | (with_reducible first | exact HB.out | apply below_alloc | apply pw_below_drewN | apply below_drew1) | exact HB.out), by repeat (first | (with_reducible first | exact HK.out | apply Kept.alloc | apply Kept.drewN | apply Kept.drew) | exact HK.out)⟩
                      · rw [if_neg c25] at H
                        exact absurd H (by simp)
                    · rw [if_neg c24] at H
                      exact absurd H (by simp)
                  · rw [if_neg c23] at H
                    exact absurd H (by simp)
                · rw [if_neg c22] at H
                  exact absurd H (by simp)
              · rw [if_neg c21] at H
                have c21b0 : ((rd l1 x2_1) == 58) = false := beq_eq_false_iff_ne.mpr c21
                have c21b1 : ((rd l1 x2_1) != 58) = true := bne_iff_ne.mpr c21
                by_cases c28 : (rd l1 x2_1) = 93
                · rw [if_pos c28] at H
                  have c28b0 : ((rd l1 x2_1) == 93) = true := beq_iff_eq.mpr c28
                  have c28b1 : ((rd l1 x2_1) != 93) = false := bne_eq_false_iff_eq.mpr c28
                  clear c28
                  by_cases c29 : 0 ≤ a2
                  · rw [if_pos c29] at H
                    have c29b0 := eq_true c29
                    have c29b1 : decide (0 ≤ a2) = true := decide_eq_true c29
                    clear c29
                    by_cases c30 : a2 ≤ x2_1
                    · rw [if_pos c30] at H
                      have c30b0 := eq_true c30
                      have c30b1 : decide (a2 ≤ x2_1) = true := decide_eq_true c30
                      clear c30
                      by_cases c31 : x2_1 ≤ (l1.length : Int)
                      · rw [if_pos c31] at H
                        have c31b0 := eq_true c31
                        have c31b1 : decide (x2_1 ≤ (l1.length : Int)) = true := decide_eq_true c31
                        clear c31
                        obtain ⟨y341, hy341⟩ : ∃ y_ : List Int, y_ = ((l1.take (x2_1 : Int).toNat).drop (a2 : Int).toNat) := ⟨_, rfl⟩
                        replace H : (if l0.length + y341.length < 140737488355328 then (some ((l0 ++ y341), x2_1, a3, true)) else (none)) = some (r1, r2, r3, r4) := by first | (rw [hy341]; with_reducible exact H) | (have H2_ := (Option.bind_some _ _).symm.trans H; rw [hy341]; with_reducible exact H2_) | (have H2_ := (Option.bind_some _ _).symm.trans H; with_reducible exact H2_) | with_reducible exact H | (rw [hy341]; exact H) | exact H
                        have Ny341 := Aside0.mk hy341
                        clear hy341
                        by_cases c32 : l0.length + y341.length < 140737488355328
                        · rw [if_pos c32] at H
                          have LMc32 := Aside0.mk c32
                          clear c32
                          obtain ⟨y345, hy345⟩ : ∃ y_ : List Int, y_ = (l0 ++ y341) := ⟨_, rfl⟩
                          replace H : (some (y345, x2_1, a3, true)) = some (r1, r2, r3, r4) := by first | (rw [hy345]; with_reducible exact H) | (have H2_ := (Option.bind_some _ _).symm.trans H; rw [hy345]; with_reducible exact H2_) | (have H2_ := (Option.bind_some _ _).symm.trans H; with_reducible exact H2_) | with_reducible exact H | (rw [hy345]; exact H) | exact H
                          have Ny345 := Aside0.mk hy345
                          clear hy345
                          as_aux_lemma =>
                            simp only [Option.some.injEq, Prod.mk.injEq] at H
                            obtain ⟨rfl, rfl, rfl, rfl⟩ := H
                            have p316 : 0 ≤ (x2_1 : Int) := of_decide_eq_true (by first | (with_reducible assumption) | assumption)
                            have q316 : x2_1 < (l1.length : Int) := of_decide_eq_true (by first | (with_reducible assumption) | assumption)
                            obtain ⟨ad316, e316, hx316_0⟩ := Kd.at_int (Kd.C_kept_now HR1.out HK.out) x2_1 p316 q316
                            cases e316
                            replace p316 := eq_true p316
                            replace q316 := eq_true q316
                            have p324 : 0 ≤ (x2_1 : Int) := of_decide_eq_true (by first | (with_reducible assumption) | assumption)
                            have q324 : x2_1 < (l1.length : Int) := of_decide_eq_true (by first | (with_reducible assumption) | assumption)
                            obtain ⟨ad324, e324, hx324_0⟩ := Kd.at_int (Kd.C_kept_now HR1.out HK.out) x2_1 p324 q324
                            obtain rfl : ad316 = ad324 := (by injection e324)
                            replace p324 := eq_true p324
                            replace q324 := eq_true q324
                            have p332 : 0 ≤ (x2_1 : Int) := of_decide_eq_true (by first | (with_reducible assumption) | assumption)
                            have q332 : x2_1 < (l1.length : Int) := of_decide_eq_true (by first | (with_reducible assumption) | assumption)
                            obtain ⟨ad332, e332, hx332_0⟩ := Kd.at_int (Kd.C_kept_now HR1.out HK.out) x2_1 p332 q332
                            obtain rfl : ad316 = ad332 := (by injection e332)
                            replace p332 := eq_true p332
                            replace q332 := eq_true q332
                            have p340 : 0 ≤ (x2_1 : Int) := of_decide_eq_true (by first | (with_reducible assumption) | assumption)
                            have q340 : x2_1 < (l1.length : Int) := of_decide_eq_true (by first | (with_reducible assumption) | assumption)
                            obtain ⟨ad340, e340, hx340_0⟩ := Kd.at_int (Kd.C_kept_now HR1.out HK.out) x2_1 p340 q340
                            obtain rfl : ad316 = ad340 := (by injection e340)
                            replace p340 := eq_true p340
                            replace q340 := eq_true q340
                            have q33 : (x2_1 : Int) ≤ ((l1.length : Int) : Int) := of_decide_eq_true (by first | (with_reducible assumption) | assumption)
                            obtain ⟨i033, hi033, _, hsz33, _⟩ := info_parts info5
                            have hroom33 : l1.length ≤ c1 := HC1.out
                            have hC33 : Kd.C (Kd.int .u8) _ (some ad316) l1.length l1 := (Kd.C_kept_now HR1.out HK.out)
                            have ql33 : (a2 : Int) ≤ (x2_1 : Int) := of_decide_eq_true (by first | (with_reducible assumption) | assumption)
                            have q033 : (0 : Int) ≤ (a2 : Int) := of_decide_eq_true (by first | (with_reducible assumption) | assumption)
                            have hcut33 := cut_mid (P := Try.prog) 37 5 .i64 .i64 Try.underlying37 hi033 1 hsz33 (some ad316) l1.length c1 a2 x2_1 q033 ql33 q33 hroom33
                            have hr33 := Kd.C_mid (lo := (a2 : Int).toNat) (hi := (x2_1 : Int).toNat) (c := c1) hC33 (by omega) (by omega) hroom33
                            obtain ⟨A33, hA33⟩ : ∃ z_, z_ = (if c1 = (a2 : Int).toNat then (some ad316) else ((some ad316) : Option Addr).map (·.add ((a2 : Int).toNat * 1))) := ⟨_, rfl⟩
                            obtain ⟨c33, hc33⟩ : ∃ z_, z_ = c1 - (a2 : Int).toNat := ⟨_, rfl⟩
                            have hy33 : y341.length = (x2_1 : Int).toNat - (a2 : Int).toNat := (by rw [Ny341.out, List.length_drop, List.length_take] <;> omega)
                            rw [show ((l1).take (x2_1 : Int).toNat).drop (a2 : Int).toNat = y341 from Ny341.out.symm] at hr33
                            replace hr33 : Kd.C (Kd.int .u8) _ A33 y341.length y341 := (by rw [hA33]; exact hr33)
                            rw [← hy33, ← hA33, ← hc33] at hcut33
                            have HR344 := Aside0.mk hr33
                            have HC344 := Aside0.mk (show y341.length ≤ c33 from by rw [hy33, hc33]; exact Nat.sub_le_sub_right (Nat.le_trans (by omega) hroom33) _)
                            clear hr33 hC33 hroom33 hi033 hsz33 hc33
                            have KY33 := Aside0.mk hy33
                            have KA33 := Aside0.mk hA33
                            clear hy33 hA33
                            have KL33 := Aside0.mk (show (x2_1 : Int).toNat ≤ l1.length from by omega)
                            have KM33 := Aside0.mk (show (a2 : Int).toNat ≤ (x2_1 : Int).toNat from by omega)
                            replace q33 := eq_true q33
                            go_wp2_with (first | ((with_reducible refine gate_builtin (b := .append) (xs := #[.tmp 55, .tmp 59]) rfl ?_); at_builtin; refine Kd.R_append_rows (Kd.int .u8) (w0 := w0) w0.heap.size rfl (.tmp 55) (.tmp 59) 37 5 (.int .u8 0) 1 rfl Try.underlying37 info5 rfl (by decide) (by omega) u9000_ l0 y341 _ _ _ (fun k_ => (P0_ k_ ∨ w.heap.size ≤ k_)) (fun _ => False) rfl rfl ?aO ?aR (fun _ _ h => h) (fun _ h => h.elim) ?aF ?aB ?aS ?aL ?_; (case aR => repeat (first | exact (by repeat (first | (with_reducible exact HR344.out) | (with_reducible refine Kd.C_alloc ?_ _) | (with_reducible refine Kd.C_drewN ?_ _) | (with_reducible refine Kd.C_drew ?_) | exact HR344.out)) | (with_reducible refine Kd.C_alloc ?_ _) | (with_reducible refine Kd.C_drewN ?_ _) | (with_reducible refine Kd.C_drew ?_))); (case aB => exact (by repeat (first | (with_reducible first | exact HB.out | apply below_alloc | apply pw_below_drewN | apply below_drew1) | exact HB.out))); (case aF => exact (fun k_ hk => (.inr (Nat.le_trans (by first | exact HK.out.1 | exact (show Kept w _ (fun k_ => P0_ k_) from by repeat (first | (with_reducible first | exact HK.out | apply Kept.alloc | apply Kept.drewN | apply Kept.drew) | exact HK.out)).1) hk)))); (case aO => exact (by (with_reducible repeat (first | apply Kd.R_alloc | apply Kd.R_drewN | apply Kd.R_drew)); exact HO_0.out)); (case aS => exact (below_size (by repeat (first | (with_reducible first | exact HB.out | apply below_alloc | apply pw_below_drewN | apply below_drew1) | exact HB.out)))); (case aL => have := LMc32.out; omega); intro v346 w34 ho hb hg hat; rw [← Ny345.out] at ho; have n0_ := Aside0.mk (hb); have n1_ := Aside0.mk (Kept.of_grown (S := (fun k_ => P0_ k_)) hg (by repeat (first | (with_reducible first | exact HK.out | apply Kept.alloc | apply Kept.drewN | apply Kept.drew) | exact HK.out)) (fun k_ e_ => (HO_0.out.1 k_ e_))); have n2_ := Aside0.mk ((show Kd.C (Kd.int .u8) w34 A33 y341.length y341 from by rw [Ny341.out, KA33.out]; exact Kd.C_mid (lo := (a2 : Int).toNat) (hi := (x2_1 : Int).toNat) (c := c1) (Kd.C_kept_now HR1.out (show Kept w w34 (fun k_ => P0_ k_) from (Kept.of_grown (S := (fun k_ => P0_ k_)) hg (by repeat (first | (with_reducible first | exact HK.out | apply Kept.alloc | apply Kept.drewN | apply Kept.drew) | exact HK.out)) (fun k_ e_ => (HO_0.out.1 k_ e_))))) KM33.out KL33.out HC1.out)); have n3_ := Aside0.mk (ho); clear HB; clear HK; clear HR344; clear HO_0; have HB := n0_; have HK := n1_; have HR344 := n2_; have HO347 := n3_; clear n0_ n1_ n2_ n3_; clear ho hb hg hat))
                            refine bodyPost_ret (results_list (rs := [.tmp 8, .tmp 9, .tmp 10, .tmp 11]) rfl (by simp) (.tmp (.tmp (.tmp (.tmp .nil))))) rfl ?_
                            exact ⟨_, by first | rfl | (simp [errW_none, errW_some] <;> rfl) | (simp [*, errW_none, errW_some] <;> rfl), by (with_reducible repeat (first | apply Kd.R_alloc | apply Kd.R_drewN | apply Kd.R_drew)); exact HO347.out, by repeat (first | (with_reducible first | exact HB.out | apply below_alloc | apply pw_below_drewN | apply below_drew1) | exact HB.out), by repeat (first | (with_reducible first | exact HK.out | apply Kept.alloc | apply Kept.drewN | apply Kept.drew) | exact HK.out)⟩
                        · rw [if_neg c32] at H
                          exact absurd H (by simp)
                      · rw [if_neg c31] at H
                        exact absurd H (by simp)
                    · rw [if_neg c30] at H
                      exact absurd H (by simp)
                  · rw [if_neg c29] at H
                    exact absurd H (by simp)
                · rw [if_neg c28] at H
                  have c28b0 : ((rd l1 x2_1) == 93) = false := beq_eq_false_iff_ne.mpr c28
                  have c28b1 : ((rd l1 x2_1) != 93) = true := bne_iff_ne.mpr c28
                  by_cases c35 : (rd l1 x2_1) = 125
                  · rw [if_pos c35] at H
                    have c35b0 : ((rd l1 x2_1) == 125) = true := beq_iff_eq.mpr c35
                    have c35b1 : ((rd l1 x2_1) != 125) = false := bne_eq_false_iff_eq.mpr c35
                    clear c35
                    by_cases c36 : 0 ≤ a2
                    · rw [if_pos c36] at H
                      have c36b0 := eq_true c36
                      have c36b1 : decide (0 ≤ a2) = true := decide_eq_true c36
                      clear c36
                      by_cases c37 : a2 ≤ x2_1
                      · rw [if_pos c37] at H
                        have c37b0 := eq_true c37
                        have c37b1 : decide (a2 ≤ x2_1) = true := decide_eq_true c37
                        clear c37
                        by_cases c38 : x2_1 ≤ (l1.length : Int)
                        · rw [if_pos c38] at H
                          have c38b0 := eq_true c38
                          have c38b1 : decide (x2_1 ≤ (l1.length : Int)) = true := decide_eq_true c38
                          clear c38
                          obtain ⟨y349, hy349⟩ : ∃ y_ : List Int, y_ = ((l1.take (x2_1 : Int).toNat).drop (a2 : Int).toNat) := ⟨_, rfl⟩
                          replace H : (if l0.length + y349.length < 140737488355328 then (some ((l0 ++ y349), x2_1, a3, true)) else (none)) = some (r1, r2, r3, r4) := by first | (rw [hy349]; with_reducible exact H) | (have H2_ := (Option.bind_some _ _).symm.trans H; rw [hy349]; with_reducible exact H2_) | (have H2_ := (Option.bind_some _ _).symm.trans H; with_reducible exact H2_) | with_reducible exact H | (rw [hy349]; exact H) | exact H
                          have Ny349 := Aside0.mk hy349
                          clear hy349
                          by_cases c39 : l0.length + y349.length < 140737488355328
                          · rw [if_pos c39] at H
                            have LMc39 := Aside0.mk c39
                            clear c39
                            obtain ⟨y353, hy353⟩ : ∃ y_ : List Int, y_ = (l0 ++ y349) := ⟨_, rfl⟩
                            replace H : (some (y353, x2_1, a3, true)) = some (r1, r2, r3, r4) := by first | (rw [hy353]; with_reducible exact H) | (have H2_ := (Option.bind_some _ _).symm.trans H; rw [hy353]; with_reducible exact H2_) | (have H2_ := (Option.bind_some _ _).symm.trans H; with_reducible exact H2_) | with_reducible exact H | (rw [hy353]; exact H) | exact H
                            have Ny353 := Aside0.mk hy353
                            clear hy353
                            as_aux_lemma =>
                              simp only [Option.some.injEq, Prod.mk.injEq] at H
                              obtain ⟨rfl, rfl, rfl, rfl⟩ := H
                              have p316 : 0 ≤ (x2_1 : Int) := of_decide_eq_true (by first | (with_reducible assumption) | assumption)
                              have q316 : x2_1 < (l1.length : Int) := of_decide_eq_true (by first | (with_reducible assumption) | assumption)
                              obtain ⟨ad316, e316, hx316_0⟩ := Kd.at_int (Kd.C_kept_now HR1.out HK.out) x2_1 p316 q316
                              cases e316
                              replace p316 := eq_true p316
                              replace q316 := eq_true q316
                              have p324 : 0 ≤ (x2_1 : Int) := of_decide_eq_true (by first | (with_reducible assumption) | assumption)
                              have q324 : x2_1 < (l1.length : Int) := of_decide_eq_true (by first | (with_reducible assumption) | assumption)
                              obtain ⟨ad324, e324, hx324_0⟩ := Kd.at_int (Kd.C_kept_now HR1.out HK.out) x2_1 p324 q324
                              obtain rfl : ad316 = ad324 := (by injection e324)
                              replace p324 := eq_true p324
                              replace q324 := eq_true q324
                              have p332 : 0 ≤ (x2_1 : Int) := of_decide_eq_true (by first | (with_reducible assumption) | assumption)
                              have q332 : x2_1 < (l1.length : Int) := of_decide_eq_true (by first | (with_reducible assumption) | assumption)
                              obtain ⟨ad332, e332, hx332_0⟩ := Kd.at_int (Kd.C_kept_now HR1.out HK.out) x2_1 p332 q332
                              obtain rfl : ad316 = ad332 := (by injection e332)
                              replace p332 := eq_true p332
                              replace q332 := eq_true q332
                              have p340 : 0 ≤ (x2_1 : Int) := of_decide_eq_true (by first | (with_reducible assumption) | assumption)
                              have q340 : x2_1 < (l1.length : Int) := of_decide_eq_true (by first | (with_reducible assumption) | assumption)
                              obtain ⟨ad340, e340, hx340_0⟩ := Kd.at_int (Kd.C_kept_now HR1.out HK.out) x2_1 p340 q340
                              obtain rfl : ad316 = ad340 := (by injection e340)
                              replace p340 := eq_true p340
                              replace q340 := eq_true q340
                              have p348 : 0 ≤ (x2_1 : Int) := of_decide_eq_true (by first | (with_reducible assumption) | assumption)
                              have q348 : x2_1 < (l1.length : Int) := of_decide_eq_true (by first | (with_reducible assumption) | assumption)
                              obtain ⟨ad348, e348, hx348_0⟩ := Kd.at_int (Kd.C_kept_now HR1.out HK.out) x2_1 p348 q348
                              obtain rfl : ad316 = ad348 := (by injection e348)
                              replace p348 := eq_true p348
                              replace q348 := eq_true q348
                              have q40 : (x2_1 : Int) ≤ ((l1.length : Int) : Int) := of_decide_eq_true (by first | (with_reducible assumption) | assumption)
                              obtain ⟨i040, hi040, _, hsz40, _⟩ := info_parts info5
                              have hroom40 : l1.length ≤ c1 := HC1.out
                              have hC40 : Kd.C (Kd.int .u8) _ (some ad316) l1.length l1 := (Kd.C_kept_now HR1.out HK.out)
                              have ql40 : (a2 : Int) ≤ (x2_1 : Int) := of_decide_eq_true (by first | (with_reducible assumption) | assumption)
                              have q040 : (0 : Int) ≤ (a2 : Int) := of_decide_eq_true (by first | (with_reducible assumption) | assumption)
                              have hcut40 := cut_mid (P := Try.prog) 37 5 .i64 .i64 Try.underlying37 hi040 1 hsz40 (some ad316) l1.length c1 a2 x2_1 q040 ql40 q40 hroom40
                              have hr40 := Kd.C_mid (lo := (a2 : Int).toNat) (hi := (x2_1 : Int).toNat) (c := c1) hC40 (by omega) (by omega) hroom40
                              obtain ⟨A40, hA40⟩ : ∃ z_, z_ = (if c1 = (a2 : Int).toNat then (some ad316) else ((some ad316) : Option Addr).map (·.add ((a2 : Int).toNat * 1))) := ⟨_, rfl⟩
                              obtain ⟨c40, hc40⟩ : ∃ z_, z_ = c1 - (a2 : Int).toNat := ⟨_, rfl⟩
                              have hy40 : y349.length = (x2_1 : Int).toNat - (a2 : Int).toNat := (by rw [Ny349.out, List.length_drop, List.length_take] <;> omega)
                              rw [show ((l1).take (x2_1 : Int).toNat).drop (a2 : Int).toNat = y349 from Ny349.out.symm] at hr40
                              replace hr40 : Kd.C (Kd.int .u8) _ A40 y349.length y349 := (by rw [hA40]; exact hr40)
                              rw [← hy40, ← hA40, ← hc40] at hcut40
                              have HR352 := Aside0.mk hr40
                              have HC352 := Aside0.mk (show y349.length ≤ c40 from by rw [hy40, hc40]; exact Nat.sub_le_sub_right (Nat.le_trans (by omega) hroom40) _)
                              clear hr40 hC40 hroom40 hi040 hsz40 hc40
                              have KY40 := Aside0.mk hy40
                              have KA40 := Aside0.mk hA40
                              clear hy40 hA40
                              have KL40 := Aside0.mk (show (x2_1 : Int).toNat ≤ l1.length from by omega)
                              have KM40 := Aside0.mk (show (a2 : Int).toNat ≤ (x2_1 : Int).toNat from by omega)
                              replace q40 := eq_true q40
                              go_wp2_with (first | ((with_reducible refine gate_builtin (b := .append) (xs := #[.tmp 55, .tmp 59]) rfl ?_); at_builtin; refine Kd.R_append_rows (Kd.int .u8) (w0 := w0) w0.heap.size rfl (.tmp 55) (.tmp 59) 37 5 (.int .u8 0) 1 rfl Try.underlying37 info5 rfl (by decide) (by omega) u9000_ l0 y349 _ _ _ (fun k_ => (P0_ k_ ∨ w.heap.size ≤ k_)) (fun _ => False) rfl rfl ?aO ?aR (fun _ _ h => h) (fun _ h => h.elim) ?aF ?aB ?aS ?aL ?_; (case aR => repeat (first | exact (by repeat (first | (with_reducible exact HR352.out) | (with_reducible refine Kd.C_alloc ?_ _) | (with_reducible refine Kd.C_drewN ?_ _) | (with_reducible refine Kd.C_drew ?_) | exact HR352.out)) | (with_reducible refine Kd.C_alloc ?_ _) | (with_reducible refine Kd.C_drewN ?_ _) | (with_reducible refine Kd.C_drew ?_))); (case aB => exact (by repeat (first | (with_reducible first | exact HB.out | apply below_alloc | apply pw_below_drewN | apply below_drew1) | exact HB.out))); (case aF => exact (fun k_ hk => (.inr (Nat.le_trans (by first | exact HK.out.1 | exact (show Kept w _ (fun k_ => P0_ k_) from by repeat (first | (with_reducible first | exact HK.out | apply Kept.alloc | apply Kept.drewN | apply Kept.drew) | exact HK.out)).1) hk)))); (case aO => exact (by (with_reducible repeat (first | apply Kd.R_alloc | apply Kd.R_drewN | apply Kd.R_drew)); exact HO_0.out)); (case aS => exact (below_size (by repeat (first | (with_reducible first | exact HB.out | apply below_alloc | apply pw_below_drewN | apply below_drew1) | exact HB.out)))); (case aL => have := LMc39.out; omega); intro v354 w41 ho hb hg hat; rw [← Ny353.out] at ho; have n0_ := Aside0.mk (hb); have n1_ := Aside0.mk (Kept.of_grown (S := (fun k_ => P0_ k_)) hg (by repeat (first | (with_reducible first | exact HK.out | apply Kept.alloc | apply Kept.drewN | apply Kept.drew) | exact HK.out)) (fun k_ e_ => (HO_0.out.1 k_ e_))); have n2_ := Aside0.mk ((show Kd.C (Kd.int .u8) w41 A40 y349.length y349 from by rw [Ny349.out, KA40.out]; exact Kd.C_mid (lo := (a2 : Int).toNat) (hi := (x2_1 : Int).toNat) (c := c1) (Kd.C_kept_now HR1.out (show Kept w w41 (fun k_ => P0_ k_) from (Kept.of_grown (S := (fun k_ => P0_ k_)) hg (by repeat (first | (with_reducible first | exact HK.out | apply Kept.alloc | apply Kept.drewN | apply Kept.drew) | exact HK.out)) (fun k_ e_ => (HO_0.out.1 k_ e_))))) KM40.out KL40.out HC1.out)); have n3_ := Aside0.mk (ho); clear HB; clear HK; clear HR352; clear HO_0; have HB := n0_; have HK := n1_; have HR352 := n2_; have HO355 := n3_; clear n0_ n1_ n2_ n3_; clear ho hb hg hat))
                              refine bodyPost_ret (results_list (rs := [.tmp 8, .tmp 9, .tmp 10, .tmp 11]) rfl (by simp) (.tmp (.tmp (.tmp (.tmp .nil))))) rfl ?_
                              exact ⟨_, by first | rfl | (simp [errW_none, errW_some] <;> rfl) | (simp [*, errW_none, errW_some] <;> rfl), by (with_reducible repeat (first | apply Kd.R_alloc | apply Kd.R_drewN | apply Kd.R_drew)); exact HO355.out, by repeat (first | (with_reducible first | exact HB.out | apply below_alloc | apply pw_below_drewN | apply below_drew1) | exact HB.out), by repeat (first | (with_reducible first | exact HK.out | apply Kept.alloc | apply Kept.drewN | apply Kept.drew) | exact HK.out)⟩
                          · rw [if_neg c39] at H
                            exact absurd H (by simp)
                        · rw [if_neg c38] at H
                          exact absurd H (by simp)
                      · rw [if_neg c37] at H
                        exact absurd H (by simp)
                    · rw [if_neg c36] at H
                      exact absurd H (by simp)
                  · rw [if_neg c35] at H
                    have c35b0 : ((rd l1 x2_1) == 125) = false := beq_eq_false_iff_ne.mpr c35
                    have c35b1 : ((rd l1 x2_1) != 125) = true := bne_iff_ne.mpr c35
                    as_aux_lemma =>
                      have H' := Aside0.mk H
                      clear H
                      have p316 : 0 ≤ (x2_1 : Int) := of_decide_eq_true (by first | (with_reducible assumption) | assumption)
                      have q316 : x2_1 < (l1.length : Int) := of_decide_eq_true (by first | (with_reducible assumption) | assumption)
                      obtain ⟨ad316, e316, hx316_0⟩ := Kd.at_int (Kd.C_kept_now HR1.out HK.out) x2_1 p316 q316
                      cases e316
                      replace p316 := eq_true p316
                      replace q316 := eq_true q316
                      have p324 : 0 ≤ (x2_1 : Int) := of_decide_eq_true (by first | (with_reducible assumption) | assumption)
                      have q324 : x2_1 < (l1.length : Int) := of_decide_eq_true (by first | (with_reducible assumption) | assumption)
                      obtain ⟨ad324, e324, hx324_0⟩ := Kd.at_int (Kd.C_kept_now HR1.out HK.out) x2_1 p324 q324
                      obtain rfl : ad316 = ad324 := (by injection e324)
                      replace p324 := eq_true p324
                      replace q324 := eq_true q324
                      have p332 : 0 ≤ (x2_1 : Int) := of_decide_eq_true (by first | (with_reducible assumption) | assumption)
                      have q332 : x2_1 < (l1.length : Int) := of_decide_eq_true (by first | (with_reducible assumption) | assumption)
                      obtain ⟨ad332, e332, hx332_0⟩ := Kd.at_int (Kd.C_kept_now HR1.out HK.out) x2_1 p332 q332
                      obtain rfl : ad316 = ad332 := (by injection e332)
                      replace p332 := eq_true p332
                      replace q332 := eq_true q332
                      have p340 : 0 ≤ (x2_1 : Int) := of_decide_eq_true (by first | (with_reducible assumption) | assumption)
                      have q340 : x2_1 < (l1.length : Int) := of_decide_eq_true (by first | (with_reducible assumption) | assumption)
                      obtain ⟨ad340, e340, hx340_0⟩ := Kd.at_int (Kd.C_kept_now HR1.out HK.out) x2_1 p340 q340
                      obtain rfl : ad316 = ad340 := (by injection e340)
                      replace p340 := eq_true p340
                      replace q340 := eq_true q340
                      have p348 : 0 ≤ (x2_1 : Int) := of_decide_eq_true (by first | (with_reducible assumption) | assumption)
                      have q348 : x2_1 < (l1.length : Int) := of_decide_eq_true (by first | (with_reducible assumption) | assumption)
                      obtain ⟨ad348, e348, hx348_0⟩ := Kd.at_int (Kd.C_kept_now HR1.out HK.out) x2_1 p348 q348
                      obtain rfl : ad316 = ad348 := (by injection e348)
                      replace p348 := eq_true p348
                      replace q348 := eq_true q348
                      go_wp2
                      go_roundg k1
                      case measure => have := HK1.out; omega
                      case rel => exact ⟨(wrap64 (x2_1 + 1)), (by first | rfl | (simp; done) | (simp [*]; done)), H', ⟨by have := HK1.out; omega⟩, ⟨by (with_reducible repeat (first | apply Kd.R_alloc | apply Kd.R_drewN | apply Kd.R_drew)); exact HO_0.out⟩, ⟨by repeat (first | (with_reducible first | exact HK.out | apply Kept.alloc | apply Kept.drewN | apply Kept.drew) | exact HK.out)⟩, ⟨by repeat (first | (with_reducible first | exact HB.out | apply below_alloc | apply pw_below_drewN | apply below_drew1) | exact HB.out)⟩⟩
        · rw [if_neg c6] at H
          exact absurd H (by simp)
      · rw [if_neg c5] at H
        have c5b0 : decide (x2_1 < (l1.length : Int)) = false := decide_eq_false c5
        clear c5
        by_cases c42 : 0 ≤ a2
        · rw [if_pos c42] at H
          have c42b0 := eq_true c42
          have c42b1 : decide (0 ≤ a2) = true := decide_eq_true c42
          clear c42
          by_cases c43 : a2 ≤ x2_1
          · rw [if_pos c43] at H
            have c43b0 := eq_true c43
            have c43b1 : decide (a2 ≤ x2_1) = true := decide_eq_true c43
            clear c43
            by_cases c44 : x2_1 ≤ (l1.length : Int)
            · rw [if_pos c44] at H
              have c44b0 := eq_true c44
              have c44b1 : decide (x2_1 ≤ (l1.length : Int)) = true := decide_eq_true c44
              clear c44
              obtain ⟨y356, hy356⟩ : ∃ y_ : List Int, y_ = ((l1.take (x2_1 : Int).toNat).drop (a2 : Int).toNat) := ⟨_, rfl⟩
              replace H : (if l0.length + y356.length < 140737488355328 then (some ((l0 ++ y356), x2_1, a3, true)) else (none)) = some (r1, r2, r3, r4) := by first | (rw [hy356]; with_reducible exact H) | (have H2_ := (Option.bind_some _ _).symm.trans H; rw [hy356]; with_reducible exact H2_) | (have H2_ := (Option.bind_some _ _).symm.trans H; with_reducible exact H2_) | with_reducible exact H | (rw [hy356]; exact H) | exact H
              have Ny356 := Aside0.mk hy356
              clear hy356
              by_cases c45 : l0.length + y356.length < 140737488355328
              · rw [if_pos c45] at H
                have LMc45 := Aside0.mk c45
                clear c45
                obtain ⟨y360, hy360⟩ : ∃ y_ : List Int, y_ = (l0 ++ y356) := ⟨_, rfl⟩
                replace H : (some (y360, x2_1, a3, true)) = some (r1, r2, r3, r4) := by first | (rw [hy360]; with_reducible exact H) | (have H2_ := (Option.bind_some _ _).symm.trans H; rw [hy360]; with_reducible exact H2_) | (have H2_ := (Option.bind_some _ _).symm.trans H; with_reducible exact H2_) | with_reducible exact H | (rw [hy360]; exact H) | exact H
                have Ny360 := Aside0.mk hy360
                clear hy360
                as_aux_lemma =>
                  simp only [Option.some.injEq, Prod.mk.injEq] at H
                  obtain ⟨rfl, rfl, rfl, rfl⟩ := H
                  have q46 : (x2_1 : Int) ≤ ((l1.length : Int) : Int) := of_decide_eq_true (by first | (with_reducible assumption) | assumption)
                  obtain ⟨i046, hi046, _, hsz46, _⟩ := info_parts info5
                  have hroom46 : l1.length ≤ c1 := HC1.out
                  have hC46 : Kd.C (Kd.int .u8) _ A1 l1.length l1 := (Kd.C_kept_now HR1.out HK.out)
                  have ql46 : (a2 : Int) ≤ (x2_1 : Int) := of_decide_eq_true (by first | (with_reducible assumption) | assumption)
                  have q046 : (0 : Int) ≤ (a2 : Int) := of_decide_eq_true (by first | (with_reducible assumption) | assumption)
                  have hcut46 := cut_mid (P := Try.prog) 37 5 .i64 .i64 Try.underlying37 hi046 1 hsz46 A1 l1.length c1 a2 x2_1 q046 ql46 q46 hroom46
                  have hr46 := Kd.C_mid (lo := (a2 : Int).toNat) (hi := (x2_1 : Int).toNat) (c := c1) hC46 (by omega) (by omega) hroom46
                  obtain ⟨A46, hA46⟩ : ∃ z_, z_ = (if c1 = (a2 : Int).toNat then A1 else (A1 : Option Addr).map (·.add ((a2 : Int).toNat * 1))) := ⟨_, rfl⟩
                  obtain ⟨c46, hc46⟩ : ∃ z_, z_ = c1 - (a2 : Int).toNat := ⟨_, rfl⟩
                  have hy46 : y356.length = (x2_1 : Int).toNat - (a2 : Int).toNat := (by rw [Ny356.out, List.length_drop, List.length_take] <;> omega)
                  rw [show ((l1).take (x2_1 : Int).toNat).drop (a2 : Int).toNat = y356 from Ny356.out.symm] at hr46
                  replace hr46 : Kd.C (Kd.int .u8) _ A46 y356.length y356 := (by rw [hA46]; exact hr46)
                  rw [← hy46, ← hA46, ← hc46] at hcut46
                  have HR359 := Aside0.mk hr46
                  have HC359 := Aside0.mk (show y356.length ≤ c46 from by rw [hy46, hc46]; exact Nat.sub_le_sub_right (Nat.le_trans (by omega) hroom46) _)
                  clear hr46 hC46 hroom46 hi046 hsz46 hc46
                  have KY46 := Aside0.mk hy46
                  have KA46 := Aside0.mk hA46
                  clear hy46 hA46
                  have KL46 := Aside0.mk (show (x2_1 : Int).toNat ≤ l1.length from by omega)
                  have KM46 := Aside0.mk (show (a2 : Int).toNat ≤ (x2_1 : Int).toNat from by omega)
                  replace q46 := eq_true q46
                  go_wp2_with (first | ((with_reducible refine gate_builtin (b := .append) (xs := #[.tmp 55, .tmp 59]) rfl ?_); at_builtin; refine Kd.R_append_rows (Kd.int .u8) (w0 := w0) w0.heap.size rfl (.tmp 55) (.tmp 59) 37 5 (.int .u8 0) 1 rfl Try.underlying37 info5 rfl (by decide) (by omega) u9000_ l0 y356 _ _ _ (fun k_ => (P0_ k_ ∨ w.heap.size ≤ k_)) (fun _ => False) rfl rfl ?aO ?aR (fun _ _ h => h) (fun _ h => h.elim) ?aF ?aB ?aS ?aL ?_; (case aR => repeat (first | exact (by repeat (first | (with_reducible exact HR359.out) | (with_reducible refine Kd.C_alloc ?_ _) | (with_reducible refine Kd.C_drewN ?_ _) | (with_reducible refine Kd.C_drew ?_) | exact HR359.out)) | (with_reducible refine Kd.C_alloc ?_ _) | (with_reducible refine Kd.C_drewN ?_ _) | (with_reducible refine Kd.C_drew ?_))); (case aB => exact (by repeat (first | (with_reducible first | exact HB.out | apply below_alloc | apply pw_below_drewN | apply below_drew1) | exact HB.out))); (case aF => exact (fun k_ hk => (.inr (Nat.le_trans (by first | exact HK.out.1 | exact (show Kept w _ (fun k_ => P0_ k_) from by repeat (first | (with_reducible first | exact HK.out | apply Kept.alloc | apply Kept.drewN | apply Kept.drew) | exact HK.out)).1) hk)))); (case aO => exact (by (with_reducible repeat (first | apply Kd.R_alloc | apply Kd.R_drewN | apply Kd.R_drew)); exact HO_0.out)); (case aS => exact (below_size (by repeat (first | (with_reducible first | exact HB.out | apply below_alloc | apply pw_below_drewN | apply below_drew1) | exact HB.out)))); (case aL => have := LMc45.out; omega); intro v361 w47 ho hb hg hat; rw [← Ny360.out] at ho; have n0_ := Aside0.mk (hb); have n1_ := Aside0.mk (Kept.of_grown (S := (fun k_ => P0_ k_)) hg (by repeat (first | (with_reducible first | exact HK.out | apply Kept.alloc | apply Kept.drewN | apply Kept.drew) | exact HK.out)) (fun k_ e_ => (HO_0.out.1 k_ e_))); have n2_ := Aside0.mk ((show Kd.C (Kd.int .u8) w47 A46 y356.length y356 from by rw [Ny356.out, KA46.out]; exact Kd.C_mid (lo := (a2 : Int).toNat) (hi := (x2_1 : Int).toNat) (c := c1) (Kd.C_kept_now HR1.out (show Kept w w47 (fun k_ => P0_ k_) from (Kept.of_grown (S := (fun k_ => P0_ k_)) hg (by repeat (first | (with_reducible first | exact HK.out | apply Kept.alloc | apply Kept.drewN | apply Kept.drew) | exact HK.out)) (fun k_ e_ => (HO_0.out.1 k_ e_))))) KM46.out KL46.out HC1.out)); have n3_ := Aside0.mk (ho); clear HB; clear HK; clear HR359; clear HO_0; have HB := n0_; have HK := n1_; have HR359 := n2_; have HO362 := n3_; clear n0_ n1_ n2_ n3_; clear ho hb hg hat))
                  refine bodyPost_ret (results_list (rs := [.tmp 8, .tmp 9, .tmp 10, .tmp 11]) rfl (by simp) (.tmp (.tmp (.tmp (.tmp .nil))))) rfl ?_
                  exact ⟨_, by first | rfl | (simp [errW_none, errW_some] <;> rfl) | (simp [*, errW_none, errW_some] <;> rfl), by (with_reducible repeat (first | apply Kd.R_alloc | apply Kd.R_drewN | apply Kd.R_drew)); exact HO362.out, by repeat (first | (with_reducible first | exact HB.out | apply below_alloc | apply pw_below_drewN | apply below_drew1) | exact HB.out), by repeat (first | (with_reducible first | exact HK.out | apply Kept.alloc | apply Kept.drewN | apply Kept.drew) | exact HK.out)⟩
              · rw [if_neg c45] at H
                exact absurd H (by simp)
            · rw [if_neg c44] at H
              exact absurd H (by simp)
          · rw [if_neg c43] at H
            exact absurd H (by simp)
        · rw [if_neg c42] at H
          exact absurd H (by simp)

-- NOT PRINTED: function 41 (sort_insertionSort)

-- NOT PRINTED: function 44 (sort_swapRange)

-- NOT PRINTED: function 43 (sort_rotate)

-- NOT PRINTED: function 42 (sort_symMerge)

-- NOT PRINTED: function 40 (sort_stable)

-- NOT PRINTED: function 39 (sort_Stable)

-- NOT PRINTED: function 36 (pretty_sortPairs)

end Go.Proofs.Ytdcigjpgagimdaa.M
