-- Written by a program of this work (wip/patch_print.py over the kit's printer) for this claim: each Go function as a Lean function, and that the Go code comes to its answers.
import Derived.Test.YtdcigjpgagimdaaMx0
namespace Go.Proofs.Ytdcigjpgagimdaa.M
open Go.RowKit Go.Proofs.YtdcigjpgagimdaaW.PrintWords Go.Proofs.YtdcigjpgagimdaaW.PrintLast Go.Proofs.YtdcigjpgagimdaaW.PrintMore
attribute [local go_sem] max2_int min2_int max_two min_two max_three min_three max_four min_four   -- for this text's walks alone
set_option linter.unusedVariables false
set_option linter.unusedSimpArgs false

/-! ### pretty_appendPrettyString: function 29 -/
mutual
def pretty_appendPrettyString.l0 : Nat → List Int → List Int → Int → Int → Int → Option (List Int × Int × Int × Bool)
  | 0, _, _, _, _, _ => none
  | k + 1, x0, x1, x2, x3, x12 => if x2 < (x1.length : Int) then (if 0 ≤ x2 then (if (rd x1 x2) = 34 then (pretty_appendPrettyString.l1 k x0 x1 x2 x3 x12 0 (wrap64 (x2 - 1))) else (pretty_appendPrettyString.l0 k x0 x1 (wrap64 (x2 + 1)) x3 x12)) else (none)) else (if 0 ≤ x12 then (if x12 ≤ x2 then (if x2 ≤ (x1.length : Int) then ((some ((x1.take (x2 : Int).toNat).drop (x12 : Int).toNat : List Int)).bind fun y287 => (if x0.length + y287.length < 140737488355328 then (some ((x0 ++ y287), x2, x3, true)) else (none))) else (none)) else (none)) else (none))
def pretty_appendPrettyString.l1 : Nat → List Int → List Int → Int → Int → Int → Int → Int → Option (List Int × Int × Int × Bool)
  | 0, _, _, _, _, _, _, _ => none
  | k + 1, x0, x1, x2, x3, x12, x13, x14 => if x14 > x12 then (if 0 ≤ x14 then (if x14 < (x1.length : Int) then (if (rd x1 x14) = 92 then (pretty_appendPrettyString.l1 k x0 x1 x2 x3 x12 (wrap64 (x13 + 1)) (wrap64 (x14 - 1))) else (if (Int.tmod x13 2) = 1 then (pretty_appendPrettyString.l0 k x0 x1 (wrap64 (x2 + 1)) x3 x12) else (if 0 ≤ x12 then (if x12 ≤ (wrap64 (x2 + 1)) then (if (wrap64 (x2 + 1)) ≤ (x1.length : Int) then ((some ((x1.take ((wrap64 (x2 + 1)) : Int).toNat).drop (x12 : Int).toNat : List Int)).bind fun y296 => (if x0.length + y296.length < 140737488355328 then (some ((x0 ++ y296), wrap64 (x2 + 1), x3, true)) else (none))) else (none)) else (none)) else (none)))) else (none)) else (none)) else (if (Int.tmod x13 2) = 1 then (pretty_appendPrettyString.l0 k x0 x1 (wrap64 (x2 + 1)) x3 x12) else (if 0 ≤ x12 then (if x12 ≤ (wrap64 (x2 + 1)) then (if (wrap64 (x2 + 1)) ≤ (x1.length : Int) then ((some ((x1.take ((wrap64 (x2 + 1)) : Int).toNat).drop (x12 : Int).toNat : List Int)).bind fun y303 => (if x0.length + y303.length < 140737488355328 then (some ((x0 ++ y303), wrap64 (x2 + 1), x3, true)) else (none))) else (none)) else (none)) else (none)))
end
def pretty_appendPrettyString.f (k : Nat) (l0 : List Int) (l1 : List Int) (a2 : Int) (a3 : Int) : Option (List Int × Int × Int × Bool) := pretty_appendPrettyString.l0 k l0 l1 (wrap64 (a2 + 1)) a3 a2
theorem pretty_appendPrettyString.mono_l : ∀ k, (∀ y0 y1 y2 y3 y4, LeO (pretty_appendPrettyString.l0 k y0 y1 y2 y3 y4) (pretty_appendPrettyString.l0 (k + 1) y0 y1 y2 y3 y4)) ∧ (∀ y0 y1 y2 y3 y4 y5 y6, LeO (pretty_appendPrettyString.l1 k y0 y1 y2 y3 y4 y5 y6) (pretty_appendPrettyString.l1 (k + 1) y0 y1 y2 y3 y4 y5 y6))
  | 0 => ⟨fun _ _ _ _ _ r h => by simp [pretty_appendPrettyString.l0] at h, fun _ _ _ _ _ _ _ r h => by simp [pretty_appendPrettyString.l1] at h⟩
  | k + 1 => by
    obtain ⟨ih0, ih1⟩ := pretty_appendPrettyString.mono_l k
    refine ⟨?_, ?_⟩
    · intro y0 y1 y2 y3 y4
      unfold pretty_appendPrettyString.l0
      repeat' first
      | (with_reducible exact ih0 _ _ _ _ _)
      | (with_reducible exact ih1 _ _ _ _ _ _ _)
      | (with_reducible exact LeO.refl _)
      | (with_reducible exact LeO.none _)
      | (with_reducible refine LeO.ite ?_ ?_)
      | (with_reducible refine LeO.bind ?_ (fun _ => ?_))
      | exact ih0 _ _ _ _ _
      | exact ih1 _ _ _ _ _ _ _
      | exact LeO.none _
      | refine LeO.ite ?_ ?_
      | refine LeO.bind ?_ (fun _ => ?_)
    · intro y0 y1 y2 y3 y4 y5 y6
      unfold pretty_appendPrettyString.l1
      repeat' first
      | (with_reducible exact ih0 _ _ _ _ _)
      | (with_reducible exact ih1 _ _ _ _ _ _ _)
      | (with_reducible exact LeO.refl _)
      | (with_reducible exact LeO.none _)
      | (with_reducible refine LeO.ite ?_ ?_)
      | (with_reducible refine LeO.bind ?_ (fun _ => ?_))
      | exact ih0 _ _ _ _ _
      | exact ih1 _ _ _ _ _ _ _
      | exact LeO.none _
      | refine LeO.ite ?_ ?_
      | refine LeO.bind ?_ (fun _ => ?_)
theorem pretty_appendPrettyString.mono : ∀ a0 a1 a2 a3 k, LeO (pretty_appendPrettyString.f k a0 a1 a2 a3) (pretty_appendPrettyString.f (k + 1) a0 a1 a2 a3) := by
  intro a0 a1 a2 a3 k
  obtain ⟨ih0, ih1⟩ := pretty_appendPrettyString.mono_l k
  unfold pretty_appendPrettyString.f
  repeat' first
      | (with_reducible exact ih0 _ _ _ _ _)
      | (with_reducible exact ih1 _ _ _ _ _ _ _)
      | (with_reducible exact LeO.refl _)
      | (with_reducible exact LeO.none _)
      | (with_reducible refine LeO.ite ?_ ?_)
      | (with_reducible refine LeO.bind ?_ (fun _ => ?_))
      | exact ih0 _ _ _ _ _
      | exact ih1 _ _ _ _ _ _ _
      | exact LeO.none _
      | refine LeO.ite ?_ ?_
      | refine LeO.bind ?_ (fun _ => ?_)
set_option maxHeartbeats 8000000 in
set_option maxRecDepth 100000 in
theorem pretty_appendPrettyString.calls (k : Nat) (P0_ : Nat → Prop) (u9000_ : Value) (l0 : List Int) (A1 : Option Addr) (c1 : Nat) (l1 : List Int) (a2 : Int) (a3 : Int) (r1 : List Int) (r2 : Int) (r3 : Int) (r4 : Bool) (w0 w : World) (hB : Below w0.heap.size w0 w) (ho0 : Kd.R (Kd.int .u8) 5 w w0.heap.size P0_ u9000_ l0) (hr1 : ∀ W_, Kept w W_ (fun k_ => P0_ k_) → Kd.C (Kd.int .u8) W_ A1 l1.length l1) (hc1 : l1.length ≤ c1) (h : pretty_appendPrettyString.f k l0 l1 a2 a3 = some (r1, r2, r3, r4)) :
    Calls Try.prog 29 #[u9000_, .slice A1 l1.length c1, .int .i64 a2, .int .i64 a3] w fun e w' => ∃ v0_ : Value, e = .returned (.tuple #[v0_, .int .i64 r2, .int .i64 r3, .bool r4]) ∧ Kd.R (Kd.int .u8) 5 w' w0.heap.size (fun k_ => (P0_ k_ ∨ w.heap.size ≤ k_)) v0_ r1 ∧ Below w0.heap.size w0 w' ∧ Kept w w' (fun k_ => P0_ k_) := by
  have HO0 := Aside0.mk (show Kd.R (Kd.int .u8) 5 w w0.heap.size (fun k_ => (P0_ k_ ∨ w.heap.size ≤ k_)) u9000_ l0 from Kd.R_mono ho0 (fun k_ hk => (.inl hk)))
  have HR1 := Aside0.mk hr1
  have HC1 := Aside0.mk hc1
  clear hr1 hc1
  have HK := Aside0.mk (Kept.refl w (fun k_ => P0_ k_))
  have HW0 := Aside0.mk hB.size
  have HB := Aside0.mk hB
  clear hB
  have H : (pretty_appendPrettyString.l0 k l0 l1 (wrap64 (a2 + 1)) a3 a2) = some (r1, r2, r3, r4) := h
  clear h
  have H' := Aside0.mk H
  clear H
  go_enter Try.func29, Try.ntmps29
  go_wp2
  (try simp only [Act.put, List.setIfInBounds_toArray, List.set_cons_succ, List.set_cons_zero])
  go_loopg [2] k (fun kq v2 w' => ∃ (x2_1 : Int), v2 = .int .i64 x2_1 ∧ Aside0 (pretty_appendPrettyString.l0 kq l0 l1 x2_1 a3 a2 = some (r1, r2, r3, r4)) ∧ Aside0 (kq ≤ k) ∧ Aside0 (Kd.R (Kd.int .u8) 5 w' w0.heap.size (fun k_ => (P0_ k_ ∨ w.heap.size ≤ k_)) u9000_ l0) ∧ Aside0 (Kept w w' (fun k_ => P0_ k_)) ∧ Aside0 (Below w0.heap.size w0 w'))
  case atStart => exact ⟨(wrap64 (a2 + 1)), (by first | rfl | (simp; done) | (simp [*]; done)), H', ⟨Nat.le_refl _⟩, ⟨by (with_reducible repeat (first | apply Kd.R_alloc | apply Kd.R_drewN | apply Kd.R_drew)); exact HO0.out⟩, ⟨by repeat (first | (with_reducible first | exact HK.out | apply Kept.alloc | apply Kept.drewN | apply Kept.drew) | exact HK.out)⟩, ⟨by repeat (first | (with_reducible first | exact HB.out | apply below_alloc | apply pw_below_drewN | apply below_drew1) | exact HB.out)⟩⟩
  case round =>
    clear H'
    try clear c1
    try clear c2
    try clear p2
    obtain ⟨x2_1, rfl, HA, HK1, HO_0, HK, HB⟩ := hrel
    cases gk with
    | zero => exact absurd HA.out (by simp [pretty_appendPrettyString.l0])
    | succ k1 =>
      have H := HA.out
      clear HA
      simp only [pretty_appendPrettyString.l0] at H
      by_cases c5 : x2_1 < (l1.length : Int)
      · rw [if_pos c5] at H
        have c5b0 : decide (x2_1 < (l1.length : Int)) = true := decide_eq_true c5
        clear c5
        by_cases c6 : 0 ≤ x2_1
        · rw [if_pos c6] at H
          have c6b0 : decide (0 ≤ x2_1) = true := decide_eq_true c6
          clear c6
          by_cases c7 : (rd l1 x2_1) = 34
          · rw [if_pos c7] at H
            have c7b0 : ((rd l1 x2_1) == 34) = true := beq_iff_eq.mpr c7
            have c7b1 : ((rd l1 x2_1) != 34) = false := bne_eq_false_iff_eq.mpr c7
            clear c7
            have H' := Aside0.mk H
            clear H
            have p294 : 0 ≤ (x2_1 : Int) := of_decide_eq_true (by first | (with_reducible assumption) | assumption)
            have q294 : x2_1 < (l1.length : Int) := of_decide_eq_true (by first | (with_reducible assumption) | assumption)
            obtain ⟨ad294, e294, hx294_0⟩ := Kd.at_int (Kd.C_kept_now HR1.out HK.out) x2_1 p294 q294
            cases e294
            replace p294 := eq_true p294
            replace q294 := eq_true q294
            go_wp2
            (try simp only [Act.put, List.setIfInBounds_toArray, List.set_cons_succ, List.set_cons_zero])
            go_loopg [13, 14] k1 (fun kq v13 v14 w' => ∃ (x13_2 : Int) (x14_2 : Int), v13 = .int .i64 x13_2 ∧ v14 = .int .i64 x14_2 ∧ Aside0 (pretty_appendPrettyString.l1 kq l0 l1 x2_1 a3 a2 x13_2 x14_2 = some (r1, r2, r3, r4)) ∧ Aside0 (kq ≤ k1) ∧ Aside0 (Kd.R (Kd.int .u8) 5 w' w0.heap.size (fun k_ => (P0_ k_ ∨ w.heap.size ≤ k_)) u9000_ l0) ∧ Aside0 (Kept w w' (fun k_ => P0_ k_)) ∧ Aside0 (Below w0.heap.size w0 w'))
            case atStart => exact ⟨(0), (wrap64 (x2_1 - 1)), (by first | rfl | (simp; done) | (simp [*]; done)), (by first | rfl | (simp; done) | (simp [*]; done)), H', ⟨Nat.le_refl _⟩, ⟨by (with_reducible repeat (first | apply Kd.R_alloc | apply Kd.R_drewN | apply Kd.R_drew)); exact HO_0.out⟩, ⟨by repeat (first | (with_reducible first | exact HK.out | apply Kept.alloc | apply Kept.drewN | apply Kept.drew) | exact HK.out)⟩, ⟨by repeat (first | (with_reducible first | exact HB.out | apply below_alloc | apply pw_below_drewN | apply below_drew1) | exact HB.out)⟩⟩
            case round =>
              clear H'
              try clear c1
              try clear c2
              try clear p2
              try clear q2
              try clear hx2
              try clear c5
              try clear c5b0
              try clear c6
              try clear c6b0
              try clear p6
              try clear c7
              try clear c7b0
              try clear c7b1
              try clear hx294_0
              try clear p2
              try clear p294
              try clear q294
              obtain ⟨x13_2, x14_2, rfl, rfl, HA, HK2, HO_0, HK, HB⟩ := hrel
              cases gk with
              | zero => exact absurd HA.out (by simp [pretty_appendPrettyString.l1])
              | succ k2 =>
                have H := HA.out
                clear HA
                simp only [pretty_appendPrettyString.l1] at H
                by_cases c8 : x14_2 > a2
                · rw [if_pos c8] at H
                  have c8b0 : decide (a2 < x14_2) = true := decide_eq_true c8
                  clear c8
                  by_cases c9 : 0 ≤ x14_2
                  · rw [if_pos c9] at H
                    have c9b0 : decide (0 ≤ x14_2) = true := decide_eq_true c9
                    clear c9
                    by_cases c10 : x14_2 < (l1.length : Int)
                    · rw [if_pos c10] at H
                      have c10b0 : decide (x14_2 < (l1.length : Int)) = true := decide_eq_true c10
                      clear c10
                      by_cases c11 : (rd l1 x14_2) = 92
                      · rw [if_pos c11] at H
                        have c11b0 : ((rd l1 x14_2) == 92) = true := beq_iff_eq.mpr c11
                        have c11b1 : ((rd l1 x14_2) != 92) = false := bne_eq_false_iff_eq.mpr c11
                        clear c11
                        as_aux_lemma =>
                          have H' := Aside0.mk H
                          clear H
                          have p295 : 0 ≤ (x14_2 : Int) := of_decide_eq_true (by first | (with_reducible assumption) | assumption)
                          have q295 : x14_2 < (l1.length : Int) := of_decide_eq_true (by first | (with_reducible assumption) | assumption)
                          obtain ⟨ad295, e295, hx295_0⟩ := Kd.at_int (Kd.C_kept_now HR1.out HK.out) x14_2 p295 q295
                          obtain rfl : ad294 = ad295 := (by injection e295)
                          replace p295 := eq_true p295
                          replace q295 := eq_true q295
                          go_wp2
                          go_roundg k2
                          case measure => have := HK1.out; have := HK2.out; omega
                          case rel => exact ⟨(wrap64 (x13_2 + 1)), (wrap64 (x14_2 - 1)), (by first | rfl | (simp; done) | (simp [*]; done)), (by first | rfl | (simp; done) | (simp [*]; done)), H', ⟨by have := HK1.out; have := HK2.out; omega⟩, ⟨by (with_reducible repeat (first | apply Kd.R_alloc | apply Kd.R_drewN | apply Kd.R_drew)); exact HO_0.out⟩, ⟨by repeat (first | (with_reducible first | exact HK.out | apply Kept.alloc | apply Kept.drewN | apply Kept.drew) | exact HK.out)⟩, ⟨by repeat (first | (with_reducible first | exact HB.out | apply below_alloc | apply pw_below_drewN | apply below_drew1) | exact HB.out)⟩⟩
                      · rw [if_neg c11] at H
                        have c11b0 : ((rd l1 x14_2) == 92) = false := beq_eq_false_iff_ne.mpr c11
                        have c11b1 : ((rd l1 x14_2) != 92) = true := bne_iff_ne.mpr c11
                        by_cases c12 : (Int.tmod x13_2 2) = 1
                        · rw [if_pos c12] at H
                          have c12b0 : ((Int.tmod x13_2 2) == 1) = true := beq_iff_eq.mpr c12
                          have c12b1 : ((Int.tmod x13_2 2) != 1) = false := bne_eq_false_iff_eq.mpr c12
                          clear c12
                          as_aux_lemma =>
                            have H' := Aside0.mk H
                            clear H
                            have p295 : 0 ≤ (x14_2 : Int) := of_decide_eq_true (by first | (with_reducible assumption) | assumption)
                            have q295 : x14_2 < (l1.length : Int) := of_decide_eq_true (by first | (with_reducible assumption) | assumption)
                            obtain ⟨ad295, e295, hx295_0⟩ := Kd.at_int (Kd.C_kept_now HR1.out HK.out) x14_2 p295 q295
                            obtain rfl : ad294 = ad295 := (by injection e295)
                            replace p295 := eq_true p295
                            replace q295 := eq_true q295
                            go_wp2
                            go_roundg k2
                            case measure => have := HK1.out; have := HK2.out; omega
                            case rel => exact ⟨(wrap64 (x2_1 + 1)), (by first | rfl | (simp; done) | (simp [*]; done)), H', ⟨by have := HK1.out; have := HK2.out; omega⟩, ⟨by (with_reducible repeat (first | apply Kd.R_alloc | apply Kd.R_drewN | apply Kd.R_drew)); exact HO_0.out⟩, ⟨by repeat (first | (with_reducible first | exact HK.out | apply Kept.alloc | apply Kept.drewN | apply Kept.drew) | exact HK.out)⟩, ⟨by repeat (first | (with_reducible first | exact HB.out | apply below_alloc | apply pw_below_drewN | apply below_drew1) | exact HB.out)⟩⟩
                        · rw [if_neg c12] at H
                          have c12b0 : ((Int.tmod x13_2 2) == 1) = false := beq_eq_false_iff_ne.mpr c12
                          have c12b1 : ((Int.tmod x13_2 2) != 1) = true := bne_iff_ne.mpr c12
                          by_cases c13 : 0 ≤ a2
                          · rw [if_pos c13] at H
                            have c13b0 := eq_true c13
                            have c13b1 : decide (0 ≤ a2) = true := decide_eq_true c13
                            clear c13
                            by_cases c14 : a2 ≤ (wrap64 (x2_1 + 1))
                            · rw [if_pos c14] at H
                              have c14b0 := eq_true c14
                              have c14b1 : decide (a2 ≤ (wrap64 (x2_1 + 1))) = true := decide_eq_true c14
                              by_cases c15 : (wrap64 (x2_1 + 1)) ≤ (l1.length : Int)
                              · rw [if_pos c15] at H
                                have c15b0 := eq_true c15
                                have c15b1 : decide ((wrap64 (x2_1 + 1)) ≤ (l1.length : Int)) = true := decide_eq_true c15
                                obtain ⟨y296, hy296⟩ : ∃ y_ : List Int, y_ = ((l1.take ((wrap64 (x2_1 + 1)) : Int).toNat).drop (a2 : Int).toNat) := ⟨_, rfl⟩
                                replace H : (if l0.length + y296.length < 140737488355328 then (some ((l0 ++ y296), wrap64 (x2_1 + 1), a3, true)) else (none)) = some (r1, r2, r3, r4) := by first | (rw [hy296]; with_reducible exact H) | (have H2_ := (Option.bind_some _ _).symm.trans H; rw [hy296]; with_reducible exact H2_) | (have H2_ := (Option.bind_some _ _).symm.trans H; with_reducible exact H2_) | with_reducible exact H | (rw [hy296]; exact H) | exact H
                                have Ny296 := Aside0.mk hy296
                                clear hy296
                                by_cases c16 : l0.length + y296.length < 140737488355328
                                · rw [if_pos c16] at H
                                  have LMc16 := Aside0.mk c16
                                  clear c16
                                  obtain ⟨y300, hy300⟩ : ∃ y_ : List Int, y_ = (l0 ++ y296) := ⟨_, rfl⟩
                                  replace H : (some (y300, wrap64 (x2_1 + 1), a3, true)) = some (r1, r2, r3, r4) := by first | (rw [hy300]; with_reducible exact H) | (have H2_ := (Option.bind_some _ _).symm.trans H; rw [hy300]; with_reducible exact H2_) | (have H2_ := (Option.bind_some _ _).symm.trans H; with_reducible exact H2_) | with_reducible exact H | (rw [hy300]; exact H) | exact H
                                  have Ny300 := Aside0.mk hy300
                                  clear hy300
                                  as_aux_lemma =>
                                    simp only [Option.some.injEq, Prod.mk.injEq] at H
                                    obtain ⟨rfl, rfl, rfl, rfl⟩ := H
                                    have p295 : 0 ≤ (x14_2 : Int) := of_decide_eq_true (by first | (with_reducible assumption) | assumption)
                                    have q295 : x14_2 < (l1.length : Int) := of_decide_eq_true (by first | (with_reducible assumption) | assumption)
                                    obtain ⟨ad295, e295, hx295_0⟩ := Kd.at_int (Kd.C_kept_now HR1.out HK.out) x14_2 p295 q295
                                    obtain rfl : ad294 = ad295 := (by injection e295)
                                    replace p295 := eq_true p295
                                    replace q295 := eq_true q295
                                    have q17 : ((wrap64 (x2_1 + 1)) : Int) ≤ ((l1.length : Int) : Int) := of_decide_eq_true (by first | (with_reducible assumption) | assumption)
                                    obtain ⟨i017, hi017, _, hsz17, _⟩ := info_parts info5
                                    have hroom17 : l1.length ≤ c1 := HC1.out
                                    have hC17 : Kd.C (Kd.int .u8) _ (some ad294) l1.length l1 := (Kd.C_kept_now HR1.out HK.out)
                                    have ql17 : (a2 : Int) ≤ ((wrap64 (x2_1 + 1)) : Int) := of_decide_eq_true (by first | (with_reducible assumption) | assumption)
                                    have q017 : (0 : Int) ≤ (a2 : Int) := of_decide_eq_true (by first | (with_reducible assumption) | assumption)
                                    have hcut17 := cut_mid (P := Try.prog) 37 5 .i64 .i64 Try.underlying37 hi017 1 hsz17 (some ad294) l1.length c1 a2 (wrap64 (x2_1 + 1)) q017 ql17 q17 hroom17
                                    have hr17 := Kd.C_mid (lo := (a2 : Int).toNat) (hi := ((wrap64 (x2_1 + 1)) : Int).toNat) (c := c1) hC17 (by omega) (by omega) hroom17
                                    obtain ⟨A17, hA17⟩ : ∃ z_, z_ = (if c1 = (a2 : Int).toNat then (some ad294) else ((some ad294) : Option Addr).map (·.add ((a2 : Int).toNat * 1))) := ⟨_, rfl⟩
                                    obtain ⟨c17, hc17⟩ : ∃ z_, z_ = c1 - (a2 : Int).toNat := ⟨_, rfl⟩
                                    have hy17 : y296.length = ((wrap64 (x2_1 + 1)) : Int).toNat - (a2 : Int).toNat := (by rw [Ny296.out, List.length_drop, List.length_take] <;> omega)
                                    rw [show ((l1).take ((wrap64 (x2_1 + 1)) : Int).toNat).drop (a2 : Int).toNat = y296 from Ny296.out.symm] at hr17
                                    replace hr17 : Kd.C (Kd.int .u8) _ A17 y296.length y296 := (by rw [hA17]; exact hr17)
                                    rw [← hy17, ← hA17, ← hc17] at hcut17
                                    have HR299 := Aside0.mk hr17
                                    have HC299 := Aside0.mk (show y296.length ≤ c17 from by rw [hy17, hc17]; exact Nat.sub_le_sub_right (Nat.le_trans (by omega) hroom17) _)
                                    clear hr17 hC17 hroom17 hi017 hsz17 hc17
                                    have KY17 := Aside0.mk hy17
                                    have KA17 := Aside0.mk hA17
                                    clear hy17 hA17
                                    have KL17 := Aside0.mk (show ((wrap64 (x2_1 + 1)) : Int).toNat ≤ l1.length from by omega)
                                    have KM17 := Aside0.mk (show (a2 : Int).toNat ≤ ((wrap64 (x2_1 + 1)) : Int).toNat from by omega)
                                    replace q17 := eq_true q17
                                    go_wp2_with (first | ((with_reducible refine gate_builtin (b := .append) (xs := #[.tmp 48, .tmp 52]) rfl ?_); at_builtin; refine Kd.R_append_rows (Kd.int .u8) (w0 := w0) w0.heap.size rfl (.tmp 48) (.tmp 52) 37 5 (.int .u8 0) 1 rfl Try.underlying37 info5 rfl (by decide) (by omega) u9000_ l0 y296 _ _ _ (fun k_ => (P0_ k_ ∨ w.heap.size ≤ k_)) (fun _ => False) rfl rfl ?aO ?aR (fun _ _ h => h) (fun _ h => h.elim) ?aF ?aB ?aS ?aL ?_; (case aR => repeat (first | exact (by repeat (first | (with_reducible exact HR299.out) | (with_reducible refine Kd.C_alloc ?_ _) | (with_reducible refine Kd.C_drewN ?_ _) | (with_reducible refine Kd.C_drew ?_) | exact HR299.out)) | (with_reducible refine Kd.C_alloc ?_ _) | (with_reducible refine Kd.C_drewN ?_ _) | (with_reducible refine Kd.C_drew ?_))); (case aB => exact (by repeat (first | (with_reducible first | exact HB.out | apply below_alloc | apply pw_below_drewN | apply below_drew1) | exact HB.out))); (case aF => exact (fun k_ hk => (.inr (Nat.le_trans (by first | exact HK.out.1 | exact (show Kept w _ (fun k_ => P0_ k_) from by repeat (first | (with_reducible first | exact HK.out | apply Kept.alloc | apply Kept.drewN | apply Kept.drew) | exact HK.out)).1) hk)))); (case aO => exact (by (with_reducible repeat (first | apply Kd.R_alloc | apply Kd.R_drewN | apply Kd.R_drew)); exact HO_0.out)); (case aS => exact (below_size (by repeat (first | (with_reducible first | exact HB.out | apply below_alloc | apply pw_below_drewN | apply below_drew1) | exact HB.out)))); (case aL => have := LMc16.out; omega); intro v301 w18 ho hb hg hat; rw [← Ny300.out] at ho; have n0_ := Aside0.mk (hb); have n1_ := Aside0.mk (Kept.of_grown (S := (fun k_ => P0_ k_)) hg (by repeat (first | (with_reducible first | exact HK.out | apply Kept.alloc | apply Kept.drewN | apply Kept.drew) | exact HK.out)) (fun k_ e_ => (HO_0.out.1 k_ e_))); have n2_ := Aside0.mk ((show Kd.C (Kd.int .u8) w18 A17 y296.length y296 from by rw [Ny296.out, KA17.out]; exact Kd.C_mid (lo := (a2 : Int).toNat) (hi := ((wrap64 (x2_1 + 1)) : Int).toNat) (c := c1) (Kd.C_kept_now HR1.out (show Kept w w18 (fun k_ => P0_ k_) from (Kept.of_grown (S := (fun k_ => P0_ k_)) hg (by repeat (first | (with_reducible first | exact HK.out | apply Kept.alloc | apply Kept.drewN | apply Kept.drew) | exact HK.out)) (fun k_ e_ => (HO_0.out.1 k_ e_))))) KM17.out KL17.out HC1.out)); have n3_ := Aside0.mk (ho); clear HB; clear HK; clear HR299; clear HO_0; have HB := n0_; have HK := n1_; have HR299 := n2_; have HO302 := n3_; clear n0_ n1_ n2_ n3_; clear ho hb hg hat))
                                    refine bodyPost_ret (results_list (rs := [.tmp 8, .tmp 9, .tmp 10, .tmp 11]) rfl (by simp) (.tmp (.tmp (.tmp (.tmp .nil))))) rfl ?_
                                    exact ⟨_, by first | rfl | (simp [errW_none, errW_some] <;> rfl) | (simp [*, errW_none, errW_some] <;> rfl), by (with_reducible repeat (first | apply Kd.R_alloc | apply Kd.R_drewN | apply Kd.R_drew)); exact HO302.out, by repeat (first | (with_reducible first | exact HB.out | apply below_alloc | apply pw_below_drewN | apply below_drew1) | exact HB.out), by repeat (first | (with_reducible first | exact HK.out | apply Kept.alloc | apply Kept.drewN | apply Kept.drew) | exact HK.out)⟩
                                · rw [if_neg c16] at H
                                  exact absurd H (by simp)
                              · rw [if_neg c15] at H
                                exact absurd H (by simp)
                            · rw [if_neg c14] at H
                              exact absurd H (by simp)
                          · rw [if_neg c13] at H
                            exact absurd H (by simp)
                    · rw [if_neg c10] at H
                      exact absurd H (by simp)
                  · rw [if_neg c9] at H
                    exact absurd H (by simp)
                · rw [if_neg c8] at H
                  have c8b0 : decide (a2 < x14_2) = false := decide_eq_false c8
                  clear c8
                  by_cases c19 : (Int.tmod x13_2 2) = 1
                  · rw [if_pos c19] at H
                    have c19b0 : ((Int.tmod x13_2 2) == 1) = true := beq_iff_eq.mpr c19
                    have c19b1 : ((Int.tmod x13_2 2) != 1) = false := bne_eq_false_iff_eq.mpr c19
                    clear c19
                    as_aux_lemma =>
                      have H' := Aside0.mk H
                      clear H
                      go_wp2
                      go_roundg k2
                      case measure => have := HK1.out; have := HK2.out; omega
                      case rel => exact ⟨(wrap64 (x2_1 + 1)), (by first | rfl | (simp; done) | (simp [*]; done)), H', ⟨by have := HK1.out; have := HK2.out; omega⟩, ⟨by (with_reducible repeat (first | apply Kd.R_alloc | apply Kd.R_drewN | apply Kd.R_drew)); exact HO_0.out⟩, ⟨by repeat (first | (with_reducible first | exact HK.out | apply Kept.alloc | apply Kept.drewN | apply Kept.drew) | exact HK.out)⟩, ⟨by repeat (first | (with_reducible first | exact HB.out | apply below_alloc | apply pw_below_drewN | apply below_drew1) | exact HB.out)⟩⟩
                  · rw [if_neg c19] at H
                    have c19b0 : ((Int.tmod x13_2 2) == 1) = false := beq_eq_false_iff_ne.mpr c19
                    have c19b1 : ((Int.tmod x13_2 2) != 1) = true := bne_iff_ne.mpr c19
                    by_cases c20 : 0 ≤ a2
                    · rw [if_pos c20] at H
                      have c20b0 := eq_true c20
                      have c20b1 : decide (0 ≤ a2) = true := decide_eq_true c20
                      clear c20
                      by_cases c21 : a2 ≤ (wrap64 (x2_1 + 1))
                      · rw [if_pos c21] at H
                        have c21b0 := eq_true c21
                        have c21b1 : decide (a2 ≤ (wrap64 (x2_1 + 1))) = true := decide_eq_true c21
                        by_cases c22 : (wrap64 (x2_1 + 1)) ≤ (l1.length : Int)
                        · rw [if_pos c22] at H
                          have c22b0 := eq_true c22
                          have c22b1 : decide ((wrap64 (x2_1 + 1)) ≤ (l1.length : Int)) = true := decide_eq_true c22
                          obtain ⟨y303, hy303⟩ : ∃ y_ : List Int, y_ = ((l1.take ((wrap64 (x2_1 + 1)) : Int).toNat).drop (a2 : Int).toNat) := ⟨_, rfl⟩
                          replace H : (if l0.length + y303.length < 140737488355328 then (some ((l0 ++ y303), wrap64 (x2_1 + 1), a3, true)) else (none)) = some (r1, r2, r3, r4) := by first | (rw [hy303]; with_reducible exact H) | (have H2_ := (Option.bind_some _ _).symm.trans H; rw [hy303]; with_reducible exact H2_) | (have H2_ := (Option.bind_some _ _).symm.trans H; with_reducible exact H2_) | with_reducible exact H | (rw [hy303]; exact H) | exact H
                          have Ny303 := Aside0.mk hy303
                          clear hy303
                          by_cases c23 : l0.length + y303.length < 140737488355328
                          · rw [if_pos c23] at H
                            have LMc23 := Aside0.mk c23
                            clear c23
                            obtain ⟨y307, hy307⟩ : ∃ y_ : List Int, y_ = (l0 ++ y303) := ⟨_, rfl⟩
                            replace H : (some (y307, wrap64 (x2_1 + 1), a3, true)) = some (r1, r2, r3, r4) := by first | (rw [hy307]; with_reducible exact H) | (have H2_ := (Option.bind_some _ _).symm.trans H; rw [hy307]; with_reducible exact H2_) | (have H2_ := (Option.bind_some _ _).symm.trans H; with_reducible exact H2_) | with_reducible exact H | (rw [hy307]; exact H) | exact H
                            have Ny307 := Aside0.mk hy307
                            clear hy307
                            as_aux_lemma =>
                              simp only [Option.some.injEq, Prod.mk.injEq] at H
                              obtain ⟨rfl, rfl, rfl, rfl⟩ := H
                              have q24 : ((wrap64 (x2_1 + 1)) : Int) ≤ ((l1.length : Int) : Int) := of_decide_eq_true (by first | (with_reducible assumption) | assumption)
                              obtain ⟨i024, hi024, _, hsz24, _⟩ := info_parts info5
                              have hroom24 : l1.length ≤ c1 := HC1.out
                              have hC24 : Kd.C (Kd.int .u8) _ (some ad294) l1.length l1 := (Kd.C_kept_now HR1.out HK.out)
                              have ql24 : (a2 : Int) ≤ ((wrap64 (x2_1 + 1)) : Int) := of_decide_eq_true (by first | (with_reducible assumption) | assumption)
                              have q024 : (0 : Int) ≤ (a2 : Int) := of_decide_eq_true (by first | (with_reducible assumption) | assumption)
                              have hcut24 := cut_mid (P := Try.prog) 37 5 .i64 .i64 Try.underlying37 hi024 1 hsz24 (some ad294) l1.length c1 a2 (wrap64 (x2_1 + 1)) q024 ql24 q24 hroom24
                              have hr24 := Kd.C_mid (lo := (a2 : Int).toNat) (hi := ((wrap64 (x2_1 + 1)) : Int).toNat) (c := c1) hC24 (by omega) (by omega) hroom24
                              obtain ⟨A24, hA24⟩ : ∃ z_, z_ = (if c1 = (a2 : Int).toNat then (some ad294) else ((some ad294) : Option Addr).map (·.add ((a2 : Int).toNat * 1))) := ⟨_, rfl⟩
                              obtain ⟨c24, hc24⟩ : ∃ z_, z_ = c1 - (a2 : Int).toNat := ⟨_, rfl⟩
                              have hy24 : y303.length = ((wrap64 (x2_1 + 1)) : Int).toNat - (a2 : Int).toNat := (by rw [Ny303.out, List.length_drop, List.length_take] <;> omega)
                              rw [show ((l1).take ((wrap64 (x2_1 + 1)) : Int).toNat).drop (a2 : Int).toNat = y303 from Ny303.out.symm] at hr24
                              replace hr24 : Kd.C (Kd.int .u8) _ A24 y303.length y303 := (by rw [hA24]; exact hr24)
                              rw [← hy24, ← hA24, ← hc24] at hcut24
                              have HR306 := Aside0.mk hr24
                              have HC306 := Aside0.mk (show y303.length ≤ c24 from by rw [hy24, hc24]; exact Nat.sub_le_sub_right (Nat.le_trans (by omega) hroom24) _)
                              clear hr24 hC24 hroom24 hi024 hsz24 hc24
                              have KY24 := Aside0.mk hy24
                              have KA24 := Aside0.mk hA24
                              clear hy24 hA24
                              have KL24 := Aside0.mk (show ((wrap64 (x2_1 + 1)) : Int).toNat ≤ l1.length from by omega)
                              have KM24 := Aside0.mk (show (a2 : Int).toNat ≤ ((wrap64 (x2_1 + 1)) : Int).toNat from by omega)
                              replace q24 := eq_true q24
                              go_wp2_with (first | ((with_reducible refine gate_builtin (b := .append) (xs := #[.tmp 48, .tmp 52]) rfl ?_); at_builtin; refine Kd.R_append_rows (Kd.int .u8) (w0 := w0) w0.heap.size rfl (.tmp 48) (.tmp 52) 37 5 (.int .u8 0) 1 rfl Try.underlying37 info5 rfl (by decide) (by omega) u9000_ l0 y303 _ _ _ (fun k_ => (P0_ k_ ∨ w.heap.size ≤ k_)) (fun _ => False) rfl rfl ?aO ?aR (fun _ _ h => h) (fun _ h => h.elim) ?aF ?aB ?aS ?aL ?_; (case aR => repeat (first | exact (by repeat (first | (with_reducible exact HR306.out) | (with_reducible refine Kd.C_alloc ?_ _) | (with_reducible refine Kd.C_drewN ?_ _) | (with_reducible refine Kd.C_drew ?_) | exact HR306.out)) | (with_reducible refine Kd.C_alloc ?_ _) | (with_reducible refine Kd.C_drewN ?_ _) | (with_reducible refine Kd.C_drew ?_))); (case aB => exact (by repeat (first | (with_reducible first | exact HB.out | apply below_alloc | apply pw_below_drewN | apply below_drew1) | exact HB.out))); (case aF => exact (fun k_ hk => (.inr (Nat.le_trans (by first | exact HK.out.1 | exact (show Kept w _ (fun k_ => P0_ k_) from by repeat (first | (with_reducible first | exact HK.out | apply Kept.alloc | apply Kept.drewN | apply Kept.drew) | exact HK.out)).1) hk)))); (case aO => exact (by (with_reducible repeat (first | apply Kd.R_alloc | apply Kd.R_drewN | apply Kd.R_drew)); exact HO_0.out)); (case aS => exact (below_size (by repeat (first | (with_reducible first | exact HB.out | apply below_alloc | apply pw_below_drewN | apply below_drew1) | exact HB.out)))); (case aL => have := LMc23.out; omega); intro v308 w25 ho hb hg hat; rw [← Ny307.out] at ho; have n0_ := Aside0.mk (hb); have n1_ := Aside0.mk (Kept.of_grown (S := (fun k_ => P0_ k_)) hg (by repeat (first | (with_reducible first | exact HK.out | apply Kept.alloc | apply Kept.drewN | apply Kept.drew) | exact HK.out)) (fun k_ e_ => (HO_0.out.1 k_ e_))); have n2_ := Aside0.mk ((show Kd.C (Kd.int .u8) w25 A24 y303.length y303 from by rw [Ny303.out, KA24.out]; exact Kd.C_mid (lo := (a2 : Int).toNat) (hi := ((wrap64 (x2_1 + 1)) : Int).toNat) (c := c1) (Kd.C_kept_now HR1.out (show Kept w w25 (fun k_ => P0_ k_) from (Kept.of_grown (S := (fun k_ => P0_ k_)) hg (by repeat (first | (with_reducible first | exact HK.out | apply Kept.alloc | apply Kept.drewN | apply Kept.drew) | exact HK.out)) (fun k_ e_ => (HO_0.out.1 k_ e_))))) KM24.out KL24.out HC1.out)); have n3_ := Aside0.mk (ho); clear HB; clear HK; clear HR306; clear HO_0; have HB := n0_; have HK := n1_; have HR306 := n2_; have HO309 := n3_; clear n0_ n1_ n2_ n3_; clear ho hb hg hat))
                              refine bodyPost_ret (results_list (rs := [.tmp 8, .tmp 9, .tmp 10, .tmp 11]) rfl (by simp) (.tmp (.tmp (.tmp (.tmp .nil))))) rfl ?_
                              exact ⟨_, by first | rfl | (simp [errW_none, errW_some] <;> rfl) | (simp [*, errW_none, errW_some] <;> rfl), by (with_reducible repeat (first | apply Kd.R_alloc | apply Kd.R_drewN | apply Kd.R_drew)); exact HO309.out, by repeat (first | (with_reducible first | exact HB.out | apply below_alloc | apply pw_below_drewN | apply below_drew1) | exact HB.out), by repeat (first | (with_reducible first | exact HK.out | apply Kept.alloc | apply Kept.drewN | apply Kept.drew) | exact HK.out)⟩
                          · rw [if_neg c23] at H
                            exact absurd H (by simp)
                        · rw [if_neg c22] at H
                          exact absurd H (by simp)
                      · rw [if_neg c21] at H
                        exact absurd H (by simp)
                    · rw [if_neg c20] at H
                      exact absurd H (by simp)
          · rw [if_neg c7] at H
            have c7b0 : ((rd l1 x2_1) == 34) = false := beq_eq_false_iff_ne.mpr c7
            have c7b1 : ((rd l1 x2_1) != 34) = true := bne_iff_ne.mpr c7
            as_aux_lemma =>
              have H' := Aside0.mk H
              clear H
              have p294 : 0 ≤ (x2_1 : Int) := of_decide_eq_true (by first | (with_reducible assumption) | assumption)
              have q294 : x2_1 < (l1.length : Int) := of_decide_eq_true (by first | (with_reducible assumption) | assumption)
              obtain ⟨ad294, e294, hx294_0⟩ := Kd.at_int (Kd.C_kept_now HR1.out HK.out) x2_1 p294 q294
              cases e294
              replace p294 := eq_true p294
              replace q294 := eq_true q294
              go_wp2
              go_roundg k1
              case measure => have := HK1.out; omega
              case rel => exact ⟨(wrap64 (x2_1 + 1)), (by first | rfl | (simp; done) | (simp [*]; done)), H', ⟨by have := HK1.out; omega⟩, ⟨by (with_reducible repeat (first | apply Kd.R_alloc | apply Kd.R_drewN | apply Kd.R_drew)); exact HO_0.out⟩, ⟨by repeat (first | (with_reducible first | exact HK.out | apply Kept.alloc | apply Kept.drewN | apply Kept.drew) | exact HK.out)⟩, ⟨by repeat (first | (with_reducible first | exact HB.out | apply below_alloc | apply pw_below_drewN | apply below_drew1) | exact HB.out)⟩⟩
        · rw [if_neg c6] at H
          exact absurd H (by simp)
      · rw [if_neg c5] at H
        have c5b0 : decide (x2_1 < (l1.length : Int)) = false := decide_eq_false c5
        clear c5
        by_cases c26 : 0 ≤ a2
        · rw [if_pos c26] at H
          have c26b0 := eq_true c26
          have c26b1 : decide (0 ≤ a2) = true := decide_eq_true c26
          clear c26
          by_cases c27 : a2 ≤ x2_1
          · rw [if_pos c27] at H
            have c27b0 := eq_true c27
            have c27b1 : decide (a2 ≤ x2_1) = true := decide_eq_true c27
            clear c27
            by_cases c28 : x2_1 ≤ (l1.length : Int)
            · rw [if_pos c28] at H
              have c28b0 := eq_true c28
              have c28b1 : decide (x2_1 ≤ (l1.length : Int)) = true := decide_eq_true c28
              clear c28
              obtain ⟨y287, hy287⟩ : ∃ y_ : List Int, y_ = ((l1.take (x2_1 : Int).toNat).drop (a2 : Int).toNat) := ⟨_, rfl⟩
              replace H : (if l0.length + y287.length < 140737488355328 then (some ((l0 ++ y287), x2_1, a3, true)) else (none)) = some (r1, r2, r3, r4) := by first | (rw [hy287]; with_reducible exact H) | (have H2_ := (Option.bind_some _ _).symm.trans H; rw [hy287]; with_reducible exact H2_) | (have H2_ := (Option.bind_some _ _).symm.trans H; with_reducible exact H2_) | with_reducible exact H | (rw [hy287]; exact H) | exact H
              have Ny287 := Aside0.mk hy287
              clear hy287
              by_cases c29 : l0.length + y287.length < 140737488355328
              · rw [if_pos c29] at H
                have LMc29 := Aside0.mk c29
                clear c29
                obtain ⟨y291, hy291⟩ : ∃ y_ : List Int, y_ = (l0 ++ y287) := ⟨_, rfl⟩
                replace H : (some (y291, x2_1, a3, true)) = some (r1, r2, r3, r4) := by first | (rw [hy291]; with_reducible exact H) | (have H2_ := (Option.bind_some _ _).symm.trans H; rw [hy291]; with_reducible exact H2_) | (have H2_ := (Option.bind_some _ _).symm.trans H; with_reducible exact H2_) | with_reducible exact H | (rw [hy291]; exact H) | exact H
                have Ny291 := Aside0.mk hy291
                clear hy291
                as_aux_lemma =>
                  simp only [Option.some.injEq, Prod.mk.injEq] at H
                  obtain ⟨rfl, rfl, rfl, rfl⟩ := H
                  have q30 : (x2_1 : Int) ≤ ((l1.length : Int) : Int) := of_decide_eq_true (by first | (with_reducible assumption) | assumption)
                  obtain ⟨i030, hi030, _, hsz30, _⟩ := info_parts info5
                  have hroom30 : l1.length ≤ c1 := HC1.out
                  have hC30 : Kd.C (Kd.int .u8) _ A1 l1.length l1 := (Kd.C_kept_now HR1.out HK.out)
                  have ql30 : (a2 : Int) ≤ (x2_1 : Int) := of_decide_eq_true (by first | (with_reducible assumption) | assumption)
                  have q030 : (0 : Int) ≤ (a2 : Int) := of_decide_eq_true (by first | (with_reducible assumption) | assumption)
                  have hcut30 := cut_mid (P := Try.prog) 37 5 .i64 .i64 Try.underlying37 hi030 1 hsz30 A1 l1.length c1 a2 x2_1 q030 ql30 q30 hroom30
                  have hr30 := Kd.C_mid (lo := (a2 : Int).toNat) (hi := (x2_1 : Int).toNat) (c := c1) hC30 (by omega) (by omega) hroom30
                  obtain ⟨A30, hA30⟩ : ∃ z_, z_ = (if c1 = (a2 : Int).toNat then A1 else (A1 : Option Addr).map (·.add ((a2 : Int).toNat * 1))) := ⟨_, rfl⟩
                  obtain ⟨c30, hc30⟩ : ∃ z_, z_ = c1 - (a2 : Int).toNat := ⟨_, rfl⟩
                  have hy30 : y287.length = (x2_1 : Int).toNat - (a2 : Int).toNat := (by rw [Ny287.out, List.length_drop, List.length_take] <;> omega)
                  rw [show ((l1).take (x2_1 : Int).toNat).drop (a2 : Int).toNat = y287 from Ny287.out.symm] at hr30
                  replace hr30 : Kd.C (Kd.int .u8) _ A30 y287.length y287 := (by rw [hA30]; exact hr30)
                  rw [← hy30, ← hA30, ← hc30] at hcut30
                  have HR290 := Aside0.mk hr30
                  have HC290 := Aside0.mk (show y287.length ≤ c30 from by rw [hy30, hc30]; exact Nat.sub_le_sub_right (Nat.le_trans (by omega) hroom30) _)
                  clear hr30 hC30 hroom30 hi030 hsz30 hc30
                  have KY30 := Aside0.mk hy30
                  have KA30 := Aside0.mk hA30
                  clear hy30 hA30
                  have KL30 := Aside0.mk (show (x2_1 : Int).toNat ≤ l1.length from by omega)
                  have KM30 := Aside0.mk (show (a2 : Int).toNat ≤ (x2_1 : Int).toNat from by omega)
                  replace q30 := eq_true q30
                  go_wp2_with (first | ((with_reducible refine gate_builtin (b := .append) (xs := #[.tmp 48, .tmp 52]) rfl ?_); at_builtin; refine Kd.R_append_rows (Kd.int .u8) (w0 := w0) w0.heap.size rfl (.tmp 48) (.tmp 52) 37 5 (.int .u8 0) 1 rfl Try.underlying37 info5 rfl (by decide) (by omega) u9000_ l0 y287 _ _ _ (fun k_ => (P0_ k_ ∨ w.heap.size ≤ k_)) (fun _ => False) rfl rfl ?aO ?aR (fun _ _ h => h) (fun _ h => h.elim) ?aF ?aB ?aS ?aL ?_; (case aR => repeat (first | exact (by repeat (first | (with_reducible exact HR290.out) | (with_reducible refine Kd.C_alloc ?_ _) | (with_reducible refine Kd.C_drewN ?_ _) | (with_reducible refine Kd.C_drew ?_) | exact HR290.out)) | (with_reducible refine Kd.C_alloc ?_ _) | (with_reducible refine Kd.C_drewN ?_ _) | (with_reducible refine Kd.C_drew ?_))); (case aB => exact (by repeat (first | (with_reducible first | exact HB.out | apply below_alloc | apply pw_below_drewN | apply below_drew1) | exact HB.out))); (case aF => exact (fun k_ hk => (.inr (Nat.le_trans (by first | exact HK.out.1 | exact (show Kept w _ (fun k_ => P0_ k_) from by repeat (first | (with_reducible first | exact HK.out | apply Kept.alloc | apply Kept.drewN | apply Kept.drew) | exact HK.out)).1) hk)))); (case aO => exact (by (with_reducible repeat (first | apply Kd.R_alloc | apply Kd.R_drewN | apply Kd.R_drew)); exact HO_0.out)); (case aS => exact (below_size (by repeat (first | (with_reducible first | exact HB.out | apply below_alloc | apply pw_below_drewN | apply below_drew1) | exact HB.out)))); (case aL => have := LMc29.out; omega); intro v292 w31 ho hb hg hat; rw [← Ny291.out] at ho; have n0_ := Aside0.mk (hb); have n1_ := Aside0.mk (Kept.of_grown (S := (fun k_ => P0_ k_)) hg (by repeat (first | (with_reducible first | exact HK.out | apply Kept.alloc | apply Kept.drewN | apply Kept.drew) | exact HK.out)) (fun k_ e_ => (HO_0.out.1 k_ e_))); have n2_ := Aside0.mk ((show Kd.C (Kd.int .u8) w31 A30 y287.length y287 from by rw [Ny287.out, KA30.out]; exact Kd.C_mid (lo := (a2 : Int).toNat) (hi := (x2_1 : Int).toNat) (c := c1) (Kd.C_kept_now HR1.out (show Kept w w31 (fun k_ => P0_ k_) from (Kept.of_grown (S := (fun k_ => P0_ k_)) hg (by repeat (first | (with_reducible first | exact HK.out | apply Kept.alloc | apply Kept.drewN | apply Kept.drew) | exact HK.out)) (fun k_ e_ => (HO_0.out.1 k_ e_))))) KM30.out KL30.out HC1.out)); have n3_ := Aside0.mk (ho); clear HB; clear HK; clear HR290; clear HO_0; have HB := n0_; have HK := n1_; have HR290 := n2_; have HO293 := n3_; clear n0_ n1_ n2_ n3_; clear ho hb hg hat))
                  refine bodyPost_ret (results_list (rs := [.tmp 8, .tmp 9, .tmp 10, .tmp 11]) rfl (by simp) (.tmp (.tmp (.tmp (.tmp .nil))))) rfl ?_
                  exact ⟨_, by first | rfl | (simp [errW_none, errW_some] <;> rfl) | (simp [*, errW_none, errW_some] <;> rfl), by (with_reducible repeat (first | apply Kd.R_alloc | apply Kd.R_drewN | apply Kd.R_drew)); exact HO293.out, by repeat (first | (with_reducible first | exact HB.out | apply below_alloc | apply pw_below_drewN | apply below_drew1) | exact HB.out), by repeat (first | (with_reducible first | exact HK.out | apply Kept.alloc | apply Kept.drewN | apply Kept.drew) | exact HK.out)⟩
              · rw [if_neg c29] at H
                exact absurd H (by simp)
            · rw [if_neg c28] at H
              exact absurd H (by simp)
          · rw [if_neg c27] at H
            exact absurd H (by simp)
        · rw [if_neg c26] at H
          exact absurd H (by simp)

/-! ### pretty_isNaNOrInf: function 30 -/
def pretty_isNaNOrInf.f (l0 : List Int) : Option (Bool) := if 0 < (l0.length : Int) then (if (rd l0 0) = 105 then (some true) else (if (rd l0 0) = 73 then (some true) else (if (rd l0 0) = 43 then (some true) else (if (rd l0 0) = 78 then (some true) else (if (rd l0 0) = 110 then (if (l0.length : Int) > 1 then (if 1 < (l0.length : Int) then (some ((rd l0 1) != 117)) else (none)) else (some false)) else (some false)))))) else (none)
set_option maxHeartbeats 8000000 in
set_option maxRecDepth 100000 in
theorem pretty_isNaNOrInf.calls (A0 : Option Addr) (c0 : Nat) (l0 : List Int) (r : Bool) (w : World) (hr0 : Kd.C (Kd.int .u8) w A0 l0.length l0) (hc0 : l0.length ≤ c0) (h : pretty_isNaNOrInf.f l0 = some r) :
    Calls Try.prog 30 #[.slice A0 l0.length c0] w fun e w' => e = .returned (.bool r) ∧ Drawn0 w w' := by
  have HR0 := Aside0.mk hr0
  have HC0 := Aside0.mk hc0
  clear hr0 hc0
  have H : (if 0 < (l0.length : Int) then (if (rd l0 0) = 105 then (some true) else (if (rd l0 0) = 73 then (some true) else (if (rd l0 0) = 43 then (some true) else (if (rd l0 0) = 78 then (some true) else (if (rd l0 0) = 110 then (if (l0.length : Int) > 1 then (if 1 < (l0.length : Int) then (some ((rd l0 1) != 117)) else (none)) else (some false)) else (some false)))))) else (none)) = some r := h
  clear h
  by_cases c2 : 0 < (l0.length : Int)
  · rw [if_pos c2] at H
    have c2b0 : decide (0 < (l0.length : Int)) = true := decide_eq_true c2
    have c2b1 : decide (0 < l0.length) = true := decide_eq_true (by omega)
    clear c2
    by_cases c3 : (rd l0 0) = 105
    · rw [if_pos c3] at H
      have c3b0 : ((rd l0 0) == 105) = true := beq_iff_eq.mpr c3
      have c3b1 : ((rd l0 0) != 105) = false := bne_eq_false_iff_eq.mpr c3
      clear c3
      as_aux_lemma =>
        obtain rfl := Option.some.inj H
        have p310 : 0 ≤ (0 : Int) := (by omega)
        have q310 : 0 < (l0.length : Int) := of_decide_eq_true (by first | (with_reducible assumption) | assumption)
        obtain ⟨ad310, e310, hx310_0⟩ := Kd.at_int HR0.out 0 p310 q310
        cases e310
        have qi310 : (0 < l0.length) = True := eq_true (by omega)
        (try rw [show ((0 : Int)).toNat = 0 from rfl] at hx310_0)
        (try rw [Addr.add_zero'] at hx310_0)
        replace p310 := eq_true p310
        replace q310 := eq_true q310
        go_enter Try.func30, Try.ntmps30
        go_wp2
        go_ret
        exact ⟨by first | rfl | (simp; done) | (simp [*]; done), by repeat (first | exact Drawn0.refl _ | apply Drawn0.step)⟩
    · rw [if_neg c3] at H
      have c3b0 : ((rd l0 0) == 105) = false := beq_eq_false_iff_ne.mpr c3
      have c3b1 : ((rd l0 0) != 105) = true := bne_iff_ne.mpr c3
      by_cases c4 : (rd l0 0) = 73
      · rw [if_pos c4] at H
        have c4b0 : ((rd l0 0) == 73) = true := beq_iff_eq.mpr c4
        have c4b1 : ((rd l0 0) != 73) = false := bne_eq_false_iff_eq.mpr c4
        clear c4
        as_aux_lemma =>
          obtain rfl := Option.some.inj H
          have p310 : 0 ≤ (0 : Int) := (by omega)
          have q310 : 0 < (l0.length : Int) := of_decide_eq_true (by first | (with_reducible assumption) | assumption)
          obtain ⟨ad310, e310, hx310_0⟩ := Kd.at_int HR0.out 0 p310 q310
          cases e310
          have qi310 : (0 < l0.length) = True := eq_true (by omega)
          (try rw [show ((0 : Int)).toNat = 0 from rfl] at hx310_0)
          (try rw [Addr.add_zero'] at hx310_0)
          replace p310 := eq_true p310
          replace q310 := eq_true q310
          have p311 : 0 ≤ (0 : Int) := (by omega)
          have q311 : 0 < (l0.length : Int) := of_decide_eq_true (by first | (with_reducible assumption) | assumption)
          obtain ⟨ad311, e311, hx311_0⟩ := Kd.at_int HR0.out 0 p311 q311
          obtain rfl : ad310 = ad311 := (by injection e311)
          have qi311 : (0 < l0.length) = True := eq_true (by omega)
          (try rw [show ((0 : Int)).toNat = 0 from rfl] at hx311_0)
          (try rw [Addr.add_zero'] at hx311_0)
          replace p311 := eq_true p311
          replace q311 := eq_true q311
          go_enter Try.func30, Try.ntmps30
          go_wp2
          go_ret
          exact ⟨by first | rfl | (simp; done) | (simp [*]; done), by repeat (first | exact Drawn0.refl _ | apply Drawn0.step)⟩
      · rw [if_neg c4] at H
        have c4b0 : ((rd l0 0) == 73) = false := beq_eq_false_iff_ne.mpr c4
        have c4b1 : ((rd l0 0) != 73) = true := bne_iff_ne.mpr c4
        by_cases c5 : (rd l0 0) = 43
        · rw [if_pos c5] at H
          have c5b0 : ((rd l0 0) == 43) = true := beq_iff_eq.mpr c5
          have c5b1 : ((rd l0 0) != 43) = false := bne_eq_false_iff_eq.mpr c5
          clear c5
          as_aux_lemma =>
            obtain rfl := Option.some.inj H
            have p310 : 0 ≤ (0 : Int) := (by omega)
            have q310 : 0 < (l0.length : Int) := of_decide_eq_true (by first | (with_reducible assumption) | assumption)
            obtain ⟨ad310, e310, hx310_0⟩ := Kd.at_int HR0.out 0 p310 q310
            cases e310
            have qi310 : (0 < l0.length) = True := eq_true (by omega)
            (try rw [show ((0 : Int)).toNat = 0 from rfl] at hx310_0)
            (try rw [Addr.add_zero'] at hx310_0)
            replace p310 := eq_true p310
            replace q310 := eq_true q310
            have p311 : 0 ≤ (0 : Int) := (by omega)
            have q311 : 0 < (l0.length : Int) := of_decide_eq_true (by first | (with_reducible assumption) | assumption)
            obtain ⟨ad311, e311, hx311_0⟩ := Kd.at_int HR0.out 0 p311 q311
            obtain rfl : ad310 = ad311 := (by injection e311)
            have qi311 : (0 < l0.length) = True := eq_true (by omega)
            (try rw [show ((0 : Int)).toNat = 0 from rfl] at hx311_0)
            (try rw [Addr.add_zero'] at hx311_0)
            replace p311 := eq_true p311
            replace q311 := eq_true q311
            have p312 : 0 ≤ (0 : Int) := (by omega)
            have q312 : 0 < (l0.length : Int) := of_decide_eq_true (by first | (with_reducible assumption) | assumption)
            obtain ⟨ad312, e312, hx312_0⟩ := Kd.at_int HR0.out 0 p312 q312
            obtain rfl : ad310 = ad312 := (by injection e312)
            have qi312 : (0 < l0.length) = True := eq_true (by omega)
            (try rw [show ((0 : Int)).toNat = 0 from rfl] at hx312_0)
            (try rw [Addr.add_zero'] at hx312_0)
            replace p312 := eq_true p312
            replace q312 := eq_true q312
            go_enter Try.func30, Try.ntmps30
            go_wp2
            go_ret
            exact ⟨by first | rfl | (simp; done) | (simp [*]; done), by repeat (first | exact Drawn0.refl _ | apply Drawn0.step)⟩
        · rw [if_neg c5] at H
          have c5b0 : ((rd l0 0) == 43) = false := beq_eq_false_iff_ne.mpr c5
          have c5b1 : ((rd l0 0) != 43) = true := bne_iff_ne.mpr c5
          by_cases c6 : (rd l0 0) = 78
          · rw [if_pos c6] at H
            have c6b0 : ((rd l0 0) == 78) = true := beq_iff_eq.mpr c6
            have c6b1 : ((rd l0 0) != 78) = false := bne_eq_false_iff_eq.mpr c6
            clear c6
            as_aux_lemma =>
              obtain rfl := Option.some.inj H
              have p310 : 0 ≤ (0 : Int) := (by omega)
              have q310 : 0 < (l0.length : Int) := of_decide_eq_true (by first | (with_reducible assumption) | assumption)
              obtain ⟨ad310, e310, hx310_0⟩ := Kd.at_int HR0.out 0 p310 q310
              cases e310
              have qi310 : (0 < l0.length) = True := eq_true (by omega)
              (try rw [show ((0 : Int)).toNat = 0 from rfl] at hx310_0)
              (try rw [Addr.add_zero'] at hx310_0)
              replace p310 := eq_true p310
              replace q310 := eq_true q310
              have p311 : 0 ≤ (0 : Int) := (by omega)
              have q311 : 0 < (l0.length : Int) := of_decide_eq_true (by first | (with_reducible assumption) | assumption)
              obtain ⟨ad311, e311, hx311_0⟩ := Kd.at_int HR0.out 0 p311 q311
              obtain rfl : ad310 = ad311 := (by injection e311)
              have qi311 : (0 < l0.length) = True := eq_true (by omega)
              (try rw [show ((0 : Int)).toNat = 0 from rfl] at hx311_0)
              (try rw [Addr.add_zero'] at hx311_0)
              replace p311 := eq_true p311
              replace q311 := eq_true q311
              have p312 : 0 ≤ (0 : Int) := (by omega)
              have q312 : 0 < (l0.length : Int) := of_decide_eq_true (by first | (with_reducible assumption) | assumption)
              obtain ⟨ad312, e312, hx312_0⟩ := Kd.at_int HR0.out 0 p312 q312
              obtain rfl : ad310 = ad312 := (by injection e312)
              have qi312 : (0 < l0.length) = True := eq_true (by omega)
              (try rw [show ((0 : Int)).toNat = 0 from rfl] at hx312_0)
              (try rw [Addr.add_zero'] at hx312_0)
              replace p312 := eq_true p312
              replace q312 := eq_true q312
              have p313 : 0 ≤ (0 : Int) := (by omega)
              have q313 : 0 < (l0.length : Int) := of_decide_eq_true (by first | (with_reducible assumption) | assumption)
              obtain ⟨ad313, e313, hx313_0⟩ := Kd.at_int HR0.out 0 p313 q313
              obtain rfl : ad310 = ad313 := (by injection e313)
              have qi313 : (0 < l0.length) = True := eq_true (by omega)
              (try rw [show ((0 : Int)).toNat = 0 from rfl] at hx313_0)
              (try rw [Addr.add_zero'] at hx313_0)
              replace p313 := eq_true p313
              replace q313 := eq_true q313
              go_enter Try.func30, Try.ntmps30
              go_wp2
              go_ret
              exact ⟨by first | rfl | (simp; done) | (simp [*]; done), by repeat (first | exact Drawn0.refl _ | apply Drawn0.step)⟩
          · rw [if_neg c6] at H
            have c6b0 : ((rd l0 0) == 78) = false := beq_eq_false_iff_ne.mpr c6
            have c6b1 : ((rd l0 0) != 78) = true := bne_iff_ne.mpr c6
            by_cases c7 : (rd l0 0) = 110
            · rw [if_pos c7] at H
              have c7b0 : ((rd l0 0) == 110) = true := beq_iff_eq.mpr c7
              have c7b1 : ((rd l0 0) != 110) = false := bne_eq_false_iff_eq.mpr c7
              clear c7
              by_cases c8 : (l0.length : Int) > 1
              · rw [if_pos c8] at H
                have c8b0 : decide (1 < (l0.length : Int)) = true := decide_eq_true c8
                have c8b1 : decide (1 < l0.length) = true := decide_eq_true (by omega)
                clear c8
                by_cases c9 : 1 < (l0.length : Int)
                · rw [if_pos c9] at H
                  have c9b0 : decide (1 < (l0.length : Int)) = true := decide_eq_true c9
                  have c9b1 : decide (1 < l0.length) = true := decide_eq_true (by omega)
                  clear c9
                  as_aux_lemma =>
                    obtain rfl := Option.some.inj H
                    have p310 : 0 ≤ (0 : Int) := (by omega)
                    have q310 : 0 < (l0.length : Int) := of_decide_eq_true (by first | (with_reducible assumption) | assumption)
                    obtain ⟨ad310, e310, hx310_0⟩ := Kd.at_int HR0.out 0 p310 q310
                    cases e310
                    have qi310 : (0 < l0.length) = True := eq_true (by omega)
                    (try rw [show ((0 : Int)).toNat = 0 from rfl] at hx310_0)
                    (try rw [Addr.add_zero'] at hx310_0)
                    replace p310 := eq_true p310
                    replace q310 := eq_true q310
                    have p311 : 0 ≤ (0 : Int) := (by omega)
                    have q311 : 0 < (l0.length : Int) := of_decide_eq_true (by first | (with_reducible assumption) | assumption)
                    obtain ⟨ad311, e311, hx311_0⟩ := Kd.at_int HR0.out 0 p311 q311
                    obtain rfl : ad310 = ad311 := (by injection e311)
                    have qi311 : (0 < l0.length) = True := eq_true (by omega)
                    (try rw [show ((0 : Int)).toNat = 0 from rfl] at hx311_0)
                    (try rw [Addr.add_zero'] at hx311_0)
                    replace p311 := eq_true p311
                    replace q311 := eq_true q311
                    have p312 : 0 ≤ (0 : Int) := (by omega)
                    have q312 : 0 < (l0.length : Int) := of_decide_eq_true (by first | (with_reducible assumption) | assumption)
                    obtain ⟨ad312, e312, hx312_0⟩ := Kd.at_int HR0.out 0 p312 q312
                    obtain rfl : ad310 = ad312 := (by injection e312)
                    have qi312 : (0 < l0.length) = True := eq_true (by omega)
                    (try rw [show ((0 : Int)).toNat = 0 from rfl] at hx312_0)
                    (try rw [Addr.add_zero'] at hx312_0)
                    replace p312 := eq_true p312
                    replace q312 := eq_true q312
                    have p313 : 0 ≤ (0 : Int) := (by omega)
                    have q313 : 0 < (l0.length : Int) := of_decide_eq_true (by first | (with_reducible assumption) | assumption)
                    obtain ⟨ad313, e313, hx313_0⟩ := Kd.at_int HR0.out 0 p313 q313
                    obtain rfl : ad310 = ad313 := (by injection e313)
                    have qi313 : (0 < l0.length) = True := eq_true (by omega)
                    (try rw [show ((0 : Int)).toNat = 0 from rfl] at hx313_0)
                    (try rw [Addr.add_zero'] at hx313_0)
                    replace p313 := eq_true p313
                    replace q313 := eq_true q313
                    have p314 : 0 ≤ (0 : Int) := (by omega)
                    have q314 : 0 < (l0.length : Int) := of_decide_eq_true (by first | (with_reducible assumption) | assumption)
                    obtain ⟨ad314, e314, hx314_0⟩ := Kd.at_int HR0.out 0 p314 q314
                    obtain rfl : ad310 = ad314 := (by injection e314)
                    have qi314 : (0 < l0.length) = True := eq_true (by omega)
                    (try rw [show ((0 : Int)).toNat = 0 from rfl] at hx314_0)
                    (try rw [Addr.add_zero'] at hx314_0)
                    replace p314 := eq_true p314
                    replace q314 := eq_true q314
                    have p315 : 0 ≤ (1 : Int) := (by omega)
                    have q315 : 1 < (l0.length : Int) := of_decide_eq_true (by first | (with_reducible assumption) | assumption)
                    obtain ⟨ad315, e315, hx315_0⟩ := Kd.at_int HR0.out 1 p315 q315
                    obtain rfl : ad310 = ad315 := (by injection e315)
                    (try simp only [show (1 : Int).toNat = 1 from rfl, Nat.reduceMul, Nat.reduceEqDiff, Go.Addr.add, ↓reduceIte] at hx315_0)
                    have qi315 : (1 < l0.length) = True := eq_true (by omega)
                    (try rw [show ((1 : Int)).toNat = 1 from rfl] at hx315_0)
                    replace p315 := eq_true p315
                    replace q315 := eq_true q315
                    go_enter Try.func30, Try.ntmps30
                    go_wp2
                    go_ret
                    exact ⟨by first | rfl | (simp; done) | (simp [*]; done), by repeat (first | exact Drawn0.refl _ | apply Drawn0.step)⟩
                · rw [if_neg c9] at H
                  exact absurd H (by simp)
              · rw [if_neg c8] at H
                have c8b0 : decide (1 < (l0.length : Int)) = false := decide_eq_false c8
                have c8b1 : decide (1 < l0.length) = false := decide_eq_false (by omega)
                clear c8
                as_aux_lemma =>
                  obtain rfl := Option.some.inj H
                  have p310 : 0 ≤ (0 : Int) := (by omega)
                  have q310 : 0 < (l0.length : Int) := of_decide_eq_true (by first | (with_reducible assumption) | assumption)
                  obtain ⟨ad310, e310, hx310_0⟩ := Kd.at_int HR0.out 0 p310 q310
                  cases e310
                  have qi310 : (0 < l0.length) = True := eq_true (by omega)
                  (try rw [show ((0 : Int)).toNat = 0 from rfl] at hx310_0)
                  (try rw [Addr.add_zero'] at hx310_0)
                  replace p310 := eq_true p310
                  replace q310 := eq_true q310
                  have p311 : 0 ≤ (0 : Int) := (by omega)
                  have q311 : 0 < (l0.length : Int) := of_decide_eq_true (by first | (with_reducible assumption) | assumption)
                  obtain ⟨ad311, e311, hx311_0⟩ := Kd.at_int HR0.out 0 p311 q311
                  obtain rfl : ad310 = ad311 := (by injection e311)
                  have qi311 : (0 < l0.length) = True := eq_true (by omega)
                  (try rw [show ((0 : Int)).toNat = 0 from rfl] at hx311_0)
                  (try rw [Addr.add_zero'] at hx311_0)
                  replace p311 := eq_true p311
                  replace q311 := eq_true q311
                  have p312 : 0 ≤ (0 : Int) := (by omega)
                  have q312 : 0 < (l0.length : Int) := of_decide_eq_true (by first | (with_reducible assumption) | assumption)
                  obtain ⟨ad312, e312, hx312_0⟩ := Kd.at_int HR0.out 0 p312 q312
                  obtain rfl : ad310 = ad312 := (by injection e312)
                  have qi312 : (0 < l0.length) = True := eq_true (by omega)
                  (try rw [show ((0 : Int)).toNat = 0 from rfl] at hx312_0)
                  (try rw [Addr.add_zero'] at hx312_0)
                  replace p312 := eq_true p312
                  replace q312 := eq_true q312
                  have p313 : 0 ≤ (0 : Int) := (by omega)
                  have q313 : 0 < (l0.length : Int) := of_decide_eq_true (by first | (with_reducible assumption) | assumption)
                  obtain ⟨ad313, e313, hx313_0⟩ := Kd.at_int HR0.out 0 p313 q313
                  obtain rfl : ad310 = ad313 := (by injection e313)
                  have qi313 : (0 < l0.length) = True := eq_true (by omega)
                  (try rw [show ((0 : Int)).toNat = 0 from rfl] at hx313_0)
                  (try rw [Addr.add_zero'] at hx313_0)
                  replace p313 := eq_true p313
                  replace q313 := eq_true q313
                  have p314 : 0 ≤ (0 : Int) := (by omega)
                  have q314 : 0 < (l0.length : Int) := of_decide_eq_true (by first | (with_reducible assumption) | assumption)
                  obtain ⟨ad314, e314, hx314_0⟩ := Kd.at_int HR0.out 0 p314 q314
                  obtain rfl : ad310 = ad314 := (by injection e314)
                  have qi314 : (0 < l0.length) = True := eq_true (by omega)
                  (try rw [show ((0 : Int)).toNat = 0 from rfl] at hx314_0)
                  (try rw [Addr.add_zero'] at hx314_0)
                  replace p314 := eq_true p314
                  replace q314 := eq_true q314
                  go_enter Try.func30, Try.ntmps30
                  go_wp2
                  go_ret
                  exact ⟨by first | rfl | (simp; done) | (simp [*]; done), by repeat (first | exact Drawn0.refl _ | apply Drawn0.step)⟩
            · rw [if_neg c7] at H
              have c7b0 : ((rd l0 0) == 110) = false := beq_eq_false_iff_ne.mpr c7
              have c7b1 : ((rd l0 0) != 110) = true := bne_iff_ne.mpr c7
              as_aux_lemma =>
                obtain rfl := Option.some.inj H
                have p310 : 0 ≤ (0 : Int) := (by omega)
                have q310 : 0 < (l0.length : Int) := of_decide_eq_true (by first | (with_reducible assumption) | assumption)
                obtain ⟨ad310, e310, hx310_0⟩ := Kd.at_int HR0.out 0 p310 q310
                cases e310
                have qi310 : (0 < l0.length) = True := eq_true (by omega)
                (try rw [show ((0 : Int)).toNat = 0 from rfl] at hx310_0)
                (try rw [Addr.add_zero'] at hx310_0)
                replace p310 := eq_true p310
                replace q310 := eq_true q310
                have p311 : 0 ≤ (0 : Int) := (by omega)
                have q311 : 0 < (l0.length : Int) := of_decide_eq_true (by first | (with_reducible assumption) | assumption)
                obtain ⟨ad311, e311, hx311_0⟩ := Kd.at_int HR0.out 0 p311 q311
                obtain rfl : ad310 = ad311 := (by injection e311)
                have qi311 : (0 < l0.length) = True := eq_true (by omega)
                (try rw [show ((0 : Int)).toNat = 0 from rfl] at hx311_0)
                (try rw [Addr.add_zero'] at hx311_0)
                replace p311 := eq_true p311
                replace q311 := eq_true q311
                have p312 : 0 ≤ (0 : Int) := (by omega)
                have q312 : 0 < (l0.length : Int) := of_decide_eq_true (by first | (with_reducible assumption) | assumption)
                obtain ⟨ad312, e312, hx312_0⟩ := Kd.at_int HR0.out 0 p312 q312
                obtain rfl : ad310 = ad312 := (by injection e312)
                have qi312 : (0 < l0.length) = True := eq_true (by omega)
                (try rw [show ((0 : Int)).toNat = 0 from rfl] at hx312_0)
                (try rw [Addr.add_zero'] at hx312_0)
                replace p312 := eq_true p312
                replace q312 := eq_true q312
                have p313 : 0 ≤ (0 : Int) := (by omega)
                have q313 : 0 < (l0.length : Int) := of_decide_eq_true (by first | (with_reducible assumption) | assumption)
                obtain ⟨ad313, e313, hx313_0⟩ := Kd.at_int HR0.out 0 p313 q313
                obtain rfl : ad310 = ad313 := (by injection e313)
                have qi313 : (0 < l0.length) = True := eq_true (by omega)
                (try rw [show ((0 : Int)).toNat = 0 from rfl] at hx313_0)
                (try rw [Addr.add_zero'] at hx313_0)
                replace p313 := eq_true p313
                replace q313 := eq_true q313
                have p314 : 0 ≤ (0 : Int) := (by omega)
                have q314 : 0 < (l0.length : Int) := of_decide_eq_true (by first | (with_reducible assumption) | assumption)
                obtain ⟨ad314, e314, hx314_0⟩ := Kd.at_int HR0.out 0 p314 q314
                obtain rfl : ad310 = ad314 := (by injection e314)
                have qi314 : (0 < l0.length) = True := eq_true (by omega)
                (try rw [show ((0 : Int)).toNat = 0 from rfl] at hx314_0)
                (try rw [Addr.add_zero'] at hx314_0)
                replace p314 := eq_true p314
                replace q314 := eq_true q314
                go_enter Try.func30, Try.ntmps30
                go_wp2
                go_ret
                exact ⟨by first | rfl | (simp; done) | (simp [*]; done), by repeat (first | exact Drawn0.refl _ | apply Drawn0.step)⟩
  · rw [if_neg c2] at H
    exact absurd H (by simp)

end Go.Proofs.Ytdcigjpgagimdaa.M
