-- Written by a program of this work (wip/patch_print.py over the kit's printer) for this claim: each Go function as a Lean function, and that the Go code comes to its answers.
import Derived.Test.YtdcigjpgagimdaaMx0
import Derived.Test.YtdcigjpgagimdaaMx12b
namespace Go.Proofs.Ytdcigjpgagimdaa.M
open Go.RowKit Go.Proofs.YtdcigjpgagimdaaW.PrintWords Go.Proofs.YtdcigjpgagimdaaW.PrintLast Go.Proofs.YtdcigjpgagimdaaW.PrintMore
attribute [local go_sem] max2_int min2_int max_two min_two max_three min_three max_four min_four   -- for this text's walks alone
set_option linter.unusedVariables false
set_option linter.unusedSimpArgs false

/-! ### spec_Quote: function 11 -/
mutual
def spec_Quote.l0 : Nat → ByteArray → List Int → Int → Option (ByteArray)
  | 0, _, _, _ => none
  | k + 1, x0, x3, x4 => if x4 < (x0.size : Int) then (if 0 ≤ x4 then ((spec_shortOf.f (bt x0 x4)).bind fun bt531 => (if bt531.2 = true then (spec_Quote.j1 k x0 x3 x4 (bt x0 x4) bt531.1 ((bt x0 x4) != 47)) else (spec_Quote.j1 k x0 x3 x4 (bt x0 x4) bt531.1 false))) else (none)) else (if x3.length < 140737488355328 then (some (strOfNums (x3 ++ [34]))) else (none))
def spec_Quote.j1 : Nat → ByteArray → List Int → Int → Int → Int → Bool → Option (ByteArray)
  | 0, _, _, _, _, _, _ => none
  | k + 1, x0, x3, x4, x5, x6, x27 => if x27 = true then ((some (([92, x6] : List Int) : List Int)).bind fun y533 => (if x3.length + y533.length < 140737488355328 then (spec_Quote.l0 k x0 (x3 ++ y533) (wrap64 (x4 + 1))) else (none))) else (if x5 < 32 then ((spec_digitOf.f (wrap64 (Int.tmod x5 16)) false).bind fun t539 => ((some (([92, 117, 48, 48, (48 + ((Int.tdiv x5 16) % 256)) % 256, t539] : List Int) : List Int)).bind fun y540 => (if x3.length + y540.length < 140737488355328 then (spec_Quote.l0 k x0 (x3 ++ y540) (wrap64 (x4 + 1))) else (none)))) else (if x3.length < 140737488355328 then (spec_Quote.l0 k x0 (x3 ++ [x5]) (wrap64 (x4 + 1))) else (none)))
end
def spec_Quote.f (k : Nat) (a0 : ByteArray) : Option (ByteArray) := spec_Quote.l0 k a0 (([34] : List Int)) 0
theorem spec_Quote.mono_l : ∀ k, (∀ y0 y1 y2, LeO (spec_Quote.l0 k y0 y1 y2) (spec_Quote.l0 (k + 1) y0 y1 y2)) ∧ (∀ y0 y1 y2 y3 y4 y5, LeO (spec_Quote.j1 k y0 y1 y2 y3 y4 y5) (spec_Quote.j1 (k + 1) y0 y1 y2 y3 y4 y5))
  | 0 => ⟨fun _ _ _ r h => by simp [spec_Quote.l0] at h, fun _ _ _ _ _ _ r h => by simp [spec_Quote.j1] at h⟩
  | k + 1 => by
    obtain ⟨ih0, ih1⟩ := spec_Quote.mono_l k
    refine ⟨?_, ?_⟩
    · intro y0 y1 y2
      unfold spec_Quote.l0
      repeat' first
      | (with_reducible exact ih0 _ _ _)
      | (with_reducible exact ih1 _ _ _ _ _ _)
      | (with_reducible exact LeO.refl _)
      | (with_reducible exact LeO.none _)
      | (with_reducible refine LeO.ite ?_ ?_)
      | (with_reducible refine LeO.bind ?_ (fun _ => ?_))
      | exact ih0 _ _ _
      | exact ih1 _ _ _ _ _ _
      | exact LeO.none _
      | refine LeO.ite ?_ ?_
      | refine LeO.bind ?_ (fun _ => ?_)
    · intro y0 y1 y2 y3 y4 y5
      unfold spec_Quote.j1
      repeat' first
      | (with_reducible exact ih0 _ _ _)
      | (with_reducible exact ih1 _ _ _ _ _ _)
      | (with_reducible exact LeO.refl _)
      | (with_reducible exact LeO.none _)
      | (with_reducible refine LeO.ite ?_ ?_)
      | (with_reducible refine LeO.bind ?_ (fun _ => ?_))
      | exact ih0 _ _ _
      | exact ih1 _ _ _ _ _ _
      | exact LeO.none _
      | refine LeO.ite ?_ ?_
      | refine LeO.bind ?_ (fun _ => ?_)
theorem spec_Quote.mono : ∀ a0 k, LeO (spec_Quote.f k a0) (spec_Quote.f (k + 1) a0) := by
  intro a0 k
  obtain ⟨ih0, ih1⟩ := spec_Quote.mono_l k
  unfold spec_Quote.f
  repeat' first
      | (with_reducible exact ih0 _ _ _)
      | (with_reducible exact ih1 _ _ _ _ _ _)
      | (with_reducible exact LeO.refl _)
      | (with_reducible exact LeO.none _)
      | (with_reducible refine LeO.ite ?_ ?_)
      | (with_reducible refine LeO.bind ?_ (fun _ => ?_))
      | exact ih0 _ _ _
      | exact ih1 _ _ _ _ _ _
      | exact LeO.none _
      | refine LeO.ite ?_ ?_
      | refine LeO.bind ?_ (fun _ => ?_)
set_option maxHeartbeats 8000000 in
set_option maxRecDepth 100000 in
theorem spec_Quote.calls (k : Nat) (a0 : ByteArray) (r : ByteArray) (w : World) (h : spec_Quote.f k a0 = some r) :
    Calls Try.prog 11 #[.string a0] w fun e w' => e = .returned (.string r) ∧ Below w.heap.size w w' := by
  have HB := Aside0.mk (Below.refl w.heap.size w)
  have H : (spec_Quote.l0 k a0 (([34] : List Int)) 0) = some r := h
  clear h
  obtain ⟨y525, hy525⟩ : ∃ y_ : List Int, y_ = (([34] : List Int)) := ⟨_, rfl⟩
  replace H : (spec_Quote.l0 k a0 y525 0) = some r := by first | (rw [hy525]; with_reducible exact H) | (have H2_ := (Option.bind_some _ _).symm.trans H; rw [hy525]; with_reducible exact H2_) | (have H2_ := (Option.bind_some _ _).symm.trans H; with_reducible exact H2_) | with_reducible exact H | (rw [hy525]; exact H) | exact H
  have Ny525 := Aside0.mk hy525
  clear hy525
  have H' := Aside0.mk H
  clear H
  go_enter Try.func11, Try.ntmps11
  go_wp2_with (first | ((with_reducible refine gate_dst (N := 8) rfl ?_); refine Kd.R_lit (Kd.int .u8) _ 5 ?hg (N := 8) ?hd (xs := ([34] : List Int)) (inner := [.int .u8 34]) (ok := fun _ => True) (okp := fun _ => True) ?hr ?hp (fun _ hk => hk) trivial (Below.refl _ _) (Nat.le_refl _) (by simp) ?_; (case hd => rfl); (case hg => rfl); (case hr => first | (go_simp; done) | (go_simp; rfl)); (case hp => exact (Reps.one (show Kd.M (Kd.int .u8) _ _ _ 34 [.int .u8 34] from rfl) (Reps.none _ _))); intro v526 w2 ho3 hb hg_ hnew_; clear hg_ hnew_; (first | rw [← Ny525.out] at ho3 | (simp only [Int.reduceToNat] at ho3; rw [← Ny525.out] at ho3)); have n0_ := Aside0.mk (Kd.R_lower ho3 (below_size (by repeat (first | (with_reducible first | exact HB.out | apply below_alloc | apply pw_below_drewN | apply below_drew1) | exact HB.out)))); have n1_ := Aside0.mk (below_step (by repeat (first | (with_reducible first | exact HB.out | apply below_alloc | apply pw_below_drewN | apply below_drew1) | exact HB.out)) hb); clear HB; have HO527 := n0_; have HB := n1_; clear n0_ n1_; clear hb ho3))
  (try simp only [Act.put, List.setIfInBounds_toArray, List.set_cons_succ, List.set_cons_zero])
  go_loopg [3, 4] k (fun kq v3 v4 w' => ∃ (x3_1 : List Int) (x4_1 : Int), v4 = .int .i64 x4_1 ∧ Aside0 (spec_Quote.l0 kq a0 x3_1 x4_1 = some r) ∧ Aside0 (kq ≤ k) ∧ Aside0 (Kd.R (Kd.int .u8) 5 w' w.heap.size (fun _ => True) v3 x3_1) ∧ Aside0 (Below w.heap.size w w'))
  case atStart => exact ⟨(y525), (0), (by first | rfl | (simp; done) | (simp [*]; done)), H', ⟨Nat.le_refl _⟩, ⟨by (with_reducible repeat (first | apply Kd.R_alloc | apply Kd.R_drewN | apply Kd.R_drew)); exact HO527.out⟩, ⟨by repeat (first | (with_reducible first | exact HB.out | apply below_alloc | apply pw_below_drewN | apply below_drew1) | exact HB.out)⟩⟩
  case round =>
    clear H'
    try clear c1
    try clear p2
    obtain ⟨x3_1, x4_1, rfl, HA, HK1, HO_3, HB⟩ := hrel
    cases gk with
    | zero => exact absurd HA.out (by simp [spec_Quote.l0])
    | succ k1 =>
      have H := HA.out
      clear HA
      simp only [spec_Quote.l0] at H
      by_cases c4 : x4_1 < (a0.size : Int)
      · rw [if_pos c4] at H
        have c4b0 : decide (x4_1 < (a0.size : Int)) = true := decide_eq_true c4
        clear c4
        by_cases c5 : 0 ≤ x4_1
        · rw [if_pos c5] at H
          have c5b0 : decide (0 ≤ x4_1) = true := decide_eq_true c5
          clear c5
          replace H := Option.bind_eq_some_iff.mp H
          obtain ⟨⟨t531, t532⟩, A70, H⟩ := H
          replace H : (if t532 = true then (spec_Quote.j1 k1 a0 x3_1 x4_1 (bt a0 x4_1) t531 ((bt a0 x4_1) != 47)) else (spec_Quote.j1 k1 a0 x3_1 x4_1 (bt a0 x4_1) t531 false)) = some r := H
          have A7 := Aside0.mk A70
          clear A70
          have HC8 := Aside0.mk H
          clear H
          have p6 : 0 ≤ (x4_1 : Int) := of_decide_eq_true (by first | (with_reducible assumption) | assumption)
          have q6 : x4_1 < (a0.size : Int) := of_decide_eq_true (by first | (with_reducible assumption) | assumption)
          have hx6 := bt_at a0 x4_1
          replace p6 := eq_true p6
          replace q6 := eq_true q6
          go_upto_region 8 with (first | ((with_reducible refine gate_callee (f := 15) rfl ?_); refine goesL_ (some 20) rfl rfl Try.func15 (by kernel_rfl) rfl #[.int .u8 (bt a0 x4_1)] rfl (by (try simp only [List.map_toArray, List.map_cons, List.map_nil]); first | done | rfl | (simp only [List.length_drop, List.length_take]; rfl)) ?_; (with_reducible refine (spec_shortOf.calls (bt a0 x4_1) t531 t532 _ A7.out).mono ?_); rintro e w' ⟨rfl, ⟨nd, rfl⟩⟩; refine ⟨_, rfl, ?_⟩))
          (try simp only [Act.put, List.setIfInBounds_toArray, List.set_cons_zero, List.set_cons_succ])
          go_cut [27] (fun v27 wc => ∃ (kq : Nat) (x27_7 : Bool), v27 = .bool x27_7 ∧ Aside0 (spec_Quote.j1 kq a0 x3_1 x4_1 (bt a0 x4_1) t531 x27_7 = some r) ∧ Aside0 (kq ≤ k1) ∧ Aside0 (Kd.R (Kd.int .u8) 5 wc w.heap.size (fun _ => True) u3 x3_1) ∧ Aside0 (Below w.heap.size w wc))
          case first =>
            have H := HC8.out
            clear HC8
            by_cases c9 : t532 = true
            · subst c9
              have H1 : (spec_Quote.j1 k1 a0 x3_1 x4_1 (bt a0 x4_1) t531 ((bt a0 x4_1) != 47)) = some r := by rw [if_pos rfl] at H; exact H
              clear H
              have H := H1
              clear H1
              as_aux_lemma =>
                have H' := Aside0.mk H
                clear H
                go_wp2
                go_meet
                case rel => exact ⟨_, (((bt a0 x4_1) != 47)), (by first | rfl | (simp; done) | (simp [*]; done)), H', ⟨by have := HK1.out; first | omega | exact Nat.le_refl _⟩, ⟨by (with_reducible repeat (first | apply Kd.R_alloc | apply Kd.R_drewN | apply Kd.R_drew)); exact HO_3.out⟩, ⟨by repeat (first | (with_reducible first | exact HB.out | apply below_alloc | apply pw_below_drewN | apply below_drew1) | exact HB.out)⟩⟩
            · replace c9 := Bool.eq_false_iff.mpr c9
              subst c9
              have H1 : (spec_Quote.j1 k1 a0 x3_1 x4_1 (bt a0 x4_1) t531 false) = some r := by rw [if_neg (show ¬ (false = true) by decide)] at H; exact H
              clear H
              have H := H1
              clear H1
              as_aux_lemma =>
                have H' := Aside0.mk H
                clear H
                go_wp2
                go_meet
                case rel => exact ⟨_, (false), (by first | rfl | (simp; done) | (simp [*]; done)), H', ⟨by have := HK1.out; first | omega | exact Nat.le_refl _⟩, ⟨by (with_reducible repeat (first | apply Kd.R_alloc | apply Kd.R_drewN | apply Kd.R_drew)); exact HO_3.out⟩, ⟨by repeat (first | (with_reducible first | exact HB.out | apply below_alloc | apply pw_below_drewN | apply below_drew1) | exact HB.out)⟩⟩
          case rest =>
            clear HC8
            try clear c1
            try clear p2
            try clear c4
            try clear c4b0
            try clear c5
            try clear c5b0
            try clear p6
            try clear q6
            try clear hx6
            try clear c9
            try clear p2
            try clear p6
            try clear q6
            obtain ⟨kq, x27_7, rfl, HA, HJ7, HO_3, HB⟩ := hcut
            cases kq with
            | zero => exact absurd HA.out (by simp [spec_Quote.j1])
            | succ kj7 =>
              have H := HA.out
              clear HA
              simp only [spec_Quote.j1] at H
              by_cases c10 : x27_7 = true
              · subst c10
                have H1 : ((some (([92, t531] : List Int) : List Int)).bind fun y533 => (if x3_1.length + y533.length < 140737488355328 then (spec_Quote.l0 kj7 a0 (x3_1 ++ y533) (wrap64 (x4_1 + 1))) else (none))) = some r := by rw [if_pos rfl] at H; exact H
                clear H
                have H := H1
                clear H1
                obtain ⟨y533, hy533⟩ : ∃ y_ : List Int, y_ = (([92, t531] : List Int)) := ⟨_, rfl⟩
                replace H : (if x3_1.length + y533.length < 140737488355328 then (spec_Quote.l0 kj7 a0 (x3_1 ++ y533) (wrap64 (x4_1 + 1))) else (none)) = some r := by first | (rw [hy533]; with_reducible exact H) | (have H2_ := (Option.bind_some _ _).symm.trans H; rw [hy533]; with_reducible exact H2_) | (have H2_ := (Option.bind_some _ _).symm.trans H; with_reducible exact H2_) | with_reducible exact H | (rw [hy533]; exact H) | exact H
                have Ny533 := Aside0.mk hy533
                clear hy533
                by_cases c11 : x3_1.length + y533.length < 140737488355328
                · rw [if_pos c11] at H
                  have LMc11 := Aside0.mk c11
                  clear c11
                  obtain ⟨y536, hy536⟩ : ∃ y_ : List Int, y_ = (x3_1 ++ y533) := ⟨_, rfl⟩
                  replace H : (spec_Quote.l0 kj7 a0 y536 (wrap64 (x4_1 + 1))) = some r := by first | (rw [hy536]; with_reducible exact H) | (have H2_ := (Option.bind_some _ _).symm.trans H; rw [hy536]; with_reducible exact H2_) | (have H2_ := (Option.bind_some _ _).symm.trans H; with_reducible exact H2_) | with_reducible exact H | (rw [hy536]; exact H) | exact H
                  have Ny536 := Aside0.mk hy536
                  clear hy536
                  as_aux_lemma =>
                    have H' := Aside0.mk H
                    clear H
                    go_wp2_with (first | ((with_reducible refine gate_dst (N := 35) rfl ?_); refine Kd.R_lit (Kd.int .u8) _ 5 ?hg (N := 35) ?hd (xs := ([92, t531] : List Int)) (inner := [.int .u8 92, .int .u8 t531]) (ok := fun _ => True) (okp := fun _ => True) ?hr ?hp (fun _ hk => hk) trivial (Below.refl _ _) (Nat.le_refl _) (by simp) ?_; (case hd => rfl); (case hg => rfl); (case hr => first | (go_simp; done) | (go_simp; rfl)); (case hp => exact (Reps.one (show Kd.M (Kd.int .u8) _ _ _ 92 [.int .u8 92] from rfl) (Reps.one (show Kd.M (Kd.int .u8) _ _ _ t531 [.int .u8 t531] from rfl) (Reps.none _ _)))); intro v534 w12 ho13 hb hg_ hnew_; clear hg_ hnew_; (first | rw [← Ny533.out] at ho13 | (simp only [Int.reduceToNat] at ho13; rw [← Ny533.out] at ho13)); have n0_ := Aside0.mk (Kd.R_elder' (by (with_reducible repeat (first | apply Kd.R_alloc | apply Kd.R_drewN | apply Kd.R_drew)); exact HO_3.out) (Kd.R_base ho13) hb); have n1_ := Aside0.mk (Kd.R_lower (Kd.R_new' ho13 (Kd.R_lt (by (with_reducible repeat (first | apply Kd.R_alloc | apply Kd.R_drewN | apply Kd.R_drew)); exact HO_3.out))) (below_size (by repeat (first | (with_reducible first | exact HB.out | apply below_alloc | apply pw_below_drewN | apply below_drew1) | exact HB.out)))); have n2_ := Aside0.mk (below_step (by repeat (first | (with_reducible first | exact HB.out | apply below_alloc | apply pw_below_drewN | apply below_drew1) | exact HB.out)) hb); clear HO_3; clear HB; have HO_3 := n0_; have HO535 := n1_; have HB := n2_; clear n0_ n1_ n2_; clear hb ho13; obtain ⟨Ao15, co15, eo15⟩ := Kd.R_slice HO535.out; subst eo15) | ((with_reducible refine gate_builtin (b := .append) (xs := #[.tmp 33, .tmp 35]) rfl ?_); at_builtin; refine Kd.R_append_rows (Kd.int .u8) (w0 := w) w.heap.size rfl (.tmp 33) (.tmp 35) 37 5 (.int .u8 0) 1 rfl Try.underlying37 info5 rfl (by decide) (by omega) u3 x3_1 y533 _ _ _ (fun k_ => some k_ ≠ (.slice Ao15 y533.length co15 : Value).ownBlock) (fun _ => False) rfl rfl ?aO ?aR (fun _ _ h => h) (fun _ h => h.elim) ?aF ?aB ?aS ?aL ?_; (case aR => repeat (first | exact (Kd.R_reads' HO535.out).2.2 | (with_reducible refine Kd.C_alloc ?_ _) | (with_reducible refine Kd.C_drewN ?_ _) | (with_reducible refine Kd.C_drew ?_))); (case aB => exact (by repeat (first | (with_reducible first | exact HB.out | apply below_alloc | apply pw_below_drewN | apply below_drew1) | exact HB.out))); (case aF => exact (fun k_ hk => Kd.fresh' (Kd.R_lt (by (with_reducible repeat (first | apply Kd.R_alloc | apply Kd.R_drewN | apply Kd.R_drew)); exact HO535.out)) k_ hk)); (case aO => exact (by (with_reducible repeat (first | apply Kd.R_alloc | apply Kd.R_drewN | apply Kd.R_drew)); exact Kd.R_mono HO_3.out (fun _ hk => hk.2))); (case aS => exact (below_size (by repeat (first | (with_reducible first | exact HB.out | apply below_alloc | apply pw_below_drewN | apply below_drew1) | exact HB.out)))); (case aL => have := LMc11.out; omega); intro v537 w14 ho hb hg hat; rw [← Ny536.out] at ho; have n0_ := Aside0.mk (Kd.R_after (ok := (fun _ => True)) (by (with_reducible repeat (first | apply Kd.R_alloc | apply Kd.R_drewN | apply Kd.R_drew)); exact HO535.out) hg hat); have n1_ := Aside0.mk (hb); have n2_ := Aside0.mk (ho); clear HO535; clear HB; clear HO_3; have HO535 := n0_; have HB := n1_; have HO538 := n2_; clear n0_ n1_ n2_; clear ho hb hg hat))
                    go_roundg kj7
                    case measure => have := HK1.out; have := HJ7.out; omega
                    case rel => exact ⟨(y536), (wrap64 (x4_1 + 1)), (by first | rfl | (simp; done) | (simp [*]; done)), H', ⟨by have := HK1.out; have := HJ7.out; omega⟩, ⟨by (with_reducible repeat (first | apply Kd.R_alloc | apply Kd.R_drewN | apply Kd.R_drew)); exact Kd.R_mono HO538.out (fun _ hk => trivial)⟩, ⟨by repeat (first | (with_reducible first | exact HB.out | apply below_alloc | apply pw_below_drewN | apply below_drew1) | exact HB.out)⟩⟩
                · rw [if_neg c11] at H
                  exact absurd H (by simp)
              · replace c10 := Bool.eq_false_iff.mpr c10
                subst c10
                have H1 : (if (bt a0 x4_1) < 32 then ((spec_digitOf.f (wrap64 (Int.tmod (bt a0 x4_1) 16)) false).bind fun t539 => ((some (([92, 117, 48, 48, (48 + ((Int.tdiv (bt a0 x4_1) 16) % 256)) % 256, t539] : List Int) : List Int)).bind fun y540 => (if x3_1.length + y540.length < 140737488355328 then (spec_Quote.l0 kj7 a0 (x3_1 ++ y540) (wrap64 (x4_1 + 1))) else (none)))) else (if x3_1.length < 140737488355328 then (spec_Quote.l0 kj7 a0 (x3_1 ++ [(bt a0 x4_1)]) (wrap64 (x4_1 + 1))) else (none))) = some r := by rw [if_neg (show ¬ (false = true) by decide)] at H; exact H
                clear H
                have H := H1
                clear H1
                by_cases c16 : (bt a0 x4_1) < 32
                · rw [if_pos c16] at H
                  have c16b0 : decide ((bt a0 x4_1) < 32) = true := decide_eq_true c16
                  clear c16
                  replace H := Option.bind_eq_some_iff.mp H
                  obtain ⟨t539, A170, H⟩ := H
                  replace H : ((some (([92, 117, 48, 48, (48 + ((Int.tdiv (bt a0 x4_1) 16) % 256)) % 256, t539] : List Int) : List Int)).bind fun y540 => (if x3_1.length + y540.length < 140737488355328 then (spec_Quote.l0 kj7 a0 (x3_1 ++ y540) (wrap64 (x4_1 + 1))) else (none))) = some r := H
                  have A17 := Aside0.mk A170
                  clear A170
                  obtain ⟨y540, hy540⟩ : ∃ y_ : List Int, y_ = (([92, 117, 48, 48, (48 + ((Int.tdiv (bt a0 x4_1) 16) % 256)) % 256, t539] : List Int)) := ⟨_, rfl⟩
                  replace H : (if x3_1.length + y540.length < 140737488355328 then (spec_Quote.l0 kj7 a0 (x3_1 ++ y540) (wrap64 (x4_1 + 1))) else (none)) = some r := by first | (rw [hy540]; with_reducible exact H) | (have H2_ := (Option.bind_some _ _).symm.trans H; rw [hy540]; with_reducible exact H2_) | (have H2_ := (Option.bind_some _ _).symm.trans H; with_reducible exact H2_) | with_reducible exact H | (rw [hy540]; exact H) | exact H
                  have Ny540 := Aside0.mk hy540
                  clear hy540
                  by_cases c18 : x3_1.length + y540.length < 140737488355328
                  · rw [if_pos c18] at H
                    have LMc18 := Aside0.mk c18
                    clear c18
                    obtain ⟨y543, hy543⟩ : ∃ y_ : List Int, y_ = (x3_1 ++ y540) := ⟨_, rfl⟩
                    replace H : (spec_Quote.l0 kj7 a0 y543 (wrap64 (x4_1 + 1))) = some r := by first | (rw [hy543]; with_reducible exact H) | (have H2_ := (Option.bind_some _ _).symm.trans H; rw [hy543]; with_reducible exact H2_) | (have H2_ := (Option.bind_some _ _).symm.trans H; with_reducible exact H2_) | with_reducible exact H | (rw [hy543]; exact H) | exact H
                    have Ny543 := Aside0.mk hy543
                    clear hy543
                    have H' := Aside0.mk H
                    clear H
                    go_wp2_with fail
                    refine (spec_digitOf.calls (wrap64 (Int.tmod (bt a0 x4_1) 16)) false t539 _ A17.out).mono ?_
                    rintro e w1 ⟨rfl, ⟨nd43, rfl⟩⟩
                    have Ny540_ := Ny540.out
                    clear Ny540
                    generalize (48 + (bt a0 x4_1).tdiv 16 % 256) % 256 = z43 at Ny540_ ⊢
                    have Ny540 := Aside0.mk Ny540_
                    clear Ny540_
                    go_wp2_with (first | ((with_reducible refine gate_dst (N := 48) rfl ?_); refine Kd.R_lit (Kd.int .u8) _ 5 ?hg (N := 48) ?hd (xs := ([92, 117, 48, 48, z43, t539] : List Int)) (inner := [.int .u8 92, .int .u8 117, .int .u8 48, .int .u8 48, .int .u8 z43, .int .u8 t539]) (ok := fun _ => True) (okp := fun _ => True) ?hr ?hp (fun _ hk => hk) trivial (Below.refl _ _) (Nat.le_refl _) (by simp) ?_; (case hd => rfl); (case hg => rfl); (case hr => first | (go_simp; done) | (go_simp; rfl)); (case hp => exact (Reps.one (show Kd.M (Kd.int .u8) _ _ _ 92 [.int .u8 92] from rfl) (Reps.one (show Kd.M (Kd.int .u8) _ _ _ 117 [.int .u8 117] from rfl) (Reps.one (show Kd.M (Kd.int .u8) _ _ _ 48 [.int .u8 48] from rfl) (Reps.one (show Kd.M (Kd.int .u8) _ _ _ 48 [.int .u8 48] from rfl) (Reps.one (show Kd.M (Kd.int .u8) _ _ _ z43 [.int .u8 z43] from rfl) (Reps.one (show Kd.M (Kd.int .u8) _ _ _ t539 [.int .u8 t539] from rfl) (Reps.none _ _)))))))); intro v541 w19 ho20 hb hg_ hnew_; clear hg_ hnew_; (first | rw [← Ny540.out] at ho20 | (simp only [Int.reduceToNat] at ho20; rw [← Ny540.out] at ho20)); have n0_ := Aside0.mk (Kd.R_elder' (by (with_reducible repeat (first | apply Kd.R_alloc | apply Kd.R_drewN | apply Kd.R_drew)); exact HO_3.out) (Kd.R_base ho20) hb); have n1_ := Aside0.mk (Kd.R_lower (Kd.R_new' ho20 (Kd.R_lt (by (with_reducible repeat (first | apply Kd.R_alloc | apply Kd.R_drewN | apply Kd.R_drew)); exact HO_3.out))) (below_size (by repeat (first | (with_reducible first | exact HB.out | apply below_alloc | apply pw_below_drewN | apply below_drew1) | exact HB.out)))); have n2_ := Aside0.mk (below_step (by repeat (first | (with_reducible first | exact HB.out | apply below_alloc | apply pw_below_drewN | apply below_drew1) | exact HB.out)) hb); clear HO_3; clear HB; have HO_3 := n0_; have HO542 := n1_; have HB := n2_; clear n0_ n1_ n2_; clear hb ho20; obtain ⟨Ao22, co22, eo22⟩ := Kd.R_slice HO542.out; subst eo22) | ((with_reducible refine gate_builtin (b := .append) (xs := #[.tmp 40, .tmp 48]) rfl ?_); at_builtin; refine Kd.R_append_rows (Kd.int .u8) (w0 := w) w.heap.size rfl (.tmp 40) (.tmp 48) 37 5 (.int .u8 0) 1 rfl Try.underlying37 info5 rfl (by decide) (by omega) u3 x3_1 y540 _ _ _ (fun k_ => some k_ ≠ (.slice Ao22 y540.length co22 : Value).ownBlock) (fun _ => False) rfl rfl ?aO ?aR (fun _ _ h => h) (fun _ h => h.elim) ?aF ?aB ?aS ?aL ?_; (case aR => repeat (first | exact (Kd.R_reads' HO542.out).2.2 | (with_reducible refine Kd.C_alloc ?_ _) | (with_reducible refine Kd.C_drewN ?_ _) | (with_reducible refine Kd.C_drew ?_))); (case aB => exact (by repeat (first | (with_reducible first | exact HB.out | apply below_alloc | apply pw_below_drewN | apply below_drew1) | exact HB.out))); (case aF => exact (fun k_ hk => Kd.fresh' (Kd.R_lt (by (with_reducible repeat (first | apply Kd.R_alloc | apply Kd.R_drewN | apply Kd.R_drew)); exact HO542.out)) k_ hk)); (case aO => exact (by (with_reducible repeat (first | apply Kd.R_alloc | apply Kd.R_drewN | apply Kd.R_drew)); exact Kd.R_mono HO_3.out (fun _ hk => hk.2))); (case aS => exact (below_size (by repeat (first | (with_reducible first | exact HB.out | apply below_alloc | apply pw_below_drewN | apply below_drew1) | exact HB.out)))); (case aL => have := LMc18.out; omega); intro v544 w21 ho hb hg hat; rw [← Ny543.out] at ho; have n0_ := Aside0.mk (Kd.R_after (ok := (fun _ => True)) (by (with_reducible repeat (first | apply Kd.R_alloc | apply Kd.R_drewN | apply Kd.R_drew)); exact HO542.out) hg hat); have n1_ := Aside0.mk (hb); have n2_ := Aside0.mk (ho); clear HO542; clear HB; clear HO_3; have HO542 := n0_; have HB := n1_; have HO545 := n2_; clear n0_ n1_ n2_; clear ho hb hg hat))
                    go_roundg kj7
                    case measure => have := HK1.out; have := HJ7.out; omega
                    case rel =>
                      refine ⟨y543, wrap64 (x4_1 + 1), rfl, H', ?hA9, ?hB9, ?hC9⟩
                      case hA9 => exact ⟨by have := HK1.out; have := HJ7.out; omega⟩
                      case hB9 => exact ⟨by exact Kd.R_mono HO545.out (fun _ hk => trivial)⟩
                      case hC9 => exact HB
                  · rw [if_neg c18] at H
                    exact absurd H (by simp)
                · rw [if_neg c16] at H
                  have c16b0 : decide ((bt a0 x4_1) < 32) = false := decide_eq_false c16
                  clear c16
                  by_cases c23 : x3_1.length < 140737488355328
                  · rw [if_pos c23] at H
                    have LMc23 := Aside0.mk c23
                    clear c23
                    obtain ⟨y546, hy546⟩ : ∃ y_ : List Int, y_ = (x3_1 ++ [(bt a0 x4_1)]) := ⟨_, rfl⟩
                    replace H : (spec_Quote.l0 kj7 a0 y546 (wrap64 (x4_1 + 1))) = some r := by first | (rw [hy546]; with_reducible exact H) | (have H2_ := (Option.bind_some _ _).symm.trans H; rw [hy546]; with_reducible exact H2_) | (have H2_ := (Option.bind_some _ _).symm.trans H; with_reducible exact H2_) | with_reducible exact H | (rw [hy546]; exact H) | exact H
                    have Ny546 := Aside0.mk hy546
                    clear hy546
                    as_aux_lemma =>
                      have H' := Aside0.mk H
                      clear H
                      go_wp2_with (first | ((with_reducible refine gate_builtin (b := .append) (xs := #[.tmp 23, .tmp 25]) rfl ?_); at_builtin; refine Kd.R_append (Kd.int .u8) (w0 := w) w.heap.size rfl (.tmp 23) (.tmp 25) 37 5 (.int .u8 0) 1 rfl Try.underlying37 info5 rfl (by decide) (by omega) u3 x3_1 (bt a0 x4_1) [.int .u8 (bt a0 x4_1)] (fun _ => True) (fun _ => False) rfl rfl ?aP (fun _ hk => hk.elim) ?aF ?aO ?aB ?aS ?aL ?_; (case aP => exact rfl); (case aB => exact (by repeat (first | (with_reducible first | exact HB.out | apply below_alloc | apply pw_below_drewN | apply below_drew1) | exact HB.out))); (case aF => exact (fun _ _ => trivial)); (case aO => exact (by (with_reducible repeat (first | apply Kd.R_alloc | apply Kd.R_drewN | apply Kd.R_drew)); exact HO_3.out)); (case aS => exact (below_size (by repeat (first | (with_reducible first | exact HB.out | apply below_alloc | apply pw_below_drewN | apply below_drew1) | exact HB.out)))); (case aL => have := LMc23.out; omega); intro v547 w24 ho hb hg hat; rw [← Ny546.out] at ho; have n0_ := Aside0.mk (hb); have n1_ := Aside0.mk (ho); clear HB; clear HO_3; have HB := n0_; have HO548 := n1_; clear n0_ n1_; clear ho hb hg hat))
                      go_roundg kj7
                      case measure => have := HK1.out; have := HJ7.out; omega
                      case rel => exact ⟨(y546), (wrap64 (x4_1 + 1)), (by first | rfl | (simp; done) | (simp [*]; done)), H', ⟨by have := HK1.out; have := HJ7.out; omega⟩, ⟨by (with_reducible repeat (first | apply Kd.R_alloc | apply Kd.R_drewN | apply Kd.R_drew)); exact HO548.out⟩, ⟨by repeat (first | (with_reducible first | exact HB.out | apply below_alloc | apply pw_below_drewN | apply below_drew1) | exact HB.out)⟩⟩
                  · rw [if_neg c23] at H
                    exact absurd H (by simp)
        · rw [if_neg c5] at H
          exact absurd H (by simp)
      · rw [if_neg c4] at H
        have c4b0 : decide (x4_1 < (a0.size : Int)) = false := decide_eq_false c4
        clear c4
        by_cases c25 : x3_1.length < 140737488355328
        · rw [if_pos c25] at H
          have LMc25 := Aside0.mk c25
          clear c25
          obtain ⟨y528, hy528⟩ : ∃ y_ : List Int, y_ = (x3_1 ++ [34]) := ⟨_, rfl⟩
          replace H : (some (strOfNums y528)) = some r := by first | (rw [hy528]; with_reducible exact H) | (have H2_ := (Option.bind_some _ _).symm.trans H; rw [hy528]; with_reducible exact H2_) | (have H2_ := (Option.bind_some _ _).symm.trans H; with_reducible exact H2_) | with_reducible exact H | (rw [hy528]; exact H) | exact H
          have Ny528 := Aside0.mk hy528
          clear hy528
          as_aux_lemma =>
            obtain rfl := Option.some.inj H
            go_wp2_with (first | ((with_reducible refine gate_builtin (b := .append) (xs := #[.tmp 50, .tmp 51]) rfl ?_); at_builtin; refine Kd.R_append (Kd.int .u8) (w0 := w) w.heap.size rfl (.tmp 50) (.tmp 51) 37 5 (.int .u8 0) 1 rfl Try.underlying37 info5 rfl (by decide) (by omega) u3 x3_1 34 [.int .u8 34] (fun _ => True) (fun _ => False) rfl rfl ?aP (fun _ hk => hk.elim) ?aF ?aO ?aB ?aS ?aL ?_; (case aP => exact rfl); (case aB => exact (by repeat (first | (with_reducible first | exact HB.out | apply below_alloc | apply pw_below_drewN | apply below_drew1) | exact HB.out))); (case aF => exact (fun _ _ => trivial)); (case aO => exact (by (with_reducible repeat (first | apply Kd.R_alloc | apply Kd.R_drewN | apply Kd.R_drew)); exact HO_3.out)); (case aS => exact (below_size (by repeat (first | (with_reducible first | exact HB.out | apply below_alloc | apply pw_below_drewN | apply below_drew1) | exact HB.out)))); (case aL => have := LMc25.out; omega); intro v529 w26 ho hb hg hat; rw [← Ny528.out] at ho; have n0_ := Aside0.mk (hb); have n1_ := Aside0.mk (ho); clear HB; clear HO_3; have HB := n0_; have HO530 := n1_; clear n0_ n1_; clear ho hb hg hat; have hcv27 := own_string (P := Try.prog) Try.underlying37 Try.underlying5 Try.underlying9 (Kd.own_of_R HO530.out)))
            go_ret
            exact ⟨by first | rfl | (simp [errW_none, errW_some] <;> rfl) | (simp [*, errW_none, errW_some] <;> rfl), by repeat (first | (with_reducible first | exact HB.out | apply below_alloc | apply pw_below_drewN | apply below_drew1) | exact HB.out)⟩
        · rw [if_neg c25] at H
          exact absurd H (by simp)

end Go.Proofs.Ytdcigjpgagimdaa.M
