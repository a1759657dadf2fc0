-- Written by a program of this work (wip/patch_print.py over the kit's printer) for this claim: each Go function as a Lean function, and that the Go code comes to its answers.
import Derived.Test.YtdcigjpgagimdaaPlc
import Derived.Test.YtdcigjpgagimdaaMx5
import Derived.Test.YtdcigjpgagimdaaMx0
import Derived.Test.YtdcigjpgagimdaaMx1
import Derived.Test.YtdcigjpgagimdaaMx2
import Derived.Test.YtdcigjpgagimdaaMx3
import Derived.Test.YtdcigjpgagimdaaMx4
namespace Go.Proofs.Ytdcigjpgagimdaa.M
open Go.RowKit Go.Proofs.YtdcigjpgagimdaaW.PrintWords Go.Proofs.YtdcigjpgagimdaaW.PrintLast Go.Proofs.YtdcigjpgagimdaaW.PrintMore
attribute [local go_sem] max2_int min2_int max_two min_two max_three min_three max_four min_four   -- for this text's walks alone
set_option linter.unusedVariables false
set_option linter.unusedSimpArgs false

/-! ### laws_prPlaces: function 6 -/
def laws_prPlaces.f (k : Nat) (a0 : ByteArray) : Option (Int × Int × Int × (List (S66)) × (List (S28)) × Bool) := if (a0.size : Int) > 4096 then (some (0, 0, 0, ([] : List (S66)), ([] : List (S28)), false)) else ((spec_Places.f k a0).bind fun bt267 => (some (bt267.1, bt267.2.1, bt267.2.2.1, bt267.2.2.2.1, bt267.2.2.2.2.1, bt267.2.2.2.2.2)))
theorem laws_prPlaces.mono : ∀ a0 k, LeO (laws_prPlaces.f k a0) (laws_prPlaces.f (k + 1) a0) := by
  intro a0 k
  unfold laws_prPlaces.f
  repeat' first
      | (with_reducible exact spec_Places.mono _ _)
      | (with_reducible exact LeO.refl _)
      | (with_reducible exact LeO.none _)
      | (with_reducible refine LeO.ite ?_ ?_)
      | (with_reducible refine LeO.bind ?_ (fun _ => ?_))
      | exact spec_Places.mono _ _
      | exact LeO.none _
      | refine LeO.ite ?_ ?_
      | refine LeO.bind ?_ (fun _ => ?_)
set_option maxHeartbeats 8000000 in
set_option maxRecDepth 100000 in
theorem laws_prPlaces.calls (k : Nat) (a0 : ByteArray) (r1 : Int) (r2 : Int) (r3 : Int) (r4 : List (S66)) (r5 : List (S28)) (r6 : Bool) (w : World) (h : laws_prPlaces.f k a0 = some (r1, r2, r3, r4, r5, r6)) :
    Calls Try.prog 6 #[.string a0] w fun e w' => ∃ v3_ v4_ : Value, e = .returned (.tuple #[.agg #[.int .i64 r1, .int .i64 r2, .int .i64 r3, v3_, v4_], .bool r6]) ∧ Kd.R k66 66 w' w.heap.size (fun _ => True) v3_ r4 ∧ Kd.R k28 28 w' w.heap.size (fun k_ => some k_ ≠ (v3_ : Value).ownBlock) v4_ r5 ∧ Below w.heap.size w w' := by
  have hu28 := Try.underlying28
  have HB := Aside0.mk (Below.refl w.heap.size w)
  have H : (if (a0.size : Int) > 4096 then (some (0, 0, 0, ([] : List (S66)), ([] : List (S28)), false)) else ((spec_Places.f k a0).bind fun bt267 => (some (bt267.1, bt267.2.1, bt267.2.2.1, bt267.2.2.2.1, bt267.2.2.2.2.1, bt267.2.2.2.2.2)))) = some (r1, r2, r3, r4, r5, r6) := h
  clear h
  by_cases c2 : (a0.size : Int) > 4096
  · rw [if_pos c2] at H
    have c2b0 : decide (4096 < (a0.size : Int)) = true := decide_eq_true c2
    have c2b1 : decide (4096 < a0.size) = true := decide_eq_true (by omega)
    clear c2
    simp only [Option.some.injEq, Prod.mk.injEq] at H
    obtain ⟨rfl, rfl, rfl, rfl, rfl, rfl⟩ := H
    go_enter Try.func6, Try.ntmps6
    go_wp2_with (first | ((with_reducible refine gate_dst (N := 2) rfl ?_); refine box_event ?hg (N := 2) ?hd (cs := #[.int .i64 0, .int .i64 0, .int .i64 0, .slice none 0 0, .slice none 0 0]) (t := 28) ?hr ?_; (case hd => rfl); (case hg => rfl); (case hr => first | (go_simp; done) | (go_simp; rfl)); intro gb266 hg w3 hbox hb; have n0_ := Aside0.mk (below_step (by repeat (first | (with_reducible first | exact HB.out | apply below_alloc | apply pw_below_drewN | apply below_drew1) | exact HB.out)) hb); have n1_ := Aside0.mk (hbox); have n2_ := Aside0.mk ((by rw [hg]; exact (below_size (by repeat (first | (with_reducible first | exact HB.out | apply below_alloc | apply pw_below_drewN | apply below_drew1) | exact HB.out))) : w.heap.size ≤ gb266)); have n3_ := Aside0.mk ((by rw [hg]; exact (below_size (by repeat (first | (with_reducible first | exact HB.out | apply below_alloc | apply pw_below_drewN | apply below_drew1) | exact HB.out))) : w.heap.size ≤ gb266)); clear HB; have HB := n0_; have BK266 := n1_; have GW266 := n2_; have GE266 := n3_; clear n0_ n1_ n2_ n3_; clear hb hbox hg; have hcz4_0 : w3.cell? ⟨gb266, 0, none⟩ = some (.int .i64 0) := (blk_cell BK266.out 0).trans rfl; have hcz4_1 : w3.cell? ⟨gb266, 1, none⟩ = some (.int .i64 0) := (blk_cell BK266.out 1).trans rfl; have hcz4_2 : w3.cell? ⟨gb266, 2, none⟩ = some (.int .i64 0) := (blk_cell BK266.out 2).trans rfl; have hcz4_3 : w3.cell? ⟨gb266, 3, none⟩ = some (.slice none 0 0) := (blk_cell BK266.out 3).trans rfl; have hcz4_4 : w3.cell? ⟨gb266, 4, none⟩ = some (.slice none 0 0) := (blk_cell BK266.out 4).trans rfl; have hfz4_0 := blk_frozen BK266.out 0; have hfz4_1 := blk_frozen BK266.out 1; have hfz4_2 := blk_frozen BK266.out 2; have hfz4_3 := blk_frozen BK266.out 3; have hfz4_4 := blk_frozen BK266.out 4))
    refine bodyPost_ret (results_ct rfl _ _ gb266 28 #[.int .i64 0, .int .i64 0, .int .i64 0, .slice none 0 0, .slice none 0 0] (0, 0) _ rfl (by (with_reducible repeat (first | refine blk_drewN ?_ _ | refine blk_drew ?_ | refine blk_alloc ?_ _)); refine blk_put (cs := #[.int .i64 0, .int .i64 0, .int .i64 0, .slice none 0 0, .slice none 0 0]) ?_ 4 _ rfl; (with_reducible repeat (first | refine blk_drewN ?_ _ | refine blk_drew ?_ | refine blk_alloc ?_ _)); refine blk_put (cs := #[.int .i64 0, .int .i64 0, .int .i64 0, .slice none 0 0, .slice none 0 0]) ?_ 3 _ rfl; (with_reducible repeat (first | refine blk_drewN ?_ _ | refine blk_drew ?_ | refine blk_alloc ?_ _)); refine blk_put (cs := #[.int .i64 0, .int .i64 0, .int .i64 0, .slice none 0 0, .slice none 0 0]) ?_ 2 _ rfl; (with_reducible repeat (first | refine blk_drewN ?_ _ | refine blk_drew ?_ | refine blk_alloc ?_ _)); refine blk_put (cs := #[.int .i64 0, .int .i64 0, .int .i64 0, .slice none 0 0, .slice none 0 0]) ?_ 1 _ rfl; (with_reducible repeat (first | refine blk_drewN ?_ _ | refine blk_drew ?_ | refine blk_alloc ?_ _)); refine blk_put (cs := #[.int .i64 0, .int .i64 0, .int .i64 0, .slice none 0 0, .slice none 0 0]) ?_ 0 _ rfl; (with_reducible repeat (first | refine blk_drewN ?_ _ | refine blk_drew ?_ | refine blk_alloc ?_ _)); exact BK266.out) Try.underlying28 rfl (by kernel_rfl)) rfl ?_
    exact ⟨_, _, by first | rfl | (simp [errW_none, errW_some] <;> rfl) | (simp [*, errW_none, errW_some] <;> rfl), by first | exact Kd.R_nil _ _ _ _ _ | exact Kd.N_nil _ _ _ _ _ | exact Kd.V_nil _ _ _ _ _ | exact Kd.Q_nil _ _ _ _ _ | exact Kd.S_nil _ _ _ _ _, by first | exact Kd.R_nil _ _ _ _ _ | exact Kd.N_nil _ _ _ _ _ | exact Kd.V_nil _ _ _ _ _ | exact Kd.Q_nil _ _ _ _ _ | exact Kd.S_nil _ _ _ _ _, by repeat (first | (with_reducible first | exact HB.out | apply below_alloc | apply pw_below_drewN | apply below_drew1 | refine below_set ?_ GE266.out) | exact HB.out)⟩
  · rw [if_neg c2] at H
    have c2b0 : decide (4096 < (a0.size : Int)) = false := decide_eq_false c2
    have c2b1 : decide (4096 < a0.size) = false := decide_eq_false (by omega)
    clear c2
    replace H := Option.bind_eq_some_iff.mp H
    obtain ⟨⟨t267, t268, t269, t270, t273, t276⟩, A50, H⟩ := H
    replace H : (some (t267, t268, t269, t270, t273, t276)) = some (r1, r2, r3, r4, r5, r6) := H
    have A5 := Aside0.mk A50
    clear A50
    simp only [Option.some.injEq, Prod.mk.injEq] at H
    obtain ⟨rfl, rfl, rfl, rfl, rfl, rfl⟩ := H
    go_enter Try.func6, Try.ntmps6
    go_wp2_with (first | ((with_reducible refine gate_dst (N := 2) rfl ?_); refine box_event ?hg (N := 2) ?hd (cs := #[.int .i64 0, .int .i64 0, .int .i64 0, .slice none 0 0, .slice none 0 0]) (t := 28) ?hr ?_; (case hd => rfl); (case hg => rfl); (case hr => first | (go_simp; done) | (go_simp; rfl)); intro gb266 hg w6 hbox hb; have n0_ := Aside0.mk (below_step (by repeat (first | (with_reducible first | exact HB.out | apply below_alloc | apply pw_below_drewN | apply below_drew1) | exact HB.out)) hb); have n1_ := Aside0.mk (hbox); have n2_ := Aside0.mk ((by rw [hg]; exact (below_size (by repeat (first | (with_reducible first | exact HB.out | apply below_alloc | apply pw_below_drewN | apply below_drew1) | exact HB.out))) : w.heap.size ≤ gb266)); have n3_ := Aside0.mk ((by rw [hg]; exact (below_size (by repeat (first | (with_reducible first | exact HB.out | apply below_alloc | apply pw_below_drewN | apply below_drew1) | exact HB.out))) : w.heap.size ≤ gb266)); clear HB; have HB := n0_; have BK266 := n1_; have GW266 := n2_; have GE266 := n3_; clear n0_ n1_ n2_ n3_; clear hb hbox hg) | ((with_reducible refine gate_callee (f := 12) rfl ?_); refine goesL_ (some 9) rfl rfl Try.func12 (by kernel_rfl) rfl #[.string a0] rfl (by (try simp only [List.map_toArray, List.map_cons, List.map_nil]); first | done | rfl | (simp only [List.length_drop, List.length_take]; rfl)) ?_; (with_reducible refine (spec_Places.calls k a0 t267 t268 t269 t270 t273 t276 _ A5.out).mono ?_); rintro e w7 ⟨v271, v274, rfl, ho0, ho1, hb⟩; refine ⟨_, rfl, ?_⟩; have n0_ := Aside0.mk (Kd.R_lower ho0 (below_size (by repeat (first | (with_reducible first | exact HB.out | apply below_alloc | apply pw_below_drewN | apply below_drew1 | refine below_set ?_ GE266.out) | exact HB.out)))); have n1_ := Aside0.mk (Kd.R_lower (Kd.R_newB ho1 (g := gb266) (o := .cells #[.int .i64 0, .int .i64 0, .int .i64 0, .slice none 0 0, .slice none 0 0] 28 (0, 0)) (by (with_reducible repeat (first | refine blk_drewN ?_ _ | refine blk_drew ?_ | refine blk_alloc ?_ _)); exact BK266.out)) (below_size (by repeat (first | (with_reducible first | exact HB.out | apply below_alloc | apply pw_below_drewN | apply below_drew1 | refine below_set ?_ GE266.out) | exact HB.out)))); have n2_ := Aside0.mk (blk_below (g := gb266) (o := .cells #[.int .i64 0, .int .i64 0, .int .i64 0, .slice none 0 0, .slice none 0 0] 28 (0, 0)) (by (with_reducible repeat (first | refine blk_drewN ?_ _ | refine blk_drew ?_ | refine blk_alloc ?_ _)); exact BK266.out) hb); have n3_ := Aside0.mk (below_step (by repeat (first | (with_reducible first | exact HB.out | apply below_alloc | apply pw_below_drewN | apply below_drew1 | refine below_set ?_ GE266.out) | exact HB.out)) hb); clear BK266; clear HB; have HO272 := n0_; have HO275 := n1_; have BK266 := n2_; have HB := n3_; clear n0_ n1_ n2_ n3_; (try clear hb); (try clear hb2); (try clear hk); (try clear hi); (try clear ho0); (try clear ho1); have hcz8_0 : w7.cell? ⟨gb266, 0, none⟩ = some (.int .i64 0) := (blk_cell BK266.out 0).trans rfl; have hcz8_1 : w7.cell? ⟨gb266, 1, none⟩ = some (.int .i64 0) := (blk_cell BK266.out 1).trans rfl; have hcz8_2 : w7.cell? ⟨gb266, 2, none⟩ = some (.int .i64 0) := (blk_cell BK266.out 2).trans rfl; have hcz8_3 : w7.cell? ⟨gb266, 3, none⟩ = some (.slice none 0 0) := (blk_cell BK266.out 3).trans rfl; have hcz8_4 : w7.cell? ⟨gb266, 4, none⟩ = some (.slice none 0 0) := (blk_cell BK266.out 4).trans rfl; have hfz8_0 := blk_frozen BK266.out 0; have hfz8_1 := blk_frozen BK266.out 1; have hfz8_2 := blk_frozen BK266.out 2; have hfz8_3 := blk_frozen BK266.out 3; have hfz8_4 := blk_frozen BK266.out 4; obtain ⟨Ao9, co9, eo9⟩ := Kd.R_slice HO272.out; subst eo9; obtain ⟨Ao10, co10, eo10⟩ := Kd.R_slice HO275.out; subst eo10))
    refine bodyPost_ret (results_ct rfl _ _ gb266 28 #[.int .i64 t267, .int .i64 t268, .int .i64 t269, .slice Ao9 t270.length co9, .slice Ao10 t273.length co10] (0, 0) _ rfl (by (with_reducible repeat (first | refine blk_drewN ?_ _ | refine blk_drew ?_ | refine blk_alloc ?_ _)); refine blk_put (cs := #[.int .i64 t267, .int .i64 t268, .int .i64 t269, .slice Ao9 t270.length co9, .slice none 0 0]) ?_ 4 _ rfl; (with_reducible repeat (first | refine blk_drewN ?_ _ | refine blk_drew ?_ | refine blk_alloc ?_ _)); refine blk_put (cs := #[.int .i64 t267, .int .i64 t268, .int .i64 t269, .slice none 0 0, .slice none 0 0]) ?_ 3 _ rfl; (with_reducible repeat (first | refine blk_drewN ?_ _ | refine blk_drew ?_ | refine blk_alloc ?_ _)); refine blk_put (cs := #[.int .i64 t267, .int .i64 t268, .int .i64 0, .slice none 0 0, .slice none 0 0]) ?_ 2 _ rfl; (with_reducible repeat (first | refine blk_drewN ?_ _ | refine blk_drew ?_ | refine blk_alloc ?_ _)); refine blk_put (cs := #[.int .i64 t267, .int .i64 0, .int .i64 0, .slice none 0 0, .slice none 0 0]) ?_ 1 _ rfl; (with_reducible repeat (first | refine blk_drewN ?_ _ | refine blk_drew ?_ | refine blk_alloc ?_ _)); refine blk_put (cs := #[.int .i64 0, .int .i64 0, .int .i64 0, .slice none 0 0, .slice none 0 0]) ?_ 0 _ rfl; (with_reducible repeat (first | refine blk_drewN ?_ _ | refine blk_drew ?_ | refine blk_alloc ?_ _)); exact BK266.out) Try.underlying28 rfl (by kernel_rfl)) rfl ?_
    exact ⟨_, _, by first | rfl | (simp [errW_none, errW_some] <;> rfl) | (simp [*, errW_none, errW_some] <;> rfl), by (with_reducible repeat (first | apply Kd.R_alloc | apply Kd.R_drewN | apply Kd.R_drew)); exact Kd.R_mono (Kd.R_far (p := ⟨gb266, 4, none⟩) (Kd.R_far (p := ⟨gb266, 3, none⟩) (Kd.R_far (p := ⟨gb266, 2, none⟩) (Kd.R_far (p := ⟨gb266, 1, none⟩) (Kd.R_far (p := ⟨gb266, 0, none⟩) (Kd.R_types HO272.out BK266.out (by decide)) (fun _ hk => hk.2) (.int .i64 t267)) (fun _ hk => hk.2) (.int .i64 t268)) (fun _ hk => hk.2) (.int .i64 t269)) (fun _ hk => hk.2) (.slice Ao9 t270.length co9)) (fun _ hk => hk.2) (.slice Ao10 t273.length co10)) (fun _ hk => trivial), by (with_reducible repeat (first | apply Kd.R_alloc | apply Kd.R_drewN | apply Kd.R_drew)); exact Kd.R_mono (Kd.R_far (p := ⟨gb266, 4, none⟩) (Kd.R_far (p := ⟨gb266, 3, none⟩) (Kd.R_far (p := ⟨gb266, 2, none⟩) (Kd.R_far (p := ⟨gb266, 1, none⟩) (Kd.R_far (p := ⟨gb266, 0, none⟩) (Kd.R_mono HO275.out (fun k_ hk => (⟨hk, hk.2⟩ : _ ∧ k_ ≠ gb266))) (fun _ hk => hk.2) (.int .i64 t267)) (fun _ hk => hk.2) (.int .i64 t268)) (fun _ hk => hk.2) (.int .i64 t269)) (fun _ hk => hk.2) (.slice Ao9 t270.length co9)) (fun _ hk => hk.2) (.slice Ao10 t273.length co10)) (fun _ hk => hk.1.1), by repeat (first | (with_reducible first | exact HB.out | apply below_alloc | apply pw_below_drewN | apply below_drew1 | refine below_set ?_ GE266.out) | exact HB.out)⟩

/-! ### laws_prOneLine: function 7 -/
mutual
def laws_prOneLine.l0 : Nat → List ByteArray → Int → Int → Option (Bool)
  | 0, _, _, _ => none
  | k + 1, x10, x11, x12 => if x12 < x11 then (if 0 ≤ x12 then (if x12 < (x10.length : Int) then (laws_prOneLine.l1 k (rdOf ByteArray.empty x10 x12) 0 x10 x11 x12) else (none)) else (none)) else (some true)
def laws_prOneLine.l1 : Nat → ByteArray → Int → List ByteArray → Int → Int → Option (Bool)
  | 0, _, _, _, _, _ => none
  | k + 1, x4, x5, x10, x11, x12 => if x5 < (x4.size : Int) then (if 0 ≤ x5 then (if (bt x4 x5) = 10 then (some false) else (laws_prOneLine.l1 k x4 (wrap64 (x5 + 1)) x10 x11 x12)) else (none)) else (if (x4.size : Int) > 64 then (some false) else (laws_prOneLine.l0 k x10 x11 (wrap64 (x12 + 1))))
end
def laws_prOneLine.f (k : Nat) (a0_0 : Int) (a0_1 : ByteArray) (a0_2 : ByteArray) (a0_3 : Bool) : Option (Bool) := (some (([a0_1, a0_2] : List ByteArray) : List ByteArray)).bind fun y278 => (laws_prOneLine.l0 k y278 (y278.length : Int) 0)
theorem laws_prOneLine.mono_l : ∀ k, (∀ y0 y1 y2, LeO (laws_prOneLine.l0 k y0 y1 y2) (laws_prOneLine.l0 (k + 1) y0 y1 y2)) ∧ (∀ y0 y1 y2 y3 y4, LeO (laws_prOneLine.l1 k y0 y1 y2 y3 y4) (laws_prOneLine.l1 (k + 1) y0 y1 y2 y3 y4))
  | 0 => ⟨fun _ _ _ r h => by simp [laws_prOneLine.l0] at h, fun _ _ _ _ _ r h => by simp [laws_prOneLine.l1] at h⟩
  | k + 1 => by
    obtain ⟨ih0, ih1⟩ := laws_prOneLine.mono_l k
    refine ⟨?_, ?_⟩
    · intro y0 y1 y2
      unfold laws_prOneLine.l0
      repeat' first
      | (with_reducible exact ih0 _ _ _)
      | (with_reducible exact ih1 _ _ _ _ _)
      | (with_reducible exact LeO.refl _)
      | (with_reducible exact LeO.none _)
      | (with_reducible refine LeO.ite ?_ ?_)
      | (with_reducible refine LeO.bind ?_ (fun _ => ?_))
      | exact ih0 _ _ _
      | exact ih1 _ _ _ _ _
      | exact LeO.none _
      | refine LeO.ite ?_ ?_
      | refine LeO.bind ?_ (fun _ => ?_)
    · intro y0 y1 y2 y3 y4
      unfold laws_prOneLine.l1
      repeat' first
      | (with_reducible exact ih0 _ _ _)
      | (with_reducible exact ih1 _ _ _ _ _)
      | (with_reducible exact LeO.refl _)
      | (with_reducible exact LeO.none _)
      | (with_reducible refine LeO.ite ?_ ?_)
      | (with_reducible refine LeO.bind ?_ (fun _ => ?_))
      | exact ih0 _ _ _
      | exact ih1 _ _ _ _ _
      | exact LeO.none _
      | refine LeO.ite ?_ ?_
      | refine LeO.bind ?_ (fun _ => ?_)
theorem laws_prOneLine.mono : ∀ a0 a1 a2 a3 k, LeO (laws_prOneLine.f k a0 a1 a2 a3) (laws_prOneLine.f (k + 1) a0 a1 a2 a3) := by
  intro a0 a1 a2 a3 k
  obtain ⟨ih0, ih1⟩ := laws_prOneLine.mono_l k
  unfold laws_prOneLine.f
  repeat' first
      | (with_reducible exact ih0 _ _ _)
      | (with_reducible exact ih1 _ _ _ _ _)
      | (with_reducible exact LeO.refl _)
      | (with_reducible exact LeO.none _)
      | (with_reducible refine LeO.ite ?_ ?_)
      | (with_reducible refine LeO.bind ?_ (fun _ => ?_))
      | exact ih0 _ _ _
      | exact ih1 _ _ _ _ _
      | exact LeO.none _
      | refine LeO.ite ?_ ?_
      | refine LeO.bind ?_ (fun _ => ?_)
set_option maxHeartbeats 8000000 in
set_option maxRecDepth 100000 in
theorem laws_prOneLine.calls (k : Nat) (a0_0 : Int) (a0_1 : ByteArray) (a0_2 : ByteArray) (a0_3 : Bool) (r : Bool) (w : World) (h : laws_prOneLine.f k a0_0 a0_1 a0_2 a0_3 = some r) :
    Calls Try.prog 7 #[.agg #[.int .i64 a0_0, .string a0_1, .string a0_2, .bool a0_3]] w fun e w' => e = .returned (.bool r) ∧ Below w.heap.size w w' := by
  have hu23 := Try.underlying23
  have HB := Aside0.mk (Below.refl w.heap.size w)
  have H : ((some (([a0_1, a0_2] : List ByteArray) : List ByteArray)).bind fun y278 => (laws_prOneLine.l0 k y278 (y278.length : Int) 0)) = some r := h
  clear h
  obtain ⟨y278, hy278⟩ : ∃ y_ : List ByteArray, y_ = (([a0_1, a0_2] : List ByteArray)) := ⟨_, rfl⟩
  replace H : (laws_prOneLine.l0 k y278 (y278.length : Int) 0) = some r := by first | (rw [hy278]; with_reducible exact H) | (have H2_ := (Option.bind_some _ _).symm.trans H; rw [hy278]; with_reducible exact H2_) | (have H2_ := (Option.bind_some _ _).symm.trans H; with_reducible exact H2_) | with_reducible exact H | (rw [hy278]; exact H) | exact H
  have Ny278 := Aside0.mk hy278
  clear hy278
  have H' := Aside0.mk H
  clear H
  go_enter Try.func7, Try.ntmps7
  go_wp2_with (first | ((with_reducible refine gate_dst (N := 1) rfl ?_); refine box_event ?hg (N := 1) ?hd (cs := #[.int .i64 a0_0, .string a0_1, .string a0_2, .bool a0_3]) (t := 23) ?hr ?_; (case hd => rfl); (case hg => rfl); (case hr => first | (go_simp; done) | (go_simp; rfl)); intro gb277 hg w2 hbox hb; have n0_ := Aside0.mk (below_step (by repeat (first | (with_reducible first | exact HB.out | apply below_alloc | apply pw_below_drewN | apply below_drew1) | exact HB.out)) hb); have n1_ := Aside0.mk (hbox); have n2_ := Aside0.mk ((by rw [hg]; exact (below_size (by repeat (first | (with_reducible first | exact HB.out | apply below_alloc | apply pw_below_drewN | apply below_drew1) | exact HB.out))) : w.heap.size ≤ gb277)); have n3_ := Aside0.mk ((by rw [hg]; exact (below_size (by repeat (first | (with_reducible first | exact HB.out | apply below_alloc | apply pw_below_drewN | apply below_drew1) | exact HB.out))) : w.heap.size ≤ gb277)); clear HB; have HB := n0_; have BK277 := n1_; have GW277 := n2_; have GE277 := n3_; clear n0_ n1_ n2_ n3_; clear hb hbox hg; have hcz3_0 : w2.cell? ⟨gb277, 0, none⟩ = some (.int .i64 a0_0) := (blk_cell BK277.out 0).trans rfl; have hcz3_1 : w2.cell? ⟨gb277, 1, none⟩ = some (.string a0_1) := (blk_cell BK277.out 1).trans rfl; have hcz3_2 : w2.cell? ⟨gb277, 2, none⟩ = some (.string a0_2) := (blk_cell BK277.out 2).trans rfl; have hcz3_3 : w2.cell? ⟨gb277, 3, none⟩ = some (.bool a0_3) := (blk_cell BK277.out 3).trans rfl; have hfz3_0 := blk_frozen BK277.out 0; have hfz3_1 := blk_frozen BK277.out 1; have hfz3_2 := blk_frozen BK277.out 2; have hfz3_3 := blk_frozen BK277.out 3) | ((with_reducible refine gate_dst (N := 10) rfl ?_); refine Kd.R_lit Kd.string _ 9 ?hg (N := 10) ?hd (xs := ([a0_1, a0_2] : List ByteArray)) (inner := [.string a0_1, .string a0_2]) (ok := fun _ => True) (okp := fun _ => True) ?hr ?hp (fun _ hk => hk) trivial (Below.refl _ _) (Nat.le_refl _) (by simp) ?_; (case hd => rfl); (case hg => rfl); (case hr => first | (go_simp; done) | (go_simp; rfl)); (case hp => exact (Reps.one (show Kd.M Kd.string _ _ _ a0_1 [.string a0_1] from rfl) (Reps.one (show Kd.M Kd.string _ _ _ a0_2 [.string a0_2] from rfl) (Reps.none _ _)))); intro v279 w4 ho5 hb hg_ hnew_; clear hg_ hnew_; (first | rw [← Ny278.out] at ho5 | (simp only [Int.reduceToNat] at ho5; rw [← Ny278.out] at ho5)); have n0_ := Aside0.mk (Kd.R_lower ho5 (below_size (by repeat (first | (with_reducible first | exact HB.out | apply below_alloc | apply pw_below_drewN | apply below_drew1 | refine below_set ?_ GE277.out) | exact HB.out)))); have n1_ := Aside0.mk (blk_below (g := gb277) (o := .cells #[.int .i64 a0_0, .string a0_1, .string a0_2, .bool a0_3] 23 (0, 0)) (by (with_reducible repeat (first | refine blk_drewN ?_ _ | refine blk_drew ?_ | refine blk_alloc ?_ _)); exact BK277.out) hb); have n2_ := Aside0.mk (below_step (by repeat (first | (with_reducible first | exact HB.out | apply below_alloc | apply pw_below_drewN | apply below_drew1 | refine below_set ?_ GE277.out) | exact HB.out)) hb); clear BK277; clear HB; have HO280 := n0_; have BK277 := n1_; have HB := n2_; clear n0_ n1_ n2_; clear hb ho5; obtain ⟨Ao6, co6, eo6⟩ := Kd.R_slice HO280.out; subst eo6))
  (try simp only [Act.put, List.setIfInBounds_toArray, List.set_cons_succ, List.set_cons_zero])
  go_loopg [12] k (fun kq v12 w' => ∃ (x12_1 : Int), v12 = .int .i64 x12_1 ∧ Aside0 (laws_prOneLine.l0 kq y278 (y278.length : Int) x12_1 = some r) ∧ Aside0 (kq ≤ k) ∧ Aside0 (Kd.R Kd.string 9 w' w.heap.size (fun _ => True) (.slice Ao6 y278.length co6) y278) ∧ Aside0 (w'.heap[gb277]? = some (.cells #[.int .i64 a0_0, .string a0_1, .string a0_2, .bool a0_3] 23 (0, 0))) ∧ Aside0 (Below w.heap.size w w'))
  case atStart => exact ⟨(0), (by first | rfl | (simp; done) | (simp [*]; done)), H', ⟨Nat.le_refl _⟩, ⟨by (with_reducible repeat (first | apply Kd.R_alloc | apply Kd.R_drewN | apply Kd.R_drew)); exact HO280.out⟩, ⟨by (with_reducible repeat (first | refine blk_drewN ?_ _ | refine blk_drew ?_ | refine blk_alloc ?_ _)); exact BK277.out⟩, ⟨by repeat (first | (with_reducible first | exact HB.out | apply below_alloc | apply pw_below_drewN | apply below_drew1 | refine below_set ?_ GE277.out) | exact HB.out)⟩⟩
  case round =>
    clear H'
    try clear p2
    try clear hcz3_0
    try clear hcz3_1
    try clear hcz3_2
    try clear hcz3_3
    try clear hfz3_0
    try clear hfz3_1
    try clear hfz3_2
    try clear hfz3_3
    obtain ⟨x12_1, rfl, HA, HK1, HO_10, BK277, HB⟩ := hrel
    cases gk with
    | zero => exact absurd HA.out (by simp [laws_prOneLine.l0])
    | succ k1 =>
      have H := HA.out
      clear HA
      simp only [laws_prOneLine.l0] at H
      by_cases c7 : x12_1 < (y278.length : Int)
      · rw [if_pos c7] at H
        have c7b0 : decide (x12_1 < (y278.length : Int)) = true := decide_eq_true c7
        clear c7
        by_cases c8 : 0 ≤ x12_1
        · rw [if_pos c8] at H
          have c8b0 : decide (0 ≤ x12_1) = true := decide_eq_true c8
          clear c8
          by_cases c9 : x12_1 < (y278.length : Int)
          · rw [if_pos c9] at H
            have c9b0 : decide (x12_1 < (y278.length : Int)) = true := decide_eq_true c9
            clear c9
            have H' := Aside0.mk H
            clear H
            have p281 : 0 ≤ (x12_1 : Int) := of_decide_eq_true (by first | (with_reducible assumption) | assumption)
            have q281 : x12_1 < (y278.length : Int) := of_decide_eq_true (by first | (with_reducible assumption) | assumption)
            obtain ⟨ad281, e281, hx281_0⟩ := Kd.at_string (Kd.R_reads' HO_10.out).2.2 x12_1 p281 q281
            cases e281
            replace p281 := eq_true p281
            replace q281 := eq_true q281
            go_wp2
            (try simp only [Act.put, List.setIfInBounds_toArray, List.set_cons_succ, List.set_cons_zero])
            go_loopg [5] k1 (fun kq v5 w' => ∃ (x5_2 : Int), v5 = .int .i64 x5_2 ∧ Aside0 (laws_prOneLine.l1 kq (rdOf ByteArray.empty y278 x12_1) x5_2 y278 (y278.length : Int) x12_1 = some r) ∧ Aside0 (kq ≤ k1) ∧ Aside0 (Kd.R Kd.string 9 w' w.heap.size (fun _ => True) (.slice (some ad281) y278.length co6) y278) ∧ Aside0 (w'.heap[gb277]? = some (.cells #[.int .i64 a0_0, .string a0_1, .string a0_2, .bool a0_3] 23 (0, 0))) ∧ Aside0 (Below w.heap.size w w'))
            case atStart => exact ⟨(0), (by first | rfl | (simp; done) | (simp [*]; done)), H', ⟨Nat.le_refl _⟩, ⟨by (with_reducible repeat (first | apply Kd.R_alloc | apply Kd.R_drewN | apply Kd.R_drew)); exact HO_10.out⟩, ⟨by (with_reducible repeat (first | refine blk_drewN ?_ _ | refine blk_drew ?_ | refine blk_alloc ?_ _)); exact BK277.out⟩, ⟨by repeat (first | (with_reducible first | exact HB.out | apply below_alloc | apply pw_below_drewN | apply below_drew1 | refine below_set ?_ GE277.out) | exact HB.out)⟩⟩
            case round =>
              clear H'
              try clear p2
              try clear q2
              try clear hx2
              try clear c7
              try clear c7b0
              try clear c8
              try clear c8b0
              try clear c9
              try clear c9b0
              try clear hcz3_0
              try clear hcz3_1
              try clear hcz3_2
              try clear hcz3_3
              try clear hfz3_0
              try clear hfz3_1
              try clear hfz3_2
              try clear hfz3_3
              try clear hx281_0
              try clear p2
              try clear p281
              try clear q281
              obtain ⟨x5_2, rfl, HA, HK2, HO_10, BK277, HB⟩ := hrel
              cases gk with
              | zero => exact absurd HA.out (by simp [laws_prOneLine.l1])
              | succ k2 =>
                have H := HA.out
                clear HA
                simp only [laws_prOneLine.l1] at H
                by_cases c10 : x5_2 < ((rdOf ByteArray.empty y278 x12_1).size : Int)
                · rw [if_pos c10] at H
                  have c10b0 : decide (x5_2 < ((rdOf ByteArray.empty y278 x12_1).size : Int)) = true := decide_eq_true c10
                  clear c10
                  by_cases c11 : 0 ≤ x5_2
                  · rw [if_pos c11] at H
                    have c11b0 : decide (0 ≤ x5_2) = true := decide_eq_true c11
                    clear c11
                    by_cases c13 : (bt (rdOf ByteArray.empty y278 x12_1) x5_2) = 10
                    · rw [if_pos c13] at H
                      have c13b0 : ((bt (rdOf ByteArray.empty y278 x12_1) x5_2) == 10) = true := beq_iff_eq.mpr c13
                      have c13b1 : ((bt (rdOf ByteArray.empty y278 x12_1) x5_2) != 10) = false := bne_eq_false_iff_eq.mpr c13
                      clear c13
                      obtain rfl := Option.some.inj H
                      have p12 : 0 ≤ (x5_2 : Int) := of_decide_eq_true (by first | (with_reducible assumption) | assumption)
                      have q12 : x5_2 < ((rdOf ByteArray.empty y278 x12_1).size : Int) := of_decide_eq_true (by first | (with_reducible assumption) | assumption)
                      have hx12 := bt_at (rdOf ByteArray.empty y278 x12_1) x5_2
                      replace p12 := eq_true p12
                      replace q12 := eq_true q12
                      go_wp2
                      go_ret
                      exact ⟨by first | rfl | (simp [errW_none, errW_some] <;> rfl) | (simp [*, errW_none, errW_some] <;> rfl), by repeat (first | (with_reducible first | exact HB.out | apply below_alloc | apply pw_below_drewN | apply below_drew1 | refine below_set ?_ GE277.out) | exact HB.out)⟩
                    · rw [if_neg c13] at H
                      have c13b0 : ((bt (rdOf ByteArray.empty y278 x12_1) x5_2) == 10) = false := beq_eq_false_iff_ne.mpr c13
                      have c13b1 : ((bt (rdOf ByteArray.empty y278 x12_1) x5_2) != 10) = true := bne_iff_ne.mpr c13
                      have H' := Aside0.mk H
                      clear H
                      have p12 : 0 ≤ (x5_2 : Int) := of_decide_eq_true (by first | (with_reducible assumption) | assumption)
                      have q12 : x5_2 < ((rdOf ByteArray.empty y278 x12_1).size : Int) := of_decide_eq_true (by first | (with_reducible assumption) | assumption)
                      have hx12 := bt_at (rdOf ByteArray.empty y278 x12_1) x5_2
                      replace p12 := eq_true p12
                      replace q12 := eq_true q12
                      go_wp2
                      go_roundg k2
                      case measure => have := HK1.out; have := HK2.out; omega
                      case rel => exact ⟨(wrap64 (x5_2 + 1)), (by first | rfl | (simp; done) | (simp [*]; done)), H', ⟨by have := HK1.out; have := HK2.out; omega⟩, ⟨by (with_reducible repeat (first | apply Kd.R_alloc | apply Kd.R_drewN | apply Kd.R_drew)); exact HO_10.out⟩, ⟨by (with_reducible repeat (first | refine blk_drewN ?_ _ | refine blk_drew ?_ | refine blk_alloc ?_ _)); exact BK277.out⟩, ⟨by repeat (first | (with_reducible first | exact HB.out | apply below_alloc | apply pw_below_drewN | apply below_drew1 | refine below_set ?_ GE277.out) | exact HB.out)⟩⟩
                  · rw [if_neg c11] at H
                    exact absurd H (by simp)
                · rw [if_neg c10] at H
                  have c10b0 : decide (x5_2 < ((rdOf ByteArray.empty y278 x12_1).size : Int)) = false := decide_eq_false c10
                  clear c10
                  by_cases c14 : ((rdOf ByteArray.empty y278 x12_1).size : Int) > 64
                  · rw [if_pos c14] at H
                    have c14b0 : decide (64 < ((rdOf ByteArray.empty y278 x12_1).size : Int)) = true := decide_eq_true c14
                    have c14b1 : decide (64 < (rdOf ByteArray.empty y278 x12_1).size) = true := decide_eq_true (by omega)
                    clear c14
                    obtain rfl := Option.some.inj H
                    go_wp2
                    go_ret
                    exact ⟨by first | rfl | (simp [errW_none, errW_some] <;> rfl) | (simp [*, errW_none, errW_some] <;> rfl), by repeat (first | (with_reducible first | exact HB.out | apply below_alloc | apply pw_below_drewN | apply below_drew1 | refine below_set ?_ GE277.out) | exact HB.out)⟩
                  · rw [if_neg c14] at H
                    have c14b0 : decide (64 < ((rdOf ByteArray.empty y278 x12_1).size : Int)) = false := decide_eq_false c14
                    have c14b1 : decide (64 < (rdOf ByteArray.empty y278 x12_1).size) = false := decide_eq_false (by omega)
                    clear c14
                    have H' := Aside0.mk H
                    clear H
                    go_wp2
                    go_roundg k2
                    case measure => have := HK1.out; have := HK2.out; omega
                    case rel => exact ⟨(wrap64 (x12_1 + 1)), (by first | rfl | (simp; done) | (simp [*]; done)), H', ⟨by have := HK1.out; have := HK2.out; omega⟩, ⟨by (with_reducible repeat (first | apply Kd.R_alloc | apply Kd.R_drewN | apply Kd.R_drew)); exact HO_10.out⟩, ⟨by (with_reducible repeat (first | refine blk_drewN ?_ _ | refine blk_drew ?_ | refine blk_alloc ?_ _)); exact BK277.out⟩, ⟨by repeat (first | (with_reducible first | exact HB.out | apply below_alloc | apply pw_below_drewN | apply below_drew1 | refine below_set ?_ GE277.out) | exact HB.out)⟩⟩
          · rw [if_neg c9] at H
            exact absurd H (by simp)
        · rw [if_neg c8] at H
          exact absurd H (by simp)
      · rw [if_neg c7] at H
        have c7b0 : decide (x12_1 < (y278.length : Int)) = false := decide_eq_false c7
        clear c7
        obtain rfl := Option.some.inj H
        go_wp2
        go_ret
        exact ⟨by first | rfl | (simp [errW_none, errW_some] <;> rfl) | (simp [*, errW_none, errW_some] <;> rfl), by repeat (first | (with_reducible first | exact HB.out | apply below_alloc | apply pw_below_drewN | apply below_drew1 | refine below_set ?_ GE277.out) | exact HB.out)⟩

end Go.Proofs.Ytdcigjpgagimdaa.M
