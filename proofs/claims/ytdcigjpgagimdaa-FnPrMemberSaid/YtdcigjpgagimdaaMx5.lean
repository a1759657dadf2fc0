-- Written by a program of this work (wip/patch_print.py over the kit's printer) for this claim: each Go function as a Lean function, and that the Go code comes to its answers.
import Derived.Test.YtdcigjpgagimdaaMx0
import Derived.Test.YtdcigjpgagimdaaMx1
import Derived.Test.YtdcigjpgagimdaaMx2
import Derived.Test.YtdcigjpgagimdaaMx3
import Derived.Test.YtdcigjpgagimdaaMx4
namespace Go.Proofs.Ytdcigjpgagimdaa.M
open Go.RowKit Go.Proofs.YtdcigjpgagimdaaW.PrintWords Go.Proofs.YtdcigjpgagimdaaW.PrintLast Go.Proofs.YtdcigjpgagimdaaW.PrintMore
attribute [local go_sem] max2_int min2_int max_two min_two max_three min_three max_four min_four   -- for this text's walks alone
set_option linter.unusedVariables false
set_option linter.unusedSimpArgs false

/-! ### spec_reader_value: function 18, its step -/
set_option maxHeartbeats 8000000 in
set_option maxRecDepth 100000 in
theorem spec_reader_value.step (k : Nat) (ih_spec_reader_members : ∀ m, m < k + 1 → ∀ (g : Nat) (s0_0 : ByteArray) (s0_1 : Int) (r1 : List (S66)) (r2 : List (S28)) (r3 : Bool) (r4 : ByteArray) (r5 : Int) (w0 w : World) (hI : IsS49 w0 w g s0_0 s0_1) (hB : Below w0.heap.size w0 w) (h : spec_reader_members.f m s0_0 s0_1 = some (r1, r2, r3, r4, r5)),
    Calls Try.prog 24 #[.pointer (some ⟨g, 0, none⟩)] w fun e w' => ∃ v0_ v1_ : Value, e = .returned (.tuple #[v0_, v1_, .bool r3]) ∧ Kd.R k66 66 w' w.heap.size (fun _ => True) v0_ r1 ∧ Kd.R k28 28 w' w.heap.size (fun k_ => some k_ ≠ (v0_ : Value).ownBlock) v1_ r2 ∧ IsS49 w0 w' g r4 r5 ∧ Below w0.heap.size w0 w' ∧ KeepBut w w' g none) (ih_spec_reader_elements : ∀ m, m < k + 1 → ∀ (g : Nat) (s0_0 : ByteArray) (s0_1 : Int) (r1 : List (S28)) (r2 : Bool) (r3 : ByteArray) (r4 : Int) (w0 w : World) (hI : IsS49 w0 w g s0_0 s0_1) (hB : Below w0.heap.size w0 w) (h : spec_reader_elements.f m s0_0 s0_1 = some (r1, r2, r3, r4)),
    Calls Try.prog 25 #[.pointer (some ⟨g, 0, none⟩)] w fun e w' => ∃ v0_ : Value, e = .returned (.tuple #[v0_, .bool r2]) ∧ Kd.R k28 28 w' w.heap.size (fun _ => True) v0_ r1 ∧ IsS49 w0 w' g r3 r4 ∧ Below w0.heap.size w0 w' ∧ KeepBut w w' g none) (ih_spec_reader_value : ∀ m, m < k + 1 → ∀ (g : Nat) (s0_0 : ByteArray) (s0_1 : Int) (r1 : Int) (r2 : Int) (r3 : Int) (r4 : List (S66)) (r5 : List (S28)) (r6 : Bool) (r7 : ByteArray) (r8 : Int) (w0 w : World) (hI : IsS49 w0 w g s0_0 s0_1) (hB : Below w0.heap.size w0 w) (h : spec_reader_value.f m s0_0 s0_1 = some (r1, r2, r3, r4, r5, r6, r7, r8)),
    Calls Try.prog 18 #[.pointer (some ⟨g, 0, none⟩)] w fun e w' => ∃ v3_ v4_ : Value, e = .returned (.tuple #[.agg #[.int .i64 r1, .int .i64 r2, .int .i64 r3, v3_, v4_], .bool r6]) ∧ Kd.R k66 66 w' w.heap.size (fun _ => True) v3_ r4 ∧ Kd.R k28 28 w' w.heap.size (fun k_ => some k_ ≠ (v3_ : Value).ownBlock) v4_ r5 ∧ IsS49 w0 w' g r7 r8 ∧ Below w0.heap.size w0 w' ∧ KeepBut w w' g none) : ∀ (g : Nat) (s0_0 : ByteArray) (s0_1 : Int) (r1 : Int) (r2 : Int) (r3 : Int) (r4 : List (S66)) (r5 : List (S28)) (r6 : Bool) (r7 : ByteArray) (r8 : Int) (w0 w : World) (hI : IsS49 w0 w g s0_0 s0_1) (hB : Below w0.heap.size w0 w) (h : spec_reader_value.f (k + 1) s0_0 s0_1 = some (r1, r2, r3, r4, r5, r6, r7, r8)),
    Calls Try.prog 18 #[.pointer (some ⟨g, 0, none⟩)] w fun e w' => ∃ v3_ v4_ : Value, e = .returned (.tuple #[.agg #[.int .i64 r1, .int .i64 r2, .int .i64 r3, v3_, v4_], .bool r6]) ∧ Kd.R k66 66 w' w.heap.size (fun _ => True) v3_ r4 ∧ Kd.R k28 28 w' w.heap.size (fun k_ => some k_ ≠ (v3_ : Value).ownBlock) v4_ r5 ∧ IsS49 w0 w' g r7 r8 ∧ Below w0.heap.size w0 w' ∧ KeepBut w w' g none := by
  intro g s0_0 s0_1 r1 r2 r3 r4 r5 r6 r7 r8 w0 w hI hB h
  simp only [spec_reader_value.f] at h
  have hu28 := Try.underlying28
  have HI0 := Aside0.mk hI
  have HK := Aside0.mk (KeepBut.refl w g none)
  have HL := Aside0.mk hB.size
  clear hI
  have HW0 := Aside0.mk hB.size
  have HB := Aside0.mk hB
  clear hB
  have H : ((spec_reader_here.f s0_0 s0_1).bind fun bt233 => (if bt233.1 = 123 then ((spec_reader_members.f k bt233.2.1 bt233.2.2).bind fun bt236 => (some (6, s0_1, bt236.2.2.2.2, bt236.1, bt236.2.1, bt236.2.2.1, bt236.2.2.2.1, bt236.2.2.2.2))) else (if bt233.1 = 91 then ((spec_reader_elements.f k bt233.2.1 bt233.2.2).bind fun bt245 => (some (5, s0_1, bt245.2.2.2, ([] : List (S66)), bt245.1, bt245.2.1, bt245.2.2.1, bt245.2.2.2))) else (if bt233.1 = 34 then ((spec_reader_quoted.f k bt233.2.1 bt233.2.2).bind fun bt251 => (some (4, s0_1, bt251.2.2, ([] : List (S66)), ([] : List (S28)), bt251.1, bt251.2.1, bt251.2.2))) else (if bt233.1 = 45 then (spec_reader_value.j0 k true true bt233.2.1 bt233.2.2 0 s0_1 0) else (if 48 ≤ bt233.1 then (spec_reader_value.j0 k true (decide (bt233.1 ≤ 57)) bt233.2.1 bt233.2.2 0 s0_1 0) else (spec_reader_value.j0 k true false bt233.2.1 bt233.2.2 0 s0_1 0))))))) = some (r1, r2, r3, r4, r5, r6, r7, r8) := h
  clear h
  replace H := Option.bind_eq_some_iff.mp H
  obtain ⟨⟨t233, t234, t235⟩, A20, H⟩ := H
  replace H : (if t233 = 123 then ((spec_reader_members.f k t234 t235).bind fun bt236 => (some (6, s0_1, bt236.2.2.2.2, bt236.1, bt236.2.1, bt236.2.2.1, bt236.2.2.2.1, bt236.2.2.2.2))) else (if t233 = 91 then ((spec_reader_elements.f k t234 t235).bind fun bt245 => (some (5, s0_1, bt245.2.2.2, ([] : List (S66)), bt245.1, bt245.2.1, bt245.2.2.1, bt245.2.2.2))) else (if t233 = 34 then ((spec_reader_quoted.f k t234 t235).bind fun bt251 => (some (4, s0_1, bt251.2.2, ([] : List (S66)), ([] : List (S28)), bt251.1, bt251.2.1, bt251.2.2))) else (if t233 = 45 then (spec_reader_value.j0 k true true t234 t235 0 s0_1 0) else (if 48 ≤ t233 then (spec_reader_value.j0 k true (decide (t233 ≤ 57)) t234 t235 0 s0_1 0) else (spec_reader_value.j0 k true false t234 t235 0 s0_1 0)))))) = some (r1, r2, r3, r4, r5, r6, r7, r8) := H
  have A2 := Aside0.mk A20
  clear A20
  have HC3 := Aside0.mk H
  clear H
  go_enter Try.func18, Try.ntmps18
  go_upto_if 14 with (first | ((with_reducible refine gate_dst (N := 2) rfl ?_); refine box_event ?hg (N := 2) ?hd (cs := #[.int .i64 0, .int .i64 0, .int .i64 0, .slice none 0 0, .slice none 0 0]) (t := 28) ?hr ?_; (case hd => rfl); (case hg => rfl); (case hr => first | (go_simp; done) | (go_simp; rfl)); intro gb231 hg w4 hbox hb; have n0_ := Aside0.mk (IsS49.below (by repeat (first | (with_reducible first | exact HI0.out | apply IsS49.alloc | apply IsS49.drewN | apply IsS49.drew | apply IsS49.set_0 | apply IsS49.set_1) | exact HI0.out)) hb); have n1_ := Aside0.mk (KeepBut.trans (by repeat (first | (with_reducible first | exact HK.out | apply KeepBut.set_ | apply keep_drewN | apply keep_drew | apply keep_alloc) | exact HK.out)) (KeepBut.of_below hb g none) (.inl rfl)); have n2_ := Aside0.mk (below_step (by repeat (first | (with_reducible first | exact HB.out | apply below_alloc | apply pw_below_drewN | apply below_drew1 | refine below_set ?_ (IsS49.ge HI0.out)) | exact HB.out)) hb); have n3_ := Aside0.mk (hbox); have n4_ := Aside0.mk ((by rw [hg]; exact (keep_size (w := w) (g := g) (row := none) (by repeat (first | (with_reducible first | exact HK.out | apply KeepBut.set_ | apply keep_drewN | apply keep_drew | apply keep_alloc) | exact HK.out))) : w.heap.size ≤ gb231)); have n5_ := Aside0.mk ((Nat.le_trans HW0.out (by rw [hg]; exact (keep_size (w := w) (g := g) (row := none) (by repeat (first | (with_reducible first | exact HK.out | apply KeepBut.set_ | apply keep_drewN | apply keep_drew | apply keep_alloc) | exact HK.out))) : w.heap.size ≤ gb231) : w0.heap.size ≤ gb231)); have n6_ := Aside0.mk ((by rw [hg]; exact Nat.ne_of_lt (IsS49.lt (show IsS49 w0 _ g s0_0 s0_1 from by repeat (first | (with_reducible first | exact HI0.out | apply IsS49.alloc | apply IsS49.drewN | apply IsS49.drew | apply IsS49.set_0 | apply IsS49.set_1) | exact HI0.out))) : g ≠ gb231)); have n7_ := Aside0.mk ((by rw [hg]; exact Nat.ne_of_gt (IsS49.lt (show IsS49 w0 _ g s0_0 s0_1 from by repeat (first | (with_reducible first | exact HI0.out | apply IsS49.alloc | apply IsS49.drewN | apply IsS49.drew | apply IsS49.set_0 | apply IsS49.set_1) | exact HI0.out))) : gb231 ≠ g)); clear HI0; clear HK; clear HB; have HI0 := n0_; have HK := n1_; have HB := n2_; have BK231 := n3_; have GW231 := n4_; have GE231 := n5_; have NB0_231 := n6_; have NB231_0 := n7_; clear n0_ n1_ n2_ n3_ n4_ n5_ n6_ n7_; clear hb hbox hg; obtain ⟨HGz5, hgz5⟩ := HI0.out; have hcz5_0 := cellS49_0 HGz5; have hcz5_1 := cellS49_1 HGz5; have hfz5_0 := blk_frozen HGz5 0; have hfz5_1 := blk_frozen HGz5 1; clear HGz5 hgz5) | ((with_reducible refine gate_dst (N := 4) rfl ?_); refine box_event ?hg (N := 4) ?hd (cs := #[.int .i64 0, .int .i64 0, .int .i64 0, .slice none 0 0, .slice none 0 0]) (t := 28) ?hr ?_; (case hd => rfl); (case hg => rfl); (case hr => first | (go_simp; done) | (go_simp; rfl)); intro gb232 hg w6 hbox hb; have n0_ := Aside0.mk (IsS49.below (by repeat (first | (with_reducible first | exact HI0.out | apply IsS49.alloc | apply IsS49.drewN | apply IsS49.drew | apply IsS49.set_0 | apply IsS49.set_1 | refine IsS49.far ?_ NB0_231.out _) | exact HI0.out)) hb); have n1_ := Aside0.mk (blk_below (g := gb231) (o := .cells #[.int .i64 0, .int .i64 0, .int .i64 0, .slice none 0 0, .slice none 0 0] 28 (0, 0)) (by (with_reducible repeat (first | refine blk_drewN ?_ _ | refine blk_drew ?_ | refine blk_alloc ?_ _)); exact BK231.out) hb); have n2_ := Aside0.mk (KeepBut.trans (by repeat (first | (with_reducible first | exact HK.out | apply KeepBut.set_ | apply keep_drewN | apply keep_drew | apply keep_alloc | refine keep_far ?_ GW231.out _) | exact HK.out)) (KeepBut.of_below hb g none) (.inl rfl)); have n3_ := Aside0.mk (below_step (by repeat (first | (with_reducible first | exact HB.out | apply below_alloc | apply pw_below_drewN | apply below_drew1 | refine below_set ?_ (IsS49.ge HI0.out) | refine below_set ?_ GE231.out) | exact HB.out)) hb); have n4_ := Aside0.mk (hbox); have n5_ := Aside0.mk ((by rw [hg]; exact (keep_size (w := w) (g := g) (row := none) (by repeat (first | (with_reducible first | exact HK.out | apply KeepBut.set_ | apply keep_drewN | apply keep_drew | apply keep_alloc | refine keep_far ?_ GW231.out _) | exact HK.out))) : w.heap.size ≤ gb232)); have n6_ := Aside0.mk ((Nat.le_trans HW0.out (by rw [hg]; exact (keep_size (w := w) (g := g) (row := none) (by repeat (first | (with_reducible first | exact HK.out | apply KeepBut.set_ | apply keep_drewN | apply keep_drew | apply keep_alloc | refine keep_far ?_ GW231.out _) | exact HK.out))) : w.heap.size ≤ gb232) : w0.heap.size ≤ gb232)); have n7_ := Aside0.mk ((by rw [hg]; exact Nat.ne_of_lt (blk_lt (g := gb231) (o := .cells #[.int .i64 0, .int .i64 0, .int .i64 0, .slice none 0 0, .slice none 0 0] 28 (0, 0)) (by (with_reducible repeat (first | refine blk_drewN ?_ _ | refine blk_drew ?_ | refine blk_alloc ?_ _)); exact BK231.out)) : gb231 ≠ gb232)); have n8_ := Aside0.mk ((by rw [hg]; exact Nat.ne_of_gt (blk_lt (g := gb231) (o := .cells #[.int .i64 0, .int .i64 0, .int .i64 0, .slice none 0 0, .slice none 0 0] 28 (0, 0)) (by (with_reducible repeat (first | refine blk_drewN ?_ _ | refine blk_drew ?_ | refine blk_alloc ?_ _)); exact BK231.out)) : gb232 ≠ gb231)); have n9_ := Aside0.mk ((by rw [hg]; exact Nat.ne_of_lt (IsS49.lt (show IsS49 w0 _ g s0_0 s0_1 from by repeat (first | (with_reducible first | exact HI0.out | apply IsS49.alloc | apply IsS49.drewN | apply IsS49.drew | apply IsS49.set_0 | apply IsS49.set_1 | refine IsS49.far ?_ NB0_231.out _) | exact HI0.out))) : g ≠ gb232)); have n10_ := Aside0.mk ((by rw [hg]; exact Nat.ne_of_gt (IsS49.lt (show IsS49 w0 _ g s0_0 s0_1 from by repeat (first | (with_reducible first | exact HI0.out | apply IsS49.alloc | apply IsS49.drewN | apply IsS49.drew | apply IsS49.set_0 | apply IsS49.set_1 | refine IsS49.far ?_ NB0_231.out _) | exact HI0.out))) : gb232 ≠ g)); clear HI0; clear BK231; clear HK; clear HB; have HI0 := n0_; have BK231 := n1_; have HK := n2_; have HB := n3_; have BK232 := n4_; have GW232 := n5_; have GE232 := n6_; have NB231_232 := n7_; have NB232_231 := n8_; have NB0_232 := n9_; have NB232_0 := n10_; clear n0_ n1_ n2_ n3_ n4_ n5_ n6_ n7_ n8_ n9_ n10_; clear hb hbox hg; have hnb7 := NB232_231.out; have hnc7 := NB231_232.out; have hnb8 := NB232_0.out; have hnc8 := NB0_232.out; have hcz9_0 : w6.cell? ⟨gb232, 0, none⟩ = some (.int .i64 0) := (blk_cell BK232.out 0).trans rfl; have hcz9_1 : w6.cell? ⟨gb232, 1, none⟩ = some (.int .i64 0) := (blk_cell BK232.out 1).trans rfl; have hcz9_2 : w6.cell? ⟨gb232, 2, none⟩ = some (.int .i64 0) := (blk_cell BK232.out 2).trans rfl; have hcz9_3 : w6.cell? ⟨gb232, 3, none⟩ = some (.slice none 0 0) := (blk_cell BK232.out 3).trans rfl; have hcz9_4 : w6.cell? ⟨gb232, 4, none⟩ = some (.slice none 0 0) := (blk_cell BK232.out 4).trans rfl; have hfz9_0 := blk_frozen BK232.out 0; have hfz9_1 := blk_frozen BK232.out 1; have hfz9_2 := blk_frozen BK232.out 2; have hfz9_3 := blk_frozen BK232.out 3; have hfz9_4 := blk_frozen BK232.out 4) | ((with_reducible refine gate_callee (f := 23) rfl ?_); refine goesL_ (some 13) rfl rfl Try.func23 (by kernel_rfl) rfl #[.pointer (some ⟨g, 0, none⟩)] rfl (by (try simp only [List.map_toArray, List.map_cons, List.map_nil]); first | done | rfl | (simp only [List.length_drop, List.length_take]; rfl)) ?_; (with_reducible refine (spec_reader_here.calls g s0_0 s0_1 t233 t234 t235 w0 _ ?side1 ?side2 A2.out).mono ?_); (case side1 => repeat (first | (with_reducible first | exact HI0.out | apply IsS49.alloc | apply IsS49.drewN | apply IsS49.drew | apply IsS49.set_0 | apply IsS49.set_1 | refine IsS49.far ?_ NB0_231.out _ | refine IsS49.far ?_ NB0_232.out _) | exact HI0.out)); (case side2 => repeat (first | (with_reducible first | exact HB.out | apply below_alloc | apply pw_below_drewN | apply below_drew1 | refine below_set ?_ (IsS49.ge HI0.out) | refine below_set ?_ GE231.out | refine below_set ?_ GE232.out) | exact HB.out)); rintro e w10 ⟨rfl, hi, hb, hk⟩; refine ⟨_, rfl, ?_⟩; have n0_ := Aside0.mk (KeepBut.blk hk (g' := gb231) (o := .cells #[.int .i64 0, .int .i64 0, .int .i64 0, .slice none 0 0, .slice none 0 0] 28 (0, 0)) (by (with_reducible repeat (first | refine blk_drewN ?_ _ | refine blk_drew ?_ | refine blk_alloc ?_ _)); refine blk_far ?_ NB231_232.out _; (with_reducible repeat (first | refine blk_drewN ?_ _ | refine blk_drew ?_ | refine blk_alloc ?_ _)); refine blk_far ?_ NB231_232.out _; (with_reducible repeat (first | refine blk_drewN ?_ _ | refine blk_drew ?_ | refine blk_alloc ?_ _)); refine blk_far ?_ NB231_232.out _; (with_reducible repeat (first | refine blk_drewN ?_ _ | refine blk_drew ?_ | refine blk_alloc ?_ _)); refine blk_far ?_ NB231_232.out _; (with_reducible repeat (first | refine blk_drewN ?_ _ | refine blk_drew ?_ | refine blk_alloc ?_ _)); refine blk_far ?_ NB231_232.out _; (with_reducible repeat (first | refine blk_drewN ?_ _ | refine blk_drew ?_ | refine blk_alloc ?_ _)); exact BK231.out) NB231_0.out (by simp)); have n1_ := Aside0.mk (KeepBut.blk hk (g' := gb232) (o := .cells #[.int .i64 0, .int .i64 s0_1, .int .i64 0, .slice none 0 0, .slice none 0 0] 28 (0, 0)) (by (with_reducible repeat (first | refine blk_drewN ?_ _ | refine blk_drew ?_ | refine blk_alloc ?_ _)); refine blk_put (cs := #[.int .i64 0, .int .i64 s0_1, .int .i64 0, .slice none 0 0, .slice none 0 0]) ?_ 4 _ rfl; (with_reducible repeat (first | refine blk_drewN ?_ _ | refine blk_drew ?_ | refine blk_alloc ?_ _)); refine blk_put (cs := #[.int .i64 0, .int .i64 s0_1, .int .i64 0, .slice none 0 0, .slice none 0 0]) ?_ 3 _ rfl; (with_reducible repeat (first | refine blk_drewN ?_ _ | refine blk_drew ?_ | refine blk_alloc ?_ _)); refine blk_put (cs := #[.int .i64 0, .int .i64 s0_1, .int .i64 0, .slice none 0 0, .slice none 0 0]) ?_ 2 _ rfl; (with_reducible repeat (first | refine blk_drewN ?_ _ | refine blk_drew ?_ | refine blk_alloc ?_ _)); refine blk_put (cs := #[.int .i64 0, .int .i64 0, .int .i64 0, .slice none 0 0, .slice none 0 0]) ?_ 1 _ rfl; (with_reducible repeat (first | refine blk_drewN ?_ _ | refine blk_drew ?_ | refine blk_alloc ?_ _)); refine blk_put (cs := #[.int .i64 0, .int .i64 0, .int .i64 0, .slice none 0 0, .slice none 0 0]) ?_ 0 _ rfl; (with_reducible repeat (first | refine blk_drewN ?_ _ | refine blk_drew ?_ | refine blk_alloc ?_ _)); exact BK232.out) NB232_0.out (by simp)); have n2_ := Aside0.mk (KeepBut.trans (by repeat (first | (with_reducible first | exact HK.out | apply KeepBut.set_ | apply keep_drewN | apply keep_drew | apply keep_alloc | refine keep_far ?_ GW231.out _ | refine keep_far ?_ GW232.out _) | exact HK.out)) hk (.inl rfl)); have n3_ := Aside0.mk (hb); have n4_ := Aside0.mk (hi); clear BK231; clear BK232; clear HK; clear HB; clear HI0; have BK231 := n0_; have BK232 := n1_; have HK := n2_; have HB := n3_; have HI0 := n4_; clear n0_ n1_ n2_ n3_ n4_; (try clear hb); (try clear hb2); (try clear hk); (try clear hi)))
  (try simp only [Act.put, List.setIfInBounds_toArray, List.set_cons_zero, List.set_cons_succ])
  have H := HC3.out
  clear HC3
  by_cases c11 : t233 = 123
  · rw [if_pos c11] at H
    have c11b0 : (t233 == 123) = true := beq_iff_eq.mpr c11
    have c11b1 : (t233 != 123) = false := bne_eq_false_iff_eq.mpr c11
    clear c11
    (first | rw [c11b0] | (simp only [i64_w, i32_w]; rw [c11b0]) | skip)
    replace H := Option.bind_eq_some_iff.mp H
    obtain ⟨⟨t236, t239, t242, t243, t244⟩, A120, H⟩ := H
    replace H : (some (6, s0_1, t244, t236, t239, t242, t243, t244)) = some (r1, r2, r3, r4, r5, r6, r7, r8) := H
    have A12 := Aside0.mk A120
    clear A120
    simp only [Option.some.injEq, Prod.mk.injEq] at H
    obtain ⟨rfl, rfl, rfl, rfl, rfl, rfl, rfl, rfl⟩ := H
    have hnb13 := NB232_231.out
    have hnc13 := NB231_232.out
    have hnb14 := NB232_0.out
    have hnc14 := NB0_232.out
    have hcz15_0 : w10.cell? ⟨gb232, 0, none⟩ = some (.int .i64 0) := (blk_cell BK232.out 0).trans rfl
    have hcz15_1 : w10.cell? ⟨gb232, 1, none⟩ = some (.int .i64 s0_1) := (blk_cell BK232.out 1).trans rfl
    have hcz15_2 : w10.cell? ⟨gb232, 2, none⟩ = some (.int .i64 0) := (blk_cell BK232.out 2).trans rfl
    have hcz15_3 : w10.cell? ⟨gb232, 3, none⟩ = some (.slice none 0 0) := (blk_cell BK232.out 3).trans rfl
    have hcz15_4 : w10.cell? ⟨gb232, 4, none⟩ = some (.slice none 0 0) := (blk_cell BK232.out 4).trans rfl
    have hfz15_0 := blk_frozen BK232.out 0
    have hfz15_1 := blk_frozen BK232.out 1
    have hfz15_2 := blk_frozen BK232.out 2
    have hfz15_3 := blk_frozen BK232.out 3
    have hfz15_4 := blk_frozen BK232.out 4
    go_wp2_with (first | ((with_reducible refine gate_callee (f := 24) rfl ?_); refine goesL_ (some 20) rfl rfl Try.func24 (by kernel_rfl) rfl #[.pointer (some ⟨g, 0, none⟩)] rfl (by (try simp only [List.map_toArray, List.map_cons, List.map_nil]); first | done | rfl | (simp only [List.length_drop, List.length_take]; rfl)) ?_; (with_reducible refine (ih_spec_reader_members k (by omega) g t234 t235 t236 t239 t242 t243 t244 w0 _ ?side1 ?side2 A12.out).mono ?_); (case side1 => repeat (first | (with_reducible first | exact HI0.out | apply IsS49.alloc | apply IsS49.drewN | apply IsS49.drew | apply IsS49.set_0 | apply IsS49.set_1 | refine IsS49.far ?_ NB0_231.out _ | refine IsS49.far ?_ NB0_232.out _) | exact HI0.out)); (case side2 => repeat (first | (with_reducible first | exact HB.out | apply below_alloc | apply pw_below_drewN | apply below_drew1 | refine below_set ?_ (IsS49.ge HI0.out) | refine below_set ?_ GE231.out | refine below_set ?_ GE232.out) | exact HB.out)); rintro e w16 ⟨v237, v240, rfl, ho0, ho1, hi, hb, hk⟩; refine ⟨_, rfl, ?_⟩; have n0_ := Aside0.mk (KeepBut.blk hk (g' := gb231) (o := .cells #[.int .i64 0, .int .i64 0, .int .i64 0, .slice none 0 0, .slice none 0 0] 28 (0, 0)) (by (with_reducible repeat (first | refine blk_drewN ?_ _ | refine blk_drew ?_ | refine blk_alloc ?_ _)); refine blk_far ?_ NB231_232.out _; (with_reducible repeat (first | refine blk_drewN ?_ _ | refine blk_drew ?_ | refine blk_alloc ?_ _)); exact BK231.out) NB231_0.out (by simp)); have n1_ := Aside0.mk (KeepBut.blk hk (g' := gb232) (o := .cells #[.int .i64 6, .int .i64 s0_1, .int .i64 0, .slice none 0 0, .slice none 0 0] 28 (0, 0)) (by (with_reducible repeat (first | refine blk_drewN ?_ _ | refine blk_drew ?_ | refine blk_alloc ?_ _)); refine blk_put (cs := #[.int .i64 0, .int .i64 s0_1, .int .i64 0, .slice none 0 0, .slice none 0 0]) ?_ 0 _ rfl; (with_reducible repeat (first | refine blk_drewN ?_ _ | refine blk_drew ?_ | refine blk_alloc ?_ _)); exact BK232.out) NB232_0.out (by simp)); have n2_ := Aside0.mk (Kd.R_lower ho0 (keep_size (w := w) (g := g) (row := none) (by repeat (first | (with_reducible first | exact HK.out | apply KeepBut.set_ | apply keep_drewN | apply keep_drew | apply keep_alloc | refine keep_far ?_ GW231.out _ | refine keep_far ?_ GW232.out _) | exact HK.out)))); have n3_ := Aside0.mk (Kd.R_lower (Kd.R_newB (Kd.R_newB ho1 (g := gb231) (o := .cells #[.int .i64 0, .int .i64 0, .int .i64 0, .slice none 0 0, .slice none 0 0] 28 (0, 0)) (by (with_reducible repeat (first | refine blk_drewN ?_ _ | refine blk_drew ?_ | refine blk_alloc ?_ _)); refine blk_far ?_ NB231_232.out _; (with_reducible repeat (first | refine blk_drewN ?_ _ | refine blk_drew ?_ | refine blk_alloc ?_ _)); exact BK231.out)) (g := gb232) (o := .cells #[.int .i64 6, .int .i64 s0_1, .int .i64 0, .slice none 0 0, .slice none 0 0] 28 (0, 0)) (by (with_reducible repeat (first | refine blk_drewN ?_ _ | refine blk_drew ?_ | refine blk_alloc ?_ _)); refine blk_put (cs := #[.int .i64 0, .int .i64 s0_1, .int .i64 0, .slice none 0 0, .slice none 0 0]) ?_ 0 _ rfl; (with_reducible repeat (first | refine blk_drewN ?_ _ | refine blk_drew ?_ | refine blk_alloc ?_ _)); exact BK232.out)) (keep_size (w := w) (g := g) (row := none) (by repeat (first | (with_reducible first | exact HK.out | apply KeepBut.set_ | apply keep_drewN | apply keep_drew | apply keep_alloc | refine keep_far ?_ GW231.out _ | refine keep_far ?_ GW232.out _) | exact HK.out)))); have n4_ := Aside0.mk (KeepBut.trans (by repeat (first | (with_reducible first | exact HK.out | apply KeepBut.set_ | apply keep_drewN | apply keep_drew | apply keep_alloc | refine keep_far ?_ GW231.out _ | refine keep_far ?_ GW232.out _) | exact HK.out)) hk (.inl rfl)); have n5_ := Aside0.mk (hb); have n6_ := Aside0.mk (hi); clear BK231; clear BK232; clear HK; clear HB; clear HI0; have BK231 := n0_; have BK232 := n1_; have HO238 := n2_; have HO241 := n3_; have HK := n4_; have HB := n5_; have HI0 := n6_; clear n0_ n1_ n2_ n3_ n4_ n5_ n6_; (try clear hb); (try clear hb2); (try clear hk); (try clear hi); (try clear ho0); (try clear ho1); obtain ⟨Ao17, co17, eo17⟩ := Kd.R_slice HO238.out; subst eo17; have hcz18_0 : w16.cell? ⟨gb232, 0, none⟩ = some (.int .i64 6) := (blk_cell BK232.out 0).trans rfl; have hcz18_1 : w16.cell? ⟨gb232, 1, none⟩ = some (.int .i64 s0_1) := (blk_cell BK232.out 1).trans rfl; have hcz18_2 : w16.cell? ⟨gb232, 2, none⟩ = some (.int .i64 0) := (blk_cell BK232.out 2).trans rfl; have hcz18_3 : w16.cell? ⟨gb232, 3, none⟩ = some (.slice none 0 0) := (blk_cell BK232.out 3).trans rfl; have hcz18_4 : w16.cell? ⟨gb232, 4, none⟩ = some (.slice none 0 0) := (blk_cell BK232.out 4).trans rfl; have hfz18_0 := blk_frozen BK232.out 0; have hfz18_1 := blk_frozen BK232.out 1; have hfz18_2 := blk_frozen BK232.out 2; have hfz18_3 := blk_frozen BK232.out 3; have hfz18_4 := blk_frozen BK232.out 4; obtain ⟨Ao19, co19, eo19⟩ := Kd.R_slice HO241.out; subst eo19; obtain ⟨HGz20, hgz20⟩ := HI0.out; have hcz20_0 := cellS49_0 HGz20; have hcz20_1 := cellS49_1 HGz20; have hfz20_0 := blk_frozen HGz20 0; have hfz20_1 := blk_frozen HGz20 1; clear HGz20 hgz20; have hnb21 := NB231_0.out; have hnc21 := NB0_231.out; have hcz22_0 : w16.cell? ⟨gb231, 0, none⟩ = some (.int .i64 0) := (blk_cell BK231.out 0).trans rfl; have hcz22_1 : w16.cell? ⟨gb231, 1, none⟩ = some (.int .i64 0) := (blk_cell BK231.out 1).trans rfl; have hcz22_2 : w16.cell? ⟨gb231, 2, none⟩ = some (.int .i64 0) := (blk_cell BK231.out 2).trans rfl; have hcz22_3 : w16.cell? ⟨gb231, 3, none⟩ = some (.slice none 0 0) := (blk_cell BK231.out 3).trans rfl; have hcz22_4 : w16.cell? ⟨gb231, 4, none⟩ = some (.slice none 0 0) := (blk_cell BK231.out 4).trans rfl; have hfz22_0 := blk_frozen BK231.out 0; have hfz22_1 := blk_frozen BK231.out 1; have hfz22_2 := blk_frozen BK231.out 2; have hfz22_3 := blk_frozen BK231.out 3; have hfz22_4 := blk_frozen BK231.out 4))
    refine bodyPost_ret (results_ct rfl _ _ gb231 28 #[.int .i64 6, .int .i64 s0_1, .int .i64 t244, .slice Ao17 t236.length co17, .slice Ao19 t239.length co19] (0, 0) _ rfl (by (with_reducible repeat (first | refine blk_drewN ?_ _ | refine blk_drew ?_ | refine blk_alloc ?_ _)); refine blk_put (cs := #[.int .i64 6, .int .i64 s0_1, .int .i64 t244, .slice Ao17 t236.length co17, .slice none 0 0]) ?_ 4 _ rfl; (with_reducible repeat (first | refine blk_drewN ?_ _ | refine blk_drew ?_ | refine blk_alloc ?_ _)); refine blk_put (cs := #[.int .i64 6, .int .i64 s0_1, .int .i64 t244, .slice none 0 0, .slice none 0 0]) ?_ 3 _ rfl; (with_reducible repeat (first | refine blk_drewN ?_ _ | refine blk_drew ?_ | refine blk_alloc ?_ _)); refine blk_put (cs := #[.int .i64 6, .int .i64 s0_1, .int .i64 0, .slice none 0 0, .slice none 0 0]) ?_ 2 _ rfl; (with_reducible repeat (first | refine blk_drewN ?_ _ | refine blk_drew ?_ | refine blk_alloc ?_ _)); refine blk_put (cs := #[.int .i64 6, .int .i64 0, .int .i64 0, .slice none 0 0, .slice none 0 0]) ?_ 1 _ rfl; (with_reducible repeat (first | refine blk_drewN ?_ _ | refine blk_drew ?_ | refine blk_alloc ?_ _)); refine blk_put (cs := #[.int .i64 0, .int .i64 0, .int .i64 0, .slice none 0 0, .slice none 0 0]) ?_ 0 _ rfl; (with_reducible repeat (first | refine blk_drewN ?_ _ | refine blk_drew ?_ | refine blk_alloc ?_ _)); refine blk_far ?_ NB231_232.out _; (with_reducible repeat (first | refine blk_drewN ?_ _ | refine blk_drew ?_ | refine blk_alloc ?_ _)); refine blk_far ?_ NB231_232.out _; (with_reducible repeat (first | refine blk_drewN ?_ _ | refine blk_drew ?_ | refine blk_alloc ?_ _)); refine blk_far ?_ NB231_232.out _; (with_reducible repeat (first | refine blk_drewN ?_ _ | refine blk_drew ?_ | refine blk_alloc ?_ _)); exact BK231.out) Try.underlying28 rfl (by kernel_rfl)) rfl ?_
    exact ⟨_, _, by first | rfl | (simp [errW_none, errW_some] <;> rfl) | (simp [*, errW_none, errW_some] <;> rfl), by (with_reducible repeat (first | apply Kd.R_alloc | apply Kd.R_drewN | apply Kd.R_drew)); exact Kd.R_mono (Kd.R_far (p := ⟨gb231, 4, none⟩) (Kd.R_far (p := ⟨gb231, 3, none⟩) (Kd.R_far (p := ⟨gb231, 2, none⟩) (Kd.R_far (p := ⟨gb231, 1, none⟩) (Kd.R_far (p := ⟨gb231, 0, none⟩) (Kd.R_far (p := ⟨gb232, 2, none⟩) (Kd.R_far (p := ⟨gb232, 4, none⟩) (Kd.R_far (p := ⟨gb232, 3, none⟩) (Kd.R_types (Kd.R_types HO238.out BK232.out (by decide)) BK231.out (by decide)) (fun _ hk => hk.1.2) (.slice Ao17 t236.length co17)) (fun _ hk => hk.1.2) (.slice Ao19 t239.length co19)) (fun _ hk => hk.1.2) (.int .i64 t244)) (fun _ hk => hk.2) (.int .i64 6)) (fun _ hk => hk.2) (.int .i64 s0_1)) (fun _ hk => hk.2) (.int .i64 t244)) (fun _ hk => hk.2) (.slice Ao17 t236.length co17)) (fun _ hk => hk.2) (.slice Ao19 t239.length co19)) (fun _ hk => trivial), by (with_reducible repeat (first | apply Kd.R_alloc | apply Kd.R_drewN | apply Kd.R_drew)); exact Kd.R_mono (Kd.R_far (p := ⟨gb231, 4, none⟩) (Kd.R_far (p := ⟨gb231, 3, none⟩) (Kd.R_far (p := ⟨gb231, 2, none⟩) (Kd.R_far (p := ⟨gb231, 1, none⟩) (Kd.R_far (p := ⟨gb231, 0, none⟩) (Kd.R_far (p := ⟨gb232, 2, none⟩) (Kd.R_far (p := ⟨gb232, 4, none⟩) (Kd.R_far (p := ⟨gb232, 3, none⟩) (Kd.R_mono (Kd.R_mono HO241.out (fun k_ hk => (⟨hk, hk.2⟩ : _ ∧ k_ ≠ gb232))) (fun k_ hk => (⟨hk, hk.1.1.2⟩ : _ ∧ k_ ≠ gb231))) (fun _ hk => hk.1.2) (.slice Ao17 t236.length co17)) (fun _ hk => hk.1.2) (.slice Ao19 t239.length co19)) (fun _ hk => hk.1.2) (.int .i64 t244)) (fun _ hk => hk.2) (.int .i64 6)) (fun _ hk => hk.2) (.int .i64 s0_1)) (fun _ hk => hk.2) (.int .i64 t244)) (fun _ hk => hk.2) (.slice Ao17 t236.length co17)) (fun _ hk => hk.2) (.slice Ao19 t239.length co19)) (fun _ hk => hk.1.1.1.1), by repeat (first | (with_reducible first | exact HI0.out | apply IsS49.alloc | apply IsS49.drewN | apply IsS49.drew | apply IsS49.set_0 | apply IsS49.set_1 | refine IsS49.far ?_ NB0_231.out _ | refine IsS49.far ?_ NB0_232.out _) | exact HI0.out), by repeat (first | (with_reducible first | exact HB.out | apply below_alloc | apply pw_below_drewN | apply below_drew1 | refine below_set ?_ (IsS49.ge HI0.out) | refine below_set ?_ GE231.out | refine below_set ?_ GE232.out) | exact HB.out), by repeat (first | (with_reducible first | exact HK.out | apply KeepBut.set_ | apply keep_drewN | apply keep_drew | apply keep_alloc | refine keep_far ?_ GW231.out _ | refine keep_far ?_ GW232.out _) | exact HK.out)⟩
  · rw [if_neg c11] at H
    have c11b0 : (t233 == 123) = false := beq_eq_false_iff_ne.mpr c11
    have c11b1 : (t233 != 123) = true := bne_iff_ne.mpr c11
    (first | rw [c11b0] | (simp only [i64_w, i32_w]; rw [c11b0]) | skip)
    by_cases c23 : t233 = 91
    · rw [if_pos c23] at H
      have c23b0 : (t233 == 91) = true := beq_iff_eq.mpr c23
      have c23b1 : (t233 != 91) = false := bne_eq_false_iff_eq.mpr c23
      clear c23
      replace H := Option.bind_eq_some_iff.mp H
      obtain ⟨⟨t245, t248, t249, t250⟩, A240, H⟩ := H
      replace H : (some (5, s0_1, t250, ([] : List (S66)), t245, t248, t249, t250)) = some (r1, r2, r3, r4, r5, r6, r7, r8) := H
      have A24 := Aside0.mk A240
      clear A240
      simp only [Option.some.injEq, Prod.mk.injEq] at H
      obtain ⟨rfl, rfl, rfl, rfl, rfl, rfl, rfl, rfl⟩ := H
      have hnb25 := NB232_231.out
      have hnc25 := NB231_232.out
      have hnb26 := NB232_0.out
      have hnc26 := NB0_232.out
      have hcz27_0 : w10.cell? ⟨gb232, 0, none⟩ = some (.int .i64 0) := (blk_cell BK232.out 0).trans rfl
      have hcz27_1 : w10.cell? ⟨gb232, 1, none⟩ = some (.int .i64 s0_1) := (blk_cell BK232.out 1).trans rfl
      have hcz27_2 : w10.cell? ⟨gb232, 2, none⟩ = some (.int .i64 0) := (blk_cell BK232.out 2).trans rfl
      have hcz27_3 : w10.cell? ⟨gb232, 3, none⟩ = some (.slice none 0 0) := (blk_cell BK232.out 3).trans rfl
      have hcz27_4 : w10.cell? ⟨gb232, 4, none⟩ = some (.slice none 0 0) := (blk_cell BK232.out 4).trans rfl
      have hfz27_0 := blk_frozen BK232.out 0
      have hfz27_1 := blk_frozen BK232.out 1
      have hfz27_2 := blk_frozen BK232.out 2
      have hfz27_3 := blk_frozen BK232.out 3
      have hfz27_4 := blk_frozen BK232.out 4
      go_wp2_with (first | ((with_reducible refine gate_callee (f := 25) rfl ?_); refine goesL_ (some 32) rfl rfl Try.func25 (by kernel_rfl) rfl #[.pointer (some ⟨g, 0, none⟩)] rfl (by (try simp only [List.map_toArray, List.map_cons, List.map_nil]); first | done | rfl | (simp only [List.length_drop, List.length_take]; rfl)) ?_; (with_reducible refine (ih_spec_reader_elements k (by omega) g t234 t235 t245 t248 t249 t250 w0 _ ?side1 ?side2 A24.out).mono ?_); (case side1 => repeat (first | (with_reducible first | exact HI0.out | apply IsS49.alloc | apply IsS49.drewN | apply IsS49.drew | apply IsS49.set_0 | apply IsS49.set_1 | refine IsS49.far ?_ NB0_231.out _ | refine IsS49.far ?_ NB0_232.out _) | exact HI0.out)); (case side2 => repeat (first | (with_reducible first | exact HB.out | apply below_alloc | apply pw_below_drewN | apply below_drew1 | refine below_set ?_ (IsS49.ge HI0.out) | refine below_set ?_ GE231.out | refine below_set ?_ GE232.out) | exact HB.out)); rintro e w28 ⟨v246, rfl, ho0, hi, hb, hk⟩; refine ⟨_, rfl, ?_⟩; have n0_ := Aside0.mk (KeepBut.blk hk (g' := gb231) (o := .cells #[.int .i64 0, .int .i64 0, .int .i64 0, .slice none 0 0, .slice none 0 0] 28 (0, 0)) (by (with_reducible repeat (first | refine blk_drewN ?_ _ | refine blk_drew ?_ | refine blk_alloc ?_ _)); refine blk_far ?_ NB231_232.out _; (with_reducible repeat (first | refine blk_drewN ?_ _ | refine blk_drew ?_ | refine blk_alloc ?_ _)); exact BK231.out) NB231_0.out (by simp)); have n1_ := Aside0.mk (KeepBut.blk hk (g' := gb232) (o := .cells #[.int .i64 5, .int .i64 s0_1, .int .i64 0, .slice none 0 0, .slice none 0 0] 28 (0, 0)) (by (with_reducible repeat (first | refine blk_drewN ?_ _ | refine blk_drew ?_ | refine blk_alloc ?_ _)); refine blk_put (cs := #[.int .i64 0, .int .i64 s0_1, .int .i64 0, .slice none 0 0, .slice none 0 0]) ?_ 0 _ rfl; (with_reducible repeat (first | refine blk_drewN ?_ _ | refine blk_drew ?_ | refine blk_alloc ?_ _)); exact BK232.out) NB232_0.out (by simp)); have n2_ := Aside0.mk (Kd.R_lower (Kd.R_newB (Kd.R_newB ho0 (g := gb231) (o := .cells #[.int .i64 0, .int .i64 0, .int .i64 0, .slice none 0 0, .slice none 0 0] 28 (0, 0)) (by (with_reducible repeat (first | refine blk_drewN ?_ _ | refine blk_drew ?_ | refine blk_alloc ?_ _)); refine blk_far ?_ NB231_232.out _; (with_reducible repeat (first | refine blk_drewN ?_ _ | refine blk_drew ?_ | refine blk_alloc ?_ _)); exact BK231.out)) (g := gb232) (o := .cells #[.int .i64 5, .int .i64 s0_1, .int .i64 0, .slice none 0 0, .slice none 0 0] 28 (0, 0)) (by (with_reducible repeat (first | refine blk_drewN ?_ _ | refine blk_drew ?_ | refine blk_alloc ?_ _)); refine blk_put (cs := #[.int .i64 0, .int .i64 s0_1, .int .i64 0, .slice none 0 0, .slice none 0 0]) ?_ 0 _ rfl; (with_reducible repeat (first | refine blk_drewN ?_ _ | refine blk_drew ?_ | refine blk_alloc ?_ _)); exact BK232.out)) (keep_size (w := w) (g := g) (row := none) (by repeat (first | (with_reducible first | exact HK.out | apply KeepBut.set_ | apply keep_drewN | apply keep_drew | apply keep_alloc | refine keep_far ?_ GW231.out _ | refine keep_far ?_ GW232.out _) | exact HK.out)))); have n3_ := Aside0.mk (KeepBut.trans (by repeat (first | (with_reducible first | exact HK.out | apply KeepBut.set_ | apply keep_drewN | apply keep_drew | apply keep_alloc | refine keep_far ?_ GW231.out _ | refine keep_far ?_ GW232.out _) | exact HK.out)) hk (.inl rfl)); have n4_ := Aside0.mk (hb); have n5_ := Aside0.mk (hi); clear BK231; clear BK232; clear HK; clear HB; clear HI0; have BK231 := n0_; have BK232 := n1_; have HO247 := n2_; have HK := n3_; have HB := n4_; have HI0 := n5_; clear n0_ n1_ n2_ n3_ n4_ n5_; (try clear hb); (try clear hb2); (try clear hk); (try clear hi); (try clear ho0); obtain ⟨Ao29, co29, eo29⟩ := Kd.R_slice HO247.out; subst eo29; have hcz30_0 : w28.cell? ⟨gb232, 0, none⟩ = some (.int .i64 5) := (blk_cell BK232.out 0).trans rfl; have hcz30_1 : w28.cell? ⟨gb232, 1, none⟩ = some (.int .i64 s0_1) := (blk_cell BK232.out 1).trans rfl; have hcz30_2 : w28.cell? ⟨gb232, 2, none⟩ = some (.int .i64 0) := (blk_cell BK232.out 2).trans rfl; have hcz30_3 : w28.cell? ⟨gb232, 3, none⟩ = some (.slice none 0 0) := (blk_cell BK232.out 3).trans rfl; have hcz30_4 : w28.cell? ⟨gb232, 4, none⟩ = some (.slice none 0 0) := (blk_cell BK232.out 4).trans rfl; have hfz30_0 := blk_frozen BK232.out 0; have hfz30_1 := blk_frozen BK232.out 1; have hfz30_2 := blk_frozen BK232.out 2; have hfz30_3 := blk_frozen BK232.out 3; have hfz30_4 := blk_frozen BK232.out 4; obtain ⟨HGz31, hgz31⟩ := HI0.out; have hcz31_0 := cellS49_0 HGz31; have hcz31_1 := cellS49_1 HGz31; have hfz31_0 := blk_frozen HGz31 0; have hfz31_1 := blk_frozen HGz31 1; clear HGz31 hgz31; have hnb32 := NB231_0.out; have hnc32 := NB0_231.out; have hcz33_0 : w28.cell? ⟨gb231, 0, none⟩ = some (.int .i64 0) := (blk_cell BK231.out 0).trans rfl; have hcz33_1 : w28.cell? ⟨gb231, 1, none⟩ = some (.int .i64 0) := (blk_cell BK231.out 1).trans rfl; have hcz33_2 : w28.cell? ⟨gb231, 2, none⟩ = some (.int .i64 0) := (blk_cell BK231.out 2).trans rfl; have hcz33_3 : w28.cell? ⟨gb231, 3, none⟩ = some (.slice none 0 0) := (blk_cell BK231.out 3).trans rfl; have hcz33_4 : w28.cell? ⟨gb231, 4, none⟩ = some (.slice none 0 0) := (blk_cell BK231.out 4).trans rfl; have hfz33_0 := blk_frozen BK231.out 0; have hfz33_1 := blk_frozen BK231.out 1; have hfz33_2 := blk_frozen BK231.out 2; have hfz33_3 := blk_frozen BK231.out 3; have hfz33_4 := blk_frozen BK231.out 4))
      refine bodyPost_ret (results_ct rfl _ _ gb231 28 #[.int .i64 5, .int .i64 s0_1, .int .i64 t250, .slice none 0 0, .slice Ao29 t245.length co29] (0, 0) _ rfl (by (with_reducible repeat (first | refine blk_drewN ?_ _ | refine blk_drew ?_ | refine blk_alloc ?_ _)); refine blk_put (cs := #[.int .i64 5, .int .i64 s0_1, .int .i64 t250, .slice none 0 0, .slice none 0 0]) ?_ 4 _ rfl; (with_reducible repeat (first | refine blk_drewN ?_ _ | refine blk_drew ?_ | refine blk_alloc ?_ _)); refine blk_put (cs := #[.int .i64 5, .int .i64 s0_1, .int .i64 t250, .slice none 0 0, .slice none 0 0]) ?_ 3 _ rfl; (with_reducible repeat (first | refine blk_drewN ?_ _ | refine blk_drew ?_ | refine blk_alloc ?_ _)); refine blk_put (cs := #[.int .i64 5, .int .i64 s0_1, .int .i64 0, .slice none 0 0, .slice none 0 0]) ?_ 2 _ rfl; (with_reducible repeat (first | refine blk_drewN ?_ _ | refine blk_drew ?_ | refine blk_alloc ?_ _)); refine blk_put (cs := #[.int .i64 5, .int .i64 0, .int .i64 0, .slice none 0 0, .slice none 0 0]) ?_ 1 _ rfl; (with_reducible repeat (first | refine blk_drewN ?_ _ | refine blk_drew ?_ | refine blk_alloc ?_ _)); refine blk_put (cs := #[.int .i64 0, .int .i64 0, .int .i64 0, .slice none 0 0, .slice none 0 0]) ?_ 0 _ rfl; (with_reducible repeat (first | refine blk_drewN ?_ _ | refine blk_drew ?_ | refine blk_alloc ?_ _)); refine blk_far ?_ NB231_232.out _; (with_reducible repeat (first | refine blk_drewN ?_ _ | refine blk_drew ?_ | refine blk_alloc ?_ _)); refine blk_far ?_ NB231_232.out _; (with_reducible repeat (first | refine blk_drewN ?_ _ | refine blk_drew ?_ | refine blk_alloc ?_ _)); exact BK231.out) Try.underlying28 rfl (by kernel_rfl)) rfl ?_
      exact ⟨_, _, by first | rfl | (simp [errW_none, errW_some] <;> rfl) | (simp [*, errW_none, errW_some] <;> rfl), by first | exact Kd.R_nil _ _ _ _ _ | exact Kd.N_nil _ _ _ _ _ | exact Kd.V_nil _ _ _ _ _ | exact Kd.Q_nil _ _ _ _ _ | exact Kd.S_nil _ _ _ _ _, by (with_reducible repeat (first | apply Kd.R_alloc | apply Kd.R_drewN | apply Kd.R_drew)); exact Kd.R_mono (Kd.R_far (p := ⟨gb231, 4, none⟩) (Kd.R_far (p := ⟨gb231, 3, none⟩) (Kd.R_far (p := ⟨gb231, 2, none⟩) (Kd.R_far (p := ⟨gb231, 1, none⟩) (Kd.R_far (p := ⟨gb231, 0, none⟩) (Kd.R_far (p := ⟨gb232, 2, none⟩) (Kd.R_far (p := ⟨gb232, 4, none⟩) (Kd.R_mono (Kd.R_mono HO247.out (fun k_ hk => (⟨hk, hk.2⟩ : _ ∧ k_ ≠ gb232))) (fun k_ hk => (⟨hk, hk.1.1.2⟩ : _ ∧ k_ ≠ gb231))) (fun _ hk => hk.1.2) (.slice Ao29 t245.length co29)) (fun _ hk => hk.1.2) (.int .i64 t250)) (fun _ hk => hk.2) (.int .i64 5)) (fun _ hk => hk.2) (.int .i64 s0_1)) (fun _ hk => hk.2) (.int .i64 t250)) (fun _ hk => hk.2) (.slice none 0 0)) (fun _ hk => hk.2) (.slice Ao29 t245.length co29)) (fun _ hk => (by simp [Value.ownBlock])), by repeat (first | (with_reducible first | exact HI0.out | apply IsS49.alloc | apply IsS49.drewN | apply IsS49.drew | apply IsS49.set_0 | apply IsS49.set_1 | refine IsS49.far ?_ NB0_231.out _ | refine IsS49.far ?_ NB0_232.out _) | exact HI0.out), by repeat (first | (with_reducible first | exact HB.out | apply below_alloc | apply pw_below_drewN | apply below_drew1 | refine below_set ?_ (IsS49.ge HI0.out) | refine below_set ?_ GE231.out | refine below_set ?_ GE232.out) | exact HB.out), by repeat (first | (with_reducible first | exact HK.out | apply KeepBut.set_ | apply keep_drewN | apply keep_drew | apply keep_alloc | refine keep_far ?_ GW231.out _ | refine keep_far ?_ GW232.out _) | exact HK.out)⟩
    · rw [if_neg c23] at H
      have c23b0 : (t233 == 91) = false := beq_eq_false_iff_ne.mpr c23
      have c23b1 : (t233 != 91) = true := bne_iff_ne.mpr c23
      by_cases c34 : t233 = 34
      · rw [if_pos c34] at H
        have c34b0 : (t233 == 34) = true := beq_iff_eq.mpr c34
        have c34b1 : (t233 != 34) = false := bne_eq_false_iff_eq.mpr c34
        clear c34
        replace H := Option.bind_eq_some_iff.mp H
        obtain ⟨⟨t251, t252, t253⟩, A350, H⟩ := H
        replace H : (some (4, s0_1, t253, ([] : List (S66)), ([] : List (S28)), t251, t252, t253)) = some (r1, r2, r3, r4, r5, r6, r7, r8) := H
        have A35 := Aside0.mk A350
        clear A350
        simp only [Option.some.injEq, Prod.mk.injEq] at H
        obtain ⟨rfl, rfl, rfl, rfl, rfl, rfl, rfl, rfl⟩ := H
        have hnb36 := NB232_231.out
        have hnc36 := NB231_232.out
        have hnb37 := NB232_0.out
        have hnc37 := NB0_232.out
        have hcz38_0 : w10.cell? ⟨gb232, 0, none⟩ = some (.int .i64 0) := (blk_cell BK232.out 0).trans rfl
        have hcz38_1 : w10.cell? ⟨gb232, 1, none⟩ = some (.int .i64 s0_1) := (blk_cell BK232.out 1).trans rfl
        have hcz38_2 : w10.cell? ⟨gb232, 2, none⟩ = some (.int .i64 0) := (blk_cell BK232.out 2).trans rfl
        have hcz38_3 : w10.cell? ⟨gb232, 3, none⟩ = some (.slice none 0 0) := (blk_cell BK232.out 3).trans rfl
        have hcz38_4 : w10.cell? ⟨gb232, 4, none⟩ = some (.slice none 0 0) := (blk_cell BK232.out 4).trans rfl
        have hfz38_0 := blk_frozen BK232.out 0
        have hfz38_1 := blk_frozen BK232.out 1
        have hfz38_2 := blk_frozen BK232.out 2
        have hfz38_3 := blk_frozen BK232.out 3
        have hfz38_4 := blk_frozen BK232.out 4
        go_wp2_with (first | ((with_reducible refine gate_callee (f := 26) rfl ?_); refine goesL_ (some 41) rfl rfl Try.func26 (by kernel_rfl) rfl #[.pointer (some ⟨g, 0, none⟩)] rfl (by (try simp only [List.map_toArray, List.map_cons, List.map_nil]); first | done | rfl | (simp only [List.length_drop, List.length_take]; rfl)) ?_; (with_reducible refine (spec_reader_quoted.calls k g t234 t235 t251 t252 t253 w0 _ ?side1 ?side2 A35.out).mono ?_); (case side1 => repeat (first | (with_reducible first | exact HI0.out | apply IsS49.alloc | apply IsS49.drewN | apply IsS49.drew | apply IsS49.set_0 | apply IsS49.set_1 | refine IsS49.far ?_ NB0_231.out _ | refine IsS49.far ?_ NB0_232.out _) | exact HI0.out)); (case side2 => repeat (first | (with_reducible first | exact HB.out | apply below_alloc | apply pw_below_drewN | apply below_drew1 | refine below_set ?_ (IsS49.ge HI0.out) | refine below_set ?_ GE231.out | refine below_set ?_ GE232.out) | exact HB.out)); rintro e w39 ⟨rfl, hi, hb, hk⟩; refine ⟨_, rfl, ?_⟩; have n0_ := Aside0.mk (KeepBut.blk hk (g' := gb231) (o := .cells #[.int .i64 0, .int .i64 0, .int .i64 0, .slice none 0 0, .slice none 0 0] 28 (0, 0)) (by (with_reducible repeat (first | refine blk_drewN ?_ _ | refine blk_drew ?_ | refine blk_alloc ?_ _)); refine blk_far ?_ NB231_232.out _; (with_reducible repeat (first | refine blk_drewN ?_ _ | refine blk_drew ?_ | refine blk_alloc ?_ _)); exact BK231.out) NB231_0.out (by simp)); have n1_ := Aside0.mk (KeepBut.blk hk (g' := gb232) (o := .cells #[.int .i64 4, .int .i64 s0_1, .int .i64 0, .slice none 0 0, .slice none 0 0] 28 (0, 0)) (by (with_reducible repeat (first | refine blk_drewN ?_ _ | refine blk_drew ?_ | refine blk_alloc ?_ _)); refine blk_put (cs := #[.int .i64 0, .int .i64 s0_1, .int .i64 0, .slice none 0 0, .slice none 0 0]) ?_ 0 _ rfl; (with_reducible repeat (first | refine blk_drewN ?_ _ | refine blk_drew ?_ | refine blk_alloc ?_ _)); exact BK232.out) NB232_0.out (by simp)); have n2_ := Aside0.mk (KeepBut.trans (by repeat (first | (with_reducible first | exact HK.out | apply KeepBut.set_ | apply keep_drewN | apply keep_drew | apply keep_alloc | refine keep_far ?_ GW231.out _ | refine keep_far ?_ GW232.out _) | exact HK.out)) hk (.inl rfl)); have n3_ := Aside0.mk (hb); have n4_ := Aside0.mk (hi); clear BK231; clear BK232; clear HK; clear HB; clear HI0; have BK231 := n0_; have BK232 := n1_; have HK := n2_; have HB := n3_; have HI0 := n4_; clear n0_ n1_ n2_ n3_ n4_; (try clear hb); (try clear hb2); (try clear hk); (try clear hi); obtain ⟨HGz40, hgz40⟩ := HI0.out; have hcz40_0 := cellS49_0 HGz40; have hcz40_1 := cellS49_1 HGz40; have hfz40_0 := blk_frozen HGz40 0; have hfz40_1 := blk_frozen HGz40 1; clear HGz40 hgz40; have hcz41_0 : w39.cell? ⟨gb232, 0, none⟩ = some (.int .i64 4) := (blk_cell BK232.out 0).trans rfl; have hcz41_1 : w39.cell? ⟨gb232, 1, none⟩ = some (.int .i64 s0_1) := (blk_cell BK232.out 1).trans rfl; have hcz41_2 : w39.cell? ⟨gb232, 2, none⟩ = some (.int .i64 0) := (blk_cell BK232.out 2).trans rfl; have hcz41_3 : w39.cell? ⟨gb232, 3, none⟩ = some (.slice none 0 0) := (blk_cell BK232.out 3).trans rfl; have hcz41_4 : w39.cell? ⟨gb232, 4, none⟩ = some (.slice none 0 0) := (blk_cell BK232.out 4).trans rfl; have hfz41_0 := blk_frozen BK232.out 0; have hfz41_1 := blk_frozen BK232.out 1; have hfz41_2 := blk_frozen BK232.out 2; have hfz41_3 := blk_frozen BK232.out 3; have hfz41_4 := blk_frozen BK232.out 4; have hnb42 := NB231_0.out; have hnc42 := NB0_231.out; have hcz43_0 : w39.cell? ⟨gb231, 0, none⟩ = some (.int .i64 0) := (blk_cell BK231.out 0).trans rfl; have hcz43_1 : w39.cell? ⟨gb231, 1, none⟩ = some (.int .i64 0) := (blk_cell BK231.out 1).trans rfl; have hcz43_2 : w39.cell? ⟨gb231, 2, none⟩ = some (.int .i64 0) := (blk_cell BK231.out 2).trans rfl; have hcz43_3 : w39.cell? ⟨gb231, 3, none⟩ = some (.slice none 0 0) := (blk_cell BK231.out 3).trans rfl; have hcz43_4 : w39.cell? ⟨gb231, 4, none⟩ = some (.slice none 0 0) := (blk_cell BK231.out 4).trans rfl; have hfz43_0 := blk_frozen BK231.out 0; have hfz43_1 := blk_frozen BK231.out 1; have hfz43_2 := blk_frozen BK231.out 2; have hfz43_3 := blk_frozen BK231.out 3; have hfz43_4 := blk_frozen BK231.out 4))
        refine bodyPost_ret (results_ct rfl _ _ gb231 28 #[.int .i64 4, .int .i64 s0_1, .int .i64 t253, .slice none 0 0, .slice none 0 0] (0, 0) _ rfl (by (with_reducible repeat (first | refine blk_drewN ?_ _ | refine blk_drew ?_ | refine blk_alloc ?_ _)); refine blk_put (cs := #[.int .i64 4, .int .i64 s0_1, .int .i64 t253, .slice none 0 0, .slice none 0 0]) ?_ 4 _ rfl; (with_reducible repeat (first | refine blk_drewN ?_ _ | refine blk_drew ?_ | refine blk_alloc ?_ _)); refine blk_put (cs := #[.int .i64 4, .int .i64 s0_1, .int .i64 t253, .slice none 0 0, .slice none 0 0]) ?_ 3 _ rfl; (with_reducible repeat (first | refine blk_drewN ?_ _ | refine blk_drew ?_ | refine blk_alloc ?_ _)); refine blk_put (cs := #[.int .i64 4, .int .i64 s0_1, .int .i64 0, .slice none 0 0, .slice none 0 0]) ?_ 2 _ rfl; (with_reducible repeat (first | refine blk_drewN ?_ _ | refine blk_drew ?_ | refine blk_alloc ?_ _)); refine blk_put (cs := #[.int .i64 4, .int .i64 0, .int .i64 0, .slice none 0 0, .slice none 0 0]) ?_ 1 _ rfl; (with_reducible repeat (first | refine blk_drewN ?_ _ | refine blk_drew ?_ | refine blk_alloc ?_ _)); refine blk_put (cs := #[.int .i64 0, .int .i64 0, .int .i64 0, .slice none 0 0, .slice none 0 0]) ?_ 0 _ rfl; (with_reducible repeat (first | refine blk_drewN ?_ _ | refine blk_drew ?_ | refine blk_alloc ?_ _)); refine blk_far ?_ NB231_232.out _; (with_reducible repeat (first | refine blk_drewN ?_ _ | refine blk_drew ?_ | refine blk_alloc ?_ _)); exact BK231.out) Try.underlying28 rfl (by kernel_rfl)) rfl ?_
        exact ⟨_, _, by first | rfl | (simp [errW_none, errW_some] <;> rfl) | (simp [*, errW_none, errW_some] <;> rfl), by first | exact Kd.R_nil _ _ _ _ _ | exact Kd.N_nil _ _ _ _ _ | exact Kd.V_nil _ _ _ _ _ | exact Kd.Q_nil _ _ _ _ _ | exact Kd.S_nil _ _ _ _ _, by first | exact Kd.R_nil _ _ _ _ _ | exact Kd.N_nil _ _ _ _ _ | exact Kd.V_nil _ _ _ _ _ | exact Kd.Q_nil _ _ _ _ _ | exact Kd.S_nil _ _ _ _ _, by repeat (first | (with_reducible first | exact HI0.out | apply IsS49.alloc | apply IsS49.drewN | apply IsS49.drew | apply IsS49.set_0 | apply IsS49.set_1 | refine IsS49.far ?_ NB0_231.out _ | refine IsS49.far ?_ NB0_232.out _) | exact HI0.out), by repeat (first | (with_reducible first | exact HB.out | apply below_alloc | apply pw_below_drewN | apply below_drew1 | refine below_set ?_ (IsS49.ge HI0.out) | refine below_set ?_ GE231.out | refine below_set ?_ GE232.out) | exact HB.out), by repeat (first | (with_reducible first | exact HK.out | apply KeepBut.set_ | apply keep_drewN | apply keep_drew | apply keep_alloc | refine keep_far ?_ GW231.out _ | refine keep_far ?_ GW232.out _) | exact HK.out)⟩
      · rw [if_neg c34] at H
        have c34b0 : (t233 == 34) = false := beq_eq_false_iff_ne.mpr c34
        have c34b1 : (t233 != 34) = true := bne_iff_ne.mpr c34
        have HC44 := Aside0.mk H
        clear H
        go_upto_region 14 with (fail)
        go_cut [42] (fun v42 wc => ∃ (kq : Nat) (x42_43 : Bool), v42 = .bool x42_43 ∧ Aside0 (spec_reader_value.j0 kq true x42_43 t234 t235 0 s0_1 0 = some (r1, r2, r3, r4, r5, r6, r7, r8)) ∧ Aside0 (kq ≤ k) ∧ Aside0 (wc.heap[gb231]? = some (.cells #[.int .i64 0, .int .i64 0, .int .i64 0, (.slice none 0 0), (.slice none 0 0)] 28 (0, 0))) ∧ Aside0 (wc.heap[gb232]? = some (.cells #[.int .i64 0, .int .i64 s0_1, .int .i64 0, (.slice none 0 0), (.slice none 0 0)] 28 (0, 0))) ∧ Aside0 (IsS49 w0 wc g t234 t235) ∧ Aside0 (KeepBut w wc g none) ∧ Aside0 (Below w0.heap.size w0 wc))
        case first =>
          have H := HC44.out
          clear HC44
          by_cases c45 : t233 = 45
          · rw [if_pos c45] at H
            have c45b0 : (t233 == 45) = true := beq_iff_eq.mpr c45
            have c45b1 : (t233 != 45) = false := bne_eq_false_iff_eq.mpr c45
            clear c45
            (first | rw [c45b0] | (simp only [i64_w, i32_w]; rw [c45b0]) | skip)
            have H' := Aside0.mk H
            clear H
            go_wp2
            go_meet
            case rel => exact ⟨_, (true), (by first | rfl | (simp; done) | (simp [*]; done)), H', ⟨by first | omega | exact Nat.le_refl _⟩, ⟨by (with_reducible repeat (first | refine blk_drewN ?_ _ | refine blk_drew ?_ | refine blk_alloc ?_ _)); exact BK231.out⟩, ⟨by (with_reducible repeat (first | refine blk_drewN ?_ _ | refine blk_drew ?_ | refine blk_alloc ?_ _)); exact BK232.out⟩, ⟨by repeat (first | (with_reducible first | exact HI0.out | apply IsS49.alloc | apply IsS49.drewN | apply IsS49.drew | apply IsS49.set_0 | apply IsS49.set_1 | refine IsS49.far ?_ NB0_231.out _ | refine IsS49.far ?_ NB0_232.out _) | exact HI0.out)⟩, ⟨by repeat (first | (with_reducible first | exact HK.out | apply KeepBut.set_ | apply keep_drewN | apply keep_drew | apply keep_alloc | refine keep_far ?_ GW231.out _ | refine keep_far ?_ GW232.out _) | exact HK.out)⟩, ⟨by repeat (first | (with_reducible first | exact HB.out | apply below_alloc | apply pw_below_drewN | apply below_drew1 | refine below_set ?_ (IsS49.ge HI0.out) | refine below_set ?_ GE231.out | refine below_set ?_ GE232.out) | exact HB.out)⟩⟩
          · rw [if_neg c45] at H
            have c45b0 : (t233 == 45) = false := beq_eq_false_iff_ne.mpr c45
            have c45b1 : (t233 != 45) = true := bne_iff_ne.mpr c45
            (first | rw [c45b0] | (simp only [i64_w, i32_w]; rw [c45b0]) | skip)
            by_cases c46 : 48 ≤ t233
            · rw [if_pos c46] at H
              have c46b0 : decide (48 ≤ t233) = true := decide_eq_true c46
              clear c46
              have H' := Aside0.mk H
              clear H
              go_wp2
              go_meet
              case rel => exact ⟨_, (decide (t233 ≤ 57)), (by first | rfl | (simp; done) | (simp [*]; done)), H', ⟨by first | omega | exact Nat.le_refl _⟩, ⟨by (with_reducible repeat (first | refine blk_drewN ?_ _ | refine blk_drew ?_ | refine blk_alloc ?_ _)); exact BK231.out⟩, ⟨by (with_reducible repeat (first | refine blk_drewN ?_ _ | refine blk_drew ?_ | refine blk_alloc ?_ _)); exact BK232.out⟩, ⟨by repeat (first | (with_reducible first | exact HI0.out | apply IsS49.alloc | apply IsS49.drewN | apply IsS49.drew | apply IsS49.set_0 | apply IsS49.set_1 | refine IsS49.far ?_ NB0_231.out _ | refine IsS49.far ?_ NB0_232.out _) | exact HI0.out)⟩, ⟨by repeat (first | (with_reducible first | exact HK.out | apply KeepBut.set_ | apply keep_drewN | apply keep_drew | apply keep_alloc | refine keep_far ?_ GW231.out _ | refine keep_far ?_ GW232.out _) | exact HK.out)⟩, ⟨by repeat (first | (with_reducible first | exact HB.out | apply below_alloc | apply pw_below_drewN | apply below_drew1 | refine below_set ?_ (IsS49.ge HI0.out) | refine below_set ?_ GE231.out | refine below_set ?_ GE232.out) | exact HB.out)⟩⟩
            · rw [if_neg c46] at H
              have c46b0 : decide (48 ≤ t233) = false := decide_eq_false c46
              clear c46
              have H' := Aside0.mk H
              clear H
              go_wp2
              go_meet
              case rel => exact ⟨_, (false), (by first | rfl | (simp; done) | (simp [*]; done)), H', ⟨by first | omega | exact Nat.le_refl _⟩, ⟨by (with_reducible repeat (first | refine blk_drewN ?_ _ | refine blk_drew ?_ | refine blk_alloc ?_ _)); exact BK231.out⟩, ⟨by (with_reducible repeat (first | refine blk_drewN ?_ _ | refine blk_drew ?_ | refine blk_alloc ?_ _)); exact BK232.out⟩, ⟨by repeat (first | (with_reducible first | exact HI0.out | apply IsS49.alloc | apply IsS49.drewN | apply IsS49.drew | apply IsS49.set_0 | apply IsS49.set_1 | refine IsS49.far ?_ NB0_231.out _ | refine IsS49.far ?_ NB0_232.out _) | exact HI0.out)⟩, ⟨by repeat (first | (with_reducible first | exact HK.out | apply KeepBut.set_ | apply keep_drewN | apply keep_drew | apply keep_alloc | refine keep_far ?_ GW231.out _ | refine keep_far ?_ GW232.out _) | exact HK.out)⟩, ⟨by repeat (first | (with_reducible first | exact HB.out | apply below_alloc | apply pw_below_drewN | apply below_drew1 | refine below_set ?_ (IsS49.ge HI0.out) | refine below_set ?_ GE231.out | refine below_set ?_ GE232.out) | exact HB.out)⟩⟩
        case rest =>
          clear HC44
          try clear c1
          try clear c2
          try clear p2
          try clear c3
          try clear c4
          try clear c7
          try clear c8
          try clear c11
          try clear c11b0
          try clear c11b1
          try clear c13
          try clear c14
          try clear c18
          try clear c21
          try clear c23
          try clear c23b0
          try clear c23b1
          try clear c24
          try clear c25
          try clear c26
          try clear c32
          try clear c34
          try clear c34b0
          try clear c34b1
          try clear c36
          try clear c37
          try clear c42
          try clear c45
          try clear c45b0
          try clear c45b1
          try clear c46
          try clear c46b0
          try clear hcz15_0
          try clear hcz15_1
          try clear hcz15_2
          try clear hcz15_3
          try clear hcz15_4
          try clear hcz18_0
          try clear hcz18_1
          try clear hcz18_2
          try clear hcz18_3
          try clear hcz18_4
          try clear hcz20_0
          try clear hcz20_1
          try clear hcz22_0
          try clear hcz22_1
          try clear hcz22_2
          try clear hcz22_3
          try clear hcz22_4
          try clear hcz27_0
          try clear hcz27_1
          try clear hcz27_2
          try clear hcz27_3
          try clear hcz27_4
          try clear hcz30_0
          try clear hcz30_1
          try clear hcz30_2
          try clear hcz30_3
          try clear hcz30_4
          try clear hcz31_0
          try clear hcz31_1
          try clear hcz33_0
          try clear hcz33_1
          try clear hcz33_2
          try clear hcz33_3
          try clear hcz33_4
          try clear hcz38_0
          try clear hcz38_1
          try clear hcz38_2
          try clear hcz38_3
          try clear hcz38_4
          try clear hcz40_0
          try clear hcz40_1
          try clear hcz41_0
          try clear hcz41_1
          try clear hcz41_2
          try clear hcz41_3
          try clear hcz41_4
          try clear hcz43_0
          try clear hcz43_1
          try clear hcz43_2
          try clear hcz43_3
          try clear hcz43_4
          try clear hcz5_0
          try clear hcz5_1
          try clear hcz9_0
          try clear hcz9_1
          try clear hcz9_2
          try clear hcz9_3
          try clear hcz9_4
          try clear hfz15_0
          try clear hfz15_1
          try clear hfz15_2
          try clear hfz15_3
          try clear hfz15_4
          try clear hfz18_0
          try clear hfz18_1
          try clear hfz18_2
          try clear hfz18_3
          try clear hfz18_4
          try clear hfz20_0
          try clear hfz20_1
          try clear hfz22_0
          try clear hfz22_1
          try clear hfz22_2
          try clear hfz22_3
          try clear hfz22_4
          try clear hfz27_0
          try clear hfz27_1
          try clear hfz27_2
          try clear hfz27_3
          try clear hfz27_4
          try clear hfz30_0
          try clear hfz30_1
          try clear hfz30_2
          try clear hfz30_3
          try clear hfz30_4
          try clear hfz31_0
          try clear hfz31_1
          try clear hfz33_0
          try clear hfz33_1
          try clear hfz33_2
          try clear hfz33_3
          try clear hfz33_4
          try clear hfz38_0
          try clear hfz38_1
          try clear hfz38_2
          try clear hfz38_3
          try clear hfz38_4
          try clear hfz40_0
          try clear hfz40_1
          try clear hfz41_0
          try clear hfz41_1
          try clear hfz41_2
          try clear hfz41_3
          try clear hfz41_4
          try clear hfz43_0
          try clear hfz43_1
          try clear hfz43_2
          try clear hfz43_3
          try clear hfz43_4
          try clear hfz5_0
          try clear hfz5_1
          try clear hfz9_0
          try clear hfz9_1
          try clear hfz9_2
          try clear hfz9_3
          try clear hfz9_4
          obtain ⟨kq, x42_43, rfl, HA, HJ43, BK231, BK232, HI0, HK, HB⟩ := hcut
          cases kq with
          | zero => exact absurd HA.out (by simp [spec_reader_value.j0])
          | succ kj43 =>
            have H := HA.out
            clear HA
            simp only [spec_reader_value.j0] at H
            by_cases c47 : x42_43 = true
            · subst c47
              have H1 : ((spec_reader_number.f kj43 t234 t235).bind fun bt254 => (some (3, s0_1, bt254.2.2, ([] : List (S66)), ([] : List (S28)), bt254.1, bt254.2.1, bt254.2.2))) = some (r1, r2, r3, r4, r5, r6, r7, r8) := by rw [if_pos rfl] at H; exact H
              clear H
              have H := H1
              clear H1
              replace H := Option.bind_eq_some_iff.mp H
              obtain ⟨⟨t254, t255, t256⟩, A480, H⟩ := H
              replace H : (some (3, s0_1, t256, ([] : List (S66)), ([] : List (S28)), t254, t255, t256)) = some (r1, r2, r3, r4, r5, r6, r7, r8) := H
              have A48 := Aside0.mk A480
              clear A480
              simp only [Option.some.injEq, Prod.mk.injEq] at H
              obtain ⟨rfl, rfl, rfl, rfl, rfl, rfl, rfl, rfl⟩ := H
              have hnb49 := NB232_231.out
              have hnc49 := NB231_232.out
              have hnb50 := NB232_0.out
              have hnc50 := NB0_232.out
              have hcz51_0 : wc.cell? ⟨gb232, 0, none⟩ = some (.int .i64 0) := (blk_cell BK232.out 0).trans rfl
              have hcz51_1 : wc.cell? ⟨gb232, 1, none⟩ = some (.int .i64 s0_1) := (blk_cell BK232.out 1).trans rfl
              have hcz51_2 : wc.cell? ⟨gb232, 2, none⟩ = some (.int .i64 0) := (blk_cell BK232.out 2).trans rfl
              have hcz51_3 : wc.cell? ⟨gb232, 3, none⟩ = some (.slice none 0 0) := (blk_cell BK232.out 3).trans rfl
              have hcz51_4 : wc.cell? ⟨gb232, 4, none⟩ = some (.slice none 0 0) := (blk_cell BK232.out 4).trans rfl
              have hfz51_0 := blk_frozen BK232.out 0
              have hfz51_1 := blk_frozen BK232.out 1
              have hfz51_2 := blk_frozen BK232.out 2
              have hfz51_3 := blk_frozen BK232.out 3
              have hfz51_4 := blk_frozen BK232.out 4
              go_wp2_with (first | ((with_reducible refine gate_callee (f := 27) rfl ?_); refine goesL_ (some 55) rfl rfl Try.func27 (by kernel_rfl) rfl #[.pointer (some ⟨g, 0, none⟩)] rfl (by (try simp only [List.map_toArray, List.map_cons, List.map_nil]); first | done | rfl | (simp only [List.length_drop, List.length_take]; rfl)) ?_; (with_reducible refine (spec_reader_number.calls kj43 g t234 t235 t254 t255 t256 w0 _ ?side1 ?side2 A48.out).mono ?_); (case side1 => repeat (first | (with_reducible first | exact HI0.out | apply IsS49.alloc | apply IsS49.drewN | apply IsS49.drew | apply IsS49.set_0 | apply IsS49.set_1 | refine IsS49.far ?_ NB0_231.out _ | refine IsS49.far ?_ NB0_232.out _) | exact HI0.out)); (case side2 => repeat (first | (with_reducible first | exact HB.out | apply below_alloc | apply pw_below_drewN | apply below_drew1 | refine below_set ?_ (IsS49.ge HI0.out) | refine below_set ?_ GE231.out | refine below_set ?_ GE232.out) | exact HB.out)); rintro e w52 ⟨rfl, hi, hb, hk⟩; refine ⟨_, rfl, ?_⟩; have n0_ := Aside0.mk (KeepBut.blk hk (g' := gb231) (o := .cells #[.int .i64 0, .int .i64 0, .int .i64 0, .slice none 0 0, .slice none 0 0] 28 (0, 0)) (by (with_reducible repeat (first | refine blk_drewN ?_ _ | refine blk_drew ?_ | refine blk_alloc ?_ _)); refine blk_far ?_ NB231_232.out _; (with_reducible repeat (first | refine blk_drewN ?_ _ | refine blk_drew ?_ | refine blk_alloc ?_ _)); exact BK231.out) NB231_0.out (by simp)); have n1_ := Aside0.mk (KeepBut.blk hk (g' := gb232) (o := .cells #[.int .i64 3, .int .i64 s0_1, .int .i64 0, .slice none 0 0, .slice none 0 0] 28 (0, 0)) (by (with_reducible repeat (first | refine blk_drewN ?_ _ | refine blk_drew ?_ | refine blk_alloc ?_ _)); refine blk_put (cs := #[.int .i64 0, .int .i64 s0_1, .int .i64 0, .slice none 0 0, .slice none 0 0]) ?_ 0 _ rfl; (with_reducible repeat (first | refine blk_drewN ?_ _ | refine blk_drew ?_ | refine blk_alloc ?_ _)); exact BK232.out) NB232_0.out (by simp)); have n2_ := Aside0.mk (KeepBut.trans (by repeat (first | (with_reducible first | exact HK.out | apply KeepBut.set_ | apply keep_drewN | apply keep_drew | apply keep_alloc | refine keep_far ?_ GW231.out _ | refine keep_far ?_ GW232.out _) | exact HK.out)) hk (.inl rfl)); have n3_ := Aside0.mk (hb); have n4_ := Aside0.mk (hi); clear BK231; clear BK232; clear HK; clear HB; clear HI0; have BK231 := n0_; have BK232 := n1_; have HK := n2_; have HB := n3_; have HI0 := n4_; clear n0_ n1_ n2_ n3_ n4_; (try clear hb); (try clear hb2); (try clear hk); (try clear hi); obtain ⟨HGz53, hgz53⟩ := HI0.out; have hcz53_0 := cellS49_0 HGz53; have hcz53_1 := cellS49_1 HGz53; have hfz53_0 := blk_frozen HGz53 0; have hfz53_1 := blk_frozen HGz53 1; clear HGz53 hgz53; have hcz54_0 : w52.cell? ⟨gb232, 0, none⟩ = some (.int .i64 3) := (blk_cell BK232.out 0).trans rfl; have hcz54_1 : w52.cell? ⟨gb232, 1, none⟩ = some (.int .i64 s0_1) := (blk_cell BK232.out 1).trans rfl; have hcz54_2 : w52.cell? ⟨gb232, 2, none⟩ = some (.int .i64 0) := (blk_cell BK232.out 2).trans rfl; have hcz54_3 : w52.cell? ⟨gb232, 3, none⟩ = some (.slice none 0 0) := (blk_cell BK232.out 3).trans rfl; have hcz54_4 : w52.cell? ⟨gb232, 4, none⟩ = some (.slice none 0 0) := (blk_cell BK232.out 4).trans rfl; have hfz54_0 := blk_frozen BK232.out 0; have hfz54_1 := blk_frozen BK232.out 1; have hfz54_2 := blk_frozen BK232.out 2; have hfz54_3 := blk_frozen BK232.out 3; have hfz54_4 := blk_frozen BK232.out 4; have hnb55 := NB231_0.out; have hnc55 := NB0_231.out; have hcz56_0 : w52.cell? ⟨gb231, 0, none⟩ = some (.int .i64 0) := (blk_cell BK231.out 0).trans rfl; have hcz56_1 : w52.cell? ⟨gb231, 1, none⟩ = some (.int .i64 0) := (blk_cell BK231.out 1).trans rfl; have hcz56_2 : w52.cell? ⟨gb231, 2, none⟩ = some (.int .i64 0) := (blk_cell BK231.out 2).trans rfl; have hcz56_3 : w52.cell? ⟨gb231, 3, none⟩ = some (.slice none 0 0) := (blk_cell BK231.out 3).trans rfl; have hcz56_4 : w52.cell? ⟨gb231, 4, none⟩ = some (.slice none 0 0) := (blk_cell BK231.out 4).trans rfl; have hfz56_0 := blk_frozen BK231.out 0; have hfz56_1 := blk_frozen BK231.out 1; have hfz56_2 := blk_frozen BK231.out 2; have hfz56_3 := blk_frozen BK231.out 3; have hfz56_4 := blk_frozen BK231.out 4))
              refine bodyPost_ret (results_ct rfl _ _ gb231 28 #[.int .i64 3, .int .i64 s0_1, .int .i64 t256, .slice none 0 0, .slice none 0 0] (0, 0) _ rfl (by (with_reducible repeat (first | refine blk_drewN ?_ _ | refine blk_drew ?_ | refine blk_alloc ?_ _)); refine blk_put (cs := #[.int .i64 3, .int .i64 s0_1, .int .i64 t256, .slice none 0 0, .slice none 0 0]) ?_ 4 _ rfl; (with_reducible repeat (first | refine blk_drewN ?_ _ | refine blk_drew ?_ | refine blk_alloc ?_ _)); refine blk_put (cs := #[.int .i64 3, .int .i64 s0_1, .int .i64 t256, .slice none 0 0, .slice none 0 0]) ?_ 3 _ rfl; (with_reducible repeat (first | refine blk_drewN ?_ _ | refine blk_drew ?_ | refine blk_alloc ?_ _)); refine blk_put (cs := #[.int .i64 3, .int .i64 s0_1, .int .i64 0, .slice none 0 0, .slice none 0 0]) ?_ 2 _ rfl; (with_reducible repeat (first | refine blk_drewN ?_ _ | refine blk_drew ?_ | refine blk_alloc ?_ _)); refine blk_put (cs := #[.int .i64 3, .int .i64 0, .int .i64 0, .slice none 0 0, .slice none 0 0]) ?_ 1 _ rfl; (with_reducible repeat (first | refine blk_drewN ?_ _ | refine blk_drew ?_ | refine blk_alloc ?_ _)); refine blk_put (cs := #[.int .i64 0, .int .i64 0, .int .i64 0, .slice none 0 0, .slice none 0 0]) ?_ 0 _ rfl; (with_reducible repeat (first | refine blk_drewN ?_ _ | refine blk_drew ?_ | refine blk_alloc ?_ _)); refine blk_far ?_ NB231_232.out _; (with_reducible repeat (first | refine blk_drewN ?_ _ | refine blk_drew ?_ | refine blk_alloc ?_ _)); exact BK231.out) Try.underlying28 rfl (by kernel_rfl)) rfl ?_
              exact ⟨_, _, by first | rfl | (simp [errW_none, errW_some] <;> rfl) | (simp [*, errW_none, errW_some] <;> rfl), by first | exact Kd.R_nil _ _ _ _ _ | exact Kd.N_nil _ _ _ _ _ | exact Kd.V_nil _ _ _ _ _ | exact Kd.Q_nil _ _ _ _ _ | exact Kd.S_nil _ _ _ _ _, by first | exact Kd.R_nil _ _ _ _ _ | exact Kd.N_nil _ _ _ _ _ | exact Kd.V_nil _ _ _ _ _ | exact Kd.Q_nil _ _ _ _ _ | exact Kd.S_nil _ _ _ _ _, by repeat (first | (with_reducible first | exact HI0.out | apply IsS49.alloc | apply IsS49.drewN | apply IsS49.drew | apply IsS49.set_0 | apply IsS49.set_1 | refine IsS49.far ?_ NB0_231.out _ | refine IsS49.far ?_ NB0_232.out _) | exact HI0.out), by repeat (first | (with_reducible first | exact HB.out | apply below_alloc | apply pw_below_drewN | apply below_drew1 | refine below_set ?_ (IsS49.ge HI0.out) | refine below_set ?_ GE231.out | refine below_set ?_ GE232.out) | exact HB.out), by repeat (first | (with_reducible first | exact HK.out | apply KeepBut.set_ | apply keep_drewN | apply keep_drew | apply keep_alloc | refine keep_far ?_ GW231.out _ | refine keep_far ?_ GW232.out _) | exact HK.out)⟩
            · replace c47 := Bool.eq_false_iff.mpr c47
              subst c47
              have H1 : ((spec_reader_word.f t234 t235 (⟨#[110, 117, 108, 108]⟩ : ByteArray)).bind fun bt257 => (if bt257.1 = true then (some (0, s0_1, bt257.2.2, ([] : List (S66)), ([] : List (S28)), true, bt257.2.1, bt257.2.2)) else ((spec_reader_word.f bt257.2.1 bt257.2.2 (⟨#[102, 97, 108, 115, 101]⟩ : ByteArray)).bind fun bt260 => (if bt260.1 = true then (some (1, s0_1, bt260.2.2, ([] : List (S66)), ([] : List (S28)), true, bt260.2.1, bt260.2.2)) else ((spec_reader_word.f bt260.2.1 bt260.2.2 (⟨#[116, 114, 117, 101]⟩ : ByteArray)).bind fun bt263 => (if bt263.1 = true then (some (2, s0_1, bt263.2.2, ([] : List (S66)), ([] : List (S28)), true, bt263.2.1, bt263.2.2)) else (some (0, s0_1, bt263.2.2, ([] : List (S66)), ([] : List (S28)), false, bt263.2.1, bt263.2.2)))))))) = some (r1, r2, r3, r4, r5, r6, r7, r8) := by rw [if_neg (show ¬ (false = true) by decide)] at H; exact H
              clear H
              have H := H1
              clear H1
              replace H := Option.bind_eq_some_iff.mp H
              obtain ⟨⟨t257, t258, t259⟩, A570, H⟩ := H
              replace H : (if t257 = true then (some (0, s0_1, t259, ([] : List (S66)), ([] : List (S28)), true, t258, t259)) else ((spec_reader_word.f t258 t259 (⟨#[102, 97, 108, 115, 101]⟩ : ByteArray)).bind fun bt260 => (if bt260.1 = true then (some (1, s0_1, bt260.2.2, ([] : List (S66)), ([] : List (S28)), true, bt260.2.1, bt260.2.2)) else ((spec_reader_word.f bt260.2.1 bt260.2.2 (⟨#[116, 114, 117, 101]⟩ : ByteArray)).bind fun bt263 => (if bt263.1 = true then (some (2, s0_1, bt263.2.2, ([] : List (S66)), ([] : List (S28)), true, bt263.2.1, bt263.2.2)) else (some (0, s0_1, bt263.2.2, ([] : List (S66)), ([] : List (S28)), false, bt263.2.1, bt263.2.2))))))) = some (r1, r2, r3, r4, r5, r6, r7, r8) := H
              have A57 := Aside0.mk A570
              clear A570
              have HC58 := Aside0.mk H
              clear H
              go_upto_if 56 with (first | ((with_reducible refine gate_callee (f := 28) rfl ?_); refine goesL_ (some 58) rfl rfl Try.func28 (by kernel_rfl) rfl #[.pointer (some ⟨g, 0, none⟩), .string (⟨#[110, 117, 108, 108]⟩ : ByteArray)] rfl (by (try simp only [List.map_toArray, List.map_cons, List.map_nil]); first | done | rfl | (simp only [List.length_drop, List.length_take]; rfl)) ?_; (with_reducible refine (spec_reader_word.calls g t234 t235 (⟨#[110, 117, 108, 108]⟩ : ByteArray) t257 t258 t259 w0 _ ?side1 ?side2 A57.out).mono ?_); (case side1 => repeat (first | (with_reducible first | exact HI0.out | apply IsS49.alloc | apply IsS49.drewN | apply IsS49.drew | apply IsS49.set_0 | apply IsS49.set_1 | refine IsS49.far ?_ NB0_231.out _ | refine IsS49.far ?_ NB0_232.out _) | exact HI0.out)); (case side2 => repeat (first | (with_reducible first | exact HB.out | apply below_alloc | apply pw_below_drewN | apply below_drew1 | refine below_set ?_ (IsS49.ge HI0.out) | refine below_set ?_ GE231.out | refine below_set ?_ GE232.out) | exact HB.out)); rintro e w59 ⟨rfl, hi, hb, hk⟩; refine ⟨_, rfl, ?_⟩; have n0_ := Aside0.mk (KeepBut.blk hk (g' := gb231) (o := .cells #[.int .i64 0, .int .i64 0, .int .i64 0, .slice none 0 0, .slice none 0 0] 28 (0, 0)) (by (with_reducible repeat (first | refine blk_drewN ?_ _ | refine blk_drew ?_ | refine blk_alloc ?_ _)); exact BK231.out) NB231_0.out (by simp)); have n1_ := Aside0.mk (KeepBut.blk hk (g' := gb232) (o := .cells #[.int .i64 0, .int .i64 s0_1, .int .i64 0, .slice none 0 0, .slice none 0 0] 28 (0, 0)) (by (with_reducible repeat (first | refine blk_drewN ?_ _ | refine blk_drew ?_ | refine blk_alloc ?_ _)); exact BK232.out) NB232_0.out (by simp)); have n2_ := Aside0.mk (KeepBut.trans (by repeat (first | (with_reducible first | exact HK.out | apply KeepBut.set_ | apply keep_drewN | apply keep_drew | apply keep_alloc | refine keep_far ?_ GW231.out _ | refine keep_far ?_ GW232.out _) | exact HK.out)) hk (.inl rfl)); have n3_ := Aside0.mk (hb); have n4_ := Aside0.mk (hi); clear BK231; clear BK232; clear HK; clear HB; clear HI0; have BK231 := n0_; have BK232 := n1_; have HK := n2_; have HB := n3_; have HI0 := n4_; clear n0_ n1_ n2_ n3_ n4_; (try clear hb); (try clear hb2); (try clear hk); (try clear hi)))
              (try simp only [Act.put, List.setIfInBounds_toArray, List.set_cons_zero, List.set_cons_succ])
              have H := HC58.out
              clear HC58
              by_cases c60 : t257 = true
              · subst c60
                have H1 : (some (0, s0_1, t259, ([] : List (S66)), ([] : List (S28)), true, t258, t259)) = some (r1, r2, r3, r4, r5, r6, r7, r8) := by rw [if_pos rfl] at H; exact H
                clear H
                have H := H1
                clear H1
                simp only [Option.some.injEq, Prod.mk.injEq] at H
                obtain ⟨rfl, rfl, rfl, rfl, rfl, rfl, rfl, rfl⟩ := H
                have hnb61 := NB232_231.out
                have hnc61 := NB231_232.out
                have hnb62 := NB232_0.out
                have hnc62 := NB0_232.out
                have hcz63_0 : w59.cell? ⟨gb232, 0, none⟩ = some (.int .i64 0) := (blk_cell BK232.out 0).trans rfl
                have hcz63_1 : w59.cell? ⟨gb232, 1, none⟩ = some (.int .i64 s0_1) := (blk_cell BK232.out 1).trans rfl
                have hcz63_2 : w59.cell? ⟨gb232, 2, none⟩ = some (.int .i64 0) := (blk_cell BK232.out 2).trans rfl
                have hcz63_3 : w59.cell? ⟨gb232, 3, none⟩ = some (.slice none 0 0) := (blk_cell BK232.out 3).trans rfl
                have hcz63_4 : w59.cell? ⟨gb232, 4, none⟩ = some (.slice none 0 0) := (blk_cell BK232.out 4).trans rfl
                have hfz63_0 := blk_frozen BK232.out 0
                have hfz63_1 := blk_frozen BK232.out 1
                have hfz63_2 := blk_frozen BK232.out 2
                have hfz63_3 := blk_frozen BK232.out 3
                have hfz63_4 := blk_frozen BK232.out 4
                obtain ⟨HGz64, hgz64⟩ := HI0.out
                have hcz64_0 := cellS49_0 HGz64
                have hcz64_1 := cellS49_1 HGz64
                have hfz64_0 := blk_frozen HGz64 0
                have hfz64_1 := blk_frozen HGz64 1
                clear HGz64 hgz64
                have hnb65 := NB231_0.out
                have hnc65 := NB0_231.out
                have hcz66_0 : w59.cell? ⟨gb231, 0, none⟩ = some (.int .i64 0) := (blk_cell BK231.out 0).trans rfl
                have hcz66_1 : w59.cell? ⟨gb231, 1, none⟩ = some (.int .i64 0) := (blk_cell BK231.out 1).trans rfl
                have hcz66_2 : w59.cell? ⟨gb231, 2, none⟩ = some (.int .i64 0) := (blk_cell BK231.out 2).trans rfl
                have hcz66_3 : w59.cell? ⟨gb231, 3, none⟩ = some (.slice none 0 0) := (blk_cell BK231.out 3).trans rfl
                have hcz66_4 : w59.cell? ⟨gb231, 4, none⟩ = some (.slice none 0 0) := (blk_cell BK231.out 4).trans rfl
                have hfz66_0 := blk_frozen BK231.out 0
                have hfz66_1 := blk_frozen BK231.out 1
                have hfz66_2 := blk_frozen BK231.out 2
                have hfz66_3 := blk_frozen BK231.out 3
                have hfz66_4 := blk_frozen BK231.out 4
                go_wp2
                refine bodyPost_ret (results_ct rfl _ _ gb231 28 #[.int .i64 0, .int .i64 s0_1, .int .i64 t259, .slice none 0 0, .slice none 0 0] (0, 0) _ rfl (by (with_reducible repeat (first | refine blk_drewN ?_ _ | refine blk_drew ?_ | refine blk_alloc ?_ _)); refine blk_put (cs := #[.int .i64 0, .int .i64 s0_1, .int .i64 t259, .slice none 0 0, .slice none 0 0]) ?_ 4 _ rfl; (with_reducible repeat (first | refine blk_drewN ?_ _ | refine blk_drew ?_ | refine blk_alloc ?_ _)); refine blk_put (cs := #[.int .i64 0, .int .i64 s0_1, .int .i64 t259, .slice none 0 0, .slice none 0 0]) ?_ 3 _ rfl; (with_reducible repeat (first | refine blk_drewN ?_ _ | refine blk_drew ?_ | refine blk_alloc ?_ _)); refine blk_put (cs := #[.int .i64 0, .int .i64 s0_1, .int .i64 0, .slice none 0 0, .slice none 0 0]) ?_ 2 _ rfl; (with_reducible repeat (first | refine blk_drewN ?_ _ | refine blk_drew ?_ | refine blk_alloc ?_ _)); refine blk_put (cs := #[.int .i64 0, .int .i64 0, .int .i64 0, .slice none 0 0, .slice none 0 0]) ?_ 1 _ rfl; (with_reducible repeat (first | refine blk_drewN ?_ _ | refine blk_drew ?_ | refine blk_alloc ?_ _)); refine blk_put (cs := #[.int .i64 0, .int .i64 0, .int .i64 0, .slice none 0 0, .slice none 0 0]) ?_ 0 _ rfl; (with_reducible repeat (first | refine blk_drewN ?_ _ | refine blk_drew ?_ | refine blk_alloc ?_ _)); refine blk_far ?_ NB231_232.out _; (with_reducible repeat (first | refine blk_drewN ?_ _ | refine blk_drew ?_ | refine blk_alloc ?_ _)); refine blk_far ?_ NB231_232.out _; (with_reducible repeat (first | refine blk_drewN ?_ _ | refine blk_drew ?_ | refine blk_alloc ?_ _)); exact BK231.out) Try.underlying28 rfl (by kernel_rfl)) rfl ?_
                exact ⟨_, _, by first | rfl | (simp [errW_none, errW_some] <;> rfl) | (simp [*, errW_none, errW_some] <;> rfl), by first | exact Kd.R_nil _ _ _ _ _ | exact Kd.N_nil _ _ _ _ _ | exact Kd.V_nil _ _ _ _ _ | exact Kd.Q_nil _ _ _ _ _ | exact Kd.S_nil _ _ _ _ _, by first | exact Kd.R_nil _ _ _ _ _ | exact Kd.N_nil _ _ _ _ _ | exact Kd.V_nil _ _ _ _ _ | exact Kd.Q_nil _ _ _ _ _ | exact Kd.S_nil _ _ _ _ _, by repeat (first | (with_reducible first | exact HI0.out | apply IsS49.alloc | apply IsS49.drewN | apply IsS49.drew | apply IsS49.set_0 | apply IsS49.set_1 | refine IsS49.far ?_ NB0_231.out _ | refine IsS49.far ?_ NB0_232.out _) | exact HI0.out), by repeat (first | (with_reducible first | exact HB.out | apply below_alloc | apply pw_below_drewN | apply below_drew1 | refine below_set ?_ (IsS49.ge HI0.out) | refine below_set ?_ GE231.out | refine below_set ?_ GE232.out) | exact HB.out), by repeat (first | (with_reducible first | exact HK.out | apply KeepBut.set_ | apply keep_drewN | apply keep_drew | apply keep_alloc | refine keep_far ?_ GW231.out _ | refine keep_far ?_ GW232.out _) | exact HK.out)⟩
              · replace c60 := Bool.eq_false_iff.mpr c60
                subst c60
                have H1 : ((spec_reader_word.f t258 t259 (⟨#[102, 97, 108, 115, 101]⟩ : ByteArray)).bind fun bt260 => (if bt260.1 = true then (some (1, s0_1, bt260.2.2, ([] : List (S66)), ([] : List (S28)), true, bt260.2.1, bt260.2.2)) else ((spec_reader_word.f bt260.2.1 bt260.2.2 (⟨#[116, 114, 117, 101]⟩ : ByteArray)).bind fun bt263 => (if bt263.1 = true then (some (2, s0_1, bt263.2.2, ([] : List (S66)), ([] : List (S28)), true, bt263.2.1, bt263.2.2)) else (some (0, s0_1, bt263.2.2, ([] : List (S66)), ([] : List (S28)), false, bt263.2.1, bt263.2.2)))))) = some (r1, r2, r3, r4, r5, r6, r7, r8) := by rw [if_neg (show ¬ (false = true) by decide)] at H; exact H
                clear H
                have H := H1
                clear H1
                replace H := Option.bind_eq_some_iff.mp H
                obtain ⟨⟨t260, t261, t262⟩, A670, H⟩ := H
                replace H : (if t260 = true then (some (1, s0_1, t262, ([] : List (S66)), ([] : List (S28)), true, t261, t262)) else ((spec_reader_word.f t261 t262 (⟨#[116, 114, 117, 101]⟩ : ByteArray)).bind fun bt263 => (if bt263.1 = true then (some (2, s0_1, bt263.2.2, ([] : List (S66)), ([] : List (S28)), true, bt263.2.1, bt263.2.2)) else (some (0, s0_1, bt263.2.2, ([] : List (S66)), ([] : List (S28)), false, bt263.2.1, bt263.2.2))))) = some (r1, r2, r3, r4, r5, r6, r7, r8) := H
                have A67 := Aside0.mk A670
                clear A670
                have HC68 := Aside0.mk H
                clear H
                go_upto_if 60 with (first | ((with_reducible refine gate_callee (f := 28) rfl ?_); refine goesL_ (some 62) rfl rfl Try.func28 (by kernel_rfl) rfl #[.pointer (some ⟨g, 0, none⟩), .string (⟨#[102, 97, 108, 115, 101]⟩ : ByteArray)] rfl (by (try simp only [List.map_toArray, List.map_cons, List.map_nil]); first | done | rfl | (simp only [List.length_drop, List.length_take]; rfl)) ?_; (with_reducible refine (spec_reader_word.calls g t258 t259 (⟨#[102, 97, 108, 115, 101]⟩ : ByteArray) t260 t261 t262 w0 _ ?side1 ?side2 A67.out).mono ?_); (case side1 => repeat (first | (with_reducible first | exact HI0.out | apply IsS49.alloc | apply IsS49.drewN | apply IsS49.drew | apply IsS49.set_0 | apply IsS49.set_1 | refine IsS49.far ?_ NB0_231.out _ | refine IsS49.far ?_ NB0_232.out _) | exact HI0.out)); (case side2 => repeat (first | (with_reducible first | exact HB.out | apply below_alloc | apply pw_below_drewN | apply below_drew1 | refine below_set ?_ (IsS49.ge HI0.out) | refine below_set ?_ GE231.out | refine below_set ?_ GE232.out) | exact HB.out)); rintro e w69 ⟨rfl, hi, hb, hk⟩; refine ⟨_, rfl, ?_⟩; have n0_ := Aside0.mk (KeepBut.blk hk (g' := gb231) (o := .cells #[.int .i64 0, .int .i64 0, .int .i64 0, .slice none 0 0, .slice none 0 0] 28 (0, 0)) (by (with_reducible repeat (first | refine blk_drewN ?_ _ | refine blk_drew ?_ | refine blk_alloc ?_ _)); exact BK231.out) NB231_0.out (by simp)); have n1_ := Aside0.mk (KeepBut.blk hk (g' := gb232) (o := .cells #[.int .i64 0, .int .i64 s0_1, .int .i64 0, .slice none 0 0, .slice none 0 0] 28 (0, 0)) (by (with_reducible repeat (first | refine blk_drewN ?_ _ | refine blk_drew ?_ | refine blk_alloc ?_ _)); exact BK232.out) NB232_0.out (by simp)); have n2_ := Aside0.mk (KeepBut.trans (by repeat (first | (with_reducible first | exact HK.out | apply KeepBut.set_ | apply keep_drewN | apply keep_drew | apply keep_alloc | refine keep_far ?_ GW231.out _ | refine keep_far ?_ GW232.out _) | exact HK.out)) hk (.inl rfl)); have n3_ := Aside0.mk (hb); have n4_ := Aside0.mk (hi); clear BK231; clear BK232; clear HK; clear HB; clear HI0; have BK231 := n0_; have BK232 := n1_; have HK := n2_; have HB := n3_; have HI0 := n4_; clear n0_ n1_ n2_ n3_ n4_; (try clear hb); (try clear hb2); (try clear hk); (try clear hi)))
                (try simp only [Act.put, List.setIfInBounds_toArray, List.set_cons_zero, List.set_cons_succ])
                have H := HC68.out
                clear HC68
                by_cases c70 : t260 = true
                · subst c70
                  have H1 : (some (1, s0_1, t262, ([] : List (S66)), ([] : List (S28)), true, t261, t262)) = some (r1, r2, r3, r4, r5, r6, r7, r8) := by rw [if_pos rfl] at H; exact H
                  clear H
                  have H := H1
                  clear H1
                  simp only [Option.some.injEq, Prod.mk.injEq] at H
                  obtain ⟨rfl, rfl, rfl, rfl, rfl, rfl, rfl, rfl⟩ := H
                  have hnb71 := NB232_231.out
                  have hnc71 := NB231_232.out
                  have hnb72 := NB232_0.out
                  have hnc72 := NB0_232.out
                  have hcz73_0 : w69.cell? ⟨gb232, 0, none⟩ = some (.int .i64 0) := (blk_cell BK232.out 0).trans rfl
                  have hcz73_1 : w69.cell? ⟨gb232, 1, none⟩ = some (.int .i64 s0_1) := (blk_cell BK232.out 1).trans rfl
                  have hcz73_2 : w69.cell? ⟨gb232, 2, none⟩ = some (.int .i64 0) := (blk_cell BK232.out 2).trans rfl
                  have hcz73_3 : w69.cell? ⟨gb232, 3, none⟩ = some (.slice none 0 0) := (blk_cell BK232.out 3).trans rfl
                  have hcz73_4 : w69.cell? ⟨gb232, 4, none⟩ = some (.slice none 0 0) := (blk_cell BK232.out 4).trans rfl
                  have hfz73_0 := blk_frozen BK232.out 0
                  have hfz73_1 := blk_frozen BK232.out 1
                  have hfz73_2 := blk_frozen BK232.out 2
                  have hfz73_3 := blk_frozen BK232.out 3
                  have hfz73_4 := blk_frozen BK232.out 4
                  obtain ⟨HGz74, hgz74⟩ := HI0.out
                  have hcz74_0 := cellS49_0 HGz74
                  have hcz74_1 := cellS49_1 HGz74
                  have hfz74_0 := blk_frozen HGz74 0
                  have hfz74_1 := blk_frozen HGz74 1
                  clear HGz74 hgz74
                  have hnb75 := NB231_0.out
                  have hnc75 := NB0_231.out
                  have hcz76_0 : w69.cell? ⟨gb231, 0, none⟩ = some (.int .i64 0) := (blk_cell BK231.out 0).trans rfl
                  have hcz76_1 : w69.cell? ⟨gb231, 1, none⟩ = some (.int .i64 0) := (blk_cell BK231.out 1).trans rfl
                  have hcz76_2 : w69.cell? ⟨gb231, 2, none⟩ = some (.int .i64 0) := (blk_cell BK231.out 2).trans rfl
                  have hcz76_3 : w69.cell? ⟨gb231, 3, none⟩ = some (.slice none 0 0) := (blk_cell BK231.out 3).trans rfl
                  have hcz76_4 : w69.cell? ⟨gb231, 4, none⟩ = some (.slice none 0 0) := (blk_cell BK231.out 4).trans rfl
                  have hfz76_0 := blk_frozen BK231.out 0
                  have hfz76_1 := blk_frozen BK231.out 1
                  have hfz76_2 := blk_frozen BK231.out 2
                  have hfz76_3 := blk_frozen BK231.out 3
                  have hfz76_4 := blk_frozen BK231.out 4
                  go_wp2
                  refine bodyPost_ret (results_ct rfl _ _ gb231 28 #[.int .i64 1, .int .i64 s0_1, .int .i64 t262, .slice none 0 0, .slice none 0 0] (0, 0) _ rfl (by (with_reducible repeat (first | refine blk_drewN ?_ _ | refine blk_drew ?_ | refine blk_alloc ?_ _)); refine blk_put (cs := #[.int .i64 1, .int .i64 s0_1, .int .i64 t262, .slice none 0 0, .slice none 0 0]) ?_ 4 _ rfl; (with_reducible repeat (first | refine blk_drewN ?_ _ | refine blk_drew ?_ | refine blk_alloc ?_ _)); refine blk_put (cs := #[.int .i64 1, .int .i64 s0_1, .int .i64 t262, .slice none 0 0, .slice none 0 0]) ?_ 3 _ rfl; (with_reducible repeat (first | refine blk_drewN ?_ _ | refine blk_drew ?_ | refine blk_alloc ?_ _)); refine blk_put (cs := #[.int .i64 1, .int .i64 s0_1, .int .i64 0, .slice none 0 0, .slice none 0 0]) ?_ 2 _ rfl; (with_reducible repeat (first | refine blk_drewN ?_ _ | refine blk_drew ?_ | refine blk_alloc ?_ _)); refine blk_put (cs := #[.int .i64 1, .int .i64 0, .int .i64 0, .slice none 0 0, .slice none 0 0]) ?_ 1 _ rfl; (with_reducible repeat (first | refine blk_drewN ?_ _ | refine blk_drew ?_ | refine blk_alloc ?_ _)); refine blk_put (cs := #[.int .i64 0, .int .i64 0, .int .i64 0, .slice none 0 0, .slice none 0 0]) ?_ 0 _ rfl; (with_reducible repeat (first | refine blk_drewN ?_ _ | refine blk_drew ?_ | refine blk_alloc ?_ _)); refine blk_far ?_ NB231_232.out _; (with_reducible repeat (first | refine blk_drewN ?_ _ | refine blk_drew ?_ | refine blk_alloc ?_ _)); refine blk_far ?_ NB231_232.out _; (with_reducible repeat (first | refine blk_drewN ?_ _ | refine blk_drew ?_ | refine blk_alloc ?_ _)); exact BK231.out) Try.underlying28 rfl (by kernel_rfl)) rfl ?_
                  exact ⟨_, _, by first | rfl | (simp [errW_none, errW_some] <;> rfl) | (simp [*, errW_none, errW_some] <;> rfl), by first | exact Kd.R_nil _ _ _ _ _ | exact Kd.N_nil _ _ _ _ _ | exact Kd.V_nil _ _ _ _ _ | exact Kd.Q_nil _ _ _ _ _ | exact Kd.S_nil _ _ _ _ _, by first | exact Kd.R_nil _ _ _ _ _ | exact Kd.N_nil _ _ _ _ _ | exact Kd.V_nil _ _ _ _ _ | exact Kd.Q_nil _ _ _ _ _ | exact Kd.S_nil _ _ _ _ _, by repeat (first | (with_reducible first | exact HI0.out | apply IsS49.alloc | apply IsS49.drewN | apply IsS49.drew | apply IsS49.set_0 | apply IsS49.set_1 | refine IsS49.far ?_ NB0_231.out _ | refine IsS49.far ?_ NB0_232.out _) | exact HI0.out), by repeat (first | (with_reducible first | exact HB.out | apply below_alloc | apply pw_below_drewN | apply below_drew1 | refine below_set ?_ (IsS49.ge HI0.out) | refine below_set ?_ GE231.out | refine below_set ?_ GE232.out) | exact HB.out), by repeat (first | (with_reducible first | exact HK.out | apply KeepBut.set_ | apply keep_drewN | apply keep_drew | apply keep_alloc | refine keep_far ?_ GW231.out _ | refine keep_far ?_ GW232.out _) | exact HK.out)⟩
                · replace c70 := Bool.eq_false_iff.mpr c70
                  subst c70
                  have H1 : ((spec_reader_word.f t261 t262 (⟨#[116, 114, 117, 101]⟩ : ByteArray)).bind fun bt263 => (if bt263.1 = true then (some (2, s0_1, bt263.2.2, ([] : List (S66)), ([] : List (S28)), true, bt263.2.1, bt263.2.2)) else (some (0, s0_1, bt263.2.2, ([] : List (S66)), ([] : List (S28)), false, bt263.2.1, bt263.2.2)))) = some (r1, r2, r3, r4, r5, r6, r7, r8) := by rw [if_neg (show ¬ (false = true) by decide)] at H; exact H
                  clear H
                  have H := H1
                  clear H1
                  replace H := Option.bind_eq_some_iff.mp H
                  obtain ⟨⟨t263, t264, t265⟩, A770, H⟩ := H
                  replace H : (if t263 = true then (some (2, s0_1, t265, ([] : List (S66)), ([] : List (S28)), true, t264, t265)) else (some (0, s0_1, t265, ([] : List (S66)), ([] : List (S28)), false, t264, t265))) = some (r1, r2, r3, r4, r5, r6, r7, r8) := H
                  have A77 := Aside0.mk A770
                  clear A770
                  have HC78 := Aside0.mk H
                  clear H
                  go_upto_if 64 with (first | ((with_reducible refine gate_callee (f := 28) rfl ?_); refine goesL_ (some 66) rfl rfl Try.func28 (by kernel_rfl) rfl #[.pointer (some ⟨g, 0, none⟩), .string (⟨#[116, 114, 117, 101]⟩ : ByteArray)] rfl (by (try simp only [List.map_toArray, List.map_cons, List.map_nil]); first | done | rfl | (simp only [List.length_drop, List.length_take]; rfl)) ?_; (with_reducible refine (spec_reader_word.calls g t261 t262 (⟨#[116, 114, 117, 101]⟩ : ByteArray) t263 t264 t265 w0 _ ?side1 ?side2 A77.out).mono ?_); (case side1 => repeat (first | (with_reducible first | exact HI0.out | apply IsS49.alloc | apply IsS49.drewN | apply IsS49.drew | apply IsS49.set_0 | apply IsS49.set_1 | refine IsS49.far ?_ NB0_231.out _ | refine IsS49.far ?_ NB0_232.out _) | exact HI0.out)); (case side2 => repeat (first | (with_reducible first | exact HB.out | apply below_alloc | apply pw_below_drewN | apply below_drew1 | refine below_set ?_ (IsS49.ge HI0.out) | refine below_set ?_ GE231.out | refine below_set ?_ GE232.out) | exact HB.out)); rintro e w79 ⟨rfl, hi, hb, hk⟩; refine ⟨_, rfl, ?_⟩; have n0_ := Aside0.mk (KeepBut.blk hk (g' := gb231) (o := .cells #[.int .i64 0, .int .i64 0, .int .i64 0, .slice none 0 0, .slice none 0 0] 28 (0, 0)) (by (with_reducible repeat (first | refine blk_drewN ?_ _ | refine blk_drew ?_ | refine blk_alloc ?_ _)); exact BK231.out) NB231_0.out (by simp)); have n1_ := Aside0.mk (KeepBut.blk hk (g' := gb232) (o := .cells #[.int .i64 0, .int .i64 s0_1, .int .i64 0, .slice none 0 0, .slice none 0 0] 28 (0, 0)) (by (with_reducible repeat (first | refine blk_drewN ?_ _ | refine blk_drew ?_ | refine blk_alloc ?_ _)); exact BK232.out) NB232_0.out (by simp)); have n2_ := Aside0.mk (KeepBut.trans (by repeat (first | (with_reducible first | exact HK.out | apply KeepBut.set_ | apply keep_drewN | apply keep_drew | apply keep_alloc | refine keep_far ?_ GW231.out _ | refine keep_far ?_ GW232.out _) | exact HK.out)) hk (.inl rfl)); have n3_ := Aside0.mk (hb); have n4_ := Aside0.mk (hi); clear BK231; clear BK232; clear HK; clear HB; clear HI0; have BK231 := n0_; have BK232 := n1_; have HK := n2_; have HB := n3_; have HI0 := n4_; clear n0_ n1_ n2_ n3_ n4_; (try clear hb); (try clear hb2); (try clear hk); (try clear hi)))
                  (try simp only [Act.put, List.setIfInBounds_toArray, List.set_cons_zero, List.set_cons_succ])
                  have H := HC78.out
                  clear HC78
                  by_cases c80 : t263 = true
                  · subst c80
                    have H1 : (some (2, s0_1, t265, ([] : List (S66)), ([] : List (S28)), true, t264, t265)) = some (r1, r2, r3, r4, r5, r6, r7, r8) := by rw [if_pos rfl] at H; exact H
                    clear H
                    have H := H1
                    clear H1
                    simp only [Option.some.injEq, Prod.mk.injEq] at H
                    obtain ⟨rfl, rfl, rfl, rfl, rfl, rfl, rfl, rfl⟩ := H
                    have hnb81 := NB232_231.out
                    have hnc81 := NB231_232.out
                    have hnb82 := NB232_0.out
                    have hnc82 := NB0_232.out
                    have hcz83_0 : w79.cell? ⟨gb232, 0, none⟩ = some (.int .i64 0) := (blk_cell BK232.out 0).trans rfl
                    have hcz83_1 : w79.cell? ⟨gb232, 1, none⟩ = some (.int .i64 s0_1) := (blk_cell BK232.out 1).trans rfl
                    have hcz83_2 : w79.cell? ⟨gb232, 2, none⟩ = some (.int .i64 0) := (blk_cell BK232.out 2).trans rfl
                    have hcz83_3 : w79.cell? ⟨gb232, 3, none⟩ = some (.slice none 0 0) := (blk_cell BK232.out 3).trans rfl
                    have hcz83_4 : w79.cell? ⟨gb232, 4, none⟩ = some (.slice none 0 0) := (blk_cell BK232.out 4).trans rfl
                    have hfz83_0 := blk_frozen BK232.out 0
                    have hfz83_1 := blk_frozen BK232.out 1
                    have hfz83_2 := blk_frozen BK232.out 2
                    have hfz83_3 := blk_frozen BK232.out 3
                    have hfz83_4 := blk_frozen BK232.out 4
                    obtain ⟨HGz84, hgz84⟩ := HI0.out
                    have hcz84_0 := cellS49_0 HGz84
                    have hcz84_1 := cellS49_1 HGz84
                    have hfz84_0 := blk_frozen HGz84 0
                    have hfz84_1 := blk_frozen HGz84 1
                    clear HGz84 hgz84
                    have hnb85 := NB231_0.out
                    have hnc85 := NB0_231.out
                    have hcz86_0 : w79.cell? ⟨gb231, 0, none⟩ = some (.int .i64 0) := (blk_cell BK231.out 0).trans rfl
                    have hcz86_1 : w79.cell? ⟨gb231, 1, none⟩ = some (.int .i64 0) := (blk_cell BK231.out 1).trans rfl
                    have hcz86_2 : w79.cell? ⟨gb231, 2, none⟩ = some (.int .i64 0) := (blk_cell BK231.out 2).trans rfl
                    have hcz86_3 : w79.cell? ⟨gb231, 3, none⟩ = some (.slice none 0 0) := (blk_cell BK231.out 3).trans rfl
                    have hcz86_4 : w79.cell? ⟨gb231, 4, none⟩ = some (.slice none 0 0) := (blk_cell BK231.out 4).trans rfl
                    have hfz86_0 := blk_frozen BK231.out 0
                    have hfz86_1 := blk_frozen BK231.out 1
                    have hfz86_2 := blk_frozen BK231.out 2
                    have hfz86_3 := blk_frozen BK231.out 3
                    have hfz86_4 := blk_frozen BK231.out 4
                    go_wp2
                    refine bodyPost_ret (results_ct rfl _ _ gb231 28 #[.int .i64 2, .int .i64 s0_1, .int .i64 t265, .slice none 0 0, .slice none 0 0] (0, 0) _ rfl (by (with_reducible repeat (first | refine blk_drewN ?_ _ | refine blk_drew ?_ | refine blk_alloc ?_ _)); refine blk_put (cs := #[.int .i64 2, .int .i64 s0_1, .int .i64 t265, .slice none 0 0, .slice none 0 0]) ?_ 4 _ rfl; (with_reducible repeat (first | refine blk_drewN ?_ _ | refine blk_drew ?_ | refine blk_alloc ?_ _)); refine blk_put (cs := #[.int .i64 2, .int .i64 s0_1, .int .i64 t265, .slice none 0 0, .slice none 0 0]) ?_ 3 _ rfl; (with_reducible repeat (first | refine blk_drewN ?_ _ | refine blk_drew ?_ | refine blk_alloc ?_ _)); refine blk_put (cs := #[.int .i64 2, .int .i64 s0_1, .int .i64 0, .slice none 0 0, .slice none 0 0]) ?_ 2 _ rfl; (with_reducible repeat (first | refine blk_drewN ?_ _ | refine blk_drew ?_ | refine blk_alloc ?_ _)); refine blk_put (cs := #[.int .i64 2, .int .i64 0, .int .i64 0, .slice none 0 0, .slice none 0 0]) ?_ 1 _ rfl; (with_reducible repeat (first | refine blk_drewN ?_ _ | refine blk_drew ?_ | refine blk_alloc ?_ _)); refine blk_put (cs := #[.int .i64 0, .int .i64 0, .int .i64 0, .slice none 0 0, .slice none 0 0]) ?_ 0 _ rfl; (with_reducible repeat (first | refine blk_drewN ?_ _ | refine blk_drew ?_ | refine blk_alloc ?_ _)); refine blk_far ?_ NB231_232.out _; (with_reducible repeat (first | refine blk_drewN ?_ _ | refine blk_drew ?_ | refine blk_alloc ?_ _)); refine blk_far ?_ NB231_232.out _; (with_reducible repeat (first | refine blk_drewN ?_ _ | refine blk_drew ?_ | refine blk_alloc ?_ _)); exact BK231.out) Try.underlying28 rfl (by kernel_rfl)) rfl ?_
                    exact ⟨_, _, by first | rfl | (simp [errW_none, errW_some] <;> rfl) | (simp [*, errW_none, errW_some] <;> rfl), by first | exact Kd.R_nil _ _ _ _ _ | exact Kd.N_nil _ _ _ _ _ | exact Kd.V_nil _ _ _ _ _ | exact Kd.Q_nil _ _ _ _ _ | exact Kd.S_nil _ _ _ _ _, by first | exact Kd.R_nil _ _ _ _ _ | exact Kd.N_nil _ _ _ _ _ | exact Kd.V_nil _ _ _ _ _ | exact Kd.Q_nil _ _ _ _ _ | exact Kd.S_nil _ _ _ _ _, by repeat (first | (with_reducible first | exact HI0.out | apply IsS49.alloc | apply IsS49.drewN | apply IsS49.drew | apply IsS49.set_0 | apply IsS49.set_1 | refine IsS49.far ?_ NB0_231.out _ | refine IsS49.far ?_ NB0_232.out _) | exact HI0.out), by repeat (first | (with_reducible first | exact HB.out | apply below_alloc | apply pw_below_drewN | apply below_drew1 | refine below_set ?_ (IsS49.ge HI0.out) | refine below_set ?_ GE231.out | refine below_set ?_ GE232.out) | exact HB.out), by repeat (first | (with_reducible first | exact HK.out | apply KeepBut.set_ | apply keep_drewN | apply keep_drew | apply keep_alloc | refine keep_far ?_ GW231.out _ | refine keep_far ?_ GW232.out _) | exact HK.out)⟩
                  · replace c80 := Bool.eq_false_iff.mpr c80
                    subst c80
                    have H1 : (some (0, s0_1, t265, ([] : List (S66)), ([] : List (S28)), false, t264, t265)) = some (r1, r2, r3, r4, r5, r6, r7, r8) := by rw [if_neg (show ¬ (false = true) by decide)] at H; exact H
                    clear H
                    have H := H1
                    clear H1
                    simp only [Option.some.injEq, Prod.mk.injEq] at H
                    obtain ⟨rfl, rfl, rfl, rfl, rfl, rfl, rfl, rfl⟩ := H
                    obtain ⟨HGz87, hgz87⟩ := HI0.out
                    have hcz87_0 := cellS49_0 HGz87
                    have hcz87_1 := cellS49_1 HGz87
                    have hfz87_0 := blk_frozen HGz87 0
                    have hfz87_1 := blk_frozen HGz87 1
                    clear HGz87 hgz87
                    have hnb88 := NB232_231.out
                    have hnc88 := NB231_232.out
                    have hnb89 := NB232_0.out
                    have hnc89 := NB0_232.out
                    have hcz90_0 : w79.cell? ⟨gb232, 0, none⟩ = some (.int .i64 0) := (blk_cell BK232.out 0).trans rfl
                    have hcz90_1 : w79.cell? ⟨gb232, 1, none⟩ = some (.int .i64 s0_1) := (blk_cell BK232.out 1).trans rfl
                    have hcz90_2 : w79.cell? ⟨gb232, 2, none⟩ = some (.int .i64 0) := (blk_cell BK232.out 2).trans rfl
                    have hcz90_3 : w79.cell? ⟨gb232, 3, none⟩ = some (.slice none 0 0) := (blk_cell BK232.out 3).trans rfl
                    have hcz90_4 : w79.cell? ⟨gb232, 4, none⟩ = some (.slice none 0 0) := (blk_cell BK232.out 4).trans rfl
                    have hfz90_0 := blk_frozen BK232.out 0
                    have hfz90_1 := blk_frozen BK232.out 1
                    have hfz90_2 := blk_frozen BK232.out 2
                    have hfz90_3 := blk_frozen BK232.out 3
                    have hfz90_4 := blk_frozen BK232.out 4
                    have hnb91 := NB231_0.out
                    have hnc91 := NB0_231.out
                    have hcz92_0 : w79.cell? ⟨gb231, 0, none⟩ = some (.int .i64 0) := (blk_cell BK231.out 0).trans rfl
                    have hcz92_1 : w79.cell? ⟨gb231, 1, none⟩ = some (.int .i64 0) := (blk_cell BK231.out 1).trans rfl
                    have hcz92_2 : w79.cell? ⟨gb231, 2, none⟩ = some (.int .i64 0) := (blk_cell BK231.out 2).trans rfl
                    have hcz92_3 : w79.cell? ⟨gb231, 3, none⟩ = some (.slice none 0 0) := (blk_cell BK231.out 3).trans rfl
                    have hcz92_4 : w79.cell? ⟨gb231, 4, none⟩ = some (.slice none 0 0) := (blk_cell BK231.out 4).trans rfl
                    have hfz92_0 := blk_frozen BK231.out 0
                    have hfz92_1 := blk_frozen BK231.out 1
                    have hfz92_2 := blk_frozen BK231.out 2
                    have hfz92_3 := blk_frozen BK231.out 3
                    have hfz92_4 := blk_frozen BK231.out 4
                    go_wp2
                    refine bodyPost_ret (results_ct rfl _ _ gb231 28 #[.int .i64 0, .int .i64 s0_1, .int .i64 t265, .slice none 0 0, .slice none 0 0] (0, 0) _ rfl (by (with_reducible repeat (first | refine blk_drewN ?_ _ | refine blk_drew ?_ | refine blk_alloc ?_ _)); refine blk_put (cs := #[.int .i64 0, .int .i64 s0_1, .int .i64 t265, .slice none 0 0, .slice none 0 0]) ?_ 4 _ rfl; (with_reducible repeat (first | refine blk_drewN ?_ _ | refine blk_drew ?_ | refine blk_alloc ?_ _)); refine blk_put (cs := #[.int .i64 0, .int .i64 s0_1, .int .i64 t265, .slice none 0 0, .slice none 0 0]) ?_ 3 _ rfl; (with_reducible repeat (first | refine blk_drewN ?_ _ | refine blk_drew ?_ | refine blk_alloc ?_ _)); refine blk_put (cs := #[.int .i64 0, .int .i64 s0_1, .int .i64 0, .slice none 0 0, .slice none 0 0]) ?_ 2 _ rfl; (with_reducible repeat (first | refine blk_drewN ?_ _ | refine blk_drew ?_ | refine blk_alloc ?_ _)); refine blk_put (cs := #[.int .i64 0, .int .i64 0, .int .i64 0, .slice none 0 0, .slice none 0 0]) ?_ 1 _ rfl; (with_reducible repeat (first | refine blk_drewN ?_ _ | refine blk_drew ?_ | refine blk_alloc ?_ _)); refine blk_put (cs := #[.int .i64 0, .int .i64 0, .int .i64 0, .slice none 0 0, .slice none 0 0]) ?_ 0 _ rfl; (with_reducible repeat (first | refine blk_drewN ?_ _ | refine blk_drew ?_ | refine blk_alloc ?_ _)); refine blk_far ?_ NB231_232.out _; (with_reducible repeat (first | refine blk_drewN ?_ _ | refine blk_drew ?_ | refine blk_alloc ?_ _)); exact BK231.out) Try.underlying28 rfl (by kernel_rfl)) rfl ?_
                    exact ⟨_, _, by first | rfl | (simp [errW_none, errW_some] <;> rfl) | (simp [*, errW_none, errW_some] <;> rfl), by first | exact Kd.R_nil _ _ _ _ _ | exact Kd.N_nil _ _ _ _ _ | exact Kd.V_nil _ _ _ _ _ | exact Kd.Q_nil _ _ _ _ _ | exact Kd.S_nil _ _ _ _ _, by first | exact Kd.R_nil _ _ _ _ _ | exact Kd.N_nil _ _ _ _ _ | exact Kd.V_nil _ _ _ _ _ | exact Kd.Q_nil _ _ _ _ _ | exact Kd.S_nil _ _ _ _ _, by repeat (first | (with_reducible first | exact HI0.out | apply IsS49.alloc | apply IsS49.drewN | apply IsS49.drew | apply IsS49.set_0 | apply IsS49.set_1 | refine IsS49.far ?_ NB0_231.out _ | refine IsS49.far ?_ NB0_232.out _) | exact HI0.out), by repeat (first | (with_reducible first | exact HB.out | apply below_alloc | apply pw_below_drewN | apply below_drew1 | refine below_set ?_ (IsS49.ge HI0.out) | refine below_set ?_ GE231.out | refine below_set ?_ GE232.out) | exact HB.out), by repeat (first | (with_reducible first | exact HK.out | apply KeepBut.set_ | apply keep_drewN | apply keep_drew | apply keep_alloc | refine keep_far ?_ GW231.out _ | refine keep_far ?_ GW232.out _) | exact HK.out)⟩

theorem spec_reader_members_spec_reader_elements_spec_reader_value.all : ∀ k, (∀ (g : Nat) (s0_0 : ByteArray) (s0_1 : Int) (r1 : List (S66)) (r2 : List (S28)) (r3 : Bool) (r4 : ByteArray) (r5 : Int) (w0 w : World) (hI : IsS49 w0 w g s0_0 s0_1) (hB : Below w0.heap.size w0 w) (h : spec_reader_members.f k s0_0 s0_1 = some (r1, r2, r3, r4, r5)),
    Calls Try.prog 24 #[.pointer (some ⟨g, 0, none⟩)] w fun e w' => ∃ v0_ v1_ : Value, e = .returned (.tuple #[v0_, v1_, .bool r3]) ∧ Kd.R k66 66 w' w.heap.size (fun _ => True) v0_ r1 ∧ Kd.R k28 28 w' w.heap.size (fun k_ => some k_ ≠ (v0_ : Value).ownBlock) v1_ r2 ∧ IsS49 w0 w' g r4 r5 ∧ Below w0.heap.size w0 w' ∧ KeepBut w w' g none) ∧ (∀ (g : Nat) (s0_0 : ByteArray) (s0_1 : Int) (r1 : List (S28)) (r2 : Bool) (r3 : ByteArray) (r4 : Int) (w0 w : World) (hI : IsS49 w0 w g s0_0 s0_1) (hB : Below w0.heap.size w0 w) (h : spec_reader_elements.f k s0_0 s0_1 = some (r1, r2, r3, r4)),
    Calls Try.prog 25 #[.pointer (some ⟨g, 0, none⟩)] w fun e w' => ∃ v0_ : Value, e = .returned (.tuple #[v0_, .bool r2]) ∧ Kd.R k28 28 w' w.heap.size (fun _ => True) v0_ r1 ∧ IsS49 w0 w' g r3 r4 ∧ Below w0.heap.size w0 w' ∧ KeepBut w w' g none) ∧ (∀ (g : Nat) (s0_0 : ByteArray) (s0_1 : Int) (r1 : Int) (r2 : Int) (r3 : Int) (r4 : List (S66)) (r5 : List (S28)) (r6 : Bool) (r7 : ByteArray) (r8 : Int) (w0 w : World) (hI : IsS49 w0 w g s0_0 s0_1) (hB : Below w0.heap.size w0 w) (h : spec_reader_value.f k s0_0 s0_1 = some (r1, r2, r3, r4, r5, r6, r7, r8)),
    Calls Try.prog 18 #[.pointer (some ⟨g, 0, none⟩)] w fun e w' => ∃ v3_ v4_ : Value, e = .returned (.tuple #[.agg #[.int .i64 r1, .int .i64 r2, .int .i64 r3, v3_, v4_], .bool r6]) ∧ Kd.R k66 66 w' w.heap.size (fun _ => True) v3_ r4 ∧ Kd.R k28 28 w' w.heap.size (fun k_ => some k_ ≠ (v3_ : Value).ownBlock) v4_ r5 ∧ IsS49 w0 w' g r7 r8 ∧ Below w0.heap.size w0 w' ∧ KeepBut w w' g none) := by
  intro k
  induction k using Nat.strongRecOn with
  | _ k ih =>
  cases k with
  | zero => exact ⟨by intro g s0_0 s0_1 r1 r2 r3 r4 r5 w0 w hI hB h; exact absurd h (by simp [spec_reader_members.f]), by intro g s0_0 s0_1 r1 r2 r3 r4 w0 w hI hB h; exact absurd h (by simp [spec_reader_elements.f]), by intro g s0_0 s0_1 r1 r2 r3 r4 r5 r6 r7 r8 w0 w hI hB h; exact absurd h (by simp [spec_reader_value.f])⟩
  | succ k => exact ⟨spec_reader_members.step k (fun m_ hm_ => (ih m_ hm_).1) (fun m_ hm_ => (ih m_ hm_).2.1) (fun m_ hm_ => (ih m_ hm_).2.2), spec_reader_elements.step k (fun m_ hm_ => (ih m_ hm_).1) (fun m_ hm_ => (ih m_ hm_).2.1) (fun m_ hm_ => (ih m_ hm_).2.2), spec_reader_value.step k (fun m_ hm_ => (ih m_ hm_).1) (fun m_ hm_ => (ih m_ hm_).2.1) (fun m_ hm_ => (ih m_ hm_).2.2)⟩
theorem spec_reader_members.calls (k : Nat) : ∀ (g : Nat) (s0_0 : ByteArray) (s0_1 : Int) (r1 : List (S66)) (r2 : List (S28)) (r3 : Bool) (r4 : ByteArray) (r5 : Int) (w0 w : World) (hI : IsS49 w0 w g s0_0 s0_1) (hB : Below w0.heap.size w0 w) (h : spec_reader_members.f k s0_0 s0_1 = some (r1, r2, r3, r4, r5)),
    Calls Try.prog 24 #[.pointer (some ⟨g, 0, none⟩)] w fun e w' => ∃ v0_ v1_ : Value, e = .returned (.tuple #[v0_, v1_, .bool r3]) ∧ Kd.R k66 66 w' w.heap.size (fun _ => True) v0_ r1 ∧ Kd.R k28 28 w' w.heap.size (fun k_ => some k_ ≠ (v0_ : Value).ownBlock) v1_ r2 ∧ IsS49 w0 w' g r4 r5 ∧ Below w0.heap.size w0 w' ∧ KeepBut w w' g none := (spec_reader_members_spec_reader_elements_spec_reader_value.all k).1
theorem spec_reader_elements.calls (k : Nat) : ∀ (g : Nat) (s0_0 : ByteArray) (s0_1 : Int) (r1 : List (S28)) (r2 : Bool) (r3 : ByteArray) (r4 : Int) (w0 w : World) (hI : IsS49 w0 w g s0_0 s0_1) (hB : Below w0.heap.size w0 w) (h : spec_reader_elements.f k s0_0 s0_1 = some (r1, r2, r3, r4)),
    Calls Try.prog 25 #[.pointer (some ⟨g, 0, none⟩)] w fun e w' => ∃ v0_ : Value, e = .returned (.tuple #[v0_, .bool r2]) ∧ Kd.R k28 28 w' w.heap.size (fun _ => True) v0_ r1 ∧ IsS49 w0 w' g r3 r4 ∧ Below w0.heap.size w0 w' ∧ KeepBut w w' g none := (spec_reader_members_spec_reader_elements_spec_reader_value.all k).2.1
theorem spec_reader_value.calls (k : Nat) : ∀ (g : Nat) (s0_0 : ByteArray) (s0_1 : Int) (r1 : Int) (r2 : Int) (r3 : Int) (r4 : List (S66)) (r5 : List (S28)) (r6 : Bool) (r7 : ByteArray) (r8 : Int) (w0 w : World) (hI : IsS49 w0 w g s0_0 s0_1) (hB : Below w0.heap.size w0 w) (h : spec_reader_value.f k s0_0 s0_1 = some (r1, r2, r3, r4, r5, r6, r7, r8)),
    Calls Try.prog 18 #[.pointer (some ⟨g, 0, none⟩)] w fun e w' => ∃ v3_ v4_ : Value, e = .returned (.tuple #[.agg #[.int .i64 r1, .int .i64 r2, .int .i64 r3, v3_, v4_], .bool r6]) ∧ Kd.R k66 66 w' w.heap.size (fun _ => True) v3_ r4 ∧ Kd.R k28 28 w' w.heap.size (fun k_ => some k_ ≠ (v3_ : Value).ownBlock) v4_ r5 ∧ IsS49 w0 w' g r7 r8 ∧ Below w0.heap.size w0 w' ∧ KeepBut w w' g none := (spec_reader_members_spec_reader_elements_spec_reader_value.all k).2.2
end Go.Proofs.Ytdcigjpgagimdaa.M
