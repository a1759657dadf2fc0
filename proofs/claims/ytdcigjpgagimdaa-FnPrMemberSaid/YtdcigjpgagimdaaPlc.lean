/-
spec.Places: what it comes to, out of the reader's functions; and that the Go code comes to it.
-/
import Derived.Test.YtdcigjpgagimdaaMx5
import Derived.Outline
namespace Go.Proofs.Ytdcigjpgagimdaa.M
open Go.RowKit Go.Proofs.YtdcigjpgagimdaaW.PrintWords Go.Proofs.YtdcigjpgagimdaaW.PrintLast Go.Proofs.YtdcigjpgagimdaaW.PrintMore
set_option linter.unusedVariables false
set_option linter.unusedSimpArgs false

theorem far5 {α : Type} {d : Kd α} {e base : Nat} {w : World} {ok ok' : Nat → Prop} {v : Value} {xs : List α} (g B : Nat) (h : d.R e w B ok v xs) (hb : base ≤ B) (hok : ∀ k, ok k → k ≠ g) (hok' : ∀ k, ok k → ok' k) (u0 u1 u2 u3 u4 : Value) :
    d.R e (((((w.setCell ⟨g, 0, none⟩ u0).setCell ⟨g, 1, none⟩ u1).setCell ⟨g, 2, none⟩ u2).setCell ⟨g, 3, none⟩ u3).setCell ⟨g, 4, none⟩ u4) base ok' v xs :=
  Kd.R_lower (Kd.R_mono (Kd.R_far (Kd.R_far (Kd.R_far (Kd.R_far (Kd.R_far h hok u0) hok u1) hok u2) hok u3) hok u4) hok') hb

def spec_Places.f (k : Nat) (a0 : ByteArray) : Option (Int × Int × Int × (List (S66)) × (List (S28)) × Bool) :=
  (spec_reader_blanks.f k a0 0).bind fun b => (spec_reader_value.f k b.1 b.2).bind fun v =>
    if v.2.2.2.2.2.1 = true then (spec_reader_blanks.f k v.2.2.2.2.2.2.1 v.2.2.2.2.2.2.2).bind fun c =>
      if c.2 = (a0.size : Int) then some (v.1, v.2.1, v.2.2.1, v.2.2.2.1, v.2.2.2.2.1, true) else some (0, 0, 0, [], [], false)
    else some (0, 0, 0, [], [], false)

theorem spec_Places.mono : ∀ a0 k, LeO (spec_Places.f k a0) (spec_Places.f (k + 1) a0) := by
  intro a0 k
  unfold spec_Places.f
  repeat' first
    | (with_reducible exact spec_reader_blanks.mono _ _ _)
    | (with_reducible exact spec_reader_value.mono _ _ _)
    | (with_reducible exact LeO.refl _)
    | (with_reducible refine LeO.ite ?_ ?_)
    | (with_reducible refine LeO.bind ?_ (fun _ => ?_))

set_option maxHeartbeats 8000000 in
set_option maxRecDepth 100000 in
theorem spec_Places.calls (k : Nat) (a0 : ByteArray) (r1 : Int) (r2 : Int) (r3 : Int) (r4 : List (S66)) (r5 : List (S28)) (r6 : Bool) (w : World) (h : spec_Places.f k a0 = some (r1, r2, r3, r4, r5, r6)) :
    Calls Try.prog 12 #[.string a0] w fun e w' => ∃ v3_ v4_ : Value, e = .returned (.tuple #[.agg #[.int .i64 r1, .int .i64 r2, .int .i64 r3, v3_, v4_], .bool r6]) ∧ Kd.R k66 66 w' w.heap.size (fun _ => True) v3_ r4 ∧ Kd.R k28 28 w' w.heap.size (fun k_ => some k_ ≠ (v3_ : Value).ownBlock) v4_ r5 ∧ Below w.heap.size w w' := by
  unfold spec_Places.f at h
  obtain ⟨⟨b1, b2⟩, hb0, h⟩ := Option.bind_eq_some_iff.mp h
  obtain ⟨⟨v1, v2, v3, v4, v5, v6, v7, v8⟩, hv0, h⟩ := Option.bind_eq_some_iff.mp h
  have A1 := Aside0.mk hb0
  have A2 := Aside0.mk hv0
  have H := Aside0.mk h
  clear hb0 hv0 h
  have hB0 : Below w.heap.size w (w.alloc (.cells #[.int .i64 0, .int .i64 0, .int .i64 0, .slice none 0 0, .slice none 0 0] 28)) := below_alloc (Below.refl _ _) _
  have hI0 : IsS49 w ((w.alloc (.cells #[.int .i64 0, .int .i64 0, .int .i64 0, .slice none 0 0, .slice none 0 0] 28)).alloc (.cells #[.string a0, .int .i64 0] 49)) (w.heap.size + 1) a0 0 := by
    have := IsS49.new w _ a0 0 hB0
    simpa using this
  have hB1 := below_alloc hB0 (.cells #[.string a0, .int .i64 0] 49)
  have hR0 : ((w.alloc (.cells #[.int .i64 0, .int .i64 0, .int .i64 0, .slice none 0 0, .slice none 0 0] 28)).alloc (.cells #[.string a0, .int .i64 0] 49)).heap[w.heap.size]? = some (.cells #[.int .i64 0, .int .i64 0, .int .i64 0, .slice none 0 0, .slice none 0 0] 28 (0, 0)) := by
    exact (heap_alloc_old _ _ (by simp)).trans (by simpa using heap_alloc_new w _)
  have HI := Aside0.mk hI0
  have HB := Aside0.mk hB1
  have HR := Aside0.mk hR0
  clear hB0 hI0 hB1 hR0
  go_enter Try.func12, Try.ntmps12
  go_wp2_with fail
  refine (spec_reader_blanks.calls k (w.heap.size + 1) a0 0 b1 b2 w _ HI.out HB.out A1.out).mono ?_
  rintro e w1 ⟨rfl, hi, hb, hk⟩
  have HR1 := Aside0.mk (KeepBut.blk hk HR.out (by omega) (by simp))
  have HI1 := Aside0.mk hi
  have HB1 := Aside0.mk hb
  clear hi hb hk HI HB HR
  go_wp2_with fail
  refine (spec_reader_value.calls k (w.heap.size + 1) b1 b2 v1 v2 v3 v4 v5 v6 v7 v8 w _ HI1.out HB1.out A2.out).mono ?_
  rintro e w2 ⟨u3, u4, rfl, ho3, ho4, hi, hb, hk⟩
  have HR2 := Aside0.mk (KeepBut.blk hk HR1.out (by omega) (by simp))
  have HI2 := Aside0.mk hi
  have HB2 := Aside0.mk hb
  have hl1 := HI1.out.lt
  have hl2 := HB2.out.size
  have HL1 := Aside0.mk hl1
  clear hi hb hk HI1 HB1 HR1 hl1 hl2
  obtain ⟨a3, q3, rfl⟩ := Kd.R_slice ho3
  obtain ⟨a4, q4, rfl⟩ := Kd.R_slice ho4
  have HO3 := Aside0.mk (Kd.R_bound ho3)
  have HO4 := Aside0.mk (Kd.R_bound ho4)
  clear ho3 ho4
  have hlt := blk_lt HR2.out
  have hb2 : ∀ o, (w2.alloc o).heap[w.heap.size]? = some (.cells #[.int .i64 0, .int .i64 0, .int .i64 0, .slice none 0 0, .slice none 0 0] 28 (0, 0)) := fun o => (heap_alloc_old _ _ hlt).trans HR2.out
  cases v6 with
  | false =>
    have h := H.out
    rw [if_neg (by decide)] at h
    simp only [Option.some.injEq, Prod.mk.injEq] at h
    obtain ⟨rfl, rfl, rfl, rfl, rfl, rfl⟩ := h
    clear H
    have hc0 : w2.cell? ⟨w.heap.size, 0, none⟩ = some (.int .i64 0) := (blk_cell HR2.out 0).trans rfl
    have hc1 : w2.cell? ⟨w.heap.size, 1, none⟩ = some (.int .i64 0) := (blk_cell HR2.out 1).trans rfl
    have hc2 : w2.cell? ⟨w.heap.size, 2, none⟩ = some (.int .i64 0) := (blk_cell HR2.out 2).trans rfl
    have hc3 : w2.cell? ⟨w.heap.size, 3, none⟩ = some (.slice none 0 0) := (blk_cell HR2.out 3).trans rfl
    have hc4 : w2.cell? ⟨w.heap.size, 4, none⟩ = some (.slice none 0 0) := (blk_cell HR2.out 4).trans rfl
    have hf : ∀ i, w2.frozen? ⟨w.heap.size, i, none⟩ = false := fun i => blk_frozen HR2.out i
    have HBQ := Aside0.mk hb2
    clear hb2
    go_wp2_with fail
    refine bodyPost_ret (results_ct rfl _ _ w.heap.size 28 #[.int .i64 0, .int .i64 0, .int .i64 0, .slice none 0 0, .slice none 0 0] (0, 0) _ rfl (by (with_reducible repeat (first | refine blk_drewN ?_ _ | refine blk_drew ?_ | refine blk_alloc ?_ _)); refine blk_put (cs := #[.int .i64 0, .int .i64 0, .int .i64 0, .slice none 0 0, .slice none 0 0]) ?_ 4 _ rfl; (with_reducible repeat (first | refine blk_drewN ?_ _ | refine blk_drew ?_ | refine blk_alloc ?_ _)); refine blk_put (cs := #[.int .i64 0, .int .i64 0, .int .i64 0, .slice none 0 0, .slice none 0 0]) ?_ 3 _ rfl; (with_reducible repeat (first | refine blk_drewN ?_ _ | refine blk_drew ?_ | refine blk_alloc ?_ _)); refine blk_put (cs := #[.int .i64 0, .int .i64 0, .int .i64 0, .slice none 0 0, .slice none 0 0]) ?_ 2 _ rfl; (with_reducible repeat (first | refine blk_drewN ?_ _ | refine blk_drew ?_ | refine blk_alloc ?_ _)); refine blk_put (cs := #[.int .i64 0, .int .i64 0, .int .i64 0, .slice none 0 0, .slice none 0 0]) ?_ 1 _ rfl; (with_reducible repeat (first | refine blk_drewN ?_ _ | refine blk_drew ?_ | refine blk_alloc ?_ _)); refine blk_put (cs := #[.int .i64 0, .int .i64 0, .int .i64 0, .slice none 0 0, .slice none 0 0]) ?_ 0 _ rfl; (with_reducible repeat (first | refine blk_drewN ?_ _ | refine blk_drew ?_ | refine blk_alloc ?_ _)); exact HR2.out) Try.underlying28 rfl (by kernel_rfl)) rfl ?_
    exact ⟨_, _, rfl, Kd.R_nil _ _ _ _ _, Kd.R_nil _ _ _ _ _, by repeat (first | (with_reducible first | exact HB2.out | apply below_alloc | apply pw_below_drewN | apply below_drew1 | refine below_set ?_ (Nat.le_refl _)) | exact HB2.out)⟩
  | true =>
    have h := H.out
    rw [if_pos rfl] at h
    obtain ⟨⟨c1, c2⟩, hc0, h⟩ := Option.bind_eq_some_iff.mp h
    have A3 := Aside0.mk hc0
    have H3 := Aside0.mk h
    have HBQ := Aside0.mk hb2
    have HLT := Aside0.mk hlt
    clear H h hc0 hb2 hlt
    go_wp2_with fail
    refine (spec_reader_blanks.calls k (w.heap.size + 1) v7 v8 c1 c2 w _ (HI2.out.alloc _) (below_alloc HB2.out _) A3.out).mono ?_
    rintro e w3 ⟨rfl, hi, hb, hk⟩
    have HR3 := Aside0.mk (KeepBut.blk hk (HBQ.out _) (by omega) (by simp))
    have HP := Aside0.mk (KeepBut.blk hk (heap_alloc_new w2 (.cells #[.int .i64 v1, .int .i64 v2, .int .i64 v3, .slice a3 v4.length q3, .slice a4 v5.length q4] 28)) (by have := HI2.out.lt; omega) (by simp))
    have HB3 := Aside0.mk hb
    have HO3' := Aside0.mk (Kd.R_keep (Kd.R_below HO3.out (below_alloc (Below.refl _ _) (.cells #[.int .i64 v1, .int .i64 v2, .int .i64 v3, .slice a3 v4.length q3, .slice a4 v5.length q4] 28))) hk (fun k_ hk_ => by have := HL1.out; have := hk_.2.1; omega))
    have HO4' := Aside0.mk (Kd.R_keep (Kd.R_below HO4.out (below_alloc (Below.refl _ _) (.cells #[.int .i64 v1, .int .i64 v2, .int .i64 v3, .slice a3 v4.length q3, .slice a4 v5.length q4] 28))) hk (fun k_ hk_ => by have := HL1.out; have := hk_.2.1; omega))
    obtain ⟨HG, hgq⟩ := hi
    have hr0 := cellS49_0 HG
    have hr1 := cellS49_1 HG
    have HX := Aside0.mk hb.size
    clear HG hgq hb hk HO3 HO4 HI2 HR2 HB2 HBQ
    have hc0 : w3.cell? ⟨w.heap.size, 0, none⟩ = some (.int .i64 0) := (blk_cell HR3.out 0).trans rfl
    have hc1 : w3.cell? ⟨w.heap.size, 1, none⟩ = some (.int .i64 0) := (blk_cell HR3.out 1).trans rfl
    have hc2 : w3.cell? ⟨w.heap.size, 2, none⟩ = some (.int .i64 0) := (blk_cell HR3.out 2).trans rfl
    have hc3 : w3.cell? ⟨w.heap.size, 3, none⟩ = some (.slice none 0 0) := (blk_cell HR3.out 3).trans rfl
    have hc4 : w3.cell? ⟨w.heap.size, 4, none⟩ = some (.slice none 0 0) := (blk_cell HR3.out 4).trans rfl
    have hf : ∀ i, w3.frozen? ⟨w.heap.size, i, none⟩ = false := fun i => blk_frozen HR3.out i
    have hp0 : w3.cell? ⟨w2.heap.size, 0, none⟩ = some (.int .i64 v1) := (blk_cell HP.out 0).trans rfl
    have hp1 : w3.cell? ⟨w2.heap.size, 1, none⟩ = some (.int .i64 v2) := (blk_cell HP.out 1).trans rfl
    have hp2 : w3.cell? ⟨w2.heap.size, 2, none⟩ = some (.int .i64 v3) := (blk_cell HP.out 2).trans rfl
    have hp3 : w3.cell? ⟨w2.heap.size, 3, none⟩ = some (.slice a3 v4.length q3) := (blk_cell HP.out 3).trans rfl
    have hp4 : w3.cell? ⟨w2.heap.size, 4, none⟩ = some (.slice a4 v5.length q4) := (blk_cell HP.out 4).trans rfl
    by_cases hc : c2 = (a0.size : Int)
    · have h := H3.out
      rw [if_pos hc] at h
      simp only [Option.some.injEq, Prod.mk.injEq] at h
      obtain ⟨rfl, rfl, rfl, rfl, rfl, rfl⟩ := h
      have hcb : (c2 != (a0.size : Int)) = false := bne_eq_false_iff_eq.mpr hc
      have hcb2 : (c2 == (a0.size : Int)) = true := beq_iff_eq.mpr hc
      clear H3 hc
      go_wp2_with fail
      refine bodyPost_ret (results_ct rfl _ _ w.heap.size 28 #[.int .i64 v1, .int .i64 v2, .int .i64 v3, .slice a3 v4.length q3, .slice a4 v5.length q4] (0, 0) _ rfl (by (with_reducible repeat (first | refine blk_drewN ?_ _ | refine blk_drew ?_ | refine blk_alloc ?_ _)); refine blk_put (cs := #[.int .i64 v1, .int .i64 v2, .int .i64 v3, .slice a3 v4.length q3, .slice none 0 0]) ?_ 4 _ rfl; (with_reducible repeat (first | refine blk_drewN ?_ _ | refine blk_drew ?_ | refine blk_alloc ?_ _)); refine blk_put (cs := #[.int .i64 v1, .int .i64 v2, .int .i64 v3, .slice none 0 0, .slice none 0 0]) ?_ 3 _ rfl; (with_reducible repeat (first | refine blk_drewN ?_ _ | refine blk_drew ?_ | refine blk_alloc ?_ _)); refine blk_put (cs := #[.int .i64 v1, .int .i64 v2, .int .i64 0, .slice none 0 0, .slice none 0 0]) ?_ 2 _ rfl; (with_reducible repeat (first | refine blk_drewN ?_ _ | refine blk_drew ?_ | refine blk_alloc ?_ _)); refine blk_put (cs := #[.int .i64 v1, .int .i64 0, .int .i64 0, .slice none 0 0, .slice none 0 0]) ?_ 1 _ rfl; (with_reducible repeat (first | refine blk_drewN ?_ _ | refine blk_drew ?_ | refine blk_alloc ?_ _)); refine blk_put (cs := #[.int .i64 0, .int .i64 0, .int .i64 0, .slice none 0 0, .slice none 0 0]) ?_ 0 _ rfl; (with_reducible repeat (first | refine blk_drewN ?_ _ | refine blk_drew ?_ | refine blk_alloc ?_ _)); exact HR3.out) Try.underlying28 rfl (by kernel_rfl)) rfl ?_
      have hW := HL1.out
      exact ⟨_, _, rfl, far5 w.heap.size w1.heap.size HO3'.out (by omega) (fun k_ hk_ => by have := hk_.2.1; omega) (fun _ _ => trivial) _ _ _ _ _, far5 w.heap.size w1.heap.size HO4'.out (by omega) (fun k_ hk_ => by have := hk_.2.1; omega) (fun _ hk_ => hk_.1) _ _ _ _ _, by repeat (first | (with_reducible first | exact HB3.out | apply below_alloc | apply pw_below_drewN | apply below_drew1 | refine below_set ?_ (Nat.le_refl _)) | exact HB3.out)⟩
    · have h := H3.out
      rw [if_neg hc] at h
      simp only [Option.some.injEq, Prod.mk.injEq] at h
      obtain ⟨rfl, rfl, rfl, rfl, rfl, rfl⟩ := h
      have hcb : (c2 != (a0.size : Int)) = true := bne_iff_ne.mpr hc
      have hcb2 : (c2 == (a0.size : Int)) = false := beq_eq_false_iff_ne.mpr hc
      clear H3
      go_wp2_with fail
      refine bodyPost_ret (results_ct rfl _ _ w.heap.size 28 #[.int .i64 0, .int .i64 0, .int .i64 0, .slice none 0 0, .slice none 0 0] (0, 0) _ rfl (by (with_reducible repeat (first | refine blk_drewN ?_ _ | refine blk_drew ?_ | refine blk_alloc ?_ _)); refine blk_put (cs := #[.int .i64 0, .int .i64 0, .int .i64 0, .slice none 0 0, .slice none 0 0]) ?_ 4 _ rfl; (with_reducible repeat (first | refine blk_drewN ?_ _ | refine blk_drew ?_ | refine blk_alloc ?_ _)); refine blk_put (cs := #[.int .i64 0, .int .i64 0, .int .i64 0, .slice none 0 0, .slice none 0 0]) ?_ 3 _ rfl; (with_reducible repeat (first | refine blk_drewN ?_ _ | refine blk_drew ?_ | refine blk_alloc ?_ _)); refine blk_put (cs := #[.int .i64 0, .int .i64 0, .int .i64 0, .slice none 0 0, .slice none 0 0]) ?_ 2 _ rfl; (with_reducible repeat (first | refine blk_drewN ?_ _ | refine blk_drew ?_ | refine blk_alloc ?_ _)); refine blk_put (cs := #[.int .i64 0, .int .i64 0, .int .i64 0, .slice none 0 0, .slice none 0 0]) ?_ 1 _ rfl; (with_reducible repeat (first | refine blk_drewN ?_ _ | refine blk_drew ?_ | refine blk_alloc ?_ _)); refine blk_put (cs := #[.int .i64 0, .int .i64 0, .int .i64 0, .slice none 0 0, .slice none 0 0]) ?_ 0 _ rfl; (with_reducible repeat (first | refine blk_drewN ?_ _ | refine blk_drew ?_ | refine blk_alloc ?_ _)); exact HR3.out) Try.underlying28 rfl (by kernel_rfl)) rfl ?_
      exact ⟨_, _, rfl, Kd.R_nil _ _ _ _ _, Kd.R_nil _ _ _ _ _, by repeat (first | (with_reducible first | exact HB3.out | apply below_alloc | apply pw_below_drewN | apply below_drew1 | refine below_set ?_ (Nat.le_refl _)) | exact HB3.out)⟩
end Go.Proofs.Ytdcigjpgagimdaa.M
