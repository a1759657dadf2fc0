/-
laws.FnPrPrefix: it answers true at every input.
-/
import Derived.Test.YtdcigjpgagimdaaTop
import Derived.Test.YtdcigjpgagimdaaLay
import Derived.Test.YtdcigjpgagimdaaRng
namespace Go.Proofs.Ytdcigjpgagimdaa.M
open Go Go.RowKit Tx Go.Proofs.YtdcigjpgagimdaaW.PrintWords Go.Proofs.YtdcigjpgagimdaaW.PrintLast Go.Proofs.YtdcigjpgagimdaaW.PrintMore
set_option linter.unusedVariables false
set_option linter.unusedSimpArgs false

def Yes (w : World) (e : Ending) (w' : World) : Prop := e = .returned (.bool true) ∧ Below w.heap.size w w'

theorem fits_f (o0 : Int) (o1 o2 : ByteArray) (o3 : Bool) : ∃ b, laws_zzFits7.f o0 o1 o2 o3 = some b ∧ (b = true → o1.size ≤ 2147483647 ∧ o2.size ≤ 2147483647) := by
  unfold laws_zzFits7.f
  by_cases h1 : (o1.size : Int) > 2147483647
  · exact ⟨false, by rw [if_pos h1], fun h => by cases h⟩
  · by_cases h2 : (o2.size : Int) > 2147483647
    · exact ⟨false, by rw [if_neg h1, if_pos h2], fun h => by cases h⟩
    · exact ⟨true, by rw [if_neg h1, if_neg h2], fun _ => ⟨by omega, by omega⟩⟩

set_option maxHeartbeats 8000000 in
set_option maxRecDepth 100000 in
theorem prefix_any (a0 : ByteArray) (o0 : Int) (o1 o2 : ByteArray) (o3 : Bool) (w : World) :
    Calls Try.prog 4 #[.string a0, .agg #[.int .i64 o0, .string o1, .string o2, .bool o3]] w (Yes w) := by
  have hu23 := Try.underlying23
  have hu28 := Try.underlying28
  have HB := Aside0.mk (below_alloc (Below.refl w.heap.size w) (.cells #[.int .i64 o0, .string o1, .string o2, .bool o3] 23))
  have HK := Aside0.mk (heap_alloc_new w (.cells #[.int .i64 o0, .string o1, .string o2, .bool o3] 23))
  have hg0 : (w.alloc (.cells #[.int .i64 o0, .string o1, .string o2, .bool o3] 23)).cell? ⟨w.heap.size, 0, none⟩ = some (.int .i64 o0) := (blk_cell HK.out 0).trans rfl
  have hg1 : (w.alloc (.cells #[.int .i64 o0, .string o1, .string o2, .bool o3] 23)).cell? ⟨w.heap.size, 1, none⟩ = some (.string o1) := (blk_cell HK.out 1).trans rfl
  have hg2 : (w.alloc (.cells #[.int .i64 o0, .string o1, .string o2, .bool o3] 23)).cell? ⟨w.heap.size, 2, none⟩ = some (.string o2) := (blk_cell HK.out 2).trans rfl
  have hg3 : (w.alloc (.cells #[.int .i64 o0, .string o1, .string o2, .bool o3] 23)).cell? ⟨w.heap.size, 3, none⟩ = some (.bool o3) := (blk_cell HK.out 3).trans rfl
  obtain ⟨bf, hf, hfs⟩ := fits_f o0 o1 o2 o3
  obtain ⟨r1, r2, r3, r4, r5, bp, ep, hp⟩ := places_ev a0
  obtain ⟨kp, hkp⟩ := ep.get
  have HF := Aside0.mk hf
  have HFS := Aside0.mk hfs
  have HP := Aside0.mk hkp
  have HPT := Aside0.mk hp
  clear hf hfs hkp hp ep
  go_enter Try.func4, Try.ntmps4
  by_cases h1 : (a0.size : Int) > 2147483647
  · have h1b : decide (2147483647 < (a0.size : Int)) = true := decide_eq_true h1
    have h1c : decide (2147483647 < a0.size) = true := decide_eq_true (by omega)
    clear h1
    as_aux_lemma =>
      go_wp2
      go_ret
      exact ⟨rfl, by repeat (first | (with_reducible first | exact HB.out | apply below_alloc | apply pw_below_drewN | apply below_drew1) | exact HB.out)⟩
  · have h1b : decide (2147483647 < (a0.size : Int)) = false := decide_eq_false h1
    have h1c : decide (2147483647 < a0.size) = false := decide_eq_false (by omega)
    go_wp2_with fail
    refine (laws_zzFits7.calls o0 o1 o2 o3 bf _ HF.out).mono ?_
    rintro e w1 ⟨rfl, hb⟩
    have HB1 := Aside0.mk (below_step HB.out hb)
    have HK1 := Aside0.mk (blk_below HK.out hb)
    clear hb hg0 hg1 hg2 hg3 HK HB
    cases bf with
    | false =>
      as_aux_lemma =>
        go_wp2
        go_ret
        exact ⟨rfl, by repeat (first | (with_reducible first | exact HB1.out | apply below_alloc | apply pw_below_drewN | apply below_drew1 | refine below_set ?_ (by omega)) | exact HB1.out)⟩
    | true =>
      go_wp2_with fail
      refine (laws_prPlaces.calls kp a0 r1 r2 r3 r4 r5 bp _ HP.out).mono ?_
      rintro e w2 ⟨v3, v4, rfl, ho3, ho4, hb⟩
      obtain ⟨a3, q3, rfl⟩ := Kd.R_slice ho3
      obtain ⟨a4, q4, rfl⟩ := Kd.R_slice ho4
      clear ho3 ho4
      have HB2 := Aside0.mk (below_step HB1.out hb)
      have HK2 := Aside0.mk (blk_below HK1.out hb)
      clear hb HB1 HK1
      cases bp with
      | false =>
        as_aux_lemma =>
          go_wp2
          go_ret
          exact ⟨rfl, by repeat (first | (with_reducible first | exact HB2.out | apply below_alloc | apply pw_below_drewN | apply below_drew1 | refine below_set ?_ (by omega)) | exact HB2.out)⟩
      | true =>
        have HB3 := Aside0.mk (below_alloc HB2.out (.cells #[.int .i64 r1, .int .i64 r2, .int .i64 r3, .slice a3 r4.length q3, .slice a4 r5.length q4] 28))
        have HK3 := Aside0.mk (blk_alloc HK2.out (.cells #[.int .i64 r1, .int .i64 r2, .int .i64 r3, .slice a3 r4.length q3, .slice a4 r5.length q4] 28))
        go_upto_region 4 with (fail)
        generalize w2.alloc (.cells #[.int .i64 r1, .int .i64 r2, .int .i64 r3, .slice a3 r4.length q3, .slice a4 r5.length q4] 28) = w3 at HB3 HK3 ⊢
        clear HB2 HK2
        have hg0 : w3.cell? ⟨w.heap.size, 0, none⟩ = some (.int .i64 o0) := (blk_cell HK3.out 0).trans rfl
        have hg1 : w3.cell? ⟨w.heap.size, 1, none⟩ = some (.string o1) := (blk_cell HK3.out 1).trans rfl
        have hg2 : w3.cell? ⟨w.heap.size, 2, none⟩ = some (.string o2) := (blk_cell HK3.out 2).trans rfl
        have hg3 : w3.cell? ⟨w.heap.size, 3, none⟩ = some (.bool o3) := (blk_cell HK3.out 3).trans rfl
        by_cases h2 : o0 = 0
        case neg =>
          have h2b : (o0 != 0) = true := bne_iff_ne.mpr h2
          have h2c : (o0 == 0) = false := beq_eq_false_iff_ne.mpr h2
          as_aux_lemma =>
            go_wp2
            go_ret
            exact ⟨rfl, by repeat (first | (with_reducible first | exact HB3.out | apply below_alloc | apply pw_below_drewN | apply below_drew1) | exact HB3.out)⟩
        subst h2
        have HS := Aside0.mk (HFS.out trivial)
        obtain ⟨bl, el, hl⟩ := oneLine_ev 0 o1 o2 o3 (by have := HS.out; omega) (by have := HS.out; omega)
        obtain ⟨kl, hkl⟩ := el.get
        have HL := Aside0.mk hkl
        have HLT := Aside0.mk hl
        clear hkl hl el
        go_wp2_with fail
        refine (laws_prOneLine.calls kl 0 o1 o2 o3 bl _ HL.out).mono ?_
        rintro e w4 ⟨rfl, hb⟩
        have HB4 := Aside0.mk (below_step HB3.out hb)
        have HK4 := Aside0.mk (blk_below HK3.out hb)
        clear hb HB3 HK3 hg0 hg1 hg2 hg3
        have hg0 : w4.cell? ⟨w.heap.size, 0, none⟩ = some (.int .i64 0) := (blk_cell HK4.out 0).trans rfl
        have hg1 : w4.cell? ⟨w.heap.size, 1, none⟩ = some (.string o1) := (blk_cell HK4.out 1).trans rfl
        have hg2 : w4.cell? ⟨w.heap.size, 2, none⟩ = some (.string o2) := (blk_cell HK4.out 2).trans rfl
        have hg3 : w4.cell? ⟨w.heap.size, 3, none⟩ = some (.bool o3) := (blk_cell HK4.out 3).trans rfl
        cases bl with
        | false =>
          as_aux_lemma =>
            go_wp2
            go_ret
            exact ⟨rfl, by repeat (first | (with_reducible first | exact HB4.out | apply below_alloc | apply pw_below_drewN | apply below_drew1) | exact HB4.out)⟩
        | true =>
          cases o3 with
          | true =>
            as_aux_lemma =>
              go_wp2
              go_ret
              exact ⟨rfl, by repeat (first | (with_reducible first | exact HB4.out | apply below_alloc | apply pw_below_drewN | apply below_drew1) | exact HB4.out)⟩
          | false =>
            obtain ⟨ht, c, junk, rest, hok, htx, hjb, hrb⟩ := HPT.out trivial
            have HTX := Aside0.mk htx
            have HOK := Aside0.mk hok
            have HJB := Aside0.mk (show ∀ x ∈ junk, x ≤ 32 ∨ x = 44 ∨ x = 58 from fun x hx => .inl (hjb x hx).le)
            have HST := Aside0.mk (show StopAt rest from by
              cases rest with
              | nil => exact .inl rfl
              | cons z r => exact .inr ⟨z, r, rfl, (hrb z (by simp)).stop⟩)
            have HTL := Aside0.mk ht
            have HCL := Aside0.mk (show c.text.length ≤ 4096 by have h := congrArg List.length htx; rw [bytesOf_length, List.length_append, List.length_append] at h; omega)
            clear htx hok hjb hrb ht
            go_upto_region 9 with (fail)
            have HB5 := Aside0.mk (below_alloc HB4.out (.cells #[.int .i64 0, .string ⟨#[]⟩, .string o2, .bool false] 23))
            have HK5 := Aside0.mk (blk_alloc HK4.out (.cells #[.int .i64 0, .string ⟨#[]⟩, .string o2, .bool false] 23))
            have HM5 := Aside0.mk (heap_alloc_new w4 (.cells #[.int .i64 0, .string ⟨#[]⟩, .string o2, .bool false] 23))
            generalize w4.alloc (.cells #[.int .i64 0, .string ⟨#[]⟩, .string o2, .bool false] 23) = w5 at HB5 HK5 HM5 ⊢
            clear hg0 hg1 hg2 hg3 HB4 HK4
            have hm0 : w5.cell? ⟨w4.heap.size, 0, none⟩ = some (.int .i64 0) := (blk_cell HM5.out 0).trans rfl
            have hm1 : w5.cell? ⟨w4.heap.size, 1, none⟩ = some (.string ⟨#[]⟩) := (blk_cell HM5.out 1).trans rfl
            have hm2 : w5.cell? ⟨w4.heap.size, 2, none⟩ = some (.string o2) := (blk_cell HM5.out 2).trans rfl
            have hm3 : w5.cell? ⟨w4.heap.size, 3, none⟩ = some (.bool false) := (blk_cell HM5.out 3).trans rfl
            have e0 : bytesOf (⟨#[]⟩ : ByteArray) = [] := rfl
            have hd64 : (bytesOf o2).length ≤ 64 := by have := (HLT.out trivial).2.1; rw [bytesOf_length]; exact this
            have HSM := Aside0.mk (Cst.lay_small [] (bytesOf o2) (by simp) hd64 c HOK.out HCL.out)
            go_wp2_with fail
            refine (pretty_fits c junk rest a0 ⟨#[]⟩ o2 w5 HOK.out HTX.out HJB.out HST.out (by have := HTL.out; omega) (by have := HSM.out.2; omega) (by rw [e0]; have := HSM.out.1; simp only [List.length_nil]; omega)).mono ?_
            rintro e w6 ⟨rfl, hb⟩
            have HB6 := Aside0.mk (below_step HB5.out hb)
            have HK6 := Aside0.mk (blk_below HK5.out hb)
            clear hb HB5 HK5 HM5 hm0 hm1 hm2 hm3
            obtain ⟨zs, hzs⟩ : ∃ q : List Int, q = bytesOf (⟨#[]⟩ : ByteArray) ++ (c.lay (bytesOf (⟨#[]⟩ : ByteArray)) (bytesOf o2) 0 ++ [10]) := ⟨_, rfl⟩
            obtain ⟨s0, hs0⟩ : ∃ q : ByteArray, q = strOfNums zs := ⟨_, rfl⟩
            rw [← hzs, ← hs0]
            have hrt : Rng c.text := by
              have h := bytesOf_rng a0
              rw [HTX.out] at h
              exact h.right.left
            have hrz : Rng zs := by
              rw [hzs, e0, List.nil_append]
              exact (Cst.lay_rng [] (bytesOf o2) Rng.nil (bytesOf_rng o2) c hrt 0).app (Rng.cons (by decide) Rng.nil)
            have hbz : bytesOf s0 = zs := by rw [hs0]; exact bytes_back hrz
            have hzl : s0.size = zs.length := by rw [← hbz, bytesOf_length]
            have HZS := Aside0.mk hzs
            have HBZ := Aside0.mk hbz
            have HZL := Aside0.mk hzl
            have HZB := Aside0.mk (show zs.length < 8589934593 by rw [hzs, e0, List.nil_append, List.length_append, List.length_singleton]; have := HSM.out.1; omega)
            have hcv := Lib.run_convert_string_bytes (P := Try.prog) w6 9 37 5 s0 (u := .string) Try.underlying9 Try.underlying37 Try.underlying5
            have hbw := Lib.bytesWorld_below w6 5 s0
            have hcell := Lib.bytesWorld_cell w6 5 s0
            have HK7 := Aside0.mk ((hbw.block w.heap.size (blk_lt HK6.out)).trans HK6.out)
            have HB7 := Aside0.mk (below_step HB6.out hbw)
            generalize Lib.bytesWorld w6 5 s0 = w7 at hcv hcell HK7 HB7 hbw
            generalize grownCap w6 s0.size 0 5 = cc at hcv
            have HC7 := Aside0.mk (show Kd.C (Kd.int .u8) w7 (some ⟨w6.heap.size, 0, none⟩) zs.length zs from Kd.C_of_reads (enc := Value.int .u8) (d := (0 : Int)) (h1 := fun _ => rfl) ⟨rfl, by have := HZB.out; omega, fun _ => ⟨_, rfl, fun j hj => by
              rw [← hzl] at hj
              have h := hcell j hj
              rw [cells_of_bytes s0 j hj, hbz] at h
              rw [add_plain]
              exact h⟩⟩)
            rw [hzl] at hcv
            clear hzs hs0 hrt hrz hbz hzl hbw hcell HB6 HK6
            have HINV0 := Aside0.mk (show bytesOf (⟨#[]⟩ : ByteArray) ++ ap (bytesOf o1) true (zs.drop 0) = ap (bytesOf o1) true zs from by simp [e0])
            go_wp2_with fail
            (try simp only [Act.put, List.setIfInBounds_toArray, List.set_cons_succ, List.set_cons_zero])
            go_loopg [8, 9, 11, 48] zs.length (fun kq v8 v9 v11 v48 w' => ∃ (j : Nat) (o : ByteArray) (f : Bool) (x48 : Int), v8 = .string o ∧ v9 = .bool f ∧ v48 = .int .i64 x48 ∧ Aside0 (x48 = (j : Int)) ∧ Aside0 (kq + j = zs.length) ∧ Aside0 (bytesOf o ++ ap (bytesOf o1) f (zs.drop j) = ap (bytesOf o1) true zs) ∧ Aside0 (Below w7.heap.size w7 w'))
            case atStart => exact ⟨0, ⟨#[]⟩, true, 0, rfl, rfl, rfl, ⟨rfl⟩, ⟨rfl⟩, HINV0, ⟨Below.refl _ _⟩⟩
            case round =>
              obtain ⟨j, o, f, x48, rfl, rfl, rfl, HJ, HJL, HIN, HB⟩ := hrel
              have HK8 := Aside0.mk (blk_below HK7.out HB.out)
              have hg0 : wr.cell? ⟨w.heap.size, 0, none⟩ = some (.int .i64 0) := (blk_cell HK8.out 0).trans rfl
              have hg1 : wr.cell? ⟨w.heap.size, 1, none⟩ = some (.string o1) := (blk_cell HK8.out 1).trans rfl
              have hg2 : wr.cell? ⟨w.heap.size, 2, none⟩ = some (.string o2) := (blk_cell HK8.out 2).trans rfl
              have hg3 : wr.cell? ⟨w.heap.size, 3, none⟩ = some (.bool false) := (blk_cell HK8.out 3).trans rfl
              by_cases hlt : j < zs.length
              case neg =>
                have x1 : decide (x48 < (zs.length : Int)) = false := decide_eq_false (by have := HJ.out; omega)
                have hob : bytesOf o = bytesOf o1 ++ (c.lay (bytesOf o1) (bytesOf o2) 0 ++ [10]) := by
                  have h := HIN.out
                  rw [List.drop_eq_nil_of_le (by omega)] at h
                  simp only [ap, List.append_nil] at h
                  rw [h, HZS.out, e0, List.nil_append]
                  exact Cst.prefix_law (bytesOf o1) (bytesOf o2) (HLT.out trivial).2.2 c (c.ok_line HOK.out)
                have HOS := Aside0.mk (show strOfNums (bytesOf o1 ++ (c.lay (bytesOf o1) (bytesOf o2) 0 ++ [10])) = o from by
                  rw [← hob]
                  exact bytesOf_inj (bytes_back (bytesOf_rng o)))
                have hne1 : (o.toList = []) = False := eq_false (fun h => by
                  rw [ByteArray.toList_eq] at h
                  have h2 : bytesOf o = [] := by rw [bytesOf, h]; rfl
                  rw [hob] at h2
                  simp at h2)
                have HBW := Aside0.mk (below_step HB7.out HB.out)
                have HS2 := Aside0.mk (Cst.lay_small (bytesOf o1) (bytesOf o2) (by rw [bytesOf_length]; have := (HLT.out trivial).1.1; omega) (by rw [bytesOf_length]; exact (HLT.out trivial).2.1) c HOK.out HCL.out)
                have HS3 := Aside0.mk (show (bytesOf o1).length ≤ 64 by rw [bytesOf_length]; exact (HLT.out trivial).1.1)
                clear hob hlt
                go_wp2_with fail
                refine (pretty_fits c junk rest a0 o1 o2 wr HOK.out HTX.out HJB.out HST.out (by have := HTL.out; omega) (by have := HS2.out.2; omega) (by have := HS2.out.1; have := HS3.out; omega)).mono ?_
                rintro e w9 ⟨rfl, hb⟩
                rw [HOS.out]
                have HB9 := Aside0.mk (below_step HBW.out hb)
                clear hb
                go_wp2
                go_ret
                refine ⟨?_, by repeat (first | (with_reducible first | exact HB9.out | apply below_alloc | apply pw_below_drewN | apply below_drew1) | exact HB9.out)⟩
                show Ending.returned _ = Ending.returned _
                congr 1
                simp [Act.put, hne1]
              case pos =>
                have x1 : decide (x48 < (zs.length : Int)) = true := decide_eq_true (by have := HJ.out; omega)
                have x1t : (x48 < (zs.length : Int)) = True := eq_true (by have := HJ.out; omega)
                have x0 : decide (0 ≤ x48) = true := decide_eq_true (by have := HJ.out; omega)
                have x0t : (0 ≤ x48) = True := eq_true (by have := HJ.out; omega)
                obtain ⟨ad', ha, hx⟩ := Kd.at_int (Kd.C_below HC7.out HB.out) x48 (by have := HJ.out; omega) (by have := HJ.out; omega)
                cases ha
                obtain ⟨z, hz⟩ : ∃ q : Int, q = rd zs x48 := ⟨_, rfl⟩
                rw [← hz] at hx
                simp only [add_plain] at hx
                have hgz : zs.getD j 0 = z := by rw [hz, HJ.out]; rfl
                have HDR := Aside0.mk (show zs.drop j = z :: zs.drop (j + 1) from by rw [List.drop_eq_getElem_cons hlt, ← hgz]; simp [List.getD, hlt])
                have hrz : 0 ≤ z ∧ z < 256 := by
                  have h := bytesOf_rng s0
                  rw [HBZ.out] at h
                  refine h z ?_
                  rw [← hgz]
                  simp [List.getD, hlt]
                have HZ1 := Aside0.mk (show bytesOf (strOfNums [z]) = [z] from bytes_back (Rng.cons hrz Rng.nil))
                have HZD := Aside0.mk (show decide (z = 10) = (z == 10) from rfl)
                have HLT2 := Aside0.mk hlt
                have HJW := Aside0.mk (show wrap64 (x48 + 1) = ((j + 1 : Nat) : Int) from by unfold wrap64; have := HJ.out; have := HZB.out; omega)
                have hconv := Kd.C_string (P := Try.prog) (src := 37) (dst := 9) (w := wr.alloc (.cells #[.int .u8 z] 5)) (A := some ⟨wr.heap.size, 0, none⟩) (n := 1) (c := 1) (xs := [z]) Try.underlying37 Try.underlying5 Try.underlying9 (Kd.C_of_reads (enc := Value.int .u8) (d := (0 : Int)) (h1 := fun _ => rfl) ⟨rfl, by omega, fun _ => ⟨_, rfl, fun q hq => by
                  obtain rfl : q = 0 := by omega
                  rw [add_plain]
                  exact (blk_cell (heap_alloc_new wr (.cells #[.int .u8 z] 5)) 0).trans rfl⟩⟩)
                clear hgz hrz hz hlt
                have hol : o.size + 1 + 64 < 9223372036854775807 := by
                  have h1 := congrArg List.length HIN.out
                  have h2 := ap_len (bytesOf o1) zs true
                  have h3 := (HLT.out trivial).1.1
                  have h4 := HZB.out
                  rw [List.length_append, bytesOf_length] at h1
                  rw [bytesOf_length] at h2
                  have h5 : zs.length * (o1.size + 1) ≤ 8589934593 * 65 := Nat.mul_le_mul (by omega) (by omega)
                  omega
                have hp64 := (HLT.out trivial).1.1
                obtain ⟨sz, hsz⟩ : ∃ q : ByteArray, q = strOfNums [z] := ⟨_, rfl⟩
                have hsz1 : sz.size = 1 := by rw [← bytesOf_length, hsz, HZ1.out]; rfl
                have HZ2 := Aside0.mk (show bytesOf sz = [z] from by rw [hsz]; exact HZ1.out)
                rw [← hsz] at hconv
                have hs1 : (9223372036854775807 < o.size + o1.size) = False := eq_false (by omega)
                have hs2 : (9223372036854775807 < o.size + sz.size) = False := eq_false (by omega)
                have hs3 : (9223372036854775807 < o.size + o1.size + sz.size) = False := eq_false (by omega)
                have hs4 : (9223372036854775807 < (o ++ o1).size + sz.size) = False := eq_false (by rw [← bytesOf_length (o ++ o1), bytesOf_app, List.length_append, bytesOf_length, bytesOf_length]; omega)
                clear hol hp64 hsz hsz1
                cases f with
                | true =>
                  as_aux_lemma =>
                    have RI := Aside0.mk (show bytesOf ((o ++ o1) ++ sz) ++ ap (bytesOf o1) (z == 10) (zs.drop (j + 1)) = ap (bytesOf o1) true zs from by
                      rw [← HIN.out, HDR.out]
                      simp only [bytesOf_app, HZ2.out, ap, HZD.out]
                      simp)
                    go_wp2
                    go_roundg (zs.length - (j + 1))
                    case measure => have := HJL.out; have := HLT2.out; omega
                    case rel => exact ⟨j + 1, (o ++ o1) ++ sz, (z == 10), _, rfl, rfl, rfl, HJW, ⟨by have := HJL.out; have := HLT2.out; omega⟩, RI, ⟨below_alloc HB.out _⟩⟩
                | false =>
                  as_aux_lemma =>
                    have RI := Aside0.mk (show bytesOf (o ++ sz) ++ ap (bytesOf o1) (z == 10) (zs.drop (j + 1)) = ap (bytesOf o1) true zs from by
                      rw [← HIN.out, HDR.out]
                      simp only [bytesOf_app, HZ2.out, ap, HZD.out]
                      simp)
                    go_wp2
                    go_roundg (zs.length - (j + 1))
                    case measure => have := HJL.out; have := HLT2.out; omega
                    case rel => exact ⟨j + 1, o ++ sz, (z == 10), _, rfl, rfl, rfl, HJW, ⟨by have := HJL.out; have := HLT2.out; omega⟩, RI, ⟨below_alloc HB.out _⟩⟩
end Go.Proofs.Ytdcigjpgagimdaa.M
