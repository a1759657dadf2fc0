/-
laws.FnPrMember: it answers true at every input.
-/
import Derived.Test.YtdcigjpgagimdaaTop
import Derived.Test.YtdcigjpgagimdaaLay
import Derived.Test.YtdcigjpgagimdaaRng
import Derived.Test.YtdcigjpgagimdaaQt
namespace Go.Proofs.Ytdcigjpgagimdaa.M
open Go Go.RowKit Tx Go.Proofs.YtdcigjpgagimdaaW.PrintWords Go.Proofs.YtdcigjpgagimdaaW.PrintLast Go.Proofs.YtdcigjpgagimdaaW.PrintMore
set_option linter.unusedVariables false
set_option linter.unusedSimpArgs false

def Yes (w : World) (e : Ending) (w' : World) : Prop := e = .returned (.bool true) ∧ Below w.heap.size w w'

theorem fits_f (o0 : Int) (o1 o2 : ByteArray) (o3 : Bool) : ∃ b, laws_zzFits7.f o0 o1 o2 o3 = some b ∧ (b = true → o1.size ≤ 2147483647 ∧ o2.size ≤ 2147483647) := by
  unfold laws_zzFits7.f
  by_cases h1 : (o1.size : Int) > 2147483647
  · exact ⟨false, by rw [if_pos h1], fun h => by cases h⟩
  · by_cases h2 : (o2.size : Int) > 2147483647
    · exact ⟨false, by rw [if_neg h1, if_pos h2], fun h => by cases h⟩
    · exact ⟨true, by rw [if_neg h1, if_neg h2], fun _ => ⟨by omega, by omega⟩⟩

set_option maxHeartbeats 8000000 in
set_option maxRecDepth 100000 in
theorem member_any (a0 a1 : ByteArray) (o0 : Int) (o1 o2 : ByteArray) (o3 : Bool) (w : World) :
    Calls Try.prog 3 #[.string a0, .string a1, .agg #[.int .i64 o0, .string o1, .string o2, .bool o3]] w (Yes w) := by
  have hu23 := Try.underlying23
  have hu28 := Try.underlying28
  have HB := Aside0.mk (below_alloc (Below.refl w.heap.size w) (.cells #[.int .i64 o0, .string o1, .string o2, .bool o3] 23))
  have HK := Aside0.mk (heap_alloc_new w (.cells #[.int .i64 o0, .string o1, .string o2, .bool o3] 23))
  have hg0 : (w.alloc (.cells #[.int .i64 o0, .string o1, .string o2, .bool o3] 23)).cell? ⟨w.heap.size, 0, none⟩ = some (.int .i64 o0) := (blk_cell HK.out 0).trans rfl
  have hg1 : (w.alloc (.cells #[.int .i64 o0, .string o1, .string o2, .bool o3] 23)).cell? ⟨w.heap.size, 1, none⟩ = some (.string o1) := (blk_cell HK.out 1).trans rfl
  have hg2 : (w.alloc (.cells #[.int .i64 o0, .string o1, .string o2, .bool o3] 23)).cell? ⟨w.heap.size, 2, none⟩ = some (.string o2) := (blk_cell HK.out 2).trans rfl
  have hg3 : (w.alloc (.cells #[.int .i64 o0, .string o1, .string o2, .bool o3] 23)).cell? ⟨w.heap.size, 3, none⟩ = some (.bool o3) := (blk_cell HK.out 3).trans rfl
  obtain ⟨bf, hf, hfs⟩ := fits_f o0 o1 o2 o3
  obtain ⟨r1, r2, r3, r4, r5, bp, ep, hp⟩ := places_ev a1
  obtain ⟨kp, hkp⟩ := ep.get
  have HF := Aside0.mk hf
  have HFS := Aside0.mk hfs
  have HP := Aside0.mk hkp
  have HPT := Aside0.mk hp
  clear hf hfs hkp hp ep
  go_enter Try.func3, Try.ntmps3
  by_cases h1 : (a0.size : Int) > 2147483647
  · have h1b : decide (2147483647 < (a0.size : Int)) = true := decide_eq_true h1
    have h1c : decide (2147483647 < a0.size) = true := decide_eq_true (by omega)
    clear h1
    as_aux_lemma =>
      go_wp2
      go_ret
      exact ⟨rfl, by repeat (first | (with_reducible first | exact HB.out | apply below_alloc | apply pw_below_drewN | apply below_drew1) | exact HB.out)⟩
  by_cases h2 : (a1.size : Int) > 2147483647
  · have h1b : decide (2147483647 < (a0.size : Int)) = false := decide_eq_false h1
    have h1c : decide (2147483647 < a0.size) = false := decide_eq_false (by omega)
    have h2b : decide (2147483647 < (a1.size : Int)) = true := decide_eq_true h2
    have h2c : decide (2147483647 < a1.size) = true := decide_eq_true (by omega)
    clear h1 h2
    as_aux_lemma =>
      go_wp2
      go_ret
      exact ⟨rfl, by repeat (first | (with_reducible first | exact HB.out | apply below_alloc | apply pw_below_drewN | apply below_drew1) | exact HB.out)⟩
  · have h1b : decide (2147483647 < (a0.size : Int)) = false := decide_eq_false h1
    have h1c : decide (2147483647 < a0.size) = false := decide_eq_false (by omega)
    have h2b : decide (2147483647 < (a1.size : Int)) = false := decide_eq_false h2
    have h2c : decide (2147483647 < a1.size) = false := decide_eq_false (by omega)
    have HL0 := Aside0.mk (show a0.size ≤ 2147483647 by omega)
    have HL1 := Aside0.mk (show a1.size ≤ 2147483647 by omega)
    clear h1 h2
    go_wp2_with fail
    refine (laws_zzFits7.calls o0 o1 o2 o3 bf _ HF.out).mono ?_
    rintro e w1 ⟨rfl, hb⟩
    have HB1 := Aside0.mk (below_step HB.out hb)
    have HK1 := Aside0.mk (blk_below HK.out hb)
    clear hb hg0 hg1 hg2 hg3 HK HB
    cases bf with
    | false =>
      as_aux_lemma =>
        go_wp2
        go_ret
        exact ⟨rfl, by repeat (first | (with_reducible first | exact HB1.out | apply below_alloc | apply pw_below_drewN | apply below_drew1 | refine below_set ?_ (by omega)) | exact HB1.out)⟩
    | true =>
      go_wp2_with fail
      refine (laws_prPlaces.calls kp a1 r1 r2 r3 r4 r5 bp _ HP.out).mono ?_
      rintro e w2 ⟨v3, v4, rfl, ho3, ho4, hb⟩
      obtain ⟨a3, q3, rfl⟩ := Kd.R_slice ho3
      obtain ⟨a4, q4, rfl⟩ := Kd.R_slice ho4
      clear ho3 ho4
      have HB2 := Aside0.mk (below_step HB1.out hb)
      have HK2 := Aside0.mk (blk_below HK1.out hb)
      clear hb HB1 HK1
      cases bp with
      | false =>
        as_aux_lemma =>
          go_wp2
          go_ret
          exact ⟨rfl, by repeat (first | (with_reducible first | exact HB2.out | apply below_alloc | apply pw_below_drewN | apply below_drew1 | refine below_set ?_ (by omega)) | exact HB2.out)⟩
      | true =>
        have HB3 := Aside0.mk (below_alloc HB2.out (.cells #[.int .i64 r1, .int .i64 r2, .int .i64 r3, .slice a3 r4.length q3, .slice a4 r5.length q4] 28))
        have HK3 := Aside0.mk (blk_alloc HK2.out (.cells #[.int .i64 r1, .int .i64 r2, .int .i64 r3, .slice a3 r4.length q3, .slice a4 r5.length q4] 28))
        go_upto_region 4 with (fail)
        generalize w2.alloc (.cells #[.int .i64 r1, .int .i64 r2, .int .i64 r3, .slice a3 r4.length q3, .slice a4 r5.length q4] 28) = w3 at HB3 HK3 ⊢
        clear HB2 HK2
        have hg0 : w3.cell? ⟨w.heap.size, 0, none⟩ = some (.int .i64 o0) := (blk_cell HK3.out 0).trans rfl
        have hg1 : w3.cell? ⟨w.heap.size, 1, none⟩ = some (.string o1) := (blk_cell HK3.out 1).trans rfl
        have hg2 : w3.cell? ⟨w.heap.size, 2, none⟩ = some (.string o2) := (blk_cell HK3.out 2).trans rfl
        have hg3 : w3.cell? ⟨w.heap.size, 3, none⟩ = some (.bool o3) := (blk_cell HK3.out 3).trans rfl
        have hws : wrap64 ((a1.size : Int) + (a0.size : Int)) = (a1.size : Int) + (a0.size : Int) := by have := HL0.out; have := HL1.out; unfold wrap64; omega
        have hwi : IntKind.i64.wrap ((a1.size : Int) + (a0.size : Int)) = (a1.size : Int) + (a0.size : Int) := by rw [i64_w]; exact hws
        by_cases h3 : (a1.size : Int) + (a0.size : Int) > 2048
        · have h3b : decide (2048 < (a1.size : Int) + (a0.size : Int)) = true := decide_eq_true h3
          have h3c : (2048 < (a1.size : Int) + (a0.size : Int)) = True := eq_true h3
          clear h3
          as_aux_lemma =>
            go_wp2
            go_ret
            exact ⟨rfl, by repeat (first | (with_reducible first | exact HB3.out | apply below_alloc | apply pw_below_drewN | apply below_drew1) | exact HB3.out)⟩
        have h3b : decide (2048 < (a1.size : Int) + (a0.size : Int)) = false := decide_eq_false h3
        have h3c : (2048 < (a1.size : Int) + (a0.size : Int)) = False := eq_false h3
        have HSZ := Aside0.mk (show a1.size + a0.size ≤ 2048 by omega)
        clear h3
        by_cases h4 : o0 = 0
        case neg =>
          have h4b : (o0 != 0) = true := bne_iff_ne.mpr h4
          have h4c : (o0 == 0) = false := beq_eq_false_iff_ne.mpr h4
          as_aux_lemma =>
            go_wp2
            go_ret
            exact ⟨rfl, by repeat (first | (with_reducible first | exact HB3.out | apply below_alloc | apply pw_below_drewN | apply below_drew1) | exact HB3.out)⟩
        subst h4
        have HS := Aside0.mk (HFS.out trivial)
        obtain ⟨bl, el, hl⟩ := oneLine_ev 0 o1 o2 o3 (by have := HS.out; omega) (by have := HS.out; omega)
        obtain ⟨kl, hkl⟩ := el.get
        have HL := Aside0.mk hkl
        have HLT := Aside0.mk hl
        clear hkl hl el
        go_wp2_with fail
        refine (laws_prOneLine.calls kl 0 o1 o2 o3 bl _ HL.out).mono ?_
        rintro e w4 ⟨rfl, hb⟩
        have HB4 := Aside0.mk (below_step HB3.out hb)
        have HK4 := Aside0.mk (blk_below HK3.out hb)
        clear hb HB3 HK3 hg0 hg1 hg2 hg3
        have hg0 : w4.cell? ⟨w.heap.size, 0, none⟩ = some (.int .i64 0) := (blk_cell HK4.out 0).trans rfl
        have hg1 : w4.cell? ⟨w.heap.size, 1, none⟩ = some (.string o1) := (blk_cell HK4.out 1).trans rfl
        have hg2 : w4.cell? ⟨w.heap.size, 2, none⟩ = some (.string o2) := (blk_cell HK4.out 2).trans rfl
        have hg3 : w4.cell? ⟨w.heap.size, 3, none⟩ = some (.bool o3) := (blk_cell HK4.out 3).trans rfl
        cases bl with
        | false =>
          as_aux_lemma =>
            go_wp2
            go_ret
            exact ⟨rfl, by repeat (first | (with_reducible first | exact HB4.out | apply below_alloc | apply pw_below_drewN | apply below_drew1) | exact HB4.out)⟩
        | true =>
          cases o3 with
          | true =>
            as_aux_lemma =>
              go_wp2
              go_ret
              exact ⟨rfl, by repeat (first | (with_reducible first | exact HB4.out | apply below_alloc | apply pw_below_drewN | apply below_drew1) | exact HB4.out)⟩
          | false =>
            obtain ⟨bu, eu⟩ := utf8_ev a0 (by have := HSZ.out; omega)
            obtain ⟨ku, hku⟩ := eu.get
            have HU := Aside0.mk hku
            clear hku eu
            go_wp2_with fail
            refine (spec_UTF8.calls ku a0 bu _ HU.out).mono ?_
            rintro e w5 ⟨rfl, ⟨nu, hw5⟩⟩
            have HB5 := Aside0.mk (show Below w.heap.size w w5 by subst hw5; apply pw_below_drewN; exact HB4.out)
            have HK5 := Aside0.mk (show w5.heap[w.heap.size]? = some (.cells #[.int .i64 0, .string o1, .string o2, .bool false] 23 (0, 0)) by subst hw5; exact blk_drewN HK4.out nu)
            clear hw5 hg0 hg1 hg2 hg3 HB4 HK4
            have hg0 : w5.cell? ⟨w.heap.size, 0, none⟩ = some (.int .i64 0) := (blk_cell HK5.out 0).trans rfl
            have hg1 : w5.cell? ⟨w.heap.size, 1, none⟩ = some (.string o1) := (blk_cell HK5.out 1).trans rfl
            have hg2 : w5.cell? ⟨w.heap.size, 2, none⟩ = some (.string o2) := (blk_cell HK5.out 2).trans rfl
            have hg3 : w5.cell? ⟨w.heap.size, 3, none⟩ = some (.bool false) := (blk_cell HK5.out 3).trans rfl
            cases bu with
            | false =>
              as_aux_lemma =>
                go_wp2
                go_ret
                exact ⟨rfl, by repeat (first | (with_reducible first | exact HB5.out | apply below_alloc | apply pw_below_drewN | apply below_drew1) | exact HB5.out)⟩
            | true =>
              have hle5 : w.heap.size < w5.heap.size := blk_lt HK5.out
              have hx1 : (w5.alloc (.cells #[.int .i64 0, .string o1, .string o2, .bool false] 23)).cell? ⟨w.heap.size, 1, none⟩ = some (.string o1) := (blk_cell (blk_alloc HK5.out _) 1).trans rfl
              have hx2 : (w5.alloc (.cells #[.int .i64 0, .string o1, .string o2, .bool false] 23)).cell? ⟨w.heap.size, 2, none⟩ = some (.string o2) := (blk_cell (blk_alloc HK5.out _) 2).trans rfl
              have hs1 : (9223372036854775807 < o1.size + o2.size) = False := eq_false (by have := HS.out; omega)
              go_upto_region 8 with (fail)
              have HB6 := Aside0.mk (below_alloc HB5.out (.cells #[.int .i64 0, .string (o1 ++ o2), .string o2, .bool false] 23))
              have HK6 := Aside0.mk (blk_alloc HK5.out (.cells #[.int .i64 0, .string (o1 ++ o2), .string o2, .bool false] 23))
              have HM6 := Aside0.mk (heap_alloc_new w5 (.cells #[.int .i64 0, .string (o1 ++ o2), .string o2, .bool false] 23))
              obtain ⟨op, hop⟩ : ∃ q : ByteArray, q = o1 ++ o2 := ⟨_, rfl⟩
              rw [← hop] at HB6 HK6 HM6
              rw [← hop]
              have HOP := Aside0.mk hop
              generalize w5.alloc (.cells #[.int .i64 0, .string op, .string o2, .bool false] 23) = w6 at HB6 HK6 HM6 ⊢
              clear hop hx1 hx2 hs1 hg0 hg1 hg2 hg3 HB5 HK5
              obtain ⟨ht, c, junk, rest, hok, htx, hjb, hrb⟩ := HPT.out trivial
              have HTX := Aside0.mk htx
              have HOK := Aside0.mk hok
              have HJW := Aside0.mk hjb
              have HRW := Aside0.mk hrb
              have HJB := Aside0.mk (show ∀ x ∈ junk, x ≤ 32 ∨ x = 44 ∨ x = 58 from fun x hx => .inl (hjb x hx).le)
              have HST := Aside0.mk (show StopAt rest from by
                cases rest with
                | nil => exact .inl rfl
                | cons z r => exact .inr ⟨z, r, rfl, (hrb z (by simp)).stop⟩)
              have HTL := Aside0.mk ht
              have HCL := Aside0.mk (show c.text.length ≤ 4096 by have h := congrArg List.length htx; rw [bytesOf_length, List.length_append, List.length_append] at h; omega)
              clear htx hok hjb hrb ht
              have hd64 : (bytesOf o2).length ≤ 64 := by have := (HLT.out trivial).2.1; rw [bytesOf_length]; exact this
              have hp64 : (bytesOf o1).length ≤ 64 := by have := (HLT.out trivial).1.1; rw [bytesOf_length]; exact this
              have hopb : bytesOf op = bytesOf o1 ++ bytesOf o2 := by rw [HOP.out, bytesOf_app]
              have HSM := Aside0.mk (Cst.lay_small (bytesOf op) (bytesOf o2) (by rw [hopb, List.length_append]; omega) hd64 c HOK.out HCL.out)
              have HPL := Aside0.mk (show (bytesOf op).length ≤ 128 by rw [hopb, List.length_append]; omega)
              have HP1 := Aside0.mk hp64
              have HD1 := Aside0.mk hd64
              have HOB := Aside0.mk hopb
              clear hd64 hp64 hopb
              obtain ⟨zs, hzs⟩ : ∃ q : List Int, q = bytesOf op ++ (c.lay (bytesOf op) (bytesOf o2) 0 ++ [10]) := ⟨_, rfl⟩
              obtain ⟨s0, hs0⟩ : ∃ q : ByteArray, q = strOfNums zs := ⟨_, rfl⟩
              obtain ⟨m1, hm1⟩ : ∃ q : ByteArray, q = strOfNums (c.lay (bytesOf op) (bytesOf o2) 0) := ⟨_, rfl⟩
              have hrt : Rng c.text := by
                have h := bytesOf_rng a1
                rw [HTX.out] at h
                exact h.right.left
              have hrl : Rng (c.lay (bytesOf op) (bytesOf o2) 0) := Cst.lay_rng (bytesOf op) (bytesOf o2) (bytesOf_rng op) (bytesOf_rng o2) c hrt 0
              have hrz : Rng zs := by
                rw [hzs]
                exact (bytesOf_rng op).app (hrl.app (Rng.cons (by decide) Rng.nil))
              have HM1 := Aside0.mk (show bytesOf m1 = c.lay (bytesOf op) (bytesOf o2) 0 by rw [hm1]; exact bytes_back hrl)
              have HS0 := Aside0.mk (show bytesOf s0 = bytesOf op ++ (bytesOf m1 ++ [10]) by rw [hs0, bytes_back hrz, hzs, HM1.out])
              have HSS := Aside0.mk (show strOfNums (bytesOf op ++ (c.lay (bytesOf op) (bytesOf o2) 0 ++ [10])) = s0 by rw [← hzs, hs0])
              have HLA := Aside0.mk (later_ev s0 op m1 (by
                have h := congrArg List.length HS0.out
                rw [bytesOf_length, List.length_append, List.length_append, HM1.out, List.length_singleton] at h
                have := HSM.out.1
                have := HPL.out
                omega) HS0.out)
              clear hzs hs0 hm1 hrt hrl hrz
              have hm0 : w6.cell? ⟨w5.heap.size, 0, none⟩ = some (.int .i64 0) := (blk_cell HM6.out 0).trans rfl
              have hm1 : w6.cell? ⟨w5.heap.size, 1, none⟩ = some (.string op) := (blk_cell HM6.out 1).trans rfl
              have hm2 : w6.cell? ⟨w5.heap.size, 2, none⟩ = some (.string o2) := (blk_cell HM6.out 2).trans rfl
              have hm3 : w6.cell? ⟨w5.heap.size, 3, none⟩ = some (.bool false) := (blk_cell HM6.out 3).trans rfl
              go_region_held3 (fun W => W.cell? ⟨w5.heap.size, 0, none⟩ = some (.int .i64 0) ∧ W.cell? ⟨w5.heap.size, 1, none⟩ = some (.string op) ∧ W.cell? ⟨w5.heap.size, 2, none⟩ = some (.string o2) ∧ W.cell? ⟨w5.heap.size, 3, none⟩ = some (.bool false)) (go_keep)
                (first | (go_at_call 10; refine (pretty_fits c junk rest a1 op o2 _ HOK.out HTX.out HJB.out HST.out (by have := HTL.out; omega) (by have := HSM.out.2; omega) (by have := HSM.out.1; have := HPL.out; omega)).mono ?_; rintro e w7 ⟨rfl, hb⟩; rw [HSS.out]; have HB7 := Aside0.mk (below_step (by repeat (first | exact HB6.out | apply pw_below_drewN | apply below_drew1)) hb); have HK7 := Aside0.mk (blk_below (by first | exact HK6.out | exact blk_drewN HK6.out _) hb); have HM7 := Aside0.mk (blk_below (by first | exact HM6.out | exact blk_drewN HM6.out _) hb); clear hb; have hn0 : w7.cell? ⟨w5.heap.size, 0, none⟩ = some (.int .i64 0) := (blk_cell HM7.out 0).trans rfl; have hn1 : w7.cell? ⟨w5.heap.size, 1, none⟩ = some (.string op) := (blk_cell HM7.out 1).trans rfl; have hn2 : w7.cell? ⟨w5.heap.size, 2, none⟩ = some (.string o2) := (blk_cell HM7.out 2).trans rfl; have hn3 : w7.cell? ⟨w5.heap.size, 3, none⟩ = some (.bool false) := (blk_cell HM7.out 3).trans rfl) | (go_at_call 9; refine (laws_prLater.calls s0 op m1 true _ HLA.out).mono ?_; rintro e w8 ⟨rfl, ⟨n8, rfl⟩⟩))
              clear hn0 hn1 hn2 hn3 hm0 hm1 hm2 hm3
              rename_i hHeld
              clear hHeld
              obtain ⟨q, eq, hqt, hql⟩ := quote_ev a0 (by have := HSZ.out; omega)
              obtain ⟨kq, hkq⟩ := eq.get
              have HQ := Aside0.mk hkq
              have HQT := Aside0.mk hqt
              have HQL := Aside0.mk hql
              clear eq hkq hqt hql
              go_wp2_with fail
              refine (spec_Quote.calls kq a0 q _ HQ.out).mono ?_
              rintro e w9 ⟨rfl, hb⟩
              have HB9 := Aside0.mk (below_step (by repeat (first | exact HB7.out | apply pw_below_drewN | apply below_drew1)) hb)
              have HK9 := Aside0.mk (blk_below (by first | exact HK7.out | exact blk_drewN HK7.out _) hb)
              have HM9 := Aside0.mk (blk_below (by first | exact HM7.out | exact blk_drewN HM7.out _) hb)
              clear hb HB7 HK7 HM7 HB6 HK6 HM6
              have hg0 : w9.cell? ⟨w.heap.size, 0, none⟩ = some (.int .i64 0) := (blk_cell HK9.out 0).trans rfl
              have hg1 : w9.cell? ⟨w.heap.size, 1, none⟩ = some (.string o1) := (blk_cell HK9.out 1).trans rfl
              have hg2 : w9.cell? ⟨w.heap.size, 2, none⟩ = some (.string o2) := (blk_cell HK9.out 2).trans rfl
              have hg3 : w9.cell? ⟨w.heap.size, 3, none⟩ = some (.bool false) := (blk_cell HK9.out 3).trans rfl
              have hm1 : w9.cell? ⟨w5.heap.size, 1, none⟩ = some (.string op) := (blk_cell HM9.out 1).trans rfl
              have HMZ := Aside0.mk (show m1.size < 8589934592 by rw [← bytesOf_length, HM1.out]; exact HSM.out.1)
              have HPZ := Aside0.mk (show op.size ≤ 128 by rw [← bytesOf_length]; exact HPL.out)
              have hz0 : (9223372036854775807 < 1 + q.size) = False := eq_false (by have := HQL.out; have := HSZ.out; have := HS.out; have := HMZ.out; have := HPZ.out; omega)
              have hz2 : (9223372036854775807 < 1 + q.size + 1) = False := eq_false (by have := HQL.out; have := HSZ.out; have := HS.out; have := HMZ.out; have := HPZ.out; omega)
              have hz4 : (9223372036854775807 < 1 + q.size + 1 + a1.size) = False := eq_false (by have := HQL.out; have := HSZ.out; have := HS.out; have := HMZ.out; have := HPZ.out; omega)
              have hz6 : (9223372036854775807 < 1 + q.size + 1 + a1.size + 1) = False := eq_false (by have := HQL.out; have := HSZ.out; have := HS.out; have := HMZ.out; have := HPZ.out; omega)
              have hz8 : (9223372036854775807 < o1.size + 2) = False := eq_false (by have := HQL.out; have := HSZ.out; have := HS.out; have := HMZ.out; have := HPZ.out; omega)
              have hz10 : (9223372036854775807 < o1.size + 2 + op.size) = False := eq_false (by have := HQL.out; have := HSZ.out; have := HS.out; have := HMZ.out; have := HPZ.out; omega)
              have hz12 : (9223372036854775807 < o1.size + 2 + op.size + q.size) = False := eq_false (by have := HQL.out; have := HSZ.out; have := HS.out; have := HMZ.out; have := HPZ.out; omega)
              have hz14 : (9223372036854775807 < o1.size + 2 + op.size + q.size + 2) = False := eq_false (by have := HQL.out; have := HSZ.out; have := HS.out; have := HMZ.out; have := HPZ.out; omega)
              have hz16 : (9223372036854775807 < o1.size + 2 + op.size + q.size + 2 + m1.size) = False := eq_false (by have := HQL.out; have := HSZ.out; have := HS.out; have := HMZ.out; have := HPZ.out; omega)
              have hz18 : (9223372036854775807 < o1.size + 2 + op.size + q.size + 2 + m1.size + 1) = False := eq_false (by have := HQL.out; have := HSZ.out; have := HS.out; have := HMZ.out; have := HPZ.out; omega)
              have hz20 : (9223372036854775807 < o1.size + 2 + op.size + q.size + 2 + m1.size + 1 + o1.size) = False := eq_false (by have := HQL.out; have := HSZ.out; have := HS.out; have := HMZ.out; have := HPZ.out; omega)
              have hz22 : (9223372036854775807 < o1.size + 2 + op.size + q.size + 2 + m1.size + 1 + o1.size + 2) = False := eq_false (by have := HQL.out; have := HSZ.out; have := HS.out; have := HMZ.out; have := HPZ.out; omega)
              obtain ⟨C, hC⟩ : ∃ C : Cst, C = .box true (.cons [] (bytesOf q) (58 :: junk) c (.fin rest)) := ⟨_, rfl⟩
              have HCO := Aside0.mk (show C.ok by
                rw [hC]
                simp only [Cst.ok, Its.ok, if_true]
                refine ⟨⟨by simp, by simp, HQT.out, fun x hx => ?_⟩, HOK.out, HRW.out⟩
                rcases List.mem_cons.mp hx with h | h
                · exact .inr h
                · exact .inl (HJW.out x h))
              obtain ⟨t9, ht9⟩ : ∃ t9 : ByteArray, t9 = (⟨#[123]⟩ : ByteArray) ++ q ++ ⟨#[58]⟩ ++ a1 ++ ⟨#[125]⟩ := ⟨_, rfl⟩
              have HT9 := Aside0.mk ht9
              have HCT := Aside0.mk (show bytesOf t9 = [] ++ (C.text ++ []) by
                have e1 : bytesOf (⟨#[123]⟩ : ByteArray) = [123] := rfl
                have e2 : bytesOf (⟨#[58]⟩ : ByteArray) = [58] := rfl
                have e3 : bytesOf (⟨#[125]⟩ : ByteArray) = [125] := rfl
                rw [ht9, hC]
                simp [bytesOf_app, e1, e2, e3, HTX.out, Cst.text, Its.text, opn, cls])
              have HTZ := Aside0.mk (show t9.size < 1099511627776 by
                rw [ht9]
                have e1 : (⟨#[123]⟩ : ByteArray).size = 1 := rfl
                have e2 : (⟨#[58]⟩ : ByteArray).size = 1 := rfl
                have e3 : (⟨#[125]⟩ : ByteArray).size = 1 := rfl
                simp only [ByteArray.size_append, e1, e2, e3]
                have := HQL.out
                have := HSZ.out
                omega)
              have HCZ := Aside0.mk (show C.size < 1099511627776 by
                rw [hC]
                simp only [Cst.size, Its.size]
                have := HSM.out.2
                omega)
              have hly : C.lay (bytesOf o1) (bytesOf o2) 0 = 123 :: (10 :: (bytesOf op ++ (bytesOf q ++ ([58, 32] ++ (bytesOf m1 ++ (10 :: (bytesOf o1 ++ [125]))))))) := by
                rw [hC, HM1.out, HOB.out, Cst.lay_shift]
                simp [Cst.lay, Its.lay, opn, cls, tabs]
              have HLL := Aside0.mk (show (bytesOf o1).length + (C.lay (bytesOf o1) (bytesOf o2) 0).length + 1 < 140737488355328 by
                rw [hly]
                simp only [List.length_cons, List.length_append, List.length_nil, bytesOf_length]
                have := HQL.out
                have := HSZ.out
                have := HMZ.out
                have := HPZ.out
                have h1 := HP1.out
                rw [bytesOf_length] at h1
                omega)
              obtain ⟨big, hbig⟩ : ∃ big : ByteArray, big = o1 ++ ⟨#[123, 10]⟩ ++ op ++ q ++ ⟨#[58, 32]⟩ ++ m1 ++ ⟨#[10]⟩ ++ o1 ++ ⟨#[125, 10]⟩ := ⟨_, rfl⟩
              have HBG := Aside0.mk (show strOfNums (bytesOf o1 ++ (C.lay (bytesOf o1) (bytesOf o2) 0 ++ [10])) = big by
                have hb2 : bytesOf big = bytesOf o1 ++ (C.lay (bytesOf o1) (bytesOf o2) 0 ++ [10]) := by
                  have e1 : bytesOf (⟨#[123, 10]⟩ : ByteArray) = [123, 10] := rfl
                  have e2 : bytesOf (⟨#[58, 32]⟩ : ByteArray) = [58, 32] := rfl
                  have e3 : bytesOf (⟨#[10]⟩ : ByteArray) = [10] := rfl
                  have e4 : bytesOf (⟨#[125, 10]⟩ : ByteArray) = [125, 10] := rfl
                  rw [hbig, hly]
                  simp [bytesOf_app, e1, e2, e3, e4]
                rw [← hb2]
                exact bytesOf_inj (bytes_back (bytesOf_rng big)))
              have HBE := Aside0.mk hbig
              clear hC ht9 hly hbig
              go_upto_region 10 with (fail)
              go_region_held3 (fun W => W.cell? ⟨w.heap.size, 0, none⟩ = some (.int .i64 0) ∧ W.cell? ⟨w.heap.size, 1, none⟩ = some (.string o1) ∧ W.cell? ⟨w.heap.size, 2, none⟩ = some (.string o2) ∧ W.cell? ⟨w.heap.size, 3, none⟩ = some (.bool false) ∧ W.cell? ⟨w5.heap.size, 1, none⟩ = some (.string op)) (go_keep)
                (first | (go_at_call 10; rw [← HT9.out]; refine (pretty_fits C [] [] t9 o1 o2 _ HCO.out HCT.out (by simp) (.inl rfl) HTZ.out HCZ.out HLL.out).mono ?_; rintro e w10 ⟨rfl, hb⟩; rw [HBG.out]; have HB10 := Aside0.mk (below_step (by repeat (first | exact HB9.out | apply pw_below_drewN | apply below_drew1)) hb); have HK10 := Aside0.mk (blk_below (by first | exact HK9.out | exact blk_drewN HK9.out _) hb); have HM10 := Aside0.mk (blk_below (by first | exact HM9.out | exact blk_drewN HM9.out _) hb); clear hb; have hn0 : w10.cell? ⟨w.heap.size, 0, none⟩ = some (.int .i64 0) := (blk_cell HK10.out 0).trans rfl; have hn1 : w10.cell? ⟨w.heap.size, 1, none⟩ = some (.string o1) := (blk_cell HK10.out 1).trans rfl; have hn2 : w10.cell? ⟨w.heap.size, 2, none⟩ = some (.string o2) := (blk_cell HK10.out 2).trans rfl; have hn3 : w10.cell? ⟨w.heap.size, 3, none⟩ = some (.bool false) := (blk_cell HK10.out 3).trans rfl; have hn4 : w10.cell? ⟨w5.heap.size, 1, none⟩ = some (.string op) := (blk_cell HM10.out 1).trans rfl))
              have hbb : (big.toList == (o1 ++ ⟨#[123, 10]⟩ ++ op ++ q ++ ⟨#[58, 32]⟩ ++ m1 ++ ⟨#[10]⟩ ++ o1 ++ ⟨#[125, 10]⟩).toList) = true := by
                rw [← HBE.out]
                exact beq_self_eq_true _
              rw [hbb]
              go_wp2
              go_ret
              exact ⟨rfl, by repeat (first | (with_reducible first | exact HB10.out | apply below_alloc | apply pw_below_drewN | apply below_drew1) | exact HB10.out)⟩
end Go.Proofs.Ytdcigjpgagimdaa.M
