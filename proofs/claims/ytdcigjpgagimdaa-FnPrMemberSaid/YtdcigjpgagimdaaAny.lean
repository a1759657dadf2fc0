/-
What appendPrettyAny comes to on a text of a tree: its layout.
Printed by a small program of this work (wip/gen_any.py).
-/
import Derived.Test.YtdcigjpgagimdaaObj
namespace Go.Proofs.Ytdcigjpgagimdaa.M
open Go.RowKit Tx Go.Proofs.YtdcigjpgagimdaaW.PrintWords Go.Proofs.YtdcigjpgagimdaaW.PrintLast Go.Proofs.YtdcigjpgagimdaaW.PrintMore
set_option linter.unusedVariables false
set_option linter.unusedSimpArgs false

theorem nan_f {z : Int} {r l : List Int} (hl : l = z :: r) (h1 : z ≠ 105) (h2 : z ≠ 73) (h3 : z ≠ 43) (h4 : z ≠ 78) (h5 : z = 110 → ∃ r', r = 117 :: r') : pretty_isNaNOrInf.f l = some false := by
  subst hl
  have e : rd (z :: r) 0 = z := rfl
  unfold pretty_isNaNOrInf.f
  rw [e, if_neg h1, if_neg h2, if_neg h3, if_neg h4, if_pos (by simp only [List.length_cons]; omega)]
  by_cases h : z = 110
  · obtain ⟨r', hr⟩ := h5 h
    subst hr
    have e2 : rd (z :: 117 :: r') 1 = 117 := rfl
    rw [if_pos h, if_pos (by simp only [List.length_cons]; omega), if_pos (by simp only [List.length_cons]; omega), e2]
    rfl
  · rw [if_neg h]

set_option maxHeartbeats 60000000 in
set_option maxRecDepth 100000 in
theorem any_fits (p d : ByteArray) (N : Nat) (ihA : ObjFits p d N false) (ihO : ObjFits p d N true) : AnyFits p d (N + 1) := by
  intro c w0 w ad c1 l v xs a2 i n a8 nl junk rest hsz hok hi hn hns hd hju hst hl hB hC hc hb hL
  have HI := Aside0.mk hi
  have HB := Aside0.mk hB
  have HC := Aside0.mk hC
  have HC1 := Aside0.mk hc
  have HO := Aside0.mk hb
  have HLL := Aside0.mk hl
  have HNS := Aside0.mk hns
  have HN := Aside0.mk hn
  have HSZ := Aside0.mk hsz
  have HL := Aside0.mk hL
  have HOK := Aside0.mk hok
  have HST := Aside0.mk hst
  have HD := Aside0.mk hd
  have HJU := Aside0.mk hju
  obtain ⟨hv1, hv2⟩ : 0 < c.text.length ∧ True := ⟨by obtain ⟨z, r, h, _⟩ := c.text_head hok; rw [h]; simp, trivial⟩
  have HVN := Aside0.mk hv1
  have HLN := Aside0.mk (show i + junk.length + c.text.length + rest.length = l.length from by have h := congrArg List.length hd; simp only [List.length_drop, List.length_append] at h; omega)
  clear hB hC hc hb hl hns hn hsz hi hd hL hok hst hju hv1 hv2
  go_enter Try.func21, Try.ntmps21
  go_wp2
  (try simp only [Act.put, List.setIfInBounds_toArray, List.set_cons_succ, List.set_cons_zero])
  go_loopg [2] (l.length - i) (fun kq v2 w' => ∃ (j : Nat) (x2 : Int) (ju : List Int), v2 = .int .i64 x2 ∧ Aside0 (x2 = (j : Int)) ∧ Aside0 (kq + j = l.length) ∧ Aside0 (l.drop j = ju ++ (c.text ++ rest)) ∧ Aside0 (∀ x ∈ ju, x ≤ 32 ∨ x = 44 ∨ x = 58) ∧ Aside0 (j + ju.length = i + junk.length) ∧ Aside0 (Buf w0 w' v xs) ∧ Aside0 (Below w0.heap.size w0 w'))
  case atStart => exact ⟨i, a2, junk, rfl, HI, ⟨by have := HLN.out; omega⟩, HD, HJU, ⟨rfl⟩, ⟨by ((with_reducible repeat (first | apply Kd.R_alloc | apply Kd.R_drewN | apply Kd.R_drew)); exact HO.out)⟩, ⟨by repeat (first | (with_reducible first | exact HB.out | apply below_alloc | apply pw_below_drewN | apply below_drew1) | exact HB.out)⟩⟩
  case round =>
    clear HO HB HD HJU HI
    obtain ⟨j, x2, ju, rfl, HJ, HK2, HD2, HJU, HJL, HO2, HB2⟩ := hrel
    cases gk with
    | zero =>
      exfalso
      have h1 := HK2.out
      have h2 := HLN.out
      have h3 := HJL.out
      have h4 := HVN.out
      omega
    | succ k2 =>
      have c1b : decide (x2 < (l.length : Int)) = true := decide_eq_true (by have := HJ.out; have := HK2.out; omega)
      have c1t : (x2 < (l.length : Int)) = True := eq_true (by have := HJ.out; have := HK2.out; omega)
      have c2b : decide (0 ≤ x2) = true := decide_eq_true (by have := HJ.out; omega)
      have c2t : (0 ≤ x2) = True := eq_true (by have := HJ.out; omega)
      have HRD : ∀ z r, l.drop j = z :: r → Aside0 (wr.cell? (ad.add x2.toNat) = some (.int .u8 z)) := by
        intro z r hz
        obtain ⟨ad', ha, hc⟩ := js_cell HC.out HB2.out x2 (by have := HJ.out; omega) (by have := HJ.out; have := HK2.out; omega)
        cases ha
        obtain ⟨_, _, hg⟩ := drop_cons hz
        have : rd l x2 = z := by rw [HJ.out]; exact hg
        rw [this] at hc
        exact ⟨hc⟩
      have HWI := Aside0.mk (show wrap64 (x2 + 1) = ((j + 1 : Nat) : Int) from by have := HJ.out; have := HLL.out; have := HK2.out; unfold wrap64; omega)
      cases ju with
      | cons z ju =>
        have hd := HD2.out
        rw [List.cons_append] at hd
        have hx := (HRD z _ hd).out
        have HDZ := Aside0.mk hd
        have R1 := Aside0.mk (drop_cons hd).2.1
        have R2 := Aside0.mk (show ∀ x ∈ ju, x ≤ 32 ∨ x = 44 ∨ x = 58 from fun x hx => HJU.out x (by simp [hx]))
        have R3 := Aside0.mk (show j + 1 + ju.length = i + junk.length by have := HJL.out; simp only [List.length_cons] at this; omega)
        have hz := HJU.out z (by simp)
        clear hd HRD HJU HD2 HJL
        rcases hz with hz | hz | hz
        · have c3 : decide (z ≤ 32) = true := decide_eq_true hz
          go_wp2
          go_roundg k2
          case measure => omega
          case rel => exact ⟨j + 1, wrap64 (x2 + 1), ju, rfl, HWI, ⟨by have := HK2.out; omega⟩, R1, R2, R3, ⟨by ((with_reducible repeat (first | apply Kd.R_alloc | apply Kd.R_drewN | apply Kd.R_drew)); exact HO2.out)⟩, ⟨by repeat (first | (with_reducible first | exact HB2.out | apply below_alloc | apply pw_below_drewN | apply below_drew1) | exact HB2.out)⟩⟩
        · subst hz
          as_aux_lemma =>
            have H117 := Aside0.mk (show (44 : Int) = 110 → ∃ r' : List Int, (ju ++ (c.text ++ rest)) = 117 :: r' from fun h => by omega)
            have q26 : (x2 : Int) ≤ ((l.length : Int) : Int) := by have := HJ.out; have := HK2.out; omega
            obtain ⟨i026, hi026, _, hsz26, _⟩ := info_parts info5
            have hcut26 := cut_from (P := Try.prog) 37 5 .i64 Try.underlying37 hi026 1 hsz26 (some ad) l.length c1 x2 (by have := HJ.out; omega) q26
            have hr26 := Kd.C_drop (m := (x2 : Int).toNat) (c := c1) (Kd.C_below HC.out HB2.out) (by have := HJ.out; omega) HC1.out
            obtain ⟨A26, hA26⟩ : ∃ z_, z_ = (if c1 = (x2 : Int).toNat then (some ad) else ((some ad) : Option Addr).map (·.add ((x2 : Int).toNat * 1))) := ⟨_, rfl⟩
            obtain ⟨c26, hc26⟩ : ∃ z_, z_ = c1 - (x2 : Int).toNat := ⟨_, rfl⟩
            obtain ⟨y26, hyy26⟩ : ∃ q : List Int, q = l.drop (x2 : Int).toNat := ⟨_, rfl⟩
            have hy26 : y26.length = l.length - (x2 : Int).toNat := (by rw [hyy26, List.length_drop])
            rw [← hyy26] at hr26
            replace hr26 : Kd.C (Kd.int .u8) wr A26 y26.length y26 := (by rw [hA26]; exact hr26)
            rw [← hy26, ← hA26, ← hc26] at hcut26
            have HR26 := Aside0.mk hr26
            have HC26 := Aside0.mk (show y26.length ≤ c26 from by rw [hy26, hc26]; exact Nat.sub_le_sub_right HC1.out _)
            have HNN := Aside0.mk (show pretty_isNaNOrInf.f y26 = some false from nan_f (hyy26.trans (by have e : (x2 : Int).toNat = j := (by have := HJ.out; omega); rw [e]; exact HDZ.out)) (by omega) (by omega) (by omega) (by omega) H117.out)
            clear hr26 hi026 hsz26 hc26 hy26 hA26 hyy26
            replace q26 := eq_true q26
            go_wp2_with (first | (go_at_call 30; (with_reducible refine (pretty_isNaNOrInf.calls _ _ y26 false _ ?side1 ?side2 HNN.out).mono ?_); (case side1 => repeat (first | exact HR26.out | (with_reducible refine Kd.C_alloc ?_ _) | (with_reducible refine Kd.C_drewN ?_ _) | (with_reducible refine Kd.C_drew ?_))); (case side2 => exact HC26.out); rintro e w' ⟨rfl, ⟨nd, rfl⟩⟩))
            go_roundg k2
            case measure => omega
            case rel => exact ⟨j + 1, wrap64 (x2 + 1), ju, rfl, HWI, ⟨by have := HK2.out; omega⟩, R1, R2, R3, ⟨by ((with_reducible repeat (first | apply Kd.R_alloc | apply Kd.R_drewN | apply Kd.R_drew)); exact HO2.out)⟩, ⟨by repeat (first | (with_reducible first | exact HB2.out | apply below_alloc | apply pw_below_drewN | apply below_drew1) | exact HB2.out)⟩⟩
        · subst hz
          as_aux_lemma =>
            have H117 := Aside0.mk (show (58 : Int) = 110 → ∃ r' : List Int, (ju ++ (c.text ++ rest)) = 117 :: r' from fun h => by omega)
            have q26 : (x2 : Int) ≤ ((l.length : Int) : Int) := by have := HJ.out; have := HK2.out; omega
            obtain ⟨i026, hi026, _, hsz26, _⟩ := info_parts info5
            have hcut26 := cut_from (P := Try.prog) 37 5 .i64 Try.underlying37 hi026 1 hsz26 (some ad) l.length c1 x2 (by have := HJ.out; omega) q26
            have hr26 := Kd.C_drop (m := (x2 : Int).toNat) (c := c1) (Kd.C_below HC.out HB2.out) (by have := HJ.out; omega) HC1.out
            obtain ⟨A26, hA26⟩ : ∃ z_, z_ = (if c1 = (x2 : Int).toNat then (some ad) else ((some ad) : Option Addr).map (·.add ((x2 : Int).toNat * 1))) := ⟨_, rfl⟩
            obtain ⟨c26, hc26⟩ : ∃ z_, z_ = c1 - (x2 : Int).toNat := ⟨_, rfl⟩
            obtain ⟨y26, hyy26⟩ : ∃ q : List Int, q = l.drop (x2 : Int).toNat := ⟨_, rfl⟩
            have hy26 : y26.length = l.length - (x2 : Int).toNat := (by rw [hyy26, List.length_drop])
            rw [← hyy26] at hr26
            replace hr26 : Kd.C (Kd.int .u8) wr A26 y26.length y26 := (by rw [hA26]; exact hr26)
            rw [← hy26, ← hA26, ← hc26] at hcut26
            have HR26 := Aside0.mk hr26
            have HC26 := Aside0.mk (show y26.length ≤ c26 from by rw [hy26, hc26]; exact Nat.sub_le_sub_right HC1.out _)
            have HNN := Aside0.mk (show pretty_isNaNOrInf.f y26 = some false from nan_f (hyy26.trans (by have e : (x2 : Int).toNat = j := (by have := HJ.out; omega); rw [e]; exact HDZ.out)) (by omega) (by omega) (by omega) (by omega) H117.out)
            clear hr26 hi026 hsz26 hc26 hy26 hA26 hyy26
            replace q26 := eq_true q26
            go_wp2_with (first | (go_at_call 30; (with_reducible refine (pretty_isNaNOrInf.calls _ _ y26 false _ ?side1 ?side2 HNN.out).mono ?_); (case side1 => repeat (first | exact HR26.out | (with_reducible refine Kd.C_alloc ?_ _) | (with_reducible refine Kd.C_drewN ?_ _) | (with_reducible refine Kd.C_drew ?_))); (case side2 => exact HC26.out); rintro e w' ⟨rfl, ⟨nd, rfl⟩⟩))
            go_roundg k2
            case measure => omega
            case rel => exact ⟨j + 1, wrap64 (x2 + 1), ju, rfl, HWI, ⟨by have := HK2.out; omega⟩, R1, R2, R3, ⟨by ((with_reducible repeat (first | apply Kd.R_alloc | apply Kd.R_drewN | apply Kd.R_drew)); exact HO2.out)⟩, ⟨by repeat (first | (with_reducible first | exact HB2.out | apply below_alloc | apply pw_below_drewN | apply below_drew1) | exact HB2.out)⟩⟩
      | nil =>
        have hd : l.drop j = c.text ++ rest := HD2.out
        have HE := Aside0.mk (show ((j + c.text.length : Nat) : Int) = ((i + junk.length + c.text.length : Nat) : Int) from by have := HJL.out; simp only [List.length_nil] at this; omega)
        clear HJU HD2 HJL
        cases c with
        | box ob its =>
          cases ob with
          | false =>
            as_aux_lemma =>
              have hd1 : l.drop j = 91 :: (its.text false ++ rest) := hd
              have hx := (HRD _ _ hd1).out
              have HDZ := Aside0.mk hd1
              have H117 := Aside0.mk (show (91 : Int) = 110 → ∃ r' : List Int, (its.text false ++ rest) = 117 :: r' from fun h => by omega)
              clear HRD hd hd1
              have q26 : (x2 : Int) ≤ ((l.length : Int) : Int) := by have := HJ.out; have := HK2.out; omega
              obtain ⟨i026, hi026, _, hsz26, _⟩ := info_parts info5
              have hcut26 := cut_from (P := Try.prog) 37 5 .i64 Try.underlying37 hi026 1 hsz26 (some ad) l.length c1 x2 (by have := HJ.out; omega) q26
              have hr26 := Kd.C_drop (m := (x2 : Int).toNat) (c := c1) (Kd.C_below HC.out HB2.out) (by have := HJ.out; omega) HC1.out
              obtain ⟨A26, hA26⟩ : ∃ z_, z_ = (if c1 = (x2 : Int).toNat then (some ad) else ((some ad) : Option Addr).map (·.add ((x2 : Int).toNat * 1))) := ⟨_, rfl⟩
              obtain ⟨c26, hc26⟩ : ∃ z_, z_ = c1 - (x2 : Int).toNat := ⟨_, rfl⟩
              obtain ⟨y26, hyy26⟩ : ∃ q : List Int, q = l.drop (x2 : Int).toNat := ⟨_, rfl⟩
              have hy26 : y26.length = l.length - (x2 : Int).toNat := (by rw [hyy26, List.length_drop])
              rw [← hyy26] at hr26
              replace hr26 : Kd.C (Kd.int .u8) wr A26 y26.length y26 := (by rw [hA26]; exact hr26)
              rw [← hy26, ← hA26, ← hc26] at hcut26
              have HR26 := Aside0.mk hr26
              have HC26 := Aside0.mk (show y26.length ≤ c26 from by rw [hy26, hc26]; exact Nat.sub_le_sub_right HC1.out _)
              have HNN := Aside0.mk (show pretty_isNaNOrInf.f y26 = some false from nan_f (hyy26.trans (by have e : (x2 : Int).toNat = j := (by have := HJ.out; omega); rw [e]; exact HDZ.out)) (by omega) (by omega) (by omega) (by omega) H117.out)
              clear hr26 hi026 hsz26 hc26 hy26 hA26 hyy26
              replace q26 := eq_true q26
              go_wp2_with (first | (go_at_call 30; (with_reducible refine (pretty_isNaNOrInf.calls _ _ y26 false _ ?side1 ?side2 HNN.out).mono ?_); (case side1 => repeat (first | exact HR26.out | (with_reducible refine Kd.C_alloc ?_ _) | (with_reducible refine Kd.C_drewN ?_ _) | (with_reducible refine Kd.C_drew ?_))); (case side2 => exact HC26.out); rintro e w' ⟨rfl, ⟨nd, rfl⟩⟩))
              refine (ihA its w0 _ ad c1 l v xs x2 j n a8 _ rest (by have := HSZ.out; simp only [Cst.size] at this; omega) HOK.out HJ.out HN.out (by have := HNS.out; simp only [Cst.size] at this; omega) HDZ.out HLL.out (by repeat (first | (with_reducible first | exact HB2.out | apply below_alloc | apply pw_below_drewN | apply below_drew1) | exact HB2.out)) HC.out HC1.out (by ((with_reducible repeat (first | apply Kd.R_alloc | apply Kd.R_drewN | apply Kd.R_drew)); exact HO2.out)) (by have := HL.out; simp only [Cst.lay, List.length_cons] at this; omega)).mono ?_
              rintro e w11 ⟨v11, e11, nl11, ok11, rfl, he11, ho11, hb11⟩
              have HE11 := Aside0.mk he11
              have HO11 := Aside0.mk ho11
              have HB11 := Aside0.mk hb11
              clear he11 ho11 hb11
              go_wp2
              refine bodyPost_ret (results_list (rs := [.tmp 22, .tmp 23, .tmp 24, .tmp 25]) rfl (by simp) (.tmp (.tmp (.tmp (.tmp .nil))))) rfl ?_
              exact Laid.mk (HE11.out.trans (by rw [← HE.out]; simp only [Cst.text, List.length_cons]; omega)) (by ((with_reducible repeat (first | apply Kd.R_alloc | apply Kd.R_drewN | apply Kd.R_drew)); exact HO11.out)) (by repeat (first | (with_reducible first | exact HB11.out | apply below_alloc | apply pw_below_drewN | apply below_drew1) | exact HB11.out))
          | true =>
            as_aux_lemma =>
              have hd1 : l.drop j = 123 :: (its.text true ++ rest) := hd
              have hx := (HRD _ _ hd1).out
              have HDZ := Aside0.mk hd1
              have H117 := Aside0.mk (show (123 : Int) = 110 → ∃ r' : List Int, (its.text true ++ rest) = 117 :: r' from fun h => by omega)
              clear HRD hd hd1
              have q26 : (x2 : Int) ≤ ((l.length : Int) : Int) := by have := HJ.out; have := HK2.out; omega
              obtain ⟨i026, hi026, _, hsz26, _⟩ := info_parts info5
              have hcut26 := cut_from (P := Try.prog) 37 5 .i64 Try.underlying37 hi026 1 hsz26 (some ad) l.length c1 x2 (by have := HJ.out; omega) q26
              have hr26 := Kd.C_drop (m := (x2 : Int).toNat) (c := c1) (Kd.C_below HC.out HB2.out) (by have := HJ.out; omega) HC1.out
              obtain ⟨A26, hA26⟩ : ∃ z_, z_ = (if c1 = (x2 : Int).toNat then (some ad) else ((some ad) : Option Addr).map (·.add ((x2 : Int).toNat * 1))) := ⟨_, rfl⟩
              obtain ⟨c26, hc26⟩ : ∃ z_, z_ = c1 - (x2 : Int).toNat := ⟨_, rfl⟩
              obtain ⟨y26, hyy26⟩ : ∃ q : List Int, q = l.drop (x2 : Int).toNat := ⟨_, rfl⟩
              have hy26 : y26.length = l.length - (x2 : Int).toNat := (by rw [hyy26, List.length_drop])
              rw [← hyy26] at hr26
              replace hr26 : Kd.C (Kd.int .u8) wr A26 y26.length y26 := (by rw [hA26]; exact hr26)
              rw [← hy26, ← hA26, ← hc26] at hcut26
              have HR26 := Aside0.mk hr26
              have HC26 := Aside0.mk (show y26.length ≤ c26 from by rw [hy26, hc26]; exact Nat.sub_le_sub_right HC1.out _)
              have HNN := Aside0.mk (show pretty_isNaNOrInf.f y26 = some false from nan_f (hyy26.trans (by have e : (x2 : Int).toNat = j := (by have := HJ.out; omega); rw [e]; exact HDZ.out)) (by omega) (by omega) (by omega) (by omega) H117.out)
              clear hr26 hi026 hsz26 hc26 hy26 hA26 hyy26
              replace q26 := eq_true q26
              go_wp2_with (first | (go_at_call 30; (with_reducible refine (pretty_isNaNOrInf.calls _ _ y26 false _ ?side1 ?side2 HNN.out).mono ?_); (case side1 => repeat (first | exact HR26.out | (with_reducible refine Kd.C_alloc ?_ _) | (with_reducible refine Kd.C_drewN ?_ _) | (with_reducible refine Kd.C_drew ?_))); (case side2 => exact HC26.out); rintro e w' ⟨rfl, ⟨nd, rfl⟩⟩))
              refine (ihO its w0 _ ad c1 l v xs x2 j n a8 _ rest (by have := HSZ.out; simp only [Cst.size] at this; omega) HOK.out HJ.out HN.out (by have := HNS.out; simp only [Cst.size] at this; omega) HDZ.out HLL.out (by repeat (first | (with_reducible first | exact HB2.out | apply below_alloc | apply pw_below_drewN | apply below_drew1) | exact HB2.out)) HC.out HC1.out (by ((with_reducible repeat (first | apply Kd.R_alloc | apply Kd.R_drewN | apply Kd.R_drew)); exact HO2.out)) (by have := HL.out; simp only [Cst.lay, List.length_cons] at this; omega)).mono ?_
              rintro e w11 ⟨v11, e11, nl11, ok11, rfl, he11, ho11, hb11⟩
              have HE11 := Aside0.mk he11
              have HO11 := Aside0.mk ho11
              have HB11 := Aside0.mk hb11
              clear he11 ho11 hb11
              go_wp2
              refine bodyPost_ret (results_list (rs := [.tmp 22, .tmp 23, .tmp 24, .tmp 25]) rfl (by simp) (.tmp (.tmp (.tmp (.tmp .nil))))) rfl ?_
              exact Laid.mk (HE11.out.trans (by rw [← HE.out]; simp only [Cst.text, List.length_cons]; omega)) (by ((with_reducible repeat (first | apply Kd.R_alloc | apply Kd.R_drewN | apply Kd.R_drew)); exact HO11.out)) (by repeat (first | (with_reducible first | exact HB11.out | apply below_alloc | apply pw_below_drewN | apply below_drew1) | exact HB11.out))
        | atom k raw =>
          match k, HOK.out with
          | 0, hok =>
            as_aux_lemma =>
              have HKEY : Aside0 (StrTok raw) := ⟨hok⟩
              obtain ⟨bk, hbk, _⟩ := HKEY.out.body
              have HDZ : Aside0 (l.drop j = raw ++ rest) := ⟨hd⟩
              have hx := (HRD 34 (bk ++ [34] ++ rest) (by rw [HDZ.out, hbk]; rfl)).out
              clear HRD hd hbk hok
              go_wp2_with fail
              refine (str_fits raw rest l HKEY.out j x2 HJ.out HDZ.out HLL.out _ w0 _ ad c1 v xs (by repeat (first | (with_reducible first | exact HB2.out | apply below_alloc | apply pw_below_drewN | apply below_drew1) | exact HB2.out)) HC.out HC1.out (by ((with_reducible repeat (first | apply Kd.R_alloc | apply Kd.R_drewN | apply Kd.R_drew)); exact HO2.out)) (by have := HL.out; simp only [Cst.lay] at this; omega)).mono ?_
              rintro e w8 ⟨g8, c8, y8, e8, rfl, he8, hy8, hg8, ho8, hb8⟩
              have HY8 := Aside0.mk hy8
              have HO8 := Aside0.mk ho8
              have HB8 := Aside0.mk hb8
              have HE8 := Aside0.mk he8
              clear hy8 hg8 ho8 hb8 he8
              go_wp2
              refine bodyPost_ret (results_list (rs := [.tmp 22, .tmp 23, .tmp 24, .tmp 25]) rfl (by simp) (.tmp (.tmp (.tmp (.tmp .nil))))) rfl ?_
              exact Laid.mk (HE8.out.trans HE.out) (by rw [show xs ++ (Cst.atom 0 raw).lay (bytesOf p) (bytesOf d) n = y8 from HY8.out.symm]; exact (by ((with_reducible repeat (first | apply Kd.R_alloc | apply Kd.R_drewN | apply Kd.R_drew)); exact HO8.out) : Buf w0 _ _ y8)) (by repeat (first | (with_reducible first | exact HB8.out | apply below_alloc | apply pw_below_drewN | apply below_drew1) | exact HB8.out))
          | 1, hok =>
            have HKEY : Aside0 (NumTok raw) := ⟨hok⟩
            obtain ⟨zc, zr, hzr, hzc⟩ := HKEY.out.head
            have HDZ : Aside0 (l.drop j = raw ++ rest) := ⟨hd⟩
            have hx := (HRD zc (zr ++ rest) (by rw [HDZ.out, hzr]; rfl)).out
            clear HRD hd hzr hok
            rcases hzc with hzc | hzc
            · as_aux_lemma =>
                subst hzc
                go_wp2_with fail
                refine (num_fits raw rest l HKEY.out HST.out j x2 HJ.out HDZ.out HLL.out _ w0 _ ad c1 v xs (by repeat (first | (with_reducible first | exact HB2.out | apply below_alloc | apply pw_below_drewN | apply below_drew1) | exact HB2.out)) HC.out HC1.out (by ((with_reducible repeat (first | apply Kd.R_alloc | apply Kd.R_drewN | apply Kd.R_drew)); exact HO2.out)) (by have := HL.out; simp only [Cst.lay] at this; omega)).mono ?_
                rintro e w8 ⟨v8, e8, rfl, he8, ho8, hb8⟩
                have HO8 := Aside0.mk ho8
                have HB8 := Aside0.mk hb8
                have HE8 := Aside0.mk he8
                clear ho8 hb8 he8
                go_wp2
                refine bodyPost_ret (results_list (rs := [.tmp 22, .tmp 23, .tmp 24, .tmp 25]) rfl (by simp) (.tmp (.tmp (.tmp (.tmp .nil))))) rfl ?_
                exact Laid.mk (HE8.out.trans HE.out) (by ((with_reducible repeat (first | apply Kd.R_alloc | apply Kd.R_drewN | apply Kd.R_drew)); exact HO8.out)) (by repeat (first | (with_reducible first | exact HB8.out | apply below_alloc | apply pw_below_drewN | apply below_drew1) | exact HB8.out))
            · as_aux_lemma =>
                have d1 : decide (zc ≤ 32) = false := decide_eq_false (by omega)
                have d2 : (zc == 34) = false := beq_eq_false_iff_ne.mpr (by omega)
                have d3 : decide (48 ≤ zc) = true := decide_eq_true (by omega)
                have d4 : decide (zc ≤ 57) = true := decide_eq_true (by omega)
                clear hzc
                go_wp2_with fail
                refine (num_fits raw rest l HKEY.out HST.out j x2 HJ.out HDZ.out HLL.out _ w0 _ ad c1 v xs (by repeat (first | (with_reducible first | exact HB2.out | apply below_alloc | apply pw_below_drewN | apply below_drew1) | exact HB2.out)) HC.out HC1.out (by ((with_reducible repeat (first | apply Kd.R_alloc | apply Kd.R_drewN | apply Kd.R_drew)); exact HO2.out)) (by have := HL.out; simp only [Cst.lay] at this; omega)).mono ?_
                rintro e w8 ⟨v8, e8, rfl, he8, ho8, hb8⟩
                have HO8 := Aside0.mk ho8
                have HB8 := Aside0.mk hb8
                have HE8 := Aside0.mk he8
                clear ho8 hb8 he8
                go_wp2
                refine bodyPost_ret (results_list (rs := [.tmp 22, .tmp 23, .tmp 24, .tmp 25]) rfl (by simp) (.tmp (.tmp (.tmp (.tmp .nil))))) rfl ?_
                exact Laid.mk (HE8.out.trans HE.out) (by ((with_reducible repeat (first | apply Kd.R_alloc | apply Kd.R_drewN | apply Kd.R_drew)); exact HO8.out)) (by repeat (first | (with_reducible first | exact HB8.out | apply below_alloc | apply pw_below_drewN | apply below_drew1) | exact HB8.out))
          | k + 2, hok =>
            have hok' : raw = [116, 114, 117, 101] ∨ raw = [102, 97, 108, 115, 101] ∨ raw = [110, 117, 108, 108] := hok
            clear hok
            rcases hok' with hw | hw | hw
            · as_aux_lemma =>
                have HDZ : Aside0 (l.drop j = 116 :: ([114, 117, 101] ++ rest)) := ⟨by have h : l.drop j = raw ++ rest := hd; rw [h, hw]; rfl⟩
                have hx := (HRD _ _ HDZ.out).out
                have H117 := Aside0.mk (show (116 : Int) = 110 → ∃ r' : List Int, ([114, 117, 101] ++ rest) = 117 :: r' from fun h => by omega)
                have HWE := Aside0.mk hw
                have HLW := Aside0.mk (show xs.length + 4 < 140737488355328 by have := HL.out; rw [Cst.lay, hw] at this; simp only [List.length_cons, List.length_nil] at this; omega)
                have HWJ := Aside0.mk (show wrap64 (x2 + 4) = ((i + junk.length + (Cst.atom (k + 2) raw).text.length : Nat) : Int) from by have h1 := HE.out; have h2 := HJ.out; have h3 := HLL.out; have h4 := HK2.out; rw [Cst.text, hw] at h1 ⊢; simp only [List.length_cons, List.length_nil] at h1 ⊢; unfold wrap64; omega)
                clear HRD hd hw
                have q26 : (x2 : Int) ≤ ((l.length : Int) : Int) := by have := HJ.out; have := HK2.out; omega
                obtain ⟨i026, hi026, _, hsz26, _⟩ := info_parts info5
                have hcut26 := cut_from (P := Try.prog) 37 5 .i64 Try.underlying37 hi026 1 hsz26 (some ad) l.length c1 x2 (by have := HJ.out; omega) q26
                have hr26 := Kd.C_drop (m := (x2 : Int).toNat) (c := c1) (Kd.C_below HC.out HB2.out) (by have := HJ.out; omega) HC1.out
                obtain ⟨A26, hA26⟩ : ∃ z_, z_ = (if c1 = (x2 : Int).toNat then (some ad) else ((some ad) : Option Addr).map (·.add ((x2 : Int).toNat * 1))) := ⟨_, rfl⟩
                obtain ⟨c26, hc26⟩ : ∃ z_, z_ = c1 - (x2 : Int).toNat := ⟨_, rfl⟩
                obtain ⟨y26, hyy26⟩ : ∃ q : List Int, q = l.drop (x2 : Int).toNat := ⟨_, rfl⟩
                have hy26 : y26.length = l.length - (x2 : Int).toNat := (by rw [hyy26, List.length_drop])
                rw [← hyy26] at hr26
                replace hr26 : Kd.C (Kd.int .u8) wr A26 y26.length y26 := (by rw [hA26]; exact hr26)
                rw [← hy26, ← hA26, ← hc26] at hcut26
                have HR26 := Aside0.mk hr26
                have HC26 := Aside0.mk (show y26.length ≤ c26 from by rw [hy26, hc26]; exact Nat.sub_le_sub_right HC1.out _)
                have HNN := Aside0.mk (show pretty_isNaNOrInf.f y26 = some false from nan_f (hyy26.trans (by have e : (x2 : Int).toNat = j := (by have := HJ.out; omega); rw [e]; exact HDZ.out)) (by omega) (by omega) (by omega) (by omega) H117.out)
                clear hr26 hi026 hsz26 hc26 hy26 hA26 hyy26
                replace q26 := eq_true q26
                obtain ⟨Av, cv, hv⟩ := Kd.R_slice HO2.out
                subst hv
                obtain ⟨yl, hyl⟩ : ∃ q : List Int, q = [116, 114, 117, 101] := ⟨_, rfl⟩
                have HYL := Aside0.mk hyl
                have HYN := Aside0.mk (show yl.length = 4 by rw [hyl]; rfl)
                clear hyl
                go_wp2_with (first | (go_at_call 30; (with_reducible refine (pretty_isNaNOrInf.calls _ _ y26 false _ ?side1 ?side2 HNN.out).mono ?_); (case side1 => repeat (first | exact HR26.out | (with_reducible refine Kd.C_alloc ?_ _) | (with_reducible refine Kd.C_drewN ?_ _) | (with_reducible refine Kd.C_drew ?_))); (case side2 => exact HC26.out); rintro e w' ⟨rfl, ⟨nd, rfl⟩⟩) | ((with_reducible refine gate_dst (N := 134) rfl ?_); refine Kd.R_lit (Kd.int .u8) _ 5 ?hg (N := 134) ?hd (xs := ([116, 114, 117, 101] : List Int)) (inner := [.int .u8 116, .int .u8 114, .int .u8 117, .int .u8 101]) (ok := fun _ => True) (okp := fun _ => True) ?hr ?hp (fun _ hk => hk) trivial (Below.refl _ _) (Nat.le_refl _) (by simp) ?_; (case hd => rfl); (case hg => rfl); (case hr => first | (go_simp; done) | (go_simp; rfl)); (case hp => exact (Reps.one (show Kd.M (Kd.int .u8) _ _ _ 116 [.int .u8 116] from rfl) (Reps.one (show Kd.M (Kd.int .u8) _ _ _ 114 [.int .u8 114] from rfl) (Reps.one (show Kd.M (Kd.int .u8) _ _ _ 117 [.int .u8 117] from rfl) (Reps.one (show Kd.M (Kd.int .u8) _ _ _ 101 [.int .u8 101] from rfl) (Reps.none _ _)))))); intro vL wL hoL hbL hgL hnL; clear hgL hnL; rw [← HYL.out] at hoL; obtain ⟨AL, cL, eL⟩ := Kd.R_slice hoL; subst eL; have HRL := Aside0.mk (Kd.R_reads' hoL).2.2; have HOL := Aside0.mk (show Buf w0 wL (.slice Av xs.length cv) xs from Kd.R_below (by ((with_reducible repeat (first | apply Kd.R_alloc | apply Kd.R_drewN | apply Kd.R_drew)); exact HO2.out)) hbL); have HBL := Aside0.mk (below_step (by repeat (first | (with_reducible first | exact HB2.out | apply below_alloc | apply pw_below_drewN | apply below_drew1) | exact HB2.out)) hbL); clear hoL hbL) | ((with_reducible refine gate_builtin (b := .append) (xs := #[.tmp 133, .tmp 134]) rfl ?_); at_builtin; refine Kd.R_append_rows (Kd.int .u8) (w0 := w0) w0.heap.size rfl (.tmp 133) (.tmp 134) 37 5 (.int .u8 0) 1 rfl Try.underlying37 info5 rfl (by decide) (by omega) (.slice Av xs.length cv) xs yl _ _ _ (fun k => w0.heap.size ≤ k) (fun _ => False) rfl rfl ?aO ?aR (fun _ _ h => h) (fun _ h => h.elim) ?aF ?aB ?aS ?aL ?_; (case aR => repeat (first | exact HRL.out | (with_reducible refine Kd.C_alloc ?_ _) | (with_reducible refine Kd.C_drewN ?_ _) | (with_reducible refine Kd.C_drew ?_))); (case aB => repeat (first | (with_reducible first | exact HBL.out | apply below_alloc | apply pw_below_drewN | apply below_drew1) | exact HBL.out)); (case aO => ((with_reducible repeat (first | apply Kd.R_alloc | apply Kd.R_drewN | apply Kd.R_drew)); exact HOL.out)); (case aS => exact (below_size (by repeat (first | (with_reducible first | exact HBL.out | apply below_alloc | apply pw_below_drewN | apply below_drew1) | exact HBL.out)))); (case aF => exact fun k hk => Nat.le_trans (below_size (by repeat (first | (with_reducible first | exact HBL.out | apply below_alloc | apply pw_below_drewN | apply below_drew1) | exact HBL.out))) hk); (case aL => have h1 := HLW.out; have h2 := HYN.out; omega); intro vM wM hoM hbM hgM haM; have HOM := Aside0.mk (show Buf w0 wM vM (xs ++ yl) from hoM); have HBM := Aside0.mk hbM; clear hoM hbM hgM haM; obtain ⟨yM, hyM⟩ : ∃ q : List Int, q = xs ++ yl := ⟨_, rfl⟩; rw [← hyM] at HOM; obtain ⟨gM, cM, hvM, _⟩ := Buf.shape HOM.out (by rw [hyM, HYL.out]; simp); have HYM := Aside0.mk hyM; clear hyM; subst hvM))
                refine bodyPost_ret (results_list (rs := [.tmp 22, .tmp 23, .tmp 24, .tmp 25]) rfl (by simp) (.tmp (.tmp (.tmp (.tmp .nil))))) rfl ?_
                exact Laid.mk HWJ.out (by rw [show xs ++ (Cst.atom (k + 2) raw).lay (bytesOf p) (bytesOf d) n = yM from by rw [HYM.out, Cst.lay, HWE.out, HYL.out]]; exact (by ((with_reducible repeat (first | apply Kd.R_alloc | apply Kd.R_drewN | apply Kd.R_drew)); exact HOM.out) : Buf w0 _ _ yM)) (by repeat (first | (with_reducible first | exact HBM.out | apply below_alloc | apply pw_below_drewN | apply below_drew1) | exact HBM.out))
            · as_aux_lemma =>
                have HDZ : Aside0 (l.drop j = 102 :: ([97, 108, 115, 101] ++ rest)) := ⟨by have h : l.drop j = raw ++ rest := hd; rw [h, hw]; rfl⟩
                have hx := (HRD _ _ HDZ.out).out
                have H117 := Aside0.mk (show (102 : Int) = 110 → ∃ r' : List Int, ([97, 108, 115, 101] ++ rest) = 117 :: r' from fun h => by omega)
                have HWE := Aside0.mk hw
                have HLW := Aside0.mk (show xs.length + 5 < 140737488355328 by have := HL.out; rw [Cst.lay, hw] at this; simp only [List.length_cons, List.length_nil] at this; omega)
                have HWJ := Aside0.mk (show wrap64 (x2 + 5) = ((i + junk.length + (Cst.atom (k + 2) raw).text.length : Nat) : Int) from by have h1 := HE.out; have h2 := HJ.out; have h3 := HLL.out; have h4 := HK2.out; rw [Cst.text, hw] at h1 ⊢; simp only [List.length_cons, List.length_nil] at h1 ⊢; unfold wrap64; omega)
                clear HRD hd hw
                have q26 : (x2 : Int) ≤ ((l.length : Int) : Int) := by have := HJ.out; have := HK2.out; omega
                obtain ⟨i026, hi026, _, hsz26, _⟩ := info_parts info5
                have hcut26 := cut_from (P := Try.prog) 37 5 .i64 Try.underlying37 hi026 1 hsz26 (some ad) l.length c1 x2 (by have := HJ.out; omega) q26
                have hr26 := Kd.C_drop (m := (x2 : Int).toNat) (c := c1) (Kd.C_below HC.out HB2.out) (by have := HJ.out; omega) HC1.out
                obtain ⟨A26, hA26⟩ : ∃ z_, z_ = (if c1 = (x2 : Int).toNat then (some ad) else ((some ad) : Option Addr).map (·.add ((x2 : Int).toNat * 1))) := ⟨_, rfl⟩
                obtain ⟨c26, hc26⟩ : ∃ z_, z_ = c1 - (x2 : Int).toNat := ⟨_, rfl⟩
                obtain ⟨y26, hyy26⟩ : ∃ q : List Int, q = l.drop (x2 : Int).toNat := ⟨_, rfl⟩
                have hy26 : y26.length = l.length - (x2 : Int).toNat := (by rw [hyy26, List.length_drop])
                rw [← hyy26] at hr26
                replace hr26 : Kd.C (Kd.int .u8) wr A26 y26.length y26 := (by rw [hA26]; exact hr26)
                rw [← hy26, ← hA26, ← hc26] at hcut26
                have HR26 := Aside0.mk hr26
                have HC26 := Aside0.mk (show y26.length ≤ c26 from by rw [hy26, hc26]; exact Nat.sub_le_sub_right HC1.out _)
                have HNN := Aside0.mk (show pretty_isNaNOrInf.f y26 = some false from nan_f (hyy26.trans (by have e : (x2 : Int).toNat = j := (by have := HJ.out; omega); rw [e]; exact HDZ.out)) (by omega) (by omega) (by omega) (by omega) H117.out)
                clear hr26 hi026 hsz26 hc26 hy26 hA26 hyy26
                replace q26 := eq_true q26
                obtain ⟨Av, cv, hv⟩ := Kd.R_slice HO2.out
                subst hv
                obtain ⟨yl, hyl⟩ : ∃ q : List Int, q = [102, 97, 108, 115, 101] := ⟨_, rfl⟩
                have HYL := Aside0.mk hyl
                have HYN := Aside0.mk (show yl.length = 5 by rw [hyl]; rfl)
                clear hyl
                go_wp2_with (first | (go_at_call 30; (with_reducible refine (pretty_isNaNOrInf.calls _ _ y26 false _ ?side1 ?side2 HNN.out).mono ?_); (case side1 => repeat (first | exact HR26.out | (with_reducible refine Kd.C_alloc ?_ _) | (with_reducible refine Kd.C_drewN ?_ _) | (with_reducible refine Kd.C_drew ?_))); (case side2 => exact HC26.out); rintro e w' ⟨rfl, ⟨nd, rfl⟩⟩) | ((with_reducible refine gate_dst (N := 142) rfl ?_); refine Kd.R_lit (Kd.int .u8) _ 5 ?hg (N := 142) ?hd (xs := ([102, 97, 108, 115, 101] : List Int)) (inner := [.int .u8 102, .int .u8 97, .int .u8 108, .int .u8 115, .int .u8 101]) (ok := fun _ => True) (okp := fun _ => True) ?hr ?hp (fun _ hk => hk) trivial (Below.refl _ _) (Nat.le_refl _) (by simp) ?_; (case hd => rfl); (case hg => rfl); (case hr => first | (go_simp; done) | (go_simp; rfl)); (case hp => exact (Reps.one (show Kd.M (Kd.int .u8) _ _ _ 102 [.int .u8 102] from rfl) (Reps.one (show Kd.M (Kd.int .u8) _ _ _ 97 [.int .u8 97] from rfl) (Reps.one (show Kd.M (Kd.int .u8) _ _ _ 108 [.int .u8 108] from rfl) (Reps.one (show Kd.M (Kd.int .u8) _ _ _ 115 [.int .u8 115] from rfl) (Reps.one (show Kd.M (Kd.int .u8) _ _ _ 101 [.int .u8 101] from rfl) (Reps.none _ _))))))); intro vL wL hoL hbL hgL hnL; clear hgL hnL; rw [← HYL.out] at hoL; obtain ⟨AL, cL, eL⟩ := Kd.R_slice hoL; subst eL; have HRL := Aside0.mk (Kd.R_reads' hoL).2.2; have HOL := Aside0.mk (show Buf w0 wL (.slice Av xs.length cv) xs from Kd.R_below (by ((with_reducible repeat (first | apply Kd.R_alloc | apply Kd.R_drewN | apply Kd.R_drew)); exact HO2.out)) hbL); have HBL := Aside0.mk (below_step (by repeat (first | (with_reducible first | exact HB2.out | apply below_alloc | apply pw_below_drewN | apply below_drew1) | exact HB2.out)) hbL); clear hoL hbL) | ((with_reducible refine gate_builtin (b := .append) (xs := #[.tmp 141, .tmp 142]) rfl ?_); at_builtin; refine Kd.R_append_rows (Kd.int .u8) (w0 := w0) w0.heap.size rfl (.tmp 141) (.tmp 142) 37 5 (.int .u8 0) 1 rfl Try.underlying37 info5 rfl (by decide) (by omega) (.slice Av xs.length cv) xs yl _ _ _ (fun k => w0.heap.size ≤ k) (fun _ => False) rfl rfl ?aO ?aR (fun _ _ h => h) (fun _ h => h.elim) ?aF ?aB ?aS ?aL ?_; (case aR => repeat (first | exact HRL.out | (with_reducible refine Kd.C_alloc ?_ _) | (with_reducible refine Kd.C_drewN ?_ _) | (with_reducible refine Kd.C_drew ?_))); (case aB => repeat (first | (with_reducible first | exact HBL.out | apply below_alloc | apply pw_below_drewN | apply below_drew1) | exact HBL.out)); (case aO => ((with_reducible repeat (first | apply Kd.R_alloc | apply Kd.R_drewN | apply Kd.R_drew)); exact HOL.out)); (case aS => exact (below_size (by repeat (first | (with_reducible first | exact HBL.out | apply below_alloc | apply pw_below_drewN | apply below_drew1) | exact HBL.out)))); (case aF => exact fun k hk => Nat.le_trans (below_size (by repeat (first | (with_reducible first | exact HBL.out | apply below_alloc | apply pw_below_drewN | apply below_drew1) | exact HBL.out))) hk); (case aL => have h1 := HLW.out; have h2 := HYN.out; omega); intro vM wM hoM hbM hgM haM; have HOM := Aside0.mk (show Buf w0 wM vM (xs ++ yl) from hoM); have HBM := Aside0.mk hbM; clear hoM hbM hgM haM; obtain ⟨yM, hyM⟩ : ∃ q : List Int, q = xs ++ yl := ⟨_, rfl⟩; rw [← hyM] at HOM; obtain ⟨gM, cM, hvM, _⟩ := Buf.shape HOM.out (by rw [hyM, HYL.out]; simp); have HYM := Aside0.mk hyM; clear hyM; subst hvM))
                refine bodyPost_ret (results_list (rs := [.tmp 22, .tmp 23, .tmp 24, .tmp 25]) rfl (by simp) (.tmp (.tmp (.tmp (.tmp .nil))))) rfl ?_
                exact Laid.mk HWJ.out (by rw [show xs ++ (Cst.atom (k + 2) raw).lay (bytesOf p) (bytesOf d) n = yM from by rw [HYM.out, Cst.lay, HWE.out, HYL.out]]; exact (by ((with_reducible repeat (first | apply Kd.R_alloc | apply Kd.R_drewN | apply Kd.R_drew)); exact HOM.out) : Buf w0 _ _ yM)) (by repeat (first | (with_reducible first | exact HBM.out | apply below_alloc | apply pw_below_drewN | apply below_drew1) | exact HBM.out))
            · as_aux_lemma =>
                have HDZ : Aside0 (l.drop j = 110 :: ([117, 108, 108] ++ rest)) := ⟨by have h : l.drop j = raw ++ rest := hd; rw [h, hw]; rfl⟩
                have hx := (HRD _ _ HDZ.out).out
                have H117 := Aside0.mk (show (110 : Int) = 110 → ∃ r' : List Int, ([117, 108, 108] ++ rest) = 117 :: r' from fun h => by exact ⟨[108, 108] ++ rest, rfl⟩)
                have HWE := Aside0.mk hw
                have HLW := Aside0.mk (show xs.length + 4 < 140737488355328 by have := HL.out; rw [Cst.lay, hw] at this; simp only [List.length_cons, List.length_nil] at this; omega)
                have HWJ := Aside0.mk (show wrap64 (x2 + 4) = ((i + junk.length + (Cst.atom (k + 2) raw).text.length : Nat) : Int) from by have h1 := HE.out; have h2 := HJ.out; have h3 := HLL.out; have h4 := HK2.out; rw [Cst.text, hw] at h1 ⊢; simp only [List.length_cons, List.length_nil] at h1 ⊢; unfold wrap64; omega)
                clear HRD hd hw
                have q26 : (x2 : Int) ≤ ((l.length : Int) : Int) := by have := HJ.out; have := HK2.out; omega
                obtain ⟨i026, hi026, _, hsz26, _⟩ := info_parts info5
                have hcut26 := cut_from (P := Try.prog) 37 5 .i64 Try.underlying37 hi026 1 hsz26 (some ad) l.length c1 x2 (by have := HJ.out; omega) q26
                have hr26 := Kd.C_drop (m := (x2 : Int).toNat) (c := c1) (Kd.C_below HC.out HB2.out) (by have := HJ.out; omega) HC1.out
                obtain ⟨A26, hA26⟩ : ∃ z_, z_ = (if c1 = (x2 : Int).toNat then (some ad) else ((some ad) : Option Addr).map (·.add ((x2 : Int).toNat * 1))) := ⟨_, rfl⟩
                obtain ⟨c26, hc26⟩ : ∃ z_, z_ = c1 - (x2 : Int).toNat := ⟨_, rfl⟩
                obtain ⟨y26, hyy26⟩ : ∃ q : List Int, q = l.drop (x2 : Int).toNat := ⟨_, rfl⟩
                have hy26 : y26.length = l.length - (x2 : Int).toNat := (by rw [hyy26, List.length_drop])
                rw [← hyy26] at hr26
                replace hr26 : Kd.C (Kd.int .u8) wr A26 y26.length y26 := (by rw [hA26]; exact hr26)
                rw [← hy26, ← hA26, ← hc26] at hcut26
                have HR26 := Aside0.mk hr26
                have HC26 := Aside0.mk (show y26.length ≤ c26 from by rw [hy26, hc26]; exact Nat.sub_le_sub_right HC1.out _)
                have HNN := Aside0.mk (show pretty_isNaNOrInf.f y26 = some false from nan_f (hyy26.trans (by have e : (x2 : Int).toNat = j := (by have := HJ.out; omega); rw [e]; exact HDZ.out)) (by omega) (by omega) (by omega) (by omega) H117.out)
                clear hr26 hi026 hsz26 hc26 hy26 hA26 hyy26
                replace q26 := eq_true q26
                obtain ⟨Av, cv, hv⟩ := Kd.R_slice HO2.out
                subst hv
                obtain ⟨yl, hyl⟩ : ∃ q : List Int, q = [110, 117, 108, 108] := ⟨_, rfl⟩
                have HYL := Aside0.mk hyl
                have HYN := Aside0.mk (show yl.length = 4 by rw [hyl]; rfl)
                clear hyl
                go_wp2_with (first | (go_at_call 30; (with_reducible refine (pretty_isNaNOrInf.calls _ _ y26 false _ ?side1 ?side2 HNN.out).mono ?_); (case side1 => repeat (first | exact HR26.out | (with_reducible refine Kd.C_alloc ?_ _) | (with_reducible refine Kd.C_drewN ?_ _) | (with_reducible refine Kd.C_drew ?_))); (case side2 => exact HC26.out); rintro e w' ⟨rfl, ⟨nd, rfl⟩⟩) | ((with_reducible refine gate_dst (N := 150) rfl ?_); refine Kd.R_lit (Kd.int .u8) _ 5 ?hg (N := 150) ?hd (xs := ([110, 117, 108, 108] : List Int)) (inner := [.int .u8 110, .int .u8 117, .int .u8 108, .int .u8 108]) (ok := fun _ => True) (okp := fun _ => True) ?hr ?hp (fun _ hk => hk) trivial (Below.refl _ _) (Nat.le_refl _) (by simp) ?_; (case hd => rfl); (case hg => rfl); (case hr => first | (go_simp; done) | (go_simp; rfl)); (case hp => exact (Reps.one (show Kd.M (Kd.int .u8) _ _ _ 110 [.int .u8 110] from rfl) (Reps.one (show Kd.M (Kd.int .u8) _ _ _ 117 [.int .u8 117] from rfl) (Reps.one (show Kd.M (Kd.int .u8) _ _ _ 108 [.int .u8 108] from rfl) (Reps.one (show Kd.M (Kd.int .u8) _ _ _ 108 [.int .u8 108] from rfl) (Reps.none _ _)))))); intro vL wL hoL hbL hgL hnL; clear hgL hnL; rw [← HYL.out] at hoL; obtain ⟨AL, cL, eL⟩ := Kd.R_slice hoL; subst eL; have HRL := Aside0.mk (Kd.R_reads' hoL).2.2; have HOL := Aside0.mk (show Buf w0 wL (.slice Av xs.length cv) xs from Kd.R_below (by ((with_reducible repeat (first | apply Kd.R_alloc | apply Kd.R_drewN | apply Kd.R_drew)); exact HO2.out)) hbL); have HBL := Aside0.mk (below_step (by repeat (first | (with_reducible first | exact HB2.out | apply below_alloc | apply pw_below_drewN | apply below_drew1) | exact HB2.out)) hbL); clear hoL hbL) | ((with_reducible refine gate_builtin (b := .append) (xs := #[.tmp 149, .tmp 150]) rfl ?_); at_builtin; refine Kd.R_append_rows (Kd.int .u8) (w0 := w0) w0.heap.size rfl (.tmp 149) (.tmp 150) 37 5 (.int .u8 0) 1 rfl Try.underlying37 info5 rfl (by decide) (by omega) (.slice Av xs.length cv) xs yl _ _ _ (fun k => w0.heap.size ≤ k) (fun _ => False) rfl rfl ?aO ?aR (fun _ _ h => h) (fun _ h => h.elim) ?aF ?aB ?aS ?aL ?_; (case aR => repeat (first | exact HRL.out | (with_reducible refine Kd.C_alloc ?_ _) | (with_reducible refine Kd.C_drewN ?_ _) | (with_reducible refine Kd.C_drew ?_))); (case aB => repeat (first | (with_reducible first | exact HBL.out | apply below_alloc | apply pw_below_drewN | apply below_drew1) | exact HBL.out)); (case aO => ((with_reducible repeat (first | apply Kd.R_alloc | apply Kd.R_drewN | apply Kd.R_drew)); exact HOL.out)); (case aS => exact (below_size (by repeat (first | (with_reducible first | exact HBL.out | apply below_alloc | apply pw_below_drewN | apply below_drew1) | exact HBL.out)))); (case aF => exact fun k hk => Nat.le_trans (below_size (by repeat (first | (with_reducible first | exact HBL.out | apply below_alloc | apply pw_below_drewN | apply below_drew1) | exact HBL.out))) hk); (case aL => have h1 := HLW.out; have h2 := HYN.out; omega); intro vM wM hoM hbM hgM haM; have HOM := Aside0.mk (show Buf w0 wM vM (xs ++ yl) from hoM); have HBM := Aside0.mk hbM; clear hoM hbM hgM haM; obtain ⟨yM, hyM⟩ : ∃ q : List Int, q = xs ++ yl := ⟨_, rfl⟩; rw [← hyM] at HOM; obtain ⟨gM, cM, hvM, _⟩ := Buf.shape HOM.out (by rw [hyM, HYL.out]; simp); have HYM := Aside0.mk hyM; clear hyM; subst hvM))
                refine bodyPost_ret (results_list (rs := [.tmp 22, .tmp 23, .tmp 24, .tmp 25]) rfl (by simp) (.tmp (.tmp (.tmp (.tmp .nil))))) rfl ?_
                exact Laid.mk HWJ.out (by rw [show xs ++ (Cst.atom (k + 2) raw).lay (bytesOf p) (bytesOf d) n = yM from by rw [HYM.out, Cst.lay, HWE.out, HYL.out]]; exact (by ((with_reducible repeat (first | apply Kd.R_alloc | apply Kd.R_drewN | apply Kd.R_drew)); exact HOM.out) : Buf w0 _ _ yM)) (by repeat (first | (with_reducible first | exact HBM.out | apply below_alloc | apply pw_below_drewN | apply below_drew1) | exact HBM.out))
end Go.Proofs.Ytdcigjpgagimdaa.M
