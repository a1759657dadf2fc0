/-
What appendPrettyObject and appendPrettyAny come to on a text of a tree: its layout.
Printed by a small program of this work (wip/gen_obj.py).
-/
import Derived.Test.YtdcigjpgagimdaaObj
namespace Go.Proofs.Ytdcigjpgagimdaa.M
open Go.RowKit Tx Go.Proofs.YtdcigjpgagimdaaW.PrintWords Go.Proofs.YtdcigjpgagimdaaW.PrintLast Go.Proofs.YtdcigjpgagimdaaW.PrintMore
set_option linter.unusedVariables false
set_option linter.unusedSimpArgs false

set_option maxHeartbeats 8000000 in
set_option maxRecDepth 100000 in
theorem obj_fits_true (p d : ByteArray) (N : Nat) (ih : AnyFits p d N) : ObjFits p d N true := by
  intro its w0 w ad c1 l v xs a2 i n a10 nl rest hsz hok hi hn hns hd hl hB hC hc hb hL
  have hu71 := Try.underlying71
  have HB := Aside0.mk hB
  have HC := Aside0.mk hC
  have HC1 := Aside0.mk hc
  have HO := Aside0.mk hb
  have HLL := Aside0.mk hl
  have HNS := Aside0.mk hns
  have HN := Aside0.mk hn
  have HSZ := Aside0.mk hsz
  have LN := Aside0.mk (show xs.length + 1 < 140737488355328 by omega)
  obtain ⟨hi0, hd1, _⟩ := drop_cons hd
  have HI := Aside0.mk (show wrap64 (a2 + 1) = ((i + 1 : Nat) : Int) from by rw [hi]; unfold wrap64; omega)
  have HD := Aside0.mk hd1
  have HL := Aside0.mk hL
  have HOK := Aside0.mk hok
  have HI0 := Aside0.mk hi0
  clear hB hC hc hb hl hns hn hsz hi hd hL hok hd1 hi0
  simp only [opn, cls, if_true] 
  go_enter Try.func32, Try.ntmps32
  go_wp2_with ((with_reducible refine gate_builtin (b := .append) (xs := #[.tmp 97, .tmp 99]) rfl ?_); (try (refine gate_guard (by rfl) ?_; dsimp only)); at_builtin; refine buf_one (w0 := w0) rfl (.tmp 97) (.tmp 99) rfl v xs 123 rfl rfl ?aB ?aO ?aL ?_; (case aB => repeat (first | (with_reducible first | exact HB.out | apply below_alloc | apply pw_below_drewN | apply below_drew1) | exact HB.out)); (case aO => ((with_reducible repeat (first | apply Kd.R_alloc | apply Kd.R_drewN | apply Kd.R_drew)); exact HO.out)); (case aL => have := LN.out; omega); intro gg1 cc1 yy1 ww1 HY1 HG1 HO1 HB1)
  (try simp only [Act.put, List.setIfInBounds_toArray, List.set_cons_succ, List.set_cons_zero])
  clear HB HO
  go_loopg [0, 2, 9, 11, 34, 35] (l.length - (i + 1)) (fun kq v0 v2 v9 v11 v34 v35 w' => ∃ (t : Its) (first : Bool) (j : Nat) (x2 x11 : Int) (x35 : Int) (y : List Int) (g c : Nat), v0 = .slice (some ⟨g, 0, none⟩) y.length c ∧ v2 = .int .i64 x2 ∧ v9 = .bool false ∧ v11 = .int .i64 x11 ∧ v34 = .slice none 0 0 ∧ v35 = .int .i64 x35 ∧
      Aside0 (x2 = (j : Int)) ∧ Aside0 (kq + j = l.length) ∧ Aside0 (0 ≤ x35 ∧ x35 ≤ (j : Int)) ∧ Aside0 (first = true ↔ x35 = 0) ∧ Aside0 (l.drop j = t.text true ++ rest) ∧ Aside0 (t.ok true true) ∧ Aside0 (t.size ≤ its.size) ∧ Aside0 (j + (t.text true).length = i + 1 + (its.text true).length) ∧
      Aside0 (∃ ys z, y = ys ++ [z] ∧ z ≠ 32 ∧ (first = true → z = 123)) ∧ Aside0 (y ++ t.lay (bytesOf p) (bytesOf d) n true first = xs ++ 123 :: its.lay (bytesOf p) (bytesOf d) n true true) ∧ Aside0 (w0.heap.size ≤ g) ∧ Aside0 (Buf w0 w' (.slice (some ⟨g, 0, none⟩) y.length c) y) ∧ Aside0 (Below w0.heap.size w0 w'))
  case atStart => exact ⟨its, true, i + 1, (wrap64 (a2 + 1)), nl, 0, yy1, gg1, cc1, rfl, rfl, rfl, rfl, rfl, rfl, HI, ⟨by have := HI0.out; omega⟩, ⟨by omega⟩, ⟨by simp⟩, HD, HOK, ⟨Nat.le_refl _⟩, ⟨by omega⟩, ⟨xs, 123, HY1.out, by decide, fun _ => rfl⟩, ⟨by rw [HY1.out]; simp⟩, HG1, HO1, HB1⟩
  case round =>
    have HXI := Aside0.mk (show xs.length + 1 + (its.lay (bytesOf p) (bytesOf d) n true true).length < 140737488355328 from HL.out)
    clear HO1 HB1 HY1 HG1 HL
    obtain ⟨t, first, j, x2, x11, x35, y, g, c, rfl, rfl, rfl, rfl, rfl, rfl, HJ, HK2, H35, HF, HD2, HT, HTS, HTL, HY, HLY, HG, HO2, HB2⟩ := hrel
    cases gk with
    | zero =>
      exfalso
      have h1 := HD2.out
      rw [List.drop_eq_nil_of_le (by have := HK2.out; omega)] at h1
      have h2 := congrArg List.length h1
      have h3 := List.length_pos_iff.mpr (Its.text_ne true t)
      simp only [List.length_append, List.length_nil] at h2
      omega
    | succ k2 =>
      have hjl : j < l.length := by have := HK2.out; omega
      have c1b : decide (x2 < (l.length : Int)) = true := decide_eq_true (by have := HJ.out; omega)
      have c1t : (x2 < (l.length : Int)) = True := eq_true (by have := HJ.out; omega)
      have c2b : decide (0 ≤ x2) = true := decide_eq_true (by have := HJ.out; omega)
      have c2t : (0 ≤ x2) = True := eq_true (by have := HJ.out; omega)
      have HRD : ∀ z r, l.drop j = z :: r → Aside0 (wr.cell? (ad.add x2.toNat) = some (.int .u8 z)) := by
        intro z r hz
        obtain ⟨ad', ha, hc⟩ := js_cell HC.out HB2.out x2 (by have := HJ.out; omega) (by have := HJ.out; omega)
        cases ha
        obtain ⟨_, _, hg⟩ := drop_cons hz
        have : rd l x2 = z := by rw [HJ.out]; exact hg
        rw [this] at hc
        exact ⟨hc⟩
      have HWI := Aside0.mk (show wrap64 (x2 + 1) = ((j + 1 : Nat) : Int) from by have := HJ.out; have := HLL.out; unfold wrap64; omega)
      have HLEN := Aside0.mk (congrArg List.length HLY.out)
      clear hjl
      rcases Its.round HT.out with ⟨z, t', hzt, hok', hsz', hlay', hz⟩ | hfin | ⟨key, junk, v', t', hcons⟩
      · have hd := HD2.out
        rw [hzt] at hd
        obtain ⟨_, hd', _⟩ := drop_cons hd
        have hx := (HRD z _ hd).out
        have R1 := Aside0.mk hd'
        have R2 := Aside0.mk hok'
        have R3 := Aside0.mk (show t'.size ≤ its.size by have := HTS.out; omega)
        have R4 := Aside0.mk (show j + 1 + (t'.text true).length = i + 1 + (its.text true).length by have := HTL.out; rw [hzt] at this; simp only [List.length_cons] at this; omega)
        have R5 := Aside0.mk (show y ++ t'.lay (bytesOf p) (bytesOf d) n true first = xs ++ 123 :: its.lay (bytesOf p) (bytesOf d) n true true by rw [hlay']; exact HLY.out)
        clear hd hd' hok' hlay' hzt hsz' HRD
        rcases hz with hz | ⟨_, hz⟩
        · have c3 : decide (z ≤ 32) = true := decide_eq_true hz
          go_wp2
          go_roundg k2
          case measure => omega
          case rel => exact ⟨t', first, j + 1, wrap64 (x2 + 1), x11, x35, y, g, c, rfl, rfl, rfl, rfl, rfl, rfl, HWI, ⟨by have := HK2.out; omega⟩, ⟨by have := H35.out; omega⟩, HF, R1, R2, R3, R4, HY, R5, HG, ⟨by ((with_reducible repeat (first | apply Kd.R_alloc | apply Kd.R_drewN | apply Kd.R_drew)); exact HO2.out)⟩, ⟨by repeat (first | (with_reducible first | exact HB2.out | apply below_alloc | apply pw_below_drewN | apply below_drew1) | exact HB2.out)⟩⟩
        · subst hz
          go_wp2
          go_roundg k2
          case measure => omega
          case rel => exact ⟨t', first, j + 1, wrap64 (x2 + 1), x11, x35, y, g, c, rfl, rfl, rfl, rfl, rfl, rfl, HWI, ⟨by have := HK2.out; omega⟩, ⟨by have := H35.out; omega⟩, HF, R1, R2, R3, R4, HY, R5, HG, ⟨by ((with_reducible repeat (first | apply Kd.R_alloc | apply Kd.R_drewN | apply Kd.R_drew)); exact HO2.out)⟩, ⟨by repeat (first | (with_reducible first | exact HB2.out | apply below_alloc | apply pw_below_drewN | apply below_drew1) | exact HB2.out)⟩⟩
      · subst hfin
        have hd := HD2.out
        rw [show (Its.fin []).text true ++ rest = 125 :: rest from rfl] at hd
        have hx := (HRD _ _ hd).out
        have R6 := Aside0.mk (show ((j + 1 : Nat) : Int) = ((i + 1 + (its.text true).length : Nat) : Int) from by have := HTL.out; have e : ((Its.fin []).text true).length = 1 := rfl; rw [e] at this; omega)
        clear hd HRD
        cases first with
        | true =>
          as_aux_lemma =>
            have h35 : x35 = 0 := HF.out.mp rfl
            subst h35
            obtain ⟨ys, z, hy, hz, hzo⟩ := HY.out
            have hzo := hzo rfl
            subst hzo
            have LY := Aside0.mk (show y.length + 1 < 140737488355328 by have h1 := HLEN.out; have h2 := HXI.out; simp only [List.length_append, List.length_cons, Its.lay, if_true, List.nil_append, List.length_nil] at h1; omega)
            obtain ⟨jj, HL⟩ := Buf.last HO2.out hy (by have := LY.out; omega)
            obtain ⟨l1, l2, l3, l4, l5, l6, l7, l8, _⟩ := HL
            clear hy hz
            go_wp2_with ((with_reducible refine gate_builtin (b := .append) (xs := #[.tmp 166, .tmp 168]) rfl ?_); (try (refine gate_guard (by rfl) ?_; dsimp only)); at_builtin; refine buf_one (w0 := w0) rfl (.tmp 166) (.tmp 168) rfl (.slice (some ⟨g, 0, none⟩) y.length c) y 125 rfl rfl ?aB ?aO ?aL ?_; (case aB => repeat (first | (with_reducible first | exact HB2.out | apply below_alloc | apply pw_below_drewN | apply below_drew1) | exact HB2.out)); (case aO => ((with_reducible repeat (first | apply Kd.R_alloc | apply Kd.R_drewN | apply Kd.R_drew)); exact HO2.out)); (case aL => have := LY.out; omega); intro gg2 cc2 yy2 ww2 HY2 HG2 HO2 HB2)
            refine bodyPost_ret (results_list (rs := [.tmp 26, .tmp 27, .tmp 28, .tmp 29]) rfl (by simp) (.tmp (.tmp (.tmp (.tmp .nil))))) rfl ?_
            exact Laid.mk (HWI.out.trans R6.out) (by rw [← HLY.out]; rw [show y ++ (Its.fin []).lay (bytesOf p) (bytesOf d) n true true = yy2 from HY2.out.symm]; exact (by ((with_reducible repeat (first | apply Kd.R_alloc | apply Kd.R_drewN | apply Kd.R_drew)); exact HO2.out) : Buf w0 _ _ yy2)) (by repeat (first | (with_reducible first | exact HB2.out | apply below_alloc | apply pw_below_drewN | apply below_drew1) | exact HB2.out))
        | false =>
          as_aux_lemma =>
            have h35 : decide (0 < x35) = true := decide_eq_true (by have h1 := HF.out; have h2 := H35.out; have h3 : ¬ x35 = 0 := (fun h => by have := h1.mpr h; cases this); omega)
            obtain ⟨ys, z, hy, hz, _⟩ := HY.out
            have hzb : (z == 32) = false := beq_eq_false_iff_ne.mpr hz
            have LY := Aside0.mk (show y.length + 2 + (tabs (bytesOf p) (bytesOf d) n).length < 140737488355328 by have h1 := HLEN.out; have h2 := HXI.out; simp only [List.length_append, List.length_cons, Its.lay, Bool.false_eq_true, if_false, List.length_nil] at h1; omega)
            obtain ⟨jj, HL⟩ := Buf.last HO2.out hy (by have := LY.out; omega)
            obtain ⟨l1, l2, l3, l4, l5, l6, l7, l8, _⟩ := HL
            clear hy hz
            go_wp2_with ((with_reducible refine gate_builtin (b := .append) (xs := #[.tmp 150, .tmp 151]) rfl ?_); (try (refine gate_guard (by rfl) ?_; dsimp only)); at_builtin; refine buf_one (w0 := w0) rfl (.tmp 150) (.tmp 151) rfl (.slice (some ⟨g, 0, none⟩) y.length c) y 10 rfl rfl ?aB ?aO ?aL ?_; (case aB => repeat (first | (with_reducible first | exact HB2.out | apply below_alloc | apply pw_below_drewN | apply below_drew1) | exact HB2.out)); (case aO => ((with_reducible repeat (first | apply Kd.R_alloc | apply Kd.R_drewN | apply Kd.R_drew)); exact HO2.out)); (case aL => have := LY.out; omega); intro gg3 cc3 yy3 ww3 HY3 HG3 HO3 HB3; obtain ⟨jk, HL3⟩ := Buf.last HO3.out HY3.out (by have h1 := LY.out; have h2 := congrArg List.length HY3.out; simp only [List.length_append, List.length_cons, List.length_nil] at h2; omega); obtain ⟨m31, m32, m33, m34, m35, m36, m37, m38, _⟩ := HL3)
            refine (tabs_fits p d n a10 HN.out (by have := HNS.out; omega) w0 _ _ yy3 (by rw [HY3.out]; simp) (by repeat (first | (with_reducible first | exact HB3.out | apply below_alloc | apply pw_below_drewN | apply below_drew1) | exact HB3.out)) (by ((with_reducible repeat (first | apply Kd.R_alloc | apply Kd.R_drewN | apply Kd.R_drew)); exact HO3.out)) (by have h1 := LY.out; have h2 := congrArg List.length HY3.out; simp only [List.length_append, List.length_cons, List.length_nil] at h2; omega)).mono ?_
            rintro e w4 ⟨g4, c4, y4, rfl, hy4, hg4, ho4, hb4⟩
            have HY4 := Aside0.mk hy4
            have HO4 := Aside0.mk ho4
            have HB4 := Aside0.mk hb4
            have LZ := Aside0.mk (show y4.length + 1 < 140737488355328 by have h1 := LY.out; have h2 := congrArg List.length HY3.out; have h3 := congrArg List.length hy4; simp only [List.length_append, List.length_cons, List.length_nil] at h2 h3; omega)
            clear hy4 hg4 ho4 hb4 HO3 HB3 HO2 HB2
            go_wp2_with ((with_reducible refine gate_builtin (b := .append) (xs := #[.tmp 166, .tmp 168]) rfl ?_); (try (refine gate_guard (by rfl) ?_; dsimp only)); at_builtin; refine buf_one (w0 := w0) rfl (.tmp 166) (.tmp 168) rfl (.slice (some ⟨g4, 0, none⟩) y4.length c4) y4 125 rfl rfl ?aB ?aO ?aL ?_; (case aB => repeat (first | (with_reducible first | exact HB4.out | apply below_alloc | apply pw_below_drewN | apply below_drew1) | exact HB4.out)); (case aO => ((with_reducible repeat (first | apply Kd.R_alloc | apply Kd.R_drewN | apply Kd.R_drew)); exact HO4.out)); (case aL => have := LZ.out; omega); intro gg5 cc5 yy5 ww5 HY5 HG5 HO5 HB5)
            refine bodyPost_ret (results_list (rs := [.tmp 26, .tmp 27, .tmp 28, .tmp 29]) rfl (by simp) (.tmp (.tmp (.tmp (.tmp .nil))))) rfl ?_
            exact Laid.mk (HWI.out.trans R6.out) (by rw [← HLY.out]; rw [show y ++ (Its.fin []).lay (bytesOf p) (bytesOf d) n true false = yy5 from by rw [HY5.out, HY4.out, HY3.out]; simp [Its.lay, cls]]; exact (by ((with_reducible repeat (first | apply Kd.R_alloc | apply Kd.R_drewN | apply Kd.R_drew)); exact HO5.out) : Buf w0 _ _ yy5)) (by repeat (first | (with_reducible first | exact HB5.out | apply below_alloc | apply pw_below_drewN | apply below_drew1) | exact HB5.out))
      · subst hcons
        have hok := HT.out
        simp only [Its.ok, if_true] at hok
        obtain ⟨⟨_, _, hkey, hjunk⟩, hvok, htok⟩ := hok
        have hd : l.drop j = key ++ (junk ++ (v'.text ++ (t'.text true ++ rest))) := by have h := HD2.out; simp only [Its.text, List.nil_append, List.append_assoc] at h; exact h
        obtain ⟨bk, hbk, _⟩ := hkey.body
        have hx := (HRD 34 (bk ++ [34] ++ (junk ++ (v'.text ++ (t'.text true ++ rest)))) (by rw [hd, hbk]; rfl)).out
        have hd2 := drop_app hd
        have HKEY := Aside0.mk hkey
        have HDK := Aside0.mk hd
        have HJU := Aside0.mk (show ∀ x ∈ junk, x ≤ 32 ∨ x = 44 ∨ x = 58 from fun x hx => by rcases hjunk x hx with h | h; exact .inl h.le; exact .inr (.inr h))
        have HVOK := Aside0.mk hvok
        have HTOK := Aside0.mk htok
        have HDJ := Aside0.mk hd2
        have HVN := Aside0.mk (show 0 < v'.text.length by obtain ⟨z, r, h, _⟩ := v'.text_head hvok; rw [h]; simp)
        have HSV := Aside0.mk (show v'.size + t'.size + 1 ≤ its.size by have := HTS.out; simp only [Its.size] at this; omega)
        have HTE := Aside0.mk (show j + key.length + junk.length + v'.text.length + (t'.text true).length = i + 1 + (its.text true).length by have := HTL.out; simp only [Its.text, List.length_append, List.length_nil] at this; omega)
        have HDL := Aside0.mk (show j + key.length + junk.length + v'.text.length ≤ l.length by have h1 := congrArg List.length hd2; simp only [List.length_drop, List.length_append] at h1; have := HVN.out; omega)
        have HWN := Aside0.mk (show wrap64 (a10 + 1) = ((n + 1 : Nat) : Int) from by have h1 := HN.out; have h2 := HNS.out; unfold wrap64; omega)
        clear hvok htok hd2 HRD hjunk HTL HTS hkey hbk hd
        cases first with
        | true =>
          as_aux_lemma =>
            obtain ⟨ys, z0, hy, hz0, hzo⟩ := HY.out
            have LY := Aside0.mk (show y.length + 1 + (tabs (bytesOf p) (bytesOf d) (n + 1)).length + key.length + 2 + (v'.lay (bytesOf p) (bytesOf d) (n + 1)).length < 140737488355328 by have h1 := HLEN.out; have h2 := HXI.out; simp only [List.length_append, List.length_cons, Its.lay, if_true, Bool.false_eq_true, if_false, List.nil_append, List.length_nil] at h1; omega)
            have h35 : x35 = 0 := HF.out.mp rfl
            subst h35
            have hzb : (z0 == 32) = false := beq_eq_false_iff_ne.mpr hz0
            have HYZ := Aside0.mk hy
            clear hy hz0 hzo
            go_wp2_with (first | ((with_reducible refine gate_dst (N := 36) rfl ?_); (try (refine gate_guard (by rfl) ?_; dsimp only)); refine box_event ?hg (N := 36) ?hd (cs := #[.int .i64 0, .int .i64 0, .int .i64 0, .int .i64 0]) (t := 71) ?hr ?_; (case hd => rfl); (case hg => rfl); (case hr => first | (go_simp; done) | (go_simp; rfl)); intro gb3 hgb w3 hbox hbb; have HO3 := Aside0.mk (show Buf w0 w3 _ y from Kd.R_below (by ((with_reducible repeat (first | apply Kd.R_alloc | apply Kd.R_drewN | apply Kd.R_drew)); exact HO2.out)) hbb); have HB3 := Aside0.mk (below_step (by repeat (first | (with_reducible first | exact HB2.out | apply below_alloc | apply pw_below_drewN | apply below_drew1) | exact HB2.out)) hbb); clear hbox hbb hgb; obtain ⟨jk, HLk⟩ := Buf.last HO3.out HYZ.out (by have := LY.out; omega); obtain ⟨k1, k2, k3, k4, k5, k6, k7, k8, k9⟩ := HLk) | ((with_reducible refine gate_builtin (b := .append) (xs := #[.tmp 212, .tmp 213]) rfl ?_); (try (refine gate_guard (by rfl) ?_; dsimp only)); at_builtin; refine buf_one (w0 := w0) rfl (.tmp 212) (.tmp 213) rfl (.slice (some ⟨g, 0, none⟩) y.length c) y 10 rfl rfl ?aB ?aO ?aL ?_; (case aB => repeat (first | (with_reducible first | exact HB3.out | apply below_alloc | apply pw_below_drewN | apply below_drew1) | exact HB3.out)); (case aO => ((with_reducible repeat (first | apply Kd.R_alloc | apply Kd.R_drewN | apply Kd.R_drew)); exact HO3.out)); (case aL => have := LY.out; omega); intro gg4 cc4 yy4 ww4 HY4 HG4 HO4 HB4))
            refine (tabs_fits p d (n + 1) (wrap64 (a10 + 1)) HWN.out (by have := HNS.out; have := HSV.out; omega) w0 _ _ yy4 (by rw [HY4.out]; simp) (by repeat (first | (with_reducible first | exact HB4.out | apply below_alloc | apply pw_below_drewN | apply below_drew1) | exact HB4.out)) (by ((with_reducible repeat (first | apply Kd.R_alloc | apply Kd.R_drewN | apply Kd.R_drew)); exact HO4.out)) (by have h1 := LY.out; have h2 := congrArg List.length HY4.out; simp only [List.length_append, List.length_cons, List.length_nil] at h2; omega)).mono ?_
            rintro e w7 ⟨g7, c7, y7, rfl, hy7, hg7, ho7, hb7⟩
            have HY7 := Aside0.mk hy7
            have HO7 := Aside0.mk ho7
            have HB7 := Aside0.mk hb7
            have LE7 := Aside0.mk (show y7.length = y.length + 1 + (tabs (bytesOf p) (bytesOf d) (n + 1)).length by have h2 := congrArg List.length HY4.out; simp only [List.length_append, List.length_cons, List.length_nil] at h2; have h4 := congrArg List.length hy7; simp only [List.length_append] at h4; omega)
            try clear HO3 HB3
            try clear HO5 HB5
            try clear HO6 HB6
            clear hy7 hg7 ho7 hb7 HO4 HB4 HO2 HB2 k1 k2 k3 k4 k5 k6 k7 k8 k9
            go_wp2_with fail
            refine (str_fits key (junk ++ (v'.text ++ (t'.text true ++ rest))) l HKEY.out j x2 HJ.out HDK.out HLL.out _ w0 _ ad c1 _ y7 (by repeat (first | (with_reducible first | exact HB7.out | apply below_alloc | apply pw_below_drewN | apply below_drew1) | exact HB7.out)) HC.out HC1.out (by ((with_reducible repeat (first | apply Kd.R_alloc | apply Kd.R_drewN | apply Kd.R_drew)); exact HO7.out)) (by have h1 := LY.out; have h2 := LE7.out; omega)).mono ?_
            rintro e w8 ⟨g8, c8, y8, e8, rfl, he8, hy8, hg8, ho8, hb8⟩
            have HY8 := Aside0.mk hy8
            have HO8 := Aside0.mk ho8
            have HB8 := Aside0.mk hb8
            have HE8 := Aside0.mk he8
            have LE8 := Aside0.mk (show y8.length = y7.length + key.length by have h4 := congrArg List.length hy8; simp only [List.length_append] at h4; omega)
            clear hy8 hg8 ho8 hb8 he8 HO7 HB7
            go_wp2_with (first | ((with_reducible refine gate_builtin (b := .append) (xs := #[.tmp 246, .tmp 247]) rfl ?_); (try (refine gate_guard (by rfl) ?_; dsimp only)); at_builtin; refine buf_one (w0 := w0) rfl (.tmp 246) (.tmp 247) rfl (.slice (some ⟨g8, 0, none⟩) y8.length c8) y8 58 rfl rfl ?aB ?aO ?aL ?_; (case aB => repeat (first | (with_reducible first | exact HB8.out | apply below_alloc | apply pw_below_drewN | apply below_drew1) | exact HB8.out)); (case aO => ((with_reducible repeat (first | apply Kd.R_alloc | apply Kd.R_drewN | apply Kd.R_drew)); exact HO8.out)); (case aL => have := LY.out; have h2 := LE7.out; have h3 := LE8.out; omega); intro gg9 cc9 yy9 ww9 HY9 HG9 HO9 HB9) | ((with_reducible refine gate_builtin (b := .append) (xs := #[.tmp 250, .tmp 251]) rfl ?_); (try (refine gate_guard (by rfl) ?_; dsimp only)); at_builtin; refine buf_one (w0 := w0) rfl (.tmp 250) (.tmp 251) rfl (.slice (some ⟨gg9, 0, none⟩) yy9.length cc9) yy9 32 rfl rfl ?aB ?aO ?aL ?_; (case aB => repeat (first | (with_reducible first | exact HB9.out | apply below_alloc | apply pw_below_drewN | apply below_drew1) | exact HB9.out)); (case aO => ((with_reducible repeat (first | apply Kd.R_alloc | apply Kd.R_drewN | apply Kd.R_drew)); exact HO9.out)); (case aL => have := LY.out; have h2 := LE7.out; have h3 := LE8.out; have h4 := congrArg List.length HY9.out; simp only [List.length_append, List.length_cons, List.length_nil] at h4; omega); intro gg10 cc10 yy10 ww10 HY10 HG10 HO10 HB10))
            refine (ih v' w0 _ ad c1 l _ yy10 e8 (j + key.length) (n + 1) (wrap64 (a10 + 1)) _ junk (t'.text true ++ rest) (by have h1 := HSZ.out; have h2 := HSV.out; omega) HVOK.out HE8.out HWN.out (by have h1 := HNS.out; have h2 := HSV.out; omega) HDJ.out HJU.out (Its.ok_stop HTOK.out rest) HLL.out (by repeat (first | (with_reducible first | exact HB10.out | apply below_alloc | apply pw_below_drewN | apply below_drew1) | exact HB10.out)) HC.out HC1.out (by ((with_reducible repeat (first | apply Kd.R_alloc | apply Kd.R_drewN | apply Kd.R_drew)); exact HO10.out)) (by have h1 := LY.out; have h2 := LE7.out; have h3 := LE8.out; have h4 := congrArg List.length HY9.out; have h5 := congrArg List.length HY10.out; simp only [List.length_append, List.length_cons, List.length_nil] at h4 h5; omega)).mono ?_
            rintro e w11 ⟨v11, e11, nl11, ok11, rfl, he11, ho11, hb11⟩
            obtain ⟨yz, zz, hyz, hzz⟩ := Cst.lay_last (bytesOf p) (bytesOf d) (n + 1) HVOK.out
            obtain ⟨g11, c11, hv11, hg11⟩ := Buf.shape ho11 (by rw [hyz]; simp)
            subst hv11
            obtain ⟨y11, hy11⟩ : ∃ q : List Int, q = yy10 ++ v'.lay (bytesOf p) (bytesOf d) (n + 1) := ⟨_, rfl⟩
            rw [← hy11] at ho11 ⊢
            have HE11 := Aside0.mk (show wrap64 (wrap64 (e11 - 1) + 1) = (((j + key.length) + junk.length + v'.text.length : Nat) : Int) from by have h1 := HLL.out; have h2 := HDL.out; have h3 := HVN.out; unfold wrap64; omega)
            have H11 := Aside0.mk (show (0 ≤ (1 : Int) ∧ (1 : Int) ≤ (((j + key.length) + junk.length + v'.text.length : Nat) : Int)) ∧ (false = true ↔ (1 : Int) = 0) from by have h3 := HVN.out; refine ⟨by omega, ⟨(fun h => by cases h), (fun h => by omega)⟩⟩)
            have HZ11 := Aside0.mk (show ∃ ys z, y11 = ys ++ [z] ∧ z ≠ 32 ∧ (false = true → z = 123) from ⟨yy10 ++ yz, zz, by rw [hy11, hyz, List.append_assoc], hzz, by simp⟩)
            have HL11 := Aside0.mk (show y11 ++ t'.lay (bytesOf p) (bytesOf d) n true false = xs ++ 123 :: its.lay (bytesOf p) (bytesOf d) n true true from by rw [← HLY.out, hy11, HY10.out, HY9.out, HY8.out, HY7.out, HY4.out]; simp [Its.lay])
            have HO11 := Aside0.mk ho11
            have HB11 := Aside0.mk hb11
            have HG11 := Aside0.mk hg11
            clear he11 ho11 hb11 hg11 hy11 hyz hzz
            go_wp2
            go_roundg (l.length - ((j + key.length) + junk.length + v'.text.length))
            case measure => have h1 := HK2.out; have h2 := HVN.out; have h3 := HDL.out; omega
            case rel => exact ⟨t', false, (j + key.length) + junk.length + v'.text.length, _, _, _, y11, g11, c11, rfl, rfl, rfl, rfl, rfl, rfl, HE11, ⟨by have := HDL.out; omega⟩, ⟨H11.out.1⟩, ⟨H11.out.2⟩, ⟨drop_app (by rw [drop_app HDJ.out])⟩, ⟨Its.ok_first HTOK.out⟩, ⟨by have := HSV.out; omega⟩, ⟨by have := HTE.out; omega⟩, HZ11, HL11, HG11, ⟨by ((with_reducible repeat (first | apply Kd.R_alloc | apply Kd.R_drewN | apply Kd.R_drew)); exact HO11.out)⟩, ⟨by repeat (first | (with_reducible first | exact HB11.out | apply below_alloc | apply pw_below_drewN | apply below_drew1) | exact HB11.out)⟩⟩
        | false =>
          as_aux_lemma =>
            obtain ⟨ys, z0, hy, hz0, hzo⟩ := HY.out
            have LY := Aside0.mk (show y.length + 1 + 1 + (tabs (bytesOf p) (bytesOf d) (n + 1)).length + key.length + 2 + (v'.lay (bytesOf p) (bytesOf d) (n + 1)).length < 140737488355328 by have h1 := HLEN.out; have h2 := HXI.out; simp only [List.length_append, List.length_cons, Its.lay, if_true, Bool.false_eq_true, if_false, List.nil_append, List.length_nil] at h1; omega)
            have h35 : decide (0 < x35) = true := decide_eq_true (by have h1 := HF.out; have h2 := H35.out; have h3 : ¬ x35 = 0 := (fun h => by have := h1.mpr h; cases this); omega)
            clear hy hz0 hzo
            go_wp2_with (first | ((with_reducible refine gate_builtin (b := .append) (xs := #[.tmp 187, .tmp 188]) rfl ?_); (try (refine gate_guard (by rfl) ?_; dsimp only)); at_builtin; refine buf_one (w0 := w0) rfl (.tmp 187) (.tmp 188) rfl (.slice (some ⟨g, 0, none⟩) y.length c) y 44 rfl rfl ?aB ?aO ?aL ?_; (case aB => repeat (first | (with_reducible first | exact HB2.out | apply below_alloc | apply pw_below_drewN | apply below_drew1) | exact HB2.out)); (case aO => ((with_reducible repeat (first | apply Kd.R_alloc | apply Kd.R_drewN | apply Kd.R_drew)); exact HO2.out)); (case aL => have := LY.out; omega); intro gg3 cc3 yy3 ww3 HY3 HG3 HO3 HB3) | ((with_reducible refine gate_dst (N := 36) rfl ?_); (try (refine gate_guard (by rfl) ?_; dsimp only)); refine box_event ?hg (N := 36) ?hd (cs := #[.int .i64 0, .int .i64 0, .int .i64 0, .int .i64 0]) (t := 71) ?hr ?_; (case hd => rfl); (case hg => rfl); (case hr => first | (go_simp; done) | (go_simp; rfl)); intro gb5 hgb w5 hbox hbb; have HO5 := Aside0.mk (show Buf w0 w5 _ yy3 from Kd.R_below (by ((with_reducible repeat (first | apply Kd.R_alloc | apply Kd.R_drewN | apply Kd.R_drew)); exact HO3.out)) hbb); have HB5 := Aside0.mk (below_step (by repeat (first | (with_reducible first | exact HB3.out | apply below_alloc | apply pw_below_drewN | apply below_drew1) | exact HB3.out)) hbb); clear hbox hbb hgb; obtain ⟨jk, HLk⟩ := Buf.last HO5.out HY3.out (by have := LY.out; have h2 := congrArg List.length HY3.out; simp only [List.length_append, List.length_cons, List.length_nil] at h2; omega); obtain ⟨k1, k2, k3, k4, k5, k6, k7, k8, k9⟩ := HLk) | ((with_reducible refine gate_builtin (b := .append) (xs := #[.tmp 212, .tmp 213]) rfl ?_); (try (refine gate_guard (by rfl) ?_; dsimp only)); at_builtin; refine buf_one (w0 := w0) rfl (.tmp 212) (.tmp 213) rfl (.slice (some ⟨gg3, 0, none⟩) yy3.length cc3) yy3 10 rfl rfl ?aB ?aO ?aL ?_; (case aB => repeat (first | (with_reducible first | exact HB5.out | apply below_alloc | apply pw_below_drewN | apply below_drew1) | exact HB5.out)); (case aO => ((with_reducible repeat (first | apply Kd.R_alloc | apply Kd.R_drewN | apply Kd.R_drew)); exact HO5.out)); (case aL => have := LY.out; have h2 := congrArg List.length HY3.out; simp only [List.length_append, List.length_cons, List.length_nil] at h2; omega); intro gg4 cc4 yy4 ww4 HY4 HG4 HO4 HB4))
            refine (tabs_fits p d (n + 1) (wrap64 (a10 + 1)) HWN.out (by have := HNS.out; have := HSV.out; omega) w0 _ _ yy4 (by rw [HY4.out]; simp) (by repeat (first | (with_reducible first | exact HB4.out | apply below_alloc | apply pw_below_drewN | apply below_drew1) | exact HB4.out)) (by ((with_reducible repeat (first | apply Kd.R_alloc | apply Kd.R_drewN | apply Kd.R_drew)); exact HO4.out)) (by have h1 := LY.out; have h2 := congrArg List.length HY4.out; have h3 := congrArg List.length HY3.out; simp only [List.length_append, List.length_cons, List.length_nil] at h2 h3; omega)).mono ?_
            rintro e w7 ⟨g7, c7, y7, rfl, hy7, hg7, ho7, hb7⟩
            have HY7 := Aside0.mk hy7
            have HO7 := Aside0.mk ho7
            have HB7 := Aside0.mk hb7
            have LE7 := Aside0.mk (show y7.length = y.length + 1 + 1 + (tabs (bytesOf p) (bytesOf d) (n + 1)).length by have h2 := congrArg List.length HY4.out; have h3 := congrArg List.length HY3.out; simp only [List.length_append, List.length_cons, List.length_nil] at h2 h3; have h4 := congrArg List.length hy7; simp only [List.length_append] at h4; omega)
            try clear HO3 HB3
            try clear HO5 HB5
            try clear HO6 HB6
            clear hy7 hg7 ho7 hb7 HO4 HB4 HO2 HB2 k1 k2 k3 k4 k5 k6 k7 k8 k9
            go_wp2_with fail
            refine (str_fits key (junk ++ (v'.text ++ (t'.text true ++ rest))) l HKEY.out j x2 HJ.out HDK.out HLL.out _ w0 _ ad c1 _ y7 (by repeat (first | (with_reducible first | exact HB7.out | apply below_alloc | apply pw_below_drewN | apply below_drew1) | exact HB7.out)) HC.out HC1.out (by ((with_reducible repeat (first | apply Kd.R_alloc | apply Kd.R_drewN | apply Kd.R_drew)); exact HO7.out)) (by have h1 := LY.out; have h2 := LE7.out; omega)).mono ?_
            rintro e w8 ⟨g8, c8, y8, e8, rfl, he8, hy8, hg8, ho8, hb8⟩
            have HY8 := Aside0.mk hy8
            have HO8 := Aside0.mk ho8
            have HB8 := Aside0.mk hb8
            have HE8 := Aside0.mk he8
            have LE8 := Aside0.mk (show y8.length = y7.length + key.length by have h4 := congrArg List.length hy8; simp only [List.length_append] at h4; omega)
            clear hy8 hg8 ho8 hb8 he8 HO7 HB7
            go_wp2_with (first | ((with_reducible refine gate_builtin (b := .append) (xs := #[.tmp 246, .tmp 247]) rfl ?_); (try (refine gate_guard (by rfl) ?_; dsimp only)); at_builtin; refine buf_one (w0 := w0) rfl (.tmp 246) (.tmp 247) rfl (.slice (some ⟨g8, 0, none⟩) y8.length c8) y8 58 rfl rfl ?aB ?aO ?aL ?_; (case aB => repeat (first | (with_reducible first | exact HB8.out | apply below_alloc | apply pw_below_drewN | apply below_drew1) | exact HB8.out)); (case aO => ((with_reducible repeat (first | apply Kd.R_alloc | apply Kd.R_drewN | apply Kd.R_drew)); exact HO8.out)); (case aL => have := LY.out; have h2 := LE7.out; have h3 := LE8.out; omega); intro gg9 cc9 yy9 ww9 HY9 HG9 HO9 HB9) | ((with_reducible refine gate_builtin (b := .append) (xs := #[.tmp 250, .tmp 251]) rfl ?_); (try (refine gate_guard (by rfl) ?_; dsimp only)); at_builtin; refine buf_one (w0 := w0) rfl (.tmp 250) (.tmp 251) rfl (.slice (some ⟨gg9, 0, none⟩) yy9.length cc9) yy9 32 rfl rfl ?aB ?aO ?aL ?_; (case aB => repeat (first | (with_reducible first | exact HB9.out | apply below_alloc | apply pw_below_drewN | apply below_drew1) | exact HB9.out)); (case aO => ((with_reducible repeat (first | apply Kd.R_alloc | apply Kd.R_drewN | apply Kd.R_drew)); exact HO9.out)); (case aL => have := LY.out; have h2 := LE7.out; have h3 := LE8.out; have h4 := congrArg List.length HY9.out; simp only [List.length_append, List.length_cons, List.length_nil] at h4; omega); intro gg10 cc10 yy10 ww10 HY10 HG10 HO10 HB10))
            refine (ih v' w0 _ ad c1 l _ yy10 e8 (j + key.length) (n + 1) (wrap64 (a10 + 1)) _ junk (t'.text true ++ rest) (by have h1 := HSZ.out; have h2 := HSV.out; omega) HVOK.out HE8.out HWN.out (by have h1 := HNS.out; have h2 := HSV.out; omega) HDJ.out HJU.out (Its.ok_stop HTOK.out rest) HLL.out (by repeat (first | (with_reducible first | exact HB10.out | apply below_alloc | apply pw_below_drewN | apply below_drew1) | exact HB10.out)) HC.out HC1.out (by ((with_reducible repeat (first | apply Kd.R_alloc | apply Kd.R_drewN | apply Kd.R_drew)); exact HO10.out)) (by have h1 := LY.out; have h2 := LE7.out; have h3 := LE8.out; have h4 := congrArg List.length HY9.out; have h5 := congrArg List.length HY10.out; simp only [List.length_append, List.length_cons, List.length_nil] at h4 h5; omega)).mono ?_
            rintro e w11 ⟨v11, e11, nl11, ok11, rfl, he11, ho11, hb11⟩
            obtain ⟨yz, zz, hyz, hzz⟩ := Cst.lay_last (bytesOf p) (bytesOf d) (n + 1) HVOK.out
            obtain ⟨g11, c11, hv11, hg11⟩ := Buf.shape ho11 (by rw [hyz]; simp)
            subst hv11
            obtain ⟨y11, hy11⟩ : ∃ q : List Int, q = yy10 ++ v'.lay (bytesOf p) (bytesOf d) (n + 1) := ⟨_, rfl⟩
            rw [← hy11] at ho11 ⊢
            have HE11 := Aside0.mk (show wrap64 (wrap64 (e11 - 1) + 1) = (((j + key.length) + junk.length + v'.text.length : Nat) : Int) from by have h1 := HLL.out; have h2 := HDL.out; have h3 := HVN.out; unfold wrap64; omega)
            have H11 := Aside0.mk (show (0 ≤ wrap64 (x35 + 1) ∧ wrap64 (x35 + 1) ≤ (((j + key.length) + junk.length + v'.text.length : Nat) : Int)) ∧ (false = true ↔ wrap64 (x35 + 1) = 0) from by have h1 := H35.out; have h2 := HDL.out; have h3 := HVN.out; have h4 := HLL.out; unfold wrap64; refine ⟨by omega, ⟨(fun h => by cases h), (fun h => by omega)⟩⟩)
            have HZ11 := Aside0.mk (show ∃ ys z, y11 = ys ++ [z] ∧ z ≠ 32 ∧ (false = true → z = 123) from ⟨yy10 ++ yz, zz, by rw [hy11, hyz, List.append_assoc], hzz, by simp⟩)
            have HL11 := Aside0.mk (show y11 ++ t'.lay (bytesOf p) (bytesOf d) n true false = xs ++ 123 :: its.lay (bytesOf p) (bytesOf d) n true true from by rw [← HLY.out, hy11, HY10.out, HY9.out, HY8.out, HY7.out, HY4.out, HY3.out]; simp [Its.lay])
            have HO11 := Aside0.mk ho11
            have HB11 := Aside0.mk hb11
            have HG11 := Aside0.mk hg11
            clear he11 ho11 hb11 hg11 hy11 hyz hzz
            go_wp2
            go_roundg (l.length - ((j + key.length) + junk.length + v'.text.length))
            case measure => have h1 := HK2.out; have h2 := HVN.out; have h3 := HDL.out; omega
            case rel => exact ⟨t', false, (j + key.length) + junk.length + v'.text.length, _, _, _, y11, g11, c11, rfl, rfl, rfl, rfl, rfl, rfl, HE11, ⟨by have := HDL.out; omega⟩, ⟨H11.out.1⟩, ⟨H11.out.2⟩, ⟨drop_app (by rw [drop_app HDJ.out])⟩, ⟨Its.ok_first HTOK.out⟩, ⟨by have := HSV.out; omega⟩, ⟨by have := HTE.out; omega⟩, HZ11, HL11, HG11, ⟨by ((with_reducible repeat (first | apply Kd.R_alloc | apply Kd.R_drewN | apply Kd.R_drew)); exact HO11.out)⟩, ⟨by repeat (first | (with_reducible first | exact HB11.out | apply below_alloc | apply pw_below_drewN | apply below_drew1) | exact HB11.out)⟩⟩
end Go.Proofs.Ytdcigjpgagimdaa.M
