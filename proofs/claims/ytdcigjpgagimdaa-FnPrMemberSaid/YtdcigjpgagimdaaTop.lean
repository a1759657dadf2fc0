/-
pretty.PrettyOptions and impl.PrPretty on a text of a tree: the prefix, the tree's layout, a line feed.
-/
import Derived.Test.YtdcigjpgagimdaaObjA
import Derived.Test.YtdcigjpgagimdaaObjO
import Derived.Test.YtdcigjpgagimdaaAny
import Derived.Outline
import Derived.Lib.ConvBytes
import Derived.Lib.AtoiErrMem
namespace Go.Proofs.Ytdcigjpgagimdaa.M
open Go.RowKit Tx Go.Proofs.YtdcigjpgagimdaaW.PrintWords Go.Proofs.YtdcigjpgagimdaaW.PrintLast Go.Proofs.YtdcigjpgagimdaaW.PrintMore
set_option linter.unusedVariables false
set_option linter.unusedSimpArgs false

theorem any_all (p d : ByteArray) : ∀ N, AnyFits p d N
  | 0 => by
    intro c w0 w ad c1 l v xs a2 i n a8 nl junk rest hsz
    exfalso
    cases c <;> simp only [Cst.size] at hsz <;> omega
  | N + 1 => any_fits p d N (obj_fits_false p d N (any_all p d N)) (obj_fits_true p d N (any_all p d N))

theorem opt_cells {w W : World} {g : Nat} {o0 : Int} {o1 o2 : ByteArray} {o3 : Bool} (hO : w.heap[g]? = some (.cells #[.int .i64 o0, .string o1, .string o2, .bool o3] 44 (0, 0))) (hb : Below w.heap.size w W) :
    W.cell? ⟨g, 0, none⟩ = some (.int .i64 o0) ∧ W.cell? ⟨g, 1, none⟩ = some (.string o1) ∧ W.cell? ⟨g, 2, none⟩ = some (.string o2) ∧ W.cell? ⟨g, 3, none⟩ = some (.bool o3) := by
  have hW : W.heap[g]? = some (.cells #[.int .i64 o0, .string o1, .string o2, .bool o3] 44 (0, 0)) := (hb.block g (blk_lt hO)).trans hO
  exact ⟨(blk_cell hW 0).trans rfl, (blk_cell hW 1).trans rfl, (blk_cell hW 2).trans rfl, (blk_cell hW 3).trans rfl⟩

/-- What is handed back: a row of its own. -/
def Printed (w : World) (zs : List Int) (e : Ending) (w' : World) : Prop := ∃ v' : Value, e = .returned v' ∧ Buf w w' v' zs ∧ Below w.heap.size w w'

set_option maxHeartbeats 8000000 in
set_option maxRecDepth 100000 in
theorem options_fits (c : Cst) (junk rest l : List Int) (g : Nat) (o1 o2 : ByteArray) (w : World) (ad : Addr) (c0 : Nat)
    (hO : w.heap[g]? = some (.cells #[.int .i64 0, .string o1, .string o2, .bool false] 44 (0, 0))) (hC : Kd.C (Kd.int .u8) w (some ad) l.length l) (hc : l.length ≤ c0)
    (hok : c.ok) (hl : l = junk ++ (c.text ++ rest)) (hj : ∀ x ∈ junk, x ≤ 32 ∨ x = 44 ∨ x = 58) (hs : StopAt rest) (hll : l.length < 1099511627776) (hsz : c.size < 1099511627776) (hL : (bytesOf o1).length + (c.lay (bytesOf o1) (bytesOf o2) 0).length + 1 < 140737488355328) :
    Calls Try.prog 14 #[.slice (some ad) l.length c0, .pointer (some ⟨g, 0, none⟩)] w (Printed w (bytesOf o1 ++ (c.lay (bytesOf o1) (bytesOf o2) 0 ++ [10]))) := by
  have HO := Aside0.mk hO
  have HC := Aside0.mk hC
  have HC0 := Aside0.mk hc
  have HOK := Aside0.mk hok
  have HD := Aside0.mk (show l.drop 0 = junk ++ (c.text ++ rest) from hl)
  have HJ := Aside0.mk hj
  have HS := Aside0.mk hs
  have HLL := Aside0.mk hll
  have HSZ := Aside0.mk hsz
  have HL := Aside0.mk hL
  obtain ⟨q0, q1, q2, q3⟩ := opt_cells hO (Below.refl _ _)
  clear hO hC hc hok hl hj hs hll hsz hL
  obtain ⟨i0, hi, hz0, hz1, hz2⟩ := info_parts info5
  go_enter Try.func14, Try.ntmps14
  by_cases hp : o1.size = 0
  · have hp1 : ((o1.size : Int) != 0) = false := bne_eq_false_iff_eq.mpr (by omega)
    have HPE := Aside0.mk (show bytesOf o1 = [] from List.eq_nil_of_length_eq_zero (by rw [bytesOf_length]; exact hp))
    go_wp2_with (at_make; refine wpList_make_own _ rfl _ _ 37 rfl w.heap.size 5 i0 (.int .u8 0) 1 Try.underlying37 hi hz0 hz1 .i64 .i64 _ l.length rfl rfl rfl (by have := HLL.out; rw [hz2]; omega) (by have := HLL.out; simp only [maxLen]; omega) (Nat.le_refl _) ?_; intro w1 hown hg; have HB := Aside0.mk (show Below w.heap.size w w1 from (Below.refl _ _).grown hg (Nat.le_refl _) (by simp)); have HV := Aside0.mk (show Buf w w1 _ [] from Kd.R_of_own (enc := Value.int .u8) (h1 := fun _ => rfl) (ok := fun k => w.heap.size ≤ k) (xs := ([] : List Int)) (show w1.ownsRow w.heap.size 5 1 _ ([] : List Int).length (encs (Value.int .u8) []) from hown) (fun k hk => own_base hown k hk)); clear hown hg; obtain ⟨r0, r1, r2, r3⟩ := opt_cells HO.out HB.out)
    go_region_held3 (fun W => W.cell? ⟨g, 0, none⟩ = some (.int .i64 0) ∧ W.cell? ⟨g, 1, none⟩ = some (.string o1) ∧ W.cell? ⟨g, 2, none⟩ = some (.string o2) ∧ W.cell? ⟨g, 3, none⟩ = some (.bool false)) (go_keep)
      (first | (go_at_call 21; refine (any_all o1 o2 c.size c w _ ad c0 l _ [] 0 0 0 0 0 junk rest (Nat.le_refl _) HOK.out rfl rfl (by have := HSZ.out; omega) HD.out HJ.out HS.out HLL.out ?sB HC.out HC0.out ?sO (by have := HL.out; simp only [List.length_nil]; omega)).mono ?_; (case sB => repeat (first | (with_reducible first | exact HB.out | apply below_alloc | apply pw_below_drewN | apply below_drew1) | exact HB.out)); (case sO => ((with_reducible repeat (first | apply Kd.R_alloc | apply Kd.R_drewN | apply Kd.R_drew)); exact HV.out)); rintro e w11 ⟨v11, e11, nl11, ok11, rfl, he11, ho11, hb11⟩; obtain ⟨s0, s1, s2, s3⟩ := opt_cells HO.out hb11; have HO11 := Aside0.mk ho11; have HB11 := Aside0.mk hb11; clear ho11 hb11 he11))
    obtain ⟨y11, hy11⟩ : ∃ q : List Int, q = [] ++ c.lay (bytesOf o1) (bytesOf o2) 0 := ⟨_, rfl⟩
    rw [← hy11] at HO11
    obtain ⟨yq, zq, hyq, _⟩ := Cst.lay_last (bytesOf o1) (bytesOf o2) 0 HOK.out
    have hpos : 0 < y11.length := by rw [hy11, hyq]; simp only [List.length_append, List.length_cons]; omega
    obtain ⟨g11, c11, hv11, _⟩ := Buf.shape HO11.out (List.length_pos_iff.mp hpos)
    subst hv11
    have hlt : decide (0 < (y11.length : Int)) = true := decide_eq_true (by omega)
    have hlt2 : decide (0 < y11.length) = true := decide_eq_true hpos
    have LY := Aside0.mk (show y11.length + 1 ≤ 140737488355328 by have := HL.out; rw [hy11, List.length_append]; simp only [List.length_nil]; omega)
    have HY11 := Aside0.mk hy11
    clear hy11 hyq hpos
    go_wp2_with ((with_reducible refine gate_builtin (b := .append) (xs := #[.tmp 52, .tmp 53]) rfl ?_); (try (refine gate_guard (by rfl) ?_; dsimp only)); at_builtin; refine buf_one (w0 := w) rfl (.tmp 52) (.tmp 53) rfl (.slice (some ⟨g11, 0, none⟩) y11.length c11) y11 10 rfl rfl ?aB ?aO ?aL ?_; (case aB => repeat (first | (with_reducible first | exact HB11.out | apply below_alloc | apply pw_below_drewN | apply below_drew1) | exact HB11.out)); (case aO => ((with_reducible repeat (first | apply Kd.R_alloc | apply Kd.R_drewN | apply Kd.R_drew)); exact HO11.out)); (case aL => have := LY.out; omega); intro gg cc yy ww HY HG HZ HBZ)
    go_ret
    exact ⟨_, rfl, by rw [show bytesOf o1 ++ (c.lay (bytesOf o1) (bytesOf o2) 0 ++ [10]) = yy from by rw [HY.out, HY11.out, HPE.out]; simp]; exact (by ((with_reducible repeat (first | apply Kd.R_alloc | apply Kd.R_drewN | apply Kd.R_drew)); exact HZ.out) : Buf w _ _ yy), by repeat (first | (with_reducible first | exact HBZ.out | apply below_alloc | apply pw_below_drewN | apply below_drew1) | exact HBZ.out)⟩
  · have hp1 : ((o1.size : Int) != 0) = true := bne_iff_ne.mpr (by omega)
    go_wp2_with (first | (at_make; refine wpList_make_own _ rfl _ _ 37 rfl w.heap.size 5 i0 (.int .u8 0) 1 Try.underlying37 hi hz0 hz1 .i64 .i64 _ l.length rfl rfl rfl (by have := HLL.out; rw [hz2]; omega) (by have := HLL.out; simp only [maxLen]; omega) (Nat.le_refl _) ?_; intro w1 hown hg; have HB := Aside0.mk (show Below w.heap.size w w1 from (Below.refl _ _).grown hg (Nat.le_refl _) (by simp)); have HV := Aside0.mk (show Buf w w1 _ [] from Kd.R_of_own (enc := Value.int .u8) (h1 := fun _ => rfl) (ok := fun k => w.heap.size ≤ k) (xs := ([] : List Int)) (show w1.ownsRow w.heap.size 5 1 _ ([] : List Int).length (encs (Value.int .u8) []) from hown) (fun k hk => own_base hown k hk)); clear hown hg; obtain ⟨r0, r1, r2, r3⟩ := opt_cells HO.out HB.out) | ((with_reducible refine gate_builtin (b := .append) (xs := #[.tmp 19, .tmp 23]) rfl ?_); at_builtin; refine Own.R_append_str (w0 := w) w.heap.size rfl (.tmp 19) (.tmp 23) 37 9 5 rfl Try.underlying37 Try.underlying9 info5 (.slice (some ⟨w.heap.size, 0, none⟩) 0 l.length) [] o1 (fun k => w.heap.size ≤ k) rfl rfl ?aF ?aO ?aB ?aS ?aL ?_; (case aB => repeat (first | (with_reducible first | exact HB.out | apply below_alloc | apply pw_below_drewN | apply below_drew1) | exact HB.out)); (case aF => exact fun k hk => Nat.le_trans (below_size (by repeat (first | (with_reducible first | exact HB.out | apply below_alloc | apply pw_below_drewN | apply below_drew1) | exact HB.out))) hk); (case aO => ((with_reducible repeat (first | apply Kd.R_alloc | apply Kd.R_drewN | apply Kd.R_drew)); exact HV.out)); (case aS => exact (below_size (by repeat (first | (with_reducible first | exact HB.out | apply below_alloc | apply pw_below_drewN | apply below_drew1) | exact HB.out)))); (case aL => have := HL.out; rw [bytesOf_length] at this; simp only [List.length_nil]; omega); intro v2 w2 ho2 hb2 hg2 hat2; obtain ⟨x2, hx2⟩ : ∃ q : List Int, q = [] ++ bytesOf o1 := ⟨_, rfl⟩; rw [← hx2] at ho2; have HX2 := Aside0.mk hx2; have HO2 := Aside0.mk (show Buf w w2 v2 x2 from ho2); obtain ⟨g2, c2, hv2, _⟩ := Buf.shape HO2.out (by rw [hx2]; intro h; have := congrArg List.length h; rw [List.nil_append, bytesOf_length] at this; simp only [List.length_nil] at this; omega); subst hv2; have HB2 := Aside0.mk hb2; clear ho2 hb2 hg2 hat2 hx2; obtain ⟨t0, t1, t2, t3⟩ := opt_cells HO.out HB2.out))
    go_region_held3 (fun W => W.cell? ⟨g, 0, none⟩ = some (.int .i64 0) ∧ W.cell? ⟨g, 1, none⟩ = some (.string o1) ∧ W.cell? ⟨g, 2, none⟩ = some (.string o2) ∧ W.cell? ⟨g, 3, none⟩ = some (.bool false)) (go_keep)
      (first | (go_at_call 21; refine (any_all o1 o2 c.size c w _ ad c0 l _ x2 0 0 0 0 0 junk rest (Nat.le_refl _) HOK.out rfl rfl (by have := HSZ.out; omega) HD.out HJ.out HS.out HLL.out ?sB HC.out HC0.out ?sO (by have := HL.out; have h2 := congrArg List.length HX2.out; rw [List.nil_append] at h2; omega)).mono ?_; (case sB => repeat (first | (with_reducible first | exact HB2.out | apply below_alloc | apply pw_below_drewN | apply below_drew1) | exact HB2.out)); (case sO => ((with_reducible repeat (first | apply Kd.R_alloc | apply Kd.R_drewN | apply Kd.R_drew)); exact HO2.out)); rintro e w11 ⟨v11, e11, nl11, ok11, rfl, he11, ho11, hb11⟩; obtain ⟨s0, s1, s2, s3⟩ := opt_cells HO.out hb11; have HO11 := Aside0.mk ho11; have HB11 := Aside0.mk hb11; clear ho11 hb11 he11))
    obtain ⟨y11, hy11⟩ : ∃ q : List Int, q = x2 ++ c.lay (bytesOf o1) (bytesOf o2) 0 := ⟨_, rfl⟩
    rw [← hy11] at HO11
    obtain ⟨yq, zq, hyq, _⟩ := Cst.lay_last (bytesOf o1) (bytesOf o2) 0 HOK.out
    have hpos : 0 < y11.length := by rw [hy11, hyq]; simp only [List.length_append, List.length_cons]; omega
    obtain ⟨g11, c11, hv11, _⟩ := Buf.shape HO11.out (List.length_pos_iff.mp hpos)
    subst hv11
    have hlt : decide (0 < (y11.length : Int)) = true := decide_eq_true (by omega)
    have hlt2 : decide (0 < y11.length) = true := decide_eq_true hpos
    have LY := Aside0.mk (show y11.length + 1 ≤ 140737488355328 by have := HL.out; rw [hy11, List.length_append]; have h2 := congrArg List.length HX2.out; rw [List.nil_append] at h2; omega)
    have HY11 := Aside0.mk hy11
    clear hy11 hyq hpos
    go_wp2_with ((with_reducible refine gate_builtin (b := .append) (xs := #[.tmp 52, .tmp 53]) rfl ?_); (try (refine gate_guard (by rfl) ?_; dsimp only)); at_builtin; refine buf_one (w0 := w) rfl (.tmp 52) (.tmp 53) rfl (.slice (some ⟨g11, 0, none⟩) y11.length c11) y11 10 rfl rfl ?aB ?aO ?aL ?_; (case aB => repeat (first | (with_reducible first | exact HB11.out | apply below_alloc | apply pw_below_drewN | apply below_drew1) | exact HB11.out)); (case aO => ((with_reducible repeat (first | apply Kd.R_alloc | apply Kd.R_drewN | apply Kd.R_drew)); exact HO11.out)); (case aL => have := LY.out; omega); intro gg cc yy ww HY HG HZ HBZ)
    go_ret
    exact ⟨_, rfl, by rw [show bytesOf o1 ++ (c.lay (bytesOf o1) (bytesOf o2) 0 ++ [10]) = yy from by rw [HY.out, HY11.out, HX2.out]; simp]; exact (by ((with_reducible repeat (first | apply Kd.R_alloc | apply Kd.R_drewN | apply Kd.R_drew)); exact HZ.out) : Buf w _ _ yy), by repeat (first | (with_reducible first | exact HBZ.out | apply below_alloc | apply pw_below_drewN | apply below_drew1) | exact HBZ.out)⟩

theorem cells_of_bytes (t : ByteArray) (j : Nat) (hj : j < t.size) : ((t.data.toList.getD j 0).toNat : Int) = (bytesOf t).getD j 0 := by
  have hl2 : j < t.data.toList.length := by simpa using hj
  rw [bytesOf]
  simp only [List.getD, List.getElem?_map, List.getElem?_eq_getElem hl2, Option.map_some, Option.getD_some]

/-- What is handed back: the string of these bytes. -/
def Shown (w : World) (zs : List Int) (e : Ending) (w' : World) : Prop := e = .returned (.string (strOfNums zs)) ∧ Below w.heap.size w w'

set_option maxHeartbeats 8000000 in
set_option maxRecDepth 100000 in
theorem pretty_fits (c : Cst) (junk rest : List Int) (t o1 o2 : ByteArray) (w : World)
    (hok : c.ok) (hl : bytesOf t = junk ++ (c.text ++ rest)) (hj : ∀ x ∈ junk, x ≤ 32 ∨ x = 44 ∨ x = 58) (hs : StopAt rest) (hll : t.size < 1099511627776) (hsz : c.size < 1099511627776) (hL : (bytesOf o1).length + (c.lay (bytesOf o1) (bytesOf o2) 0).length + 1 < 140737488355328) :
    Calls Try.prog 10 #[.string t, .agg #[.int .i64 0, .string o1, .string o2, .bool false]] w (Shown w (bytesOf o1 ++ (c.lay (bytesOf o1) (bytesOf o2) 0 ++ [10]))) := by
  have hsz0 : (w.alloc (.cells #[.int .i64 0, .string o1, .string o2, .bool false] 23)).heap.size = w.heap.size + 1 := by simp
  have hcv := Lib.run_convert_string_bytes (P := Try.prog) (w.alloc (.cells #[.int .i64 0, .string o1, .string o2, .bool false] 23)) 9 37 5 t (u := .string) Try.underlying9 Try.underlying37 Try.underlying5
  have hbw := Lib.bytesWorld_below (w.alloc (.cells #[.int .i64 0, .string o1, .string o2, .bool false] 23)) 5 t
  have hold := Lib.bytesWorld_at_old (w.alloc (.cells #[.int .i64 0, .string o1, .string o2, .bool false] 23)) 5 t w.heap.size (by rw [hsz0]; omega)
  have hcell := Lib.bytesWorld_cell (w.alloc (.cells #[.int .i64 0, .string o1, .string o2, .bool false] 23)) 5 t
  have hb1 : Below w.heap.size w (Lib.bytesWorld (w.alloc (.cells #[.int .i64 0, .string o1, .string o2, .bool false] 23)) 5 t) := ((Below.refl _ w).alloc (Nat.le_refl _) _).trans (hbw.mono (by rw [hsz0]; omega))
  have hgc : t.size ≤ grownCap (w.alloc (.cells #[.int .i64 0, .string o1, .string o2, .bool false] 23)) t.size 0 5 := grownCap_ge _ _ _ _
  rw [hsz0] at hcv hcell
  replace hold := hold.trans (heap_alloc_new w _)
  generalize Lib.bytesWorld (w.alloc (.cells #[.int .i64 0, .string o1, .string o2, .bool false] 23)) 5 t = W1 at hcv hcell hb1 hbw hold
  generalize grownCap (w.alloc (.cells #[.int .i64 0, .string o1, .string o2, .bool false] 23)) t.size 0 5 = cc at hcv hgc
  have HC := Aside0.mk (show Kd.C (Kd.int .u8) W1 (some ⟨w.heap.size + 1, 0, none⟩) (bytesOf t).length (bytesOf t) from Kd.C_of_reads (enc := Value.int .u8) (d := (0 : Int)) (h1 := fun _ => rfl) ⟨rfl, by rw [bytesOf_length]; omega, fun _ => ⟨_, rfl, fun j hj => by
      rw [bytesOf_length] at hj
      have h := hcell j hj
      rw [cells_of_bytes t j hj] at h
      rw [add_plain]
      exact h⟩⟩)
  have r0 : W1.cell? ⟨w.heap.size, 0, none⟩ = some (.int .i64 0) := (blk_cell hold 0).trans rfl
  have r1 : W1.cell? ⟨w.heap.size, 1, none⟩ = some (.string o1) := (blk_cell hold 1).trans rfl
  have r2 : W1.cell? ⟨w.heap.size, 2, none⟩ = some (.string o2) := (blk_cell hold 2).trans rfl
  have r3 : W1.cell? ⟨w.heap.size, 3, none⟩ = some (.bool false) := (blk_cell hold 3).trans rfl
  have HB1 := Aside0.mk hb1
  have HGC := Aside0.mk hgc
  clear hbw hcell hold hb1 hgc hsz0
  go_enter Try.func10, Try.ntmps10
  go_wp2_with fail
  have hlen : t.size = (bytesOf t).length := (bytesOf_length t).symm
  rw [hlen]
  refine (options_fits c junk rest (bytesOf t) W1.heap.size o1 o2 _ _ cc (heap_alloc_new W1 _) (Kd.C_alloc HC.out _) (by rw [← hlen]; exact HGC.out) hok hl hj hs (by rw [← hlen]; exact hll) hsz hL).mono ?_
  rintro e w2 ⟨v2, rfl, ho, hb⟩
  obtain ⟨zs, hzs⟩ : ∃ q : List Int, q = bytesOf o1 ++ (c.lay (bytesOf o1) (bytesOf o2) 0 ++ [10]) := ⟨_, rfl⟩
  have HZS := Aside0.mk hzs
  rw [← hzs] at ho
  obtain ⟨g2, c2, hv2, _⟩ := Buf.shape ho (by rw [hzs]; simp)
  clear hzs
  subst hv2
  have hcv2 := Kd.C_string (src := 37) (dst := 9) (c := c2) Try.underlying37 Try.underlying5 Try.underlying9 (Kd.R_reads' ho).2.2
  have HB2 := Aside0.mk (show Below w.heap.size w w2 from below_step (below_alloc HB1.out _) hb)
  clear ho hb
  go_wp2
  go_ret
  exact ⟨by rw [← HZS.out]; rfl, by repeat (first | (with_reducible first | exact HB2.out | apply below_alloc | apply pw_below_drewN | apply below_drew1) | exact HB2.out)⟩
end Go.Proofs.Ytdcigjpgagimdaa.M
