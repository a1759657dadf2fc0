/-
The buffer that the printing functions hand on from one to the next: a row of bytes of the call's own. What an append, a look at its last byte, and a store there come to.
-/
import Derived.Test.YtdcigjpgagimdaaMx0
set_option linter.unusedVariables false
set_option linter.unusedSimpArgs false
namespace Go.Proofs.Ytdcigjpgagimdaa.M
open Go Go.RowKit Go.Lib Go.Proofs.YtdcigjpgagimdaaW.PrintWords Go.Proofs.YtdcigjpgagimdaaW.PrintLast Go.Proofs.YtdcigjpgagimdaaW.PrintMore

def Buf (w0 w : World) (v : Value) (xs : List Int) : Prop := Kd.R (Kd.int .u8) 5 w w0.heap.size (fun k => w0.heap.size ≤ k) v xs

theorem Buf.alloc {w0 w : World} {v : Value} {xs : List Int} (h : Buf w0 w v xs) (o : Obj) : Buf w0 (w.alloc o) v xs := by
  unfold Buf at *
  apply Kd.R_alloc
  exact h

theorem Buf.shape {w0 w : World} {v : Value} {xs : List Int} (h : Buf w0 w v xs) (hp : xs ≠ []) : ∃ g c, v = .slice (some ⟨g, 0, none⟩) xs.length c ∧ w0.heap.size ≤ g := by
  have hl : 0 < xs.length := List.length_pos_iff.mpr hp
  obtain ⟨g, c, hv, hb, _⟩ := Kd.R_form h hl
  exact ⟨g, c, hv, hb⟩

theorem buf_one {ops : Array Oper} {rest : List Oper} {o : Oper} {a : Act} {Q : Exit → Act → World → Prop} {w0 W : World} (hgd : o.guard = none) (s x : Operand)
    (ho : o.op = .call { callee := .builtin .append, args := #[s, x], argTypes := #[37, 37] })
    (v : Value) (xs : List Int) (p : Int) (hs : a.eval s = v) (hx : a.eval x = .slice (some ⟨W.heap.size, 0, none⟩) 1 1)
    (HB : Below w0.heap.size w0 W) (HO : Buf w0 W v xs) (hl : xs.length + 1 ≤ 140737488355328)
    (h : ∀ g c ys w1, Aside0 (ys = xs ++ [p]) → Aside0 (w0.heap.size ≤ g) → Aside0 (Buf w0 w1 (.slice (some ⟨g, 0, none⟩) ys.length c) ys) → Aside0 (Below w0.heap.size w0 w1) → wpList Try.prog ops Q rest (a.put o.dst (.slice (some ⟨g, 0, none⟩) ys.length c)) w1) :
    wpList Try.prog ops Q (o :: rest) a (W.alloc (.cells #[.int .u8 p] 5)) := by
  refine Kd.R_append (Kd.int .u8) (w0 := w0) w0.heap.size hgd s x 37 5 (.int .u8 0) 1 ho Try.underlying37 info5 rfl (by decide) (by omega) v xs p [.int .u8 p] (fun k => w0.heap.size ≤ k) (fun _ => False) hs hx rfl (fun _ hk => hk.elim) (fun k hk => Nat.le_trans HB.size hk) HO HB HB.size (by omega) ?_
  intro v1 w1 ho1 hb1 _ _
  obtain ⟨g, c, hv, hg⟩ := Buf.shape ho1 (by simp)
  rw [hv] at ho1 ⊢
  exact h g c (xs ++ [p]) w1 ⟨rfl⟩ ⟨hg⟩ ⟨ho1⟩ ⟨hb1⟩

/-- What is known of the last byte: the letter of its index, its cell. -/
structure LastAt (w0 w : World) (g c : Nat) (xs ys : List Int) (z : Int) (j : Int) : Prop where
  w64 : wrap64 ((ys.length : Int) - 1) = j
  wi64 : IntKind.i64.wrap ((ys.length : Int) - 1) = j
  ge : decide (0 ≤ j) = true
  lt : decide (j < (ys.length : Int)) = true
  geT : (0 ≤ j) = True
  ltT : (j < (ys.length : Int)) = True
  cell : w.cell? ⟨g, j.toNat, none⟩ = some (.int .u8 z)
  froz : w.frozen? ⟨g, j.toNat, none⟩ = false
  put : ∀ x, Buf w0 (w.setCell ⟨g, j.toNat, none⟩ (.int .u8 x)) (.slice (some ⟨g, 0, none⟩) ys.length c) (xs ++ [x])

theorem Buf.last {w0 w : World} {g c : Nat} {xs ys : List Int} {z : Int} (h : Buf w0 w (.slice (some ⟨g, 0, none⟩) ys.length c) ys) (hy : ys = xs ++ [z]) (hl : ys.length < 140737488355328) : ∃ j, LastAt w0 w g c xs ys z j := by
  have hlen : ys.length = xs.length + 1 := by rw [hy]; simp
  have hw : IntKind.i64.wrap ((ys.length : Int) - 1) = (xs.length : Int) := by
    rw [i64_w]
    unfold wrap64
    omega
  have hj0 : (0 : Int) ≤ (xs.length : Int) := by omega
  have hj1 : (xs.length : Int) < (ys.length : Int) := by omega
  have hc := Kd.R_celln (0 : Int) h (xs.length : Int) hj0 hj1
  have hz : rdOf (0 : Int) ys (xs.length : Int) = z := by
    rw [hy]
    simp [rdOf]
  rw [hz] at hc
  refine ⟨(xs.length : Int), (i64_w _).symm.trans hw, hw, decide_eq_true hj0, decide_eq_true hj1, eq_true hj0, eq_true hj1, hc.1, hc.2, fun x => ?_⟩
  have hp := (Kd.R_putg h (xs.length : Int) x).1
  have e : ys.set (xs.length : Int).toNat x = xs ++ [x] := by
    rw [hy]
    simp
  rw [e] at hp
  exact hp

/-- A byte of the text that is read: its cell, at any later world. -/
theorem js_cell {w0 w : World} {A : Option Addr} {l : List Int} (h : Kd.C (Kd.int .u8) w0 A l.length l) (hb : Below w0.heap.size w0 w) (i : Int) (h0 : 0 ≤ i) (h1 : i < (l.length : Int)) : ∃ ad, A = some ad ∧ w.cell? (ad.add i.toNat) = some (.int .u8 (rd l i)) :=
  Kd.at_int (Kd.C_below h hb) i h0 h1

theorem js_kept {w0 w : World} {A : Option Addr} {l : List Int} (h : Kd.C (Kd.int .u8) w0 A l.length l) (hb : Below w0.heap.size w0 w) : ∀ W, Kept w W (fun k => w0.heap.size ≤ k) → Kd.C (Kd.int .u8) W A l.length l :=
  Kd.C_kept_came (Kd.heap_int .u8) h hb (fun _ hk => hk)
end Go.Proofs.Ytdcigjpgagimdaa.M
