/-
Bytes: what a layout is made of is bytes; a string of bytes has these bytes.
-/
import Derived.Test.YtdcigjpgagimdaaLay
set_option linter.unusedVariables false
set_option linter.unusedSimpArgs false
namespace Tx
def Rng (l : List Int) : Prop := ∀ z ∈ l, 0 ≤ z ∧ z < 256
theorem ap_len (p : List Int) : ∀ (l : List Int) (f : Bool), (ap p f l).length ≤ l.length * (p.length + 1)
  | [], f => by simp [ap]
  | c :: l, f => by
    have := ap_len p l (decide (c = 10))
    rw [ap, List.length_cons, Nat.add_mul, List.length_append, List.length_cons]
    cases f <;> simp <;> omega
theorem Rng.nil : Rng [] := by intro z hz; cases hz
theorem Rng.app {a b : List Int} (ha : Rng a) (hb : Rng b) : Rng (a ++ b) := by
  intro z hz
  rcases List.mem_append.mp hz with h | h
  · exact ha z h
  · exact hb z h
theorem Rng.cons {z : Int} {a : List Int} (hz : 0 ≤ z ∧ z < 256) (ha : Rng a) : Rng (z :: a) := by
  intro x hx
  rcases List.mem_cons.mp hx with h | h
  · rw [h]; exact hz
  · exact ha x h
theorem Rng.left {a b : List Int} (h : Rng (a ++ b)) : Rng a := fun z hz => h z (by simp [hz])
theorem Rng.right {a b : List Int} (h : Rng (a ++ b)) : Rng b := fun z hz => h z (by simp [hz])
theorem tabs_rng (p d : List Int) (hp : Rng p) (hd : Rng d) (n : Nat) : Rng (tabs p d n) := by
  induction n with
  | zero => exact hp
  | succ n ih => exact ih.app hd

mutual
theorem Cst.lay_rng (p d : List Int) (hp : Rng p) (hd : Rng d) : (c : Cst) → Rng c.text → (n : Nat) → Rng (c.lay p d n)
  | .atom k raw, h, n => h
  | .box ob its, h, n => by
    rw [Cst.lay]
    exact Rng.cons (by cases ob <;> decide) (Its.lay_rng p d hp hd ob true its (fun z hz => h z (by rw [Cst.text]; simp [hz])) n)
theorem Its.lay_rng (p d : List Int) (hp : Rng p) (hd : Rng d) (ob first : Bool) : (t : Its) → Rng (t.text ob) → (n : Nat) → Rng (t.lay p d n ob first)
  | .fin w, h, n => by
    rw [Its.lay]
    refine Rng.app ?_ (Rng.cons (by cases ob <;> decide) Rng.nil)
    cases first with
    | true => exact Rng.nil
    | false => exact Rng.cons (by decide) (tabs_rng p d hp hd n)
  | .cons u key junk v t, h, n => by
    rw [Its.text] at h
    rw [Its.lay]
    have h2 := h.right
    have h3 := h2.right.right
    refine Rng.app ?_ (Rng.app (Rng.cons (by decide) (tabs_rng p d hp hd (n + 1))) (Rng.app ?_ (Rng.app (Cst.lay_rng p d hp hd v h3.left (n + 1)) (Its.lay_rng p d hp hd ob false t h3.right n))))
    · cases first with
      | true => exact Rng.nil
      | false => exact Rng.cons (by decide) Rng.nil
    · cases ob with
      | false => exact Rng.nil
      | true => exact Rng.app h2.left (Rng.cons (by decide) (Rng.cons (by decide) Rng.nil))
end
end Tx

namespace Go.Proofs.Ytdcigjpgagimdaa.M
open Go Go.RowKit Tx Go.Proofs.YtdcigjpgagimdaaW.PrintWords

theorem bytesOf_rng (t : ByteArray) : Rng (bytesOf t) := by
  intro z hz
  obtain ⟨b, _, rfl⟩ := List.mem_map.mp hz
  have := b.toNat_lt
  omega

theorem bytes_back {zs : List Int} (h : Rng zs) : bytesOf (strOfNums zs) = zs := by
  unfold bytesOf strOfNums
  simp only [List.map_map]
  conv => rhs; rw [← List.map_id zs]
  refine List.map_congr_left (fun z hz => ?_)
  have := h z hz
  simp
  omega

theorem bytesOf_app (a b : ByteArray) : bytesOf (a ++ b) = bytesOf a ++ bytesOf b := by
  unfold bytesOf
  rw [← List.map_append]
  congr 1

theorem map_inj {a b : List UInt8} (h : a.map (fun x => (x.toNat : Int)) = b.map (fun x => (x.toNat : Int))) : a = b := by
  induction a generalizing b with
  | nil =>
    cases b with
    | nil => rfl
    | cons y b => cases h
  | cons x a ih =>
    cases b with
    | nil => cases h
    | cons y b =>
      simp only [List.map_cons, List.cons.injEq] at h
      rw [ih h.2, UInt8.toNat_inj.mp (by omega : x.toNat = y.toNat)]

theorem bytesOf_inj {a b : ByteArray} (h : bytesOf a = bytesOf b) : a = b := by
  have h2 : a.data.toList = b.data.toList := map_inj h
  cases a
  cases b
  congr 1
  exact Array.toList_inj.mp h2
end Go.Proofs.Ytdcigjpgagimdaa.M
