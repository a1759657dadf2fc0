/-
What appendPrettyObject and appendPrettyAny come to on a text of a tree: its layout.
Printed by a small program of this work (wip/gen_obj.py).
-/
import Derived.Test.YtdcigjpgagimdaaMx7
import Derived.Test.YtdcigjpgagimdaaMx8
import Derived.Test.YtdcigjpgagimdaaMx9
import Derived.Test.YtdcigjpgagimdaaBuf
import Derived.Test.YtdcigjpgagimdaaTx2
import Derived.Test.YtdcigjpgagimdaaAtoms
namespace Go.Proofs.Ytdcigjpgagimdaa.M
open Go.RowKit Tx Go.Proofs.YtdcigjpgagimdaaW.PrintWords Go.Proofs.YtdcigjpgagimdaaW.PrintLast Go.Proofs.YtdcigjpgagimdaaW.PrintMore
set_option linter.unusedVariables false
set_option linter.unusedSimpArgs false

/-- What is handed back: a row of its own with the layout, and the place behind the text. -/
def Laid (w0 : World) (m : Nat) (zs : List Int) (e : Ending) (w' : World) : Prop :=
  ∃ (v' : Value) (e2 nl' : Int) (ok' : Bool), e = .returned (.tuple #[v', .int .i64 e2, .int .i64 nl', .bool ok']) ∧ e2 = (m : Int) ∧ Buf w0 w' v' zs ∧ Below w0.heap.size w0 w'

theorem Laid.mk {w0 w' : World} {m : Nat} {zs : List Int} {v' : Value} {e2 nl' : Int} {ok' : Bool} (h1 : e2 = (m : Int)) (h2 : Buf w0 w' v' zs) (h3 : Below w0.heap.size w0 w') : Laid w0 m zs (.returned (.tuple #[v', .int .i64 e2, .int .i64 nl', .bool ok'])) w' := ⟨_, _, _, _, rfl, h1, h2, h3⟩

def AnyFits (p d : ByteArray) (N : Nat) : Prop := ∀ (c : Cst) (w0 w : World) (ad : Addr) (c1 : Nat) (l : List Int) (v : Value) (xs : List Int) (a2 : Int) (i n : Nat) (a8 nl : Int) (junk rest : List Int),
  c.size ≤ N → c.ok → a2 = (i : Int) → a8 = (n : Int) → n + c.size < 1099511627776 → l.drop i = junk ++ (c.text ++ rest) → (∀ x ∈ junk, x ≤ 32 ∨ x = 44 ∨ x = 58) → StopAt rest → l.length < 1099511627776 →
  Below w0.heap.size w0 w → Kd.C (Kd.int .u8) w0 (some ad) l.length l → l.length ≤ c1 → Buf w0 w v xs → xs.length + (c.lay (bytesOf p) (bytesOf d) n).length < 140737488355328 →
  Calls Try.prog 21 #[v, .slice (some ad) l.length c1, .int .i64 a2, .bool true, .int .i64 0, .string p, .string d, .bool false, .int .i64 a8, .int .i64 nl, .int .i64 (-1)] w (Laid w0 (i + junk.length + c.text.length) (xs ++ c.lay (bytesOf p) (bytesOf d) n))

def ObjFits (p d : ByteArray) (N : Nat) (ob : Bool) : Prop := ∀ (its : Its) (w0 w : World) (ad : Addr) (c1 : Nat) (l : List Int) (v : Value) (xs : List Int) (a2 : Int) (i n : Nat) (a10 nl : Int) (rest : List Int),
  its.size ≤ N → its.ok ob true → a2 = (i : Int) → a10 = (n : Int) → n + its.size < 1099511627776 → l.drop i = opn ob :: (its.text ob ++ rest) → l.length < 1099511627776 →
  Below w0.heap.size w0 w → Kd.C (Kd.int .u8) w0 (some ad) l.length l → l.length ≤ c1 → Buf w0 w v xs → xs.length + 1 + (its.lay (bytesOf p) (bytesOf d) n ob true).length < 140737488355328 →
  Calls Try.prog 32 #[v, .slice (some ad) l.length c1, .int .i64 a2, .int .u8 (opn ob), .int .u8 (cls ob), .bool true, .int .i64 0, .string p, .string d, .bool false, .int .i64 a10, .int .i64 nl, .int .i64 (-1)] w (Laid w0 (i + 1 + (its.text ob).length) (xs ++ opn ob :: its.lay (bytesOf p) (bytesOf d) n ob true))

end Go.Proofs.Ytdcigjpgagimdaa.M
