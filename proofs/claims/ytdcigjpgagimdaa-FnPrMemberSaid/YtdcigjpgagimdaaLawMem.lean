/-
FnPrMember, proved: at every name, every text and every options it answers true, and what came in reads as it did. No condition.
-/
import Derived.Test.YtdcigjpgagimdaaRows
import Derived.Test.YtdcigjpgagimdaaMem
import Derived.WalkKit
import Derived.ProofKit
import Derived.OpenShut
import Derived.ShutString
import Derived.ChangeOld
import Derived.Below
import Derived.Lib.SmallJoins
import Derived.Lay
namespace Go.Proofs.Ytdcigjpgagimdaa.LawMem
open Go.ChangeShapes Go.WideShapes Go.ChangeAt Go.RowKit Go.Joins
open Go.ChangeMaps (open_string shut_string)
set_option linter.unusedVariables false
set_option linter.unusedSimpArgs false
/-- A start that fits, its shape looked over in one pass (a table of a thousand cells lies among the variables). -/
theorem start_fits {H : Type} {enc : TypeId × Value → H} {C : Checked} {os : Os} {f : FuncId} {fn : Func} {s : ChangeSpec} {conds : List PathCond} {apart : Bool} (i : Input) (fuel : Nat)
    (hv : (World.plainHolding C.prog os i).variablesZipB C.prog = true)
    (hr : ((World.plainHolding C.prog os i).heap.toList.drop C.prog.globals.size).take ((begin C.prog (fun _ _ => 0) default).world.heap.size - C.prog.globals.size) =
      (begin C.prog (fun _ _ => 0) default).world.heap.toList.drop C.prog.globals.size)
    (hok : Input.okWideB C.prog (World.plainHolding C.prog os i) f ⟨#[], i.args, []⟩ = true)
    (hpre : s.preB enc C.prog fn conds apart (World.plainHolding C.prog os i).memory i.args fuel = true)
    (hsz : s.sizedB enc C.prog fn apart (World.plainHolding C.prog os i).memory i.args fuel = true) :
    ∃ (w : World) (tape : Tape) (i : Input), w.os = os ∧ (w.forCall tape i).Shaped C.prog ∧ i.vars = [] ∧ Input.okWide C.prog (w.forCall tape i) .any w.heap.size f i ∧
      s.pre6 enc C.prog fn conds apart (w.forCall tape i).memory i.args ∧ ({} : Assume).holds C.prog (lone (Frame.enter C.prog f i.args .normal) [] (w.forCall tape i)) :=
  ⟨World.holding C.prog os i, fun _ _ => 0, ⟨#[], i.args, []⟩, rfl, World.shaped_of_ZipB hv hr, (Input.okWide_of_okWideB (base := 0) hok).1, (Input.okWide_of_okWideB hok).2, ⟨ChangeSpec.pre_of_preB hpre, sizedMet_of_sizedB hsz⟩, by simp [Assume.holds]⟩
theorem own : ownKnob Try.prog.godebug = none := by kernel_rfl
theorem cells23 : Try.prog.cellsOf 23 = 4 := by kernel_rfl

set_option maxRecDepth 100000 in
theorem lifted (os : Os) (started : os.Started) (H : Type) (enc : TypeId × Value → H) :
    ReturnsInHanded {} Try.checked os 3 .any (Rows.fnPrMemberSpec.pre6 enc Try.prog Try.f3 Rows.fnPrMemberRow.domain false) (Rows.fnPrMemberSpec.post enc Try.prog Try.f3 false true false false) := by
  refine returnsInHanded_of_change (C := Try.checked) own started (by as_aux_lemma => kernel_rfl) Try.func3
    (start_fits (enc := enc) (C := Try.checked) ⟨#[], #[.string ByteArray.empty, .string ByteArray.empty, .agg #[.int .i64 0, .string ByteArray.empty, .string ByteArray.empty, .bool false]], []⟩ 8 (by as_aux_lemma => kernel_rfl) (by as_aux_lemma => kernel_rfl) (by as_aux_lemma => kernel_rfl) (by as_aux_lemma => kernel_rfl) (by as_aux_lemma => kernel_rfl)) ?_
  intro W base args ds gs before hval0 hW hcnd _
  have hval : ∀ (j : Nat) t v, Try.f3.params[j]? = some t → args[j]? = some v → Value.okWide Try.prog W .any base t v := hval0
  have hW' := hW
  obtain ⟨p, q, hA0, hV, rfl, hfz, hnd⟩ := hW
  have hA : DataW.TrodAll enc Try.prog W 0 (fun _ => true) true Try.f3.params.toList args.toList ds p := hA0
  rw [Try.params3] at hA hval
  obtain ⟨v0, v1, v2, d0, d1, d2, p0, p1, p2, rfl, rfl, rfl, h0, h1, h2⟩ := trodAll_three hA
  obtain ⟨rfl, rfl⟩ := trodVars_none hV
  obtain ⟨a0, rfl, rfl, rfl, y0⟩ := open_string Try.underlying9 (hval 0 9 v0 rfl rfl) h0
  obtain ⟨a1, rfl, rfl, rfl, y1⟩ := open_string Try.underlying9 (hval 1 9 v1 rfl rfl) h1
  obtain ⟨c0, c1, c2, c3, x0, x1, x2, x3, m, rfl, rfl, rfl, hy0, hy1, hy2, hy3⟩ := open_agg4 Try.underlying23 (by as_aux_lemma => kernel_rfl) cells23 (hval 2 23 v2 rfl rfl) h2
  obtain ⟨o0, e0, rfl, w0⟩ := DataW.trod_int Try.underlying3 hy0
  obtain ⟨o1, e1, rfl, w1⟩ := DataW.trod_string Try.underlying9 hy1
  obtain ⟨o2, e2, rfl, w2⟩ := DataW.trod_string Try.underlying9 hy2
  obtain ⟨o3, e3, rfl⟩ := DataW.trod_bool Try.underlying4 hy3
  simp at e0 e1 e2 e3
  subst e0 e1 e2 e3
  clear hA0 hval0
  simp only [List.append_nil] at hW'
  have reads : ∀ (W' : World) (sp : Nat → Bool), DataW.Trod enc Try.prog W' 0 sp true 23 (.agg #[.int .i64 o0, .string o1, .string o2, .bool o3]) (.agg [.lit (.int .i64 o0), .lit (.string o1.data.toList), .lit (.string o2.data.toList), .lit (.bool o3)]) [] := fun W' sp =>
    shut_agg4 (y0 := (.lit (.int .i64 o0), [])) (y1 := (.lit (.string o1.data.toList), [])) (y2 := (.lit (.string o2.data.toList), [])) (y3 := (.lit (.bool o3), [])) Try.underlying23 (by as_aux_lemma => kernel_rfl) cells23
      ⟨1, by simp [DataW.trod, Try.underlying3, w0]⟩ (field_of_Trod (shut_string Try.underlying9 w1) rfl) (field_of_Trod (shut_string Try.underlying9 w2) rfl) (field_of_Trod (shut_bool Try.underlying4 _) rfl)
  refine (M.member_any a0 a1 o0 o1 o2 o3 W).mono fun e W' ⟨he, bel⟩ => ?_
  subst he
  exact ⟨_, rfl, _, _, _, [], _, [], hW', trodAll_mk1 (shut_bool Try.underlying4 _), trodAll_mk3 (shut_string Try.underlying9 y0) (shut_string Try.underlying9 y1) (reads _ _), rfl, bel.frame _, fun h => by cases h⟩

theorem proved : Rows.FnPrMemberSaid :=
  OpenClaim.holds_of_wide 3 Try.f3 rfl rfl rfl rfl rfl rfl rfl ⟨rfl, rfl, rfl, rfl, rfl⟩ rfl rfl rfl rfl rfl (by as_aux_lemma => kernel_rfl) Try.func3 (by as_aux_lemma => kernel_rfl)
    (of_decide_eq_true (by as_aux_lemma => kernel_rfl)) (by unfold Func.isWrapper; first | (rw [if_pos (by decide +kernel)]; kernel_rfl) | (rw [if_neg (by decide +kernel)]; exact ⟨rfl, rfl⟩))
    (fun os started H enc _ => lifted os started H enc)
#print axioms proved
end Go.Proofs.Ytdcigjpgagimdaa.LawMem
namespace Go.Proofs.Ytdcigjpgagimdaa
/-- The row, under a short name, for the claim. -/
theorem fnPrMember_holds : Rows.FnPrMemberSaid := LawMem.proved
end Go.Proofs.Ytdcigjpgagimdaa
