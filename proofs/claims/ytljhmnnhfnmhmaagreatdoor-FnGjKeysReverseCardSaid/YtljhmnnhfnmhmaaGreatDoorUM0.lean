/-
Lemmas of this claim; made short by a program of this work.
-/
import Derived.ArgAppend
import Derived.Below
import Derived.BigQuiet
import Derived.ChangeAlike
import Derived.ChangeOld
import Derived.ChangeSame
import Derived.Deep.AppendLies
import Derived.Deep.CutBlock
import Derived.Deep.DeepCutAuto
import Derived.Deep.Draws
import Derived.Deep.LoopGhost
import Derived.Deep.OwnRows
import Derived.Deep.QuietTactic
import Derived.Deep.RegionHeld3
import Derived.Deep.Strs
import Derived.Handy
import Derived.KernelRfl
import Derived.LaidLaws
import Derived.LaidMore
import Derived.Laws.BitsLemmas
import Derived.Laws.BytesArg
import Derived.Laws.Externs
import Derived.Laws.IdiomCopy
import Derived.Laws.MakeOwn
import Derived.Laws.OwnMore
import Derived.Laws.Rows
import Derived.Laws.Slices
import Derived.Laws.StructEq
import Derived.Lay
import Derived.Lib.AppendStr
import Derived.Lib.Builder
import Derived.Lib.ConvBytes
import Derived.Lib.Hide
import Derived.Lib.LaidTab
import Derived.Lib.SmallJoins
import Derived.Lib.UnsafeStr
import Derived.MakeChecks
import Derived.Maps.AppendAt
import Derived.OpenShut
import Derived.OrdersHeld
import Derived.Outline
import Derived.OwnWalk
import Derived.ProofKit
import Derived.RegionTactic
import Derived.RowKit
import Derived.RowKit3
import Derived.ScopeJumps
import Derived.SevenTiedAt
import Derived.ShutString
import Derived.Sort.AtCall
import Derived.StillTailTactics
import Derived.Stop.Joined
import Derived.Tactics
import Derived.WalkKit
import Derived.WalkLawsBesides
import Derived.WalkMore
import Derived.WideLaws
import Derived.Shelf.Strings.Builder1
import Derived.Shelf.Small.Utf8
import Derived.Shelf.Strings.BuilderF
import Derived.Shelf.Strings.BuilderK
import Derived.Shelf.Strconv.Itoa0
import Derived.Shelf.LaysM
import Derived.Shelf.Strconv.Clone
import Derived.Shelf.Strconv.SyntaxError
import Derived.Shelf.LaysC
import Derived.Shelf.Strconv.ToError
import Derived.Shelf.Strconv.RangeError
import Derived.Shelf.Strconv.ToErrorRange
import Derived.Shelf.Bits.Mul64
import Derived.Shelf.Unicode.DecodeSlow
import Derived.Shelf.Unicode.DecodeAny
import Derived.Shelf.Unicode.DecodeLast
import Derived.Test.YtljhmnnhfnmhmaaGreatDoorProg
set_option linter.unusedVariables false
set_option linter.unusedSimpArgs false
namespace Go.Proofs.YtljhmnnhfnmhmaaGreatDoor
theorem Zq0 {p:Prop} (h:p:=by simp;omega):p:=h
theorem Zq1 {p:Prop} (h:p:=by first|rfl|go_num):p:=h
theorem Zq2 {p:Prop} (h:p:=by rw [← hW0];exact xF (vQ w _) (zD (Below.refl _ _) _)):p:=h
theorem Zq3 {p:Prop} (h:p:=by rw [← hW0];have:=vQ (w.alloc (Obj.cells #[Value.int IntKind.i64 0,Value.string ⟨#[]⟩,Value.string ⟨#[]⟩,Value.float FloatKind.f64 0,Value.int IntKind.i64 0,Value.slice none 0 0] 57)) (Obj.cells #[Value.int IntKind.i64 0,Value.string ⟨#[]⟩,Value.string ⟨#[]⟩,Value.float FloatKind.f64 0,Value.int IntKind.i64 0,Value.slice none 0 0] 57);rw [show (w.alloc (Obj.cells #[Value.int IntKind.i64 0,Value.string ⟨#[]⟩,Value.string ⟨#[]⟩,Value.float FloatKind.f64 0,Value.int IntKind.i64 0,Value.slice none 0 0] 57)).heap.size=w.heap.size+1 by simp] at this;exact this):p:=h
theorem Zq4 {p:Prop} (h:p:=by rw [← uK _ _ 1 (by omega)];exact hc 1 _ rfl):p:=h
theorem Zq5 {p:Prop} (h:p:=by rw [← uK _ _ 2 (by omega)];exact hc 2 _ rfl):p:=h
theorem Zq6 {p:Prop} (h:p:=by rw [← uK _ _ 3 (by omega)];exact hc 3 _ rfl):p:=h
theorem Zq7 {p:Prop} (h:p:=by repeat (first|exact Below.refl _ _|(with_reducible apply below_drewN)|(with_reducible apply Below.drew)|assumption)):p:=h
theorem Zq8 {p:Prop} (h:p:=by first|exact HDr.out.1.drewN _|exact HDr.out.1):p:=h
theorem Zq9 {p:Prop} (h:p:=by first|exact((HT.out.below HDr.out.2.2.1).below (below_drewN (Below.refl _ _) _)).ch|exact(HT.out.below HDr.out.2.2.1).ch):p:=h
theorem zFj {p:Prop} (h:p:=by repeat (first|exact HB.out|(with_reducible apply below_drewN)|(with_reducible apply Below.drew)|assumption)):p:=h
theorem zAw {p:Prop} (h:p:=by simp [results,Tryz.results150,go_sem]):p:=h
theorem zDt {p:Prop} (h:p:=by have:=HY.out;have:=HL.out;omega):p:=h
theorem vU {p:Prop} (h:p:=by first|rfl|(simp;done)|(simp [*];done)):p:=h
theorem qQ {p:Prop} (h:p:=by repeat (first|exact vW.refl _|apply vW.step)):p:=h
theorem qS {p:Prop} (h:p:=by repeat (first|(with_reducible first|exact HI0.out|apply zE.alloc|apply zE.drewN|apply zE.drew|apply zE.xX|apply zE.xY)|exact HI0.out)):p:=h
theorem vT {p:Prop} (h:p:=by repeat (first|(with_reducible first|exact HK.out|apply zQ.zKm|apply kF|apply wD|apply kE)|exact HK.out)):p:=h
theorem qT {p:Prop} (h:p:=by repeat (first|(with_reducible first|exact HB.out|apply zD|apply zH|apply zJ|refine zT ?_ (zE.ge HI0.out))|exact HB.out)):p:=h
theorem jC {p:Prop} (h:p:=by first|(with_reducible assumption)|assumption):p:=h
theorem VU {p:Prop} (h:p:=by have:=HK1.out;omega):p:=h
theorem qW {p:Prop} (h:p:=by first|rfl|(simp [QX,QY] <;> rfl)|(simp [*,QX,QY] <;> rfl)):p:=h
theorem uJ {p:Prop} (h:p:=by first|omega|exact Nat.le_refl _):p:=h
theorem jI {p:Prop} (h:p:=by (try simp only [List.map_toArray,List.map_cons,List.map_nil]);first|done|rfl|(simp only [List.length_drop,List.length_take];rfl)):p:=h
theorem Zq23 {p:Prop} (h:p:=by have:=HJ2.out;have:=HK2.out;omega):p:=h
theorem yS {p:Prop} (h:p:=by repeat (first|(with_reducible first|exact HB.out|apply zD|apply zH|apply zJ)|exact HB.out)):p:=h
theorem zDu {p:Prop} (h:p:=by first|exact HK.out.1|exact(show Kept w _ (fun k_=>P0_ k_) from by repeat (first|(with_reducible first|exact HK.out|apply Kept.alloc|apply Kept.drewN|apply Kept.drew)|exact HK.out)).1):p:=h
theorem zIb {p:Prop} (h:p:=by (with_reducible repeat (first|apply Kd.xJ|apply Kd.xK|apply Kd.xU));exact HO0.out):p:=h
theorem YU {p:Prop} (h:p:=by repeat (first|(with_reducible first|exact HK.out|apply Kept.alloc|apply Kept.drewN|apply Kept.drew)|exact HK.out)):p:=h
theorem zDv {p:Prop} (h:p:=by (with_reducible repeat (first|apply Kd.xJ|apply Kd.xK|apply Kd.xU));exact HO_0.out):p:=h
theorem wT {p:Prop} (h:p:=by first|exact Kd.ZJ _ _ _ _ _|exact Kd.zI1 _ _ _ _ _|exact Kd.V_nil _ _ _ _ _|exact Kd.Q_nil _ _ _ _ _|exact Kd.S_nil _ _ _ _ _):p:=h
theorem zAx {p:Prop} (h:p:=by (with_reducible repeat (first|refine zG ?_ _|refine zI ?_|refine zF ?_ _));exact BK340.out):p:=h
theorem Zq31 {p:Prop} (h:p:=by repeat (first|(with_reducible first|exact HB.out|apply zD|apply zH|apply zJ|refine zT ?_ GE340.out)|exact HB.out)):p:=h
theorem zA8 {p:Prop} (h:p:=by (with_reducible repeat (first|refine zG ?_ _|refine zI ?_|refine zF ?_ _));exact BK341.out):p:=h
theorem Zq33 {p:Prop} (h:p:=by repeat (first|(with_reducible first|exact HB.out|apply zD|apply zH|apply zJ|refine zT ?_ GE340.out|refine zT ?_ GE341.out)|exact HB.out)):p:=h
theorem QN {p:Prop} (h:p:=by repeat (first|(with_reducible first|exact HB.out|apply zD|apply zH|apply zJ|refine zT ?_ GE340.out|refine zT ?_ GE341.out|refine zT ?_ GE342.out)|exact HB.out)):p:=h
theorem Zq35 {p:Prop} (h:p:=by (with_reducible repeat (first|refine zG ?_ _|refine zI ?_|refine zF ?_ _));refine xZ ?_ NB340_342.out _;(with_reducible repeat (first|refine zG ?_ _|refine zI ?_|refine zF ?_ _));exact BK340.out):p:=h
theorem Zq36 {p:Prop} (h:p:=by (with_reducible repeat (first|refine zG ?_ _|refine zI ?_|refine zF ?_ _));refine xZ ?_ NB341_342.out _;(with_reducible repeat (first|refine zG ?_ _|refine zI ?_|refine zF ?_ _));exact BK341.out):p:=h
theorem zFk {p:Prop} (h:p:=by (with_reducible repeat (first|refine zG ?_ _|refine zI ?_|refine zF ?_ _));exact BK342.out):p:=h
theorem zFl {p:Prop} (h:p:=by (with_reducible repeat (first|apply Kd.xJ|apply Kd.xK|apply Kd.xU));exact HO_343002.out):p:=h
theorem zI9 {p:Prop} (h:p:=by have:=HJ2.out;have:=HK2.out;have:=HK3.out;omega):p:=h
theorem Zq40 {p:Prop} (h:p:=by (with_reducible repeat (first|apply Kd.xJ|apply Kd.xK|apply Kd.xU));exact HO_343003.out):p:=h
theorem Zq41 {p:Prop} (h:p:=by simp only [List.length_cons,List.length_nil];omega):p:=h
theorem zDm {p:Prop} (h:p:=by unfold wrap64;omega):p:=h
theorem WZ {p:Prop} (h:p:=by rw [zW];exact hi):p:=h
theorem zIc {p:Prop} (h:p:=by intro c hc;cases hc):p:=h
theorem zId {p:Prop} (h:p:=by have:=hs.le;rw [zW] at this;exact this):p:=h
theorem zA9 {p:Prop} (h:p:=by dsimp only;omega):p:=h
theorem zIe {p:Prop} (h:p:=by (with_reducible repeat (first|apply Kd.xJ|apply Kd.xK|apply Kd.xU));exact HO_5.out):p:=h
theorem YV {p:Prop} (h:p:=by (with_reducible repeat (first|apply Kd.xJ|apply Kd.xK|apply Kd.xU));exact HO_6.out):p:=h
theorem QI {p:Prop} (h:p:=by (with_reducible repeat (first|apply Kd.xJ|apply Kd.xK|apply Kd.xU));exact HO165.out):p:=h
theorem zIf {p:Prop} (h:p:=by repeat (first|(with_reducible first|exact HI0.out|apply zE.alloc|apply zE.drewN|apply zE.drew|apply zE.xX|apply zE.xY|refine zE.far ?_ NB0_185.out _)|exact HI0.out)):p:=h
theorem zBa {p:Prop} (h:p:=by repeat (first|(with_reducible first|exact HK.out|apply zQ.zKm|apply kF|apply wD|apply kE|refine uS ?_ GW185.out _)|exact HK.out)):p:=h
theorem zIg {p:Prop} (h:p:=by repeat (first|(with_reducible first|exact HB.out|apply zD|apply zH|apply zJ|refine zT ?_ (zE.ge HI0.out)|refine zT ?_ GE185.out)|exact HB.out)):p:=h
theorem zIh {p:Prop} (h:p:=by (with_reducible repeat (first|refine zG ?_ _|refine zI ?_|refine zF ?_ _));exact BK185.out):p:=h
theorem Zq54 {p:Prop} (h:p:=by (with_reducible repeat (first|apply Kd.xJ|apply Kd.xK|apply Kd.xU));exact HO188.out):p:=h
theorem zIi {p:Prop} (h:p:=by (with_reducible repeat (first|apply Kd.xJ|apply Kd.xK|apply Kd.xU));exact HO_4.out):p:=h
theorem zIj {p:Prop} (h:p:=by repeat (first|(with_reducible first|exact HI0.out|apply zE.alloc|apply zE.drewN|apply zE.drew|apply zE.xX|apply zE.xY|refine zE.far ?_ NB0_216.out _)|exact HI0.out)):p:=h
theorem zBb {p:Prop} (h:p:=by repeat (first|(with_reducible first|exact HK.out|apply zQ.zKm|apply kF|apply wD|apply kE|refine uS ?_ GW216.out _)|exact HK.out)):p:=h
theorem zIk {p:Prop} (h:p:=by repeat (first|(with_reducible first|exact HB.out|apply zD|apply zH|apply zJ|refine zT ?_ (zE.ge HI0.out)|refine zT ?_ GE216.out)|exact HB.out)):p:=h
theorem zIl {p:Prop} (h:p:=by (with_reducible repeat (first|refine zG ?_ _|refine zI ?_|refine zF ?_ _));exact BK216.out):p:=h
theorem Zq60 {p:Prop} (h:p:=by (with_reducible repeat (first|apply Kd.xJ|apply Kd.xK|apply Kd.xU));exact HO219.out):p:=h
theorem zDw {p:Prop} (h:p:=by (with_reducible repeat (first|refine zG ?_ _|refine zI ?_|refine zF ?_ _));exact BK230.out):p:=h
theorem Zq62 {p:Prop} (h:p:=by repeat (first|(with_reducible first|exact HK.out|apply zQ.zKm|apply kF|apply wD|apply kE|refine uS ?_ GW230.out _)|exact HK.out)):p:=h
theorem X4 {p:Prop} (h:p:=by repeat (first|(with_reducible first|exact HK.out|apply zQ.zKm|apply kF|apply wD|apply kE|refine uS ?_ GW230.out _|refine uS ?_ GW231.out _)|exact HK.out)):p:=h
theorem zIm {p:Prop} (h:p:=by (with_reducible repeat (first|refine zG ?_ _|refine zI ?_|refine zF ?_ _));refine xZ ?_ NB230_231.out _;(with_reducible repeat (first|refine zG ?_ _|refine zI ?_|refine zF ?_ _));exact BK230.out):p:=h
theorem zIn {p:Prop} (h:p:=by (with_reducible repeat (first|refine zG ?_ _|refine zI ?_|refine zF ?_ _));refine zX (cs:=#[.int .i64 0, .int .i64 s0_1, .int .i64 0, .slice none 0 0, .slice none 0 0]) ?_ 0 _ rfl;(with_reducible repeat (first|refine zG ?_ _|refine zI ?_|refine zF ?_ _));exact BK231.out):p:=h
theorem zBc {p:Prop} (h:p:=by repeat (first|(with_reducible first|exact HI0.out|apply zE.alloc|apply zE.drewN|apply zE.drew|apply zE.xX|apply zE.xY|refine zE.far ?_ NB0_230.out _|refine zE.far ?_ NB0_231.out _)|exact HI0.out)):p:=h
theorem zBd {p:Prop} (h:p:=by repeat (first|(with_reducible first|exact HB.out|apply zD|apply zH|apply zJ|refine zT ?_ (zE.ge HI0.out)|refine zT ?_ GE230.out|refine zT ?_ GE231.out)|exact HB.out)):p:=h
theorem zIo {p:Prop} (h:p:=by (with_reducible repeat (first|refine zG ?_ _|refine zI ?_|refine zF ?_ _));exact BK231.out):p:=h
theorem Zq69 {p:Prop} (h:p:=by have:=HJ7.out;first|omega|exact Nat.le_refl _):p:=h
theorem Zq70 {p:Prop} (h:p:=by first|rfl|(simp;done)|(simp only [← hji18] <;> (first|rfl|simp))|(simp [*];done)):p:=h
theorem Zq71 {p:Prop} (h:p:=by repeat (first|(with_reducible first|exact HB.out|apply zD|apply zH|apply zJ|refine zT ?_ GE378.out)|exact HB.out)):p:=h
theorem zFm {p:Prop} (h:p:=by (with_reducible repeat (first|refine zG ?_ _|refine zI ?_|refine zF ?_ _));exact BK380.out):p:=h
theorem zBe {p:Prop} (h:p:=by repeat (first|(with_reducible first|exact HB.out|apply zD|apply zH|apply zJ|refine zT ?_ GE380.out)|exact HB.out)):p:=h
theorem W7 {p:Prop} (h:p:=by (with_reducible repeat (first|refine zG ?_ _|refine zI ?_|refine zF ?_ _));exact BK386.out):p:=h
theorem Zq75 {p:Prop} (h:p:=by repeat (first|(with_reducible first|exact HB.out|apply zD|apply zH|apply zJ|refine zT ?_ GE386.out)|exact HB.out)):p:=h
theorem zDn {p:Prop} (h:p:=by (with_reducible repeat (first|refine zG ?_ _|refine zI ?_|refine zF ?_ _));exact BK387.out):p:=h
theorem K0 {p:Prop} (h:p:=by repeat (first|(with_reducible first|exact HB.out|apply zD|apply zH|apply zJ|refine zT ?_ GE386.out|refine zT ?_ GE387.out)|exact HB.out)):p:=h
theorem Zq78 {p:Prop} (h:p:=by have:=vQ (w.alloc (Obj.cells #[Value.int IntKind.i64 tk,Value.string kr,Value.string str,Value.float FloatKind.f64 num,Value.int IntKind.i64 ix,Value.slice none 0 0] 57)) (Obj.cells #[Value.int IntKind.i64 ty,Value.string vr,Value.string str2,Value.float FloatKind.f64 num2,Value.int IntKind.i64 ix2,Value.slice none 0 0] 57);rw [show (w.alloc (Obj.cells #[Value.int IntKind.i64 tk,Value.string kr,Value.string str,Value.float FloatKind.f64 num,Value.int IntKind.i64 ix,Value.slice none 0 0] 57)).heap.size=w.heap.size+1 by simp] at this;exact this):p:=h
theorem zIp {p:Prop} (h:p:=by have:=HH.out.1.n1;unfold BS okC;omega):p:=h
theorem Zq80 {p:Prop} (h:p:=by have:=HN.out;have:=HXX.out;unfold BS;simp;omega):p:=h
theorem Zq81 {p:Prop} (h:p:=by first|exact HR.out|((with_reducible repeat (first|refine zG ?_ _|refine zI ?_));refine zX (cs:=#[.int .i64 0, .string ⟨#[]⟩, .slice none 0 0, .slice none 0 0]) ?_ 3 _ rfl;(with_reducible repeat (first|refine zG ?_ _|refine zI ?_));refine zX (cs:=#[.int .i64 0, .string ⟨#[]⟩, .slice none 0 0, .slice none 0 0]) ?_ 2 _ rfl;(with_reducible repeat (first|refine zG ?_ _|refine zI ?_));refine zX (cs:=#[.int .i64 0, .string ⟨#[]⟩, .slice none 0 0, .slice none 0 0]) ?_ 1 _ rfl;(with_reducible repeat (first|refine zG ?_ _|refine zI ?_));refine zX (cs:=#[.int .i64 0, .string ⟨#[]⟩, .slice none 0 0, .slice none 0 0]) ?_ 0 _ rfl;(with_reducible repeat (first|refine zG ?_ _|refine zI ?_));exact HR.out)):p:=h
theorem Zq82 {p:Prop} (h:p:=by repeat (first|(with_reducible first|exact Below.refl _ _|apply zD|apply zH|apply zJ|refine zT ?_ (Nat.le_refl _))|exact Below.refl _ _)):p:=h
theorem zAy {p:Prop} (h:p:=by show w.heap.size < (w.alloc _).heap.size;simp):p:=h
theorem zAz {p:Prop} (h:p:=by show w.heap.size≤(w.alloc _).heap.size;simp):p:=h
theorem Zq85 {p:Prop} (h:p:=by repeat (first|(with_reducible first|exact HB.out.2|apply zD|apply zH|apply zJ|refine zT ?_ (Nat.le_refl _))|exact HB.out.2)):p:=h
theorem zDx {p:Prop} (h:p:=by (try simp only [List.map_toArray,List.map_cons,List.map_nil]);first|done|rfl):p:=h
theorem Zq87 {p:Prop} (h:p:=by (with_reducible repeat (first|refine zG ?_ _|refine zI ?_|refine zF ?_ _));refine zX (cs:=#[.int .i64 n.f0, .string n.f1, .slice A2 n.f2.length c2, .slice none 0 0]) ?_ 3 _ rfl;(with_reducible repeat (first|refine zG ?_ _|refine zI ?_|refine zF ?_ _));refine zX (cs:=#[.int .i64 n.f0, .string n.f1, .slice none 0 0, .slice none 0 0]) ?_ 2 _ rfl;(with_reducible repeat (first|refine zG ?_ _|refine zI ?_|refine zF ?_ _));refine zX (cs:=#[.int .i64 n.f0, .string ⟨#[]⟩, .slice none 0 0, .slice none 0 0]) ?_ 1 _ rfl;(with_reducible repeat (first|refine zG ?_ _|refine zI ?_|refine zF ?_ _));refine zX (cs:=#[.int .i64 0, .string ⟨#[]⟩, .slice none 0 0, .slice none 0 0]) ?_ 0 _ rfl;(with_reducible repeat (first|refine zG ?_ _|refine zI ?_|refine zF ?_ _));exact M2.out):p:=h
theorem Zq88 {p:Prop} (h:p:=by repeat (first|(with_reducible first|exact HZ.out|apply zD|apply zH|apply zJ|refine zT ?_ (Nat.le_refl _))|exact HZ.out)):p:=h
theorem zJa {p:Prop} (h:p:=by have:=HH.out.2.1;omega):p:=h
theorem zJb {p:Prop} (h:p:=by simp only [List.length_cons];omega):p:=h
theorem zDy {p:Prop} (h:p:=by unfold Vis;decide):p:=h
theorem zIq {p:Prop} (h:p:=by repeat (first|(with_reducible first|exact HB1.out|apply zD|apply zH|apply zJ)|exact HB1.out)):p:=h
theorem QJ {p:Prop} (h:p:=by as_aux_lemma=>kernel_rfl):p:=h
theorem zGt {p:Prop} (h:p:=by have:=HST.out.2.2.2;have:=HSZ.out;simp only [List.length_cons,List.length_append,List.length_nil,zW];omega):p:=h
end Go.Proofs.YtljhmnnhfnmhmaaGreatDoor
namespace Go.Proofs
open Go.Shelf
def Tryz.KE:Go.Shelf.Ren:=⟨fun|129=>111|n=>n,fun|53=>108|3=>3|4=>4|46=>111|5=>5|9=>9|n=>n,fun|n=>n⟩
theorem Tryz.zHj:Go.Proofs.Lays.n129 Tryz.prog Tryz.KE:={
 mixed:=by kernel_rfl
 f129:=Tryz.func111.trans (congrArg some (by kernel_rfl))
 t3:=Tryz.underlying3
 a3:=Tryz.isAgg3
 z3:=Tryz.sizeOf3
 v3:=Tryz.zeroValue3
 t4:=Tryz.underlying4
 a4:=Tryz.isAgg4
 z4:=Tryz.sizeOf4
 v4:=Tryz.zeroValue4
 t5:=Tryz.underlying5
 a5:=Tryz.isAgg5
 z5:=Tryz.sizeOf5
 v5:=Tryz.zeroValue5
 t9:=Tryz.underlying9
 a9:=Tryz.isAgg9
 z9:=Tryz.sizeOf9
 v9:=Tryz.zeroValue9
 t46:=Tryz.underlying111
 a46:=Tryz.isAgg111
 z46:=Tryz.sizeOf111
 v46:=Tryz.zeroValue111
 t53:=Tryz.underlying108
 a53:=Tryz.isAgg108
 z53:=Tryz.sizeOf108
 v53:=Tryz.zeroValue108 }
theorem Tryz.bits_Len64 (x:Int) (w:World) (h0:0≤x) (h1:x≤18446744073709551615) :
  Calls Tryz.prog 111 #[.int .u64 x] w fun e w'=>e = .returned (.int .i64 (Lib.bitLen x.toNat))∧w'=w:=Any.bits_Len64 Tryz.zHj x w h0 h1
def Tryz.Q5:Go.Shelf.Ren:=⟨fun|245=>92|279=>100|280=>101|281=>102|282=>103|316=>121|171=>123|205=>122|243=>148|246=>167|283=>162|284=>114|285=>138|286=>163|129=>111|317=>115|318=>139|319=>174|320=>175|337=>176|338=>177|n=>n,fun|9=>9|3=>3|75=>69|167=>117|4=>4|168=>118|210=>147|37=>63|0=>0|127=>91|145=>172|143=>170|2=>2|171=>138|53=>108|5=>5|173=>194|212=>165|51=>112|20=>20|213=>214|46=>111|232=>131|233=>217|80=>73|n=>n,fun|15=>4|16=>5|17=>6|18=>14|19=>15|n=>n⟩
theorem Tryz.WM:Go.Proofs.LaysC.n245 Tryz.prog Tryz.Q5:={
 mixed:=by kernel_rfl
 f129:=Tryz.func111.trans (congrArg some (by kernel_rfl))
 f171:=Tryz.func123.trans (congrArg some (by kernel_rfl))
 f205:=Tryz.func122.trans (congrArg some (by kernel_rfl))
 f243:=Tryz.func148.trans (congrArg some (by kernel_rfl))
 f245:=Tryz.func92.trans (congrArg some (by kernel_rfl))
 f246:=Tryz.func167.trans (congrArg some (by kernel_rfl))
 f279:=Tryz.func100.trans (congrArg some (by kernel_rfl))
 f280:=Tryz.func101.trans (congrArg some (by kernel_rfl))
 f281:=Tryz.func102.trans (congrArg some (by kernel_rfl))
 f282:=Tryz.func103.trans (congrArg some (by kernel_rfl))
 f283:=Tryz.func162.trans (congrArg some (by kernel_rfl))
 f284:=Tryz.func114.trans (congrArg some (by kernel_rfl))
 f285:=Tryz.func138.trans (congrArg some (by kernel_rfl))
 f286:=Tryz.func163.trans (congrArg some (by kernel_rfl))
 f316:=Tryz.func121.trans (congrArg some (by kernel_rfl))
 f317:=Tryz.func115.trans (congrArg some (by kernel_rfl))
 f318:=Tryz.func139.trans (congrArg some (by kernel_rfl))
 f319:=Tryz.func174.trans (congrArg some (by kernel_rfl))
 f320:=Tryz.func175.trans (congrArg some (by kernel_rfl))
 f337:=Tryz.func176.trans (congrArg some (by kernel_rfl))
 f338:=Tryz.func177.trans (congrArg some (by kernel_rfl))
 t0:=Tryz.underlying0
 a0:=Tryz.isAgg0
 z0:=Tryz.sizeOf0
 v0:=Tryz.zeroValue0
 t2:=Tryz.underlying2
 a2:=Tryz.isAgg2
 z2:=Tryz.sizeOf2
 v2:=Tryz.zeroValue2
 t3:=Tryz.underlying3
 a3:=Tryz.isAgg3
 z3:=Tryz.sizeOf3
 v3:=Tryz.zeroValue3
 t4:=Tryz.underlying4
 a4:=Tryz.isAgg4
 z4:=Tryz.sizeOf4
 v4:=Tryz.zeroValue4
 t5:=Tryz.underlying5
 a5:=Tryz.isAgg5
 z5:=Tryz.sizeOf5
 v5:=Tryz.zeroValue5
 t9:=Tryz.underlying9
 a9:=Tryz.isAgg9
 z9:=Tryz.sizeOf9
 v9:=Tryz.zeroValue9
 t20:=Tryz.underlying20
 a20:=Tryz.isAgg20
 z20:=Tryz.sizeOf20
 v20:=Tryz.zeroValue20
 t37:=Tryz.underlying63
 a37:=Tryz.isAgg63
 z37:=Tryz.sizeOf63
 v37:=Tryz.zeroValue63
 t46:=Tryz.underlying111
 a46:=Tryz.isAgg111
 z46:=Tryz.sizeOf111
 v46:=Tryz.zeroValue111
 t51:=Tryz.underlying112
 a51:=Tryz.isAgg112
 z51:=Tryz.sizeOf112
 v51:=Tryz.zeroValue112
 t53:=Tryz.underlying108
 a53:=Tryz.isAgg108
 z53:=Tryz.sizeOf108
 v53:=Tryz.zeroValue108
 t75:=Tryz.underlying69
 a75:=Tryz.isAgg69
 z75:=Tryz.sizeOf69
 v75:=Tryz.zeroValue69
 t127:=Tryz.underlying91
 a127:=Tryz.isAgg91
 z127:=Tryz.sizeOf91
 v127:=Tryz.zeroValue91
 t143:=Tryz.underlying170
 a143:=Tryz.isAgg170
 z143:=Tryz.sizeOf170
 v143:=Tryz.zeroValue170
 t145:=Tryz.underlying172
 a145:=Tryz.isAgg172
 z145:=Tryz.sizeOf172
 v145:=Tryz.zeroValue172
 t167:=Tryz.underlying117
 a167:=Tryz.isAgg117
 z167:=Tryz.sizeOf117
 v167:=Tryz.zeroValue117
 t168:=Tryz.underlying118
 a168:=Tryz.isAgg118
 z168:=Tryz.sizeOf118
 v168:=Tryz.zeroValue118
 t171:=Tryz.underlying138
 a171:=Tryz.isAgg138
 z171:=Tryz.sizeOf138
 v171:=Tryz.zeroValue138
 t173:=Tryz.underlying194
 a173:=Tryz.isAgg194
 z173:=Tryz.sizeOf194
 v173:=Tryz.zeroValue194
 t210:=Tryz.underlying147
 a210:=Tryz.isAgg147
 z210:=Tryz.sizeOf147
 v210:=Tryz.zeroValue147
 t212:=Tryz.underlying165
 a212:=Tryz.isAgg165
 z212:=Tryz.sizeOf165
 v212:=Tryz.zeroValue165
 t213:=Tryz.underlying214
 a213:=Tryz.isAgg214
 z213:=Tryz.sizeOf214
 t232:=Tryz.underlying131
 a232:=Tryz.isAgg131
 z232:=Tryz.sizeOf131
 v232:=Tryz.zeroValue131
 t233:=Tryz.underlying217
 a233:=Tryz.isAgg217
 z233:=Tryz.sizeOf217
 v233:=Tryz.zeroValue217
 g15:=by kernel_rfl
 g16:=by kernel_rfl
 g17:=by kernel_rfl
 g18:=by kernel_rfl
 g19:=by kernel_rfl
 t80:=Tryz.underlying73
 a80:=Tryz.isAgg73
 z80:=Tryz.sizeOf73
 v80:=Tryz.zeroValue73
 i0:=by kernel_rfl
 i2:=by kernel_rfl
 i3:=by kernel_rfl
 i4:=by kernel_rfl
 i5:=by kernel_rfl
 i9:=by kernel_rfl
 i20:=by kernel_rfl
 i37:=by kernel_rfl
 i46:=by kernel_rfl
 i51:=by kernel_rfl
 i53:=by kernel_rfl
 i75:=by kernel_rfl
 i80:=by kernel_rfl
 i127:=by kernel_rfl
 i143:=by kernel_rfl
 i145:=by kernel_rfl
 i167:=by kernel_rfl
 i168:=by kernel_rfl
 i171:=by kernel_rfl
 i173:=by kernel_rfl
 i210:=by kernel_rfl
 i212:=by kernel_rfl
 i232:=by kernel_rfl
 i233:=by kernel_rfl
 m15:=by kernel_rfl
 m16:=by kernel_rfl
 m17:=by kernel_rfl
 m18:=by kernel_rfl
 m19:=by kernel_rfl
 c0:=by kernel_rfl
 c2:=by kernel_rfl
 c3:=by kernel_rfl
 c4:=by kernel_rfl
 c5:=by kernel_rfl
 c9:=by kernel_rfl
 c20:=by kernel_rfl
 c37:=by kernel_rfl
 c46:=by kernel_rfl
 c51:=by kernel_rfl
 c53:=by kernel_rfl
 c75:=by kernel_rfl
 c80:=by kernel_rfl
 c127:=by kernel_rfl
 c143:=by kernel_rfl
 c145:=by kernel_rfl
 c167:=by kernel_rfl
 c168:=by kernel_rfl
 c171:=by kernel_rfl
 c173:=by kernel_rfl
 c210:=by kernel_rfl
 c212:=by kernel_rfl
 c213:=by kernel_rfl
 c232:=by kernel_rfl
 c233:=by kernel_rfl }
open Go.RowKit in
theorem Tryz.strconv_toError_syntax (fn s:ByteArray) (base bits:Int) (ev:Value) (w:World) (hlim:s.size≤281474976710656) (hv:w.cell? ⟨4,0,none⟩=some ev) (hev:ev = .nilIface∨∃ te pe,ev = .iface te pe) :
  Calls Tryz.prog 92 #[.string fn, .string s, .int .i64 base, .int .i64 bits, .iface 117 (.int .i64 2)] w fun e w'=>∃ N,e = .returned (.iface 118 (.pointer (some ⟨N,0,none⟩)))∧w.heap.size≤N∧w'.heap[N]?=some (.cells #[.string fn, .string s,ev] 147 (0,0))∧Below w.heap.size w w':=Any.strconv_toError_syntax Tryz.WM fn s base bits ev w hlim hv hev
open Go.RowKit in
theorem Tryz.strconv_toError_range (fn s:ByteArray) (base bits:Int) (ev:Value) (w:World) (hlim:s.size≤281474976710656) (hv:w.cell? ⟨5,0,none⟩=some ev) (hev:ev = .nilIface∨∃ te pe,ev = .iface te pe) :
  Calls Tryz.prog 92 #[.string fn, .string s, .int .i64 base, .int .i64 bits, .iface 117 (.int .i64 1)] w fun e w'=>∃ N,e = .returned (.iface 118 (.pointer (some ⟨N,0,none⟩)))∧w.heap.size≤N∧w'.heap[N]?=some (.cells #[.string fn, .string s,ev] 147 (0,0))∧Below w.heap.size w w':=Any.strconv_toError_range Tryz.WM fn s base bits ev w hlim hv hev
end Go.Proofs
namespace Go.Proofs.YtljhmnnhfnmhmaaGreatDoor.M
open Go Go.RowKit
theorem wK (n:Int) (w:World):(callFunc 159 #[.int .u64 n]).run Tryz.prog w = .ok (.value (.float .f64 n.toNat)) w:=by
 rw [run_callFunc_extern (P:=Tryz.prog) (e:=Extern.MathFloatBits.float64frombits) Tryz.func159 (by kernel_rfl) (by kernel_rfl) (by kernel_rfl) (by kernel_rfl)]
 rfl
theorem below_drewN {B:Nat} {a w:World} (h:Below B a w) (k:Nat):Below B a (w.drewN k):=⟨h.os,h.tape,h.output,h.size,h.block⟩
def U64 (w:World) (e:Ending) (w':World):Prop:=∃ n:Int,e = .returned (.int .u64 n)∧w=w'
def U64x2 (w:World) (e:Ending) (w':World):Prop:=∃ n m:Int,e = .returned (.tuple #[.int .u64 n, .int .u64 m])∧w=w'
def zIz (lo hi:Int) (w:World) (e:Ending) (w':World):Prop:=∃ n:Int,lo≤n∧n≤hi∧e = .returned (.int .i64 n)∧w=w'
theorem zCo (x y:Int) (w:World):Calls Tryz.prog 164 #[.int .u64 x, .int .u64 y] w (U64x2 w):=by
 go_enter Tryz.func164,Tryz.ntmps164
 go_wp2
 go_ret2
 exact⟨_,_,rfl,rfl⟩
theorem zC3 (x:Int) (w:World):Calls Tryz.prog 137 #[.int .u64 x] w (U64 w):=by
 go_enter Tryz.func137,Tryz.ntmps137
 go_wp2
 go_ret
 exact⟨_,rfl,rfl⟩
theorem zDd (x:Int) (w:World):Calls Tryz.prog 140 #[.int .u64 x] w (U64 w):=by
 go_enter Tryz.func140,Tryz.ntmps140
 go_wp2
 go_ret
 exact⟨_,rfl,rfl⟩
def b2i (b:Bool):Int:=bif b then 1 else 0
theorem zJf (b:Bool):0≤b2i b∧b2i b≤1:=by cases b <;> simp [b2i]
theorem ZK (b:Bool) (w:World):Calls Tryz.prog 158 #[.bool b] w (fun e w'=>e = .returned (.int .u64 (b2i b))∧w'=w):=by
 cases b
 all_goals
  go_enter Tryz.func158,Tryz.ntmps158
  go_wp2
  go_ret
  exact⟨rfl,rfl⟩
theorem zAb (b:Bool) (w:World):Calls Tryz.prog 139 #[.bool b] w (fun e w'=>e = .returned (.int .i64 (b2i b))∧w'=w):=by
 cases b
 all_goals
  go_enter Tryz.func139,Tryz.ntmps139
  go_wp2
  go_ret
  exact⟨rfl,rfl⟩
theorem JU (x:Int) (w:World) (h0:-400≤x) (h1:x≤400):Calls Tryz.prog 132 #[.int .i64 x] w (zIz (-1400) 1400 w):=by
 go_enter Tryz.func132,Tryz.ntmps132
 go_wp2
 go_ret
 refine⟨_,?_,?_,rfl,rfl⟩
 all_goals omega
def zGn (v:Value):Prop:=v = .nilIface∨v = .iface 117 (.int .i64 1)
def Flt (w:World) (e:Ending) (w':World):Prop:=∃ (f:Nat) (v:Value),zGn v∧e = .returned (.tuple #[.float .f64 f,v])∧Below w.heap.size w w'
theorem zAl (m x:Int) (w:World) (h0:-1400≤x) (h1:x≤4000):Calls Tryz.prog 173 #[.int .u64 m, .int .i64 x] w (Flt w):=by
 have hf:=wK
 go_enter Tryz.func173,Tryz.ntmps173
 go_wp2
 all_goals
  go_ret2
  exact⟨_,_,by first|exact .inl rfl|exact .inr rfl,rfl,Below.refl _ _⟩
theorem zCb (s:Int):0≤bits .and .i64 s 63∧bits .and .i64 s 63≤63:=by
 have h:bits .and .i64 s 63=IntKind.i64.wrap (((BitVec.ofInt 64 s &&& BitVec.ofInt 64 63).toNat:Nat):Int):=rfl
 have h2:(BitVec.ofInt 64 s &&& BitVec.ofInt 64 63).toNat≤63:=by
  rw [BitVec.toNat_and]
  exact Nat.le_trans Nat.and_le_right (by decide)
 rw [h,IntKind.wrap_i64]
 omega
theorem zAt (x:Int) (g:Nat) (a b s:Int) (w:World) (h0:w.cell? ⟨g,0,none⟩=some (.int .u64 a)) (h1:w.cell? ⟨g,1,none⟩=some (.int .u64 b)) (h2:w.cell? ⟨g,2,none⟩=some (.int .i64 s)) :
  Calls Tryz.prog 133 #[.int .u64 x, .pointer (some ⟨g,0,none⟩)] w (fun e w'=>∃ (n:Int) (k:Nat),e = .returned (.int .u64 n)∧w'=w.drewN k):=by
 obtain⟨s0,s1⟩:=zCb s
 have s2:bits .and .i64 s 63≤64:=by omega
 go_enter Tryz.func133,Tryz.ntmps133
 go_wp2_with (first|(go_at_call 164;refine(zCo _ _ _).mono ?_;rintro e w' ⟨y1,y2,rfl,rfl⟩)|(go_at_call 158;refine(ZK _ _).mono ?_;rintro e w' ⟨rfl,rfl⟩))
 ·
  go_ret
  exact⟨_,0,rfl,rfl⟩
 ·
  go_quiet ((go_at_call 158;exact Calls.quiet_of_same (ZK _ _)))
  go_wp2
  go_ret
  exact⟨_,_,rfl,rfl⟩
def Z2 (w:World):Prop:=∀ j:Nat,j < 1392→∃ v:Int,w.cell? ⟨9,j,none⟩=some (.int .u64 v)
theorem YI (g:Nat) (a b s e p lp:Int) (w:World) (hT:Z2 w) (hp0:-348≤p) (hp1:p≤347) (he0:-10000≤e) (he1:e≤10000) (hl0:-10000≤lp) (hl1:lp≤10000) (hg9:9 < g)
  (h0:w.cell? ⟨g,0,none⟩=some (.int .u64 a)) (h1:w.cell? ⟨g,1,none⟩=some (.int .u64 b)) (h2:w.cell? ⟨g,2,none⟩=some (.int .i64 s))
  (f0:w.frozen? ⟨g,0,none⟩=false) (f1:w.frozen? ⟨g,1,none⟩=false) (f2:w.frozen? ⟨g,2,none⟩=false) :
  Calls Tryz.prog 131 #[.pointer (some ⟨g,0,none⟩), .int .i64 e, .int .i64 p, .int .i64 lp] w
   (fun e w'=>e = .returned (.tuple #[])∧∃ x y z:Int,w'=((w.setCell ⟨g,0,none⟩ (.int .u64 x)).setCell ⟨g,1,none⟩ (.int .u64 y)).setCell ⟨g,2,none⟩ (.int .i64 z)):=by
 obtain⟨x,hx⟩:=hT ((p+348).toNat * 2) (by omega)
 obtain⟨y,hy⟩:=hT ((p+348).toNat * 2+1) (by omega)
 have n9:¬ (9=g):=by omega
 have n9':¬ (g=9):=by omega
 clear hT
 go_enter Tryz.func131,Tryz.ntmps131
 go_wp2
 go_end0
 exact⟨rfl,_,_,_,rfl⟩
theorem bitLenAux_le:∀ (f x:Nat),Lib.bitLenAux f x≤f
 | 0,x=>by simp [Lib.bitLenAux]
 | f+1,x=>by
  have:=bitLenAux_le f (x / 2)
  rw [Lib.bitLenAux]
  split <;> omega
theorem bitLen_le (x:Nat) (h:x < 18446744073709551616):Lib.bitLen x≤64:=bitLenAux_le 64 x
theorem zCh (x:Int) (w:World) (h0:0≤x) (h1:x < 18446744073709551616):Calls Tryz.prog 111 #[.int .u64 x] w (zIz 0 64 w):=by
 refine(Tryz.bits_Len64 x w h0 (by omega)).mono ?_
 rintro e w' ⟨rfl,rfl⟩
 have h2:=bitLen_le x.toNat (by omega)
 exact⟨_,by omega,by omega,rfl,rfl⟩
theorem Z2.below {w w':World} (h:Z2 w) {n:Nat} (hb:Below n w w') (hn:9 < n):Z2 w':=fun j hj=>by
 obtain⟨v,hv⟩:=h j hj
 exact⟨v,(hb.cell (p:=⟨9,j,none⟩) hn).trans hv⟩
theorem yN (d p sign:Int) (w:World) (hT:Z2 w) (hd0:0≤d) (hd1:d < 18446744073709551616) (hp0:-345≤p) (hp1:p≤310) (hw:9 < w.heap.size) :
  Calls Tryz.prog 161 #[.int .u64 d, .int .i64 p, .int .u64 sign] w (Flt w):=by
 have HT:=Lib.hid hT
 clear hT
 have hf:=wK
 go_enter Tryz.func161,Tryz.ntmps161
 go_wp2_with (first|(go_at_call 111;refine(zCh _ _ hd0 hd1).mono ?_;rintro e w' ⟨b,b0,b1,rfl,rfl⟩)|(go_at_call 132;refine(JU _ _ (by omega) (by omega)).mono ?_;rintro e w' ⟨lp,l0,l1,rfl,rfl⟩))
 all_goals
  refine(YI _ 0 0 0 _ _ _ _ (HT.out.below ((Below.refl _ _).alloc (Nat.le_refl _) _) hw) (by omega) (by omega) (by omega) (by omega) (by omega) (by omega) (by omega) (by simp) (by simp) (by simp) (by simp) (by simp) (by simp)).mono ?_
  rintro e w' ⟨rfl,x,y,z,rfl⟩
  go_wp2_with (first|(go_at_call 133;refine(zAt _ _ x y z _ (by simp) (by simp) (by simp)).mono ?_;rintro e w' ⟨n,k,rfl,rfl⟩)|(go_at_call 140;refine(zDd _ _).mono ?_;rintro e w' ⟨m,rfl,rfl⟩)|(go_at_call 139;refine(zAb _ _).mono ?_;rintro e w' ⟨rfl,rfl⟩;have hbb:=zJf (decide (m≤n)))|(go_at_call 137;refine(zC3 _ _).mono ?_;rintro e w' ⟨rr,rfl,rfl⟩))
  ·
   go_ret2
   exact⟨_,_, .inl rfl,rfl,(Below.refl _ _).alloc (Nat.le_refl _) _⟩
  ·
   refine(zAl _ _ _ (by omega) (by omega)).mono ?_
   rintro e w' ⟨f,v,hv,rfl,hb⟩
   have HV:=Lib.hid hv
   have HB:=Lib.hid hb
   clear hv hb
   go_wp2
   go_ret2
   exact⟨_,_,HV.out,rfl,(below_drewN ((Below.refl _ _).alloc (Nat.le_refl _) _) k).trans (HB.out.mono (by simp))⟩
end Go.Proofs.YtljhmnnhfnmhmaaGreatDoor.M
