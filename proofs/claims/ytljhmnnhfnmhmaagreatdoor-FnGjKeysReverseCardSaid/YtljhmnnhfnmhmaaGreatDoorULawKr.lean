/-
FnGjKeysReverse, proved: at every text it answers true, and the text reads as it did; the listed variables read as the program's text lays them (the card ties them). No other condition.
-/
import Derived.Test.YtljhmnnhfnmhmaaGreatDoorCards
import Derived.Test.YtljhmnnhfnmhmaaGreatDoorTie
import Derived.Test.YtljhmnnhfnmhmaaGreatDoorUM29
import Derived.Test.YtljhmnnhfnmhmaaGreatDoorUM52
import Derived.WalkKit
import Derived.ProofKit
import Derived.OpenShut
import Derived.ShutString
import Derived.ChangeOld
import Derived.Below
import Derived.Lib.SmallJoins
import Derived.Lay
import Derived.LaidMore
import Derived.Stop.Joined
import Derived.SevenTiedAt
import Derived.Test.YtljhmnnhfnmhmaaGreatDoorUM50
import Derived.Test.YtljhmnnhfnmhmaaGreatDoorUM51
import Derived.Test.YtljhmnnhfnmhmaaGreatDoorUM0
set_option linter.unusedVariables false
set_option linter.unusedSimpArgs false
set_option maxRecDepth 100000
namespace Go.Proofs.YtljhmnnhfnmhmaaGreatDoor.LawKr
open Go Go.ChangeShapes Go.WideShapes Go.ChangeAt Go.RowKit Go.Joins
open Go.ChangeMaps (open_string shut_string)
theorem own:ownKnob Tryz.prog.godebug=none:=by kernel_rfl
theorem YG (w:World):laidMetH Tryz.prog Rows.fnGjKeysReverseRow.laid w=laidMet Tryz.prog Rows.fnGjKeysReverseRow.laid w:=MakeChecks.laidMetH_plain _ _ _ (by kernel_rfl)
theorem XY (os:Os) (args:Array Value):laidMetH Tryz.prog Rows.fnGjKeysReverseRow.laid ((World.laidAll Tryz.prog os Rows.fnGjKeysReverseRow.laid).forCall (fun _ _=>0) ⟨#[],args,[]⟩).memory:=by
 rw [YG]
 exact laidMet_laidAll _ (by kernel_rfl) (by kernel_rfl)
theorem tb (W:World) (h:laidMetH Tryz.prog Rows.fnGjKeysReverseRow.laid W):M.Tb W.heap.size W:=by
 rw [YG] at h
 exact M.zKq h (List.mem_of_getElem? (i:=11) rfl) (List.mem_of_getElem? (i:=4) rfl) (List.mem_of_getElem? (i:=10) rfl) (List.mem_of_getElem? (i:=9) rfl) (List.mem_of_getElem? (i:=3) rfl) (List.mem_of_getElem? (i:=13) rfl) (List.mem_of_getElem? (i:=5) rfl) (List.mem_of_getElem? (i:=6) rfl) (List.mem_of_getElem? (i:=12) rfl)
theorem lifted (os:Os) (started:os.Started) (H:Type) (enc:TypeId × Value→H) :
  ReturnsInHanded {} Tryz.checked os 3 .any (fun w args=>(Rows.fnGjKeysReverseSpec.pre enc Tryz.prog Tryz.f3 [] false w args∧laidMetH Tryz.prog Rows.fnGjKeysReverseRow.laid w)∧sizedMet enc Tryz.prog Tryz.f3 (OpenSpec.ofChange Rows.fnGjKeysReverseSpec) false w args)
   (Rows.fnGjKeysReverseSpec.post enc Tryz.prog Tryz.f3 false true false false):=by
 refine returnsInHanded_of_change_and (C:=Tryz.checked) (X:=fun w _=>laidMetH Tryz.prog Rows.fnGjKeysReverseRow.laid w) (fun _ _ _ hh h=>h.of_heap hh) own started QJ Tryz.func3
  (ChangeSpec.witness_shaped (enc:=enc) (C:=Tryz.checked) (os:=os) (X:=fun w _=>laidMetH Tryz.prog Rows.fnGjKeysReverseRow.laid w) false (World.laidAll Tryz.prog os Rows.fnGjKeysReverseRow.laid) #[.string ByteArray.empty] 8 (World.laidAll_os _ _ _) (World.shaped_of_ZipB QJ QJ) QJ QJ QJ (XY os _)) ?_
 intro W base args ds gs before hval0 hW _ _ hL _
 have hval:∀ (j:Nat) t v,Tryz.f3.params[j]?=some t→args[j]?=some v→Value.okWide Tryz.prog W .any base t v:=hval0
 have hW':=hW
 obtain⟨p,q,hA0,hV,rfl,hfz,hnd⟩:=hW
 have hA:DataW.TrodAll enc Tryz.prog W 0 (fun _=>true) true Tryz.f3.params.toList args.toList ds p:=hA0
 rw [Tryz.params3] at hA hval
 obtain⟨v0,d0,rfl,rfl,h0⟩:=trodAll_one hA
 obtain⟨rfl,rfl⟩:=trodVars_none hV
 obtain⟨a0,rfl,rfl,rfl,y0⟩:=open_string Tryz.underlying9 (hval 0 9 v0 rfl rfl) h0
 clear hA0 hval0
 simp only [List.append_nil] at hW'
 refine(M.zHh a0 W.heap.size W (Nat.le_refl _) (tb W hL)).mono fun e W' ⟨he,bel⟩=>?_
 subst he
 exact⟨_,rfl,_,_,_,[],_,[],hW',trodAll_mk1 (shut_bool Tryz.underlying4 _),trodAll_mk1 (shut_string Tryz.underlying9 y0),rfl,bel.frame _,fun h=>by cases h⟩
theorem XW:Rows.FnGjKeysReverseSaid :=
 OpenClaim.holds_of_wide 3 Tryz.f3 rfl rfl rfl rfl rfl rfl rfl ⟨rfl,rfl,rfl,rfl,rfl⟩ rfl rfl rfl rfl rfl QJ Tryz.func3 QJ
  (of_decide_eq_true QJ) (by unfold Func.isWrapper;first|(rw [if_pos (by decide +kernel)];kernel_rfl)|(rw [if_neg (by decide +kernel)];exact⟨rfl,rfl⟩))
  (fun os started H enc _=>lifted os started H enc)
theorem card_holds:Rows.FnGjKeysReverseCardSaid :=
 Claim7.holds_tied_plain_at .later [] [.data, .data, .widerDeep, .widerDeep, .data, .data, .data, .data, .data, .sentinel, .sentinel, .data, .pinned, .pinned] true (true, "e6af6d9c6457a93ca1a000aa1ff8855295be72c451ad41c3e1dd569018534f3c") true
  XW (fun _ h=>by cases h) (by kernel_rfl) (fun _ h=>by cases h) fnGjKeysReverse_row_tie rfl ⟨rfl,rfl⟩ (by kernel_rfl) rfl
  (fun f fn hf hfn=>by
   obtain rfl:f=3:=Option.some.inj ((show Tryz.prog.funcNamed "pub-tetrapla/laws.FnGjKeysReverse" = some 3 by kernel_rfl).symm.trans hf) |>.symm
   obtain rfl:fn=Tryz.f3:=(Option.some.inj (Tryz.func3.symm.trans hfn)).symm
   exact⟨by kernel_rfl,fun j t ht=>by
    rw [Tryz.params3] at ht
    have hm:t ∈ [9]:=by simpa using Array.mem_of_getElem? ht
    have hall:([9].all fun u=>!Tryz.prog.wantsStandIn u)=true:=by kernel_rfl
    exact(show Tryz.prog.wantsStandIn t=false by simpa using List.all_eq_true.1 hall t hm)⟩)
  (by kernel_rfl)
end Go.Proofs.YtljhmnnhfnmhmaaGreatDoor.LawKr
namespace Go.Proofs.YtljhmnnhfnmhmaaGreatDoor
theorem fnGjKeysReverse_holds:Rows.FnGjKeysReverseCardSaid:=LawKr.card_holds
end Go.Proofs.YtljhmnnhfnmhmaaGreatDoor
