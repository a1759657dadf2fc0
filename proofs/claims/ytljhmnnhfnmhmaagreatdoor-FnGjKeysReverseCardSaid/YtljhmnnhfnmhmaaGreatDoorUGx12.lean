/-
Lemmas of this claim; made short by a program of this work.
-/
import Derived.Test.YtljhmnnhfnmhmaaGreatDoorUM7
import Derived.Test.YtljhmnnhfnmhmaaGreatDoorUM0
set_option linter.unusedVariables false
set_option linter.unusedSimpArgs false
set_option maxHeartbeats 8000000
set_option maxRecDepth 100000
namespace Go.Proofs.YtljhmnnhfnmhmaaGreatDoor.G
open Go.RowKit Go.Proofs.YtljhmnnhfnmhmaaGreatDoorW.PrintWords Go.Proofs.YtljhmnnhfnmhmaaGreatDoorW.PrintLast Go.Proofs.YtljhmnnhfnmhmaaGreatDoorW.PrintMore
attribute [local go_sem] qG qJ yE yF jT jU qH qK
mutual
def z8.j0:Nat→Bool→Int→ByteArray→List ByteArray→List (S25)→Int→ByteArray→List ByteArray→List (S25)→Option (Bool)
 | 0,_,_,_,_,_,_,_,_,_=>none
 | k+1,x36,x387000,x387001,x387002,x387003,x388000,x388001,x388002,x388003=>if x36=true then (some false) else (z8.l0 k 0 x387000 x387001 x387002 x387003 x388000 x388001 x388002 x388003)
def z8.l0:Nat→Int→Int→ByteArray→List ByteArray→List (S25)→Int→ByteArray→List ByteArray→List (S25)→Option (Bool)
 | 0,_,_,_,_,_,_,_,_,_=>none
 | k+1,x5,x387000,x387001,x387002,x387003,x388000,x388001,x388002,x388003=>if x5 < (x387002.length:Int) then (if 0≤x5 then (if x5 < (x388002.length:Int) then (if (kX ByteArray.empty x387002 x5).toList=(kX ByteArray.empty x388002 x5).toList then (z8.l0 k (wrap64 (x5+1)) x387000 x387001 x387002 x387003 x388000 x388001 x388002 x388003) else (some false)) else (none)) else (none)) else (z8.l1 k 0 x387000 x387001 x387002 x387003 x388000 x388001 x388002 x388003)
def z8.l1:Nat→Int→Int→ByteArray→List ByteArray→List (S25)→Int→ByteArray→List ByteArray→List (S25)→Option (Bool)
 | 0,_,_,_,_,_,_,_,_,_=>none
 | k+1,x6,x387000,x387001,x387002,x387003,x388000,x388001,x388002,x388003=>if x6 < (x387003.length:Int) then (if 0≤x6 then (if x6 < (x388003.length:Int) then ((z8.f k ((xO x387003 x6).f0) ((xO x387003 x6).f1) ((xO x387003 x6).f2) ((xO x387003 x6).f3) ((xO x388003 x6).f0) ((xO x388003 x6).f1) ((xO x388003 x6).f2) ((xO x388003 x6).f3)).bind fun t392=>(if t392=true then (z8.l1 k (wrap64 (x6+1)) x387000 x387001 x387002 x387003 x388000 x388001 x388002 x388003) else (some false))) else (none)) else (none)) else (some true)
def z8.f:Nat→Int→ByteArray→List ByteArray→List (S25)→Int→ByteArray→List ByteArray→List (S25)→Option (Bool)
 | 0,_,_,_,_,_,_,_,_=>none
 | k+1,a0_0,a0_1,l0_2,l0_3,a1_0,a1_1,l1_2,l1_3=>if a0_0=a1_0 then (if a0_1.toList=a1_1.toList then (if (l0_2.length:Int)=(l1_2.length:Int) then (z8.j0 k ((l0_3.length:Int) != (l1_3.length:Int)) a0_0 a0_1 l0_2 l0_3 a1_0 a1_1 l1_2 l1_3) else (z8.j0 k true a0_0 a0_1 l0_2 l0_3 a1_0 a1_1 l1_2 l1_3)) else (z8.j0 k true a0_0 a0_1 l0_2 l0_3 a1_0 a1_1 l1_2 l1_3)) else (z8.j0 k true a0_0 a0_1 l0_2 l0_3 a1_0 a1_1 l1_2 l1_3)
end
def z8.T6:Bool × List (List Nat × List Nat):=(true,[([],[]),([0],[0]),([],[]),([1,2],[1,2]),([3],[3]),([],[]),([5],[5]),([],[]),([6,7],[6,7]),([8],[8]),([4,9],[4,9])])
def z8.B6:List Nat:=[0,1,0,7,15,0,32,0,224,480,1023]
theorem z8.tab6:ZY .any (opsOf Tryz.f10 6)=z8.T6:=by kernel_rfl
theorem z8.zJj:kP z8.T6.2 z8.B6=true:=by kernel_rfl
def z8.T11:Bool × List (List Nat × List Nat):=(true,[([],[]),([0],[0]),([],[]),([1,2],[1,2]),([3],[3]),([],[]),([5],[5]),([],[]),([6,7],[6,7]),([8],[8]),([4,9],[4,9]),([10],[10])])
def z8.B11:List Nat:=[0,1,0,7,15,0,32,0,224,480,1023,2047]
theorem z8.zKo:ZY .any (opsOf Tryz.f10 11)=z8.T11:=by kernel_rfl
theorem z8.zFo:kP z8.T11.2 z8.B11=true:=by kernel_rfl
theorem z8.calls (k:Nat):∀ (a0_0:Int) (a0_1:ByteArray) (A0_2:Option Addr) (c0_2:Nat) (l0_2:List ByteArray) (A0_3:Option Addr) (c0_3:Nat) (l0_3:List (S25)) (a1_0:Int) (a1_1:ByteArray) (A1_2:Option Addr) (c1_2:Nat) (l1_2:List ByteArray) (A1_3:Option Addr) (c1_3:Nat) (l1_3:List (S25)) (r:Bool) (w:World) (hr0_2:Kd.C Kd.string w A0_2 l0_2.length l0_2) (hc0_2:l0_2.length≤c0_2) (hr0_3:Kd.C k25 w A0_3 l0_3.length l0_3) (hc0_3:l0_3.length≤c0_3) (hr1_2:Kd.C Kd.string w A1_2 l1_2.length l1_2) (hc1_2:l1_2.length≤c1_2) (hr1_3:Kd.C k25 w A1_3 l1_3.length l1_3) (hc1_3:l1_3.length≤c1_3) (h:z8.f k a0_0 a0_1 l0_2 l0_3 a1_0 a1_1 l1_2 l1_3=some r),
  Calls Tryz.prog 10 #[.agg #[.int .i64 a0_0, .string a0_1, .slice A0_2 l0_2.length c0_2, .slice A0_3 l0_3.length c0_3], .agg #[.int .i64 a1_0, .string a1_1, .slice A1_2 l1_2.length c1_2, .slice A1_3 l1_3.length c1_3]] w fun e w'=>e = .returned (.bool r)∧Below w.heap.size w w':=by
 induction k using Nat.strongRecOn with
 | _ k ih =>
 intro a0_0 a0_1 A0_2 c0_2 l0_2 A0_3 c0_3 l0_3 a1_0 a1_1 A1_2 c1_2 l1_2 A1_3 c1_3 l1_3 r w hr0_2 hc0_2 hr0_3 hc0_3 hr1_2 hc1_2 hr1_3 hc1_3 h
 cases k with
 | zero=>exact absurd h (by simp [z8.f])
 | succ k =>
 simp only [z8.f] at h
 have hu25:=Tryz.underlying25
 have HR0_2:=zA.mk hr0_2
 have HC0_2:=zA.mk hc0_2
 clear hr0_2 hc0_2
 have HR0_3:=zA.mk hr0_3
 have HC0_3:=zA.mk hc0_3
 clear hr0_3 hc0_3
 have HR1_2:=zA.mk hr1_2
 have HC1_2:=zA.mk hc1_2
 clear hr1_2 hc1_2
 have HR1_3:=zA.mk hr1_3
 have HC1_3:=zA.mk hc1_3
 clear hr1_3 hc1_3
 have HB:=zA.mk (Below.refl w.heap.size w)
 have H:(if a0_0=a1_0 then (if a0_1.toList=a1_1.toList then (if (l0_2.length:Int)=(l1_2.length:Int) then (z8.j0 k ((l0_3.length:Int) != (l1_3.length:Int)) a0_0 a0_1 l0_2 l0_3 a1_0 a1_1 l1_2 l1_3) else (z8.j0 k true a0_0 a0_1 l0_2 l0_3 a1_0 a1_1 l1_2 l1_3)) else (z8.j0 k true a0_0 a0_1 l0_2 l0_3 a1_0 a1_1 l1_2 l1_3)) else (z8.j0 k true a0_0 a0_1 l0_2 l0_3 a1_0 a1_1 l1_2 l1_3))=some r:=h
 clear h
 have HC3:=zA.mk H
 clear H
 go_enter Tryz.func10,Tryz.ntmps10
 go_upto_region 1 with (first|((with_reducible refine jB (N:=2) rfl ?_);(try (refine V5 (by rfl) ?_;dsimp only));refine jS ?hg (N:=2) ?hd (cs:=#[.int .i64 a0_0, .string a0_1, .slice A0_2 l0_2.length c0_2, .slice A0_3 l0_3.length c0_3]) (t:=25) ?hr ?_;(case hd=>rfl);(case hg=>rfl);(case hr=>first|(go_simp;done)|(go_simp;rfl));intro gb386 hg w4 hbox hb;have n0_:=zA.mk (vB yS hb);have n1_:=zA.mk (hbox);have n2_:=zA.mk ((by rw [hg];exact(xB yS):w.heap.size≤gb386));have n3_:=zA.mk ((by rw [hg];exact(xB yS):w.heap.size≤gb386));clear HB;have HB:=n0_;have BK386:=n1_;have GW386:=n2_;have GE386:=n3_;clear n0_ n1_ n2_ n3_;clear hb hbox hg)|((with_reducible refine jB (N:=3) rfl ?_);(try (refine V5 (by rfl) ?_;dsimp only));refine jS ?hg (N:=3) ?hd (cs:=#[.int .i64 a1_0, .string a1_1, .slice A1_2 l1_2.length c1_2, .slice A1_3 l1_3.length c1_3]) (t:=25) ?hr ?_;(case hd=>rfl);(case hg=>rfl);(case hr=>first|(go_simp;done)|(go_simp;rfl));intro gb387 hg w5 hbox hb;have n0_:=zA.mk (xF (g:=gb386) (o := .cells #[.int .i64 a0_0, .string a0_1, .slice A0_2 l0_2.length c0_2, .slice A0_3 l0_3.length c0_3] 25 (0,0)) W7 hb);have n1_:=zA.mk (vB Zq75 hb);have n2_:=zA.mk (hbox);have n3_:=zA.mk ((by rw [hg];exact(xB Zq75):w.heap.size≤gb387));have n4_:=zA.mk ((by rw [hg];exact(xB Zq75):w.heap.size≤gb387));have n5_:=zA.mk ((by rw [hg];exact Nat.ne_of_lt (xW (g:=gb386) (o := .cells #[.int .i64 a0_0, .string a0_1, .slice A0_2 l0_2.length c0_2, .slice A0_3 l0_3.length c0_3] 25 (0,0)) W7):gb386≠gb387));have n6_:=zA.mk ((by rw [hg];exact Nat.ne_of_gt (xW (g:=gb386) (o := .cells #[.int .i64 a0_0, .string a0_1, .slice A0_2 l0_2.length c0_2, .slice A0_3 l0_3.length c0_3] 25 (0,0)) W7):gb387≠gb386));clear BK386;clear HB;have BK386:=n0_;have HB:=n1_;have BK387:=n2_;have GW387:=n3_;have GE387:=n4_;have NB386_387:=n5_;have NB387_386:=n6_;clear n0_ n1_ n2_ n3_ n4_ n5_ n6_;clear hb hbox hg))
 (try simp only [Act.put,List.setIfInBounds_toArray,List.set_cons_zero,List.set_cons_succ])
 go_cut [36] (fun v36 wc=>∃ (kq:Nat) (x36_2:Bool),v36 = .bool x36_2∧zA (z8.j0 kq x36_2 a0_0 a0_1 l0_2 l0_3 a1_0 a1_1 l1_2 l1_3=some r)∧zA (kq≤k)∧zA (wc.heap[gb386]?=some (.cells #[.int .i64 a0_0, .string a0_1,(.slice A0_2 l0_2.length c0_2),(.slice A0_3 l0_3.length c0_3)] 25 (0,0)))∧zA (wc.heap[gb387]?=some (.cells #[.int .i64 a1_0, .string a1_1,(.slice A1_2 l1_2.length c1_2),(.slice A1_3 l1_3.length c1_3)] 25 (0,0)))∧zA (Below w.heap.size w wc))
 case first =>
  have H:=HC3.out
  clear HC3
  by_cases c6:a0_0=a1_0
  ·
   rw [if_pos c6] at H
   have c6b0:(a0_0 == a1_0)=true:=beq_iff_eq.mpr c6
   have c6b1:(a0_0 != a1_0)=false:=bne_eq_false_iff_eq.mpr c6
   clear c6
   (first|rw [c6b0]|(simp only [z6,z7];rw [c6b0])|skip)
   by_cases c7:a0_1.toList=a1_1.toList
   ·
    rw [if_pos c7] at H
    have c7b0:(a0_1.toList == a1_1.toList)=true:=beq_iff_eq.mpr c7
    have c7b1:(a0_1.toList != a1_1.toList)=false:=bne_eq_false_iff_eq.mpr c7
    clear c7
    by_cases c8:(l0_2.length:Int)=(l1_2.length:Int)
    ·
     rw [if_pos c8] at H
     have c8b0:((l0_2.length:Int) == (l1_2.length:Int))=true:=beq_iff_eq.mpr c8
     have c8b1:((l0_2.length:Int) != (l1_2.length:Int))=false:=bne_eq_false_iff_eq.mpr c8
     have c8b2:(l0_2.length == l1_2.length)=true:=by first|simpa using c8|(simp at c8 ⊢;omega)
     clear c8
     as_aux_lemma =>
      have H':=zA.mk H
      clear H
      have hnb9:=NB386_387.out
      have hnc9:=NB387_386.out
      have hcz10_0:w5.cell? ⟨gb386,0,none⟩=some (.int .i64 a0_0):=(zB BK386.out 0).trans rfl
      have hcz10_1:w5.cell? ⟨gb386,1,none⟩=some (.string a0_1):=(zB BK386.out 1).trans rfl
      have hcz10_2:w5.cell? ⟨gb386,2,none⟩=some (.slice A0_2 l0_2.length c0_2):=(zB BK386.out 2).trans rfl
      have hcz10_3:w5.cell? ⟨gb386,3,none⟩=some (.slice A0_3 l0_3.length c0_3):=(zB BK386.out 3).trans rfl
      have hfz10_0:=zC BK386.out 0
      have hfz10_1:=zC BK386.out 1
      have hfz10_2:=zC BK386.out 2
      have hfz10_3:=zC BK386.out 3
      have hcz11_0:w5.cell? ⟨gb387,0,none⟩=some (.int .i64 a1_0):=(zB BK387.out 0).trans rfl
      have hcz11_1:w5.cell? ⟨gb387,1,none⟩=some (.string a1_1):=(zB BK387.out 1).trans rfl
      have hcz11_2:w5.cell? ⟨gb387,2,none⟩=some (.slice A1_2 l1_2.length c1_2):=(zB BK387.out 2).trans rfl
      have hcz11_3:w5.cell? ⟨gb387,3,none⟩=some (.slice A1_3 l1_3.length c1_3):=(zB BK387.out 3).trans rfl
      have hfz11_0:=zC BK387.out 0
      have hfz11_1:=zC BK387.out 1
      have hfz11_2:=zC BK387.out 2
      have hfz11_3:=zC BK387.out 3
      go_wp2
      go_meet
      case rel=>exact⟨_,(((l0_3.length:Int) != (l1_3.length:Int))),vU,H',⟨uJ⟩,⟨W7⟩,⟨zDn⟩,⟨K0⟩⟩
    ·
     rw [if_neg c8] at H
     have c8b0:((l0_2.length:Int) == (l1_2.length:Int))=false:=beq_eq_false_iff_ne.mpr c8
     have c8b1:((l0_2.length:Int) != (l1_2.length:Int))=true:=bne_iff_ne.mpr c8
     have c8b2:(l0_2.length == l1_2.length)=false:=by first|simpa using c8|(simp at c8 ⊢;omega)
     as_aux_lemma =>
      have H':=zA.mk H
      clear H
      have hnb12:=NB386_387.out
      have hnc12:=NB387_386.out
      have hcz13_0:w5.cell? ⟨gb386,0,none⟩=some (.int .i64 a0_0):=(zB BK386.out 0).trans rfl
      have hcz13_1:w5.cell? ⟨gb386,1,none⟩=some (.string a0_1):=(zB BK386.out 1).trans rfl
      have hcz13_2:w5.cell? ⟨gb386,2,none⟩=some (.slice A0_2 l0_2.length c0_2):=(zB BK386.out 2).trans rfl
      have hcz13_3:w5.cell? ⟨gb386,3,none⟩=some (.slice A0_3 l0_3.length c0_3):=(zB BK386.out 3).trans rfl
      have hfz13_0:=zC BK386.out 0
      have hfz13_1:=zC BK386.out 1
      have hfz13_2:=zC BK386.out 2
      have hfz13_3:=zC BK386.out 3
      have hcz14_0:w5.cell? ⟨gb387,0,none⟩=some (.int .i64 a1_0):=(zB BK387.out 0).trans rfl
      have hcz14_1:w5.cell? ⟨gb387,1,none⟩=some (.string a1_1):=(zB BK387.out 1).trans rfl
      have hcz14_2:w5.cell? ⟨gb387,2,none⟩=some (.slice A1_2 l1_2.length c1_2):=(zB BK387.out 2).trans rfl
      have hcz14_3:w5.cell? ⟨gb387,3,none⟩=some (.slice A1_3 l1_3.length c1_3):=(zB BK387.out 3).trans rfl
      have hfz14_0:=zC BK387.out 0
      have hfz14_1:=zC BK387.out 1
      have hfz14_2:=zC BK387.out 2
      have hfz14_3:=zC BK387.out 3
      go_wp2
      go_meet
      case rel=>exact⟨_,(true),vU,H',⟨uJ⟩,⟨W7⟩,⟨zDn⟩,⟨K0⟩⟩
   ·
    rw [if_neg c7] at H
    have c7b0:(a0_1.toList == a1_1.toList)=false:=beq_eq_false_iff_ne.mpr c7
    have c7b1:(a0_1.toList != a1_1.toList)=true:=bne_iff_ne.mpr c7
    as_aux_lemma =>
     have H':=zA.mk H
     clear H
     have hnb15:=NB386_387.out
     have hnc15:=NB387_386.out
     have hcz16_0:w5.cell? ⟨gb386,0,none⟩=some (.int .i64 a0_0):=(zB BK386.out 0).trans rfl
     have hcz16_1:w5.cell? ⟨gb386,1,none⟩=some (.string a0_1):=(zB BK386.out 1).trans rfl
     have hcz16_2:w5.cell? ⟨gb386,2,none⟩=some (.slice A0_2 l0_2.length c0_2):=(zB BK386.out 2).trans rfl
     have hcz16_3:w5.cell? ⟨gb386,3,none⟩=some (.slice A0_3 l0_3.length c0_3):=(zB BK386.out 3).trans rfl
     have hfz16_0:=zC BK386.out 0
     have hfz16_1:=zC BK386.out 1
     have hfz16_2:=zC BK386.out 2
     have hfz16_3:=zC BK386.out 3
     have hcz17_0:w5.cell? ⟨gb387,0,none⟩=some (.int .i64 a1_0):=(zB BK387.out 0).trans rfl
     have hcz17_1:w5.cell? ⟨gb387,1,none⟩=some (.string a1_1):=(zB BK387.out 1).trans rfl
     have hcz17_2:w5.cell? ⟨gb387,2,none⟩=some (.slice A1_2 l1_2.length c1_2):=(zB BK387.out 2).trans rfl
     have hcz17_3:w5.cell? ⟨gb387,3,none⟩=some (.slice A1_3 l1_3.length c1_3):=(zB BK387.out 3).trans rfl
     have hfz17_0:=zC BK387.out 0
     have hfz17_1:=zC BK387.out 1
     have hfz17_2:=zC BK387.out 2
     have hfz17_3:=zC BK387.out 3
     go_wp2
     go_meet
     case rel=>exact⟨_,(true),vU,H',⟨uJ⟩,⟨W7⟩,⟨zDn⟩,⟨K0⟩⟩
  ·
   rw [if_neg c6] at H
   have c6b0:(a0_0 == a1_0)=false:=beq_eq_false_iff_ne.mpr c6
   have c6b1:(a0_0 != a1_0)=true:=bne_iff_ne.mpr c6
   (first|rw [c6b0]|(simp only [z6,z7];rw [c6b0])|skip)
   as_aux_lemma =>
    have H':=zA.mk H
    clear H
    have hnb18:=NB386_387.out
    have hnc18:=NB387_386.out
    have hcz19_0:w5.cell? ⟨gb386,0,none⟩=some (.int .i64 a0_0):=(zB BK386.out 0).trans rfl
    have hcz19_1:w5.cell? ⟨gb386,1,none⟩=some (.string a0_1):=(zB BK386.out 1).trans rfl
    have hcz19_2:w5.cell? ⟨gb386,2,none⟩=some (.slice A0_2 l0_2.length c0_2):=(zB BK386.out 2).trans rfl
    have hcz19_3:w5.cell? ⟨gb386,3,none⟩=some (.slice A0_3 l0_3.length c0_3):=(zB BK386.out 3).trans rfl
    have hfz19_0:=zC BK386.out 0
    have hfz19_1:=zC BK386.out 1
    have hfz19_2:=zC BK386.out 2
    have hfz19_3:=zC BK386.out 3
    have hcz20_0:w5.cell? ⟨gb387,0,none⟩=some (.int .i64 a1_0):=(zB BK387.out 0).trans rfl
    have hcz20_1:w5.cell? ⟨gb387,1,none⟩=some (.string a1_1):=(zB BK387.out 1).trans rfl
    have hcz20_2:w5.cell? ⟨gb387,2,none⟩=some (.slice A1_2 l1_2.length c1_2):=(zB BK387.out 2).trans rfl
    have hcz20_3:w5.cell? ⟨gb387,3,none⟩=some (.slice A1_3 l1_3.length c1_3):=(zB BK387.out 3).trans rfl
    have hfz20_0:=zC BK387.out 0
    have hfz20_1:=zC BK387.out 1
    have hfz20_2:=zC BK387.out 2
    have hfz20_3:=zC BK387.out 3
    go_wp2
    go_meet
    case rel=>exact⟨_,(true),vU,H',⟨uJ⟩,⟨W7⟩,⟨zDn⟩,⟨K0⟩⟩
 case rest =>
  clear HC3
  try clear c1
  try clear p2
  try clear c6
  try clear c6b0
  try clear c6b1
  try clear c7
  try clear c7b0
  try clear c7b1
  try clear c8
  try clear c8b0
  try clear c8b1
  try clear c8b2
  try clear c9
  try clear c10
  try clear c12
  try clear c15
  try clear c18
  try clear hcz10_0
  try clear hcz10_1
  try clear hcz10_2
  try clear hcz10_3
  try clear hcz11_0
  try clear hcz11_1
  try clear hcz11_2
  try clear hcz11_3
  try clear hcz13_0
  try clear hcz13_1
  try clear hcz13_2
  try clear hcz13_3
  try clear hcz14_0
  try clear hcz14_1
  try clear hcz14_2
  try clear hcz14_3
  try clear hcz16_0
  try clear hcz16_1
  try clear hcz16_2
  try clear hcz16_3
  try clear hcz17_0
  try clear hcz17_1
  try clear hcz17_2
  try clear hcz17_3
  try clear hcz19_0
  try clear hcz19_1
  try clear hcz19_2
  try clear hcz19_3
  try clear hcz20_0
  try clear hcz20_1
  try clear hcz20_2
  try clear hcz20_3
  try clear hfz10_0
  try clear hfz10_1
  try clear hfz10_2
  try clear hfz10_3
  try clear hfz11_0
  try clear hfz11_1
  try clear hfz11_2
  try clear hfz11_3
  try clear hfz13_0
  try clear hfz13_1
  try clear hfz13_2
  try clear hfz13_3
  try clear hfz14_0
  try clear hfz14_1
  try clear hfz14_2
  try clear hfz14_3
  try clear hfz16_0
  try clear hfz16_1
  try clear hfz16_2
  try clear hfz16_3
  try clear hfz17_0
  try clear hfz17_1
  try clear hfz17_2
  try clear hfz17_3
  try clear hfz19_0
  try clear hfz19_1
  try clear hfz19_2
  try clear hfz19_3
  try clear hfz20_0
  try clear hfz20_1
  try clear hfz20_2
  try clear hfz20_3
  obtain⟨kq,x36_2,rfl,HA,HJ2,BK386,BK387,HB⟩:=hcut
  cases kq with
  | zero=>exact absurd HA.out (by simp [z8.j0])
  | succ kj2 =>
   have H:=HA.out
   clear HA
   simp only [z8.j0] at H
   by_cases c21:x36_2=true
   ·
    subst c21
    rw [if_pos rfl] at H
    as_aux_lemma =>
     obtain rfl:=Option.some.inj H
     go_wp2
     go_ret
     exact⟨qW,K0⟩
   ·
    replace c21:=Bool.eq_false_iff.mpr c21
    subst c21
    rw [if_neg (show ¬ (false=true) by decide)] at H
    have H':=zA.mk H
    clear H
    go_wp2
    (try simp only [Act.put,List.setIfInBounds_toArray,List.set_cons_succ,List.set_cons_zero])
    go_loopg [5] kj2 (fun kq v5 w'=>∃ (x5_2:Int),v5 = .int .i64 x5_2∧zA (z8.l0 kq x5_2 a0_0 a0_1 l0_2 l0_3 a1_0 a1_1 l1_2 l1_3=some r)∧zA (kq≤kj2)∧zA (w'.heap[gb386]?=some (.cells #[.int .i64 a0_0, .string a0_1,(.slice A0_2 l0_2.length c0_2),(.slice A0_3 l0_3.length c0_3)] 25 (0,0)))∧zA (w'.heap[gb387]?=some (.cells #[.int .i64 a1_0, .string a1_1,(.slice A1_2 l1_2.length c1_2),(.slice A1_3 l1_3.length c1_3)] 25 (0,0)))∧zA (Below w.heap.size w w'))
    case atStart=>exact⟨(0),vU,H',⟨Nat.le_refl _⟩,⟨W7⟩,⟨zDn⟩,⟨K0⟩⟩
    case round =>
     clear H'
     try clear c1
     try clear c2
     try clear p2
     try clear c6
     try clear c6b0
     try clear c6b1
     try clear c7
     try clear c7b0
     try clear c7b1
     try clear c8
     try clear c8b0
     try clear c8b1
     try clear c8b2
     try clear c9
     try clear c10
     try clear c12
     try clear c15
     try clear c18
     try clear c21
     try clear hcz10_0
     try clear hcz10_1
     try clear hcz10_2
     try clear hcz10_3
     try clear hcz11_0
     try clear hcz11_1
     try clear hcz11_2
     try clear hcz11_3
     try clear hcz13_0
     try clear hcz13_1
     try clear hcz13_2
     try clear hcz13_3
     try clear hcz14_0
     try clear hcz14_1
     try clear hcz14_2
     try clear hcz14_3
     try clear hcz16_0
     try clear hcz16_1
     try clear hcz16_2
     try clear hcz16_3
     try clear hcz17_0
     try clear hcz17_1
     try clear hcz17_2
     try clear hcz17_3
     try clear hcz19_0
     try clear hcz19_1
     try clear hcz19_2
     try clear hcz19_3
     try clear hcz20_0
     try clear hcz20_1
     try clear hcz20_2
     try clear hcz20_3
     try clear hfz10_0
     try clear hfz10_1
     try clear hfz10_2
     try clear hfz10_3
     try clear hfz11_0
     try clear hfz11_1
     try clear hfz11_2
     try clear hfz11_3
     try clear hfz13_0
     try clear hfz13_1
     try clear hfz13_2
     try clear hfz13_3
     try clear hfz14_0
     try clear hfz14_1
     try clear hfz14_2
     try clear hfz14_3
     try clear hfz16_0
     try clear hfz16_1
     try clear hfz16_2
     try clear hfz16_3
     try clear hfz17_0
     try clear hfz17_1
     try clear hfz17_2
     try clear hfz17_3
     try clear hfz19_0
     try clear hfz19_1
     try clear hfz19_2
     try clear hfz19_3
     try clear hfz20_0
     try clear hfz20_1
     try clear hfz20_2
     try clear hfz20_3
     try clear p2
     obtain⟨x5_2,rfl,HA,HK2,BK386,BK387,HB⟩:=hrel
     cases gk with
     | zero=>exact absurd HA.out (by simp [z8.l0])
     | succ k2 =>
      have H:=HA.out
      clear HA
      simp only [z8.l0] at H
      by_cases c22:x5_2 < (l0_2.length:Int)
      ·
       rw [if_pos c22] at H
       have c22b0:decide (x5_2 < (l0_2.length:Int))=true:=decide_eq_true c22
       clear c22
       by_cases c23:0≤x5_2
       ·
        rw [if_pos c23] at H
        have c23b0:decide (0≤x5_2)=true:=decide_eq_true c23
        clear c23
        by_cases c24:x5_2 < (l1_2.length:Int)
        ·
         rw [if_pos c24] at H
         have c24b0:decide (x5_2 < (l1_2.length:Int))=true:=decide_eq_true c24
         clear c24
         by_cases c25:(kX ByteArray.empty l0_2 x5_2).toList=(kX ByteArray.empty l1_2 x5_2).toList
         ·
          rw [if_pos c25] at H
          have c25b0:((kX ByteArray.empty l0_2 x5_2).toList == (kX ByteArray.empty l1_2 x5_2).toList)=true:=beq_iff_eq.mpr c25
          have c25b1:((kX ByteArray.empty l0_2 x5_2).toList != (kX ByteArray.empty l1_2 x5_2).toList)=false:=bne_eq_false_iff_eq.mpr c25
          clear c25
          as_aux_lemma =>
           have H':=zA.mk H
           clear H
           have hnb26:=NB386_387.out
           have hnc26:=NB387_386.out
           have hcz27_0:wr.cell? ⟨gb386,0,none⟩=some (.int .i64 a0_0):=(zB BK386.out 0).trans rfl
           have hcz27_1:wr.cell? ⟨gb386,1,none⟩=some (.string a0_1):=(zB BK386.out 1).trans rfl
           have hcz27_2:wr.cell? ⟨gb386,2,none⟩=some (.slice A0_2 l0_2.length c0_2):=(zB BK386.out 2).trans rfl
           have hcz27_3:wr.cell? ⟨gb386,3,none⟩=some (.slice A0_3 l0_3.length c0_3):=(zB BK386.out 3).trans rfl
           have hfz27_0:=zC BK386.out 0
           have hfz27_1:=zC BK386.out 1
           have hfz27_2:=zC BK386.out 2
           have hfz27_3:=zC BK386.out 3
           try go_wp2
           have n0_:=zA.mk (zI BK386.out)
           have n1_:=zA.mk (zI BK387.out)
           have n2_:=zA.mk (zJ HB.out)
           clear BK386
           clear BK387
           clear HB
           have BK386:=n0_
           have BK387:=n1_
           have HB:=n2_
           clear n0_ n1_ n2_
           have p388:0≤(x5_2:Int):=of_decide_eq_true jC
           have q388:x5_2 < (l0_2.length:Int):=of_decide_eq_true jC
           obtain⟨ad388,e388,hx388_0⟩:=Kd.yL HR0_2.out x5_2 p388 q388
           have hw388_0:=hx388_0
           cases e388
           replace hx388_0:=(HB.out.cell (World.block_lt_of_cell? w _ hx388_0)).trans hx388_0
           replace p388:=eq_true p388
           replace q388:=eq_true q388
           have p389:0≤(x5_2:Int):=of_decide_eq_true jC
           have q389:x5_2 < (l1_2.length:Int):=of_decide_eq_true jC
           obtain⟨ad389,e389,hx389_0⟩:=Kd.yL HR1_2.out x5_2 p389 q389
           have hw389_0:=hx389_0
           cases e389
           replace hx389_0:=(HB.out.cell (World.block_lt_of_cell? w _ hx389_0)).trans hx389_0
           replace p389:=eq_true p389
           replace q389:=eq_true q389
           refine kV (n:=11) (S:=fun w'=>w'.cell? ⟨gb386,0,none⟩=some (.int .i64 a0_0)∧w'.cell? ⟨gb386,1,none⟩=some (.string a0_1)∧w'.cell? ⟨gb386,2,none⟩=some (.slice (some ad388) l0_2.length c0_2)∧w'.cell? ⟨gb386,3,none⟩=some (.slice A0_3 l0_3.length c0_3)∧w'.cell? ⟨gb387,0,none⟩=some (.int .i64 a1_0)∧w'.cell? ⟨gb387,1,none⟩=some (.string a1_1)∧w'.cell? ⟨gb387,2,none⟩=some (.slice (some ad389) l1_2.length c1_2)∧w'.cell? ⟨gb387,3,none⟩=some (.slice A1_3 l1_3.length c1_3)∧w'.cell? (ad388.add (x5_2).toNat)=some (.string (kX ByteArray.empty l0_2 x5_2))∧w'.cell? (ad389.add (x5_2).toNat)=some (.string (kX ByteArray.empty l1_2 x5_2))) (ds:=[]) #[false,false,false,false,false,false,false,false,false,false,false] (by kernel_rfl) rfl rfl ⟨(zB BK386.out 0).trans rfl,(zB BK386.out 1).trans rfl,(zB BK386.out 2).trans rfl,(zB BK386.out 3).trans rfl,(zB BK387.out 0).trans rfl,(zB BK387.out 1).trans rfl,(zB BK387.out 2).trans rfl,(zB BK387.out 3).trans rfl,((HB.out.cell (World.block_lt_of_cell? w _ hw388_0)).trans hw388_0),((HB.out.cell (World.block_lt_of_cell? w _ hw389_0)).trans hw389_0)⟩ (fun hHeld=>?_);refine yM z8.tab6 z8.zJj (fun HT_ HW_=>?_)
           generalize wr.drew=w28 at BK386 BK387 HB hx388_0 hx389_0 hHeld ⊢
           refine xP (i:=0) (N:=some 44) (v:=?_) (a':=?_) #[true,false,false,false,false,false,false,false,false,false,false] rfl rfl (vD HT_.out (by kernel_rfl)) (fun _ _ _ h=>h) (Or.inl ⟨by rfl,?_⟩) ?_ ?_
           rotate_left
           ·
            intro w'
            go_simp
            with_reducible rfl
           rotate_left
           ·
            simp only [Act.put,List.setIfInBounds_toArray,List.set_cons_zero,List.set_cons_succ,z6,z7]
            rfl
           refine xP (i:=2) (N:=some 46) (v:=?_) (a':=?_) #[true,false,true,false,false,false,false,false,false,false,false] rfl rfl (vD HT_.out (by kernel_rfl)) (fun _ _ _ h=>h) (Or.inl ⟨by rfl,?_⟩) ?_ ?_
           rotate_left
           ·
            intro w'
            go_simp
            with_reducible rfl
           rotate_left
           ·
            simp only [Act.put,List.setIfInBounds_toArray,List.set_cons_zero,List.set_cons_succ,z6,z7]
            rfl
           refine xP (i:=5) (N:=some 49) (v:=?_) (a':=?_) #[true,false,true,false,false,true,false,false,false,false,false] rfl rfl (vD HT_.out (by kernel_rfl)) (fun _ _ _ h=>h) (Or.inl ⟨by rfl,?_⟩) ?_ ?_
           rotate_left
           ·
            intro w'
            go_simp
            with_reducible rfl
           rotate_left
           ·
            simp only [Act.put,List.setIfInBounds_toArray,List.set_cons_zero,List.set_cons_succ,z6,z7]
            rfl
           refine xP (i:=7) (N:=some 51) (v:=?_) (a':=?_) #[true,false,true,false,false,true,false,true,false,false,false] rfl rfl (vD HT_.out (by kernel_rfl)) (fun _ _ _ h=>h) (Or.inl ⟨by rfl,?_⟩) ?_ ?_
           rotate_left
           ·
            intro w'
            go_simp
            with_reducible rfl
           rotate_left
           ·
            simp only [Act.put,List.setIfInBounds_toArray,List.set_cons_zero,List.set_cons_succ,z6,z7]
            rfl
           refine jZ (i:=1) (N:=some 45) (v:=?_) (a':=?_) #[true,true,true,false,false,true,false,true,false,false,false] rfl rfl (vH HT_.out HW_.out (by kernel_rfl)) (fun _ _ _ h=>h) (Or.inl ⟨by rfl,?_⟩) hHeld ?_ ?_
           rotate_left
           ·
            rintro w' ⟨s0,s1,s2,s3,s4,s5,s6,s7,s8,s9⟩
            go_simp
            with_reducible rfl
           rotate_left
           ·
            simp only [Act.put,List.setIfInBounds_toArray,List.set_cons_zero,List.set_cons_succ,z6,z7]
            rfl
           refine xP (i:=3) (N:=some 47) (v:=?_) (a':=?_) #[true,true,true,true,false,true,false,true,false,false,false] rfl rfl (vD HT_.out (by kernel_rfl)) (fun _ _ _ h=>h) (Or.inl ⟨by rfl,?_⟩) ?_ ?_
           rotate_left
           ·
            intro w'
            go_simp
            with_reducible rfl
           rotate_left
           ·
            simp only [Act.put,List.setIfInBounds_toArray,List.set_cons_zero,List.set_cons_succ,z6,z7]
            rfl
           refine jZ (i:=4) (N:=some 48) (v:=?_) (a':=?_) #[true,true,true,true,true,true,false,true,false,false,false] rfl rfl (vH HT_.out HW_.out (by kernel_rfl)) (fun _ _ _ h=>h) (Or.inl ⟨by rfl,?_⟩) hHeld ?_ ?_
           rotate_left
           ·
            rintro w' ⟨s0,s1,s2,s3,s4,s5,s6,s7,s8,s9⟩
            go_simp
            with_reducible rfl
           rotate_left
           ·
            simp only [Act.put,List.setIfInBounds_toArray,List.set_cons_zero,List.set_cons_succ,z6,z7]
            rfl
           refine jZ (i:=6) (N:=some 50) (v:=?_) (a':=?_) #[true,true,true,true,true,true,true,true,false,false,false] rfl rfl (vH HT_.out HW_.out (by kernel_rfl)) (fun _ _ _ h=>h) (Or.inl ⟨by rfl,?_⟩) hHeld ?_ ?_
           rotate_left
           ·
            rintro w' ⟨s0,s1,s2,s3,s4,s5,s6,s7,s8,s9⟩
            go_simp
            with_reducible rfl
           rotate_left
           ·
            simp only [Act.put,List.setIfInBounds_toArray,List.set_cons_zero,List.set_cons_succ,z6,z7]
            rfl
           refine xP (i:=8) (N:=some 52) (v:=?_) (a':=?_) #[true,true,true,true,true,true,true,true,true,false,false] rfl rfl (vD HT_.out (by kernel_rfl)) (fun _ _ _ h=>h) (Or.inl ⟨by rfl,?_⟩) ?_ ?_
           rotate_left
           ·
            intro w'
            go_simp
            with_reducible rfl
           rotate_left
           ·
            simp only [Act.put,List.setIfInBounds_toArray,List.set_cons_zero,List.set_cons_succ,z6,z7]
            rfl
           refine jZ (i:=9) (N:=some 53) (v:=?_) (a':=?_) #[true,true,true,true,true,true,true,true,true,true,false] rfl rfl (vH HT_.out HW_.out (by kernel_rfl)) (fun _ _ _ h=>h) (Or.inl ⟨by rfl,?_⟩) hHeld ?_ ?_
           rotate_left
           ·
            rintro w' ⟨s0,s1,s2,s3,s4,s5,s6,s7,s8,s9⟩
            go_simp
            with_reducible rfl
           rotate_left
           ·
            simp only [Act.put,List.setIfInBounds_toArray,List.set_cons_zero,List.set_cons_succ,z6,z7]
            rfl
           refine xP (i:=10) (N:=some 54) (v:=?_) (a':=?_) #[true,true,true,true,true,true,true,true,true,true,true] rfl rfl (vD HT_.out (by kernel_rfl)) (fun _ _ _ h=>h) (Or.inl ⟨by rfl,?_⟩) ?_ ?_
           rotate_left
           ·
            intro w'
            go_simp
            with_reducible rfl
           rotate_left
           ·
            simp only [Act.put,List.setIfInBounds_toArray,List.set_cons_zero,List.set_cons_succ,z6,z7]
            rfl
           refine ZW (wB HT_.out (by kernel_rfl)) ?_
           try go_wp2
           go_roundg k2
           case measure=>have:=HJ2.out;have:=HK2.out;omega
           case rel=>exact⟨(wrap64 (x5_2+1)),vU,H',⟨Zq23⟩,⟨W7⟩,⟨zDn⟩,⟨K0⟩⟩
         ·
          rw [if_neg c25] at H
          have c25b0:((kX ByteArray.empty l0_2 x5_2).toList == (kX ByteArray.empty l1_2 x5_2).toList)=false:=beq_eq_false_iff_ne.mpr c25
          have c25b1:((kX ByteArray.empty l0_2 x5_2).toList != (kX ByteArray.empty l1_2 x5_2).toList)=true:=bne_iff_ne.mpr c25
          as_aux_lemma =>
           obtain rfl:=Option.some.inj H
           have hnb29:=NB386_387.out
           have hnc29:=NB387_386.out
           have hcz30_0:wr.cell? ⟨gb386,0,none⟩=some (.int .i64 a0_0):=(zB BK386.out 0).trans rfl
           have hcz30_1:wr.cell? ⟨gb386,1,none⟩=some (.string a0_1):=(zB BK386.out 1).trans rfl
           have hcz30_2:wr.cell? ⟨gb386,2,none⟩=some (.slice A0_2 l0_2.length c0_2):=(zB BK386.out 2).trans rfl
           have hcz30_3:wr.cell? ⟨gb386,3,none⟩=some (.slice A0_3 l0_3.length c0_3):=(zB BK386.out 3).trans rfl
           have hfz30_0:=zC BK386.out 0
           have hfz30_1:=zC BK386.out 1
           have hfz30_2:=zC BK386.out 2
           have hfz30_3:=zC BK386.out 3
           try go_wp2
           have n0_:=zA.mk (zI BK386.out)
           have n1_:=zA.mk (zI BK387.out)
           have n2_:=zA.mk (zJ HB.out)
           clear BK386
           clear BK387
           clear HB
           have BK386:=n0_
           have BK387:=n1_
           have HB:=n2_
           clear n0_ n1_ n2_
           have p388:0≤(x5_2:Int):=of_decide_eq_true jC
           have q388:x5_2 < (l0_2.length:Int):=of_decide_eq_true jC
           obtain⟨ad388,e388,hx388_0⟩:=Kd.yL HR0_2.out x5_2 p388 q388
           have hw388_0:=hx388_0
           cases e388
           replace hx388_0:=(HB.out.cell (World.block_lt_of_cell? w _ hx388_0)).trans hx388_0
           replace p388:=eq_true p388
           replace q388:=eq_true q388
           have p389:0≤(x5_2:Int):=of_decide_eq_true jC
           have q389:x5_2 < (l1_2.length:Int):=of_decide_eq_true jC
           obtain⟨ad389,e389,hx389_0⟩:=Kd.yL HR1_2.out x5_2 p389 q389
           have hw389_0:=hx389_0
           cases e389
           replace hx389_0:=(HB.out.cell (World.block_lt_of_cell? w _ hx389_0)).trans hx389_0
           replace p389:=eq_true p389
           replace q389:=eq_true q389
           refine kV (n:=11) (S:=fun w'=>w'.cell? ⟨gb386,0,none⟩=some (.int .i64 a0_0)∧w'.cell? ⟨gb386,1,none⟩=some (.string a0_1)∧w'.cell? ⟨gb386,2,none⟩=some (.slice (some ad388) l0_2.length c0_2)∧w'.cell? ⟨gb386,3,none⟩=some (.slice A0_3 l0_3.length c0_3)∧w'.cell? ⟨gb387,0,none⟩=some (.int .i64 a1_0)∧w'.cell? ⟨gb387,1,none⟩=some (.string a1_1)∧w'.cell? ⟨gb387,2,none⟩=some (.slice (some ad389) l1_2.length c1_2)∧w'.cell? ⟨gb387,3,none⟩=some (.slice A1_3 l1_3.length c1_3)∧w'.cell? (ad388.add (x5_2).toNat)=some (.string (kX ByteArray.empty l0_2 x5_2))∧w'.cell? (ad389.add (x5_2).toNat)=some (.string (kX ByteArray.empty l1_2 x5_2))) (ds:=[]) #[false,false,false,false,false,false,false,false,false,false,false] (by kernel_rfl) rfl rfl ⟨(zB BK386.out 0).trans rfl,(zB BK386.out 1).trans rfl,(zB BK386.out 2).trans rfl,(zB BK386.out 3).trans rfl,(zB BK387.out 0).trans rfl,(zB BK387.out 1).trans rfl,(zB BK387.out 2).trans rfl,(zB BK387.out 3).trans rfl,((HB.out.cell (World.block_lt_of_cell? w _ hw388_0)).trans hw388_0),((HB.out.cell (World.block_lt_of_cell? w _ hw389_0)).trans hw389_0)⟩ (fun hHeld=>?_);refine yM z8.tab6 z8.zJj (fun HT_ HW_=>?_)
           generalize wr.drew=w31 at BK386 BK387 HB hx388_0 hx389_0 hHeld ⊢
           refine xP (i:=0) (N:=some 44) (v:=?_) (a':=?_) #[true,false,false,false,false,false,false,false,false,false,false] rfl rfl (vD HT_.out (by kernel_rfl)) (fun _ _ _ h=>h) (Or.inl ⟨by rfl,?_⟩) ?_ ?_
           rotate_left
           ·
            intro w'
            go_simp
            with_reducible rfl
           rotate_left
           ·
            simp only [Act.put,List.setIfInBounds_toArray,List.set_cons_zero,List.set_cons_succ,z6,z7]
            rfl
           refine xP (i:=2) (N:=some 46) (v:=?_) (a':=?_) #[true,false,true,false,false,false,false,false,false,false,false] rfl rfl (vD HT_.out (by kernel_rfl)) (fun _ _ _ h=>h) (Or.inl ⟨by rfl,?_⟩) ?_ ?_
           rotate_left
           ·
            intro w'
            go_simp
            with_reducible rfl
           rotate_left
           ·
            simp only [Act.put,List.setIfInBounds_toArray,List.set_cons_zero,List.set_cons_succ,z6,z7]
            rfl
           refine xP (i:=5) (N:=some 49) (v:=?_) (a':=?_) #[true,false,true,false,false,true,false,false,false,false,false] rfl rfl (vD HT_.out (by kernel_rfl)) (fun _ _ _ h=>h) (Or.inl ⟨by rfl,?_⟩) ?_ ?_
           rotate_left
           ·
            intro w'
            go_simp
            with_reducible rfl
           rotate_left
           ·
            simp only [Act.put,List.setIfInBounds_toArray,List.set_cons_zero,List.set_cons_succ,z6,z7]
            rfl
           refine xP (i:=7) (N:=some 51) (v:=?_) (a':=?_) #[true,false,true,false,false,true,false,true,false,false,false] rfl rfl (vD HT_.out (by kernel_rfl)) (fun _ _ _ h=>h) (Or.inl ⟨by rfl,?_⟩) ?_ ?_
           rotate_left
           ·
            intro w'
            go_simp
            with_reducible rfl
           rotate_left
           ·
            simp only [Act.put,List.setIfInBounds_toArray,List.set_cons_zero,List.set_cons_succ,z6,z7]
            rfl
           refine jZ (i:=1) (N:=some 45) (v:=?_) (a':=?_) #[true,true,true,false,false,true,false,true,false,false,false] rfl rfl (vH HT_.out HW_.out (by kernel_rfl)) (fun _ _ _ h=>h) (Or.inl ⟨by rfl,?_⟩) hHeld ?_ ?_
           rotate_left
           ·
            rintro w' ⟨s0,s1,s2,s3,s4,s5,s6,s7,s8,s9⟩
            go_simp
            with_reducible rfl
           rotate_left
           ·
            simp only [Act.put,List.setIfInBounds_toArray,List.set_cons_zero,List.set_cons_succ,z6,z7]
            rfl
           refine xP (i:=3) (N:=some 47) (v:=?_) (a':=?_) #[true,true,true,true,false,true,false,true,false,false,false] rfl rfl (vD HT_.out (by kernel_rfl)) (fun _ _ _ h=>h) (Or.inl ⟨by rfl,?_⟩) ?_ ?_
           rotate_left
           ·
            intro w'
            go_simp
            with_reducible rfl
           rotate_left
           ·
            simp only [Act.put,List.setIfInBounds_toArray,List.set_cons_zero,List.set_cons_succ,z6,z7]
            rfl
           refine jZ (i:=4) (N:=some 48) (v:=?_) (a':=?_) #[true,true,true,true,true,true,false,true,false,false,false] rfl rfl (vH HT_.out HW_.out (by kernel_rfl)) (fun _ _ _ h=>h) (Or.inl ⟨by rfl,?_⟩) hHeld ?_ ?_
           rotate_left
           ·
            rintro w' ⟨s0,s1,s2,s3,s4,s5,s6,s7,s8,s9⟩
            go_simp
            with_reducible rfl
           rotate_left
           ·
            simp only [Act.put,List.setIfInBounds_toArray,List.set_cons_zero,List.set_cons_succ,z6,z7]
            rfl
           refine jZ (i:=6) (N:=some 50) (v:=?_) (a':=?_) #[true,true,true,true,true,true,true,true,false,false,false] rfl rfl (vH HT_.out HW_.out (by kernel_rfl)) (fun _ _ _ h=>h) (Or.inl ⟨by rfl,?_⟩) hHeld ?_ ?_
           rotate_left
           ·
            rintro w' ⟨s0,s1,s2,s3,s4,s5,s6,s7,s8,s9⟩
            go_simp
            with_reducible rfl
           rotate_left
           ·
            simp only [Act.put,List.setIfInBounds_toArray,List.set_cons_zero,List.set_cons_succ,z6,z7]
            rfl
           refine xP (i:=8) (N:=some 52) (v:=?_) (a':=?_) #[true,true,true,true,true,true,true,true,true,false,false] rfl rfl (vD HT_.out (by kernel_rfl)) (fun _ _ _ h=>h) (Or.inl ⟨by rfl,?_⟩) ?_ ?_
           rotate_left
           ·
            intro w'
            go_simp
            with_reducible rfl
           rotate_left
           ·
            simp only [Act.put,List.setIfInBounds_toArray,List.set_cons_zero,List.set_cons_succ,z6,z7]
            rfl
           refine jZ (i:=9) (N:=some 53) (v:=?_) (a':=?_) #[true,true,true,true,true,true,true,true,true,true,false] rfl rfl (vH HT_.out HW_.out (by kernel_rfl)) (fun _ _ _ h=>h) (Or.inl ⟨by rfl,?_⟩) hHeld ?_ ?_
           rotate_left
           ·
            rintro w' ⟨s0,s1,s2,s3,s4,s5,s6,s7,s8,s9⟩
            go_simp
            with_reducible rfl
           rotate_left
           ·
            simp only [Act.put,List.setIfInBounds_toArray,List.set_cons_zero,List.set_cons_succ,z6,z7]
            rfl
           refine xP (i:=10) (N:=some 54) (v:=?_) (a':=?_) #[true,true,true,true,true,true,true,true,true,true,true] rfl rfl (vD HT_.out (by kernel_rfl)) (fun _ _ _ h=>h) (Or.inl ⟨by rfl,?_⟩) ?_ ?_
           rotate_left
           ·
            intro w'
            go_simp
            with_reducible rfl
           rotate_left
           ·
            simp only [Act.put,List.setIfInBounds_toArray,List.set_cons_zero,List.set_cons_succ,z6,z7]
            rfl
           refine ZW (wB HT_.out (by kernel_rfl)) ?_
           try go_wp2
           go_ret
           exact⟨qW,K0⟩
        ·
         rw [if_neg c24] at H
         exact absurd H (by simp)
       ·
        rw [if_neg c23] at H
        exact absurd H (by simp)
      ·
       rw [if_neg c22] at H
       have c22b0:decide (x5_2 < (l0_2.length:Int))=false:=decide_eq_false c22
       clear c22
       have H':=zA.mk H
       clear H
       have hnb32:=NB386_387.out
       have hnc32:=NB387_386.out
       have hcz33_0:wr.cell? ⟨gb386,0,none⟩=some (.int .i64 a0_0):=(zB BK386.out 0).trans rfl
       have hcz33_1:wr.cell? ⟨gb386,1,none⟩=some (.string a0_1):=(zB BK386.out 1).trans rfl
       have hcz33_2:wr.cell? ⟨gb386,2,none⟩=some (.slice A0_2 l0_2.length c0_2):=(zB BK386.out 2).trans rfl
       have hcz33_3:wr.cell? ⟨gb386,3,none⟩=some (.slice A0_3 l0_3.length c0_3):=(zB BK386.out 3).trans rfl
       have hfz33_0:=zC BK386.out 0
       have hfz33_1:=zC BK386.out 1
       have hfz33_2:=zC BK386.out 2
       have hfz33_3:=zC BK386.out 3
       go_wp2
       (try simp only [Act.put,List.setIfInBounds_toArray,List.set_cons_succ,List.set_cons_zero])
       go_loopg [6] k2 (fun kq v6 w'=>∃ (x6_3:Int),v6 = .int .i64 x6_3∧zA (z8.l1 kq x6_3 a0_0 a0_1 l0_2 l0_3 a1_0 a1_1 l1_2 l1_3=some r)∧zA (kq≤k2)∧zA (w'.heap[gb386]?=some (.cells #[.int .i64 a0_0, .string a0_1,(.slice A0_2 l0_2.length c0_2),(.slice A0_3 l0_3.length c0_3)] 25 (0,0)))∧zA (w'.heap[gb387]?=some (.cells #[.int .i64 a1_0, .string a1_1,(.slice A1_2 l1_2.length c1_2),(.slice A1_3 l1_3.length c1_3)] 25 (0,0)))∧zA (Below w.heap.size w w'))
       case atStart=>exact⟨(0),vU,H',⟨Nat.le_refl _⟩,⟨W7⟩,⟨zDn⟩,⟨K0⟩⟩
       case round =>
        clear H'
        try clear c1
        try clear c2
        try clear p2
        try clear c3
        try clear p3
        try clear q3
        try clear hx3
        try clear c6
        try clear c6b0
        try clear c6b1
        try clear p6
        try clear c7
        try clear c7b0
        try clear c7b1
        try clear c8
        try clear c8b0
        try clear c8b1
        try clear c8b2
        try clear c9
        try clear c10
        try clear c12
        try clear c15
        try clear c18
        try clear c21
        try clear c22
        try clear c22b0
        try clear c23
        try clear c23b0
        try clear c24
        try clear c24b0
        try clear c25
        try clear c25b0
        try clear c25b1
        try clear c26
        try clear c29
        try clear c32
        try clear hcz10_0
        try clear hcz10_1
        try clear hcz10_2
        try clear hcz10_3
        try clear hcz11_0
        try clear hcz11_1
        try clear hcz11_2
        try clear hcz11_3
        try clear hcz13_0
        try clear hcz13_1
        try clear hcz13_2
        try clear hcz13_3
        try clear hcz14_0
        try clear hcz14_1
        try clear hcz14_2
        try clear hcz14_3
        try clear hcz16_0
        try clear hcz16_1
        try clear hcz16_2
        try clear hcz16_3
        try clear hcz17_0
        try clear hcz17_1
        try clear hcz17_2
        try clear hcz17_3
        try clear hcz19_0
        try clear hcz19_1
        try clear hcz19_2
        try clear hcz19_3
        try clear hcz20_0
        try clear hcz20_1
        try clear hcz20_2
        try clear hcz20_3
        try clear hcz27_0
        try clear hcz27_1
        try clear hcz27_2
        try clear hcz27_3
        try clear hcz30_0
        try clear hcz30_1
        try clear hcz30_2
        try clear hcz30_3
        try clear hcz33_0
        try clear hcz33_1
        try clear hcz33_2
        try clear hcz33_3
        try clear hfz10_0
        try clear hfz10_1
        try clear hfz10_2
        try clear hfz10_3
        try clear hfz11_0
        try clear hfz11_1
        try clear hfz11_2
        try clear hfz11_3
        try clear hfz13_0
        try clear hfz13_1
        try clear hfz13_2
        try clear hfz13_3
        try clear hfz14_0
        try clear hfz14_1
        try clear hfz14_2
        try clear hfz14_3
        try clear hfz16_0
        try clear hfz16_1
        try clear hfz16_2
        try clear hfz16_3
        try clear hfz17_0
        try clear hfz17_1
        try clear hfz17_2
        try clear hfz17_3
        try clear hfz19_0
        try clear hfz19_1
        try clear hfz19_2
        try clear hfz19_3
        try clear hfz20_0
        try clear hfz20_1
        try clear hfz20_2
        try clear hfz20_3
        try clear hfz27_0
        try clear hfz27_1
        try clear hfz27_2
        try clear hfz27_3
        try clear hfz30_0
        try clear hfz30_1
        try clear hfz30_2
        try clear hfz30_3
        try clear hfz33_0
        try clear hfz33_1
        try clear hfz33_2
        try clear hfz33_3
        try clear hx388_0
        try clear hx389_0
        try clear p2
        try clear p388
        try clear p389
        try clear q388
        try clear q389
        obtain⟨x6_3,rfl,HA,HK3,BK386,BK387,HB⟩:=hrel
        cases gk with
        | zero=>exact absurd HA.out (by simp [z8.l1])
        | succ k3 =>
         have H:=HA.out
         clear HA
         simp only [z8.l1] at H
         by_cases c34:x6_3 < (l0_3.length:Int)
         ·
          rw [if_pos c34] at H
          have c34b0:decide (x6_3 < (l0_3.length:Int))=true:=decide_eq_true c34
          clear c34
          by_cases c35:0≤x6_3
          ·
           rw [if_pos c35] at H
           have c35b0:decide (0≤x6_3)=true:=decide_eq_true c35
           clear c35
           by_cases c36:x6_3 < (l1_3.length:Int)
           ·
            rw [if_pos c36] at H
            have c36b0:decide (x6_3 < (l1_3.length:Int))=true:=decide_eq_true c36
            clear c36
            replace H:=Option.bind_eq_some_iff.mp H
            obtain⟨t392,A370,H⟩:=H
            try dsimp only at H
            have A37:=zA.mk A370
            clear A370
            by_cases c38:t392=true
            ·
             subst c38
             rw [if_pos rfl] at H
             as_aux_lemma =>
              have H':=zA.mk H
              clear H
              have hnb39:=NB386_387.out
              have hnc39:=NB387_386.out
              have hcz40_0:wr.cell? ⟨gb386,0,none⟩=some (.int .i64 a0_0):=(zB BK386.out 0).trans rfl
              have hcz40_1:wr.cell? ⟨gb386,1,none⟩=some (.string a0_1):=(zB BK386.out 1).trans rfl
              have hcz40_2:wr.cell? ⟨gb386,2,none⟩=some (.slice A0_2 l0_2.length c0_2):=(zB BK386.out 2).trans rfl
              have hcz40_3:wr.cell? ⟨gb386,3,none⟩=some (.slice A0_3 l0_3.length c0_3):=(zB BK386.out 3).trans rfl
              have hfz40_0:=zC BK386.out 0
              have hfz40_1:=zC BK386.out 1
              have hfz40_2:=zC BK386.out 2
              have hfz40_3:=zC BK386.out 3
              try go_wp2
              have n0_:=zA.mk (zI BK386.out)
              have n1_:=zA.mk (zI BK387.out)
              have n2_:=zA.mk (zJ HB.out)
              clear BK386
              clear BK387
              clear HB
              have BK386:=n0_
              have BK387:=n1_
              have HB:=n2_
              clear n0_ n1_ n2_
              have p390:0≤(x6_3:Int):=of_decide_eq_true jC
              have q390:x6_3 < (l0_3.length:Int):=of_decide_eq_true jC
              obtain⟨ad390,A390_2,c390_2,A390_3,c390_3,e390,hx390_0,hx390_1,hx390_2,hx390_3,hl390_2,hi390_2,hl390_3,hi390_3⟩:=VV HR0_3.out x6_3 p390 q390
              have hw390_3:=hx390_3
              have hw390_2:=hx390_2
              have hw390_1:=hx390_1
              have hw390_0:=hx390_0
              cases e390
              replace hx390_0:=(HB.out.cell (World.block_lt_of_cell? w _ hx390_0)).trans hx390_0
              replace hx390_1:=(HB.out.cell (World.block_lt_of_cell? w _ hx390_1)).trans hx390_1
              replace hx390_2:=(HB.out.cell (World.block_lt_of_cell? w _ hx390_2)).trans hx390_2
              replace hx390_3:=(HB.out.cell (World.block_lt_of_cell? w _ hx390_3)).trans hx390_3
              have HR390_2:=zA.mk hi390_2
              have HC390_2:=zA.mk hl390_2
              clear hi390_2 hl390_2
              have HR390_3:=zA.mk hi390_3
              have HC390_3:=zA.mk hl390_3
              clear hi390_3 hl390_3
              replace p390:=eq_true p390
              replace q390:=eq_true q390
              have p391:0≤(x6_3:Int):=of_decide_eq_true jC
              have q391:x6_3 < (l1_3.length:Int):=of_decide_eq_true jC
              obtain⟨ad391,A391_2,c391_2,A391_3,c391_3,e391,hx391_0,hx391_1,hx391_2,hx391_3,hl391_2,hi391_2,hl391_3,hi391_3⟩:=VV HR1_3.out x6_3 p391 q391
              have hw391_3:=hx391_3
              have hw391_2:=hx391_2
              have hw391_1:=hx391_1
              have hw391_0:=hx391_0
              cases e391
              replace hx391_0:=(HB.out.cell (World.block_lt_of_cell? w _ hx391_0)).trans hx391_0
              replace hx391_1:=(HB.out.cell (World.block_lt_of_cell? w _ hx391_1)).trans hx391_1
              replace hx391_2:=(HB.out.cell (World.block_lt_of_cell? w _ hx391_2)).trans hx391_2
              replace hx391_3:=(HB.out.cell (World.block_lt_of_cell? w _ hx391_3)).trans hx391_3
              have HR391_2:=zA.mk hi391_2
              have HC391_2:=zA.mk hl391_2
              clear hi391_2 hl391_2
              have HR391_3:=zA.mk hi391_3
              have HC391_3:=zA.mk hl391_3
              clear hi391_3 hl391_3
              replace p391:=eq_true p391
              replace q391:=eq_true q391
              refine kV (n:=12) (S:=fun w'=>w'.cell? ⟨gb386,0,none⟩=some (.int .i64 a0_0)∧w'.cell? ⟨gb386,1,none⟩=some (.string a0_1)∧w'.cell? ⟨gb386,2,none⟩=some (.slice A0_2 l0_2.length c0_2)∧w'.cell? ⟨gb386,3,none⟩=some (.slice (some ad390) l0_3.length c0_3)∧w'.cell? ⟨gb387,0,none⟩=some (.int .i64 a1_0)∧w'.cell? ⟨gb387,1,none⟩=some (.string a1_1)∧w'.cell? ⟨gb387,2,none⟩=some (.slice A1_2 l1_2.length c1_2)∧w'.cell? ⟨gb387,3,none⟩=some (.slice (some ad391) l1_3.length c1_3)∧w'.cell? (ad390.add ((x6_3).toNat * 4))=some (.int .i64 ((xO l0_3 x6_3).f0))∧w'.cell? ⟨(ad390.add ((x6_3).toNat * 4)).block,(ad390.add ((x6_3).toNat * 4)).off+1,none⟩=some (.string ((xO l0_3 x6_3).f1))∧w'.cell? ⟨(ad390.add ((x6_3).toNat * 4)).block,(ad390.add ((x6_3).toNat * 4)).off+2,none⟩=some (.slice A390_2 ((xO l0_3 x6_3).f2).length c390_2)∧w'.cell? ⟨(ad390.add ((x6_3).toNat * 4)).block,(ad390.add ((x6_3).toNat * 4)).off+3,none⟩=some (.slice A390_3 ((xO l0_3 x6_3).f3).length c390_3)∧w'.cell? (ad391.add ((x6_3).toNat * 4))=some (.int .i64 ((xO l1_3 x6_3).f0))∧w'.cell? ⟨(ad391.add ((x6_3).toNat * 4)).block,(ad391.add ((x6_3).toNat * 4)).off+1,none⟩=some (.string ((xO l1_3 x6_3).f1))∧w'.cell? ⟨(ad391.add ((x6_3).toNat * 4)).block,(ad391.add ((x6_3).toNat * 4)).off+2,none⟩=some (.slice A391_2 ((xO l1_3 x6_3).f2).length c391_2)∧w'.cell? ⟨(ad391.add ((x6_3).toNat * 4)).block,(ad391.add ((x6_3).toNat * 4)).off+3,none⟩=some (.slice A391_3 ((xO l1_3 x6_3).f3).length c391_3)) (ds:=[]) #[false,false,false,false,false,false,false,false,false,false,false,false] (by kernel_rfl) rfl rfl ⟨(zB BK386.out 0).trans rfl,(zB BK386.out 1).trans rfl,(zB BK386.out 2).trans rfl,(zB BK386.out 3).trans rfl,(zB BK387.out 0).trans rfl,(zB BK387.out 1).trans rfl,(zB BK387.out 2).trans rfl,(zB BK387.out 3).trans rfl,((HB.out.cell (World.block_lt_of_cell? w _ hw390_0)).trans hw390_0),((HB.out.cell (World.block_lt_of_cell? w _ hw390_1)).trans hw390_1),((HB.out.cell (World.block_lt_of_cell? w _ hw390_2)).trans hw390_2),((HB.out.cell (World.block_lt_of_cell? w _ hw390_3)).trans hw390_3),((HB.out.cell (World.block_lt_of_cell? w _ hw391_0)).trans hw391_0),((HB.out.cell (World.block_lt_of_cell? w _ hw391_1)).trans hw391_1),((HB.out.cell (World.block_lt_of_cell? w _ hw391_2)).trans hw391_2),((HB.out.cell (World.block_lt_of_cell? w _ hw391_3)).trans hw391_3)⟩ (fun hHeld=>?_);refine yM z8.zKo z8.zFo (fun HT_ HW_=>?_)
              generalize wr.drew=w41 at BK386 BK387 HB HR390_2 HR390_3 HR391_2 HR391_3 hx390_0 hx390_1 hx390_2 hx390_3 hx391_0 hx391_1 hx391_2 hx391_3 hHeld ⊢
              refine xP (i:=0) (N:=some 62) (v:=?_) (a':=?_) #[true,false,false,false,false,false,false,false,false,false,false,false] rfl rfl (vD HT_.out (by kernel_rfl)) (fun _ _ _ h=>h) (Or.inl ⟨by rfl,?_⟩) ?_ ?_
              rotate_left
              ·
               intro w'
               go_simp
               with_reducible rfl
              rotate_left
              ·
               simp only [Act.put,List.setIfInBounds_toArray,List.set_cons_zero,List.set_cons_succ,z6,z7]
               rfl
              refine xP (i:=2) (N:=some 64) (v:=?_) (a':=?_) #[true,false,true,false,false,false,false,false,false,false,false,false] rfl rfl (vD HT_.out (by kernel_rfl)) (fun _ _ _ h=>h) (Or.inl ⟨by rfl,?_⟩) ?_ ?_
              rotate_left
              ·
               intro w'
               go_simp
               with_reducible rfl
              rotate_left
              ·
               simp only [Act.put,List.setIfInBounds_toArray,List.set_cons_zero,List.set_cons_succ,z6,z7]
               rfl
              refine xP (i:=5) (N:=some 67) (v:=?_) (a':=?_) #[true,false,true,false,false,true,false,false,false,false,false,false] rfl rfl (vD HT_.out (by kernel_rfl)) (fun _ _ _ h=>h) (Or.inl ⟨by rfl,?_⟩) ?_ ?_
              rotate_left
              ·
               intro w'
               go_simp
               with_reducible rfl
              rotate_left
              ·
               simp only [Act.put,List.setIfInBounds_toArray,List.set_cons_zero,List.set_cons_succ,z6,z7]
               rfl
              refine xP (i:=7) (N:=some 69) (v:=?_) (a':=?_) #[true,false,true,false,false,true,false,true,false,false,false,false] rfl rfl (vD HT_.out (by kernel_rfl)) (fun _ _ _ h=>h) (Or.inl ⟨by rfl,?_⟩) ?_ ?_
              rotate_left
              ·
               intro w'
               go_simp
               with_reducible rfl
              rotate_left
              ·
               simp only [Act.put,List.setIfInBounds_toArray,List.set_cons_zero,List.set_cons_succ,z6,z7]
               rfl
              refine jZ (i:=1) (N:=some 63) (v:=?_) (a':=?_) #[true,true,true,false,false,true,false,true,false,false,false,false] rfl rfl (vH HT_.out HW_.out (by kernel_rfl)) (fun _ _ _ h=>h) (Or.inl ⟨by rfl,?_⟩) hHeld ?_ ?_
              rotate_left
              ·
               rintro w' ⟨s0,s1,s2,s3,s4,s5,s6,s7,s8,s9,s10,s11,s12,s13,s14,s15⟩
               go_simp
               with_reducible rfl
              rotate_left
              ·
               simp only [Act.put,List.setIfInBounds_toArray,List.set_cons_zero,List.set_cons_succ,z6,z7]
               rfl
              refine xP (i:=3) (N:=some 65) (v:=?_) (a':=?_) #[true,true,true,true,false,true,false,true,false,false,false,false] rfl rfl (vD HT_.out (by kernel_rfl)) (fun _ _ _ h=>h) (Or.inl ⟨by rfl,?_⟩) ?_ ?_
              rotate_left
              ·
               intro w'
               go_simp
               with_reducible rfl
              rotate_left
              ·
               simp only [Act.put,List.setIfInBounds_toArray,List.set_cons_zero,List.set_cons_succ,z6,z7]
               rfl
              refine jZ (i:=4) (N:=some 66) (v:=?_) (a':=?_) #[true,true,true,true,true,true,false,true,false,false,false,false] rfl rfl (vH HT_.out HW_.out (by kernel_rfl)) (fun _ _ _ h=>h) (Or.inl ⟨by rfl,?_⟩) hHeld ?_ ?_
              rotate_left
              ·
               rintro w' ⟨s0,s1,s2,s3,s4,s5,s6,s7,s8,s9,s10,s11,s12,s13,s14,s15⟩
               go_simp
               with_reducible rfl
              rotate_left
              ·
               simp only [Act.put,List.setIfInBounds_toArray,List.set_cons_zero,List.set_cons_succ,z6,z7]
               rfl
              refine jZ (i:=6) (N:=some 68) (v:=?_) (a':=?_) #[true,true,true,true,true,true,true,true,false,false,false,false] rfl rfl (vH HT_.out HW_.out (by kernel_rfl)) (fun _ _ _ h=>h) (Or.inl ⟨by rfl,?_⟩) hHeld ?_ ?_
              rotate_left
              ·
               rintro w' ⟨s0,s1,s2,s3,s4,s5,s6,s7,s8,s9,s10,s11,s12,s13,s14,s15⟩
               go_simp
               with_reducible rfl
              rotate_left
              ·
               simp only [Act.put,List.setIfInBounds_toArray,List.set_cons_zero,List.set_cons_succ,z6,z7]
               rfl
              refine xP (i:=8) (N:=some 70) (v:=?_) (a':=?_) #[true,true,true,true,true,true,true,true,true,false,false,false] rfl rfl (vD HT_.out (by kernel_rfl)) (fun _ _ _ h=>h) (Or.inl ⟨by rfl,?_⟩) ?_ ?_
              rotate_left
              ·
               intro w'
               go_simp
               with_reducible rfl
              rotate_left
              ·
               simp only [Act.put,List.setIfInBounds_toArray,List.set_cons_zero,List.set_cons_succ,z6,z7]
               rfl
              refine jZ (i:=9) (N:=some 71) (v:=?_) (a':=?_) #[true,true,true,true,true,true,true,true,true,true,false,false] rfl rfl (vH HT_.out HW_.out (by kernel_rfl)) (fun _ _ _ h=>h) (Or.inl ⟨by rfl,?_⟩) hHeld ?_ ?_
              rotate_left
              ·
               rintro w' ⟨s0,s1,s2,s3,s4,s5,s6,s7,s8,s9,s10,s11,s12,s13,s14,s15⟩
               go_simp
               with_reducible rfl
              rotate_left
              ·
               simp only [Act.put,List.setIfInBounds_toArray,List.set_cons_zero,List.set_cons_succ,z6,z7]
               rfl
              refine JW (i:=10) (N:=some 72) #[true,true,true,true,true,true,true,true,true,true,true,false] rfl rfl (kT HT_.out (by kernel_rfl)) (by decide) (fun K hK=>?_)
              refine uA Tryz.func10 (by kernel_rfl) rfl #[.agg #[.int .i64 ((xO l0_3 x6_3).f0), .string ((xO l0_3 x6_3).f1), .slice A390_2 ((xO l0_3 x6_3).f2).length c390_2, .slice A390_3 ((xO l0_3 x6_3).f3).length c390_3], .agg #[.int .i64 ((xO l1_3 x6_3).f0), .string ((xO l1_3 x6_3).f1), .slice A391_2 ((xO l1_3 x6_3).f2).length c391_2, .slice A391_3 ((xO l1_3 x6_3).f3).length c391_3]] (by rfl) rfl rfl jI ?_
              with_reducible refine(ih k3 zI9 ((xO l0_3 x6_3).f0) ((xO l0_3 x6_3).f1) _ _ ((xO l0_3 x6_3).f2) _ _ ((xO l0_3 x6_3).f3) ((xO l1_3 x6_3).f0) ((xO l1_3 x6_3).f1) _ _ ((xO l1_3 x6_3).f2) _ _ ((xO l1_3 x6_3).f3) true _ ?side1 ?side2 ?side3 ?side4 ?side5 ?side6 ?side7 ?side8 A37.out).mono ?_
              (case side1=>repeat (first|exact(Kd.vN HR390_2.out HB.out)|(with_reducible refine Kd.vZ ?_ _)|(with_reducible refine Kd.jJ ?_ _)|(with_reducible refine Kd.qM ?_)))
              (case side2=>exact HC390_2.out)
              (case side3=>repeat (first|exact(Kd.vN HR390_3.out HB.out)|(with_reducible refine Kd.vZ ?_ _)|(with_reducible refine Kd.jJ ?_ _)|(with_reducible refine Kd.qM ?_)))
              (case side4=>exact HC390_3.out)
              (case side5=>repeat (first|exact(Kd.vN HR391_2.out HB.out)|(with_reducible refine Kd.vZ ?_ _)|(with_reducible refine Kd.jJ ?_ _)|(with_reducible refine Kd.qM ?_)))
              (case side6=>exact HC391_2.out)
              (case side7=>repeat (first|exact(Kd.vN HR391_3.out HB.out)|(with_reducible refine Kd.vZ ?_ _)|(with_reducible refine Kd.jJ ?_ _)|(with_reducible refine Kd.qM ?_)))
              (case side8=>exact HC391_3.out)
              rintro e w42 ⟨rfl,hb⟩
              refine⟨_,rfl,?_⟩
              have n0_:=zA.mk (xF (g:=gb386) (o := .cells #[.int .i64 a0_0, .string a0_1, .slice A0_2 l0_2.length c0_2, .slice (some ad390) l0_3.length c0_3] 25 (0,0)) W7 hb)
              have n1_:=zA.mk (xF (g:=gb387) (o := .cells #[.int .i64 a1_0, .string a1_1, .slice A1_2 l1_2.length c1_2, .slice (some ad391) l1_3.length c1_3] 25 (0,0)) zDn hb)
              have n2_:=zA.mk (vB K0 hb)
              clear BK386
              clear BK387
              clear HB
              have BK386:=n0_
              have BK387:=n1_
              have HB:=n2_
              clear n0_ n1_ n2_
              (try clear hb)
              (try clear hb2)
              (try clear hk)
              (try clear hi)
              refine hK.out _ _ ⟨(zB BK386.out 0).trans rfl,(zB BK386.out 1).trans rfl,(zB BK386.out 2).trans rfl,(zB BK386.out 3).trans rfl,(zB BK387.out 0).trans rfl,(zB BK387.out 1).trans rfl,(zB BK387.out 2).trans rfl,(zB BK387.out 3).trans rfl,((HB.out.cell (World.block_lt_of_cell? w _ hw390_0)).trans hw390_0),((HB.out.cell (World.block_lt_of_cell? w _ hw390_1)).trans hw390_1),((HB.out.cell (World.block_lt_of_cell? w _ hw390_2)).trans hw390_2),((HB.out.cell (World.block_lt_of_cell? w _ hw390_3)).trans hw390_3),((HB.out.cell (World.block_lt_of_cell? w _ hw391_0)).trans hw391_0),((HB.out.cell (World.block_lt_of_cell? w _ hw391_1)).trans hw391_1),((HB.out.cell (World.block_lt_of_cell? w _ hw391_2)).trans hw391_2),((HB.out.cell (World.block_lt_of_cell? w _ hw391_3)).trans hw391_3)⟩ (fun hHeld=>?_)
              clear hK K
              refine kL (a':=?_) ?_ ?_
              rotate_left
              ·
               show Act.put _ (some 72) _=_
               simp only [Act.put,List.setIfInBounds_toArray,List.set_cons_zero,List.set_cons_succ,z6,z7]
               rfl
              refine xP (i:=11) (N:=some 73) (v:=?_) (a':=?_) #[true,true,true,true,true,true,true,true,true,true,true,true] rfl rfl (vD HT_.out (by kernel_rfl)) (fun _ _ _ h=>h) (Or.inl ⟨by rfl,?_⟩) ?_ ?_
              rotate_left
              ·
               intro w'
               go_simp
               with_reducible rfl
              rotate_left
              ·
               simp only [Act.put,List.setIfInBounds_toArray,List.set_cons_zero,List.set_cons_succ,z6,z7]
               rfl
              refine ZW (wB HT_.out (by kernel_rfl)) ?_
              try go_wp2
              go_roundg k3
              case measure=>have:=HJ2.out;have:=HK2.out;have:=HK3.out;omega
              case rel=>exact⟨(wrap64 (x6_3+1)),vU,H',⟨zI9⟩,⟨W7⟩,⟨zDn⟩,⟨K0⟩⟩
            ·
             replace c38:=Bool.eq_false_iff.mpr c38
             subst c38
             rw [if_neg (show ¬ (false=true) by decide)] at H
             as_aux_lemma =>
              obtain rfl:=Option.some.inj H
              have hnb43:=NB386_387.out
              have hnc43:=NB387_386.out
              have hcz44_0:wr.cell? ⟨gb386,0,none⟩=some (.int .i64 a0_0):=(zB BK386.out 0).trans rfl
              have hcz44_1:wr.cell? ⟨gb386,1,none⟩=some (.string a0_1):=(zB BK386.out 1).trans rfl
              have hcz44_2:wr.cell? ⟨gb386,2,none⟩=some (.slice A0_2 l0_2.length c0_2):=(zB BK386.out 2).trans rfl
              have hcz44_3:wr.cell? ⟨gb386,3,none⟩=some (.slice A0_3 l0_3.length c0_3):=(zB BK386.out 3).trans rfl
              have hfz44_0:=zC BK386.out 0
              have hfz44_1:=zC BK386.out 1
              have hfz44_2:=zC BK386.out 2
              have hfz44_3:=zC BK386.out 3
              try go_wp2
              have n0_:=zA.mk (zI BK386.out)
              have n1_:=zA.mk (zI BK387.out)
              have n2_:=zA.mk (zJ HB.out)
              clear BK386
              clear BK387
              clear HB
              have BK386:=n0_
              have BK387:=n1_
              have HB:=n2_
              clear n0_ n1_ n2_
              have p390:0≤(x6_3:Int):=of_decide_eq_true jC
              have q390:x6_3 < (l0_3.length:Int):=of_decide_eq_true jC
              obtain⟨ad390,A390_2,c390_2,A390_3,c390_3,e390,hx390_0,hx390_1,hx390_2,hx390_3,hl390_2,hi390_2,hl390_3,hi390_3⟩:=VV HR0_3.out x6_3 p390 q390
              have hw390_3:=hx390_3
              have hw390_2:=hx390_2
              have hw390_1:=hx390_1
              have hw390_0:=hx390_0
              cases e390
              replace hx390_0:=(HB.out.cell (World.block_lt_of_cell? w _ hx390_0)).trans hx390_0
              replace hx390_1:=(HB.out.cell (World.block_lt_of_cell? w _ hx390_1)).trans hx390_1
              replace hx390_2:=(HB.out.cell (World.block_lt_of_cell? w _ hx390_2)).trans hx390_2
              replace hx390_3:=(HB.out.cell (World.block_lt_of_cell? w _ hx390_3)).trans hx390_3
              have HR390_2:=zA.mk hi390_2
              have HC390_2:=zA.mk hl390_2
              clear hi390_2 hl390_2
              have HR390_3:=zA.mk hi390_3
              have HC390_3:=zA.mk hl390_3
              clear hi390_3 hl390_3
              replace p390:=eq_true p390
              replace q390:=eq_true q390
              have p391:0≤(x6_3:Int):=of_decide_eq_true jC
              have q391:x6_3 < (l1_3.length:Int):=of_decide_eq_true jC
              obtain⟨ad391,A391_2,c391_2,A391_3,c391_3,e391,hx391_0,hx391_1,hx391_2,hx391_3,hl391_2,hi391_2,hl391_3,hi391_3⟩:=VV HR1_3.out x6_3 p391 q391
              have hw391_3:=hx391_3
              have hw391_2:=hx391_2
              have hw391_1:=hx391_1
              have hw391_0:=hx391_0
              cases e391
              replace hx391_0:=(HB.out.cell (World.block_lt_of_cell? w _ hx391_0)).trans hx391_0
              replace hx391_1:=(HB.out.cell (World.block_lt_of_cell? w _ hx391_1)).trans hx391_1
              replace hx391_2:=(HB.out.cell (World.block_lt_of_cell? w _ hx391_2)).trans hx391_2
              replace hx391_3:=(HB.out.cell (World.block_lt_of_cell? w _ hx391_3)).trans hx391_3
              have HR391_2:=zA.mk hi391_2
              have HC391_2:=zA.mk hl391_2
              clear hi391_2 hl391_2
              have HR391_3:=zA.mk hi391_3
              have HC391_3:=zA.mk hl391_3
              clear hi391_3 hl391_3
              replace p391:=eq_true p391
              replace q391:=eq_true q391
              refine kV (n:=12) (S:=fun w'=>w'.cell? ⟨gb386,0,none⟩=some (.int .i64 a0_0)∧w'.cell? ⟨gb386,1,none⟩=some (.string a0_1)∧w'.cell? ⟨gb386,2,none⟩=some (.slice A0_2 l0_2.length c0_2)∧w'.cell? ⟨gb386,3,none⟩=some (.slice (some ad390) l0_3.length c0_3)∧w'.cell? ⟨gb387,0,none⟩=some (.int .i64 a1_0)∧w'.cell? ⟨gb387,1,none⟩=some (.string a1_1)∧w'.cell? ⟨gb387,2,none⟩=some (.slice A1_2 l1_2.length c1_2)∧w'.cell? ⟨gb387,3,none⟩=some (.slice (some ad391) l1_3.length c1_3)∧w'.cell? (ad390.add ((x6_3).toNat * 4))=some (.int .i64 ((xO l0_3 x6_3).f0))∧w'.cell? ⟨(ad390.add ((x6_3).toNat * 4)).block,(ad390.add ((x6_3).toNat * 4)).off+1,none⟩=some (.string ((xO l0_3 x6_3).f1))∧w'.cell? ⟨(ad390.add ((x6_3).toNat * 4)).block,(ad390.add ((x6_3).toNat * 4)).off+2,none⟩=some (.slice A390_2 ((xO l0_3 x6_3).f2).length c390_2)∧w'.cell? ⟨(ad390.add ((x6_3).toNat * 4)).block,(ad390.add ((x6_3).toNat * 4)).off+3,none⟩=some (.slice A390_3 ((xO l0_3 x6_3).f3).length c390_3)∧w'.cell? (ad391.add ((x6_3).toNat * 4))=some (.int .i64 ((xO l1_3 x6_3).f0))∧w'.cell? ⟨(ad391.add ((x6_3).toNat * 4)).block,(ad391.add ((x6_3).toNat * 4)).off+1,none⟩=some (.string ((xO l1_3 x6_3).f1))∧w'.cell? ⟨(ad391.add ((x6_3).toNat * 4)).block,(ad391.add ((x6_3).toNat * 4)).off+2,none⟩=some (.slice A391_2 ((xO l1_3 x6_3).f2).length c391_2)∧w'.cell? ⟨(ad391.add ((x6_3).toNat * 4)).block,(ad391.add ((x6_3).toNat * 4)).off+3,none⟩=some (.slice A391_3 ((xO l1_3 x6_3).f3).length c391_3)) (ds:=[]) #[false,false,false,false,false,false,false,false,false,false,false,false] (by kernel_rfl) rfl rfl ⟨(zB BK386.out 0).trans rfl,(zB BK386.out 1).trans rfl,(zB BK386.out 2).trans rfl,(zB BK386.out 3).trans rfl,(zB BK387.out 0).trans rfl,(zB BK387.out 1).trans rfl,(zB BK387.out 2).trans rfl,(zB BK387.out 3).trans rfl,((HB.out.cell (World.block_lt_of_cell? w _ hw390_0)).trans hw390_0),((HB.out.cell (World.block_lt_of_cell? w _ hw390_1)).trans hw390_1),((HB.out.cell (World.block_lt_of_cell? w _ hw390_2)).trans hw390_2),((HB.out.cell (World.block_lt_of_cell? w _ hw390_3)).trans hw390_3),((HB.out.cell (World.block_lt_of_cell? w _ hw391_0)).trans hw391_0),((HB.out.cell (World.block_lt_of_cell? w _ hw391_1)).trans hw391_1),((HB.out.cell (World.block_lt_of_cell? w _ hw391_2)).trans hw391_2),((HB.out.cell (World.block_lt_of_cell? w _ hw391_3)).trans hw391_3)⟩ (fun hHeld=>?_);refine yM z8.zKo z8.zFo (fun HT_ HW_=>?_)
              generalize wr.drew=w45 at BK386 BK387 HB HR390_2 HR390_3 HR391_2 HR391_3 hx390_0 hx390_1 hx390_2 hx390_3 hx391_0 hx391_1 hx391_2 hx391_3 hHeld ⊢
              refine xP (i:=0) (N:=some 62) (v:=?_) (a':=?_) #[true,false,false,false,false,false,false,false,false,false,false,false] rfl rfl (vD HT_.out (by kernel_rfl)) (fun _ _ _ h=>h) (Or.inl ⟨by rfl,?_⟩) ?_ ?_
              rotate_left
              ·
               intro w'
               go_simp
               with_reducible rfl
              rotate_left
              ·
               simp only [Act.put,List.setIfInBounds_toArray,List.set_cons_zero,List.set_cons_succ,z6,z7]
               rfl
              refine xP (i:=2) (N:=some 64) (v:=?_) (a':=?_) #[true,false,true,false,false,false,false,false,false,false,false,false] rfl rfl (vD HT_.out (by kernel_rfl)) (fun _ _ _ h=>h) (Or.inl ⟨by rfl,?_⟩) ?_ ?_
              rotate_left
              ·
               intro w'
               go_simp
               with_reducible rfl
              rotate_left
              ·
               simp only [Act.put,List.setIfInBounds_toArray,List.set_cons_zero,List.set_cons_succ,z6,z7]
               rfl
              refine xP (i:=5) (N:=some 67) (v:=?_) (a':=?_) #[true,false,true,false,false,true,false,false,false,false,false,false] rfl rfl (vD HT_.out (by kernel_rfl)) (fun _ _ _ h=>h) (Or.inl ⟨by rfl,?_⟩) ?_ ?_
              rotate_left
              ·
               intro w'
               go_simp
               with_reducible rfl
              rotate_left
              ·
               simp only [Act.put,List.setIfInBounds_toArray,List.set_cons_zero,List.set_cons_succ,z6,z7]
               rfl
              refine xP (i:=7) (N:=some 69) (v:=?_) (a':=?_) #[true,false,true,false,false,true,false,true,false,false,false,false] rfl rfl (vD HT_.out (by kernel_rfl)) (fun _ _ _ h=>h) (Or.inl ⟨by rfl,?_⟩) ?_ ?_
              rotate_left
              ·
               intro w'
               go_simp
               with_reducible rfl
              rotate_left
              ·
               simp only [Act.put,List.setIfInBounds_toArray,List.set_cons_zero,List.set_cons_succ,z6,z7]
               rfl
              refine jZ (i:=1) (N:=some 63) (v:=?_) (a':=?_) #[true,true,true,false,false,true,false,true,false,false,false,false] rfl rfl (vH HT_.out HW_.out (by kernel_rfl)) (fun _ _ _ h=>h) (Or.inl ⟨by rfl,?_⟩) hHeld ?_ ?_
              rotate_left
              ·
               rintro w' ⟨s0,s1,s2,s3,s4,s5,s6,s7,s8,s9,s10,s11,s12,s13,s14,s15⟩
               go_simp
               with_reducible rfl
              rotate_left
              ·
               simp only [Act.put,List.setIfInBounds_toArray,List.set_cons_zero,List.set_cons_succ,z6,z7]
               rfl
              refine xP (i:=3) (N:=some 65) (v:=?_) (a':=?_) #[true,true,true,true,false,true,false,true,false,false,false,false] rfl rfl (vD HT_.out (by kernel_rfl)) (fun _ _ _ h=>h) (Or.inl ⟨by rfl,?_⟩) ?_ ?_
              rotate_left
              ·
               intro w'
               go_simp
               with_reducible rfl
              rotate_left
              ·
               simp only [Act.put,List.setIfInBounds_toArray,List.set_cons_zero,List.set_cons_succ,z6,z7]
               rfl
              refine jZ (i:=4) (N:=some 66) (v:=?_) (a':=?_) #[true,true,true,true,true,true,false,true,false,false,false,false] rfl rfl (vH HT_.out HW_.out (by kernel_rfl)) (fun _ _ _ h=>h) (Or.inl ⟨by rfl,?_⟩) hHeld ?_ ?_
              rotate_left
              ·
               rintro w' ⟨s0,s1,s2,s3,s4,s5,s6,s7,s8,s9,s10,s11,s12,s13,s14,s15⟩
               go_simp
               with_reducible rfl
              rotate_left
              ·
               simp only [Act.put,List.setIfInBounds_toArray,List.set_cons_zero,List.set_cons_succ,z6,z7]
               rfl
              refine jZ (i:=6) (N:=some 68) (v:=?_) (a':=?_) #[true,true,true,true,true,true,true,true,false,false,false,false] rfl rfl (vH HT_.out HW_.out (by kernel_rfl)) (fun _ _ _ h=>h) (Or.inl ⟨by rfl,?_⟩) hHeld ?_ ?_
              rotate_left
              ·
               rintro w' ⟨s0,s1,s2,s3,s4,s5,s6,s7,s8,s9,s10,s11,s12,s13,s14,s15⟩
               go_simp
               with_reducible rfl
              rotate_left
              ·
               simp only [Act.put,List.setIfInBounds_toArray,List.set_cons_zero,List.set_cons_succ,z6,z7]
               rfl
              refine xP (i:=8) (N:=some 70) (v:=?_) (a':=?_) #[true,true,true,true,true,true,true,true,true,false,false,false] rfl rfl (vD HT_.out (by kernel_rfl)) (fun _ _ _ h=>h) (Or.inl ⟨by rfl,?_⟩) ?_ ?_
              rotate_left
              ·
               intro w'
               go_simp
               with_reducible rfl
              rotate_left
              ·
               simp only [Act.put,List.setIfInBounds_toArray,List.set_cons_zero,List.set_cons_succ,z6,z7]
               rfl
              refine jZ (i:=9) (N:=some 71) (v:=?_) (a':=?_) #[true,true,true,true,true,true,true,true,true,true,false,false] rfl rfl (vH HT_.out HW_.out (by kernel_rfl)) (fun _ _ _ h=>h) (Or.inl ⟨by rfl,?_⟩) hHeld ?_ ?_
              rotate_left
              ·
               rintro w' ⟨s0,s1,s2,s3,s4,s5,s6,s7,s8,s9,s10,s11,s12,s13,s14,s15⟩
               go_simp
               with_reducible rfl
              rotate_left
              ·
               simp only [Act.put,List.setIfInBounds_toArray,List.set_cons_zero,List.set_cons_succ,z6,z7]
               rfl
              refine JW (i:=10) (N:=some 72) #[true,true,true,true,true,true,true,true,true,true,true,false] rfl rfl (kT HT_.out (by kernel_rfl)) (by decide) (fun K hK=>?_)
              refine uA Tryz.func10 (by kernel_rfl) rfl #[.agg #[.int .i64 ((xO l0_3 x6_3).f0), .string ((xO l0_3 x6_3).f1), .slice A390_2 ((xO l0_3 x6_3).f2).length c390_2, .slice A390_3 ((xO l0_3 x6_3).f3).length c390_3], .agg #[.int .i64 ((xO l1_3 x6_3).f0), .string ((xO l1_3 x6_3).f1), .slice A391_2 ((xO l1_3 x6_3).f2).length c391_2, .slice A391_3 ((xO l1_3 x6_3).f3).length c391_3]] (by rfl) rfl rfl jI ?_
              with_reducible refine(ih k3 zI9 ((xO l0_3 x6_3).f0) ((xO l0_3 x6_3).f1) _ _ ((xO l0_3 x6_3).f2) _ _ ((xO l0_3 x6_3).f3) ((xO l1_3 x6_3).f0) ((xO l1_3 x6_3).f1) _ _ ((xO l1_3 x6_3).f2) _ _ ((xO l1_3 x6_3).f3) false _ ?side1 ?side2 ?side3 ?side4 ?side5 ?side6 ?side7 ?side8 A37.out).mono ?_
              (case side1=>repeat (first|exact(Kd.vN HR390_2.out HB.out)|(with_reducible refine Kd.vZ ?_ _)|(with_reducible refine Kd.jJ ?_ _)|(with_reducible refine Kd.qM ?_)))
              (case side2=>exact HC390_2.out)
              (case side3=>repeat (first|exact(Kd.vN HR390_3.out HB.out)|(with_reducible refine Kd.vZ ?_ _)|(with_reducible refine Kd.jJ ?_ _)|(with_reducible refine Kd.qM ?_)))
              (case side4=>exact HC390_3.out)
              (case side5=>repeat (first|exact(Kd.vN HR391_2.out HB.out)|(with_reducible refine Kd.vZ ?_ _)|(with_reducible refine Kd.jJ ?_ _)|(with_reducible refine Kd.qM ?_)))
              (case side6=>exact HC391_2.out)
              (case side7=>repeat (first|exact(Kd.vN HR391_3.out HB.out)|(with_reducible refine Kd.vZ ?_ _)|(with_reducible refine Kd.jJ ?_ _)|(with_reducible refine Kd.qM ?_)))
              (case side8=>exact HC391_3.out)
              rintro e w46 ⟨rfl,hb⟩
              refine⟨_,rfl,?_⟩
              have n0_:=zA.mk (xF (g:=gb386) (o := .cells #[.int .i64 a0_0, .string a0_1, .slice A0_2 l0_2.length c0_2, .slice (some ad390) l0_3.length c0_3] 25 (0,0)) W7 hb)
              have n1_:=zA.mk (xF (g:=gb387) (o := .cells #[.int .i64 a1_0, .string a1_1, .slice A1_2 l1_2.length c1_2, .slice (some ad391) l1_3.length c1_3] 25 (0,0)) zDn hb)
              have n2_:=zA.mk (vB K0 hb)
              clear BK386
              clear BK387
              clear HB
              have BK386:=n0_
              have BK387:=n1_
              have HB:=n2_
              clear n0_ n1_ n2_
              (try clear hb)
              (try clear hb2)
              (try clear hk)
              (try clear hi)
              refine hK.out _ _ ⟨(zB BK386.out 0).trans rfl,(zB BK386.out 1).trans rfl,(zB BK386.out 2).trans rfl,(zB BK386.out 3).trans rfl,(zB BK387.out 0).trans rfl,(zB BK387.out 1).trans rfl,(zB BK387.out 2).trans rfl,(zB BK387.out 3).trans rfl,((HB.out.cell (World.block_lt_of_cell? w _ hw390_0)).trans hw390_0),((HB.out.cell (World.block_lt_of_cell? w _ hw390_1)).trans hw390_1),((HB.out.cell (World.block_lt_of_cell? w _ hw390_2)).trans hw390_2),((HB.out.cell (World.block_lt_of_cell? w _ hw390_3)).trans hw390_3),((HB.out.cell (World.block_lt_of_cell? w _ hw391_0)).trans hw391_0),((HB.out.cell (World.block_lt_of_cell? w _ hw391_1)).trans hw391_1),((HB.out.cell (World.block_lt_of_cell? w _ hw391_2)).trans hw391_2),((HB.out.cell (World.block_lt_of_cell? w _ hw391_3)).trans hw391_3)⟩ (fun hHeld=>?_)
              clear hK K
              refine kL (a':=?_) ?_ ?_
              rotate_left
              ·
               show Act.put _ (some 72) _=_
               simp only [Act.put,List.setIfInBounds_toArray,List.set_cons_zero,List.set_cons_succ,z6,z7]
               rfl
              refine xP (i:=11) (N:=some 73) (v:=?_) (a':=?_) #[true,true,true,true,true,true,true,true,true,true,true,true] rfl rfl (vD HT_.out (by kernel_rfl)) (fun _ _ _ h=>h) (Or.inl ⟨by rfl,?_⟩) ?_ ?_
              rotate_left
              ·
               intro w'
               go_simp
               with_reducible rfl
              rotate_left
              ·
               simp only [Act.put,List.setIfInBounds_toArray,List.set_cons_zero,List.set_cons_succ,z6,z7]
               rfl
              refine ZW (wB HT_.out (by kernel_rfl)) ?_
              try go_wp2
              go_ret
              exact⟨qW,K0⟩
           ·
            rw [if_neg c36] at H
            exact absurd H (by simp)
          ·
           rw [if_neg c35] at H
           exact absurd H (by simp)
         ·
          rw [if_neg c34] at H
          have c34b0:decide (x6_3 < (l0_3.length:Int))=false:=decide_eq_false c34
          clear c34
          as_aux_lemma =>
           obtain rfl:=Option.some.inj H
           have hnb47:=NB386_387.out
           have hnc47:=NB387_386.out
           have hcz48_0:wr.cell? ⟨gb386,0,none⟩=some (.int .i64 a0_0):=(zB BK386.out 0).trans rfl
           have hcz48_1:wr.cell? ⟨gb386,1,none⟩=some (.string a0_1):=(zB BK386.out 1).trans rfl
           have hcz48_2:wr.cell? ⟨gb386,2,none⟩=some (.slice A0_2 l0_2.length c0_2):=(zB BK386.out 2).trans rfl
           have hcz48_3:wr.cell? ⟨gb386,3,none⟩=some (.slice A0_3 l0_3.length c0_3):=(zB BK386.out 3).trans rfl
           have hfz48_0:=zC BK386.out 0
           have hfz48_1:=zC BK386.out 1
           have hfz48_2:=zC BK386.out 2
           have hfz48_3:=zC BK386.out 3
           go_wp2
           go_ret
           exact⟨qW,K0⟩
end Go.Proofs.YtljhmnnhfnmhmaaGreatDoor.G
