/-
Lemmas of this claim; made short by a program of this work.
-/
import Derived.Test.YtljhmnnhfnmhmaaGreatDoorUM7
import Derived.Test.YtljhmnnhfnmhmaaGreatDoorUGx1
import Derived.Test.YtljhmnnhfnmhmaaGreatDoorUGx2
import Derived.Test.YtljhmnnhfnmhmaaGreatDoorUGx3
import Derived.Test.YtljhmnnhfnmhmaaGreatDoorUGx4
import Derived.Test.YtljhmnnhfnmhmaaGreatDoorUM0
set_option linter.unusedVariables false
set_option linter.unusedSimpArgs false
set_option maxHeartbeats 60000000
set_option maxRecDepth 100000
namespace Go.Proofs.YtljhmnnhfnmhmaaGreatDoor.G
open Go.RowKit Go.Proofs.YtljhmnnhfnmhmaaGreatDoorW.PrintWords Go.Proofs.YtljhmnnhfnmhmaaGreatDoorW.PrintLast Go.Proofs.YtljhmnnhfnmhmaaGreatDoorW.PrintMore
attribute [local go_sem] qG qJ yE yF jT jU qH qK
theorem zO.step (k:Nat) (ih_spec_reader_members:∀ m,m < k+1→∀ (g:Nat) (s0_0:ByteArray) (s0_1:Int) (r1:List (S47)) (r2:List (S38)) (r3:Bool) (r4:ByteArray) (r5:Int) (w0 w:World) (hI:zE w0 w g s0_0 s0_1) (hB:Below w0.heap.size w0 w) (h:zL.f m s0_0 s0_1=some (r1,r2,r3,r4,r5)),
  Calls Tryz.prog 50 #[.pointer (some ⟨g,0,none⟩)] w fun e w'=>∃ v0_ v1_:Value,e = .returned (.tuple #[v0_,v1_, .bool r3])∧Kd.R k47 47 w' w.heap.size (fun _=>True) v0_ r1∧Kd.R k38 38 w' w.heap.size (fun k_=>some k_≠(v0_:Value).ownBlock) v1_ r2∧zE w0 w' g r4 r5∧Below w0.heap.size w0 w'∧zQ w w' g none) (ih_spec_reader_elements:∀ m,m < k+1→∀ (g:Nat) (s0_0:ByteArray) (s0_1:Int) (r1:List (S38)) (r2:Bool) (r3:ByteArray) (r4:Int) (w0 w:World) (hI:zE w0 w g s0_0 s0_1) (hB:Below w0.heap.size w0 w) (h:zS.f m s0_0 s0_1=some (r1,r2,r3,r4)),
  Calls Tryz.prog 51 #[.pointer (some ⟨g,0,none⟩)] w fun e w'=>∃ v0_:Value,e = .returned (.tuple #[v0_, .bool r2])∧Kd.R k38 38 w' w.heap.size (fun _=>True) v0_ r1∧zE w0 w' g r3 r4∧Below w0.heap.size w0 w'∧zQ w w' g none) (ih_spec_reader_value:∀ m,m < k+1→∀ (g:Nat) (s0_0:ByteArray) (s0_1:Int) (r1:Int) (r2:Int) (r3:Int) (r4:List (S47)) (r5:List (S38)) (r6:Bool) (r7:ByteArray) (r8:Int) (w0 w:World) (hI:zE w0 w g s0_0 s0_1) (hB:Below w0.heap.size w0 w) (h:zO.f m s0_0 s0_1=some (r1,r2,r3,r4,r5,r6,r7,r8)),
  Calls Tryz.prog 29 #[.pointer (some ⟨g,0,none⟩)] w fun e w'=>∃ v3_ v4_:Value,e = .returned (.tuple #[.agg #[.int .i64 r1, .int .i64 r2, .int .i64 r3,v3_,v4_], .bool r6])∧Kd.R k47 47 w' w.heap.size (fun _=>True) v3_ r4∧Kd.R k38 38 w' w.heap.size (fun k_=>some k_≠(v3_:Value).ownBlock) v4_ r5∧zE w0 w' g r7 r8∧Below w0.heap.size w0 w'∧zQ w w' g none):∀ (g:Nat) (s0_0:ByteArray) (s0_1:Int) (r1:Int) (r2:Int) (r3:Int) (r4:List (S47)) (r5:List (S38)) (r6:Bool) (r7:ByteArray) (r8:Int) (w0 w:World) (hI:zE w0 w g s0_0 s0_1) (hB:Below w0.heap.size w0 w) (h:zO.f (k+1) s0_0 s0_1=some (r1,r2,r3,r4,r5,r6,r7,r8)),
  Calls Tryz.prog 29 #[.pointer (some ⟨g,0,none⟩)] w fun e w'=>∃ v3_ v4_:Value,e = .returned (.tuple #[.agg #[.int .i64 r1, .int .i64 r2, .int .i64 r3,v3_,v4_], .bool r6])∧Kd.R k47 47 w' w.heap.size (fun _=>True) v3_ r4∧Kd.R k38 38 w' w.heap.size (fun k_=>some k_≠(v3_:Value).ownBlock) v4_ r5∧zE w0 w' g r7 r8∧Below w0.heap.size w0 w'∧zQ w w' g none:=by
 intro g s0_0 s0_1 r1 r2 r3 r4 r5 r6 r7 r8 w0 w hI hB h
 simp only [zO.f] at h
 have hu38:=Tryz.underlying38
 have HI0:=zA.mk hI
 have HK:=zA.mk (zQ.refl w g none)
 have HL:=zA.mk hB.size
 clear hI
 have HW0:=zA.mk hB.size
 have HB:=zA.mk hB
 clear hB
 have H:((xM.f s0_0 s0_1).bind fun bt232=>(if bt232.1=123 then ((zL.f k bt232.2.1 bt232.2.2).bind fun bt235=>(some (6,s0_1,bt235.2.2.2.2,bt235.1,bt235.2.1,bt235.2.2.1,bt235.2.2.2.1,bt235.2.2.2.2))) else (if bt232.1=91 then ((zS.f k bt232.2.1 bt232.2.2).bind fun bt244=>(some (5,s0_1,bt244.2.2.2,([]:List (S47)),bt244.1,bt244.2.1,bt244.2.2.1,bt244.2.2.2))) else (if bt232.1=34 then ((zV.f k bt232.2.1 bt232.2.2).bind fun bt250=>(some (4,s0_1,bt250.2.2,([]:List (S47)),([]:List (S38)),bt250.1,bt250.2.1,bt250.2.2))) else (if bt232.1=45 then (zO.j0 k true true bt232.2.1 bt232.2.2 0 s0_1 0) else (if 48≤bt232.1 then (zO.j0 k true (decide (bt232.1≤57)) bt232.2.1 bt232.2.2 0 s0_1 0) else (zO.j0 k true false bt232.2.1 bt232.2.2 0 s0_1 0)))))))=some (r1,r2,r3,r4,r5,r6,r7,r8):=h
 clear h
 replace H:=Option.bind_eq_some_iff.mp H
 obtain⟨⟨t232,t233,t234⟩,A20,H⟩:=H
 try dsimp only at H
 have A2:=zA.mk A20
 clear A20
 have HC3:=zA.mk H
 clear H
 go_enter Tryz.func29,Tryz.ntmps29
 go_upto_if 14 with (first|((with_reducible refine jB (N:=2) rfl ?_);refine jS ?hg (N:=2) ?hd (cs:=#[.int .i64 0, .int .i64 0, .int .i64 0, .slice none 0 0, .slice none 0 0]) (t:=38) ?hr ?_;(case hd=>rfl);(case hg=>rfl);(case hr=>first|(go_simp;done)|(go_simp;rfl));intro gb230 hg w4 hbox hb;have n0_:=zA.mk (zE.below qS hb);have n1_:=zA.mk (zQ.trans vT (zQ.vL hb g none) (.inl rfl));have n2_:=zA.mk (vB qT hb);have n3_:=zA.mk (hbox);have n4_:=zA.mk ((by rw [hg];exact(vG (w:=w) (g:=g) (row:=none) vT):w.heap.size≤gb230));have n5_:=zA.mk ((Nat.le_trans HW0.out (by rw [hg];exact(vG (w:=w) (g:=g) (row:=none) vT):w.heap.size≤gb230):w0.heap.size≤gb230));have n6_:=zA.mk ((by rw [hg];exact Nat.ne_of_lt (zE.lt (show zE w0 _ g s0_0 s0_1 from by repeat (first|(with_reducible first|exact HI0.out|apply zE.alloc|apply zE.drewN|apply zE.drew|apply zE.xX|apply zE.xY)|exact HI0.out))):g≠gb230));have n7_:=zA.mk ((by rw [hg];exact Nat.ne_of_gt (zE.lt (show zE w0 _ g s0_0 s0_1 from by repeat (first|(with_reducible first|exact HI0.out|apply zE.alloc|apply zE.drewN|apply zE.drew|apply zE.xX|apply zE.xY)|exact HI0.out))):gb230≠g));clear HI0;clear HK;clear HB;have HI0:=n0_;have HK:=n1_;have HB:=n2_;have BK230:=n3_;have GW230:=n4_;have GE230:=n5_;have NB0_230:=n6_;have NB230_0:=n7_;clear n0_ n1_ n2_ n3_ n4_ n5_ n6_ n7_;clear hb hbox hg;obtain⟨HGz5,hgz5⟩:=HI0.out;have hcz5_0:=xS HGz5;have hcz5_1:=xT HGz5;have hfz5_0:=zC HGz5 0;have hfz5_1:=zC HGz5 1;clear HGz5 hgz5)|((with_reducible refine jB (N:=4) rfl ?_);refine jS ?hg (N:=4) ?hd (cs:=#[.int .i64 0, .int .i64 0, .int .i64 0, .slice none 0 0, .slice none 0 0]) (t:=38) ?hr ?_;(case hd=>rfl);(case hg=>rfl);(case hr=>first|(go_simp;done)|(go_simp;rfl));intro gb231 hg w6 hbox hb;have n0_:=zA.mk (zE.below (by repeat (first|(with_reducible first|exact HI0.out|apply zE.alloc|apply zE.drewN|apply zE.drew|apply zE.xX|apply zE.xY|refine zE.far ?_ NB0_230.out _)|exact HI0.out)) hb);have n1_:=zA.mk (xF (g:=gb230) (o := .cells #[.int .i64 0, .int .i64 0, .int .i64 0, .slice none 0 0, .slice none 0 0] 38 (0,0)) zDw hb);have n2_:=zA.mk (zQ.trans Zq62 (zQ.vL hb g none) (.inl rfl));have n3_:=zA.mk (vB (by repeat (first|(with_reducible first|exact HB.out|apply zD|apply zH|apply zJ|refine zT ?_ (zE.ge HI0.out)|refine zT ?_ GE230.out)|exact HB.out)) hb);have n4_:=zA.mk (hbox);have n5_:=zA.mk ((by rw [hg];exact(vG (w:=w) (g:=g) (row:=none) Zq62):w.heap.size≤gb231));have n6_:=zA.mk ((Nat.le_trans HW0.out (by rw [hg];exact(vG (w:=w) (g:=g) (row:=none) Zq62):w.heap.size≤gb231):w0.heap.size≤gb231));have n7_:=zA.mk ((by rw [hg];exact Nat.ne_of_lt (xW (g:=gb230) (o := .cells #[.int .i64 0, .int .i64 0, .int .i64 0, .slice none 0 0, .slice none 0 0] 38 (0,0)) zDw):gb230≠gb231));have n8_:=zA.mk ((by rw [hg];exact Nat.ne_of_gt (xW (g:=gb230) (o := .cells #[.int .i64 0, .int .i64 0, .int .i64 0, .slice none 0 0, .slice none 0 0] 38 (0,0)) zDw):gb231≠gb230));have n9_:=zA.mk ((by rw [hg];exact Nat.ne_of_lt (zE.lt (show zE w0 _ g s0_0 s0_1 from by repeat (first|(with_reducible first|exact HI0.out|apply zE.alloc|apply zE.drewN|apply zE.drew|apply zE.xX|apply zE.xY|refine zE.far ?_ NB0_230.out _)|exact HI0.out))):g≠gb231));have n10_:=zA.mk ((by rw [hg];exact Nat.ne_of_gt (zE.lt (show zE w0 _ g s0_0 s0_1 from by repeat (first|(with_reducible first|exact HI0.out|apply zE.alloc|apply zE.drewN|apply zE.drew|apply zE.xX|apply zE.xY|refine zE.far ?_ NB0_230.out _)|exact HI0.out))):gb231≠g));clear HI0;clear BK230;clear HK;clear HB;have HI0:=n0_;have BK230:=n1_;have HK:=n2_;have HB:=n3_;have BK231:=n4_;have GW231:=n5_;have GE231:=n6_;have NB230_231:=n7_;have NB231_230:=n8_;have NB0_231:=n9_;have NB231_0:=n10_;clear n0_ n1_ n2_ n3_ n4_ n5_ n6_ n7_ n8_ n9_ n10_;clear hb hbox hg;have hnb7:=NB231_230.out;have hnc7:=NB230_231.out;have hnb8:=NB231_0.out;have hnc8:=NB0_231.out;have hcz9_0:w6.cell? ⟨gb231,0,none⟩=some (.int .i64 0):=(zB BK231.out 0).trans rfl;have hcz9_1:w6.cell? ⟨gb231,1,none⟩=some (.int .i64 0):=(zB BK231.out 1).trans rfl;have hcz9_2:w6.cell? ⟨gb231,2,none⟩=some (.int .i64 0):=(zB BK231.out 2).trans rfl;have hcz9_3:w6.cell? ⟨gb231,3,none⟩=some (.slice none 0 0):=(zB BK231.out 3).trans rfl;have hcz9_4:w6.cell? ⟨gb231,4,none⟩=some (.slice none 0 0):=(zB BK231.out 4).trans rfl;have hfz9_0:=zC BK231.out 0;have hfz9_1:=zC BK231.out 1;have hfz9_2:=zC BK231.out 2;have hfz9_3:=zC BK231.out 3;have hfz9_4:=zC BK231.out 4)|((with_reducible refine zR (f:=49) rfl ?_);refine xN (some 13) rfl rfl Tryz.func49 (by kernel_rfl) rfl #[.pointer (some ⟨g,0,none⟩)] rfl jI ?_;(with_reducible refine(xM.calls g s0_0 s0_1 t232 t233 t234 w0 _ ?side1 ?side2 A2.out).mono ?_);(case side1=>repeat (first|(with_reducible first|exact HI0.out|apply zE.alloc|apply zE.drewN|apply zE.drew|apply zE.xX|apply zE.xY|refine zE.far ?_ NB0_230.out _|refine zE.far ?_ NB0_231.out _)|exact HI0.out));(case side2=>repeat (first|(with_reducible first|exact HB.out|apply zD|apply zH|apply zJ|refine zT ?_ (zE.ge HI0.out)|refine zT ?_ GE230.out|refine zT ?_ GE231.out)|exact HB.out));rintro e w10 ⟨rfl,hi,hb,hk⟩;refine⟨_,rfl,?_⟩;replace BK230:=zA.mk (zQ.blk hk (g':=gb230) (o := .cells #[.int .i64 0, .int .i64 0, .int .i64 0, .slice none 0 0, .slice none 0 0] 38 (0,0)) (by (with_reducible repeat (first|refine zG ?_ _|refine zI ?_|refine zF ?_ _));refine xZ ?_ NB230_231.out _;(with_reducible repeat (first|refine zG ?_ _|refine zI ?_|refine zF ?_ _));refine xZ ?_ NB230_231.out _;(with_reducible repeat (first|refine zG ?_ _|refine zI ?_|refine zF ?_ _));refine xZ ?_ NB230_231.out _;(with_reducible repeat (first|refine zG ?_ _|refine zI ?_|refine zF ?_ _));refine xZ ?_ NB230_231.out _;(with_reducible repeat (first|refine zG ?_ _|refine zI ?_|refine zF ?_ _));refine xZ ?_ NB230_231.out _;(with_reducible repeat (first|refine zG ?_ _|refine zI ?_|refine zF ?_ _));exact BK230.out) NB230_0.out (by simp));replace BK231:=zA.mk (zQ.blk hk (g':=gb231) (o := .cells #[.int .i64 0, .int .i64 s0_1, .int .i64 0, .slice none 0 0, .slice none 0 0] 38 (0,0)) (by (with_reducible repeat (first|refine zG ?_ _|refine zI ?_|refine zF ?_ _));refine zX (cs:=#[.int .i64 0, .int .i64 s0_1, .int .i64 0, .slice none 0 0, .slice none 0 0]) ?_ 4 _ rfl;(with_reducible repeat (first|refine zG ?_ _|refine zI ?_|refine zF ?_ _));refine zX (cs:=#[.int .i64 0, .int .i64 s0_1, .int .i64 0, .slice none 0 0, .slice none 0 0]) ?_ 3 _ rfl;(with_reducible repeat (first|refine zG ?_ _|refine zI ?_|refine zF ?_ _));refine zX (cs:=#[.int .i64 0, .int .i64 s0_1, .int .i64 0, .slice none 0 0, .slice none 0 0]) ?_ 2 _ rfl;(with_reducible repeat (first|refine zG ?_ _|refine zI ?_|refine zF ?_ _));refine zX (cs:=#[.int .i64 0, .int .i64 0, .int .i64 0, .slice none 0 0, .slice none 0 0]) ?_ 1 _ rfl;(with_reducible repeat (first|refine zG ?_ _|refine zI ?_|refine zF ?_ _));refine zX (cs:=#[.int .i64 0, .int .i64 0, .int .i64 0, .slice none 0 0, .slice none 0 0]) ?_ 0 _ rfl;(with_reducible repeat (first|refine zG ?_ _|refine zI ?_|refine zF ?_ _));exact BK231.out) NB231_0.out (by simp));replace HK:=zA.mk (zQ.trans X4 hk (.inl rfl));replace HB:=zA.mk (hb);replace HI0:=zA.mk (hi);(try clear hb);(try clear hb2);(try clear hk);(try clear hi)))
 (try simp only [Act.put,List.setIfInBounds_toArray,List.set_cons_zero,List.set_cons_succ])
 have H:=HC3.out
 clear HC3
 by_cases c11:t232=123
 ·
  rw [if_pos c11] at H
  have c11b0:(t232 == 123)=true:=beq_iff_eq.mpr c11
  have c11b1:(t232 != 123)=false:=bne_eq_false_iff_eq.mpr c11
  clear c11
  (first|rw [c11b0]|(simp only [z6,z7];rw [c11b0])|skip)
  replace H:=Option.bind_eq_some_iff.mp H
  obtain⟨⟨t235,t238,t241,t242,t243⟩,A120,H⟩:=H
  try dsimp only at H
  have A12:=zA.mk A120
  clear A120
  simp only [Option.some.injEq,Prod.mk.injEq] at H
  obtain⟨rfl,rfl,rfl,rfl,rfl,rfl,rfl,rfl⟩:=H
  have hnb13:=NB231_230.out
  have hnc13:=NB230_231.out
  have hnb14:=NB231_0.out
  have hnc14:=NB0_231.out
  have hcz15_0:w10.cell? ⟨gb231,0,none⟩=some (.int .i64 0):=(zB BK231.out 0).trans rfl
  have hcz15_1:w10.cell? ⟨gb231,1,none⟩=some (.int .i64 s0_1):=(zB BK231.out 1).trans rfl
  have hcz15_2:w10.cell? ⟨gb231,2,none⟩=some (.int .i64 0):=(zB BK231.out 2).trans rfl
  have hcz15_3:w10.cell? ⟨gb231,3,none⟩=some (.slice none 0 0):=(zB BK231.out 3).trans rfl
  have hcz15_4:w10.cell? ⟨gb231,4,none⟩=some (.slice none 0 0):=(zB BK231.out 4).trans rfl
  have hfz15_0:=zC BK231.out 0
  have hfz15_1:=zC BK231.out 1
  have hfz15_2:=zC BK231.out 2
  have hfz15_3:=zC BK231.out 3
  have hfz15_4:=zC BK231.out 4
  go_wp2_with (first|((with_reducible refine zR (f:=50) rfl ?_);refine xN (some 20) rfl rfl Tryz.func50 (by kernel_rfl) rfl #[.pointer (some ⟨g,0,none⟩)] rfl jI ?_;(with_reducible refine(ih_spec_reader_members k (by omega) g t233 t234 t235 t238 t241 t242 t243 w0 _ ?side1 ?side2 A12.out).mono ?_);(case side1=>repeat (first|(with_reducible first|exact HI0.out|apply zE.alloc|apply zE.drewN|apply zE.drew|apply zE.xX|apply zE.xY|refine zE.far ?_ NB0_230.out _|refine zE.far ?_ NB0_231.out _)|exact HI0.out));(case side2=>repeat (first|(with_reducible first|exact HB.out|apply zD|apply zH|apply zJ|refine zT ?_ (zE.ge HI0.out)|refine zT ?_ GE230.out|refine zT ?_ GE231.out)|exact HB.out));rintro e w16 ⟨v236,v239,rfl,ho0,ho1,hi,hb,hk⟩;refine⟨_,rfl,?_⟩;have n0_:=zA.mk (zQ.blk hk (g':=gb230) (o := .cells #[.int .i64 0, .int .i64 0, .int .i64 0, .slice none 0 0, .slice none 0 0] 38 (0,0)) zIm NB230_0.out (by simp));have n1_:=zA.mk (zQ.blk hk (g':=gb231) (o := .cells #[.int .i64 6, .int .i64 s0_1, .int .i64 0, .slice none 0 0, .slice none 0 0] 38 (0,0)) zIn NB231_0.out (by simp));have n2_:=zA.mk (Kd.jN ho0 (vG (w:=w) (g:=g) (row:=none) X4));have n3_:=zA.mk (Kd.jN (Kd.VR (Kd.VR ho1 (g:=gb230) (o := .cells #[.int .i64 0, .int .i64 0, .int .i64 0, .slice none 0 0, .slice none 0 0] 38 (0,0)) zIm) (g:=gb231) (o := .cells #[.int .i64 6, .int .i64 s0_1, .int .i64 0, .slice none 0 0, .slice none 0 0] 38 (0,0)) zIn) (vG (w:=w) (g:=g) (row:=none) X4));have n4_:=zA.mk (zQ.trans X4 hk (.inl rfl));have n5_:=zA.mk (hb);have n6_:=zA.mk (hi);clear BK230;clear BK231;clear HK;clear HB;clear HI0;have BK230:=n0_;have BK231:=n1_;have HO237:=n2_;have HO240:=n3_;have HK:=n4_;have HB:=n5_;have HI0:=n6_;clear n0_ n1_ n2_ n3_ n4_ n5_ n6_;(try clear hb);(try clear hb2);(try clear hk);(try clear hi);(try clear ho0);(try clear ho1);obtain⟨Ao17,co17,eo17⟩:=Kd.vJ HO237.out;subst eo17;have hcz18_0:w16.cell? ⟨gb231,0,none⟩=some (.int .i64 6):=(zB BK231.out 0).trans rfl;have hcz18_1:w16.cell? ⟨gb231,1,none⟩=some (.int .i64 s0_1):=(zB BK231.out 1).trans rfl;have hcz18_2:w16.cell? ⟨gb231,2,none⟩=some (.int .i64 0):=(zB BK231.out 2).trans rfl;have hcz18_3:w16.cell? ⟨gb231,3,none⟩=some (.slice none 0 0):=(zB BK231.out 3).trans rfl;have hcz18_4:w16.cell? ⟨gb231,4,none⟩=some (.slice none 0 0):=(zB BK231.out 4).trans rfl;have hfz18_0:=zC BK231.out 0;have hfz18_1:=zC BK231.out 1;have hfz18_2:=zC BK231.out 2;have hfz18_3:=zC BK231.out 3;have hfz18_4:=zC BK231.out 4;obtain⟨Ao19,co19,eo19⟩:=Kd.vJ HO240.out;subst eo19;obtain⟨HGz20,hgz20⟩:=HI0.out;have hcz20_0:=xS HGz20;have hcz20_1:=xT HGz20;have hfz20_0:=zC HGz20 0;have hfz20_1:=zC HGz20 1;clear HGz20 hgz20;have hnb21:=NB230_0.out;have hnc21:=NB0_230.out;have hcz22_0:w16.cell? ⟨gb230,0,none⟩=some (.int .i64 0):=(zB BK230.out 0).trans rfl;have hcz22_1:w16.cell? ⟨gb230,1,none⟩=some (.int .i64 0):=(zB BK230.out 1).trans rfl;have hcz22_2:w16.cell? ⟨gb230,2,none⟩=some (.int .i64 0):=(zB BK230.out 2).trans rfl;have hcz22_3:w16.cell? ⟨gb230,3,none⟩=some (.slice none 0 0):=(zB BK230.out 3).trans rfl;have hcz22_4:w16.cell? ⟨gb230,4,none⟩=some (.slice none 0 0):=(zB BK230.out 4).trans rfl;have hfz22_0:=zC BK230.out 0;have hfz22_1:=zC BK230.out 1;have hfz22_2:=zC BK230.out 2;have hfz22_3:=zC BK230.out 3;have hfz22_4:=zC BK230.out 4))
  refine bodyPost_ret (vF rfl _ _ gb230 38 #[.int .i64 6, .int .i64 s0_1, .int .i64 t243, .slice Ao17 t235.length co17, .slice Ao19 t238.length co19] (0,0) _ rfl (by (with_reducible repeat (first|refine zG ?_ _|refine zI ?_|refine zF ?_ _));refine zX (cs:=#[.int .i64 6, .int .i64 s0_1, .int .i64 t243, .slice Ao17 t235.length co17, .slice none 0 0]) ?_ 4 _ rfl;(with_reducible repeat (first|refine zG ?_ _|refine zI ?_|refine zF ?_ _));refine zX (cs:=#[.int .i64 6, .int .i64 s0_1, .int .i64 t243, .slice none 0 0, .slice none 0 0]) ?_ 3 _ rfl;(with_reducible repeat (first|refine zG ?_ _|refine zI ?_|refine zF ?_ _));refine zX (cs:=#[.int .i64 6, .int .i64 s0_1, .int .i64 0, .slice none 0 0, .slice none 0 0]) ?_ 2 _ rfl;(with_reducible repeat (first|refine zG ?_ _|refine zI ?_|refine zF ?_ _));refine zX (cs:=#[.int .i64 6, .int .i64 0, .int .i64 0, .slice none 0 0, .slice none 0 0]) ?_ 1 _ rfl;(with_reducible repeat (first|refine zG ?_ _|refine zI ?_|refine zF ?_ _));refine zX (cs:=#[.int .i64 0, .int .i64 0, .int .i64 0, .slice none 0 0, .slice none 0 0]) ?_ 0 _ rfl;(with_reducible repeat (first|refine zG ?_ _|refine zI ?_|refine zF ?_ _));refine xZ ?_ NB230_231.out _;(with_reducible repeat (first|refine zG ?_ _|refine zI ?_|refine zF ?_ _));refine xZ ?_ NB230_231.out _;(with_reducible repeat (first|refine zG ?_ _|refine zI ?_|refine zF ?_ _));refine xZ ?_ NB230_231.out _;(with_reducible repeat (first|refine zG ?_ _|refine zI ?_|refine zF ?_ _));exact BK230.out) Tryz.underlying38 rfl (by kernel_rfl)) rfl ?_
  exact⟨_,_,qW,by (with_reducible repeat (first|apply Kd.xJ|apply Kd.xK|apply Kd.xU));exact Kd.xG (Kd.vE (p:=⟨gb230,4,none⟩) (Kd.vE (p:=⟨gb230,3,none⟩) (Kd.vE (p:=⟨gb230,2,none⟩) (Kd.vE (p:=⟨gb230,1,none⟩) (Kd.vE (p:=⟨gb230,0,none⟩) (Kd.vE (p:=⟨gb231,2,none⟩) (Kd.vE (p:=⟨gb231,4,none⟩) (Kd.vE (p:=⟨gb231,3,none⟩) (Kd.yC (Kd.yC HO237.out BK231.out (by decide)) BK230.out (by decide)) (fun _ hk=>hk.1.2) (.slice Ao17 t235.length co17)) (fun _ hk=>hk.1.2) (.slice Ao19 t238.length co19)) (fun _ hk=>hk.1.2) (.int .i64 t243)) (fun _ hk=>hk.2) (.int .i64 6)) (fun _ hk=>hk.2) (.int .i64 s0_1)) (fun _ hk=>hk.2) (.int .i64 t243)) (fun _ hk=>hk.2) (.slice Ao17 t235.length co17)) (fun _ hk=>hk.2) (.slice Ao19 t238.length co19)) (fun _ hk=>trivial),by (with_reducible repeat (first|apply Kd.xJ|apply Kd.xK|apply Kd.xU));exact Kd.xG (Kd.vE (p:=⟨gb230,4,none⟩) (Kd.vE (p:=⟨gb230,3,none⟩) (Kd.vE (p:=⟨gb230,2,none⟩) (Kd.vE (p:=⟨gb230,1,none⟩) (Kd.vE (p:=⟨gb230,0,none⟩) (Kd.vE (p:=⟨gb231,2,none⟩) (Kd.vE (p:=⟨gb231,4,none⟩) (Kd.vE (p:=⟨gb231,3,none⟩) (Kd.xG (Kd.xG HO240.out (fun k_ hk=>(⟨hk,hk.2⟩:_∧k_≠gb231))) (fun k_ hk=>(⟨hk,hk.1.1.2⟩:_∧k_≠gb230))) (fun _ hk=>hk.1.2) (.slice Ao17 t235.length co17)) (fun _ hk=>hk.1.2) (.slice Ao19 t238.length co19)) (fun _ hk=>hk.1.2) (.int .i64 t243)) (fun _ hk=>hk.2) (.int .i64 6)) (fun _ hk=>hk.2) (.int .i64 s0_1)) (fun _ hk=>hk.2) (.int .i64 t243)) (fun _ hk=>hk.2) (.slice Ao17 t235.length co17)) (fun _ hk=>hk.2) (.slice Ao19 t238.length co19)) (fun _ hk=>hk.1.1.1.1),zBc,zBd,X4⟩
 ·
  rw [if_neg c11] at H
  have c11b0:(t232 == 123)=false:=beq_eq_false_iff_ne.mpr c11
  have c11b1:(t232 != 123)=true:=bne_iff_ne.mpr c11
  (first|rw [c11b0]|(simp only [z6,z7];rw [c11b0])|skip)
  by_cases c23:t232=91
  ·
   rw [if_pos c23] at H
   have c23b0:(t232 == 91)=true:=beq_iff_eq.mpr c23
   have c23b1:(t232 != 91)=false:=bne_eq_false_iff_eq.mpr c23
   clear c23
   replace H:=Option.bind_eq_some_iff.mp H
   obtain⟨⟨t244,t247,t248,t249⟩,A240,H⟩:=H
   try dsimp only at H
   have A24:=zA.mk A240
   clear A240
   simp only [Option.some.injEq,Prod.mk.injEq] at H
   obtain⟨rfl,rfl,rfl,rfl,rfl,rfl,rfl,rfl⟩:=H
   have hnb25:=NB231_230.out
   have hnc25:=NB230_231.out
   have hnb26:=NB231_0.out
   have hnc26:=NB0_231.out
   have hcz27_0:w10.cell? ⟨gb231,0,none⟩=some (.int .i64 0):=(zB BK231.out 0).trans rfl
   have hcz27_1:w10.cell? ⟨gb231,1,none⟩=some (.int .i64 s0_1):=(zB BK231.out 1).trans rfl
   have hcz27_2:w10.cell? ⟨gb231,2,none⟩=some (.int .i64 0):=(zB BK231.out 2).trans rfl
   have hcz27_3:w10.cell? ⟨gb231,3,none⟩=some (.slice none 0 0):=(zB BK231.out 3).trans rfl
   have hcz27_4:w10.cell? ⟨gb231,4,none⟩=some (.slice none 0 0):=(zB BK231.out 4).trans rfl
   have hfz27_0:=zC BK231.out 0
   have hfz27_1:=zC BK231.out 1
   have hfz27_2:=zC BK231.out 2
   have hfz27_3:=zC BK231.out 3
   have hfz27_4:=zC BK231.out 4
   go_wp2_with (first|((with_reducible refine zR (f:=51) rfl ?_);refine xN (some 32) rfl rfl Tryz.func51 (by kernel_rfl) rfl #[.pointer (some ⟨g,0,none⟩)] rfl jI ?_;(with_reducible refine(ih_spec_reader_elements k (by omega) g t233 t234 t244 t247 t248 t249 w0 _ ?side1 ?side2 A24.out).mono ?_);(case side1=>repeat (first|(with_reducible first|exact HI0.out|apply zE.alloc|apply zE.drewN|apply zE.drew|apply zE.xX|apply zE.xY|refine zE.far ?_ NB0_230.out _|refine zE.far ?_ NB0_231.out _)|exact HI0.out));(case side2=>repeat (first|(with_reducible first|exact HB.out|apply zD|apply zH|apply zJ|refine zT ?_ (zE.ge HI0.out)|refine zT ?_ GE230.out|refine zT ?_ GE231.out)|exact HB.out));rintro e w28 ⟨v245,rfl,ho0,hi,hb,hk⟩;refine⟨_,rfl,?_⟩;have n0_:=zA.mk (zQ.blk hk (g':=gb230) (o := .cells #[.int .i64 0, .int .i64 0, .int .i64 0, .slice none 0 0, .slice none 0 0] 38 (0,0)) zIm NB230_0.out (by simp));have n1_:=zA.mk (zQ.blk hk (g':=gb231) (o := .cells #[.int .i64 5, .int .i64 s0_1, .int .i64 0, .slice none 0 0, .slice none 0 0] 38 (0,0)) zIn NB231_0.out (by simp));have n2_:=zA.mk (Kd.jN (Kd.VR (Kd.VR ho0 (g:=gb230) (o := .cells #[.int .i64 0, .int .i64 0, .int .i64 0, .slice none 0 0, .slice none 0 0] 38 (0,0)) zIm) (g:=gb231) (o := .cells #[.int .i64 5, .int .i64 s0_1, .int .i64 0, .slice none 0 0, .slice none 0 0] 38 (0,0)) zIn) (vG (w:=w) (g:=g) (row:=none) X4));have n3_:=zA.mk (zQ.trans X4 hk (.inl rfl));have n4_:=zA.mk (hb);have n5_:=zA.mk (hi);clear BK230;clear BK231;clear HK;clear HB;clear HI0;have BK230:=n0_;have BK231:=n1_;have HO246:=n2_;have HK:=n3_;have HB:=n4_;have HI0:=n5_;clear n0_ n1_ n2_ n3_ n4_ n5_;(try clear hb);(try clear hb2);(try clear hk);(try clear hi);(try clear ho0);obtain⟨Ao29,co29,eo29⟩:=Kd.vJ HO246.out;subst eo29;have hcz30_0:w28.cell? ⟨gb231,0,none⟩=some (.int .i64 5):=(zB BK231.out 0).trans rfl;have hcz30_1:w28.cell? ⟨gb231,1,none⟩=some (.int .i64 s0_1):=(zB BK231.out 1).trans rfl;have hcz30_2:w28.cell? ⟨gb231,2,none⟩=some (.int .i64 0):=(zB BK231.out 2).trans rfl;have hcz30_3:w28.cell? ⟨gb231,3,none⟩=some (.slice none 0 0):=(zB BK231.out 3).trans rfl;have hcz30_4:w28.cell? ⟨gb231,4,none⟩=some (.slice none 0 0):=(zB BK231.out 4).trans rfl;have hfz30_0:=zC BK231.out 0;have hfz30_1:=zC BK231.out 1;have hfz30_2:=zC BK231.out 2;have hfz30_3:=zC BK231.out 3;have hfz30_4:=zC BK231.out 4;obtain⟨HGz31,hgz31⟩:=HI0.out;have hcz31_0:=xS HGz31;have hcz31_1:=xT HGz31;have hfz31_0:=zC HGz31 0;have hfz31_1:=zC HGz31 1;clear HGz31 hgz31;have hnb32:=NB230_0.out;have hnc32:=NB0_230.out;have hcz33_0:w28.cell? ⟨gb230,0,none⟩=some (.int .i64 0):=(zB BK230.out 0).trans rfl;have hcz33_1:w28.cell? ⟨gb230,1,none⟩=some (.int .i64 0):=(zB BK230.out 1).trans rfl;have hcz33_2:w28.cell? ⟨gb230,2,none⟩=some (.int .i64 0):=(zB BK230.out 2).trans rfl;have hcz33_3:w28.cell? ⟨gb230,3,none⟩=some (.slice none 0 0):=(zB BK230.out 3).trans rfl;have hcz33_4:w28.cell? ⟨gb230,4,none⟩=some (.slice none 0 0):=(zB BK230.out 4).trans rfl;have hfz33_0:=zC BK230.out 0;have hfz33_1:=zC BK230.out 1;have hfz33_2:=zC BK230.out 2;have hfz33_3:=zC BK230.out 3;have hfz33_4:=zC BK230.out 4))
   refine bodyPost_ret (vF rfl _ _ gb230 38 #[.int .i64 5, .int .i64 s0_1, .int .i64 t249, .slice none 0 0, .slice Ao29 t244.length co29] (0,0) _ rfl (by (with_reducible repeat (first|refine zG ?_ _|refine zI ?_|refine zF ?_ _));refine zX (cs:=#[.int .i64 5, .int .i64 s0_1, .int .i64 t249, .slice none 0 0, .slice none 0 0]) ?_ 4 _ rfl;(with_reducible repeat (first|refine zG ?_ _|refine zI ?_|refine zF ?_ _));refine zX (cs:=#[.int .i64 5, .int .i64 s0_1, .int .i64 t249, .slice none 0 0, .slice none 0 0]) ?_ 3 _ rfl;(with_reducible repeat (first|refine zG ?_ _|refine zI ?_|refine zF ?_ _));refine zX (cs:=#[.int .i64 5, .int .i64 s0_1, .int .i64 0, .slice none 0 0, .slice none 0 0]) ?_ 2 _ rfl;(with_reducible repeat (first|refine zG ?_ _|refine zI ?_|refine zF ?_ _));refine zX (cs:=#[.int .i64 5, .int .i64 0, .int .i64 0, .slice none 0 0, .slice none 0 0]) ?_ 1 _ rfl;(with_reducible repeat (first|refine zG ?_ _|refine zI ?_|refine zF ?_ _));refine zX (cs:=#[.int .i64 0, .int .i64 0, .int .i64 0, .slice none 0 0, .slice none 0 0]) ?_ 0 _ rfl;(with_reducible repeat (first|refine zG ?_ _|refine zI ?_|refine zF ?_ _));refine xZ ?_ NB230_231.out _;(with_reducible repeat (first|refine zG ?_ _|refine zI ?_|refine zF ?_ _));refine xZ ?_ NB230_231.out _;(with_reducible repeat (first|refine zG ?_ _|refine zI ?_|refine zF ?_ _));exact BK230.out) Tryz.underlying38 rfl (by kernel_rfl)) rfl ?_
   exact⟨_,_,qW,wT,by (with_reducible repeat (first|apply Kd.xJ|apply Kd.xK|apply Kd.xU));exact Kd.xG (Kd.vE (p:=⟨gb230,4,none⟩) (Kd.vE (p:=⟨gb230,3,none⟩) (Kd.vE (p:=⟨gb230,2,none⟩) (Kd.vE (p:=⟨gb230,1,none⟩) (Kd.vE (p:=⟨gb230,0,none⟩) (Kd.vE (p:=⟨gb231,2,none⟩) (Kd.vE (p:=⟨gb231,4,none⟩) (Kd.xG (Kd.xG HO246.out (fun k_ hk=>(⟨hk,hk.2⟩:_∧k_≠gb231))) (fun k_ hk=>(⟨hk,hk.1.1.2⟩:_∧k_≠gb230))) (fun _ hk=>hk.1.2) (.slice Ao29 t244.length co29)) (fun _ hk=>hk.1.2) (.int .i64 t249)) (fun _ hk=>hk.2) (.int .i64 5)) (fun _ hk=>hk.2) (.int .i64 s0_1)) (fun _ hk=>hk.2) (.int .i64 t249)) (fun _ hk=>hk.2) (.slice none 0 0)) (fun _ hk=>hk.2) (.slice Ao29 t244.length co29)) (fun _ hk=>(by simp [Value.ownBlock])),zBc,zBd,X4⟩
  ·
   rw [if_neg c23] at H
   have c23b0:(t232 == 91)=false:=beq_eq_false_iff_ne.mpr c23
   have c23b1:(t232 != 91)=true:=bne_iff_ne.mpr c23
   by_cases c34:t232=34
   ·
    rw [if_pos c34] at H
    have c34b0:(t232 == 34)=true:=beq_iff_eq.mpr c34
    have c34b1:(t232 != 34)=false:=bne_eq_false_iff_eq.mpr c34
    clear c34
    replace H:=Option.bind_eq_some_iff.mp H
    obtain⟨⟨t250,t251,t252⟩,A350,H⟩:=H
    try dsimp only at H
    have A35:=zA.mk A350
    clear A350
    simp only [Option.some.injEq,Prod.mk.injEq] at H
    obtain⟨rfl,rfl,rfl,rfl,rfl,rfl,rfl,rfl⟩:=H
    have hnb36:=NB231_230.out
    have hnc36:=NB230_231.out
    have hnb37:=NB231_0.out
    have hnc37:=NB0_231.out
    have hcz38_0:w10.cell? ⟨gb231,0,none⟩=some (.int .i64 0):=(zB BK231.out 0).trans rfl
    have hcz38_1:w10.cell? ⟨gb231,1,none⟩=some (.int .i64 s0_1):=(zB BK231.out 1).trans rfl
    have hcz38_2:w10.cell? ⟨gb231,2,none⟩=some (.int .i64 0):=(zB BK231.out 2).trans rfl
    have hcz38_3:w10.cell? ⟨gb231,3,none⟩=some (.slice none 0 0):=(zB BK231.out 3).trans rfl
    have hcz38_4:w10.cell? ⟨gb231,4,none⟩=some (.slice none 0 0):=(zB BK231.out 4).trans rfl
    have hfz38_0:=zC BK231.out 0
    have hfz38_1:=zC BK231.out 1
    have hfz38_2:=zC BK231.out 2
    have hfz38_3:=zC BK231.out 3
    have hfz38_4:=zC BK231.out 4
    go_wp2_with (first|((with_reducible refine zR (f:=52) rfl ?_);refine xN (some 41) rfl rfl Tryz.func52 (by kernel_rfl) rfl #[.pointer (some ⟨g,0,none⟩)] rfl jI ?_;(with_reducible refine(zV.calls k g t233 t234 t250 t251 t252 w0 _ ?side1 ?side2 A35.out).mono ?_);(case side1=>repeat (first|(with_reducible first|exact HI0.out|apply zE.alloc|apply zE.drewN|apply zE.drew|apply zE.xX|apply zE.xY|refine zE.far ?_ NB0_230.out _|refine zE.far ?_ NB0_231.out _)|exact HI0.out));(case side2=>repeat (first|(with_reducible first|exact HB.out|apply zD|apply zH|apply zJ|refine zT ?_ (zE.ge HI0.out)|refine zT ?_ GE230.out|refine zT ?_ GE231.out)|exact HB.out));rintro e w39 ⟨rfl,hi,hb,hk⟩;refine⟨_,rfl,?_⟩;replace BK230:=zA.mk (zQ.blk hk (g':=gb230) (o := .cells #[.int .i64 0, .int .i64 0, .int .i64 0, .slice none 0 0, .slice none 0 0] 38 (0,0)) zIm NB230_0.out (by simp));replace BK231:=zA.mk (zQ.blk hk (g':=gb231) (o := .cells #[.int .i64 4, .int .i64 s0_1, .int .i64 0, .slice none 0 0, .slice none 0 0] 38 (0,0)) zIn NB231_0.out (by simp));replace HK:=zA.mk (zQ.trans X4 hk (.inl rfl));replace HB:=zA.mk (hb);replace HI0:=zA.mk (hi);(try clear hb);(try clear hb2);(try clear hk);(try clear hi);obtain⟨HGz40,hgz40⟩:=HI0.out;have hcz40_0:=xS HGz40;have hcz40_1:=xT HGz40;have hfz40_0:=zC HGz40 0;have hfz40_1:=zC HGz40 1;clear HGz40 hgz40;have hcz41_0:w39.cell? ⟨gb231,0,none⟩=some (.int .i64 4):=(zB BK231.out 0).trans rfl;have hcz41_1:w39.cell? ⟨gb231,1,none⟩=some (.int .i64 s0_1):=(zB BK231.out 1).trans rfl;have hcz41_2:w39.cell? ⟨gb231,2,none⟩=some (.int .i64 0):=(zB BK231.out 2).trans rfl;have hcz41_3:w39.cell? ⟨gb231,3,none⟩=some (.slice none 0 0):=(zB BK231.out 3).trans rfl;have hcz41_4:w39.cell? ⟨gb231,4,none⟩=some (.slice none 0 0):=(zB BK231.out 4).trans rfl;have hfz41_0:=zC BK231.out 0;have hfz41_1:=zC BK231.out 1;have hfz41_2:=zC BK231.out 2;have hfz41_3:=zC BK231.out 3;have hfz41_4:=zC BK231.out 4;have hnb42:=NB230_0.out;have hnc42:=NB0_230.out;have hcz43_0:w39.cell? ⟨gb230,0,none⟩=some (.int .i64 0):=(zB BK230.out 0).trans rfl;have hcz43_1:w39.cell? ⟨gb230,1,none⟩=some (.int .i64 0):=(zB BK230.out 1).trans rfl;have hcz43_2:w39.cell? ⟨gb230,2,none⟩=some (.int .i64 0):=(zB BK230.out 2).trans rfl;have hcz43_3:w39.cell? ⟨gb230,3,none⟩=some (.slice none 0 0):=(zB BK230.out 3).trans rfl;have hcz43_4:w39.cell? ⟨gb230,4,none⟩=some (.slice none 0 0):=(zB BK230.out 4).trans rfl;have hfz43_0:=zC BK230.out 0;have hfz43_1:=zC BK230.out 1;have hfz43_2:=zC BK230.out 2;have hfz43_3:=zC BK230.out 3;have hfz43_4:=zC BK230.out 4))
    refine bodyPost_ret (vF rfl _ _ gb230 38 #[.int .i64 4, .int .i64 s0_1, .int .i64 t252, .slice none 0 0, .slice none 0 0] (0,0) _ rfl (by (with_reducible repeat (first|refine zG ?_ _|refine zI ?_|refine zF ?_ _));refine zX (cs:=#[.int .i64 4, .int .i64 s0_1, .int .i64 t252, .slice none 0 0, .slice none 0 0]) ?_ 4 _ rfl;(with_reducible repeat (first|refine zG ?_ _|refine zI ?_|refine zF ?_ _));refine zX (cs:=#[.int .i64 4, .int .i64 s0_1, .int .i64 t252, .slice none 0 0, .slice none 0 0]) ?_ 3 _ rfl;(with_reducible repeat (first|refine zG ?_ _|refine zI ?_|refine zF ?_ _));refine zX (cs:=#[.int .i64 4, .int .i64 s0_1, .int .i64 0, .slice none 0 0, .slice none 0 0]) ?_ 2 _ rfl;(with_reducible repeat (first|refine zG ?_ _|refine zI ?_|refine zF ?_ _));refine zX (cs:=#[.int .i64 4, .int .i64 0, .int .i64 0, .slice none 0 0, .slice none 0 0]) ?_ 1 _ rfl;(with_reducible repeat (first|refine zG ?_ _|refine zI ?_|refine zF ?_ _));refine zX (cs:=#[.int .i64 0, .int .i64 0, .int .i64 0, .slice none 0 0, .slice none 0 0]) ?_ 0 _ rfl;(with_reducible repeat (first|refine zG ?_ _|refine zI ?_|refine zF ?_ _));refine xZ ?_ NB230_231.out _;(with_reducible repeat (first|refine zG ?_ _|refine zI ?_|refine zF ?_ _));exact BK230.out) Tryz.underlying38 rfl (by kernel_rfl)) rfl ?_
    exact⟨_,_,qW,wT,wT,zBc,zBd,X4⟩
   ·
    rw [if_neg c34] at H
    have c34b0:(t232 == 34)=false:=beq_eq_false_iff_ne.mpr c34
    have c34b1:(t232 != 34)=true:=bne_iff_ne.mpr c34
    have HC44:=zA.mk H
    clear H
    go_upto_region 14 with (fail)
    go_cut [42] (fun v42 wc=>∃ (kq:Nat) (x42_43:Bool),v42 = .bool x42_43∧zA (zO.j0 kq true x42_43 t233 t234 0 s0_1 0=some (r1,r2,r3,r4,r5,r6,r7,r8))∧zA (kq≤k)∧zA (wc.heap[gb230]?=some (.cells #[.int .i64 0, .int .i64 0, .int .i64 0,(.slice none 0 0),(.slice none 0 0)] 38 (0,0)))∧zA (wc.heap[gb231]?=some (.cells #[.int .i64 0, .int .i64 s0_1, .int .i64 0,(.slice none 0 0),(.slice none 0 0)] 38 (0,0)))∧zA (zE w0 wc g t233 t234)∧zA (zQ w wc g none)∧zA (Below w0.heap.size w0 wc))
    case first =>
     have H:=HC44.out
     clear HC44
     by_cases c45:t232=45
     ·
      rw [if_pos c45] at H
      have c45b0:(t232 == 45)=true:=beq_iff_eq.mpr c45
      have c45b1:(t232 != 45)=false:=bne_eq_false_iff_eq.mpr c45
      clear c45
      (first|rw [c45b0]|(simp only [z6,z7];rw [c45b0])|skip)
      have H':=zA.mk H
      clear H
      go_wp2
      go_meet
      case rel=>exact⟨_,(true),vU,H',⟨uJ⟩,⟨zDw⟩,⟨zIo⟩,⟨zBc⟩,⟨X4⟩,⟨zBd⟩⟩
     ·
      rw [if_neg c45] at H
      have c45b0:(t232 == 45)=false:=beq_eq_false_iff_ne.mpr c45
      have c45b1:(t232 != 45)=true:=bne_iff_ne.mpr c45
      (first|rw [c45b0]|(simp only [z6,z7];rw [c45b0])|skip)
      by_cases c46:48≤t232
      ·
       rw [if_pos c46] at H
       have c46b0:decide (48≤t232)=true:=decide_eq_true c46
       clear c46
       have H':=zA.mk H
       clear H
       go_wp2
       go_meet
       case rel=>exact⟨_,(decide (t232≤57)),vU,H',⟨uJ⟩,⟨zDw⟩,⟨zIo⟩,⟨zBc⟩,⟨X4⟩,⟨zBd⟩⟩
      ·
       rw [if_neg c46] at H
       have c46b0:decide (48≤t232)=false:=decide_eq_false c46
       clear c46
       have H':=zA.mk H
       clear H
       go_wp2
       go_meet
       case rel=>exact⟨_,(false),vU,H',⟨uJ⟩,⟨zDw⟩,⟨zIo⟩,⟨zBc⟩,⟨X4⟩,⟨zBd⟩⟩
    case rest =>
     clear HC44
     try clear c1
     try clear c2
     try clear p2
     try clear c3
     try clear c4
     try clear c5
     try clear c7
     try clear c8
     try clear c11
     try clear c11b0
     try clear c11b1
     try clear c13
     try clear c14
     try clear c21
     try clear c23
     try clear c23b0
     try clear c23b1
     try clear c25
     try clear c26
     try clear c29
     try clear c32
     try clear c34
     try clear c34b0
     try clear c34b1
     try clear c36
     try clear c37
     try clear c42
     try clear c45
     try clear c45b0
     try clear c45b1
     try clear c46
     try clear c46b0
     try clear hcz15_0
     try clear hcz15_1
     try clear hcz15_2
     try clear hcz15_3
     try clear hcz15_4
     try clear hcz18_0
     try clear hcz18_1
     try clear hcz18_2
     try clear hcz18_3
     try clear hcz18_4
     try clear hcz20_0
     try clear hcz20_1
     try clear hcz22_0
     try clear hcz22_1
     try clear hcz22_2
     try clear hcz22_3
     try clear hcz22_4
     try clear hcz27_0
     try clear hcz27_1
     try clear hcz27_2
     try clear hcz27_3
     try clear hcz27_4
     try clear hcz30_0
     try clear hcz30_1
     try clear hcz30_2
     try clear hcz30_3
     try clear hcz30_4
     try clear hcz31_0
     try clear hcz31_1
     try clear hcz33_0
     try clear hcz33_1
     try clear hcz33_2
     try clear hcz33_3
     try clear hcz33_4
     try clear hcz38_0
     try clear hcz38_1
     try clear hcz38_2
     try clear hcz38_3
     try clear hcz38_4
     try clear hcz40_0
     try clear hcz40_1
     try clear hcz41_0
     try clear hcz41_1
     try clear hcz41_2
     try clear hcz41_3
     try clear hcz41_4
     try clear hcz43_0
     try clear hcz43_1
     try clear hcz43_2
     try clear hcz43_3
     try clear hcz43_4
     try clear hcz5_0
     try clear hcz5_1
     try clear hcz9_0
     try clear hcz9_1
     try clear hcz9_2
     try clear hcz9_3
     try clear hcz9_4
     try clear hfz15_0
     try clear hfz15_1
     try clear hfz15_2
     try clear hfz15_3
     try clear hfz15_4
     try clear hfz18_0
     try clear hfz18_1
     try clear hfz18_2
     try clear hfz18_3
     try clear hfz18_4
     try clear hfz20_0
     try clear hfz20_1
     try clear hfz22_0
     try clear hfz22_1
     try clear hfz22_2
     try clear hfz22_3
     try clear hfz22_4
     try clear hfz27_0
     try clear hfz27_1
     try clear hfz27_2
     try clear hfz27_3
     try clear hfz27_4
     try clear hfz30_0
     try clear hfz30_1
     try clear hfz30_2
     try clear hfz30_3
     try clear hfz30_4
     try clear hfz31_0
     try clear hfz31_1
     try clear hfz33_0
     try clear hfz33_1
     try clear hfz33_2
     try clear hfz33_3
     try clear hfz33_4
     try clear hfz38_0
     try clear hfz38_1
     try clear hfz38_2
     try clear hfz38_3
     try clear hfz38_4
     try clear hfz40_0
     try clear hfz40_1
     try clear hfz41_0
     try clear hfz41_1
     try clear hfz41_2
     try clear hfz41_3
     try clear hfz41_4
     try clear hfz43_0
     try clear hfz43_1
     try clear hfz43_2
     try clear hfz43_3
     try clear hfz43_4
     try clear hfz5_0
     try clear hfz5_1
     try clear hfz9_0
     try clear hfz9_1
     try clear hfz9_2
     try clear hfz9_3
     try clear hfz9_4
     obtain⟨kq,x42_43,rfl,HA,HJ43,BK230,BK231,HI0,HK,HB⟩:=hcut
     cases kq with
     | zero=>exact absurd HA.out (by simp [zO.j0])
     | succ kj43 =>
      have H:=HA.out
      clear HA
      simp only [zO.j0] at H
      by_cases c47:x42_43=true
      ·
       subst c47
       rw [if_pos rfl] at H
       replace H:=Option.bind_eq_some_iff.mp H
       obtain⟨⟨t253,t254,t255⟩,A480,H⟩:=H
       try dsimp only at H
       have A48:=zA.mk A480
       clear A480
       simp only [Option.some.injEq,Prod.mk.injEq] at H
       obtain⟨rfl,rfl,rfl,rfl,rfl,rfl,rfl,rfl⟩:=H
       have hnb49:=NB231_230.out
       have hnc49:=NB230_231.out
       have hnb50:=NB231_0.out
       have hnc50:=NB0_231.out
       have hcz51_0:wc.cell? ⟨gb231,0,none⟩=some (.int .i64 0):=(zB BK231.out 0).trans rfl
       have hcz51_1:wc.cell? ⟨gb231,1,none⟩=some (.int .i64 s0_1):=(zB BK231.out 1).trans rfl
       have hcz51_2:wc.cell? ⟨gb231,2,none⟩=some (.int .i64 0):=(zB BK231.out 2).trans rfl
       have hcz51_3:wc.cell? ⟨gb231,3,none⟩=some (.slice none 0 0):=(zB BK231.out 3).trans rfl
       have hcz51_4:wc.cell? ⟨gb231,4,none⟩=some (.slice none 0 0):=(zB BK231.out 4).trans rfl
       have hfz51_0:=zC BK231.out 0
       have hfz51_1:=zC BK231.out 1
       have hfz51_2:=zC BK231.out 2
       have hfz51_3:=zC BK231.out 3
       have hfz51_4:=zC BK231.out 4
       go_wp2_with (first|((with_reducible refine zR (f:=53) rfl ?_);refine xN (some 55) rfl rfl Tryz.func53 (by kernel_rfl) rfl #[.pointer (some ⟨g,0,none⟩)] rfl jI ?_;(with_reducible refine(zN.calls kj43 g t233 t234 t253 t254 t255 w0 _ ?side1 ?side2 A48.out).mono ?_);(case side1=>repeat (first|(with_reducible first|exact HI0.out|apply zE.alloc|apply zE.drewN|apply zE.drew|apply zE.xX|apply zE.xY|refine zE.far ?_ NB0_230.out _|refine zE.far ?_ NB0_231.out _)|exact HI0.out));(case side2=>repeat (first|(with_reducible first|exact HB.out|apply zD|apply zH|apply zJ|refine zT ?_ (zE.ge HI0.out)|refine zT ?_ GE230.out|refine zT ?_ GE231.out)|exact HB.out));rintro e w52 ⟨rfl,hi,hb,hk⟩;refine⟨_,rfl,?_⟩;replace BK230:=zA.mk (zQ.blk hk (g':=gb230) (o := .cells #[.int .i64 0, .int .i64 0, .int .i64 0, .slice none 0 0, .slice none 0 0] 38 (0,0)) zIm NB230_0.out (by simp));replace BK231:=zA.mk (zQ.blk hk (g':=gb231) (o := .cells #[.int .i64 3, .int .i64 s0_1, .int .i64 0, .slice none 0 0, .slice none 0 0] 38 (0,0)) zIn NB231_0.out (by simp));replace HK:=zA.mk (zQ.trans X4 hk (.inl rfl));replace HB:=zA.mk (hb);replace HI0:=zA.mk (hi);(try clear hb);(try clear hb2);(try clear hk);(try clear hi);obtain⟨HGz53,hgz53⟩:=HI0.out;have hcz53_0:=xS HGz53;have hcz53_1:=xT HGz53;have hfz53_0:=zC HGz53 0;have hfz53_1:=zC HGz53 1;clear HGz53 hgz53;have hcz54_0:w52.cell? ⟨gb231,0,none⟩=some (.int .i64 3):=(zB BK231.out 0).trans rfl;have hcz54_1:w52.cell? ⟨gb231,1,none⟩=some (.int .i64 s0_1):=(zB BK231.out 1).trans rfl;have hcz54_2:w52.cell? ⟨gb231,2,none⟩=some (.int .i64 0):=(zB BK231.out 2).trans rfl;have hcz54_3:w52.cell? ⟨gb231,3,none⟩=some (.slice none 0 0):=(zB BK231.out 3).trans rfl;have hcz54_4:w52.cell? ⟨gb231,4,none⟩=some (.slice none 0 0):=(zB BK231.out 4).trans rfl;have hfz54_0:=zC BK231.out 0;have hfz54_1:=zC BK231.out 1;have hfz54_2:=zC BK231.out 2;have hfz54_3:=zC BK231.out 3;have hfz54_4:=zC BK231.out 4;have hnb55:=NB230_0.out;have hnc55:=NB0_230.out;have hcz56_0:w52.cell? ⟨gb230,0,none⟩=some (.int .i64 0):=(zB BK230.out 0).trans rfl;have hcz56_1:w52.cell? ⟨gb230,1,none⟩=some (.int .i64 0):=(zB BK230.out 1).trans rfl;have hcz56_2:w52.cell? ⟨gb230,2,none⟩=some (.int .i64 0):=(zB BK230.out 2).trans rfl;have hcz56_3:w52.cell? ⟨gb230,3,none⟩=some (.slice none 0 0):=(zB BK230.out 3).trans rfl;have hcz56_4:w52.cell? ⟨gb230,4,none⟩=some (.slice none 0 0):=(zB BK230.out 4).trans rfl;have hfz56_0:=zC BK230.out 0;have hfz56_1:=zC BK230.out 1;have hfz56_2:=zC BK230.out 2;have hfz56_3:=zC BK230.out 3;have hfz56_4:=zC BK230.out 4))
       refine bodyPost_ret (vF rfl _ _ gb230 38 #[.int .i64 3, .int .i64 s0_1, .int .i64 t255, .slice none 0 0, .slice none 0 0] (0,0) _ rfl (by (with_reducible repeat (first|refine zG ?_ _|refine zI ?_|refine zF ?_ _));refine zX (cs:=#[.int .i64 3, .int .i64 s0_1, .int .i64 t255, .slice none 0 0, .slice none 0 0]) ?_ 4 _ rfl;(with_reducible repeat (first|refine zG ?_ _|refine zI ?_|refine zF ?_ _));refine zX (cs:=#[.int .i64 3, .int .i64 s0_1, .int .i64 t255, .slice none 0 0, .slice none 0 0]) ?_ 3 _ rfl;(with_reducible repeat (first|refine zG ?_ _|refine zI ?_|refine zF ?_ _));refine zX (cs:=#[.int .i64 3, .int .i64 s0_1, .int .i64 0, .slice none 0 0, .slice none 0 0]) ?_ 2 _ rfl;(with_reducible repeat (first|refine zG ?_ _|refine zI ?_|refine zF ?_ _));refine zX (cs:=#[.int .i64 3, .int .i64 0, .int .i64 0, .slice none 0 0, .slice none 0 0]) ?_ 1 _ rfl;(with_reducible repeat (first|refine zG ?_ _|refine zI ?_|refine zF ?_ _));refine zX (cs:=#[.int .i64 0, .int .i64 0, .int .i64 0, .slice none 0 0, .slice none 0 0]) ?_ 0 _ rfl;(with_reducible repeat (first|refine zG ?_ _|refine zI ?_|refine zF ?_ _));refine xZ ?_ NB230_231.out _;(with_reducible repeat (first|refine zG ?_ _|refine zI ?_|refine zF ?_ _));exact BK230.out) Tryz.underlying38 rfl (by kernel_rfl)) rfl ?_
       exact⟨_,_,qW,wT,wT,zBc,zBd,X4⟩
      ·
       replace c47:=Bool.eq_false_iff.mpr c47
       subst c47
       rw [if_neg (show ¬ (false=true) by decide)] at H
       replace H:=Option.bind_eq_some_iff.mp H
       obtain⟨⟨t256,t257,t258⟩,A570,H⟩:=H
       try dsimp only at H
       have A57:=zA.mk A570
       clear A570
       have HC58:=zA.mk H
       clear H
       go_upto_if 56 with (first|((with_reducible refine zR (f:=54) rfl ?_);refine xN (some 58) rfl rfl Tryz.func54 (by kernel_rfl) rfl #[.pointer (some ⟨g,0,none⟩), .string (⟨#[110,117,108,108]⟩:ByteArray)] rfl jI ?_;(with_reducible refine(vA.calls g t233 t234 (⟨#[110,117,108,108]⟩:ByteArray) t256 t257 t258 w0 _ ?side1 ?side2 A57.out).mono ?_);(case side1=>repeat (first|(with_reducible first|exact HI0.out|apply zE.alloc|apply zE.drewN|apply zE.drew|apply zE.xX|apply zE.xY|refine zE.far ?_ NB0_230.out _|refine zE.far ?_ NB0_231.out _)|exact HI0.out));(case side2=>repeat (first|(with_reducible first|exact HB.out|apply zD|apply zH|apply zJ|refine zT ?_ (zE.ge HI0.out)|refine zT ?_ GE230.out|refine zT ?_ GE231.out)|exact HB.out));rintro e w59 ⟨rfl,hi,hb,hk⟩;refine⟨_,rfl,?_⟩;replace BK230:=zA.mk (zQ.blk hk (g':=gb230) (o := .cells #[.int .i64 0, .int .i64 0, .int .i64 0, .slice none 0 0, .slice none 0 0] 38 (0,0)) zDw NB230_0.out (by simp));replace BK231:=zA.mk (zQ.blk hk (g':=gb231) (o := .cells #[.int .i64 0, .int .i64 s0_1, .int .i64 0, .slice none 0 0, .slice none 0 0] 38 (0,0)) zIo NB231_0.out (by simp));replace HK:=zA.mk (zQ.trans X4 hk (.inl rfl));replace HB:=zA.mk (hb);replace HI0:=zA.mk (hi);(try clear hb);(try clear hb2);(try clear hk);(try clear hi)))
       (try simp only [Act.put,List.setIfInBounds_toArray,List.set_cons_zero,List.set_cons_succ])
       have H:=HC58.out
       clear HC58
       by_cases c60:t256=true
       ·
        subst c60
        rw [if_pos rfl] at H
        simp only [Option.some.injEq,Prod.mk.injEq] at H
        obtain⟨rfl,rfl,rfl,rfl,rfl,rfl,rfl,rfl⟩:=H
        have hnb61:=NB231_230.out
        have hnc61:=NB230_231.out
        have hnb62:=NB231_0.out
        have hnc62:=NB0_231.out
        have hcz63_0:w59.cell? ⟨gb231,0,none⟩=some (.int .i64 0):=(zB BK231.out 0).trans rfl
        have hcz63_1:w59.cell? ⟨gb231,1,none⟩=some (.int .i64 s0_1):=(zB BK231.out 1).trans rfl
        have hcz63_2:w59.cell? ⟨gb231,2,none⟩=some (.int .i64 0):=(zB BK231.out 2).trans rfl
        have hcz63_3:w59.cell? ⟨gb231,3,none⟩=some (.slice none 0 0):=(zB BK231.out 3).trans rfl
        have hcz63_4:w59.cell? ⟨gb231,4,none⟩=some (.slice none 0 0):=(zB BK231.out 4).trans rfl
        have hfz63_0:=zC BK231.out 0
        have hfz63_1:=zC BK231.out 1
        have hfz63_2:=zC BK231.out 2
        have hfz63_3:=zC BK231.out 3
        have hfz63_4:=zC BK231.out 4
        obtain⟨HGz64,hgz64⟩:=HI0.out
        have hcz64_0:=xS HGz64
        have hcz64_1:=xT HGz64
        have hfz64_0:=zC HGz64 0
        have hfz64_1:=zC HGz64 1
        clear HGz64 hgz64
        have hnb65:=NB230_0.out
        have hnc65:=NB0_230.out
        have hcz66_0:w59.cell? ⟨gb230,0,none⟩=some (.int .i64 0):=(zB BK230.out 0).trans rfl
        have hcz66_1:w59.cell? ⟨gb230,1,none⟩=some (.int .i64 0):=(zB BK230.out 1).trans rfl
        have hcz66_2:w59.cell? ⟨gb230,2,none⟩=some (.int .i64 0):=(zB BK230.out 2).trans rfl
        have hcz66_3:w59.cell? ⟨gb230,3,none⟩=some (.slice none 0 0):=(zB BK230.out 3).trans rfl
        have hcz66_4:w59.cell? ⟨gb230,4,none⟩=some (.slice none 0 0):=(zB BK230.out 4).trans rfl
        have hfz66_0:=zC BK230.out 0
        have hfz66_1:=zC BK230.out 1
        have hfz66_2:=zC BK230.out 2
        have hfz66_3:=zC BK230.out 3
        have hfz66_4:=zC BK230.out 4
        go_wp2
        refine bodyPost_ret (vF rfl _ _ gb230 38 #[.int .i64 0, .int .i64 s0_1, .int .i64 t258, .slice none 0 0, .slice none 0 0] (0,0) _ rfl (by (with_reducible repeat (first|refine zG ?_ _|refine zI ?_|refine zF ?_ _));refine zX (cs:=#[.int .i64 0, .int .i64 s0_1, .int .i64 t258, .slice none 0 0, .slice none 0 0]) ?_ 4 _ rfl;(with_reducible repeat (first|refine zG ?_ _|refine zI ?_|refine zF ?_ _));refine zX (cs:=#[.int .i64 0, .int .i64 s0_1, .int .i64 t258, .slice none 0 0, .slice none 0 0]) ?_ 3 _ rfl;(with_reducible repeat (first|refine zG ?_ _|refine zI ?_|refine zF ?_ _));refine zX (cs:=#[.int .i64 0, .int .i64 s0_1, .int .i64 0, .slice none 0 0, .slice none 0 0]) ?_ 2 _ rfl;(with_reducible repeat (first|refine zG ?_ _|refine zI ?_|refine zF ?_ _));refine zX (cs:=#[.int .i64 0, .int .i64 0, .int .i64 0, .slice none 0 0, .slice none 0 0]) ?_ 1 _ rfl;(with_reducible repeat (first|refine zG ?_ _|refine zI ?_|refine zF ?_ _));refine zX (cs:=#[.int .i64 0, .int .i64 0, .int .i64 0, .slice none 0 0, .slice none 0 0]) ?_ 0 _ rfl;(with_reducible repeat (first|refine zG ?_ _|refine zI ?_|refine zF ?_ _));refine xZ ?_ NB230_231.out _;(with_reducible repeat (first|refine zG ?_ _|refine zI ?_|refine zF ?_ _));refine xZ ?_ NB230_231.out _;(with_reducible repeat (first|refine zG ?_ _|refine zI ?_|refine zF ?_ _));exact BK230.out) Tryz.underlying38 rfl (by kernel_rfl)) rfl ?_
        exact⟨_,_,qW,wT,wT,zBc,zBd,X4⟩
       ·
        replace c60:=Bool.eq_false_iff.mpr c60
        subst c60
        rw [if_neg (show ¬ (false=true) by decide)] at H
        replace H:=Option.bind_eq_some_iff.mp H
        obtain⟨⟨t259,t260,t261⟩,A670,H⟩:=H
        try dsimp only at H
        have A67:=zA.mk A670
        clear A670
        have HC68:=zA.mk H
        clear H
        go_upto_if 60 with (first|((with_reducible refine zR (f:=54) rfl ?_);refine xN (some 62) rfl rfl Tryz.func54 (by kernel_rfl) rfl #[.pointer (some ⟨g,0,none⟩), .string (⟨#[102,97,108,115,101]⟩:ByteArray)] rfl jI ?_;(with_reducible refine(vA.calls g t257 t258 (⟨#[102,97,108,115,101]⟩:ByteArray) t259 t260 t261 w0 _ ?side1 ?side2 A67.out).mono ?_);(case side1=>repeat (first|(with_reducible first|exact HI0.out|apply zE.alloc|apply zE.drewN|apply zE.drew|apply zE.xX|apply zE.xY|refine zE.far ?_ NB0_230.out _|refine zE.far ?_ NB0_231.out _)|exact HI0.out));(case side2=>repeat (first|(with_reducible first|exact HB.out|apply zD|apply zH|apply zJ|refine zT ?_ (zE.ge HI0.out)|refine zT ?_ GE230.out|refine zT ?_ GE231.out)|exact HB.out));rintro e w69 ⟨rfl,hi,hb,hk⟩;refine⟨_,rfl,?_⟩;replace BK230:=zA.mk (zQ.blk hk (g':=gb230) (o := .cells #[.int .i64 0, .int .i64 0, .int .i64 0, .slice none 0 0, .slice none 0 0] 38 (0,0)) zDw NB230_0.out (by simp));replace BK231:=zA.mk (zQ.blk hk (g':=gb231) (o := .cells #[.int .i64 0, .int .i64 s0_1, .int .i64 0, .slice none 0 0, .slice none 0 0] 38 (0,0)) zIo NB231_0.out (by simp));replace HK:=zA.mk (zQ.trans X4 hk (.inl rfl));replace HB:=zA.mk (hb);replace HI0:=zA.mk (hi);(try clear hb);(try clear hb2);(try clear hk);(try clear hi)))
        (try simp only [Act.put,List.setIfInBounds_toArray,List.set_cons_zero,List.set_cons_succ])
        have H:=HC68.out
        clear HC68
        by_cases c70:t259=true
        ·
         subst c70
         rw [if_pos rfl] at H
         simp only [Option.some.injEq,Prod.mk.injEq] at H
         obtain⟨rfl,rfl,rfl,rfl,rfl,rfl,rfl,rfl⟩:=H
         have hnb71:=NB231_230.out
         have hnc71:=NB230_231.out
         have hnb72:=NB231_0.out
         have hnc72:=NB0_231.out
         have hcz73_0:w69.cell? ⟨gb231,0,none⟩=some (.int .i64 0):=(zB BK231.out 0).trans rfl
         have hcz73_1:w69.cell? ⟨gb231,1,none⟩=some (.int .i64 s0_1):=(zB BK231.out 1).trans rfl
         have hcz73_2:w69.cell? ⟨gb231,2,none⟩=some (.int .i64 0):=(zB BK231.out 2).trans rfl
         have hcz73_3:w69.cell? ⟨gb231,3,none⟩=some (.slice none 0 0):=(zB BK231.out 3).trans rfl
         have hcz73_4:w69.cell? ⟨gb231,4,none⟩=some (.slice none 0 0):=(zB BK231.out 4).trans rfl
         have hfz73_0:=zC BK231.out 0
         have hfz73_1:=zC BK231.out 1
         have hfz73_2:=zC BK231.out 2
         have hfz73_3:=zC BK231.out 3
         have hfz73_4:=zC BK231.out 4
         obtain⟨HGz74,hgz74⟩:=HI0.out
         have hcz74_0:=xS HGz74
         have hcz74_1:=xT HGz74
         have hfz74_0:=zC HGz74 0
         have hfz74_1:=zC HGz74 1
         clear HGz74 hgz74
         have hnb75:=NB230_0.out
         have hnc75:=NB0_230.out
         have hcz76_0:w69.cell? ⟨gb230,0,none⟩=some (.int .i64 0):=(zB BK230.out 0).trans rfl
         have hcz76_1:w69.cell? ⟨gb230,1,none⟩=some (.int .i64 0):=(zB BK230.out 1).trans rfl
         have hcz76_2:w69.cell? ⟨gb230,2,none⟩=some (.int .i64 0):=(zB BK230.out 2).trans rfl
         have hcz76_3:w69.cell? ⟨gb230,3,none⟩=some (.slice none 0 0):=(zB BK230.out 3).trans rfl
         have hcz76_4:w69.cell? ⟨gb230,4,none⟩=some (.slice none 0 0):=(zB BK230.out 4).trans rfl
         have hfz76_0:=zC BK230.out 0
         have hfz76_1:=zC BK230.out 1
         have hfz76_2:=zC BK230.out 2
         have hfz76_3:=zC BK230.out 3
         have hfz76_4:=zC BK230.out 4
         go_wp2
         refine bodyPost_ret (vF rfl _ _ gb230 38 #[.int .i64 1, .int .i64 s0_1, .int .i64 t261, .slice none 0 0, .slice none 0 0] (0,0) _ rfl (by (with_reducible repeat (first|refine zG ?_ _|refine zI ?_|refine zF ?_ _));refine zX (cs:=#[.int .i64 1, .int .i64 s0_1, .int .i64 t261, .slice none 0 0, .slice none 0 0]) ?_ 4 _ rfl;(with_reducible repeat (first|refine zG ?_ _|refine zI ?_|refine zF ?_ _));refine zX (cs:=#[.int .i64 1, .int .i64 s0_1, .int .i64 t261, .slice none 0 0, .slice none 0 0]) ?_ 3 _ rfl;(with_reducible repeat (first|refine zG ?_ _|refine zI ?_|refine zF ?_ _));refine zX (cs:=#[.int .i64 1, .int .i64 s0_1, .int .i64 0, .slice none 0 0, .slice none 0 0]) ?_ 2 _ rfl;(with_reducible repeat (first|refine zG ?_ _|refine zI ?_|refine zF ?_ _));refine zX (cs:=#[.int .i64 1, .int .i64 0, .int .i64 0, .slice none 0 0, .slice none 0 0]) ?_ 1 _ rfl;(with_reducible repeat (first|refine zG ?_ _|refine zI ?_|refine zF ?_ _));refine zX (cs:=#[.int .i64 0, .int .i64 0, .int .i64 0, .slice none 0 0, .slice none 0 0]) ?_ 0 _ rfl;(with_reducible repeat (first|refine zG ?_ _|refine zI ?_|refine zF ?_ _));refine xZ ?_ NB230_231.out _;(with_reducible repeat (first|refine zG ?_ _|refine zI ?_|refine zF ?_ _));refine xZ ?_ NB230_231.out _;(with_reducible repeat (first|refine zG ?_ _|refine zI ?_|refine zF ?_ _));exact BK230.out) Tryz.underlying38 rfl (by kernel_rfl)) rfl ?_
         exact⟨_,_,qW,wT,wT,zBc,zBd,X4⟩
        ·
         replace c70:=Bool.eq_false_iff.mpr c70
         subst c70
         rw [if_neg (show ¬ (false=true) by decide)] at H
         replace H:=Option.bind_eq_some_iff.mp H
         obtain⟨⟨t262,t263,t264⟩,A770,H⟩:=H
         try dsimp only at H
         have A77:=zA.mk A770
         clear A770
         have HC78:=zA.mk H
         clear H
         go_upto_if 64 with (first|((with_reducible refine zR (f:=54) rfl ?_);refine xN (some 66) rfl rfl Tryz.func54 (by kernel_rfl) rfl #[.pointer (some ⟨g,0,none⟩), .string (⟨#[116,114,117,101]⟩:ByteArray)] rfl jI ?_;(with_reducible refine(vA.calls g t260 t261 (⟨#[116,114,117,101]⟩:ByteArray) t262 t263 t264 w0 _ ?side1 ?side2 A77.out).mono ?_);(case side1=>repeat (first|(with_reducible first|exact HI0.out|apply zE.alloc|apply zE.drewN|apply zE.drew|apply zE.xX|apply zE.xY|refine zE.far ?_ NB0_230.out _|refine zE.far ?_ NB0_231.out _)|exact HI0.out));(case side2=>repeat (first|(with_reducible first|exact HB.out|apply zD|apply zH|apply zJ|refine zT ?_ (zE.ge HI0.out)|refine zT ?_ GE230.out|refine zT ?_ GE231.out)|exact HB.out));rintro e w79 ⟨rfl,hi,hb,hk⟩;refine⟨_,rfl,?_⟩;replace BK230:=zA.mk (zQ.blk hk (g':=gb230) (o := .cells #[.int .i64 0, .int .i64 0, .int .i64 0, .slice none 0 0, .slice none 0 0] 38 (0,0)) zDw NB230_0.out (by simp));replace BK231:=zA.mk (zQ.blk hk (g':=gb231) (o := .cells #[.int .i64 0, .int .i64 s0_1, .int .i64 0, .slice none 0 0, .slice none 0 0] 38 (0,0)) zIo NB231_0.out (by simp));replace HK:=zA.mk (zQ.trans X4 hk (.inl rfl));replace HB:=zA.mk (hb);replace HI0:=zA.mk (hi);(try clear hb);(try clear hb2);(try clear hk);(try clear hi)))
         (try simp only [Act.put,List.setIfInBounds_toArray,List.set_cons_zero,List.set_cons_succ])
         have H:=HC78.out
         clear HC78
         by_cases c80:t262=true
         ·
          subst c80
          rw [if_pos rfl] at H
          simp only [Option.some.injEq,Prod.mk.injEq] at H
          obtain⟨rfl,rfl,rfl,rfl,rfl,rfl,rfl,rfl⟩:=H
          have hnb81:=NB231_230.out
          have hnc81:=NB230_231.out
          have hnb82:=NB231_0.out
          have hnc82:=NB0_231.out
          have hcz83_0:w79.cell? ⟨gb231,0,none⟩=some (.int .i64 0):=(zB BK231.out 0).trans rfl
          have hcz83_1:w79.cell? ⟨gb231,1,none⟩=some (.int .i64 s0_1):=(zB BK231.out 1).trans rfl
          have hcz83_2:w79.cell? ⟨gb231,2,none⟩=some (.int .i64 0):=(zB BK231.out 2).trans rfl
          have hcz83_3:w79.cell? ⟨gb231,3,none⟩=some (.slice none 0 0):=(zB BK231.out 3).trans rfl
          have hcz83_4:w79.cell? ⟨gb231,4,none⟩=some (.slice none 0 0):=(zB BK231.out 4).trans rfl
          have hfz83_0:=zC BK231.out 0
          have hfz83_1:=zC BK231.out 1
          have hfz83_2:=zC BK231.out 2
          have hfz83_3:=zC BK231.out 3
          have hfz83_4:=zC BK231.out 4
          obtain⟨HGz84,hgz84⟩:=HI0.out
          have hcz84_0:=xS HGz84
          have hcz84_1:=xT HGz84
          have hfz84_0:=zC HGz84 0
          have hfz84_1:=zC HGz84 1
          clear HGz84 hgz84
          have hnb85:=NB230_0.out
          have hnc85:=NB0_230.out
          have hcz86_0:w79.cell? ⟨gb230,0,none⟩=some (.int .i64 0):=(zB BK230.out 0).trans rfl
          have hcz86_1:w79.cell? ⟨gb230,1,none⟩=some (.int .i64 0):=(zB BK230.out 1).trans rfl
          have hcz86_2:w79.cell? ⟨gb230,2,none⟩=some (.int .i64 0):=(zB BK230.out 2).trans rfl
          have hcz86_3:w79.cell? ⟨gb230,3,none⟩=some (.slice none 0 0):=(zB BK230.out 3).trans rfl
          have hcz86_4:w79.cell? ⟨gb230,4,none⟩=some (.slice none 0 0):=(zB BK230.out 4).trans rfl
          have hfz86_0:=zC BK230.out 0
          have hfz86_1:=zC BK230.out 1
          have hfz86_2:=zC BK230.out 2
          have hfz86_3:=zC BK230.out 3
          have hfz86_4:=zC BK230.out 4
          go_wp2
          refine bodyPost_ret (vF rfl _ _ gb230 38 #[.int .i64 2, .int .i64 s0_1, .int .i64 t264, .slice none 0 0, .slice none 0 0] (0,0) _ rfl (by (with_reducible repeat (first|refine zG ?_ _|refine zI ?_|refine zF ?_ _));refine zX (cs:=#[.int .i64 2, .int .i64 s0_1, .int .i64 t264, .slice none 0 0, .slice none 0 0]) ?_ 4 _ rfl;(with_reducible repeat (first|refine zG ?_ _|refine zI ?_|refine zF ?_ _));refine zX (cs:=#[.int .i64 2, .int .i64 s0_1, .int .i64 t264, .slice none 0 0, .slice none 0 0]) ?_ 3 _ rfl;(with_reducible repeat (first|refine zG ?_ _|refine zI ?_|refine zF ?_ _));refine zX (cs:=#[.int .i64 2, .int .i64 s0_1, .int .i64 0, .slice none 0 0, .slice none 0 0]) ?_ 2 _ rfl;(with_reducible repeat (first|refine zG ?_ _|refine zI ?_|refine zF ?_ _));refine zX (cs:=#[.int .i64 2, .int .i64 0, .int .i64 0, .slice none 0 0, .slice none 0 0]) ?_ 1 _ rfl;(with_reducible repeat (first|refine zG ?_ _|refine zI ?_|refine zF ?_ _));refine zX (cs:=#[.int .i64 0, .int .i64 0, .int .i64 0, .slice none 0 0, .slice none 0 0]) ?_ 0 _ rfl;(with_reducible repeat (first|refine zG ?_ _|refine zI ?_|refine zF ?_ _));refine xZ ?_ NB230_231.out _;(with_reducible repeat (first|refine zG ?_ _|refine zI ?_|refine zF ?_ _));refine xZ ?_ NB230_231.out _;(with_reducible repeat (first|refine zG ?_ _|refine zI ?_|refine zF ?_ _));exact BK230.out) Tryz.underlying38 rfl (by kernel_rfl)) rfl ?_
          exact⟨_,_,qW,wT,wT,zBc,zBd,X4⟩
         ·
          replace c80:=Bool.eq_false_iff.mpr c80
          subst c80
          rw [if_neg (show ¬ (false=true) by decide)] at H
          simp only [Option.some.injEq,Prod.mk.injEq] at H
          obtain⟨rfl,rfl,rfl,rfl,rfl,rfl,rfl,rfl⟩:=H
          obtain⟨HGz87,hgz87⟩:=HI0.out
          have hcz87_0:=xS HGz87
          have hcz87_1:=xT HGz87
          have hfz87_0:=zC HGz87 0
          have hfz87_1:=zC HGz87 1
          clear HGz87 hgz87
          have hnb88:=NB231_230.out
          have hnc88:=NB230_231.out
          have hnb89:=NB231_0.out
          have hnc89:=NB0_231.out
          have hcz90_0:w79.cell? ⟨gb231,0,none⟩=some (.int .i64 0):=(zB BK231.out 0).trans rfl
          have hcz90_1:w79.cell? ⟨gb231,1,none⟩=some (.int .i64 s0_1):=(zB BK231.out 1).trans rfl
          have hcz90_2:w79.cell? ⟨gb231,2,none⟩=some (.int .i64 0):=(zB BK231.out 2).trans rfl
          have hcz90_3:w79.cell? ⟨gb231,3,none⟩=some (.slice none 0 0):=(zB BK231.out 3).trans rfl
          have hcz90_4:w79.cell? ⟨gb231,4,none⟩=some (.slice none 0 0):=(zB BK231.out 4).trans rfl
          have hfz90_0:=zC BK231.out 0
          have hfz90_1:=zC BK231.out 1
          have hfz90_2:=zC BK231.out 2
          have hfz90_3:=zC BK231.out 3
          have hfz90_4:=zC BK231.out 4
          have hnb91:=NB230_0.out
          have hnc91:=NB0_230.out
          have hcz92_0:w79.cell? ⟨gb230,0,none⟩=some (.int .i64 0):=(zB BK230.out 0).trans rfl
          have hcz92_1:w79.cell? ⟨gb230,1,none⟩=some (.int .i64 0):=(zB BK230.out 1).trans rfl
          have hcz92_2:w79.cell? ⟨gb230,2,none⟩=some (.int .i64 0):=(zB BK230.out 2).trans rfl
          have hcz92_3:w79.cell? ⟨gb230,3,none⟩=some (.slice none 0 0):=(zB BK230.out 3).trans rfl
          have hcz92_4:w79.cell? ⟨gb230,4,none⟩=some (.slice none 0 0):=(zB BK230.out 4).trans rfl
          have hfz92_0:=zC BK230.out 0
          have hfz92_1:=zC BK230.out 1
          have hfz92_2:=zC BK230.out 2
          have hfz92_3:=zC BK230.out 3
          have hfz92_4:=zC BK230.out 4
          go_wp2
          refine bodyPost_ret (vF rfl _ _ gb230 38 #[.int .i64 0, .int .i64 s0_1, .int .i64 t264, .slice none 0 0, .slice none 0 0] (0,0) _ rfl (by (with_reducible repeat (first|refine zG ?_ _|refine zI ?_|refine zF ?_ _));refine zX (cs:=#[.int .i64 0, .int .i64 s0_1, .int .i64 t264, .slice none 0 0, .slice none 0 0]) ?_ 4 _ rfl;(with_reducible repeat (first|refine zG ?_ _|refine zI ?_|refine zF ?_ _));refine zX (cs:=#[.int .i64 0, .int .i64 s0_1, .int .i64 t264, .slice none 0 0, .slice none 0 0]) ?_ 3 _ rfl;(with_reducible repeat (first|refine zG ?_ _|refine zI ?_|refine zF ?_ _));refine zX (cs:=#[.int .i64 0, .int .i64 s0_1, .int .i64 0, .slice none 0 0, .slice none 0 0]) ?_ 2 _ rfl;(with_reducible repeat (first|refine zG ?_ _|refine zI ?_|refine zF ?_ _));refine zX (cs:=#[.int .i64 0, .int .i64 0, .int .i64 0, .slice none 0 0, .slice none 0 0]) ?_ 1 _ rfl;(with_reducible repeat (first|refine zG ?_ _|refine zI ?_|refine zF ?_ _));refine zX (cs:=#[.int .i64 0, .int .i64 0, .int .i64 0, .slice none 0 0, .slice none 0 0]) ?_ 0 _ rfl;(with_reducible repeat (first|refine zG ?_ _|refine zI ?_|refine zF ?_ _));refine xZ ?_ NB230_231.out _;(with_reducible repeat (first|refine zG ?_ _|refine zI ?_|refine zF ?_ _));exact BK230.out) Tryz.underlying38 rfl (by kernel_rfl)) rfl ?_
          exact⟨_,_,qW,wT,wT,zBc,zBd,X4⟩
theorem vY.all:∀ k,(∀ (g:Nat) (s0_0:ByteArray) (s0_1:Int) (r1:List (S47)) (r2:List (S38)) (r3:Bool) (r4:ByteArray) (r5:Int) (w0 w:World) (hI:zE w0 w g s0_0 s0_1) (hB:Below w0.heap.size w0 w) (h:zL.f k s0_0 s0_1=some (r1,r2,r3,r4,r5)),
  Calls Tryz.prog 50 #[.pointer (some ⟨g,0,none⟩)] w fun e w'=>∃ v0_ v1_:Value,e = .returned (.tuple #[v0_,v1_, .bool r3])∧Kd.R k47 47 w' w.heap.size (fun _=>True) v0_ r1∧Kd.R k38 38 w' w.heap.size (fun k_=>some k_≠(v0_:Value).ownBlock) v1_ r2∧zE w0 w' g r4 r5∧Below w0.heap.size w0 w'∧zQ w w' g none)∧(∀ (g:Nat) (s0_0:ByteArray) (s0_1:Int) (r1:List (S38)) (r2:Bool) (r3:ByteArray) (r4:Int) (w0 w:World) (hI:zE w0 w g s0_0 s0_1) (hB:Below w0.heap.size w0 w) (h:zS.f k s0_0 s0_1=some (r1,r2,r3,r4)),
  Calls Tryz.prog 51 #[.pointer (some ⟨g,0,none⟩)] w fun e w'=>∃ v0_:Value,e = .returned (.tuple #[v0_, .bool r2])∧Kd.R k38 38 w' w.heap.size (fun _=>True) v0_ r1∧zE w0 w' g r3 r4∧Below w0.heap.size w0 w'∧zQ w w' g none)∧(∀ (g:Nat) (s0_0:ByteArray) (s0_1:Int) (r1:Int) (r2:Int) (r3:Int) (r4:List (S47)) (r5:List (S38)) (r6:Bool) (r7:ByteArray) (r8:Int) (w0 w:World) (hI:zE w0 w g s0_0 s0_1) (hB:Below w0.heap.size w0 w) (h:zO.f k s0_0 s0_1=some (r1,r2,r3,r4,r5,r6,r7,r8)),
  Calls Tryz.prog 29 #[.pointer (some ⟨g,0,none⟩)] w fun e w'=>∃ v3_ v4_:Value,e = .returned (.tuple #[.agg #[.int .i64 r1, .int .i64 r2, .int .i64 r3,v3_,v4_], .bool r6])∧Kd.R k47 47 w' w.heap.size (fun _=>True) v3_ r4∧Kd.R k38 38 w' w.heap.size (fun k_=>some k_≠(v3_:Value).ownBlock) v4_ r5∧zE w0 w' g r7 r8∧Below w0.heap.size w0 w'∧zQ w w' g none):=by
 intro k
 induction k using Nat.strongRecOn with
 | _ k ih =>
 cases k with
 | zero=>exact⟨by intro g s0_0 s0_1 r1 r2 r3 r4 r5 w0 w hI hB h;exact absurd h (by simp [zL.f]),by intro g s0_0 s0_1 r1 r2 r3 r4 w0 w hI hB h;exact absurd h (by simp [zS.f]),by intro g s0_0 s0_1 r1 r2 r3 r4 r5 r6 r7 r8 w0 w hI hB h;exact absurd h (by simp [zO.f])⟩
 | succ k=>exact⟨zL.step k (fun m_ hm_=>(ih m_ hm_).1) (fun m_ hm_=>(ih m_ hm_).2.1) (fun m_ hm_=>(ih m_ hm_).2.2),zS.step k (fun m_ hm_=>(ih m_ hm_).1) (fun m_ hm_=>(ih m_ hm_).2.1) (fun m_ hm_=>(ih m_ hm_).2.2),zO.step k (fun m_ hm_=>(ih m_ hm_).1) (fun m_ hm_=>(ih m_ hm_).2.1) (fun m_ hm_=>(ih m_ hm_).2.2)⟩
theorem zO.calls (k:Nat):∀ (g:Nat) (s0_0:ByteArray) (s0_1:Int) (r1:Int) (r2:Int) (r3:Int) (r4:List (S47)) (r5:List (S38)) (r6:Bool) (r7:ByteArray) (r8:Int) (w0 w:World) (hI:zE w0 w g s0_0 s0_1) (hB:Below w0.heap.size w0 w) (h:zO.f k s0_0 s0_1=some (r1,r2,r3,r4,r5,r6,r7,r8)),
  Calls Tryz.prog 29 #[.pointer (some ⟨g,0,none⟩)] w fun e w'=>∃ v3_ v4_:Value,e = .returned (.tuple #[.agg #[.int .i64 r1, .int .i64 r2, .int .i64 r3,v3_,v4_], .bool r6])∧Kd.R k47 47 w' w.heap.size (fun _=>True) v3_ r4∧Kd.R k38 38 w' w.heap.size (fun k_=>some k_≠(v3_:Value).ownBlock) v4_ r5∧zE w0 w' g r7 r8∧Below w0.heap.size w0 w'∧zQ w w' g none:=(vY.all k).2.2
end Go.Proofs.YtljhmnnhfnmhmaaGreatDoor.G
