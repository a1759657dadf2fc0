/-
Lemmas of this claim; made short by a program of this work.
-/
import Derived.Test.YtljhmnnhfnmhmaaGreatDoorUM7
import Derived.Test.YtljhmnnhfnmhmaaGreatDoorUGx1
import Derived.Test.YtljhmnnhfnmhmaaGreatDoorUGx2
import Derived.Test.YtljhmnnhfnmhmaaGreatDoorUGx3
import Derived.Test.YtljhmnnhfnmhmaaGreatDoorUM0
set_option linter.unusedVariables false
set_option linter.unusedSimpArgs false
set_option maxHeartbeats 8000000
set_option maxRecDepth 100000
namespace Go.Proofs.YtljhmnnhfnmhmaaGreatDoor.G
open Go.RowKit Go.Proofs.YtljhmnnhfnmhmaaGreatDoorW.PrintWords Go.Proofs.YtljhmnnhfnmhmaaGreatDoorW.PrintLast Go.Proofs.YtljhmnnhfnmhmaaGreatDoorW.PrintMore
attribute [local go_sem] qG qJ yE yF jT jU qH qK
theorem zL.step (k:Nat) (ih_spec_reader_members:∀ m,m < k+1→∀ (g:Nat) (s0_0:ByteArray) (s0_1:Int) (r1:List (S47)) (r2:List (S38)) (r3:Bool) (r4:ByteArray) (r5:Int) (w0 w:World) (hI:zE w0 w g s0_0 s0_1) (hB:Below w0.heap.size w0 w) (h:zL.f m s0_0 s0_1=some (r1,r2,r3,r4,r5)),
  Calls Tryz.prog 50 #[.pointer (some ⟨g,0,none⟩)] w fun e w'=>∃ v0_ v1_:Value,e = .returned (.tuple #[v0_,v1_, .bool r3])∧Kd.R k47 47 w' w.heap.size (fun _=>True) v0_ r1∧Kd.R k38 38 w' w.heap.size (fun k_=>some k_≠(v0_:Value).ownBlock) v1_ r2∧zE w0 w' g r4 r5∧Below w0.heap.size w0 w'∧zQ w w' g none) (ih_spec_reader_elements:∀ m,m < k+1→∀ (g:Nat) (s0_0:ByteArray) (s0_1:Int) (r1:List (S38)) (r2:Bool) (r3:ByteArray) (r4:Int) (w0 w:World) (hI:zE w0 w g s0_0 s0_1) (hB:Below w0.heap.size w0 w) (h:zS.f m s0_0 s0_1=some (r1,r2,r3,r4)),
  Calls Tryz.prog 51 #[.pointer (some ⟨g,0,none⟩)] w fun e w'=>∃ v0_:Value,e = .returned (.tuple #[v0_, .bool r2])∧Kd.R k38 38 w' w.heap.size (fun _=>True) v0_ r1∧zE w0 w' g r3 r4∧Below w0.heap.size w0 w'∧zQ w w' g none) (ih_spec_reader_value:∀ m,m < k+1→∀ (g:Nat) (s0_0:ByteArray) (s0_1:Int) (r1:Int) (r2:Int) (r3:Int) (r4:List (S47)) (r5:List (S38)) (r6:Bool) (r7:ByteArray) (r8:Int) (w0 w:World) (hI:zE w0 w g s0_0 s0_1) (hB:Below w0.heap.size w0 w) (h:zO.f m s0_0 s0_1=some (r1,r2,r3,r4,r5,r6,r7,r8)),
  Calls Tryz.prog 29 #[.pointer (some ⟨g,0,none⟩)] w fun e w'=>∃ v3_ v4_:Value,e = .returned (.tuple #[.agg #[.int .i64 r1, .int .i64 r2, .int .i64 r3,v3_,v4_], .bool r6])∧Kd.R k47 47 w' w.heap.size (fun _=>True) v3_ r4∧Kd.R k38 38 w' w.heap.size (fun k_=>some k_≠(v3_:Value).ownBlock) v4_ r5∧zE w0 w' g r7 r8∧Below w0.heap.size w0 w'∧zQ w w' g none):∀ (g:Nat) (s0_0:ByteArray) (s0_1:Int) (r1:List (S47)) (r2:List (S38)) (r3:Bool) (r4:ByteArray) (r5:Int) (w0 w:World) (hI:zE w0 w g s0_0 s0_1) (hB:Below w0.heap.size w0 w) (h:zL.f (k+1) s0_0 s0_1=some (r1,r2,r3,r4,r5)),
  Calls Tryz.prog 50 #[.pointer (some ⟨g,0,none⟩)] w fun e w'=>∃ v0_ v1_:Value,e = .returned (.tuple #[v0_,v1_, .bool r3])∧Kd.R k47 47 w' w.heap.size (fun _=>True) v0_ r1∧Kd.R k38 38 w' w.heap.size (fun k_=>some k_≠(v0_:Value).ownBlock) v1_ r2∧zE w0 w' g r4 r5∧Below w0.heap.size w0 w'∧zQ w w' g none:=by
 intro g s0_0 s0_1 r1 r2 r3 r4 r5 w0 w hI hB h
 simp only [zL.f] at h
 have hu47:=Tryz.underlying47
 have hu38:=Tryz.underlying38
 have HI0:=zA.mk hI
 have HK:=zA.mk (zQ.refl w g none)
 have HL:=zA.mk hB.size
 clear hI
 have HW0:=zA.mk hB.size
 have HB:=zA.mk hB
 clear hB
 have H:((zM.f k s0_0 (wrap64 (s0_1+1))).bind fun bt152=>((zP.f bt152.1 bt152.2 125).bind fun bt154=>(if bt154.1=true then (some (([]:List (S47)),([]:List (S38)),true,bt154.2.1,bt154.2.2)) else (zL.l0 k ([]:List (S47)) ([]:List (S38)) bt154.2.1 bt154.2.2))))=some (r1,r2,r3,r4,r5):=h
 clear h
 replace H:=Option.bind_eq_some_iff.mp H
 obtain⟨⟨t152,t153⟩,A20,H⟩:=H
 try dsimp only at H
 have A2:=zA.mk A20
 clear A20
 replace H:=Option.bind_eq_some_iff.mp H
 obtain⟨⟨t154,t155,t156⟩,A30,H⟩:=H
 try dsimp only at H
 have A3:=zA.mk A30
 clear A30
 have HC4:=zA.mk H
 clear H
 obtain⟨HGz5,hgz5⟩:=HI0.out
 have hcz5_0:=xS HGz5
 have hcz5_1:=xT HGz5
 have hfz5_0:=zC HGz5 0
 have hfz5_1:=zC HGz5 1
 clear HGz5 hgz5
 go_enter Tryz.func50,Tryz.ntmps50
 go_upto_if 20 with (first|((with_reducible refine zR (f:=28) rfl ?_);refine xN (some 18) rfl rfl Tryz.func28 (by kernel_rfl) rfl #[.pointer (some ⟨g,0,none⟩)] rfl jI ?_;(with_reducible refine(zM.calls k g s0_0 (wrap64 (s0_1+1)) t152 t153 w0 _ ?side1 ?side2 A2.out).mono ?_);(case side1=>repeat (first|(with_reducible first|exact HI0.out|apply zE.alloc|apply zE.drewN|apply zE.drew|apply zE.xX|apply zE.xY)|exact HI0.out));(case side2=>repeat (first|(with_reducible first|exact HB.out|apply zD|apply zH|apply zJ|refine zT ?_ (zE.ge HI0.out))|exact HB.out));rintro e w6 ⟨rfl,hi,hb,hk⟩;refine⟨_,rfl,?_⟩;replace HK:=zA.mk (zQ.trans vT hk (.inl rfl));replace HB:=zA.mk (hb);replace HI0:=zA.mk (hi);(try clear hb);(try clear hb2);(try clear hk);(try clear hi))|((with_reducible refine zR (f:=71) rfl ?_);refine xN (some 20) rfl rfl Tryz.func71 (by kernel_rfl) rfl #[.pointer (some ⟨g,0,none⟩), .int .u8 125] rfl jI ?_;(with_reducible refine(zP.calls g t152 t153 125 t154 t155 t156 w0 _ ?side1 ?side2 A3.out).mono ?_);(case side1=>repeat (first|(with_reducible first|exact HI0.out|apply zE.alloc|apply zE.drewN|apply zE.drew|apply zE.xX|apply zE.xY)|exact HI0.out));(case side2=>repeat (first|(with_reducible first|exact HB.out|apply zD|apply zH|apply zJ|refine zT ?_ (zE.ge HI0.out))|exact HB.out));rintro e w7 ⟨rfl,hi,hb,hk⟩;refine⟨_,rfl,?_⟩;replace HK:=zA.mk (zQ.trans vT hk (.inl rfl));replace HB:=zA.mk (hb);replace HI0:=zA.mk (hi);(try clear hb);(try clear hb2);(try clear hk);(try clear hi)))
 (try simp only [Act.put,List.setIfInBounds_toArray,List.set_cons_zero,List.set_cons_succ])
 have H:=HC4.out
 clear HC4
 by_cases c8:t154=true
 ·
  subst c8
  rw [if_pos rfl] at H
  as_aux_lemma =>
   simp only [Option.some.injEq,Prod.mk.injEq] at H
   obtain⟨rfl,rfl,rfl,rfl,rfl⟩:=H
   go_wp2
   go_ret3
   exact⟨_,_,qW,wT,wT,qS,qT,vT⟩
 ·
  replace c8:=Bool.eq_false_iff.mpr c8
  subst c8
  rw [if_neg (show ¬ (false=true) by decide)] at H
  have H':=zA.mk H
  clear H
  go_wp2
  (try simp only [Act.put,List.setIfInBounds_toArray,List.set_cons_succ,List.set_cons_zero])
  go_loopg [5,6] k (fun kq v5 v6 w'=>∃ (x5_1:List (S47)) (x6_1:List (S38)) (x1000_1:ByteArray) (x1001_1:Int),zA (zL.l0 kq x5_1 x6_1 x1000_1 x1001_1=some (r1,r2,r3,r4,r5))∧zA (kq≤k)∧zA (Kd.R k47 47 w' w.heap.size (fun _=>True) v5 x5_1)∧zA (Kd.R k38 38 w' w.heap.size (fun k_=>some k_≠(v5:Value).ownBlock) v6 x6_1)∧zA (zE w0 w' g x1000_1 x1001_1)∧zA (zQ w w' g none)∧zA (Below w0.heap.size w0 w'))
  case atStart=>exact⟨(([]:List (S47))),(([]:List (S38))),(t155),(t156),H',⟨Nat.le_refl _⟩,⟨wT⟩,⟨wT⟩,⟨qS⟩,⟨vT⟩,⟨qT⟩⟩
  case round =>
   clear H'
   try clear c2
   try clear p2
   try clear c5
   try clear p6
   try clear c7
   try clear c8
   try clear hcz5_0
   try clear hcz5_1
   try clear hfz5_0
   try clear hfz5_1
   obtain⟨x5_1,x6_1,x1000_1,x1001_1,HA,HK1,HO_5,HO_6,HI0,HK,HB⟩:=hrel
   cases gk with
   | zero=>exact absurd HA.out (by simp [zL.l0])
   | succ k1 =>
    have H:=HA.out
    clear HA
    simp only [zL.l0] at H
    have HC9:=zA.mk H
    clear H
    obtain⟨HGz10,hgz10⟩:=HI0.out
    have hcz10_0:=xS HGz10
    have hcz10_1:=xT HGz10
    have hfz10_0:=zC HGz10 0
    have hfz10_1:=zC HGz10 1
    clear HGz10 hgz10
    go_upto_region 8 with (fail)
    go_cut [32] (fun v32 wc=>∃ (kq:Nat) (x32_8:Bool) (x1000_8:ByteArray) (x1001_8:Int),v32 = .bool x32_8∧zA (zL.j1 kq x5_1 x6_1 x1001_1 x32_8 x1000_8 x1001_8=some (r1,r2,r3,r4,r5))∧zA (kq≤k1)∧zA (Kd.R k47 47 wc w.heap.size (fun _=>True) u5 x5_1)∧zA (Kd.R k38 38 wc w.heap.size (fun k_=>some k_≠(u5:Value).ownBlock) u6 x6_1)∧zA (zE w0 wc g x1000_8 x1001_8)∧zA (zQ w wc g none)∧zA (Below w0.heap.size w0 wc))
    case first =>
     have H:=HC9.out
     clear HC9
     replace H:=Option.bind_eq_some_iff.mp H
     obtain⟨⟨t157,t158,t159⟩,A110,H⟩:=H
     try dsimp only at H
     have A11:=zA.mk A110
     clear A110
     by_cases c12:t157=34
     ·
      rw [if_pos c12] at H
      have c12b0:(t157 == 34)=true:=beq_iff_eq.mpr c12
      have c12b1:(t157 != 34)=false:=bne_eq_false_iff_eq.mpr c12
      clear c12
      (first|rw [c12b0]|(simp only [z6,z7];rw [c12b0])|skip)
      replace H:=Option.bind_eq_some_iff.mp H
      obtain⟨⟨t160,t161,t162⟩,A130,H⟩:=H
      try dsimp only at H
      have A13:=zA.mk A130
      clear A130
      as_aux_lemma =>
       have H':=zA.mk H
       clear H
       go_wp2_with (first|((with_reducible refine zR (f:=49) rfl ?_);refine xN (some 26) rfl rfl Tryz.func49 (by kernel_rfl) rfl #[.pointer (some ⟨g,0,none⟩)] rfl jI ?_;(with_reducible refine(xM.calls g x1000_1 x1001_1 t157 t158 t159 w0 _ ?side1 ?side2 A11.out).mono ?_);(case side1=>repeat (first|(with_reducible first|exact HI0.out|apply zE.alloc|apply zE.drewN|apply zE.drew|apply zE.xX|apply zE.xY)|exact HI0.out));(case side2=>repeat (first|(with_reducible first|exact HB.out|apply zD|apply zH|apply zJ|refine zT ?_ (zE.ge HI0.out))|exact HB.out));rintro e w14 ⟨rfl,hi,hb,hk⟩;refine⟨_,rfl,?_⟩;replace HO_5:=zA.mk (Kd.xG (Kd.jL (zE.apart (show zE w0 _ g x1000_1 x1001_1 from by repeat (first|(with_reducible first|exact HI0.out|apply zE.alloc|apply zE.drewN|apply zE.drew|apply zE.xX|apply zE.xY)|exact HI0.out)) zIe (by decide)) hk (fun _ h=>h.2)) (fun _ h=>h.1));replace HO_6:=zA.mk (Kd.xG (Kd.jL (zE.apart (show zE w0 _ g x1000_1 x1001_1 from by repeat (first|(with_reducible first|exact HI0.out|apply zE.alloc|apply zE.drewN|apply zE.drew|apply zE.xX|apply zE.xY)|exact HI0.out)) YV (by decide)) hk (fun _ h=>h.2)) (fun _ h=>h.1));replace HK:=zA.mk (zQ.trans vT hk (.inl rfl));replace HB:=zA.mk (hb);replace HI0:=zA.mk (hi);(try clear hb);(try clear hb2);(try clear hk);(try clear hi))|(go_at_call 52;(with_reducible refine(zV.calls k1 g t158 t159 t160 t161 t162 w0 _ ?side1 ?side2 A13.out).mono ?_);(case side1=>repeat (first|(with_reducible first|exact HI0.out|apply zE.alloc|apply zE.drewN|apply zE.drew|apply zE.xX|apply zE.xY)|exact HI0.out));(case side2=>repeat (first|(with_reducible first|exact HB.out|apply zD|apply zH|apply zJ|refine zT ?_ (zE.ge HI0.out))|exact HB.out));rintro e w15 ⟨rfl,hi,hb,hk⟩;replace HO_5:=zA.mk (Kd.xG (Kd.jL (zE.apart (show zE w0 _ g t158 t159 from by repeat (first|(with_reducible first|exact HI0.out|apply zE.alloc|apply zE.drewN|apply zE.drew|apply zE.xX|apply zE.xY)|exact HI0.out)) zIe (by decide)) hk (fun _ h=>h.2)) (fun _ h=>h.1));replace HO_6:=zA.mk (Kd.xG (Kd.jL (zE.apart (show zE w0 _ g t158 t159 from by repeat (first|(with_reducible first|exact HI0.out|apply zE.alloc|apply zE.drewN|apply zE.drew|apply zE.xX|apply zE.xY)|exact HI0.out)) YV (by decide)) hk (fun _ h=>h.2)) (fun _ h=>h.1));replace HK:=zA.mk (zQ.trans vT hk (.inl rfl));replace HB:=zA.mk (hb);replace HI0:=zA.mk (hi);(try clear hb);(try clear hb2);(try clear hk);(try clear hi)))
       go_meet
       case rel=>exact⟨_,(!t160),(t161),(t162),vU,H',⟨by have:=HK1.out;first|omega|exact Nat.le_refl _⟩,⟨zIe⟩,⟨YV⟩,⟨qS⟩,⟨vT⟩,⟨qT⟩⟩
     ·
      rw [if_neg c12] at H
      have c12b0:(t157 == 34)=false:=beq_eq_false_iff_ne.mpr c12
      have c12b1:(t157 != 34)=true:=bne_iff_ne.mpr c12
      (first|rw [c12b0]|(simp only [z6,z7];rw [c12b0])|skip)
      as_aux_lemma =>
       have H':=zA.mk H
       clear H
       go_wp2_with (first|((with_reducible refine zR (f:=49) rfl ?_);refine xN (some 26) rfl rfl Tryz.func49 (by kernel_rfl) rfl #[.pointer (some ⟨g,0,none⟩)] rfl jI ?_;(with_reducible refine(xM.calls g x1000_1 x1001_1 t157 t158 t159 w0 _ ?side1 ?side2 A11.out).mono ?_);(case side1=>repeat (first|(with_reducible first|exact HI0.out|apply zE.alloc|apply zE.drewN|apply zE.drew|apply zE.xX|apply zE.xY)|exact HI0.out));(case side2=>repeat (first|(with_reducible first|exact HB.out|apply zD|apply zH|apply zJ|refine zT ?_ (zE.ge HI0.out))|exact HB.out));rintro e w16 ⟨rfl,hi,hb,hk⟩;refine⟨_,rfl,?_⟩;replace HO_5:=zA.mk (Kd.xG (Kd.jL (zE.apart (show zE w0 _ g x1000_1 x1001_1 from by repeat (first|(with_reducible first|exact HI0.out|apply zE.alloc|apply zE.drewN|apply zE.drew|apply zE.xX|apply zE.xY)|exact HI0.out)) zIe (by decide)) hk (fun _ h=>h.2)) (fun _ h=>h.1));replace HO_6:=zA.mk (Kd.xG (Kd.jL (zE.apart (show zE w0 _ g x1000_1 x1001_1 from by repeat (first|(with_reducible first|exact HI0.out|apply zE.alloc|apply zE.drewN|apply zE.drew|apply zE.xX|apply zE.xY)|exact HI0.out)) YV (by decide)) hk (fun _ h=>h.2)) (fun _ h=>h.1));replace HK:=zA.mk (zQ.trans vT hk (.inl rfl));replace HB:=zA.mk (hb);replace HI0:=zA.mk (hi);(try clear hb);(try clear hb2);(try clear hk);(try clear hi)))
       go_meet
       case rel=>exact⟨_,(true),(t158),(t159),vU,H',⟨by have:=HK1.out;first|omega|exact Nat.le_refl _⟩,⟨zIe⟩,⟨YV⟩,⟨qS⟩,⟨vT⟩,⟨qT⟩⟩
    case rest =>
     clear HC9
     try clear c1
     try clear c2
     try clear p2
     try clear c4
     try clear c5
     try clear p6
     try clear c7
     try clear c8
     try clear c12
     try clear c12b0
     try clear c12b1
     try clear hcz10_0
     try clear hcz10_1
     try clear hcz5_0
     try clear hcz5_1
     try clear hfz10_0
     try clear hfz10_1
     try clear hfz5_0
     try clear hfz5_1
     try clear p2
     try clear p6
     obtain⟨kq,x32_8,x1000_8,x1001_8,rfl,HA,HJ8,HO_5,HO_6,HI0,HK,HB⟩:=hcut
     cases kq with
     | zero=>exact absurd HA.out (by simp [zL.j1])
     | succ kj8 =>
      have H:=HA.out
      clear HA
      simp only [zL.j1] at H
      by_cases c17:x32_8=true
      ·
       subst c17
       rw [if_pos rfl] at H
       as_aux_lemma =>
        simp only [Option.some.injEq,Prod.mk.injEq] at H
        obtain⟨rfl,rfl,rfl,rfl,rfl⟩:=H
        go_wp2
        go_ret3
        exact⟨_,_,qW,wT,wT,qS,qT,vT⟩
      ·
       replace c17:=Bool.eq_false_iff.mpr c17
       subst c17
       rw [if_neg (show ¬ (false=true) by decide)] at H
       by_cases c18:x5_1.length < 8796093022208
       ·
        rw [if_pos c18] at H
        have LMc18:=zA.mk c18
        clear c18
        obtain⟨y163,hy163⟩:∃ y_:List (S47),y_=(x5_1 ++ [(⟨x1001_1,x1001_8⟩:S47)]):=⟨_,rfl⟩
        replace H:((zM.f kj8 x1000_8 x1001_8).bind fun bt166=>((zP.f bt166.1 bt166.2 58).bind fun bt168=>(if bt168.1=true then ((zM.f kj8 bt168.2.1 bt168.2.2).bind fun bt171=>((zO.f kj8 bt171.1 bt171.2).bind fun bt173=>(if bt173.2.2.2.2.2.1=true then (if x6_1.length < 1954687338268 then ((some (x6_1 ++ [(⟨bt173.1,bt173.2.1,bt173.2.2.1,bt173.2.2.2.1,bt173.2.2.2.2.1⟩:S38)]:List (S38))).bind fun y186=>((zM.f kj8 bt173.2.2.2.2.2.2.1 bt173.2.2.2.2.2.2.2).bind fun bt189=>((zP.f bt189.1 bt189.2 125).bind fun bt191=>(if bt191.1=true then (some (y163,y186,true,bt191.2.1,bt191.2.2)) else ((zP.f bt191.2.1 bt191.2.2 44).bind fun bt194=>(if bt194.1=true then ((zM.f kj8 bt194.2.1 bt194.2.2).bind fun bt197=>(zL.l0 kj8 y163 y186 bt197.1 bt197.2)) else (some (([]:List (S47)),([]:List (S38)),false,bt194.2.1,bt194.2.2)))))))) else (none)) else (some (([]:List (S47)),([]:List (S38)),false,bt173.2.2.2.2.2.2.1,bt173.2.2.2.2.2.2.2))))) else (some (([]:List (S47)),([]:List (S38)),false,bt168.2.1,bt168.2.2)))))=some (r1,r2,r3,r4,r5):=by first|(rw [hy163];with_reducible exact H)|(have H2_:=(Option.bind_some _ _).symm.trans H;rw [hy163];with_reducible exact H2_)|(have H2_:=(Option.bind_some _ _).symm.trans H;with_reducible exact H2_)|with_reducible exact H|(rw [hy163];exact H)|exact H
        have Ny163:=zA.mk hy163
        clear hy163
        replace H:=Option.bind_eq_some_iff.mp H
        obtain⟨⟨t166,t167⟩,A190,H⟩:=H
        try dsimp only at H
        have A19:=zA.mk A190
        clear A190
        replace H:=Option.bind_eq_some_iff.mp H
        obtain⟨⟨t168,t169,t170⟩,A200,H⟩:=H
        try dsimp only at H
        have A20:=zA.mk A200
        clear A200
        have HC21:=zA.mk H
        clear H
        obtain⟨HGz22,hgz22⟩:=HI0.out
        have hcz22_0:=xS HGz22
        have hcz22_1:=xT HGz22
        have hfz22_0:=zC HGz22 0
        have hfz22_1:=zC HGz22 1
        clear HGz22 hgz22
        go_upto_if 46 with (first|((with_reducible refine xI (b := .append) (xs:=#[.tmp 33, .tmp 40]) rfl ?_);at_builtin;refine Kd.qE k47 w.heap.size rfl (.tmp 33) (.tmp 40) 35 47 (.agg #[(.int .i64 0),(.int .i64 0)]) 16 rfl Tryz.underlying35 zJ0 rfl (by decide) (by omega) u5 x5_1 (⟨x1001_1,x1001_8⟩:S47) [.int .i64 x1001_1, .int .i64 x1001_8] (fun _=>True) (fun _=>False) rfl rfl ?aP (fun _ hk=>hk.elim) ?aF ?aO (Below.refl _ _) ?aS ?aL ?_;(case aP=>exact zHe _ _ _ (⟨x1001_1,x1001_8⟩:S47));(case aF=>exact(fun _ _=>trivial));(case aO=>exact zIe);(case aS=>exact(vG (w:=w) (g:=g) (row:=none) vT));(case aL=>have:=LMc18.out;omega);intro v164 w23 ho hb hg hat;rw [← Ny163.out] at ho;have n0_:=zA.mk (Kd.Z3 (ok:=(fun _=>True)) (by (with_reducible repeat (first|apply Kd.xJ|apply Kd.xK|apply Kd.xU));exact Kd.xG HO_6.out (fun _ hk=>⟨trivial,hk⟩)) hg hat);have n1_:=zA.mk (zE.grown qS hg (zE.YB HI0.out HO_5.out (by decide)));have n2_:=zA.mk (k4 qT HL.out hb);have n3_:=zA.mk (zQ.trans vT (zQ.yK hg g) (Kd.YY HO_5.out));have n4_:=zA.mk (ho);clear HO_6;clear HI0;clear HB;clear HK;clear HO_5;have HO_6:=n0_;have HI0:=n1_;have HB:=n2_;have HK:=n3_;have HO165:=n4_;clear n0_ n1_ n2_ n3_ n4_;clear ho hb hg hat)|((with_reducible refine zR (f:=28) rfl ?_);refine xN (some 43) rfl rfl Tryz.func28 (by kernel_rfl) rfl #[.pointer (some ⟨g,0,none⟩)] rfl jI ?_;(with_reducible refine(zM.calls kj8 g x1000_8 x1001_8 t166 t167 w0 _ ?side1 ?side2 A19.out).mono ?_);(case side1=>repeat (first|(with_reducible first|exact HI0.out|apply zE.alloc|apply zE.drewN|apply zE.drew|apply zE.xX|apply zE.xY)|exact HI0.out));(case side2=>repeat (first|(with_reducible first|exact HB.out|apply zD|apply zH|apply zJ|refine zT ?_ (zE.ge HI0.out))|exact HB.out));rintro e w24 ⟨rfl,hi,hb,hk⟩;refine⟨_,rfl,?_⟩;replace HO_6:=zA.mk (Kd.xG (Kd.jL (zE.apart (show zE w0 _ g x1000_8 x1001_8 from by repeat (first|(with_reducible first|exact HI0.out|apply zE.alloc|apply zE.drewN|apply zE.drew|apply zE.xX|apply zE.xY)|exact HI0.out)) YV (by decide)) hk (fun _ h=>h.2)) (fun _ h=>h.1));replace HO165:=zA.mk (Kd.xG (Kd.jL (zE.apart (show zE w0 _ g x1000_8 x1001_8 from by repeat (first|(with_reducible first|exact HI0.out|apply zE.alloc|apply zE.drewN|apply zE.drew|apply zE.xX|apply zE.xY)|exact HI0.out)) QI (by decide)) hk (fun _ h=>h.2)) (fun _ h=>h.1));replace HK:=zA.mk (zQ.trans vT hk (.inl rfl));replace HB:=zA.mk (hb);replace HI0:=zA.mk (hi);(try clear hb);(try clear hb2);(try clear hk);(try clear hi))|((with_reducible refine zR (f:=71) rfl ?_);refine xN (some 45) rfl rfl Tryz.func71 (by kernel_rfl) rfl #[.pointer (some ⟨g,0,none⟩), .int .u8 58] rfl jI ?_;(with_reducible refine(zP.calls g t166 t167 58 t168 t169 t170 w0 _ ?side1 ?side2 A20.out).mono ?_);(case side1=>repeat (first|(with_reducible first|exact HI0.out|apply zE.alloc|apply zE.drewN|apply zE.drew|apply zE.xX|apply zE.xY)|exact HI0.out));(case side2=>repeat (first|(with_reducible first|exact HB.out|apply zD|apply zH|apply zJ|refine zT ?_ (zE.ge HI0.out))|exact HB.out));rintro e w25 ⟨rfl,hi,hb,hk⟩;refine⟨_,rfl,?_⟩;replace HO_6:=zA.mk (Kd.xG (Kd.jL (zE.apart (show zE w0 _ g t166 t167 from by repeat (first|(with_reducible first|exact HI0.out|apply zE.alloc|apply zE.drewN|apply zE.drew|apply zE.xX|apply zE.xY)|exact HI0.out)) YV (by decide)) hk (fun _ h=>h.2)) (fun _ h=>h.1));replace HO165:=zA.mk (Kd.xG (Kd.jL (zE.apart (show zE w0 _ g t166 t167 from by repeat (first|(with_reducible first|exact HI0.out|apply zE.alloc|apply zE.drewN|apply zE.drew|apply zE.xX|apply zE.xY)|exact HI0.out)) QI (by decide)) hk (fun _ h=>h.2)) (fun _ h=>h.1));replace HK:=zA.mk (zQ.trans vT hk (.inl rfl));replace HB:=zA.mk (hb);replace HI0:=zA.mk (hi);(try clear hb);(try clear hb2);(try clear hk);(try clear hi)))
        (try simp only [Act.put,List.setIfInBounds_toArray,List.set_cons_zero,List.set_cons_succ])
        have H:=HC21.out
        clear HC21
        by_cases c26:t168=true
        ·
         subst c26
         rw [if_pos rfl] at H
         replace H:=Option.bind_eq_some_iff.mp H
         obtain⟨⟨t171,t172⟩,A270,H⟩:=H
         try dsimp only at H
         have A27:=zA.mk A270
         clear A270
         replace H:=Option.bind_eq_some_iff.mp H
         obtain⟨⟨t173,t174,t175,t176,t179,t182,t183,t184⟩,A280,H⟩:=H
         try dsimp only at H
         have A28:=zA.mk A280
         clear A280
         by_cases c37:t182=true
         ·
          subst c37
          rw [if_pos rfl] at H
          by_cases c38:x6_1.length < 1954687338268
          ·
           rw [if_pos c38] at H
           have LMc38:=zA.mk c38
           clear c38
           obtain⟨y186,hy186⟩:∃ y_:List (S38),y_=(x6_1 ++ [(⟨t173,t174,t175,t176,t179⟩:S38)]):=⟨_,rfl⟩
           replace H:((zM.f kj8 t183 t184).bind fun bt189=>((zP.f bt189.1 bt189.2 125).bind fun bt191=>(if bt191.1=true then (some (y163,y186,true,bt191.2.1,bt191.2.2)) else ((zP.f bt191.2.1 bt191.2.2 44).bind fun bt194=>(if bt194.1=true then ((zM.f kj8 bt194.2.1 bt194.2.2).bind fun bt197=>(zL.l0 kj8 y163 y186 bt197.1 bt197.2)) else (some (([]:List (S47)),([]:List (S38)),false,bt194.2.1,bt194.2.2)))))))=some (r1,r2,r3,r4,r5):=by first|(rw [hy186];with_reducible exact H)|(have H2_:=(Option.bind_some _ _).symm.trans H;rw [hy186];with_reducible exact H2_)|(have H2_:=(Option.bind_some _ _).symm.trans H;with_reducible exact H2_)|with_reducible exact H|(rw [hy186];exact H)|exact H
           have Ny186:=zA.mk hy186
           clear hy186
           replace H:=Option.bind_eq_some_iff.mp H
           obtain⟨⟨t189,t190⟩,A390,H⟩:=H
           try dsimp only at H
           have A39:=zA.mk A390
           clear A390
           replace H:=Option.bind_eq_some_iff.mp H
           obtain⟨⟨t191,t192,t193⟩,A400,H⟩:=H
           try dsimp only at H
           have A40:=zA.mk A400
           clear A400
           have HC41:=zA.mk H
           clear H
           go_upto_if 63 with (first|((with_reducible refine zR (f:=28) rfl ?_);refine xN (some 48) rfl rfl Tryz.func28 (by kernel_rfl) rfl #[.pointer (some ⟨g,0,none⟩)] rfl jI ?_;(with_reducible refine(zM.calls kj8 g t169 t170 t171 t172 w0 _ ?side1 ?side2 A27.out).mono ?_);(case side1=>repeat (first|(with_reducible first|exact HI0.out|apply zE.alloc|apply zE.drewN|apply zE.drew|apply zE.xX|apply zE.xY)|exact HI0.out));(case side2=>repeat (first|(with_reducible first|exact HB.out|apply zD|apply zH|apply zJ|refine zT ?_ (zE.ge HI0.out))|exact HB.out));rintro e w42 ⟨rfl,hi,hb,hk⟩;refine⟨_,rfl,?_⟩;replace HO_6:=zA.mk (Kd.xG (Kd.jL (zE.apart (show zE w0 _ g t169 t170 from by repeat (first|(with_reducible first|exact HI0.out|apply zE.alloc|apply zE.drewN|apply zE.drew|apply zE.xX|apply zE.xY)|exact HI0.out)) YV (by decide)) hk (fun _ h=>h.2)) (fun _ h=>h.1));replace HO165:=zA.mk (Kd.xG (Kd.jL (zE.apart (show zE w0 _ g t169 t170 from by repeat (first|(with_reducible first|exact HI0.out|apply zE.alloc|apply zE.drewN|apply zE.drew|apply zE.xX|apply zE.xY)|exact HI0.out)) QI (by decide)) hk (fun _ h=>h.2)) (fun _ h=>h.1));replace HK:=zA.mk (zQ.trans vT hk (.inl rfl));replace HB:=zA.mk (hb);replace HI0:=zA.mk (hi);(try clear hb);(try clear hb2);(try clear hk);(try clear hi))|((with_reducible refine zR (f:=29) rfl ?_);refine xN (some 51) rfl rfl Tryz.func29 (by kernel_rfl) rfl #[.pointer (some ⟨g,0,none⟩)] rfl jI ?_;(with_reducible refine(ih_spec_reader_value kj8 (by have:=HK1.out;have:=HJ8.out;omega) g t171 t172 t173 t174 t175 t176 t179 true t183 t184 w0 _ ?side1 ?side2 A28.out).mono ?_);(case side1=>repeat (first|(with_reducible first|exact HI0.out|apply zE.alloc|apply zE.drewN|apply zE.drew|apply zE.xX|apply zE.xY)|exact HI0.out));(case side2=>repeat (first|(with_reducible first|exact HB.out|apply zD|apply zH|apply zJ|refine zT ?_ (zE.ge HI0.out))|exact HB.out));rintro e w43 ⟨v177,v180,rfl,ho0,ho1,hi,hb,hk⟩;refine⟨_,rfl,?_⟩;have n0_:=zA.mk (Kd.xG (Kd.kR (Kd.kR (Kd.VS (zE.apart (show zE w0 _ g t171 t172 from by repeat (first|(with_reducible first|exact HI0.out|apply zE.alloc|apply zE.drewN|apply zE.drew|apply zE.xX|apply zE.xY)|exact HI0.out)) YV (by decide)) hk) (Kd.yB ho0)) (Kd.yB ho1)) (fun _ h_=>h_.1));have n1_:=zA.mk (Kd.xG (Kd.kR (Kd.VS (zE.apart (show zE w0 _ g t171 t172 from by repeat (first|(with_reducible first|exact HI0.out|apply zE.alloc|apply zE.drewN|apply zE.drew|apply zE.xX|apply zE.xY)|exact HI0.out)) QI (by decide)) hk) (Kd.yB ho0)) (fun _ h_=>h_.1));have n2_:=zA.mk (Kd.jN (Kd.yV ho0 (Kd.X8 QI)) (vG (w:=w) (g:=g) (row:=none) vT));have n3_:=zA.mk (Kd.jN (Kd.yV (Kd.yV ho1 (Kd.X8 YV)) (Kd.X8 QI)) (vG (w:=w) (g:=g) (row:=none) vT));have n4_:=zA.mk (zQ.trans vT hk (.inl rfl));have n5_:=zA.mk (hb);have n6_:=zA.mk (hi);clear HO_6;clear HO165;clear HK;clear HB;clear HI0;have HO_6:=n0_;have HO165:=n1_;have HO178:=n2_;have HO181:=n3_;have HK:=n4_;have HB:=n5_;have HI0:=n6_;clear n0_ n1_ n2_ n3_ n4_ n5_ n6_;(try clear hb);(try clear hb2);(try clear hk);(try clear hi);(try clear ho0);(try clear ho1))|((with_reducible refine jB (N:=8) rfl ?_);refine jS ?hg (N:=8) ?hd (cs:=#[.int .i64 0, .int .i64 0, .int .i64 0, .slice none 0 0, .slice none 0 0]) (t:=38) ?hr ?_;(case hd=>rfl);(case hg=>rfl);(case hr=>first|(go_simp;done)|(go_simp;rfl));intro gb185 hg w44 hbox hb;have n0_:=zA.mk (Kd.vS (Kd.y8 YV gb185 (Nat.le_of_eq hg.symm)) hb);have n1_:=zA.mk (Kd.vS QI hb);have n2_:=zA.mk (Kd.vS (by (with_reducible repeat (first|apply Kd.xJ|apply Kd.xK|apply Kd.xU));exact HO178.out) hb);have n3_:=zA.mk (Kd.vS (Kd.y8 (by (with_reducible repeat (first|apply Kd.xJ|apply Kd.xK|apply Kd.xU));exact HO181.out) gb185 (Nat.le_of_eq hg.symm)) hb);have n4_:=zA.mk (zE.below qS hb);have n5_:=zA.mk (zQ.trans vT (zQ.vL hb g none) (.inl rfl));have n6_:=zA.mk (vB qT hb);have n7_:=zA.mk (hbox);have n8_:=zA.mk ((by rw [hg];exact(vG (w:=w) (g:=g) (row:=none) vT):w.heap.size≤gb185));have n9_:=zA.mk ((Nat.le_trans HW0.out (by rw [hg];exact(vG (w:=w) (g:=g) (row:=none) vT):w.heap.size≤gb185):w0.heap.size≤gb185));have n10_:=zA.mk ((by rw [hg];exact Nat.ne_of_lt (zE.lt (show zE w0 _ g t183 t184 from by repeat (first|(with_reducible first|exact HI0.out|apply zE.alloc|apply zE.drewN|apply zE.drew|apply zE.xX|apply zE.xY)|exact HI0.out))):g≠gb185));have n11_:=zA.mk ((by rw [hg];exact Nat.ne_of_gt (zE.lt (show zE w0 _ g t183 t184 from by repeat (first|(with_reducible first|exact HI0.out|apply zE.alloc|apply zE.drewN|apply zE.drew|apply zE.xX|apply zE.xY)|exact HI0.out))):gb185≠g));clear HO_6;clear HO165;clear HO178;clear HO181;clear HI0;clear HK;clear HB;have HO_6:=n0_;have HO165:=n1_;have HO178:=n2_;have HO181:=n3_;have HI0:=n4_;have HK:=n5_;have HB:=n6_;have BK185:=n7_;have GW185:=n8_;have GE185:=n9_;have NB0_185:=n10_;have NB185_0:=n11_;clear n0_ n1_ n2_ n3_ n4_ n5_ n6_ n7_ n8_ n9_ n10_ n11_;clear hb hbox hg;have hnb45:=NB185_0.out;have hnc45:=NB0_185.out;have hcz46_0:w44.cell? ⟨gb185,0,none⟩=some (.int .i64 0):=(zB BK185.out 0).trans rfl;have hcz46_1:w44.cell? ⟨gb185,1,none⟩=some (.int .i64 0):=(zB BK185.out 1).trans rfl;have hcz46_2:w44.cell? ⟨gb185,2,none⟩=some (.int .i64 0):=(zB BK185.out 2).trans rfl;have hcz46_3:w44.cell? ⟨gb185,3,none⟩=some (.slice none 0 0):=(zB BK185.out 3).trans rfl;have hcz46_4:w44.cell? ⟨gb185,4,none⟩=some (.slice none 0 0):=(zB BK185.out 4).trans rfl;have hfz46_0:=zC BK185.out 0;have hfz46_1:=zC BK185.out 1;have hfz46_2:=zC BK185.out 2;have hfz46_3:=zC BK185.out 3;have hfz46_4:=zC BK185.out 4;obtain⟨Ao47,co47,eo47⟩:=Kd.vJ HO178.out;subst eo47;obtain⟨Ao48,co48,eo48⟩:=Kd.vJ HO181.out;subst eo48)|((with_reducible refine V6 (t:=38) (p:=8) rfl ?_);refine XZ (t:=38) (p:=8) (v:=?vo_w49) (w1:=(((((w44.setCell ⟨gb185,0,none⟩ (.int .i64 t173)).setCell ⟨gb185,1,none⟩ (.int .i64 t174)).setCell ⟨gb185,2,none⟩ (.int .i64 t175)).setCell ⟨gb185,3,none⟩ (.slice Ao47 t176.length co47)).setCell ⟨gb185,4,none⟩ (.slice Ao48 t179.length co48))) ?hg ?ho ?hn ?hr ?_;(case ho=>rfl);(case hg=>rfl);(case hn=>rfl);(case hr=>first|(go_simp;done)|(go_simp;rfl));intro w49 hw;have n0_:zA (Kd.R k38 38 w49 w.heap.size (fun k_=>some k_≠(v164:Value).ownBlock∧some k_≠(.slice Ao47 t176.length co47:Value).ownBlock∧some k_≠(.slice Ao48 t179.length co48:Value).ownBlock∧k_≠gb185) u6 x6_1):=⟨(by rw [hw];exact(by (with_reducible repeat (first|apply Kd.xJ|apply Kd.xK|apply Kd.xU));exact Kd.xG (Kd.vE (p:=⟨gb185,4,none⟩) (Kd.vE (p:=⟨gb185,3,none⟩) (Kd.vE (p:=⟨gb185,2,none⟩) (Kd.vE (p:=⟨gb185,1,none⟩) (Kd.vE (p:=⟨gb185,0,none⟩) (Kd.xG HO_6.out (fun k_ hk=>(⟨hk,hk.2⟩:_∧k_≠gb185))) (fun _ hk=>hk.2) (.int .i64 t173)) (fun _ hk=>hk.2) (.int .i64 t174)) (fun _ hk=>hk.2) (.int .i64 t175)) (fun _ hk=>hk.2) (.slice Ao47 t176.length co47)) (fun _ hk=>hk.2) (.slice Ao48 t179.length co48)) (fun _ hk=>⟨hk.1.1.1.1.2,⟨hk.1.1.1.2,⟨hk.1.1.2,hk.1.2⟩⟩⟩)))⟩;have n1_:zA (Kd.R k47 47 w49 w.heap.size (fun k_=>some k_≠(.slice Ao47 t176.length co47:Value).ownBlock) v164 y163):=⟨(by rw [hw];exact(by (with_reducible repeat (first|apply Kd.xJ|apply Kd.xK|apply Kd.xU));exact Kd.xG (Kd.vE (p:=⟨gb185,4,none⟩) (Kd.vE (p:=⟨gb185,3,none⟩) (Kd.vE (p:=⟨gb185,2,none⟩) (Kd.vE (p:=⟨gb185,1,none⟩) (Kd.vE (p:=⟨gb185,0,none⟩) (Kd.yC HO165.out BK185.out (by decide)) (fun _ hk=>hk.2) (.int .i64 t173)) (fun _ hk=>hk.2) (.int .i64 t174)) (fun _ hk=>hk.2) (.int .i64 t175)) (fun _ hk=>hk.2) (.slice Ao47 t176.length co47)) (fun _ hk=>hk.2) (.slice Ao48 t179.length co48)) (fun _ hk=>hk.1.2)))⟩;have n2_:zA (Kd.R k47 47 w49 w.heap.size (fun k_=>some k_≠(v164:Value).ownBlock) (.slice Ao47 t176.length co47) t176):=⟨(by rw [hw];exact(by (with_reducible repeat (first|apply Kd.xJ|apply Kd.xK|apply Kd.xU));exact Kd.xG (Kd.vE (p:=⟨gb185,4,none⟩) (Kd.vE (p:=⟨gb185,3,none⟩) (Kd.vE (p:=⟨gb185,2,none⟩) (Kd.vE (p:=⟨gb185,1,none⟩) (Kd.vE (p:=⟨gb185,0,none⟩) (Kd.yC HO178.out BK185.out (by decide)) (fun _ hk=>hk.2) (.int .i64 t173)) (fun _ hk=>hk.2) (.int .i64 t174)) (fun _ hk=>hk.2) (.int .i64 t175)) (fun _ hk=>hk.2) (.slice Ao47 t176.length co47)) (fun _ hk=>hk.2) (.slice Ao48 t179.length co48)) (fun _ hk=>hk.1.2)))⟩;have n3_:zA (Kd.R k38 38 w49 w.heap.size (fun k_=>some k_≠(u6:Value).ownBlock∧some k_≠(v164:Value).ownBlock∧some k_≠(.slice Ao47 t176.length co47:Value).ownBlock∧k_≠gb185) (.slice Ao48 t179.length co48) t179):=⟨(by rw [hw];exact(by (with_reducible repeat (first|apply Kd.xJ|apply Kd.xK|apply Kd.xU));exact Kd.xG (Kd.vE (p:=⟨gb185,4,none⟩) (Kd.vE (p:=⟨gb185,3,none⟩) (Kd.vE (p:=⟨gb185,2,none⟩) (Kd.vE (p:=⟨gb185,1,none⟩) (Kd.vE (p:=⟨gb185,0,none⟩) (Kd.xG HO181.out (fun k_ hk=>(⟨hk,hk.2⟩:_∧k_≠gb185))) (fun _ hk=>hk.2) (.int .i64 t173)) (fun _ hk=>hk.2) (.int .i64 t174)) (fun _ hk=>hk.2) (.int .i64 t175)) (fun _ hk=>hk.2) (.slice Ao47 t176.length co47)) (fun _ hk=>hk.2) (.slice Ao48 t179.length co48)) (fun _ hk=>⟨hk.1.1.1.2,⟨hk.1.1.2,⟨hk.1.1.1.1,hk.1.2⟩⟩⟩)))⟩;have n4_:zA (w49.heap[gb185]?=some (.cells #[.int .i64 t173, .int .i64 t174, .int .i64 t175, .slice Ao47 t176.length co47, .slice Ao48 t179.length co48] 38 (0,0))):=⟨(by rw [hw];exact(by (with_reducible repeat (first|refine zG ?_ _|refine zI ?_|refine zF ?_ _));refine zX (cs:=#[.int .i64 t173, .int .i64 t174, .int .i64 t175, .slice Ao47 t176.length co47, .slice none 0 0]) ?_ 4 _ rfl;(with_reducible repeat (first|refine zG ?_ _|refine zI ?_|refine zF ?_ _));refine zX (cs:=#[.int .i64 t173, .int .i64 t174, .int .i64 t175, .slice none 0 0, .slice none 0 0]) ?_ 3 _ rfl;(with_reducible repeat (first|refine zG ?_ _|refine zI ?_|refine zF ?_ _));refine zX (cs:=#[.int .i64 t173, .int .i64 t174, .int .i64 0, .slice none 0 0, .slice none 0 0]) ?_ 2 _ rfl;(with_reducible repeat (first|refine zG ?_ _|refine zI ?_|refine zF ?_ _));refine zX (cs:=#[.int .i64 t173, .int .i64 0, .int .i64 0, .slice none 0 0, .slice none 0 0]) ?_ 1 _ rfl;(with_reducible repeat (first|refine zG ?_ _|refine zI ?_|refine zF ?_ _));refine zX (cs:=#[.int .i64 0, .int .i64 0, .int .i64 0, .slice none 0 0, .slice none 0 0]) ?_ 0 _ rfl;(with_reducible repeat (first|refine zG ?_ _|refine zI ?_|refine zF ?_ _));exact BK185.out))⟩;have n5_:zA (zE w0 w49 g t183 t184):=⟨(by rw [hw];exact zIf)⟩;have n6_:zA (zQ w w49 g none):=⟨(by rw [hw];exact zBa)⟩;have n7_:zA (Below w0.heap.size w0 w49):=⟨(by rw [hw];exact zIg)⟩;clear hw;clear HO_6;clear HO165;clear HO178;clear HO181;clear BK185;clear HI0;clear HK;clear HB;have HO_6:=n0_;have HO165:=n1_;have HO178:=n2_;have HO181:=n3_;have BK185:=n4_;have HI0:=n5_;have HK:=n6_;have HB:=n7_;clear n0_ n1_ n2_ n3_ n4_ n5_ n6_ n7_;have hcz50_0:w49.cell? ⟨gb185,0,none⟩=some (.int .i64 t173):=(zB BK185.out 0).trans rfl;have hcz50_1:w49.cell? ⟨gb185,1,none⟩=some (.int .i64 t174):=(zB BK185.out 1).trans rfl;have hcz50_2:w49.cell? ⟨gb185,2,none⟩=some (.int .i64 t175):=(zB BK185.out 2).trans rfl;have hcz50_3:w49.cell? ⟨gb185,3,none⟩=some (.slice Ao47 t176.length co47):=(zB BK185.out 3).trans rfl;have hcz50_4:w49.cell? ⟨gb185,4,none⟩=some (.slice Ao48 t179.length co48):=(zB BK185.out 4).trans rfl;have hfz50_0:=zC BK185.out 0;have hfz50_1:=zC BK185.out 1;have hfz50_2:=zC BK185.out 2;have hfz50_3:=zC BK185.out 3;have hfz50_4:=zC BK185.out 4)|((with_reducible refine xI (b := .append) (xs:=#[.tmp 56, .tmp 58]) rfl ?_);at_builtin;refine Kd.qE k38 w.heap.size rfl (.tmp 56) (.tmp 58) 36 38 (.agg #[(.int .i64 0),(.int .i64 0),(.int .i64 0),(.slice none 0 0),(.slice none 0 0)]) 72 rfl Tryz.underlying36 zFz rfl (by decide) (by omega) u6 x6_1 (⟨t173,t174,t175,t176,t179⟩:S38) [.int .i64 t173, .int .i64 t174, .int .i64 t175, .slice Ao47 t176.length co47, .slice Ao48 t179.length co48] (fun k_=>some k_≠(v164:Value).ownBlock∧k_≠gb185) (fun k_=>((fun k_=>some k_≠(v164:Value).ownBlock∧k_≠gb185)) k_∧some k_≠(u6:Value).ownBlock) rfl rfl ?aP (fun _ hk=>hk) ?aF ?aO (Below.refl _ _) ?aS ?aL ?_;(case aP=>exact zCf _ _ _ (⟨t173,t174,t175,t176,t179⟩:S38) (Kd.xG (Kd.yC (Kd.JH (HO178.out) (Kd.Z6 HO_6.out) (by decide)) BK185.out (by decide)) (fun k_ hk=>⟨⟨hk.1.1,hk.2⟩,hk.1.2⟩)) (Kd.xG (HO181.out) (fun k_ hk=>⟨⟨hk.2.1,hk.2.2.2⟩,hk.1⟩)));(case aF=>exact(fun k_ hk=>⟨Kd.V4 (Kd.X8 QI) k_ hk,Kd.WI (g:=gb185) (o := .cells #[.int .i64 t173, .int .i64 t174, .int .i64 t175, .slice Ao47 t176.length co47, .slice Ao48 t179.length co48] 38 (0,0)) zIh k_ hk⟩));(case aO=>exact(by (with_reducible repeat (first|apply Kd.xJ|apply Kd.xK|apply Kd.xU));exact Kd.xG HO_6.out (fun _ hk=>⟨hk.1,hk.2.2.2⟩)));(case aS=>exact(vG (w:=w) (g:=g) (row:=none) zBa));(case aL=>have:=LMc38.out;omega);intro v187 w51 ho hb hg hat;rw [← Ny186.out] at ho;have n0_:=zA.mk (zE.grown zIf hg (zE.YB HI0.out HO_6.out (by decide)));have n1_:=zA.mk (Kd.zA4 QI (Kd.Z6 YV) (by decide) hg);have n2_:=zA.mk (qX (g:=gb185) (o := .cells #[.int .i64 t173, .int .i64 t174, .int .i64 t175, .slice Ao47 t176.length co47, .slice Ao48 t179.length co48] 38 (0,0)) zIh hg (Kd.KW HO_6.out (fun _ hk=>hk.2.2.2)));have n3_:=zA.mk (k4 zIg HL.out hb);have n4_:=zA.mk (zQ.trans zBa (zQ.yK hg g) (Kd.YY HO_6.out));have n5_:=zA.mk (ho);clear HI0;clear HO165;clear BK185;clear HB;clear HK;clear HO_6;clear HO178;clear HO181;have HI0:=n0_;have HO165:=n1_;have BK185:=n2_;have HB:=n3_;have HK:=n4_;have HO188:=n5_;clear n0_ n1_ n2_ n3_ n4_ n5_;clear ho hb hg hat)|((with_reducible refine zR (f:=28) rfl ?_);refine xN (some 61) rfl rfl Tryz.func28 (by kernel_rfl) rfl #[.pointer (some ⟨g,0,none⟩)] rfl jI ?_;(with_reducible refine(zM.calls kj8 g t183 t184 t189 t190 w0 _ ?side1 ?side2 A39.out).mono ?_);(case side1=>repeat (first|(with_reducible first|exact HI0.out|apply zE.alloc|apply zE.drewN|apply zE.drew|apply zE.xX|apply zE.xY|refine zE.far ?_ NB0_185.out _)|exact HI0.out));(case side2=>repeat (first|(with_reducible first|exact HB.out|apply zD|apply zH|apply zJ|refine zT ?_ (zE.ge HI0.out)|refine zT ?_ GE185.out)|exact HB.out));rintro e w52 ⟨rfl,hi,hb,hk⟩;refine⟨_,rfl,?_⟩;replace HO165:=zA.mk (Kd.xG (Kd.jL (zE.apart (show zE w0 _ g t183 t184 from by repeat (first|(with_reducible first|exact HI0.out|apply zE.alloc|apply zE.drewN|apply zE.drew|apply zE.xX|apply zE.xY|refine zE.far ?_ NB0_185.out _)|exact HI0.out)) QI (by decide)) hk (fun _ h=>h.2)) (fun _ h=>h.1));replace BK185:=zA.mk (zQ.blk hk (g':=gb185) (o := .cells #[.int .i64 t173, .int .i64 t174, .int .i64 t175, .slice Ao47 t176.length co47, .slice Ao48 t179.length co48] 38 (0,0)) zIh NB185_0.out (by simp));replace HO188:=zA.mk (Kd.xG (Kd.jL (zE.apart (show zE w0 _ g t183 t184 from by repeat (first|(with_reducible first|exact HI0.out|apply zE.alloc|apply zE.drewN|apply zE.drew|apply zE.xX|apply zE.xY|refine zE.far ?_ NB0_185.out _)|exact HI0.out)) Zq54 (by decide)) hk (fun _ h=>h.2)) (fun _ h=>h.1));replace HK:=zA.mk (zQ.trans zBa hk (.inl rfl));replace HB:=zA.mk (hb);replace HI0:=zA.mk (hi);(try clear hb);(try clear hb2);(try clear hk);(try clear hi))|((with_reducible refine zR (f:=71) rfl ?_);refine xN (some 63) rfl rfl Tryz.func71 (by kernel_rfl) rfl #[.pointer (some ⟨g,0,none⟩), .int .u8 125] rfl jI ?_;(with_reducible refine(zP.calls g t189 t190 125 t191 t192 t193 w0 _ ?side1 ?side2 A40.out).mono ?_);(case side1=>repeat (first|(with_reducible first|exact HI0.out|apply zE.alloc|apply zE.drewN|apply zE.drew|apply zE.xX|apply zE.xY|refine zE.far ?_ NB0_185.out _)|exact HI0.out));(case side2=>repeat (first|(with_reducible first|exact HB.out|apply zD|apply zH|apply zJ|refine zT ?_ (zE.ge HI0.out)|refine zT ?_ GE185.out)|exact HB.out));rintro e w53 ⟨rfl,hi,hb,hk⟩;refine⟨_,rfl,?_⟩;replace HO165:=zA.mk (Kd.xG (Kd.jL (zE.apart (show zE w0 _ g t189 t190 from by repeat (first|(with_reducible first|exact HI0.out|apply zE.alloc|apply zE.drewN|apply zE.drew|apply zE.xX|apply zE.xY|refine zE.far ?_ NB0_185.out _)|exact HI0.out)) QI (by decide)) hk (fun _ h=>h.2)) (fun _ h=>h.1));replace BK185:=zA.mk (zQ.blk hk (g':=gb185) (o := .cells #[.int .i64 t173, .int .i64 t174, .int .i64 t175, .slice Ao47 t176.length co47, .slice Ao48 t179.length co48] 38 (0,0)) zIh NB185_0.out (by simp));replace HO188:=zA.mk (Kd.xG (Kd.jL (zE.apart (show zE w0 _ g t189 t190 from by repeat (first|(with_reducible first|exact HI0.out|apply zE.alloc|apply zE.drewN|apply zE.drew|apply zE.xX|apply zE.xY|refine zE.far ?_ NB0_185.out _)|exact HI0.out)) Zq54 (by decide)) hk (fun _ h=>h.2)) (fun _ h=>h.1));replace HK:=zA.mk (zQ.trans zBa hk (.inl rfl));replace HB:=zA.mk (hb);replace HI0:=zA.mk (hi);(try clear hb);(try clear hb2);(try clear hk);(try clear hi)))
           (try simp only [Act.put,List.setIfInBounds_toArray,List.set_cons_zero,List.set_cons_succ])
           have H:=HC41.out
           clear HC41
           by_cases c54:t191=true
           ·
            subst c54
            rw [if_pos rfl] at H
            as_aux_lemma =>
             simp only [Option.some.injEq,Prod.mk.injEq] at H
             obtain⟨rfl,rfl,rfl,rfl,rfl⟩:=H
             go_wp2
             go_ret3
             exact⟨_,_,qW,by (with_reducible repeat (first|apply Kd.xJ|apply Kd.xK|apply Kd.xU));exact Kd.xG HO165.out (fun _ hk=>trivial),by (with_reducible repeat (first|apply Kd.xJ|apply Kd.xK|apply Kd.xU));exact Kd.xG HO188.out (fun _ hk=>hk.1),zIf,zIg,zBa⟩
           ·
            replace c54:=Bool.eq_false_iff.mpr c54
            subst c54
            rw [if_neg (show ¬ (false=true) by decide)] at H
            replace H:=Option.bind_eq_some_iff.mp H
            obtain⟨⟨t194,t195,t196⟩,A550,H⟩:=H
            try dsimp only at H
            have A55:=zA.mk A550
            clear A550
            have HC56:=zA.mk H
            clear H
            go_upto_if 68 with (first|((with_reducible refine zR (f:=71) rfl ?_);refine xN (some 67) rfl rfl Tryz.func71 (by kernel_rfl) rfl #[.pointer (some ⟨g,0,none⟩), .int .u8 44] rfl jI ?_;(with_reducible refine(zP.calls g t192 t193 44 t194 t195 t196 w0 _ ?side1 ?side2 A55.out).mono ?_);(case side1=>repeat (first|(with_reducible first|exact HI0.out|apply zE.alloc|apply zE.drewN|apply zE.drew|apply zE.xX|apply zE.xY|refine zE.far ?_ NB0_185.out _)|exact HI0.out));(case side2=>repeat (first|(with_reducible first|exact HB.out|apply zD|apply zH|apply zJ|refine zT ?_ (zE.ge HI0.out)|refine zT ?_ GE185.out)|exact HB.out));rintro e w57 ⟨rfl,hi,hb,hk⟩;refine⟨_,rfl,?_⟩;replace HO165:=zA.mk (Kd.xG (Kd.jL (zE.apart (show zE w0 _ g t192 t193 from by repeat (first|(with_reducible first|exact HI0.out|apply zE.alloc|apply zE.drewN|apply zE.drew|apply zE.xX|apply zE.xY|refine zE.far ?_ NB0_185.out _)|exact HI0.out)) QI (by decide)) hk (fun _ h=>h.2)) (fun _ h=>h.1));replace BK185:=zA.mk (zQ.blk hk (g':=gb185) (o := .cells #[.int .i64 t173, .int .i64 t174, .int .i64 t175, .slice Ao47 t176.length co47, .slice Ao48 t179.length co48] 38 (0,0)) zIh NB185_0.out (by simp));replace HO188:=zA.mk (Kd.xG (Kd.jL (zE.apart (show zE w0 _ g t192 t193 from by repeat (first|(with_reducible first|exact HI0.out|apply zE.alloc|apply zE.drewN|apply zE.drew|apply zE.xX|apply zE.xY|refine zE.far ?_ NB0_185.out _)|exact HI0.out)) Zq54 (by decide)) hk (fun _ h=>h.2)) (fun _ h=>h.1));replace HK:=zA.mk (zQ.trans zBa hk (.inl rfl));replace HB:=zA.mk (hb);replace HI0:=zA.mk (hi);(try clear hb);(try clear hb2);(try clear hk);(try clear hi)))
            (try simp only [Act.put,List.setIfInBounds_toArray,List.set_cons_zero,List.set_cons_succ])
            have H:=HC56.out
            clear HC56
            by_cases c58:t194=true
            ·
             subst c58
             rw [if_pos rfl] at H
             replace H:=Option.bind_eq_some_iff.mp H
             obtain⟨⟨t197,t198⟩,A590,H⟩:=H
             try dsimp only at H
             have A59:=zA.mk A590
             clear A590
             as_aux_lemma =>
              have H':=zA.mk H
              clear H
              go_wp2_with (first|((with_reducible refine zR (f:=28) rfl ?_);refine xN (some 70) rfl rfl Tryz.func28 (by kernel_rfl) rfl #[.pointer (some ⟨g,0,none⟩)] rfl jI ?_;(with_reducible refine(zM.calls kj8 g t195 t196 t197 t198 w0 _ ?side1 ?side2 A59.out).mono ?_);(case side1=>repeat (first|(with_reducible first|exact HI0.out|apply zE.alloc|apply zE.drewN|apply zE.drew|apply zE.xX|apply zE.xY|refine zE.far ?_ NB0_185.out _)|exact HI0.out));(case side2=>repeat (first|(with_reducible first|exact HB.out|apply zD|apply zH|apply zJ|refine zT ?_ (zE.ge HI0.out)|refine zT ?_ GE185.out)|exact HB.out));rintro e w60 ⟨rfl,hi,hb,hk⟩;refine⟨_,rfl,?_⟩;replace HO165:=zA.mk (Kd.xG (Kd.jL (zE.apart (show zE w0 _ g t195 t196 from by repeat (first|(with_reducible first|exact HI0.out|apply zE.alloc|apply zE.drewN|apply zE.drew|apply zE.xX|apply zE.xY|refine zE.far ?_ NB0_185.out _)|exact HI0.out)) QI (by decide)) hk (fun _ h=>h.2)) (fun _ h=>h.1));replace BK185:=zA.mk (zQ.blk hk (g':=gb185) (o := .cells #[.int .i64 t173, .int .i64 t174, .int .i64 t175, .slice Ao47 t176.length co47, .slice Ao48 t179.length co48] 38 (0,0)) zIh NB185_0.out (by simp));replace HO188:=zA.mk (Kd.xG (Kd.jL (zE.apart (show zE w0 _ g t195 t196 from by repeat (first|(with_reducible first|exact HI0.out|apply zE.alloc|apply zE.drewN|apply zE.drew|apply zE.xX|apply zE.xY|refine zE.far ?_ NB0_185.out _)|exact HI0.out)) Zq54 (by decide)) hk (fun _ h=>h.2)) (fun _ h=>h.1));replace HK:=zA.mk (zQ.trans zBa hk (.inl rfl));replace HB:=zA.mk (hb);replace HI0:=zA.mk (hi);(try clear hb);(try clear hb2);(try clear hk);(try clear hi)))
              go_roundg kj8
              case measure=>have:=HK1.out;have:=HJ8.out;omega
              case rel=>exact⟨(y163),(y186),(t197),(t198),H',⟨by have:=HK1.out;have:=HJ8.out;omega⟩,⟨by (with_reducible repeat (first|apply Kd.xJ|apply Kd.xK|apply Kd.xU));exact Kd.xG HO165.out (fun _ hk=>trivial)⟩,⟨by (with_reducible repeat (first|apply Kd.xJ|apply Kd.xK|apply Kd.xU));exact Kd.xG HO188.out (fun _ hk=>hk.1)⟩,⟨zIf⟩,⟨zBa⟩,⟨zIg⟩⟩
            ·
             replace c58:=Bool.eq_false_iff.mpr c58
             subst c58
             rw [if_neg (show ¬ (false=true) by decide)] at H
             as_aux_lemma =>
              simp only [Option.some.injEq,Prod.mk.injEq] at H
              obtain⟨rfl,rfl,rfl,rfl,rfl⟩:=H
              go_wp2
              go_ret3
              exact⟨_,_,qW,wT,wT,zIf,zIg,zBa⟩
          ·
           rw [if_neg c38] at H
           exact absurd H (by simp)
         ·
          replace c37:=Bool.eq_false_iff.mpr c37
          subst c37
          rw [if_neg (show ¬ (false=true) by decide)] at H
          as_aux_lemma =>
           simp only [Option.some.injEq,Prod.mk.injEq] at H
           obtain⟨rfl,rfl,rfl,rfl,rfl⟩:=H
           go_wp2_with (first|((with_reducible refine zR (f:=28) rfl ?_);refine xN (some 48) rfl rfl Tryz.func28 (by kernel_rfl) rfl #[.pointer (some ⟨g,0,none⟩)] rfl jI ?_;(with_reducible refine(zM.calls kj8 g t169 t170 t171 t172 w0 _ ?side1 ?side2 A27.out).mono ?_);(case side1=>repeat (first|(with_reducible first|exact HI0.out|apply zE.alloc|apply zE.drewN|apply zE.drew|apply zE.xX|apply zE.xY)|exact HI0.out));(case side2=>repeat (first|(with_reducible first|exact HB.out|apply zD|apply zH|apply zJ|refine zT ?_ (zE.ge HI0.out))|exact HB.out));rintro e w61 ⟨rfl,hi,hb,hk⟩;refine⟨_,rfl,?_⟩;replace HO_6:=zA.mk (Kd.xG (Kd.jL (zE.apart (show zE w0 _ g t169 t170 from by repeat (first|(with_reducible first|exact HI0.out|apply zE.alloc|apply zE.drewN|apply zE.drew|apply zE.xX|apply zE.xY)|exact HI0.out)) YV (by decide)) hk (fun _ h=>h.2)) (fun _ h=>h.1));replace HO165:=zA.mk (Kd.xG (Kd.jL (zE.apart (show zE w0 _ g t169 t170 from by repeat (first|(with_reducible first|exact HI0.out|apply zE.alloc|apply zE.drewN|apply zE.drew|apply zE.xX|apply zE.xY)|exact HI0.out)) QI (by decide)) hk (fun _ h=>h.2)) (fun _ h=>h.1));replace HK:=zA.mk (zQ.trans vT hk (.inl rfl));replace HB:=zA.mk (hb);replace HI0:=zA.mk (hi);(try clear hb);(try clear hb2);(try clear hk);(try clear hi))|((with_reducible refine zR (f:=29) rfl ?_);refine xN (some 51) rfl rfl Tryz.func29 (by kernel_rfl) rfl #[.pointer (some ⟨g,0,none⟩)] rfl jI ?_;(with_reducible refine(ih_spec_reader_value kj8 (by have:=HK1.out;have:=HJ8.out;omega) g t171 t172 t173 t174 t175 t176 t179 false t183 t184 w0 _ ?side1 ?side2 A28.out).mono ?_);(case side1=>repeat (first|(with_reducible first|exact HI0.out|apply zE.alloc|apply zE.drewN|apply zE.drew|apply zE.xX|apply zE.xY)|exact HI0.out));(case side2=>repeat (first|(with_reducible first|exact HB.out|apply zD|apply zH|apply zJ|refine zT ?_ (zE.ge HI0.out))|exact HB.out));rintro e w62 ⟨v177,v180,rfl,ho0,ho1,hi,hb,hk⟩;refine⟨_,rfl,?_⟩;have n0_:=zA.mk (Kd.xG (Kd.kR (Kd.kR (Kd.VS (zE.apart (show zE w0 _ g t171 t172 from by repeat (first|(with_reducible first|exact HI0.out|apply zE.alloc|apply zE.drewN|apply zE.drew|apply zE.xX|apply zE.xY)|exact HI0.out)) YV (by decide)) hk) (Kd.yB ho0)) (Kd.yB ho1)) (fun _ h_=>h_.1));have n1_:=zA.mk (Kd.xG (Kd.kR (Kd.VS (zE.apart (show zE w0 _ g t171 t172 from by repeat (first|(with_reducible first|exact HI0.out|apply zE.alloc|apply zE.drewN|apply zE.drew|apply zE.xX|apply zE.xY)|exact HI0.out)) QI (by decide)) hk) (Kd.yB ho0)) (fun _ h_=>h_.1));have n2_:=zA.mk (Kd.jN (Kd.yV ho0 (Kd.X8 QI)) (vG (w:=w) (g:=g) (row:=none) vT));have n3_:=zA.mk (Kd.jN (Kd.yV (Kd.yV ho1 (Kd.X8 YV)) (Kd.X8 QI)) (vG (w:=w) (g:=g) (row:=none) vT));have n4_:=zA.mk (zQ.trans vT hk (.inl rfl));have n5_:=zA.mk (hb);have n6_:=zA.mk (hi);clear HO_6;clear HO165;clear HK;clear HB;clear HI0;have HO_6:=n0_;have HO165:=n1_;have HO178:=n2_;have HO181:=n3_;have HK:=n4_;have HB:=n5_;have HI0:=n6_;clear n0_ n1_ n2_ n3_ n4_ n5_ n6_;(try clear hb);(try clear hb2);(try clear hk);(try clear hi);(try clear ho0);(try clear ho1))|((with_reducible refine jB (N:=8) rfl ?_);refine jS ?hg (N:=8) ?hd (cs:=#[.int .i64 0, .int .i64 0, .int .i64 0, .slice none 0 0, .slice none 0 0]) (t:=38) ?hr ?_;(case hd=>rfl);(case hg=>rfl);(case hr=>first|(go_simp;done)|(go_simp;rfl));intro gb185 hg w63 hbox hb;have n0_:=zA.mk (Kd.vS (Kd.y8 YV gb185 (Nat.le_of_eq hg.symm)) hb);have n1_:=zA.mk (Kd.vS QI hb);have n2_:=zA.mk (Kd.vS (by (with_reducible repeat (first|apply Kd.xJ|apply Kd.xK|apply Kd.xU));exact HO178.out) hb);have n3_:=zA.mk (Kd.vS (Kd.y8 (by (with_reducible repeat (first|apply Kd.xJ|apply Kd.xK|apply Kd.xU));exact HO181.out) gb185 (Nat.le_of_eq hg.symm)) hb);have n4_:=zA.mk (zE.below qS hb);have n5_:=zA.mk (zQ.trans vT (zQ.vL hb g none) (.inl rfl));have n6_:=zA.mk (vB qT hb);have n7_:=zA.mk (hbox);have n8_:=zA.mk ((by rw [hg];exact(vG (w:=w) (g:=g) (row:=none) vT):w.heap.size≤gb185));have n9_:=zA.mk ((Nat.le_trans HW0.out (by rw [hg];exact(vG (w:=w) (g:=g) (row:=none) vT):w.heap.size≤gb185):w0.heap.size≤gb185));have n10_:=zA.mk ((by rw [hg];exact Nat.ne_of_lt (zE.lt (show zE w0 _ g t183 t184 from by repeat (first|(with_reducible first|exact HI0.out|apply zE.alloc|apply zE.drewN|apply zE.drew|apply zE.xX|apply zE.xY)|exact HI0.out))):g≠gb185));have n11_:=zA.mk ((by rw [hg];exact Nat.ne_of_gt (zE.lt (show zE w0 _ g t183 t184 from by repeat (first|(with_reducible first|exact HI0.out|apply zE.alloc|apply zE.drewN|apply zE.drew|apply zE.xX|apply zE.xY)|exact HI0.out))):gb185≠g));clear HO_6;clear HO165;clear HO178;clear HO181;clear HI0;clear HK;clear HB;have HO_6:=n0_;have HO165:=n1_;have HO178:=n2_;have HO181:=n3_;have HI0:=n4_;have HK:=n5_;have HB:=n6_;have BK185:=n7_;have GW185:=n8_;have GE185:=n9_;have NB0_185:=n10_;have NB185_0:=n11_;clear n0_ n1_ n2_ n3_ n4_ n5_ n6_ n7_ n8_ n9_ n10_ n11_;clear hb hbox hg;have hnb64:=NB185_0.out;have hnc64:=NB0_185.out;have hcz65_0:w63.cell? ⟨gb185,0,none⟩=some (.int .i64 0):=(zB BK185.out 0).trans rfl;have hcz65_1:w63.cell? ⟨gb185,1,none⟩=some (.int .i64 0):=(zB BK185.out 1).trans rfl;have hcz65_2:w63.cell? ⟨gb185,2,none⟩=some (.int .i64 0):=(zB BK185.out 2).trans rfl;have hcz65_3:w63.cell? ⟨gb185,3,none⟩=some (.slice none 0 0):=(zB BK185.out 3).trans rfl;have hcz65_4:w63.cell? ⟨gb185,4,none⟩=some (.slice none 0 0):=(zB BK185.out 4).trans rfl;have hfz65_0:=zC BK185.out 0;have hfz65_1:=zC BK185.out 1;have hfz65_2:=zC BK185.out 2;have hfz65_3:=zC BK185.out 3;have hfz65_4:=zC BK185.out 4;obtain⟨Ao66,co66,eo66⟩:=Kd.vJ HO178.out;subst eo66;obtain⟨Ao67,co67,eo67⟩:=Kd.vJ HO181.out;subst eo67))
           go_ret3
           exact⟨_,_,qW,wT,wT,zIf,zIg,zBa⟩
        ·
         replace c26:=Bool.eq_false_iff.mpr c26
         subst c26
         rw [if_neg (show ¬ (false=true) by decide)] at H
         as_aux_lemma =>
          simp only [Option.some.injEq,Prod.mk.injEq] at H
          obtain⟨rfl,rfl,rfl,rfl,rfl⟩:=H
          go_wp2
          go_ret3
          exact⟨_,_,qW,wT,wT,qS,qT,vT⟩
       ·
        rw [if_neg c18] at H
        exact absurd H (by simp)
theorem zS.step (k:Nat) (ih_spec_reader_members:∀ m,m < k+1→∀ (g:Nat) (s0_0:ByteArray) (s0_1:Int) (r1:List (S47)) (r2:List (S38)) (r3:Bool) (r4:ByteArray) (r5:Int) (w0 w:World) (hI:zE w0 w g s0_0 s0_1) (hB:Below w0.heap.size w0 w) (h:zL.f m s0_0 s0_1=some (r1,r2,r3,r4,r5)),
  Calls Tryz.prog 50 #[.pointer (some ⟨g,0,none⟩)] w fun e w'=>∃ v0_ v1_:Value,e = .returned (.tuple #[v0_,v1_, .bool r3])∧Kd.R k47 47 w' w.heap.size (fun _=>True) v0_ r1∧Kd.R k38 38 w' w.heap.size (fun k_=>some k_≠(v0_:Value).ownBlock) v1_ r2∧zE w0 w' g r4 r5∧Below w0.heap.size w0 w'∧zQ w w' g none) (ih_spec_reader_elements:∀ m,m < k+1→∀ (g:Nat) (s0_0:ByteArray) (s0_1:Int) (r1:List (S38)) (r2:Bool) (r3:ByteArray) (r4:Int) (w0 w:World) (hI:zE w0 w g s0_0 s0_1) (hB:Below w0.heap.size w0 w) (h:zS.f m s0_0 s0_1=some (r1,r2,r3,r4)),
  Calls Tryz.prog 51 #[.pointer (some ⟨g,0,none⟩)] w fun e w'=>∃ v0_:Value,e = .returned (.tuple #[v0_, .bool r2])∧Kd.R k38 38 w' w.heap.size (fun _=>True) v0_ r1∧zE w0 w' g r3 r4∧Below w0.heap.size w0 w'∧zQ w w' g none) (ih_spec_reader_value:∀ m,m < k+1→∀ (g:Nat) (s0_0:ByteArray) (s0_1:Int) (r1:Int) (r2:Int) (r3:Int) (r4:List (S47)) (r5:List (S38)) (r6:Bool) (r7:ByteArray) (r8:Int) (w0 w:World) (hI:zE w0 w g s0_0 s0_1) (hB:Below w0.heap.size w0 w) (h:zO.f m s0_0 s0_1=some (r1,r2,r3,r4,r5,r6,r7,r8)),
  Calls Tryz.prog 29 #[.pointer (some ⟨g,0,none⟩)] w fun e w'=>∃ v3_ v4_:Value,e = .returned (.tuple #[.agg #[.int .i64 r1, .int .i64 r2, .int .i64 r3,v3_,v4_], .bool r6])∧Kd.R k47 47 w' w.heap.size (fun _=>True) v3_ r4∧Kd.R k38 38 w' w.heap.size (fun k_=>some k_≠(v3_:Value).ownBlock) v4_ r5∧zE w0 w' g r7 r8∧Below w0.heap.size w0 w'∧zQ w w' g none):∀ (g:Nat) (s0_0:ByteArray) (s0_1:Int) (r1:List (S38)) (r2:Bool) (r3:ByteArray) (r4:Int) (w0 w:World) (hI:zE w0 w g s0_0 s0_1) (hB:Below w0.heap.size w0 w) (h:zS.f (k+1) s0_0 s0_1=some (r1,r2,r3,r4)),
  Calls Tryz.prog 51 #[.pointer (some ⟨g,0,none⟩)] w fun e w'=>∃ v0_:Value,e = .returned (.tuple #[v0_, .bool r2])∧Kd.R k38 38 w' w.heap.size (fun _=>True) v0_ r1∧zE w0 w' g r3 r4∧Below w0.heap.size w0 w'∧zQ w w' g none:=by
 intro g s0_0 s0_1 r1 r2 r3 r4 w0 w hI hB h
 simp only [zS.f] at h
 have hu38:=Tryz.underlying38
 have HI0:=zA.mk hI
 have HK:=zA.mk (zQ.refl w g none)
 have HL:=zA.mk hB.size
 clear hI
 have HW0:=zA.mk hB.size
 have HB:=zA.mk hB
 clear hB
 have H:((zM.f k s0_0 (wrap64 (s0_1+1))).bind fun bt199=>((zP.f bt199.1 bt199.2 93).bind fun bt201=>(if bt201.1=true then (some (([]:List (S38)),true,bt201.2.1,bt201.2.2)) else (zS.l0 k ([]:List (S38)) bt201.2.1 bt201.2.2))))=some (r1,r2,r3,r4):=h
 clear h
 replace H:=Option.bind_eq_some_iff.mp H
 obtain⟨⟨t199,t200⟩,A20,H⟩:=H
 try dsimp only at H
 have A2:=zA.mk A20
 clear A20
 replace H:=Option.bind_eq_some_iff.mp H
 obtain⟨⟨t201,t202,t203⟩,A30,H⟩:=H
 try dsimp only at H
 have A3:=zA.mk A30
 clear A30
 have HC4:=zA.mk H
 clear H
 obtain⟨HGz5,hgz5⟩:=HI0.out
 have hcz5_0:=xS HGz5
 have hcz5_1:=xT HGz5
 have hfz5_0:=zC HGz5 0
 have hfz5_1:=zC HGz5 1
 clear HGz5 hgz5
 go_enter Tryz.func51,Tryz.ntmps51
 go_upto_if 17 with (first|((with_reducible refine zR (f:=28) rfl ?_);refine xN (some 15) rfl rfl Tryz.func28 (by kernel_rfl) rfl #[.pointer (some ⟨g,0,none⟩)] rfl jI ?_;(with_reducible refine(zM.calls k g s0_0 (wrap64 (s0_1+1)) t199 t200 w0 _ ?side1 ?side2 A2.out).mono ?_);(case side1=>repeat (first|(with_reducible first|exact HI0.out|apply zE.alloc|apply zE.drewN|apply zE.drew|apply zE.xX|apply zE.xY)|exact HI0.out));(case side2=>repeat (first|(with_reducible first|exact HB.out|apply zD|apply zH|apply zJ|refine zT ?_ (zE.ge HI0.out))|exact HB.out));rintro e w6 ⟨rfl,hi,hb,hk⟩;refine⟨_,rfl,?_⟩;replace HK:=zA.mk (zQ.trans vT hk (.inl rfl));replace HB:=zA.mk (hb);replace HI0:=zA.mk (hi);(try clear hb);(try clear hb2);(try clear hk);(try clear hi))|((with_reducible refine zR (f:=71) rfl ?_);refine xN (some 17) rfl rfl Tryz.func71 (by kernel_rfl) rfl #[.pointer (some ⟨g,0,none⟩), .int .u8 93] rfl jI ?_;(with_reducible refine(zP.calls g t199 t200 93 t201 t202 t203 w0 _ ?side1 ?side2 A3.out).mono ?_);(case side1=>repeat (first|(with_reducible first|exact HI0.out|apply zE.alloc|apply zE.drewN|apply zE.drew|apply zE.xX|apply zE.xY)|exact HI0.out));(case side2=>repeat (first|(with_reducible first|exact HB.out|apply zD|apply zH|apply zJ|refine zT ?_ (zE.ge HI0.out))|exact HB.out));rintro e w7 ⟨rfl,hi,hb,hk⟩;refine⟨_,rfl,?_⟩;replace HK:=zA.mk (zQ.trans vT hk (.inl rfl));replace HB:=zA.mk (hb);replace HI0:=zA.mk (hi);(try clear hb);(try clear hb2);(try clear hk);(try clear hi)))
 (try simp only [Act.put,List.setIfInBounds_toArray,List.set_cons_zero,List.set_cons_succ])
 have H:=HC4.out
 clear HC4
 by_cases c8:t201=true
 ·
  subst c8
  rw [if_pos rfl] at H
  as_aux_lemma =>
   simp only [Option.some.injEq,Prod.mk.injEq] at H
   obtain⟨rfl,rfl,rfl,rfl⟩:=H
   go_wp2
   go_ret2
   exact⟨_,qW,wT,qS,qT,vT⟩
 ·
  replace c8:=Bool.eq_false_iff.mpr c8
  subst c8
  rw [if_neg (show ¬ (false=true) by decide)] at H
  have H':=zA.mk H
  clear H
  go_wp2
  (try simp only [Act.put,List.setIfInBounds_toArray,List.set_cons_succ,List.set_cons_zero])
  go_loopg [4] k (fun kq v4 w'=>∃ (x4_1:List (S38)) (x1000_1:ByteArray) (x1001_1:Int),zA (zS.l0 kq x4_1 x1000_1 x1001_1=some (r1,r2,r3,r4))∧zA (kq≤k)∧zA (Kd.R k38 38 w' w.heap.size (fun _=>True) v4 x4_1)∧zA (zE w0 w' g x1000_1 x1001_1)∧zA (zQ w w' g none)∧zA (Below w0.heap.size w0 w'))
  case atStart=>exact⟨(([]:List (S38))),(t202),(t203),H',⟨Nat.le_refl _⟩,⟨wT⟩,⟨qS⟩,⟨vT⟩,⟨qT⟩⟩
  case round =>
   clear H'
   try clear c2
   try clear p2
   try clear c5
   try clear p6
   try clear c7
   try clear c8
   try clear hcz5_0
   try clear hcz5_1
   try clear hfz5_0
   try clear hfz5_1
   obtain⟨x4_1,x1000_1,x1001_1,HA,HK1,HO_4,HI0,HK,HB⟩:=hrel
   cases gk with
   | zero=>exact absurd HA.out (by simp [zS.l0])
   | succ k1 =>
    have H:=HA.out
    clear HA
    simp only [zS.l0] at H
    replace H:=Option.bind_eq_some_iff.mp H
    obtain⟨⟨t204,t205,t206,t207,t210,t213,t214,t215⟩,A90,H⟩:=H
    try dsimp only at H
    have A9:=zA.mk A90
    clear A90
    by_cases c17:t213=true
    ·
     subst c17
     rw [if_pos rfl] at H
     by_cases c18:x4_1.length < 1954687338268
     ·
      rw [if_pos c18] at H
      have LMc18:=zA.mk c18
      clear c18
      obtain⟨y217,hy217⟩:∃ y_:List (S38),y_=(x4_1 ++ [(⟨t204,t205,t206,t207,t210⟩:S38)]):=⟨_,rfl⟩
      replace H:((zM.f k1 t214 t215).bind fun bt220=>((zP.f bt220.1 bt220.2 93).bind fun bt222=>(if bt222.1=true then (some (y217,true,bt222.2.1,bt222.2.2)) else ((zP.f bt222.2.1 bt222.2.2 44).bind fun bt225=>(if bt225.1=true then ((zM.f k1 bt225.2.1 bt225.2.2).bind fun bt228=>(zS.l0 k1 y217 bt228.1 bt228.2)) else (some (([]:List (S38)),false,bt225.2.1,bt225.2.2)))))))=some (r1,r2,r3,r4):=by first|(rw [hy217];with_reducible exact H)|(have H2_:=(Option.bind_some _ _).symm.trans H;rw [hy217];with_reducible exact H2_)|(have H2_:=(Option.bind_some _ _).symm.trans H;with_reducible exact H2_)|with_reducible exact H|(rw [hy217];exact H)|exact H
      have Ny217:=zA.mk hy217
      clear hy217
      replace H:=Option.bind_eq_some_iff.mp H
      obtain⟨⟨t220,t221⟩,A190,H⟩:=H
      try dsimp only at H
      have A19:=zA.mk A190
      clear A190
      replace H:=Option.bind_eq_some_iff.mp H
      obtain⟨⟨t222,t223,t224⟩,A200,H⟩:=H
      try dsimp only at H
      have A20:=zA.mk A200
      clear A200
      have HC21:=zA.mk H
      clear H
      go_upto_if 32 with (first|((with_reducible refine zR (f:=29) rfl ?_);refine xN (some 20) rfl rfl Tryz.func29 (by kernel_rfl) rfl #[.pointer (some ⟨g,0,none⟩)] rfl jI ?_;(with_reducible refine(ih_spec_reader_value k1 VU g x1000_1 x1001_1 t204 t205 t206 t207 t210 true t214 t215 w0 _ ?side1 ?side2 A9.out).mono ?_);(case side1=>repeat (first|(with_reducible first|exact HI0.out|apply zE.alloc|apply zE.drewN|apply zE.drew|apply zE.xX|apply zE.xY)|exact HI0.out));(case side2=>repeat (first|(with_reducible first|exact HB.out|apply zD|apply zH|apply zJ|refine zT ?_ (zE.ge HI0.out))|exact HB.out));rintro e w22 ⟨v208,v211,rfl,ho0,ho1,hi,hb,hk⟩;refine⟨_,rfl,?_⟩;have n0_:=zA.mk (Kd.xG (Kd.kR (Kd.kR (Kd.VS (zE.apart (show zE w0 _ g x1000_1 x1001_1 from by repeat (first|(with_reducible first|exact HI0.out|apply zE.alloc|apply zE.drewN|apply zE.drew|apply zE.xX|apply zE.xY)|exact HI0.out)) zIi (by decide)) hk) (Kd.yB ho0)) (Kd.yB ho1)) (fun _ h_=>h_.1));have n1_:=zA.mk (Kd.jN ho0 (vG (w:=w) (g:=g) (row:=none) vT));have n2_:=zA.mk (Kd.jN (Kd.yV ho1 (Kd.X8 zIi)) (vG (w:=w) (g:=g) (row:=none) vT));have n3_:=zA.mk (zQ.trans vT hk (.inl rfl));have n4_:=zA.mk (hb);have n5_:=zA.mk (hi);clear HO_4;clear HK;clear HB;clear HI0;have HO_4:=n0_;have HO209:=n1_;have HO212:=n2_;have HK:=n3_;have HB:=n4_;have HI0:=n5_;clear n0_ n1_ n2_ n3_ n4_ n5_;(try clear hb);(try clear hb2);(try clear hk);(try clear hi);(try clear ho0);(try clear ho1))|((with_reducible refine jB (N:=5) rfl ?_);refine jS ?hg (N:=5) ?hd (cs:=#[.int .i64 0, .int .i64 0, .int .i64 0, .slice none 0 0, .slice none 0 0]) (t:=38) ?hr ?_;(case hd=>rfl);(case hg=>rfl);(case hr=>first|(go_simp;done)|(go_simp;rfl));intro gb216 hg w23 hbox hb;have n0_:=zA.mk (Kd.vS (Kd.y8 zIi gb216 (Nat.le_of_eq hg.symm)) hb);have n1_:=zA.mk (Kd.vS (by (with_reducible repeat (first|apply Kd.xJ|apply Kd.xK|apply Kd.xU));exact HO209.out) hb);have n2_:=zA.mk (Kd.vS (Kd.y8 (by (with_reducible repeat (first|apply Kd.xJ|apply Kd.xK|apply Kd.xU));exact HO212.out) gb216 (Nat.le_of_eq hg.symm)) hb);have n3_:=zA.mk (zE.below qS hb);have n4_:=zA.mk (zQ.trans vT (zQ.vL hb g none) (.inl rfl));have n5_:=zA.mk (vB qT hb);have n6_:=zA.mk (hbox);have n7_:=zA.mk ((by rw [hg];exact(vG (w:=w) (g:=g) (row:=none) vT):w.heap.size≤gb216));have n8_:=zA.mk ((Nat.le_trans HW0.out (by rw [hg];exact(vG (w:=w) (g:=g) (row:=none) vT):w.heap.size≤gb216):w0.heap.size≤gb216));have n9_:=zA.mk ((by rw [hg];exact Nat.ne_of_lt (zE.lt (show zE w0 _ g t214 t215 from by repeat (first|(with_reducible first|exact HI0.out|apply zE.alloc|apply zE.drewN|apply zE.drew|apply zE.xX|apply zE.xY)|exact HI0.out))):g≠gb216));have n10_:=zA.mk ((by rw [hg];exact Nat.ne_of_gt (zE.lt (show zE w0 _ g t214 t215 from by repeat (first|(with_reducible first|exact HI0.out|apply zE.alloc|apply zE.drewN|apply zE.drew|apply zE.xX|apply zE.xY)|exact HI0.out))):gb216≠g));clear HO_4;clear HO209;clear HO212;clear HI0;clear HK;clear HB;have HO_4:=n0_;have HO209:=n1_;have HO212:=n2_;have HI0:=n3_;have HK:=n4_;have HB:=n5_;have BK216:=n6_;have GW216:=n7_;have GE216:=n8_;have NB0_216:=n9_;have NB216_0:=n10_;clear n0_ n1_ n2_ n3_ n4_ n5_ n6_ n7_ n8_ n9_ n10_;clear hb hbox hg;have hnb24:=NB216_0.out;have hnc24:=NB0_216.out;have hcz25_0:w23.cell? ⟨gb216,0,none⟩=some (.int .i64 0):=(zB BK216.out 0).trans rfl;have hcz25_1:w23.cell? ⟨gb216,1,none⟩=some (.int .i64 0):=(zB BK216.out 1).trans rfl;have hcz25_2:w23.cell? ⟨gb216,2,none⟩=some (.int .i64 0):=(zB BK216.out 2).trans rfl;have hcz25_3:w23.cell? ⟨gb216,3,none⟩=some (.slice none 0 0):=(zB BK216.out 3).trans rfl;have hcz25_4:w23.cell? ⟨gb216,4,none⟩=some (.slice none 0 0):=(zB BK216.out 4).trans rfl;have hfz25_0:=zC BK216.out 0;have hfz25_1:=zC BK216.out 1;have hfz25_2:=zC BK216.out 2;have hfz25_3:=zC BK216.out 3;have hfz25_4:=zC BK216.out 4;obtain⟨Ao26,co26,eo26⟩:=Kd.vJ HO209.out;subst eo26;obtain⟨Ao27,co27,eo27⟩:=Kd.vJ HO212.out;subst eo27)|((with_reducible refine V6 (t:=38) (p:=5) rfl ?_);refine XZ (t:=38) (p:=5) (v:=?vo_w28) (w1:=(((((w23.setCell ⟨gb216,0,none⟩ (.int .i64 t204)).setCell ⟨gb216,1,none⟩ (.int .i64 t205)).setCell ⟨gb216,2,none⟩ (.int .i64 t206)).setCell ⟨gb216,3,none⟩ (.slice Ao26 t207.length co26)).setCell ⟨gb216,4,none⟩ (.slice Ao27 t210.length co27))) ?hg ?ho ?hn ?hr ?_;(case ho=>rfl);(case hg=>rfl);(case hn=>rfl);(case hr=>first|(go_simp;done)|(go_simp;rfl));intro w28 hw;have n0_:zA (Kd.R k38 38 w28 w.heap.size (fun k_=>some k_≠(.slice Ao26 t207.length co26:Value).ownBlock∧some k_≠(.slice Ao27 t210.length co27:Value).ownBlock∧k_≠gb216) u4 x4_1):=⟨(by rw [hw];exact(by (with_reducible repeat (first|apply Kd.xJ|apply Kd.xK|apply Kd.xU));exact Kd.xG (Kd.vE (p:=⟨gb216,4,none⟩) (Kd.vE (p:=⟨gb216,3,none⟩) (Kd.vE (p:=⟨gb216,2,none⟩) (Kd.vE (p:=⟨gb216,1,none⟩) (Kd.vE (p:=⟨gb216,0,none⟩) (Kd.xG HO_4.out (fun k_ hk=>(⟨hk,hk.2⟩:_∧k_≠gb216))) (fun _ hk=>hk.2) (.int .i64 t204)) (fun _ hk=>hk.2) (.int .i64 t205)) (fun _ hk=>hk.2) (.int .i64 t206)) (fun _ hk=>hk.2) (.slice Ao26 t207.length co26)) (fun _ hk=>hk.2) (.slice Ao27 t210.length co27)) (fun _ hk=>⟨hk.1.1.1.2,⟨hk.1.1.2,hk.1.2⟩⟩)))⟩;have n1_:zA (Kd.R k47 47 w28 w.heap.size (fun _=>True) (.slice Ao26 t207.length co26) t207):=⟨(by rw [hw];exact(by (with_reducible repeat (first|apply Kd.xJ|apply Kd.xK|apply Kd.xU));exact Kd.xG (Kd.vE (p:=⟨gb216,4,none⟩) (Kd.vE (p:=⟨gb216,3,none⟩) (Kd.vE (p:=⟨gb216,2,none⟩) (Kd.vE (p:=⟨gb216,1,none⟩) (Kd.vE (p:=⟨gb216,0,none⟩) (Kd.yC HO209.out BK216.out (by decide)) (fun _ hk=>hk.2) (.int .i64 t204)) (fun _ hk=>hk.2) (.int .i64 t205)) (fun _ hk=>hk.2) (.int .i64 t206)) (fun _ hk=>hk.2) (.slice Ao26 t207.length co26)) (fun _ hk=>hk.2) (.slice Ao27 t210.length co27)) (fun _ hk=>trivial)))⟩;have n2_:zA (Kd.R k38 38 w28 w.heap.size (fun k_=>some k_≠(u4:Value).ownBlock∧some k_≠(.slice Ao26 t207.length co26:Value).ownBlock∧k_≠gb216) (.slice Ao27 t210.length co27) t210):=⟨(by rw [hw];exact(by (with_reducible repeat (first|apply Kd.xJ|apply Kd.xK|apply Kd.xU));exact Kd.xG (Kd.vE (p:=⟨gb216,4,none⟩) (Kd.vE (p:=⟨gb216,3,none⟩) (Kd.vE (p:=⟨gb216,2,none⟩) (Kd.vE (p:=⟨gb216,1,none⟩) (Kd.vE (p:=⟨gb216,0,none⟩) (Kd.xG HO212.out (fun k_ hk=>(⟨hk,hk.2⟩:_∧k_≠gb216))) (fun _ hk=>hk.2) (.int .i64 t204)) (fun _ hk=>hk.2) (.int .i64 t205)) (fun _ hk=>hk.2) (.int .i64 t206)) (fun _ hk=>hk.2) (.slice Ao26 t207.length co26)) (fun _ hk=>hk.2) (.slice Ao27 t210.length co27)) (fun _ hk=>⟨hk.1.1.2,⟨hk.1.1.1,hk.1.2⟩⟩)))⟩;have n3_:zA (w28.heap[gb216]?=some (.cells #[.int .i64 t204, .int .i64 t205, .int .i64 t206, .slice Ao26 t207.length co26, .slice Ao27 t210.length co27] 38 (0,0))):=⟨(by rw [hw];exact(by (with_reducible repeat (first|refine zG ?_ _|refine zI ?_|refine zF ?_ _));refine zX (cs:=#[.int .i64 t204, .int .i64 t205, .int .i64 t206, .slice Ao26 t207.length co26, .slice none 0 0]) ?_ 4 _ rfl;(with_reducible repeat (first|refine zG ?_ _|refine zI ?_|refine zF ?_ _));refine zX (cs:=#[.int .i64 t204, .int .i64 t205, .int .i64 t206, .slice none 0 0, .slice none 0 0]) ?_ 3 _ rfl;(with_reducible repeat (first|refine zG ?_ _|refine zI ?_|refine zF ?_ _));refine zX (cs:=#[.int .i64 t204, .int .i64 t205, .int .i64 0, .slice none 0 0, .slice none 0 0]) ?_ 2 _ rfl;(with_reducible repeat (first|refine zG ?_ _|refine zI ?_|refine zF ?_ _));refine zX (cs:=#[.int .i64 t204, .int .i64 0, .int .i64 0, .slice none 0 0, .slice none 0 0]) ?_ 1 _ rfl;(with_reducible repeat (first|refine zG ?_ _|refine zI ?_|refine zF ?_ _));refine zX (cs:=#[.int .i64 0, .int .i64 0, .int .i64 0, .slice none 0 0, .slice none 0 0]) ?_ 0 _ rfl;(with_reducible repeat (first|refine zG ?_ _|refine zI ?_|refine zF ?_ _));exact BK216.out))⟩;have n4_:zA (zE w0 w28 g t214 t215):=⟨(by rw [hw];exact zIj)⟩;have n5_:zA (zQ w w28 g none):=⟨(by rw [hw];exact zBb)⟩;have n6_:zA (Below w0.heap.size w0 w28):=⟨(by rw [hw];exact zIk)⟩;clear hw;clear HO_4;clear HO209;clear HO212;clear BK216;clear HI0;clear HK;clear HB;have HO_4:=n0_;have HO209:=n1_;have HO212:=n2_;have BK216:=n3_;have HI0:=n4_;have HK:=n5_;have HB:=n6_;clear n0_ n1_ n2_ n3_ n4_ n5_ n6_;have hcz29_0:w28.cell? ⟨gb216,0,none⟩=some (.int .i64 t204):=(zB BK216.out 0).trans rfl;have hcz29_1:w28.cell? ⟨gb216,1,none⟩=some (.int .i64 t205):=(zB BK216.out 1).trans rfl;have hcz29_2:w28.cell? ⟨gb216,2,none⟩=some (.int .i64 t206):=(zB BK216.out 2).trans rfl;have hcz29_3:w28.cell? ⟨gb216,3,none⟩=some (.slice Ao26 t207.length co26):=(zB BK216.out 3).trans rfl;have hcz29_4:w28.cell? ⟨gb216,4,none⟩=some (.slice Ao27 t210.length co27):=(zB BK216.out 4).trans rfl;have hfz29_0:=zC BK216.out 0;have hfz29_1:=zC BK216.out 1;have hfz29_2:=zC BK216.out 2;have hfz29_3:=zC BK216.out 3;have hfz29_4:=zC BK216.out 4)|((with_reducible refine xI (b := .append) (xs:=#[.tmp 25, .tmp 27]) rfl ?_);at_builtin;refine Kd.qE k38 w.heap.size rfl (.tmp 25) (.tmp 27) 36 38 (.agg #[(.int .i64 0),(.int .i64 0),(.int .i64 0),(.slice none 0 0),(.slice none 0 0)]) 72 rfl Tryz.underlying36 zFz rfl (by decide) (by omega) u4 x4_1 (⟨t204,t205,t206,t207,t210⟩:S38) [.int .i64 t204, .int .i64 t205, .int .i64 t206, .slice Ao26 t207.length co26, .slice Ao27 t210.length co27] (fun k_=>k_≠gb216) (fun k_=>((fun k_=>k_≠gb216)) k_∧some k_≠(u4:Value).ownBlock) rfl rfl ?aP (fun _ hk=>hk) ?aF ?aO (Below.refl _ _) ?aS ?aL ?_;(case aP=>exact zCf _ _ _ (⟨t204,t205,t206,t207,t210⟩:S38) (Kd.xG (Kd.yC (Kd.JH (HO209.out) (Kd.Z6 HO_4.out) (by decide)) BK216.out (by decide)) (fun k_ hk=>⟨hk.2,hk.1.2⟩)) (Kd.xG (HO212.out) (fun k_ hk=>⟨hk.2.2,hk.1⟩)));(case aF=>exact(fun k_ hk=>Kd.WI (g:=gb216) (o := .cells #[.int .i64 t204, .int .i64 t205, .int .i64 t206, .slice Ao26 t207.length co26, .slice Ao27 t210.length co27] 38 (0,0)) zIl k_ hk));(case aO=>exact(by (with_reducible repeat (first|apply Kd.xJ|apply Kd.xK|apply Kd.xU));exact Kd.xG HO_4.out (fun _ hk=>hk.2.2)));(case aS=>exact(vG (w:=w) (g:=g) (row:=none) zBb));(case aL=>have:=LMc18.out;omega);intro v218 w30 ho hb hg hat;rw [← Ny217.out] at ho;have n0_:=zA.mk (zE.grown zIj hg (zE.YB HI0.out HO_4.out (by decide)));have n1_:=zA.mk (qX (g:=gb216) (o := .cells #[.int .i64 t204, .int .i64 t205, .int .i64 t206, .slice Ao26 t207.length co26, .slice Ao27 t210.length co27] 38 (0,0)) zIl hg (Kd.KW HO_4.out (fun _ hk=>hk.2.2)));have n2_:=zA.mk (k4 zIk HL.out hb);have n3_:=zA.mk (zQ.trans zBb (zQ.yK hg g) (Kd.YY HO_4.out));have n4_:=zA.mk (ho);clear HI0;clear BK216;clear HB;clear HK;clear HO_4;clear HO209;clear HO212;have HI0:=n0_;have BK216:=n1_;have HB:=n2_;have HK:=n3_;have HO219:=n4_;clear n0_ n1_ n2_ n3_ n4_;clear ho hb hg hat)|((with_reducible refine zR (f:=28) rfl ?_);refine xN (some 30) rfl rfl Tryz.func28 (by kernel_rfl) rfl #[.pointer (some ⟨g,0,none⟩)] rfl jI ?_;(with_reducible refine(zM.calls k1 g t214 t215 t220 t221 w0 _ ?side1 ?side2 A19.out).mono ?_);(case side1=>repeat (first|(with_reducible first|exact HI0.out|apply zE.alloc|apply zE.drewN|apply zE.drew|apply zE.xX|apply zE.xY|refine zE.far ?_ NB0_216.out _)|exact HI0.out));(case side2=>repeat (first|(with_reducible first|exact HB.out|apply zD|apply zH|apply zJ|refine zT ?_ (zE.ge HI0.out)|refine zT ?_ GE216.out)|exact HB.out));rintro e w31 ⟨rfl,hi,hb,hk⟩;refine⟨_,rfl,?_⟩;replace BK216:=zA.mk (zQ.blk hk (g':=gb216) (o := .cells #[.int .i64 t204, .int .i64 t205, .int .i64 t206, .slice Ao26 t207.length co26, .slice Ao27 t210.length co27] 38 (0,0)) zIl NB216_0.out (by simp));replace HO219:=zA.mk (Kd.xG (Kd.jL (zE.apart (show zE w0 _ g t214 t215 from by repeat (first|(with_reducible first|exact HI0.out|apply zE.alloc|apply zE.drewN|apply zE.drew|apply zE.xX|apply zE.xY|refine zE.far ?_ NB0_216.out _)|exact HI0.out)) Zq60 (by decide)) hk (fun _ h=>h.2)) (fun _ h=>h.1));replace HK:=zA.mk (zQ.trans zBb hk (.inl rfl));replace HB:=zA.mk (hb);replace HI0:=zA.mk (hi);(try clear hb);(try clear hb2);(try clear hk);(try clear hi))|((with_reducible refine zR (f:=71) rfl ?_);refine xN (some 32) rfl rfl Tryz.func71 (by kernel_rfl) rfl #[.pointer (some ⟨g,0,none⟩), .int .u8 93] rfl jI ?_;(with_reducible refine(zP.calls g t220 t221 93 t222 t223 t224 w0 _ ?side1 ?side2 A20.out).mono ?_);(case side1=>repeat (first|(with_reducible first|exact HI0.out|apply zE.alloc|apply zE.drewN|apply zE.drew|apply zE.xX|apply zE.xY|refine zE.far ?_ NB0_216.out _)|exact HI0.out));(case side2=>repeat (first|(with_reducible first|exact HB.out|apply zD|apply zH|apply zJ|refine zT ?_ (zE.ge HI0.out)|refine zT ?_ GE216.out)|exact HB.out));rintro e w32 ⟨rfl,hi,hb,hk⟩;refine⟨_,rfl,?_⟩;replace BK216:=zA.mk (zQ.blk hk (g':=gb216) (o := .cells #[.int .i64 t204, .int .i64 t205, .int .i64 t206, .slice Ao26 t207.length co26, .slice Ao27 t210.length co27] 38 (0,0)) zIl NB216_0.out (by simp));replace HO219:=zA.mk (Kd.xG (Kd.jL (zE.apart (show zE w0 _ g t220 t221 from by repeat (first|(with_reducible first|exact HI0.out|apply zE.alloc|apply zE.drewN|apply zE.drew|apply zE.xX|apply zE.xY|refine zE.far ?_ NB0_216.out _)|exact HI0.out)) Zq60 (by decide)) hk (fun _ h=>h.2)) (fun _ h=>h.1));replace HK:=zA.mk (zQ.trans zBb hk (.inl rfl));replace HB:=zA.mk (hb);replace HI0:=zA.mk (hi);(try clear hb);(try clear hb2);(try clear hk);(try clear hi)))
      (try simp only [Act.put,List.setIfInBounds_toArray,List.set_cons_zero,List.set_cons_succ])
      have H:=HC21.out
      clear HC21
      by_cases c33:t222=true
      ·
       subst c33
       rw [if_pos rfl] at H
       as_aux_lemma =>
        simp only [Option.some.injEq,Prod.mk.injEq] at H
        obtain⟨rfl,rfl,rfl,rfl⟩:=H
        go_wp2
        go_ret2
        exact⟨_,qW,by (with_reducible repeat (first|apply Kd.xJ|apply Kd.xK|apply Kd.xU));exact Kd.xG HO219.out (fun _ hk=>trivial),zIj,zIk,zBb⟩
      ·
       replace c33:=Bool.eq_false_iff.mpr c33
       subst c33
       rw [if_neg (show ¬ (false=true) by decide)] at H
       replace H:=Option.bind_eq_some_iff.mp H
       obtain⟨⟨t225,t226,t227⟩,A340,H⟩:=H
       try dsimp only at H
       have A34:=zA.mk A340
       clear A340
       have HC35:=zA.mk H
       clear H
       go_upto_if 36 with (first|((with_reducible refine zR (f:=71) rfl ?_);refine xN (some 35) rfl rfl Tryz.func71 (by kernel_rfl) rfl #[.pointer (some ⟨g,0,none⟩), .int .u8 44] rfl jI ?_;(with_reducible refine(zP.calls g t223 t224 44 t225 t226 t227 w0 _ ?side1 ?side2 A34.out).mono ?_);(case side1=>repeat (first|(with_reducible first|exact HI0.out|apply zE.alloc|apply zE.drewN|apply zE.drew|apply zE.xX|apply zE.xY|refine zE.far ?_ NB0_216.out _)|exact HI0.out));(case side2=>repeat (first|(with_reducible first|exact HB.out|apply zD|apply zH|apply zJ|refine zT ?_ (zE.ge HI0.out)|refine zT ?_ GE216.out)|exact HB.out));rintro e w36 ⟨rfl,hi,hb,hk⟩;refine⟨_,rfl,?_⟩;replace BK216:=zA.mk (zQ.blk hk (g':=gb216) (o := .cells #[.int .i64 t204, .int .i64 t205, .int .i64 t206, .slice Ao26 t207.length co26, .slice Ao27 t210.length co27] 38 (0,0)) zIl NB216_0.out (by simp));replace HO219:=zA.mk (Kd.xG (Kd.jL (zE.apart (show zE w0 _ g t223 t224 from by repeat (first|(with_reducible first|exact HI0.out|apply zE.alloc|apply zE.drewN|apply zE.drew|apply zE.xX|apply zE.xY|refine zE.far ?_ NB0_216.out _)|exact HI0.out)) Zq60 (by decide)) hk (fun _ h=>h.2)) (fun _ h=>h.1));replace HK:=zA.mk (zQ.trans zBb hk (.inl rfl));replace HB:=zA.mk (hb);replace HI0:=zA.mk (hi);(try clear hb);(try clear hb2);(try clear hk);(try clear hi)))
       (try simp only [Act.put,List.setIfInBounds_toArray,List.set_cons_zero,List.set_cons_succ])
       have H:=HC35.out
       clear HC35
       by_cases c37:t225=true
       ·
        subst c37
        rw [if_pos rfl] at H
        replace H:=Option.bind_eq_some_iff.mp H
        obtain⟨⟨t228,t229⟩,A380,H⟩:=H
        try dsimp only at H
        have A38:=zA.mk A380
        clear A380
        as_aux_lemma =>
         have H':=zA.mk H
         clear H
         go_wp2_with (first|((with_reducible refine zR (f:=28) rfl ?_);refine xN (some 38) rfl rfl Tryz.func28 (by kernel_rfl) rfl #[.pointer (some ⟨g,0,none⟩)] rfl jI ?_;(with_reducible refine(zM.calls k1 g t226 t227 t228 t229 w0 _ ?side1 ?side2 A38.out).mono ?_);(case side1=>repeat (first|(with_reducible first|exact HI0.out|apply zE.alloc|apply zE.drewN|apply zE.drew|apply zE.xX|apply zE.xY|refine zE.far ?_ NB0_216.out _)|exact HI0.out));(case side2=>repeat (first|(with_reducible first|exact HB.out|apply zD|apply zH|apply zJ|refine zT ?_ (zE.ge HI0.out)|refine zT ?_ GE216.out)|exact HB.out));rintro e w39 ⟨rfl,hi,hb,hk⟩;refine⟨_,rfl,?_⟩;replace BK216:=zA.mk (zQ.blk hk (g':=gb216) (o := .cells #[.int .i64 t204, .int .i64 t205, .int .i64 t206, .slice Ao26 t207.length co26, .slice Ao27 t210.length co27] 38 (0,0)) zIl NB216_0.out (by simp));replace HO219:=zA.mk (Kd.xG (Kd.jL (zE.apart (show zE w0 _ g t226 t227 from by repeat (first|(with_reducible first|exact HI0.out|apply zE.alloc|apply zE.drewN|apply zE.drew|apply zE.xX|apply zE.xY|refine zE.far ?_ NB0_216.out _)|exact HI0.out)) Zq60 (by decide)) hk (fun _ h=>h.2)) (fun _ h=>h.1));replace HK:=zA.mk (zQ.trans zBb hk (.inl rfl));replace HB:=zA.mk (hb);replace HI0:=zA.mk (hi);(try clear hb);(try clear hb2);(try clear hk);(try clear hi)))
         go_roundg k1
         case measure=>have:=HK1.out;omega
         case rel=>exact⟨(y217),(t228),(t229),H',⟨VU⟩,⟨by (with_reducible repeat (first|apply Kd.xJ|apply Kd.xK|apply Kd.xU));exact Kd.xG HO219.out (fun _ hk=>trivial)⟩,⟨zIj⟩,⟨zBb⟩,⟨zIk⟩⟩
       ·
        replace c37:=Bool.eq_false_iff.mpr c37
        subst c37
        rw [if_neg (show ¬ (false=true) by decide)] at H
        as_aux_lemma =>
         simp only [Option.some.injEq,Prod.mk.injEq] at H
         obtain⟨rfl,rfl,rfl,rfl⟩:=H
         go_wp2
         go_ret2
         exact⟨_,qW,wT,zIj,zIk,zBb⟩
     ·
      rw [if_neg c18] at H
      exact absurd H (by simp)
    ·
     replace c17:=Bool.eq_false_iff.mpr c17
     subst c17
     rw [if_neg (show ¬ (false=true) by decide)] at H
     as_aux_lemma =>
      simp only [Option.some.injEq,Prod.mk.injEq] at H
      obtain⟨rfl,rfl,rfl,rfl⟩:=H
      go_wp2_with (first|((with_reducible refine zR (f:=29) rfl ?_);refine xN (some 20) rfl rfl Tryz.func29 (by kernel_rfl) rfl #[.pointer (some ⟨g,0,none⟩)] rfl jI ?_;(with_reducible refine(ih_spec_reader_value k1 VU g x1000_1 x1001_1 t204 t205 t206 t207 t210 false t214 t215 w0 _ ?side1 ?side2 A9.out).mono ?_);(case side1=>repeat (first|(with_reducible first|exact HI0.out|apply zE.alloc|apply zE.drewN|apply zE.drew|apply zE.xX|apply zE.xY)|exact HI0.out));(case side2=>repeat (first|(with_reducible first|exact HB.out|apply zD|apply zH|apply zJ|refine zT ?_ (zE.ge HI0.out))|exact HB.out));rintro e w40 ⟨v208,v211,rfl,ho0,ho1,hi,hb,hk⟩;refine⟨_,rfl,?_⟩;have n0_:=zA.mk (Kd.xG (Kd.kR (Kd.kR (Kd.VS (zE.apart (show zE w0 _ g x1000_1 x1001_1 from by repeat (first|(with_reducible first|exact HI0.out|apply zE.alloc|apply zE.drewN|apply zE.drew|apply zE.xX|apply zE.xY)|exact HI0.out)) zIi (by decide)) hk) (Kd.yB ho0)) (Kd.yB ho1)) (fun _ h_=>h_.1));have n1_:=zA.mk (Kd.jN ho0 (vG (w:=w) (g:=g) (row:=none) vT));have n2_:=zA.mk (Kd.jN (Kd.yV ho1 (Kd.X8 zIi)) (vG (w:=w) (g:=g) (row:=none) vT));have n3_:=zA.mk (zQ.trans vT hk (.inl rfl));have n4_:=zA.mk (hb);have n5_:=zA.mk (hi);clear HO_4;clear HK;clear HB;clear HI0;have HO_4:=n0_;have HO209:=n1_;have HO212:=n2_;have HK:=n3_;have HB:=n4_;have HI0:=n5_;clear n0_ n1_ n2_ n3_ n4_ n5_;(try clear hb);(try clear hb2);(try clear hk);(try clear hi);(try clear ho0);(try clear ho1))|((with_reducible refine jB (N:=5) rfl ?_);refine jS ?hg (N:=5) ?hd (cs:=#[.int .i64 0, .int .i64 0, .int .i64 0, .slice none 0 0, .slice none 0 0]) (t:=38) ?hr ?_;(case hd=>rfl);(case hg=>rfl);(case hr=>first|(go_simp;done)|(go_simp;rfl));intro gb216 hg w41 hbox hb;have n0_:=zA.mk (Kd.vS (Kd.y8 zIi gb216 (Nat.le_of_eq hg.symm)) hb);have n1_:=zA.mk (Kd.vS (by (with_reducible repeat (first|apply Kd.xJ|apply Kd.xK|apply Kd.xU));exact HO209.out) hb);have n2_:=zA.mk (Kd.vS (Kd.y8 (by (with_reducible repeat (first|apply Kd.xJ|apply Kd.xK|apply Kd.xU));exact HO212.out) gb216 (Nat.le_of_eq hg.symm)) hb);have n3_:=zA.mk (zE.below qS hb);have n4_:=zA.mk (zQ.trans vT (zQ.vL hb g none) (.inl rfl));have n5_:=zA.mk (vB qT hb);have n6_:=zA.mk (hbox);have n7_:=zA.mk ((by rw [hg];exact(vG (w:=w) (g:=g) (row:=none) vT):w.heap.size≤gb216));have n8_:=zA.mk ((Nat.le_trans HW0.out (by rw [hg];exact(vG (w:=w) (g:=g) (row:=none) vT):w.heap.size≤gb216):w0.heap.size≤gb216));have n9_:=zA.mk ((by rw [hg];exact Nat.ne_of_lt (zE.lt (show zE w0 _ g t214 t215 from by repeat (first|(with_reducible first|exact HI0.out|apply zE.alloc|apply zE.drewN|apply zE.drew|apply zE.xX|apply zE.xY)|exact HI0.out))):g≠gb216));have n10_:=zA.mk ((by rw [hg];exact Nat.ne_of_gt (zE.lt (show zE w0 _ g t214 t215 from by repeat (first|(with_reducible first|exact HI0.out|apply zE.alloc|apply zE.drewN|apply zE.drew|apply zE.xX|apply zE.xY)|exact HI0.out))):gb216≠g));clear HO_4;clear HO209;clear HO212;clear HI0;clear HK;clear HB;have HO_4:=n0_;have HO209:=n1_;have HO212:=n2_;have HI0:=n3_;have HK:=n4_;have HB:=n5_;have BK216:=n6_;have GW216:=n7_;have GE216:=n8_;have NB0_216:=n9_;have NB216_0:=n10_;clear n0_ n1_ n2_ n3_ n4_ n5_ n6_ n7_ n8_ n9_ n10_;clear hb hbox hg;have hnb42:=NB216_0.out;have hnc42:=NB0_216.out;have hcz43_0:w41.cell? ⟨gb216,0,none⟩=some (.int .i64 0):=(zB BK216.out 0).trans rfl;have hcz43_1:w41.cell? ⟨gb216,1,none⟩=some (.int .i64 0):=(zB BK216.out 1).trans rfl;have hcz43_2:w41.cell? ⟨gb216,2,none⟩=some (.int .i64 0):=(zB BK216.out 2).trans rfl;have hcz43_3:w41.cell? ⟨gb216,3,none⟩=some (.slice none 0 0):=(zB BK216.out 3).trans rfl;have hcz43_4:w41.cell? ⟨gb216,4,none⟩=some (.slice none 0 0):=(zB BK216.out 4).trans rfl;have hfz43_0:=zC BK216.out 0;have hfz43_1:=zC BK216.out 1;have hfz43_2:=zC BK216.out 2;have hfz43_3:=zC BK216.out 3;have hfz43_4:=zC BK216.out 4;obtain⟨Ao44,co44,eo44⟩:=Kd.vJ HO209.out;subst eo44;obtain⟨Ao45,co45,eo45⟩:=Kd.vJ HO212.out;subst eo45))
      go_ret2
      exact⟨_,qW,wT,zIj,zIk,zBb⟩
end Go.Proofs.YtljhmnnhfnmhmaaGreatDoor.G
