/-
Lemmas of this claim; made short by a program of this work.
-/
import Derived.Test.YtljhmnnhfnmhmaaGreatDoorUM7
import Derived.Test.YtljhmnnhfnmhmaaGreatDoorUGx1
import Derived.Test.YtljhmnnhfnmhmaaGreatDoorUM0
set_option linter.unusedVariables false
set_option linter.unusedSimpArgs false
set_option maxHeartbeats 8000000
set_option maxRecDepth 100000
namespace Go.Proofs.YtljhmnnhfnmhmaaGreatDoor.G
open Go.RowKit Go.Proofs.YtljhmnnhfnmhmaaGreatDoorW.PrintWords Go.Proofs.YtljhmnnhfnmhmaaGreatDoorW.PrintLast Go.Proofs.YtljhmnnhfnmhmaaGreatDoorW.PrintMore
attribute [local go_sem] qG qJ yE yF jT jU qH qK
mutual
def zK.j0:Nat→Int→Bool→ByteArray→Int→Option (Bool × ByteArray × Int)
 | 0,_,_,_,_=>none
 | k+1,x7,x8,x1000,x1001=>if x8=true then (some (true,x1000,wrap64 (x1001+1))) else (if x7=117 then (zK.l0 k 0 x1000 (wrap64 (x1001+1))) else (some (false,x1000,x1001)))
def zK.l0:Nat→Int→ByteArray→Int→Option (Bool × ByteArray × Int)
 | 0,_,_,_=>none
 | k+1,x3,x1000,x1001=>if x3 < 4 then ((xM.f x1000 x1001).bind fun bt105=>((zY.f k bt105.1).bind fun bt108=>(if bt108.2=true then (zK.l0 k (wrap64 (x3+1)) bt105.2.1 (wrap64 (bt105.2.2+1))) else (some (false,bt105.2.1,bt105.2.2))))) else (some (true,x1000,x1001))
end
def zK.f (k:Nat) (s0_0:ByteArray) (s0_1:Int):Option (Bool × ByteArray × Int):=(xM.f s0_0 s0_1).bind fun bt102=>(if bt102.1=34 then (zK.j0 k bt102.1 (bt102.1 == 34) bt102.2.1 bt102.2.2) else (if bt102.1=92 then (zK.j0 k bt102.1 (bt102.1 == 92) bt102.2.1 bt102.2.2) else (if bt102.1=47 then (zK.j0 k bt102.1 (bt102.1 == 47) bt102.2.1 bt102.2.2) else (if bt102.1=98 then (zK.j0 k bt102.1 (bt102.1 == 98) bt102.2.1 bt102.2.2) else (if bt102.1=102 then (zK.j0 k bt102.1 (bt102.1 == 102) bt102.2.1 bt102.2.2) else (if bt102.1=110 then (zK.j0 k bt102.1 (bt102.1 == 110) bt102.2.1 bt102.2.2) else (if bt102.1=114 then (zK.j0 k bt102.1 (bt102.1 == 114) bt102.2.1 bt102.2.2) else (zK.j0 k bt102.1 (bt102.1 == 116) bt102.2.1 bt102.2.2))))))))
theorem zK.calls (k:Nat) (g:Nat) (s0_0:ByteArray) (s0_1:Int) (r1:Bool) (r2:ByteArray) (r3:Int) (w0 w:World) (hI:zE w0 w g s0_0 s0_1) (hB:Below w0.heap.size w0 w) (h:zK.f k s0_0 s0_1=some (r1,r2,r3)) :
  Calls Tryz.prog 72 #[.pointer (some ⟨g,0,none⟩)] w fun e w'=>e = .returned (.bool r1)∧zE w0 w' g r2 r3∧Below w0.heap.size w0 w'∧zQ w w' g none:=by
 have HI0:=zA.mk hI
 have HK:=zA.mk (zQ.refl w g none)
 have HL:=zA.mk hB.size
 clear hI
 have HW0:=zA.mk hB.size
 have HB:=zA.mk hB
 clear hB
 have H:((xM.f s0_0 s0_1).bind fun bt102=>(if bt102.1=34 then (zK.j0 k bt102.1 (bt102.1 == 34) bt102.2.1 bt102.2.2) else (if bt102.1=92 then (zK.j0 k bt102.1 (bt102.1 == 92) bt102.2.1 bt102.2.2) else (if bt102.1=47 then (zK.j0 k bt102.1 (bt102.1 == 47) bt102.2.1 bt102.2.2) else (if bt102.1=98 then (zK.j0 k bt102.1 (bt102.1 == 98) bt102.2.1 bt102.2.2) else (if bt102.1=102 then (zK.j0 k bt102.1 (bt102.1 == 102) bt102.2.1 bt102.2.2) else (if bt102.1=110 then (zK.j0 k bt102.1 (bt102.1 == 110) bt102.2.1 bt102.2.2) else (if bt102.1=114 then (zK.j0 k bt102.1 (bt102.1 == 114) bt102.2.1 bt102.2.2) else (zK.j0 k bt102.1 (bt102.1 == 116) bt102.2.1 bt102.2.2)))))))))=some (r1,r2,r3):=h
 clear h
 replace H:=Option.bind_eq_some_iff.mp H
 obtain⟨⟨t102,t103,t104⟩,A20,H⟩:=H
 try dsimp only at H
 have A2:=zA.mk A20
 clear A20
 have HC3:=zA.mk H
 clear H
 go_enter Tryz.func72,Tryz.ntmps72
 go_upto_if 8 with (first|((with_reducible refine zR (f:=49) rfl ?_);refine xN (some 7) rfl rfl Tryz.func49 (by kernel_rfl) rfl #[.pointer (some ⟨g,0,none⟩)] rfl jI ?_;(with_reducible refine(xM.calls g s0_0 s0_1 t102 t103 t104 w0 _ ?side1 ?side2 A2.out).mono ?_);(case side1=>repeat (first|(with_reducible first|exact HI0.out|apply zE.alloc|apply zE.drewN|apply zE.drew|apply zE.xX|apply zE.xY)|exact HI0.out));(case side2=>repeat (first|(with_reducible first|exact HB.out|apply zD|apply zH|apply zJ|refine zT ?_ (zE.ge HI0.out))|exact HB.out));rintro e w4 ⟨rfl,hi,hb,hk⟩;refine⟨_,rfl,?_⟩;replace HK:=zA.mk (zQ.trans vT hk (.inl rfl));replace HB:=zA.mk (hb);replace HI0:=zA.mk (hi);(try clear hb);(try clear hb2);(try clear hk);(try clear hi)))
 (try simp only [Act.put,List.setIfInBounds_toArray,List.set_cons_zero,List.set_cons_succ])
 go_cut [8] (fun v8 wc=>∃ (kq:Nat) (x8_2:Bool),v8 = .bool x8_2∧zA (zK.j0 kq t102 x8_2 t103 t104=some (r1,r2,r3))∧zA (kq≤k)∧zA (zE w0 wc g t103 t104)∧zA (zQ w wc g none)∧zA (Below w0.heap.size w0 wc))
 case first =>
  have H:=HC3.out
  clear HC3
  by_cases c5:t102=34
  ·
   rw [if_pos c5] at H
   have c5b0:(t102 == 34)=true:=beq_iff_eq.mpr c5
   have c5b1:(t102 != 34)=false:=bne_eq_false_iff_eq.mpr c5
   clear c5
   (first|rw [c5b0]|(simp only [z6,z7];rw [c5b0])|skip)
   as_aux_lemma =>
    have H':=zA.mk H
    clear H
    go_wp2
    go_meet
    case rel=>exact⟨_,((t102 == 34)),vU,H',⟨uJ⟩,⟨qS⟩,⟨vT⟩,⟨qT⟩⟩
  ·
   rw [if_neg c5] at H
   have c5b0:(t102 == 34)=false:=beq_eq_false_iff_ne.mpr c5
   have c5b1:(t102 != 34)=true:=bne_iff_ne.mpr c5
   (first|rw [c5b0]|(simp only [z6,z7];rw [c5b0])|skip)
   by_cases c6:t102=92
   ·
    rw [if_pos c6] at H
    have c6b0:(t102 == 92)=true:=beq_iff_eq.mpr c6
    have c6b1:(t102 != 92)=false:=bne_eq_false_iff_eq.mpr c6
    clear c6
    as_aux_lemma =>
     have H':=zA.mk H
     clear H
     go_wp2
     go_meet
     case rel=>exact⟨_,((t102 == 92)),vU,H',⟨uJ⟩,⟨qS⟩,⟨vT⟩,⟨qT⟩⟩
   ·
    rw [if_neg c6] at H
    have c6b0:(t102 == 92)=false:=beq_eq_false_iff_ne.mpr c6
    have c6b1:(t102 != 92)=true:=bne_iff_ne.mpr c6
    by_cases c7:t102=47
    ·
     rw [if_pos c7] at H
     have c7b0:(t102 == 47)=true:=beq_iff_eq.mpr c7
     have c7b1:(t102 != 47)=false:=bne_eq_false_iff_eq.mpr c7
     clear c7
     as_aux_lemma =>
      have H':=zA.mk H
      clear H
      go_wp2
      go_meet
      case rel=>exact⟨_,((t102 == 47)),vU,H',⟨uJ⟩,⟨qS⟩,⟨vT⟩,⟨qT⟩⟩
    ·
     rw [if_neg c7] at H
     have c7b0:(t102 == 47)=false:=beq_eq_false_iff_ne.mpr c7
     have c7b1:(t102 != 47)=true:=bne_iff_ne.mpr c7
     by_cases c8:t102=98
     ·
      rw [if_pos c8] at H
      have c8b0:(t102 == 98)=true:=beq_iff_eq.mpr c8
      have c8b1:(t102 != 98)=false:=bne_eq_false_iff_eq.mpr c8
      clear c8
      as_aux_lemma =>
       have H':=zA.mk H
       clear H
       go_wp2
       go_meet
       case rel=>exact⟨_,((t102 == 98)),vU,H',⟨uJ⟩,⟨qS⟩,⟨vT⟩,⟨qT⟩⟩
     ·
      rw [if_neg c8] at H
      have c8b0:(t102 == 98)=false:=beq_eq_false_iff_ne.mpr c8
      have c8b1:(t102 != 98)=true:=bne_iff_ne.mpr c8
      by_cases c9:t102=102
      ·
       rw [if_pos c9] at H
       have c9b0:(t102 == 102)=true:=beq_iff_eq.mpr c9
       have c9b1:(t102 != 102)=false:=bne_eq_false_iff_eq.mpr c9
       clear c9
       as_aux_lemma =>
        have H':=zA.mk H
        clear H
        go_wp2
        go_meet
        case rel=>exact⟨_,((t102 == 102)),vU,H',⟨uJ⟩,⟨qS⟩,⟨vT⟩,⟨qT⟩⟩
      ·
       rw [if_neg c9] at H
       have c9b0:(t102 == 102)=false:=beq_eq_false_iff_ne.mpr c9
       have c9b1:(t102 != 102)=true:=bne_iff_ne.mpr c9
       by_cases c10:t102=110
       ·
        rw [if_pos c10] at H
        have c10b0:(t102 == 110)=true:=beq_iff_eq.mpr c10
        have c10b1:(t102 != 110)=false:=bne_eq_false_iff_eq.mpr c10
        clear c10
        as_aux_lemma =>
         have H':=zA.mk H
         clear H
         go_wp2
         go_meet
         case rel=>exact⟨_,((t102 == 110)),vU,H',⟨uJ⟩,⟨qS⟩,⟨vT⟩,⟨qT⟩⟩
       ·
        rw [if_neg c10] at H
        have c10b0:(t102 == 110)=false:=beq_eq_false_iff_ne.mpr c10
        have c10b1:(t102 != 110)=true:=bne_iff_ne.mpr c10
        by_cases c11:t102=114
        ·
         rw [if_pos c11] at H
         have c11b0:(t102 == 114)=true:=beq_iff_eq.mpr c11
         have c11b1:(t102 != 114)=false:=bne_eq_false_iff_eq.mpr c11
         clear c11
         as_aux_lemma =>
          have H':=zA.mk H
          clear H
          go_wp2
          go_meet
          case rel=>exact⟨_,((t102 == 114)),vU,H',⟨uJ⟩,⟨qS⟩,⟨vT⟩,⟨qT⟩⟩
        ·
         rw [if_neg c11] at H
         have c11b0:(t102 == 114)=false:=beq_eq_false_iff_ne.mpr c11
         have c11b1:(t102 != 114)=true:=bne_iff_ne.mpr c11
         as_aux_lemma =>
          have H':=zA.mk H
          clear H
          go_wp2
          go_meet
          case rel=>exact⟨_,((t102 == 116)),vU,H',⟨uJ⟩,⟨qS⟩,⟨vT⟩,⟨qT⟩⟩
 case rest =>
  clear HC3
  try clear c1
  try clear p2
  try clear c4
  try clear c5
  try clear c5b0
  try clear c5b1
  try clear c6
  try clear c6b0
  try clear c6b1
  try clear c7
  try clear c7b0
  try clear c7b1
  try clear c8
  try clear c8b0
  try clear c8b1
  try clear c9
  try clear c9b0
  try clear c9b1
  try clear c10
  try clear c10b0
  try clear c10b1
  try clear c11
  try clear c11b0
  try clear c11b1
  obtain⟨kq,x8_2,rfl,HA,HJ2,HI0,HK,HB⟩:=hcut
  cases kq with
  | zero=>exact absurd HA.out (by simp [zK.j0])
  | succ kj2 =>
   have H:=HA.out
   clear HA
   simp only [zK.j0] at H
   by_cases c12:x8_2=true
   ·
    subst c12
    rw [if_pos rfl] at H
    as_aux_lemma =>
     simp only [Option.some.injEq,Prod.mk.injEq] at H
     obtain⟨rfl,rfl,rfl⟩:=H
     obtain⟨HGz13,hgz13⟩:=HI0.out
     have hcz13_0:=xS HGz13
     have hcz13_1:=xT HGz13
     have hfz13_0:=zC HGz13 0
     have hfz13_1:=zC HGz13 1
     clear HGz13 hgz13
     go_wp2
     go_ret
     exact⟨qW,qS,qT,vT⟩
   ·
    replace c12:=Bool.eq_false_iff.mpr c12
    subst c12
    rw [if_neg (show ¬ (false=true) by decide)] at H
    by_cases c14:t102=117
    ·
     rw [if_pos c14] at H
     have c14b0:(t102 == 117)=true:=beq_iff_eq.mpr c14
     have c14b1:(t102 != 117)=false:=bne_eq_false_iff_eq.mpr c14
     clear c14
     have H':=zA.mk H
     clear H
     obtain⟨HGz15,hgz15⟩:=HI0.out
     have hcz15_0:=xS HGz15
     have hcz15_1:=xT HGz15
     have hfz15_0:=zC HGz15 0
     have hfz15_1:=zC HGz15 1
     clear HGz15 hgz15
     go_wp2
     (try simp only [Act.put,List.setIfInBounds_toArray,List.set_cons_succ,List.set_cons_zero])
     go_loopg [3] kj2 (fun kq v3 w'=>∃ (x3_2:Int) (x1000_2:ByteArray) (x1001_2:Int),v3 = .int .i64 x3_2∧zA (zK.l0 kq x3_2 x1000_2 x1001_2=some (r1,r2,r3))∧zA (kq≤kj2)∧zA (zE w0 w' g x1000_2 x1001_2)∧zA (zQ w w' g none)∧zA (Below w0.heap.size w0 w'))
     case atStart=>exact⟨(0),(t103),(wrap64 (t104+1)),vU,H',⟨Nat.le_refl _⟩,⟨qS⟩,⟨vT⟩,⟨qT⟩⟩
     case round =>
      clear H'
      try clear c1
      try clear p2
      try clear c4
      try clear c5
      try clear c5b0
      try clear c5b1
      try clear c6
      try clear c6b0
      try clear c6b1
      try clear p6
      try clear c7
      try clear c7b0
      try clear c7b1
      try clear c8
      try clear c8b0
      try clear c8b1
      try clear c9
      try clear c9b0
      try clear c9b1
      try clear c10
      try clear c10b0
      try clear c10b1
      try clear c11
      try clear c11b0
      try clear c11b1
      try clear c12
      try clear c14
      try clear c14b0
      try clear c14b1
      try clear hcz13_0
      try clear hcz13_1
      try clear hcz15_0
      try clear hcz15_1
      try clear hfz13_0
      try clear hfz13_1
      try clear hfz15_0
      try clear hfz15_1
      try clear p2
      obtain⟨x3_2,x1000_2,x1001_2,rfl,HA,HK2,HI0,HK,HB⟩:=hrel
      cases gk with
      | zero=>exact absurd HA.out (by simp [zK.l0])
      | succ k2 =>
       have H:=HA.out
       clear HA
       simp only [zK.l0] at H
       by_cases c16:x3_2 < 4
       ·
        rw [if_pos c16] at H
        have c16b0:decide (x3_2 < 4)=true:=decide_eq_true c16
        clear c16
        replace H:=Option.bind_eq_some_iff.mp H
        obtain⟨⟨t105,t106,t107⟩,A170,H⟩:=H
        try dsimp only at H
        have A17:=zA.mk A170
        clear A170
        replace H:=Option.bind_eq_some_iff.mp H
        obtain⟨⟨t108,t109⟩,A180,H⟩:=H
        try dsimp only at H
        have A18:=zA.mk A180
        clear A180
        by_cases c19:t109=true
        ·
         subst c19
         rw [if_pos rfl] at H
         as_aux_lemma =>
          have H':=zA.mk H
          clear H
          go_wp2_with (first|((with_reducible refine zR (f:=49) rfl ?_);refine xN (some 39) rfl rfl Tryz.func49 (by kernel_rfl) rfl #[.pointer (some ⟨g,0,none⟩)] rfl jI ?_;(with_reducible refine(xM.calls g x1000_2 x1001_2 t105 t106 t107 w0 _ ?side1 ?side2 A17.out).mono ?_);(case side1=>repeat (first|(with_reducible first|exact HI0.out|apply zE.alloc|apply zE.drewN|apply zE.drew|apply zE.xX|apply zE.xY)|exact HI0.out));(case side2=>repeat (first|(with_reducible first|exact HB.out|apply zD|apply zH|apply zJ|refine zT ?_ (zE.ge HI0.out))|exact HB.out));rintro e w20 ⟨rfl,hi,hb,hk⟩;refine⟨_,rfl,?_⟩;replace HK:=zA.mk (zQ.trans vT hk (.inl rfl));replace HB:=zA.mk (hb);replace HI0:=zA.mk (hi);(try clear hb);(try clear hb2);(try clear hk);(try clear hi))|((with_reducible refine zR (f:=63) rfl ?_);refine xN (some 40) rfl rfl Tryz.func63 (by kernel_rfl) rfl #[.int .u8 t105] rfl jI ?_;(with_reducible refine(zY.calls k2 t105 t108 true _ A18.out).mono ?_);rintro e w' ⟨rfl,⟨nd,rfl⟩⟩;refine⟨_,rfl,?_⟩;(try (rw [zAg w20];generalize hq_:World.drewN w20 _=w20;have n0_:zA (zE w0 w20 g t106 t107):=⟨by rw [← hq_];exact qS⟩;have n1_:zA (zQ w w20 g none):=⟨by rw [← hq_];exact vT⟩;have n2_:zA (Below w0.heap.size w0 w20):=⟨by rw [← hq_];exact qT⟩;clear HI0 HK HB hq_;have HI0:=n0_;have HK:=n1_;have HB:=n2_;clear n0_ n1_ n2_));obtain⟨HGz21,hgz21⟩:=HI0.out;have hcz21_0:=xS HGz21;have hcz21_1:=xT HGz21;have hfz21_0:=zC HGz21 0;have hfz21_1:=zC HGz21 1;clear HGz21 hgz21))
          go_roundg k2
          case measure=>have:=HJ2.out;have:=HK2.out;omega
          case rel=>exact⟨(wrap64 (x3_2+1)),(t106),(wrap64 (t107+1)),vU,H',⟨Zq23⟩,⟨qS⟩,⟨vT⟩,⟨qT⟩⟩
        ·
         replace c19:=Bool.eq_false_iff.mpr c19
         subst c19
         rw [if_neg (show ¬ (false=true) by decide)] at H
         as_aux_lemma =>
          simp only [Option.some.injEq,Prod.mk.injEq] at H
          obtain⟨rfl,rfl,rfl⟩:=H
          go_wp2_with (first|((with_reducible refine zR (f:=49) rfl ?_);refine xN (some 39) rfl rfl Tryz.func49 (by kernel_rfl) rfl #[.pointer (some ⟨g,0,none⟩)] rfl jI ?_;(with_reducible refine(xM.calls g x1000_2 x1001_2 t105 t106 t107 w0 _ ?side1 ?side2 A17.out).mono ?_);(case side1=>repeat (first|(with_reducible first|exact HI0.out|apply zE.alloc|apply zE.drewN|apply zE.drew|apply zE.xX|apply zE.xY)|exact HI0.out));(case side2=>repeat (first|(with_reducible first|exact HB.out|apply zD|apply zH|apply zJ|refine zT ?_ (zE.ge HI0.out))|exact HB.out));rintro e w22 ⟨rfl,hi,hb,hk⟩;refine⟨_,rfl,?_⟩;replace HK:=zA.mk (zQ.trans vT hk (.inl rfl));replace HB:=zA.mk (hb);replace HI0:=zA.mk (hi);(try clear hb);(try clear hb2);(try clear hk);(try clear hi))|((with_reducible refine zR (f:=63) rfl ?_);refine xN (some 40) rfl rfl Tryz.func63 (by kernel_rfl) rfl #[.int .u8 t105] rfl jI ?_;(with_reducible refine(zY.calls k2 t105 t108 false _ A18.out).mono ?_);rintro e w' ⟨rfl,⟨nd,rfl⟩⟩;refine⟨_,rfl,?_⟩))
          go_ret
          exact⟨qW,qS,qT,vT⟩
       ·
        rw [if_neg c16] at H
        have c16b0:decide (x3_2 < 4)=false:=decide_eq_false c16
        clear c16
        as_aux_lemma =>
         simp only [Option.some.injEq,Prod.mk.injEq] at H
         obtain⟨rfl,rfl,rfl⟩:=H
         go_wp2
         go_ret
         exact⟨qW,qS,qT,vT⟩
    ·
     rw [if_neg c14] at H
     have c14b0:(t102 == 117)=false:=beq_eq_false_iff_ne.mpr c14
     have c14b1:(t102 != 117)=true:=bne_iff_ne.mpr c14
     as_aux_lemma =>
      simp only [Option.some.injEq,Prod.mk.injEq] at H
      obtain⟨rfl,rfl,rfl⟩:=H
      go_wp2
      go_ret
      exact⟨qW,qS,qT,vT⟩
def zV.l0:Nat→ByteArray→Int→Option (Bool × ByteArray × Int)
 | 0,_,_=>none
 | k+1,x1000,x1001=>if x1001 < (x1000.size:Int) then (if 0≤x1001 then (if (bt x1000 x1001)=34 then (some (true,x1000,wrap64 (x1001+1))) else (if (bt x1000 x1001) < 32 then (some (false,x1000,wrap64 (x1001+1))) else (if (bt x1000 x1001)=92 then ((zK.f k x1000 (wrap64 (x1001+1))).bind fun bt110=>(if bt110.1=true then (zV.l0 k bt110.2.1 bt110.2.2) else (some (false,bt110.2.1,bt110.2.2)))) else (zV.l0 k x1000 (wrap64 (x1001+1)))))) else (none)) else (some (false,x1000,x1001))
def zV.f (k:Nat) (s0_0:ByteArray) (s0_1:Int):Option (Bool × ByteArray × Int):=zV.l0 k s0_0 (wrap64 (s0_1+1))
theorem zV.calls (k:Nat) (g:Nat) (s0_0:ByteArray) (s0_1:Int) (r1:Bool) (r2:ByteArray) (r3:Int) (w0 w:World) (hI:zE w0 w g s0_0 s0_1) (hB:Below w0.heap.size w0 w) (h:zV.f k s0_0 s0_1=some (r1,r2,r3)) :
  Calls Tryz.prog 52 #[.pointer (some ⟨g,0,none⟩)] w fun e w'=>e = .returned (.bool r1)∧zE w0 w' g r2 r3∧Below w0.heap.size w0 w'∧zQ w w' g none:=by
 have HI0:=zA.mk hI
 have HK:=zA.mk (zQ.refl w g none)
 have HL:=zA.mk hB.size
 clear hI
 have HW0:=zA.mk hB.size
 have HB:=zA.mk hB
 clear hB
 have H:(zV.l0 k s0_0 (wrap64 (s0_1+1)))=some (r1,r2,r3):=h
 clear h
 have H':=zA.mk H
 clear H
 obtain⟨HGz2,hgz2⟩:=HI0.out
 have hcz2_0:=xS HGz2
 have hcz2_1:=xT HGz2
 have hfz2_0:=zC HGz2 0
 have hfz2_1:=zC HGz2 1
 clear HGz2 hgz2
 go_enter Tryz.func52,Tryz.ntmps52
 go_wp2
 repeat (go_quiet (fail);try go_wp2)
 (try simp only [Act.put,List.setIfInBounds_toArray,List.set_cons_succ,List.set_cons_zero])
 go_loopg [] k (fun kq w'=>∃ (x1000_1:ByteArray) (x1001_1:Int),zA (zV.l0 kq x1000_1 x1001_1=some (r1,r2,r3))∧zA (kq≤k)∧zA (zE w0 w' g x1000_1 x1001_1)∧zA (zQ w w' g none)∧zA (Below w0.heap.size w0 w'))
 case atStart=>exact⟨(s0_0),(wrap64 (s0_1+1)),H',⟨Nat.le_refl _⟩,⟨qS⟩,⟨vT⟩,⟨qT⟩⟩
 case round =>
  clear H'
  try clear p2
  try clear hcz2_0
  try clear hcz2_1
  try clear hfz2_0
  try clear hfz2_1
  obtain⟨x1000_1,x1001_1,HA,HK1,HI0,HK,HB⟩:=hrel
  cases gk with
  | zero=>exact absurd HA.out (by simp [zV.l0])
  | succ k1 =>
   have H:=HA.out
   clear HA
   simp only [zV.l0] at H
   by_cases c3:x1001_1 < (x1000_1.size:Int)
   ·
    rw [if_pos c3] at H
    have c3b0:decide (x1001_1 < (x1000_1.size:Int))=true:=decide_eq_true c3
    clear c3
    by_cases c4:0≤x1001_1
    ·
     rw [if_pos c4] at H
     have c4b0:decide (0≤x1001_1)=true:=decide_eq_true c4
     clear c4
     by_cases c6:(bt x1000_1 x1001_1)=34
     ·
      rw [if_pos c6] at H
      have c6b0:((bt x1000_1 x1001_1) == 34)=true:=beq_iff_eq.mpr c6
      have c6b1:((bt x1000_1 x1001_1) != 34)=false:=bne_eq_false_iff_eq.mpr c6
      clear c6
      as_aux_lemma =>
       simp only [Option.some.injEq,Prod.mk.injEq] at H
       obtain⟨rfl,rfl,rfl⟩:=H
       obtain⟨HGz7,hgz7⟩:=HI0.out
       have hcz7_0:=xS HGz7
       have hcz7_1:=xT HGz7
       have hfz7_0:=zC HGz7 0
       have hfz7_1:=zC HGz7 1
       clear HGz7 hgz7
       have p5:0≤(x1001_1:Int):=of_decide_eq_true jC
       have q5:x1001_1 < (x1000_1.size:Int):=of_decide_eq_true jC
       have hx5:=j9 x1000_1 x1001_1
       replace p5:=eq_true p5
       replace q5:=eq_true q5
       go_wp2
       repeat (go_quiet (fail);try go_wp2)
       go_ret
       exact⟨qW,qS,qT,vT⟩
     ·
      rw [if_neg c6] at H
      have c6b0:((bt x1000_1 x1001_1) == 34)=false:=beq_eq_false_iff_ne.mpr c6
      have c6b1:((bt x1000_1 x1001_1) != 34)=true:=bne_iff_ne.mpr c6
      by_cases c8:(bt x1000_1 x1001_1) < 32
      ·
       rw [if_pos c8] at H
       have c8b0:decide ((bt x1000_1 x1001_1) < 32)=true:=decide_eq_true c8
       clear c8
       as_aux_lemma =>
        simp only [Option.some.injEq,Prod.mk.injEq] at H
        obtain⟨rfl,rfl,rfl⟩:=H
        obtain⟨HGz9,hgz9⟩:=HI0.out
        have hcz9_0:=xS HGz9
        have hcz9_1:=xT HGz9
        have hfz9_0:=zC HGz9 0
        have hfz9_1:=zC HGz9 1
        clear HGz9 hgz9
        have p5:0≤(x1001_1:Int):=of_decide_eq_true jC
        have q5:x1001_1 < (x1000_1.size:Int):=of_decide_eq_true jC
        have hx5:=j9 x1000_1 x1001_1
        replace p5:=eq_true p5
        replace q5:=eq_true q5
        go_wp2
        repeat (go_quiet (fail);try go_wp2)
        go_ret
        exact⟨qW,qS,qT,vT⟩
      ·
       rw [if_neg c8] at H
       have c8b0:decide ((bt x1000_1 x1001_1) < 32)=false:=decide_eq_false c8
       clear c8
       by_cases c10:(bt x1000_1 x1001_1)=92
       ·
        rw [if_pos c10] at H
        have c10b0:((bt x1000_1 x1001_1) == 92)=true:=beq_iff_eq.mpr c10
        have c10b1:((bt x1000_1 x1001_1) != 92)=false:=bne_eq_false_iff_eq.mpr c10
        clear c10
        replace H:=Option.bind_eq_some_iff.mp H
        obtain⟨⟨t110,t111,t112⟩,A110,H⟩:=H
        try dsimp only at H
        have A11:=zA.mk A110
        clear A110
        by_cases c12:t110=true
        ·
         subst c12
         rw [if_pos rfl] at H
         as_aux_lemma =>
          have H':=zA.mk H
          clear H
          obtain⟨HGz13,hgz13⟩:=HI0.out
          have hcz13_0:=xS HGz13
          have hcz13_1:=xT HGz13
          have hfz13_0:=zC HGz13 0
          have hfz13_1:=zC HGz13 1
          clear HGz13 hgz13
          have p5:0≤(x1001_1:Int):=of_decide_eq_true jC
          have q5:x1001_1 < (x1000_1.size:Int):=of_decide_eq_true jC
          have hx5:=j9 x1000_1 x1001_1
          replace p5:=eq_true p5
          replace q5:=eq_true q5
          go_wp2_with (first|(go_at_call 72;(with_reducible refine(zK.calls k1 g x1000_1 (wrap64 (x1001_1+1)) true t111 t112 w0 _ ?side1 ?side2 A11.out).mono ?_);(case side1=>repeat (first|(with_reducible first|exact HI0.out|apply zE.alloc|apply zE.drewN|apply zE.drew|apply zE.xX|apply zE.xY)|exact HI0.out));(case side2=>repeat (first|(with_reducible first|exact HB.out|apply zD|apply zH|apply zJ|refine zT ?_ (zE.ge HI0.out))|exact HB.out));rintro e w14 ⟨rfl,hi,hb,hk⟩;replace HK:=zA.mk (zQ.trans vT hk (.inl rfl));replace HB:=zA.mk (hb);replace HI0:=zA.mk (hi);(try clear hb);(try clear hb2);(try clear hk);(try clear hi)))
          repeat (go_quiet (first|(go_at_call 72;(with_reducible refine(zK.calls k1 g x1000_1 (wrap64 (x1001_1+1)) true t111 t112 w0 _ ?side1 ?side2 A11.out).mono ?_);(case side1=>repeat (first|(with_reducible first|exact HI0.out|apply zE.alloc|apply zE.drewN|apply zE.drew|apply zE.xX|apply zE.xY)|exact HI0.out));(case side2=>repeat (first|(with_reducible first|exact HB.out|apply zD|apply zH|apply zJ|refine zT ?_ (zE.ge HI0.out))|exact HB.out));rintro e w14 ⟨rfl,hi,hb,hk⟩;replace HK:=zA.mk (zQ.trans vT hk (.inl rfl));replace HB:=zA.mk (hb);replace HI0:=zA.mk (hi);(try clear hb);(try clear hb2);(try clear hk);(try clear hi)));try go_wp2_with (first|(go_at_call 72;(with_reducible refine(zK.calls k1 g x1000_1 (wrap64 (x1001_1+1)) true t111 t112 w0 _ ?side1 ?side2 A11.out).mono ?_);(case side1=>repeat (first|(with_reducible first|exact HI0.out|apply zE.alloc|apply zE.drewN|apply zE.drew|apply zE.xX|apply zE.xY)|exact HI0.out));(case side2=>repeat (first|(with_reducible first|exact HB.out|apply zD|apply zH|apply zJ|refine zT ?_ (zE.ge HI0.out))|exact HB.out));rintro e w14 ⟨rfl,hi,hb,hk⟩;replace HK:=zA.mk (zQ.trans vT hk (.inl rfl));replace HB:=zA.mk (hb);replace HI0:=zA.mk (hi);(try clear hb);(try clear hb2);(try clear hk);(try clear hi))))
          go_roundg k1
          case measure=>have:=HK1.out;omega
          case rel=>exact⟨(t111),(t112),H',⟨VU⟩,⟨qS⟩,⟨vT⟩,⟨qT⟩⟩
        ·
         replace c12:=Bool.eq_false_iff.mpr c12
         subst c12
         rw [if_neg (show ¬ (false=true) by decide)] at H
         as_aux_lemma =>
          simp only [Option.some.injEq,Prod.mk.injEq] at H
          obtain⟨rfl,rfl,rfl⟩:=H
          obtain⟨HGz15,hgz15⟩:=HI0.out
          have hcz15_0:=xS HGz15
          have hcz15_1:=xT HGz15
          have hfz15_0:=zC HGz15 0
          have hfz15_1:=zC HGz15 1
          clear HGz15 hgz15
          have p5:0≤(x1001_1:Int):=of_decide_eq_true jC
          have q5:x1001_1 < (x1000_1.size:Int):=of_decide_eq_true jC
          have hx5:=j9 x1000_1 x1001_1
          replace p5:=eq_true p5
          replace q5:=eq_true q5
          go_wp2_with (first|(go_at_call 72;(with_reducible refine(zK.calls k1 g x1000_1 (wrap64 (x1001_1+1)) false t111 t112 w0 _ ?side1 ?side2 A11.out).mono ?_);(case side1=>repeat (first|(with_reducible first|exact HI0.out|apply zE.alloc|apply zE.drewN|apply zE.drew|apply zE.xX|apply zE.xY)|exact HI0.out));(case side2=>repeat (first|(with_reducible first|exact HB.out|apply zD|apply zH|apply zJ|refine zT ?_ (zE.ge HI0.out))|exact HB.out));rintro e w16 ⟨rfl,hi,hb,hk⟩;replace HK:=zA.mk (zQ.trans vT hk (.inl rfl));replace HB:=zA.mk (hb);replace HI0:=zA.mk (hi);(try clear hb);(try clear hb2);(try clear hk);(try clear hi)))
          repeat (go_quiet (first|(go_at_call 72;(with_reducible refine(zK.calls k1 g x1000_1 (wrap64 (x1001_1+1)) false t111 t112 w0 _ ?side1 ?side2 A11.out).mono ?_);(case side1=>repeat (first|(with_reducible first|exact HI0.out|apply zE.alloc|apply zE.drewN|apply zE.drew|apply zE.xX|apply zE.xY)|exact HI0.out));(case side2=>repeat (first|(with_reducible first|exact HB.out|apply zD|apply zH|apply zJ|refine zT ?_ (zE.ge HI0.out))|exact HB.out));rintro e w16 ⟨rfl,hi,hb,hk⟩;replace HK:=zA.mk (zQ.trans vT hk (.inl rfl));replace HB:=zA.mk (hb);replace HI0:=zA.mk (hi);(try clear hb);(try clear hb2);(try clear hk);(try clear hi)));try go_wp2_with (first|(go_at_call 72;(with_reducible refine(zK.calls k1 g x1000_1 (wrap64 (x1001_1+1)) false t111 t112 w0 _ ?side1 ?side2 A11.out).mono ?_);(case side1=>repeat (first|(with_reducible first|exact HI0.out|apply zE.alloc|apply zE.drewN|apply zE.drew|apply zE.xX|apply zE.xY)|exact HI0.out));(case side2=>repeat (first|(with_reducible first|exact HB.out|apply zD|apply zH|apply zJ|refine zT ?_ (zE.ge HI0.out))|exact HB.out));rintro e w16 ⟨rfl,hi,hb,hk⟩;replace HK:=zA.mk (zQ.trans vT hk (.inl rfl));replace HB:=zA.mk (hb);replace HI0:=zA.mk (hi);(try clear hb);(try clear hb2);(try clear hk);(try clear hi))))
          go_ret
          exact⟨qW,qS,qT,vT⟩
       ·
        rw [if_neg c10] at H
        have c10b0:((bt x1000_1 x1001_1) == 92)=false:=beq_eq_false_iff_ne.mpr c10
        have c10b1:((bt x1000_1 x1001_1) != 92)=true:=bne_iff_ne.mpr c10
        as_aux_lemma =>
         have H':=zA.mk H
         clear H
         obtain⟨HGz17,hgz17⟩:=HI0.out
         have hcz17_0:=xS HGz17
         have hcz17_1:=xT HGz17
         have hfz17_0:=zC HGz17 0
         have hfz17_1:=zC HGz17 1
         clear HGz17 hgz17
         have p5:0≤(x1001_1:Int):=of_decide_eq_true jC
         have q5:x1001_1 < (x1000_1.size:Int):=of_decide_eq_true jC
         have hx5:=j9 x1000_1 x1001_1
         replace p5:=eq_true p5
         replace q5:=eq_true q5
         go_wp2
         repeat (go_quiet (fail);try go_wp2)
         go_roundg k1
         case measure=>have:=HK1.out;omega
         case rel=>exact⟨(x1000_1),(wrap64 (x1001_1+1)),H',⟨VU⟩,⟨qS⟩,⟨vT⟩,⟨qT⟩⟩
    ·
     rw [if_neg c4] at H
     exact absurd H (by simp)
   ·
    rw [if_neg c3] at H
    have c3b0:decide (x1001_1 < (x1000_1.size:Int))=false:=decide_eq_false c3
    clear c3
    as_aux_lemma =>
     simp only [Option.some.injEq,Prod.mk.injEq] at H
     obtain⟨rfl,rfl,rfl⟩:=H
     obtain⟨HGz18,hgz18⟩:=HI0.out
     have hcz18_0:=xS HGz18
     have hcz18_1:=xT HGz18
     have hfz18_0:=zC HGz18 0
     have hfz18_1:=zC HGz18 1
     clear HGz18 hgz18
     go_wp2
     repeat (go_quiet (fail);try go_wp2)
     go_ret
     exact⟨qW,qS,qT,vT⟩
def zP.f (s0_0:ByteArray) (s0_1:Int) (a1:Int):Option (Bool × ByteArray × Int):=if s0_1 < (s0_0.size:Int) then (if 0≤s0_1 then (if (bt s0_0 s0_1)=a1 then (some (true,s0_0,wrap64 (s0_1+1))) else (some (false,s0_0,s0_1))) else (none)) else (some (false,s0_0,s0_1))
theorem zP.calls (g:Nat) (s0_0:ByteArray) (s0_1:Int) (a1:Int) (r1:Bool) (r2:ByteArray) (r3:Int) (w0 w:World) (hI:zE w0 w g s0_0 s0_1) (hB:Below w0.heap.size w0 w) (h:zP.f s0_0 s0_1 a1=some (r1,r2,r3)) :
  Calls Tryz.prog 71 #[.pointer (some ⟨g,0,none⟩), .int .u8 a1] w fun e w'=>e = .returned (.bool r1)∧zE w0 w' g r2 r3∧Below w0.heap.size w0 w'∧zQ w w' g none:=by
 have HI0:=zA.mk hI
 have HK:=zA.mk (zQ.refl w g none)
 have HL:=zA.mk hB.size
 clear hI
 have HW0:=zA.mk hB.size
 have HB:=zA.mk hB
 clear hB
 have H:(if s0_1 < (s0_0.size:Int) then (if 0≤s0_1 then (if (bt s0_0 s0_1)=a1 then (some (true,s0_0,wrap64 (s0_1+1))) else (some (false,s0_0,s0_1))) else (none)) else (some (false,s0_0,s0_1)))=some (r1,r2,r3):=h
 clear h
 by_cases c3:s0_1 < (s0_0.size:Int)
 ·
  rw [if_pos c3] at H
  have c3b0:decide (s0_1 < (s0_0.size:Int))=true:=decide_eq_true c3
  clear c3
  by_cases c4:0≤s0_1
  ·
   rw [if_pos c4] at H
   have c4b0:decide (0≤s0_1)=true:=decide_eq_true c4
   clear c4
   by_cases c6:(bt s0_0 s0_1)=a1
   ·
    rw [if_pos c6] at H
    have c6b0:((bt s0_0 s0_1) == a1)=true:=beq_iff_eq.mpr c6
    have c6b1:((bt s0_0 s0_1) != a1)=false:=bne_eq_false_iff_eq.mpr c6
    clear c6
    as_aux_lemma =>
     simp only [Option.some.injEq,Prod.mk.injEq] at H
     obtain⟨rfl,rfl,rfl⟩:=H
     obtain⟨HGz7,hgz7⟩:=HI0.out
     have hcz7_0:=xS HGz7
     have hcz7_1:=xT HGz7
     have hfz7_0:=zC HGz7 0
     have hfz7_1:=zC HGz7 1
     clear HGz7 hgz7
     have p5:0≤(s0_1:Int):=of_decide_eq_true jC
     have q5:s0_1 < (s0_0.size:Int):=of_decide_eq_true jC
     have hx5:=j9 s0_0 s0_1
     replace p5:=eq_true p5
     replace q5:=eq_true q5
     go_enter Tryz.func71,Tryz.ntmps71
     go_wp2
     repeat (go_quiet (fail);try go_wp2)
     go_ret
     exact⟨qW,qS,qT,vT⟩
   ·
    rw [if_neg c6] at H
    have c6b0:((bt s0_0 s0_1) == a1)=false:=beq_eq_false_iff_ne.mpr c6
    have c6b1:((bt s0_0 s0_1) != a1)=true:=bne_iff_ne.mpr c6
    as_aux_lemma =>
     simp only [Option.some.injEq,Prod.mk.injEq] at H
     obtain⟨rfl,rfl,rfl⟩:=H
     obtain⟨HGz8,hgz8⟩:=HI0.out
     have hcz8_0:=xS HGz8
     have hcz8_1:=xT HGz8
     have hfz8_0:=zC HGz8 0
     have hfz8_1:=zC HGz8 1
     clear HGz8 hgz8
     have p5:0≤(s0_1:Int):=of_decide_eq_true jC
     have q5:s0_1 < (s0_0.size:Int):=of_decide_eq_true jC
     have hx5:=j9 s0_0 s0_1
     replace p5:=eq_true p5
     replace q5:=eq_true q5
     go_enter Tryz.func71,Tryz.ntmps71
     go_wp2
     repeat (go_quiet (fail);try go_wp2)
     go_ret
     exact⟨qW,qS,qT,vT⟩
  ·
   rw [if_neg c4] at H
   exact absurd H (by simp)
 ·
  rw [if_neg c3] at H
  have c3b0:decide (s0_1 < (s0_0.size:Int))=false:=decide_eq_false c3
  clear c3
  as_aux_lemma =>
   simp only [Option.some.injEq,Prod.mk.injEq] at H
   obtain⟨rfl,rfl,rfl⟩:=H
   obtain⟨HGz9,hgz9⟩:=HI0.out
   have hcz9_0:=xS HGz9
   have hcz9_1:=xT HGz9
   have hfz9_0:=zC HGz9 0
   have hfz9_1:=zC HGz9 1
   clear HGz9 hgz9
   go_enter Tryz.func71,Tryz.ntmps71
   go_wp2
   repeat (go_quiet (fail);try go_wp2)
   go_ret
   exact⟨qW,qS,qT,vT⟩
def zZ.l0:Nat→Int→Int→ByteArray→Int→Option (Bool × ByteArray × Int)
 | 0,_,_,_,_=>none
 | k+1,x3,x4,x1000,x1001=>if 48≤x4 then (if x4≤57 then ((xM.f x1000 (wrap64 (x1001+1))).bind fun bt116=>(zZ.l0 k x3 bt116.1 bt116.2.1 bt116.2.2)) else (some (decide (x1001 > x3),x1000,x1001))) else (some (decide (x1001 > x3),x1000,x1001))
def zZ.f (k:Nat) (s0_0:ByteArray) (s0_1:Int):Option (Bool × ByteArray × Int):=(xM.f s0_0 s0_1).bind fun bt113=>(zZ.l0 k s0_1 bt113.1 bt113.2.1 bt113.2.2)
theorem zZ.calls (k:Nat) (g:Nat) (s0_0:ByteArray) (s0_1:Int) (r1:Bool) (r2:ByteArray) (r3:Int) (w0 w:World) (hI:zE w0 w g s0_0 s0_1) (hB:Below w0.heap.size w0 w) (h:zZ.f k s0_0 s0_1=some (r1,r2,r3)) :
  Calls Tryz.prog 73 #[.pointer (some ⟨g,0,none⟩)] w fun e w'=>e = .returned (.bool r1)∧zE w0 w' g r2 r3∧Below w0.heap.size w0 w'∧zQ w w' g none:=by
 have HI0:=zA.mk hI
 have HK:=zA.mk (zQ.refl w g none)
 have HL:=zA.mk hB.size
 clear hI
 have HW0:=zA.mk hB.size
 have HB:=zA.mk hB
 clear hB
 have H:((xM.f s0_0 s0_1).bind fun bt113=>(zZ.l0 k s0_1 bt113.1 bt113.2.1 bt113.2.2))=some (r1,r2,r3):=h
 clear h
 replace H:=Option.bind_eq_some_iff.mp H
 obtain⟨⟨t113,t114,t115⟩,A20,H⟩:=H
 try dsimp only at H
 have A2:=zA.mk A20
 clear A20
 have H':=zA.mk H
 clear H
 obtain⟨HGz3,hgz3⟩:=HI0.out
 have hcz3_0:=xS HGz3
 have hcz3_1:=xT HGz3
 have hfz3_0:=zC HGz3 0
 have hfz3_1:=zC HGz3 1
 clear HGz3 hgz3
 go_enter Tryz.func73,Tryz.ntmps73
 go_wp2_with (first|((with_reducible refine zR (f:=49) rfl ?_);refine xN (some 10) rfl rfl Tryz.func49 (by kernel_rfl) rfl #[.pointer (some ⟨g,0,none⟩)] rfl jI ?_;(with_reducible refine(xM.calls g s0_0 s0_1 t113 t114 t115 w0 _ ?side1 ?side2 A2.out).mono ?_);(case side1=>repeat (first|(with_reducible first|exact HI0.out|apply zE.alloc|apply zE.drewN|apply zE.drew|apply zE.xX|apply zE.xY)|exact HI0.out));(case side2=>repeat (first|(with_reducible first|exact HB.out|apply zD|apply zH|apply zJ|refine zT ?_ (zE.ge HI0.out))|exact HB.out));rintro e w4 ⟨rfl,hi,hb,hk⟩;refine⟨_,rfl,?_⟩;replace HK:=zA.mk (zQ.trans vT hk (.inl rfl));replace HB:=zA.mk (hb);replace HI0:=zA.mk (hi);(try clear hb);(try clear hb2);(try clear hk);(try clear hi)))
 (try simp only [Act.put,List.setIfInBounds_toArray,List.set_cons_succ,List.set_cons_zero])
 go_loopg [4] k (fun kq v4 w'=>∃ (x4_1:Int) (x1000_1:ByteArray) (x1001_1:Int),v4 = .int .u8 x4_1∧zA (zZ.l0 kq s0_1 x4_1 x1000_1 x1001_1=some (r1,r2,r3))∧zA (kq≤k)∧zA (zE w0 w' g x1000_1 x1001_1)∧zA (zQ w w' g none)∧zA (Below w0.heap.size w0 w'))
 case atStart=>exact⟨(t113),(t114),(t115),vU,H',⟨Nat.le_refl _⟩,⟨qS⟩,⟨vT⟩,⟨qT⟩⟩
 case round =>
  clear H'
  try clear p2
  try clear c4
  try clear hcz3_0
  try clear hcz3_1
  try clear hfz3_0
  try clear hfz3_1
  obtain⟨x4_1,x1000_1,x1001_1,rfl,HA,HK1,HI0,HK,HB⟩:=hrel
  cases gk with
  | zero=>exact absurd HA.out (by simp [zZ.l0])
  | succ k1 =>
   have H:=HA.out
   clear HA
   simp only [zZ.l0] at H
   by_cases c5:48≤x4_1
   ·
    rw [if_pos c5] at H
    have c5b0:decide (48≤x4_1)=true:=decide_eq_true c5
    clear c5
    by_cases c6:x4_1≤57
    ·
     rw [if_pos c6] at H
     have c6b0:decide (x4_1≤57)=true:=decide_eq_true c6
     clear c6
     replace H:=Option.bind_eq_some_iff.mp H
     obtain⟨⟨t116,t117,t118⟩,A70,H⟩:=H
     try dsimp only at H
     have A7:=zA.mk A70
     clear A70
     as_aux_lemma =>
      have H':=zA.mk H
      clear H
      obtain⟨HGz8,hgz8⟩:=HI0.out
      have hcz8_0:=xS HGz8
      have hcz8_1:=xT HGz8
      have hfz8_0:=zC HGz8 0
      have hfz8_1:=zC HGz8 1
      clear HGz8 hgz8
      go_wp2_with (first|((with_reducible refine zR (f:=49) rfl ?_);refine xN (some 18) rfl rfl Tryz.func49 (by kernel_rfl) rfl #[.pointer (some ⟨g,0,none⟩)] rfl jI ?_;(with_reducible refine(xM.calls g x1000_1 (wrap64 (x1001_1+1)) t116 t117 t118 w0 _ ?side1 ?side2 A7.out).mono ?_);(case side1=>repeat (first|(with_reducible first|exact HI0.out|apply zE.alloc|apply zE.drewN|apply zE.drew|apply zE.xX|apply zE.xY)|exact HI0.out));(case side2=>repeat (first|(with_reducible first|exact HB.out|apply zD|apply zH|apply zJ|refine zT ?_ (zE.ge HI0.out))|exact HB.out));rintro e w9 ⟨rfl,hi,hb,hk⟩;refine⟨_,rfl,?_⟩;replace HK:=zA.mk (zQ.trans vT hk (.inl rfl));replace HB:=zA.mk (hb);replace HI0:=zA.mk (hi);(try clear hb);(try clear hb2);(try clear hk);(try clear hi)))
      go_roundg k1
      case measure=>have:=HK1.out;omega
      case rel=>exact⟨(t116),(t117),(t118),vU,H',⟨VU⟩,⟨qS⟩,⟨vT⟩,⟨qT⟩⟩
    ·
     rw [if_neg c6] at H
     have c6b0:decide (x4_1≤57)=false:=decide_eq_false c6
     clear c6
     as_aux_lemma =>
      simp only [Option.some.injEq,Prod.mk.injEq] at H
      obtain⟨rfl,rfl,rfl⟩:=H
      obtain⟨HGz10,hgz10⟩:=HI0.out
      have hcz10_0:=xS HGz10
      have hcz10_1:=xT HGz10
      have hfz10_0:=zC HGz10 0
      have hfz10_1:=zC HGz10 1
      clear HGz10 hgz10
      go_wp2
      go_ret
      exact⟨qW,qS,qT,vT⟩
   ·
    rw [if_neg c5] at H
    have c5b0:decide (48≤x4_1)=false:=decide_eq_false c5
    clear c5
    as_aux_lemma =>
     simp only [Option.some.injEq,Prod.mk.injEq] at H
     obtain⟨rfl,rfl,rfl⟩:=H
     obtain⟨HGz11,hgz11⟩:=HI0.out
     have hcz11_0:=xS HGz11
     have hcz11_1:=xT HGz11
     have hfz11_0:=zC HGz11 0
     have hfz11_1:=zC HGz11 1
     clear HGz11 hgz11
     go_wp2
     go_ret
     exact⟨qW,qS,qT,vT⟩
end Go.Proofs.YtljhmnnhfnmhmaaGreatDoor.G
