/-
Lemmas of this claim; made short by a program of this work.
-/
import Derived.Test.YtljhmnnhfnmhmaaGreatDoorUM7
import Derived.Test.YtljhmnnhfnmhmaaGreatDoorUGx1
import Derived.Test.YtljhmnnhfnmhmaaGreatDoorUGx2
import Derived.Test.YtljhmnnhfnmhmaaGreatDoorUM0
set_option linter.unusedVariables false
set_option linter.unusedSimpArgs false
set_option maxHeartbeats 8000000
set_option maxRecDepth 100000
namespace Go.Proofs.YtljhmnnhfnmhmaaGreatDoor.G
open Go.RowKit Go.Proofs.YtljhmnnhfnmhmaaGreatDoorW.PrintWords Go.Proofs.YtljhmnnhfnmhmaaGreatDoorW.PrintLast Go.Proofs.YtljhmnnhfnmhmaaGreatDoorW.PrintMore
attribute [local go_sem] qG qJ yE yF jT jU qH qK
mutual
def zN.j0:Nat→Bool→ByteArray→Int→Option (Bool × ByteArray × Int)
 | 0,_,_,_=>none
 | k+1,x12,x1000,x1001=>if x12=true then (some (false,x1000,x1001)) else ((zP.f x1000 x1001 46).bind fun bt128=>(if bt128.1=true then ((zZ.f k bt128.2.1 bt128.2.2).bind fun bt131=>(zN.j1 k (!bt131.1) bt131.2.1 bt131.2.2)) else (zN.j1 k false bt128.2.1 bt128.2.2)))
def zN.j1:Nat→Bool→ByteArray→Int→Option (Bool × ByteArray × Int)
 | 0,_,_,_=>none
 | k+1,x19,x1000,x1001=>if x19=true then (some (false,x1000,x1001)) else ((zP.f x1000 x1001 101).bind fun bt134=>(if bt134.1=true then (zN.j2 k true bt134.2.1 bt134.2.2) else ((zP.f bt134.2.1 bt134.2.2 69).bind fun bt137=>(zN.j2 k bt137.1 bt137.2.1 bt137.2.2))))
def zN.j2:Nat→Bool→ByteArray→Int→Option (Bool × ByteArray × Int)
 | 0,_,_,_=>none
 | k+1,x25,x1000,x1001=>if x25=true then ((zP.f x1000 x1001 43).bind fun bt140=>(if bt140.1=true then ((zZ.f k bt140.2.1 bt140.2.2).bind fun bt143=>(some (bt143.1,bt143.2.1,bt143.2.2))) else ((zP.f bt140.2.1 bt140.2.2 45).bind fun bt146=>((zZ.f k bt146.2.1 bt146.2.2).bind fun bt149=>(some (bt149.1,bt149.2.1,bt149.2.2)))))) else (some (true,x1000,x1001))
end
def zN.f (k:Nat) (s0_0:ByteArray) (s0_1:Int):Option (Bool × ByteArray × Int):=(zP.f s0_0 s0_1 45).bind fun bt119=>((zP.f bt119.2.1 bt119.2.2 48).bind fun bt122=>(if bt122.1=true then (zN.j0 k false bt122.2.1 bt122.2.2) else ((zZ.f k bt122.2.1 bt122.2.2).bind fun bt125=>(zN.j0 k (!bt125.1) bt125.2.1 bt125.2.2))))
theorem zN.calls (k:Nat) (g:Nat) (s0_0:ByteArray) (s0_1:Int) (r1:Bool) (r2:ByteArray) (r3:Int) (w0 w:World) (hI:zE w0 w g s0_0 s0_1) (hB:Below w0.heap.size w0 w) (h:zN.f k s0_0 s0_1=some (r1,r2,r3)) :
  Calls Tryz.prog 53 #[.pointer (some ⟨g,0,none⟩)] w fun e w'=>e = .returned (.bool r1)∧zE w0 w' g r2 r3∧Below w0.heap.size w0 w'∧zQ w w' g none:=by
 have HI0:=zA.mk hI
 have HK:=zA.mk (zQ.refl w g none)
 have HL:=zA.mk hB.size
 clear hI
 have HW0:=zA.mk hB.size
 have HB:=zA.mk hB
 clear hB
 have H:((zP.f s0_0 s0_1 45).bind fun bt119=>((zP.f bt119.2.1 bt119.2.2 48).bind fun bt122=>(if bt122.1=true then (zN.j0 k false bt122.2.1 bt122.2.2) else ((zZ.f k bt122.2.1 bt122.2.2).bind fun bt125=>(zN.j0 k (!bt125.1) bt125.2.1 bt125.2.2)))))=some (r1,r2,r3):=h
 clear h
 replace H:=Option.bind_eq_some_iff.mp H
 obtain⟨⟨t119,t120,t121⟩,A20,H⟩:=H
 try dsimp only at H
 have A2:=zA.mk A20
 clear A20
 have HC3:=zA.mk H
 clear H
 go_enter Tryz.func53,Tryz.ntmps53
 go_upto_region 2 with (first|((with_reducible refine zR (f:=71) rfl ?_);refine xN (some 4) rfl rfl Tryz.func71 (by kernel_rfl) rfl #[.pointer (some ⟨g,0,none⟩), .int .u8 45] rfl jI ?_;(with_reducible refine(zP.calls g s0_0 s0_1 45 t119 t120 t121 w0 _ ?side1 ?side2 A2.out).mono ?_);(case side1=>repeat (first|(with_reducible first|exact HI0.out|apply zE.alloc|apply zE.drewN|apply zE.drew|apply zE.xX|apply zE.xY)|exact HI0.out));(case side2=>repeat (first|(with_reducible first|exact HB.out|apply zD|apply zH|apply zJ|refine zT ?_ (zE.ge HI0.out))|exact HB.out));rintro e w4 ⟨rfl,hi,hb,hk⟩;refine⟨_,rfl,?_⟩;replace HK:=zA.mk (zQ.trans vT hk (.inl rfl));replace HB:=zA.mk (hb);replace HI0:=zA.mk (hi);(try clear hb);(try clear hb2);(try clear hk);(try clear hi)))
 (try simp only [Act.put,List.setIfInBounds_toArray,List.set_cons_zero,List.set_cons_succ])
 go_cut [12] (fun v12 wc=>∃ (kq:Nat) (x12_2:Bool) (x1000_2:ByteArray) (x1001_2:Int),v12 = .bool x12_2∧zA (zN.j0 kq x12_2 x1000_2 x1001_2=some (r1,r2,r3))∧zA (kq≤k)∧zA (zE w0 wc g x1000_2 x1001_2)∧zA (zQ w wc g none)∧zA (Below w0.heap.size w0 wc))
 case first =>
  have H:=HC3.out
  clear HC3
  replace H:=Option.bind_eq_some_iff.mp H
  obtain⟨⟨t122,t123,t124⟩,A50,H⟩:=H
  try dsimp only at H
  have A5:=zA.mk A50
  clear A50
  by_cases c6:t122=true
  ·
   subst c6
   rw [if_pos rfl] at H
   as_aux_lemma =>
    have H':=zA.mk H
    clear H
    go_wp2_with (first|((with_reducible refine zR (f:=71) rfl ?_);refine xN (some 6) rfl rfl Tryz.func71 (by kernel_rfl) rfl #[.pointer (some ⟨g,0,none⟩), .int .u8 48] rfl jI ?_;(with_reducible refine(zP.calls g t120 t121 48 true t123 t124 w0 _ ?side1 ?side2 A5.out).mono ?_);(case side1=>repeat (first|(with_reducible first|exact HI0.out|apply zE.alloc|apply zE.drewN|apply zE.drew|apply zE.xX|apply zE.xY)|exact HI0.out));(case side2=>repeat (first|(with_reducible first|exact HB.out|apply zD|apply zH|apply zJ|refine zT ?_ (zE.ge HI0.out))|exact HB.out));rintro e w7 ⟨rfl,hi,hb,hk⟩;refine⟨_,rfl,?_⟩;replace HK:=zA.mk (zQ.trans vT hk (.inl rfl));replace HB:=zA.mk (hb);replace HI0:=zA.mk (hi);(try clear hb);(try clear hb2);(try clear hk);(try clear hi)))
    go_meet
    case rel=>exact⟨_,(false),(t123),(t124),vU,H',⟨uJ⟩,⟨qS⟩,⟨vT⟩,⟨qT⟩⟩
  ·
   replace c6:=Bool.eq_false_iff.mpr c6
   subst c6
   rw [if_neg (show ¬ (false=true) by decide)] at H
   replace H:=Option.bind_eq_some_iff.mp H
   obtain⟨⟨t125,t126,t127⟩,A80,H⟩:=H
   try dsimp only at H
   have A8:=zA.mk A80
   clear A80
   as_aux_lemma =>
    have H':=zA.mk H
    clear H
    go_wp2_with (first|((with_reducible refine zR (f:=71) rfl ?_);refine xN (some 6) rfl rfl Tryz.func71 (by kernel_rfl) rfl #[.pointer (some ⟨g,0,none⟩), .int .u8 48] rfl jI ?_;(with_reducible refine(zP.calls g t120 t121 48 false t123 t124 w0 _ ?side1 ?side2 A5.out).mono ?_);(case side1=>repeat (first|(with_reducible first|exact HI0.out|apply zE.alloc|apply zE.drewN|apply zE.drew|apply zE.xX|apply zE.xY)|exact HI0.out));(case side2=>repeat (first|(with_reducible first|exact HB.out|apply zD|apply zH|apply zJ|refine zT ?_ (zE.ge HI0.out))|exact HB.out));rintro e w9 ⟨rfl,hi,hb,hk⟩;refine⟨_,rfl,?_⟩;replace HK:=zA.mk (zQ.trans vT hk (.inl rfl));replace HB:=zA.mk (hb);replace HI0:=zA.mk (hi);(try clear hb);(try clear hb2);(try clear hk);(try clear hi))|(go_at_call 73;(with_reducible refine(zZ.calls k g t123 t124 t125 t126 t127 w0 _ ?side1 ?side2 A8.out).mono ?_);(case side1=>repeat (first|(with_reducible first|exact HI0.out|apply zE.alloc|apply zE.drewN|apply zE.drew|apply zE.xX|apply zE.xY)|exact HI0.out));(case side2=>repeat (first|(with_reducible first|exact HB.out|apply zD|apply zH|apply zJ|refine zT ?_ (zE.ge HI0.out))|exact HB.out));rintro e w10 ⟨rfl,hi,hb,hk⟩;replace HK:=zA.mk (zQ.trans vT hk (.inl rfl));replace HB:=zA.mk (hb);replace HI0:=zA.mk (hi);(try clear hb);(try clear hb2);(try clear hk);(try clear hi)))
    go_meet
    case rel=>exact⟨_,(!t125),(t126),(t127),vU,H',⟨uJ⟩,⟨qS⟩,⟨vT⟩,⟨qT⟩⟩
 case rest =>
  clear HC3
  try clear p2
  try clear c5
  try clear c6
  try clear c7
  obtain⟨kq,x12_2,x1000_2,x1001_2,rfl,HA,HJ2,HI0,HK,HB⟩:=hcut
  cases kq with
  | zero=>exact absurd HA.out (by simp [zN.j0])
  | succ kj2 =>
   have H:=HA.out
   clear HA
   simp only [zN.j0] at H
   by_cases c11:x12_2=true
   ·
    subst c11
    rw [if_pos rfl] at H
    as_aux_lemma =>
     simp only [Option.some.injEq,Prod.mk.injEq] at H
     obtain⟨rfl,rfl,rfl⟩:=H
     go_wp2
     go_ret
     exact⟨qW,qS,qT,vT⟩
   ·
    replace c11:=Bool.eq_false_iff.mpr c11
    subst c11
    rw [if_neg (show ¬ (false=true) by decide)] at H
    have HC12:=zA.mk H
    clear H
    go_upto_region 4 with (fail)
    go_cut [19] (fun v19 wc=>∃ (kq:Nat) (x19_11:Bool) (x1000_11:ByteArray) (x1001_11:Int),v19 = .bool x19_11∧zA (zN.j1 kq x19_11 x1000_11 x1001_11=some (r1,r2,r3))∧zA (kq≤kj2)∧zA (zE w0 wc g x1000_11 x1001_11)∧zA (zQ w wc g none)∧zA (Below w0.heap.size w0 wc))
    case first =>
     have H:=HC12.out
     clear HC12
     replace H:=Option.bind_eq_some_iff.mp H
     obtain⟨⟨t128,t129,t130⟩,A130,H⟩:=H
     try dsimp only at H
     have A13:=zA.mk A130
     clear A130
     by_cases c14:t128=true
     ·
      subst c14
      rw [if_pos rfl] at H
      replace H:=Option.bind_eq_some_iff.mp H
      obtain⟨⟨t131,t132,t133⟩,A150,H⟩:=H
      try dsimp only at H
      have A15:=zA.mk A150
      clear A150
      as_aux_lemma =>
       have H':=zA.mk H
       clear H
       go_wp2_with (first|((with_reducible refine zR (f:=71) rfl ?_);refine xN (some 14) rfl rfl Tryz.func71 (by kernel_rfl) rfl #[.pointer (some ⟨g,0,none⟩), .int .u8 46] rfl jI ?_;(with_reducible refine(zP.calls g x1000_2 x1001_2 46 true t129 t130 w0 _ ?side1 ?side2 A13.out).mono ?_);(case side1=>repeat (first|(with_reducible first|exact HI0.out|apply zE.alloc|apply zE.drewN|apply zE.drew|apply zE.xX|apply zE.xY)|exact HI0.out));(case side2=>repeat (first|(with_reducible first|exact HB.out|apply zD|apply zH|apply zJ|refine zT ?_ (zE.ge HI0.out))|exact HB.out));rintro e w16 ⟨rfl,hi,hb,hk⟩;refine⟨_,rfl,?_⟩;replace HK:=zA.mk (zQ.trans vT hk (.inl rfl));replace HB:=zA.mk (hb);replace HI0:=zA.mk (hi);(try clear hb);(try clear hb2);(try clear hk);(try clear hi))|(go_at_call 73;(with_reducible refine(zZ.calls kj2 g t129 t130 t131 t132 t133 w0 _ ?side1 ?side2 A15.out).mono ?_);(case side1=>repeat (first|(with_reducible first|exact HI0.out|apply zE.alloc|apply zE.drewN|apply zE.drew|apply zE.xX|apply zE.xY)|exact HI0.out));(case side2=>repeat (first|(with_reducible first|exact HB.out|apply zD|apply zH|apply zJ|refine zT ?_ (zE.ge HI0.out))|exact HB.out));rintro e w17 ⟨rfl,hi,hb,hk⟩;replace HK:=zA.mk (zQ.trans vT hk (.inl rfl));replace HB:=zA.mk (hb);replace HI0:=zA.mk (hi);(try clear hb);(try clear hb2);(try clear hk);(try clear hi)))
       go_meet
       case rel=>exact⟨_,(!t131),(t132),(t133),vU,H',⟨by have:=HJ2.out;first|omega|exact Nat.le_refl _⟩,⟨qS⟩,⟨vT⟩,⟨qT⟩⟩
     ·
      replace c14:=Bool.eq_false_iff.mpr c14
      subst c14
      rw [if_neg (show ¬ (false=true) by decide)] at H
      as_aux_lemma =>
       have H':=zA.mk H
       clear H
       go_wp2_with (first|((with_reducible refine zR (f:=71) rfl ?_);refine xN (some 14) rfl rfl Tryz.func71 (by kernel_rfl) rfl #[.pointer (some ⟨g,0,none⟩), .int .u8 46] rfl jI ?_;(with_reducible refine(zP.calls g x1000_2 x1001_2 46 false t129 t130 w0 _ ?side1 ?side2 A13.out).mono ?_);(case side1=>repeat (first|(with_reducible first|exact HI0.out|apply zE.alloc|apply zE.drewN|apply zE.drew|apply zE.xX|apply zE.xY)|exact HI0.out));(case side2=>repeat (first|(with_reducible first|exact HB.out|apply zD|apply zH|apply zJ|refine zT ?_ (zE.ge HI0.out))|exact HB.out));rintro e w18 ⟨rfl,hi,hb,hk⟩;refine⟨_,rfl,?_⟩;replace HK:=zA.mk (zQ.trans vT hk (.inl rfl));replace HB:=zA.mk (hb);replace HI0:=zA.mk (hi);(try clear hb);(try clear hb2);(try clear hk);(try clear hi)))
       go_meet
       case rel=>exact⟨_,(false),(t129),(t130),vU,H',⟨by have:=HJ2.out;first|omega|exact Nat.le_refl _⟩,⟨qS⟩,⟨vT⟩,⟨qT⟩⟩
    case rest =>
     clear HC12
     try clear c1
     try clear p2
     try clear c5
     try clear c6
     try clear c7
     try clear c11
     try clear c14
     try clear p2
     obtain⟨kq,x19_11,x1000_11,x1001_11,rfl,HA,HJ11,HI0,HK,HB⟩:=hcut
     cases kq with
     | zero=>exact absurd HA.out (by simp [zN.j1])
     | succ kj11 =>
      have H:=HA.out
      clear HA
      simp only [zN.j1] at H
      by_cases c19:x19_11=true
      ·
       subst c19
       rw [if_pos rfl] at H
       as_aux_lemma =>
        simp only [Option.some.injEq,Prod.mk.injEq] at H
        obtain⟨rfl,rfl,rfl⟩:=H
        go_wp2
        go_ret
        exact⟨qW,qS,qT,vT⟩
      ·
       replace c19:=Bool.eq_false_iff.mpr c19
       subst c19
       rw [if_neg (show ¬ (false=true) by decide)] at H
       have HC20:=zA.mk H
       clear H
       go_upto_region 6 with (fail)
       go_cut [25] (fun v25 wc=>∃ (kq:Nat) (x25_19:Bool) (x1000_19:ByteArray) (x1001_19:Int),v25 = .bool x25_19∧zA (zN.j2 kq x25_19 x1000_19 x1001_19=some (r1,r2,r3))∧zA (kq≤kj11)∧zA (zE w0 wc g x1000_19 x1001_19)∧zA (zQ w wc g none)∧zA (Below w0.heap.size w0 wc))
       case first =>
        have H:=HC20.out
        clear HC20
        replace H:=Option.bind_eq_some_iff.mp H
        obtain⟨⟨t134,t135,t136⟩,A210,H⟩:=H
        try dsimp only at H
        have A21:=zA.mk A210
        clear A210
        by_cases c22:t134=true
        ·
         subst c22
         rw [if_pos rfl] at H
         as_aux_lemma =>
          have H':=zA.mk H
          clear H
          go_wp2_with (first|((with_reducible refine zR (f:=71) rfl ?_);refine xN (some 21) rfl rfl Tryz.func71 (by kernel_rfl) rfl #[.pointer (some ⟨g,0,none⟩), .int .u8 101] rfl jI ?_;(with_reducible refine(zP.calls g x1000_11 x1001_11 101 true t135 t136 w0 _ ?side1 ?side2 A21.out).mono ?_);(case side1=>repeat (first|(with_reducible first|exact HI0.out|apply zE.alloc|apply zE.drewN|apply zE.drew|apply zE.xX|apply zE.xY)|exact HI0.out));(case side2=>repeat (first|(with_reducible first|exact HB.out|apply zD|apply zH|apply zJ|refine zT ?_ (zE.ge HI0.out))|exact HB.out));rintro e w23 ⟨rfl,hi,hb,hk⟩;refine⟨_,rfl,?_⟩;replace HK:=zA.mk (zQ.trans vT hk (.inl rfl));replace HB:=zA.mk (hb);replace HI0:=zA.mk (hi);(try clear hb);(try clear hb2);(try clear hk);(try clear hi)))
          go_meet
          case rel=>exact⟨_,(true),(t135),(t136),vU,H',⟨by have:=HJ2.out;have:=HJ11.out;first|omega|exact Nat.le_refl _⟩,⟨qS⟩,⟨vT⟩,⟨qT⟩⟩
        ·
         replace c22:=Bool.eq_false_iff.mpr c22
         subst c22
         rw [if_neg (show ¬ (false=true) by decide)] at H
         replace H:=Option.bind_eq_some_iff.mp H
         obtain⟨⟨t137,t138,t139⟩,A240,H⟩:=H
         try dsimp only at H
         have A24:=zA.mk A240
         clear A240
         as_aux_lemma =>
          have H':=zA.mk H
          clear H
          go_wp2_with (first|((with_reducible refine zR (f:=71) rfl ?_);refine xN (some 21) rfl rfl Tryz.func71 (by kernel_rfl) rfl #[.pointer (some ⟨g,0,none⟩), .int .u8 101] rfl jI ?_;(with_reducible refine(zP.calls g x1000_11 x1001_11 101 false t135 t136 w0 _ ?side1 ?side2 A21.out).mono ?_);(case side1=>repeat (first|(with_reducible first|exact HI0.out|apply zE.alloc|apply zE.drewN|apply zE.drew|apply zE.xX|apply zE.xY)|exact HI0.out));(case side2=>repeat (first|(with_reducible first|exact HB.out|apply zD|apply zH|apply zJ|refine zT ?_ (zE.ge HI0.out))|exact HB.out));rintro e w25 ⟨rfl,hi,hb,hk⟩;refine⟨_,rfl,?_⟩;replace HK:=zA.mk (zQ.trans vT hk (.inl rfl));replace HB:=zA.mk (hb);replace HI0:=zA.mk (hi);(try clear hb);(try clear hb2);(try clear hk);(try clear hi))|(go_at_call 71;(with_reducible refine(zP.calls g t135 t136 69 t137 t138 t139 w0 _ ?side1 ?side2 A24.out).mono ?_);(case side1=>repeat (first|(with_reducible first|exact HI0.out|apply zE.alloc|apply zE.drewN|apply zE.drew|apply zE.xX|apply zE.xY)|exact HI0.out));(case side2=>repeat (first|(with_reducible first|exact HB.out|apply zD|apply zH|apply zJ|refine zT ?_ (zE.ge HI0.out))|exact HB.out));rintro e w26 ⟨rfl,hi,hb,hk⟩;replace HK:=zA.mk (zQ.trans vT hk (.inl rfl));replace HB:=zA.mk (hb);replace HI0:=zA.mk (hi);(try clear hb);(try clear hb2);(try clear hk);(try clear hi)))
          go_meet
          case rel=>exact⟨_,(t137),(t138),(t139),vU,H',⟨by have:=HJ2.out;have:=HJ11.out;first|omega|exact Nat.le_refl _⟩,⟨qS⟩,⟨vT⟩,⟨qT⟩⟩
       case rest =>
        clear HC20
        try clear c1
        try clear c2
        try clear p2
        try clear c5
        try clear c6
        try clear c7
        try clear c11
        try clear c14
        try clear c19
        try clear c22
        try clear p2
        obtain⟨kq,x25_19,x1000_19,x1001_19,rfl,HA,HJ19,HI0,HK,HB⟩:=hcut
        cases kq with
        | zero=>exact absurd HA.out (by simp [zN.j2])
        | succ kj19 =>
         have H:=HA.out
         clear HA
         simp only [zN.j2] at H
         by_cases c27:x25_19=true
         ·
          subst c27
          rw [if_pos rfl] at H
          replace H:=Option.bind_eq_some_iff.mp H
          obtain⟨⟨t140,t141,t142⟩,A280,H⟩:=H
          try dsimp only at H
          have A28:=zA.mk A280
          clear A280
          by_cases c29:t140=true
          ·
           subst c29
           rw [if_pos rfl] at H
           replace H:=Option.bind_eq_some_iff.mp H
           obtain⟨⟨t143,t144,t145⟩,A300,H⟩:=H
           try dsimp only at H
           have A30:=zA.mk A300
           clear A300
           as_aux_lemma =>
            simp only [Option.some.injEq,Prod.mk.injEq] at H
            obtain⟨rfl,rfl,rfl⟩:=H
            go_wp2_with (first|((with_reducible refine zR (f:=71) rfl ?_);refine xN (some 27) rfl rfl Tryz.func71 (by kernel_rfl) rfl #[.pointer (some ⟨g,0,none⟩), .int .u8 43] rfl jI ?_;(with_reducible refine(zP.calls g x1000_19 x1001_19 43 true t141 t142 w0 _ ?side1 ?side2 A28.out).mono ?_);(case side1=>repeat (first|(with_reducible first|exact HI0.out|apply zE.alloc|apply zE.drewN|apply zE.drew|apply zE.xX|apply zE.xY)|exact HI0.out));(case side2=>repeat (first|(with_reducible first|exact HB.out|apply zD|apply zH|apply zJ|refine zT ?_ (zE.ge HI0.out))|exact HB.out));rintro e w31 ⟨rfl,hi,hb,hk⟩;refine⟨_,rfl,?_⟩;replace HK:=zA.mk (zQ.trans vT hk (.inl rfl));replace HB:=zA.mk (hb);replace HI0:=zA.mk (hi);(try clear hb);(try clear hb2);(try clear hk);(try clear hi))|((with_reducible refine zR (f:=73) rfl ?_);refine xN (some 32) rfl rfl Tryz.func73 (by kernel_rfl) rfl #[.pointer (some ⟨g,0,none⟩)] rfl jI ?_;(with_reducible refine(zZ.calls kj19 g t141 t142 t143 t144 t145 w0 _ ?side1 ?side2 A30.out).mono ?_);(case side1=>repeat (first|(with_reducible first|exact HI0.out|apply zE.alloc|apply zE.drewN|apply zE.drew|apply zE.xX|apply zE.xY)|exact HI0.out));(case side2=>repeat (first|(with_reducible first|exact HB.out|apply zD|apply zH|apply zJ|refine zT ?_ (zE.ge HI0.out))|exact HB.out));rintro e w32 ⟨rfl,hi,hb,hk⟩;refine⟨_,rfl,?_⟩;replace HK:=zA.mk (zQ.trans vT hk (.inl rfl));replace HB:=zA.mk (hb);replace HI0:=zA.mk (hi);(try clear hb);(try clear hb2);(try clear hk);(try clear hi)))
            go_ret
            exact⟨qW,qS,qT,vT⟩
          ·
           replace c29:=Bool.eq_false_iff.mpr c29
           subst c29
           rw [if_neg (show ¬ (false=true) by decide)] at H
           replace H:=Option.bind_eq_some_iff.mp H
           obtain⟨⟨t146,t147,t148⟩,A330,H⟩:=H
           try dsimp only at H
           have A33:=zA.mk A330
           clear A330
           replace H:=Option.bind_eq_some_iff.mp H
           obtain⟨⟨t149,t150,t151⟩,A340,H⟩:=H
           try dsimp only at H
           have A34:=zA.mk A340
           clear A340
           as_aux_lemma =>
            simp only [Option.some.injEq,Prod.mk.injEq] at H
            obtain⟨rfl,rfl,rfl⟩:=H
            go_wp2_with (first|((with_reducible refine zR (f:=71) rfl ?_);refine xN (some 27) rfl rfl Tryz.func71 (by kernel_rfl) rfl #[.pointer (some ⟨g,0,none⟩), .int .u8 43] rfl jI ?_;(with_reducible refine(zP.calls g x1000_19 x1001_19 43 false t141 t142 w0 _ ?side1 ?side2 A28.out).mono ?_);(case side1=>repeat (first|(with_reducible first|exact HI0.out|apply zE.alloc|apply zE.drewN|apply zE.drew|apply zE.xX|apply zE.xY)|exact HI0.out));(case side2=>repeat (first|(with_reducible first|exact HB.out|apply zD|apply zH|apply zJ|refine zT ?_ (zE.ge HI0.out))|exact HB.out));rintro e w35 ⟨rfl,hi,hb,hk⟩;refine⟨_,rfl,?_⟩;replace HK:=zA.mk (zQ.trans vT hk (.inl rfl));replace HB:=zA.mk (hb);replace HI0:=zA.mk (hi);(try clear hb);(try clear hb2);(try clear hk);(try clear hi))|((with_reducible refine zR (f:=71) rfl ?_);refine xN (some 30) rfl rfl Tryz.func71 (by kernel_rfl) rfl #[.pointer (some ⟨g,0,none⟩), .int .u8 45] rfl jI ?_;(with_reducible refine(zP.calls g t141 t142 45 t146 t147 t148 w0 _ ?side1 ?side2 A33.out).mono ?_);(case side1=>repeat (first|(with_reducible first|exact HI0.out|apply zE.alloc|apply zE.drewN|apply zE.drew|apply zE.xX|apply zE.xY)|exact HI0.out));(case side2=>repeat (first|(with_reducible first|exact HB.out|apply zD|apply zH|apply zJ|refine zT ?_ (zE.ge HI0.out))|exact HB.out));rintro e w36 ⟨rfl,hi,hb,hk⟩;refine⟨_,rfl,?_⟩;replace HK:=zA.mk (zQ.trans vT hk (.inl rfl));replace HB:=zA.mk (hb);replace HI0:=zA.mk (hi);(try clear hb);(try clear hb2);(try clear hk);(try clear hi))|((with_reducible refine zR (f:=73) rfl ?_);refine xN (some 32) rfl rfl Tryz.func73 (by kernel_rfl) rfl #[.pointer (some ⟨g,0,none⟩)] rfl jI ?_;(with_reducible refine(zZ.calls kj19 g t147 t148 t149 t150 t151 w0 _ ?side1 ?side2 A34.out).mono ?_);(case side1=>repeat (first|(with_reducible first|exact HI0.out|apply zE.alloc|apply zE.drewN|apply zE.drew|apply zE.xX|apply zE.xY)|exact HI0.out));(case side2=>repeat (first|(with_reducible first|exact HB.out|apply zD|apply zH|apply zJ|refine zT ?_ (zE.ge HI0.out))|exact HB.out));rintro e w37 ⟨rfl,hi,hb,hk⟩;refine⟨_,rfl,?_⟩;replace HK:=zA.mk (zQ.trans vT hk (.inl rfl));replace HB:=zA.mk (hb);replace HI0:=zA.mk (hi);(try clear hb);(try clear hb2);(try clear hk);(try clear hi)))
            go_ret
            exact⟨qW,qS,qT,vT⟩
         ·
          replace c27:=Bool.eq_false_iff.mpr c27
          subst c27
          rw [if_neg (show ¬ (false=true) by decide)] at H
          as_aux_lemma =>
           simp only [Option.some.injEq,Prod.mk.injEq] at H
           obtain⟨rfl,rfl,rfl⟩:=H
           go_wp2
           go_ret
           exact⟨qW,qS,qT,vT⟩
def vA.f (s0_0:ByteArray) (s0_1:Int) (a1:ByteArray):Option (Bool × ByteArray × Int):=if (wrap64 ((s0_0.size:Int) - s0_1)) < (a1.size:Int) then (some (false,s0_0,s0_1)) else (if 0≤s0_1 then (if s0_1≤(wrap64 (s0_1+(a1.size:Int))) then (if (wrap64 (s0_1+(a1.size:Int)))≤(s0_0.size:Int) then (if (s0_0.extract (s0_1:Int).toNat ((wrap64 (s0_1+(a1.size:Int))):Int).toNat).toList=a1.toList then (some (true,s0_0,wrap64 (s0_1+(a1.size:Int)))) else (some (false,s0_0,s0_1))) else (none)) else (none)) else (none))
theorem vA.calls (g:Nat) (s0_0:ByteArray) (s0_1:Int) (a1:ByteArray) (r1:Bool) (r2:ByteArray) (r3:Int) (w0 w:World) (hI:zE w0 w g s0_0 s0_1) (hB:Below w0.heap.size w0 w) (h:vA.f s0_0 s0_1 a1=some (r1,r2,r3)) :
  Calls Tryz.prog 54 #[.pointer (some ⟨g,0,none⟩), .string a1] w fun e w'=>e = .returned (.bool r1)∧zE w0 w' g r2 r3∧Below w0.heap.size w0 w'∧zQ w w' g none:=by
 have HI0:=zA.mk hI
 have HK:=zA.mk (zQ.refl w g none)
 have HL:=zA.mk hB.size
 clear hI
 have HW0:=zA.mk hB.size
 have HB:=zA.mk hB
 clear hB
 have H:(if (wrap64 ((s0_0.size:Int) - s0_1)) < (a1.size:Int) then (some (false,s0_0,s0_1)) else (if 0≤s0_1 then (if s0_1≤(wrap64 (s0_1+(a1.size:Int))) then (if (wrap64 (s0_1+(a1.size:Int)))≤(s0_0.size:Int) then (if (s0_0.extract (s0_1:Int).toNat ((wrap64 (s0_1+(a1.size:Int))):Int).toNat).toList=a1.toList then (some (true,s0_0,wrap64 (s0_1+(a1.size:Int)))) else (some (false,s0_0,s0_1))) else (none)) else (none)) else (none)))=some (r1,r2,r3):=h
 clear h
 by_cases c3:(wrap64 ((s0_0.size:Int) - s0_1)) < (a1.size:Int)
 ·
  rw [if_pos c3] at H
  have c3b0:decide ((wrap64 ((s0_0.size:Int) - s0_1)) < (a1.size:Int))=true:=decide_eq_true c3
  clear c3
  as_aux_lemma =>
   simp only [Option.some.injEq,Prod.mk.injEq] at H
   obtain⟨rfl,rfl,rfl⟩:=H
   obtain⟨HGz4,hgz4⟩:=HI0.out
   have hcz4_0:=xS HGz4
   have hcz4_1:=xT HGz4
   have hfz4_0:=zC HGz4 0
   have hfz4_1:=zC HGz4 1
   clear HGz4 hgz4
   go_enter Tryz.func54,Tryz.ntmps54
   go_wp2
   repeat (go_quiet (fail);try go_wp2)
   go_ret
   exact⟨qW,qS,qT,vT⟩
 ·
  rw [if_neg c3] at H
  have c3b0:decide ((wrap64 ((s0_0.size:Int) - s0_1)) < (a1.size:Int))=false:=decide_eq_false c3
  clear c3
  by_cases c5:0≤s0_1
  ·
   rw [if_pos c5] at H
   have c5b0:=eq_true c5
   have c5b1:decide (0≤s0_1)=true:=decide_eq_true c5
   clear c5
   by_cases c6:s0_1≤(wrap64 (s0_1+(a1.size:Int)))
   ·
    rw [if_pos c6] at H
    have c6b0:=eq_true c6
    have c6b1:decide (s0_1≤(wrap64 (s0_1+(a1.size:Int))))=true:=decide_eq_true c6
    by_cases c7:(wrap64 (s0_1+(a1.size:Int)))≤(s0_0.size:Int)
    ·
     rw [if_pos c7] at H
     have c7b0:=eq_true c7
     have c7b1:decide ((wrap64 (s0_1+(a1.size:Int)))≤(s0_0.size:Int))=true:=decide_eq_true c7
     by_cases c8:(s0_0.extract (s0_1:Int).toNat ((wrap64 (s0_1+(a1.size:Int))):Int).toNat).toList=a1.toList
     ·
      rw [if_pos c8] at H
      have c8b0:((s0_0.extract (s0_1:Int).toNat ((wrap64 (s0_1+(a1.size:Int))):Int).toNat).toList == a1.toList)=true:=beq_iff_eq.mpr c8
      have c8b1:((s0_0.extract (s0_1:Int).toNat ((wrap64 (s0_1+(a1.size:Int))):Int).toNat).toList != a1.toList)=false:=bne_eq_false_iff_eq.mpr c8
      clear c8
      as_aux_lemma =>
       simp only [Option.some.injEq,Prod.mk.injEq] at H
       obtain⟨rfl,rfl,rfl⟩:=H
       obtain⟨HGz9,hgz9⟩:=HI0.out
       have hcz9_0:=xS HGz9
       have hcz9_1:=xT HGz9
       have hfz9_0:=zC HGz9 0
       have hfz9_1:=zC HGz9 1
       clear HGz9 hgz9
       go_enter Tryz.func54,Tryz.ntmps54
       go_wp2
       repeat (go_quiet (fail);try go_wp2)
       go_ret
       exact⟨qW,qS,qT,vT⟩
     ·
      rw [if_neg c8] at H
      have c8b0:((s0_0.extract (s0_1:Int).toNat ((wrap64 (s0_1+(a1.size:Int))):Int).toNat).toList == a1.toList)=false:=beq_eq_false_iff_ne.mpr c8
      have c8b1:((s0_0.extract (s0_1:Int).toNat ((wrap64 (s0_1+(a1.size:Int))):Int).toNat).toList != a1.toList)=true:=bne_iff_ne.mpr c8
      as_aux_lemma =>
       simp only [Option.some.injEq,Prod.mk.injEq] at H
       obtain⟨rfl,rfl,rfl⟩:=H
       obtain⟨HGz10,hgz10⟩:=HI0.out
       have hcz10_0:=xS HGz10
       have hcz10_1:=xT HGz10
       have hfz10_0:=zC HGz10 0
       have hfz10_1:=zC HGz10 1
       clear HGz10 hgz10
       go_enter Tryz.func54,Tryz.ntmps54
       go_wp2
       repeat (go_quiet (fail);try go_wp2)
       go_ret
       exact⟨qW,qS,qT,vT⟩
    ·
     rw [if_neg c7] at H
     exact absurd H (by simp)
   ·
    rw [if_neg c6] at H
    exact absurd H (by simp)
  ·
   rw [if_neg c5] at H
   exact absurd H (by simp)
mutual
def zL.l0:Nat→List (S47)→List (S38)→ByteArray→Int→Option ((List (S47)) × (List (S38)) × Bool × ByteArray × Int)
 | 0,_,_,_,_=>none
 | k+1,x5,x6,x1000,x1001=>(xM.f x1000 x1001).bind fun bt157=>(if bt157.1=34 then ((zV.f k bt157.2.1 bt157.2.2).bind fun bt160=>(zL.j1 k x5 x6 x1001 (!bt160.1) bt160.2.1 bt160.2.2)) else (zL.j1 k x5 x6 x1001 true bt157.2.1 bt157.2.2))
def zL.j1:Nat→List (S47)→List (S38)→Int→Bool→ByteArray→Int→Option ((List (S47)) × (List (S38)) × Bool × ByteArray × Int)
 | 0,_,_,_,_,_,_=>none
 | k+1,x5,x6,x7,x32,x1000,x1001=>if x32=true then (some (([]:List (S47)),([]:List (S38)),false,x1000,x1001)) else (if x5.length < 8796093022208 then ((some (x5 ++ [(⟨x7,x1001⟩:S47)]:List (S47))).bind fun y163=>((zM.f k x1000 x1001).bind fun bt166=>((zP.f bt166.1 bt166.2 58).bind fun bt168=>(if bt168.1=true then ((zM.f k bt168.2.1 bt168.2.2).bind fun bt171=>((zO.f k bt171.1 bt171.2).bind fun bt173=>(if bt173.2.2.2.2.2.1=true then (if x6.length < 1954687338268 then ((some (x6 ++ [(⟨bt173.1,bt173.2.1,bt173.2.2.1,bt173.2.2.2.1,bt173.2.2.2.2.1⟩:S38)]:List (S38))).bind fun y186=>((zM.f k bt173.2.2.2.2.2.2.1 bt173.2.2.2.2.2.2.2).bind fun bt189=>((zP.f bt189.1 bt189.2 125).bind fun bt191=>(if bt191.1=true then (some (y163,y186,true,bt191.2.1,bt191.2.2)) else ((zP.f bt191.2.1 bt191.2.2 44).bind fun bt194=>(if bt194.1=true then ((zM.f k bt194.2.1 bt194.2.2).bind fun bt197=>(zL.l0 k y163 y186 bt197.1 bt197.2)) else (some (([]:List (S47)),([]:List (S38)),false,bt194.2.1,bt194.2.2)))))))) else (none)) else (some (([]:List (S47)),([]:List (S38)),false,bt173.2.2.2.2.2.2.1,bt173.2.2.2.2.2.2.2))))) else (some (([]:List (S47)),([]:List (S38)),false,bt168.2.1,bt168.2.2)))))) else (none))
def zL.f:Nat→ByteArray→Int→Option ((List (S47)) × (List (S38)) × Bool × ByteArray × Int)
 | 0,_,_=>none
 | k+1,s0_0,s0_1=>(zM.f k s0_0 (wrap64 (s0_1+1))).bind fun bt152=>((zP.f bt152.1 bt152.2 125).bind fun bt154=>(if bt154.1=true then (some (([]:List (S47)),([]:List (S38)),true,bt154.2.1,bt154.2.2)) else (zL.l0 k ([]:List (S47)) ([]:List (S38)) bt154.2.1 bt154.2.2)))
def zS.l0:Nat→List (S38)→ByteArray→Int→Option ((List (S38)) × Bool × ByteArray × Int)
 | 0,_,_,_=>none
 | k+1,x4,x1000,x1001=>(zO.f k x1000 x1001).bind fun bt204=>(if bt204.2.2.2.2.2.1=true then (if x4.length < 1954687338268 then ((some (x4 ++ [(⟨bt204.1,bt204.2.1,bt204.2.2.1,bt204.2.2.2.1,bt204.2.2.2.2.1⟩:S38)]:List (S38))).bind fun y217=>((zM.f k bt204.2.2.2.2.2.2.1 bt204.2.2.2.2.2.2.2).bind fun bt220=>((zP.f bt220.1 bt220.2 93).bind fun bt222=>(if bt222.1=true then (some (y217,true,bt222.2.1,bt222.2.2)) else ((zP.f bt222.2.1 bt222.2.2 44).bind fun bt225=>(if bt225.1=true then ((zM.f k bt225.2.1 bt225.2.2).bind fun bt228=>(zS.l0 k y217 bt228.1 bt228.2)) else (some (([]:List (S38)),false,bt225.2.1,bt225.2.2)))))))) else (none)) else (some (([]:List (S38)),false,bt204.2.2.2.2.2.2.1,bt204.2.2.2.2.2.2.2)))
def zS.f:Nat→ByteArray→Int→Option ((List (S38)) × Bool × ByteArray × Int)
 | 0,_,_=>none
 | k+1,s0_0,s0_1=>(zM.f k s0_0 (wrap64 (s0_1+1))).bind fun bt199=>((zP.f bt199.1 bt199.2 93).bind fun bt201=>(if bt201.1=true then (some (([]:List (S38)),true,bt201.2.1,bt201.2.2)) else (zS.l0 k ([]:List (S38)) bt201.2.1 bt201.2.2)))
def zO.j0:Nat→Bool→Bool→ByteArray→Int→Int→Int→Int→Option (Int × Int × Int × (List (S47)) × (List (S38)) × Bool × ByteArray × Int)
 | 0,_,_,_,_,_,_,_=>none
 | k+1,x5,x42,x1000,x1001,x232000,x232001,x232002=>if x42=true then ((zN.f k x1000 x1001).bind fun bt253=>(some (3,x232001,bt253.2.2,([]:List (S47)),([]:List (S38)),bt253.1,bt253.2.1,bt253.2.2))) else ((vA.f x1000 x1001 (⟨#[110,117,108,108]⟩:ByteArray)).bind fun bt256=>(if bt256.1=true then (some (0,x232001,bt256.2.2,([]:List (S47)),([]:List (S38)),x5,bt256.2.1,bt256.2.2)) else ((vA.f bt256.2.1 bt256.2.2 (⟨#[102,97,108,115,101]⟩:ByteArray)).bind fun bt259=>(if bt259.1=true then (some (1,x232001,bt259.2.2,([]:List (S47)),([]:List (S38)),x5,bt259.2.1,bt259.2.2)) else ((vA.f bt259.2.1 bt259.2.2 (⟨#[116,114,117,101]⟩:ByteArray)).bind fun bt262=>(if bt262.1=true then (some (2,x232001,bt262.2.2,([]:List (S47)),([]:List (S38)),x5,bt262.2.1,bt262.2.2)) else (some (x232000,x232001,bt262.2.2,([]:List (S47)),([]:List (S38)),false,bt262.2.1,bt262.2.2))))))))
def zO.f:Nat→ByteArray→Int→Option (Int × Int × Int × (List (S47)) × (List (S38)) × Bool × ByteArray × Int)
 | 0,_,_=>none
 | k+1,s0_0,s0_1=>(xM.f s0_0 s0_1).bind fun bt232=>(if bt232.1=123 then ((zL.f k bt232.2.1 bt232.2.2).bind fun bt235=>(some (6,s0_1,bt235.2.2.2.2,bt235.1,bt235.2.1,bt235.2.2.1,bt235.2.2.2.1,bt235.2.2.2.2))) else (if bt232.1=91 then ((zS.f k bt232.2.1 bt232.2.2).bind fun bt244=>(some (5,s0_1,bt244.2.2.2,([]:List (S47)),bt244.1,bt244.2.1,bt244.2.2.1,bt244.2.2.2))) else (if bt232.1=34 then ((zV.f k bt232.2.1 bt232.2.2).bind fun bt250=>(some (4,s0_1,bt250.2.2,([]:List (S47)),([]:List (S38)),bt250.1,bt250.2.1,bt250.2.2))) else (if bt232.1=45 then (zO.j0 k true true bt232.2.1 bt232.2.2 0 s0_1 0) else (if 48≤bt232.1 then (zO.j0 k true (decide (bt232.1≤57)) bt232.2.1 bt232.2.2 0 s0_1 0) else (zO.j0 k true false bt232.2.1 bt232.2.2 0 s0_1 0))))))
end
end Go.Proofs.YtljhmnnhfnmhmaaGreatDoor.G
