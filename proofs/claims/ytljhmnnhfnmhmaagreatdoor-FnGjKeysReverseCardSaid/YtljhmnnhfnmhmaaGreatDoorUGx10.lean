/-
Lemmas of this claim; made short by a program of this work.
-/
import Derived.Test.YtljhmnnhfnmhmaaGreatDoorUM7
import Derived.Test.YtljhmnnhfnmhmaaGreatDoorUGx6
import Derived.Test.YtljhmnnhfnmhmaaGreatDoorUM0
set_option linter.unusedVariables false
set_option linter.unusedSimpArgs false
set_option maxHeartbeats 8000000
set_option maxRecDepth 100000
namespace Go.Proofs.YtljhmnnhfnmhmaaGreatDoor.G
open Go.RowKit Go.Proofs.YtljhmnnhfnmhmaaGreatDoorW.PrintWords Go.Proofs.YtljhmnnhfnmhmaaGreatDoorW.PrintLast Go.Proofs.YtljhmnnhfnmhmaaGreatDoorW.PrintMore
attribute [local go_sem] qG qJ yE yF jT jU qH qK
def xR.l0:Nat→ByteArray→Int→Option (Bool)
 | 0,_,_=>none
 | k+1,x0,x3=>if x3 < (x0.size:Int) then (if 0≤x3 then (if (bt x0 x3)=92 then ((xC.f k x0 x3).bind fun bt368=>(if bt368.2=true then ((vK.f bt368.1).bind fun t370=>(if t370=true then ((xC.f k x0 (wrap64 (x3+6))).bind fun bt371=>(if bt371.2=true then ((vM.f bt371.1).bind fun t373=>(if t373=true then (xR.l0 k x0 (wrap64 (x3+12))) else (some false))) else (some false))) else ((vM.f bt368.1).bind fun t374=>(if t374=true then (some false) else (xR.l0 k x0 (wrap64 (x3+6))))))) else (xR.l0 k x0 (wrap64 (x3+2))))) else (xR.l0 k x0 (wrap64 (x3+1)))) else (none)) else (some true)
def xR.f (k:Nat) (a0:ByteArray):Option (Bool):=xR.l0 k a0 0
theorem xR.calls (k:Nat) (a0:ByteArray) (r:Bool) (w:World) (h:xR.f k a0=some r) :
  Calls Tryz.prog 23 #[.string a0] w fun e w'=>e = .returned (.bool r)∧vW w w':=by
 have H:(xR.l0 k a0 0)=some r:=h
 clear h
 have H':=zA.mk H
 clear H
 go_enter Tryz.func23,Tryz.ntmps23
 go_wp2
 (try simp only [Act.put,List.setIfInBounds_toArray,List.set_cons_succ,List.set_cons_zero])
 go_loopg [3] k (fun kq v3 w'=>∃ (x3_1:Int),v3 = .int .i64 x3_1∧zA (xR.l0 kq a0 x3_1=some r)∧zA (kq≤k)∧vW w w')
 case atStart=>exact⟨(0),vU,H',⟨Nat.le_refl _⟩,qQ⟩
 case round =>
  clear H'
  obtain⟨x3_1,rfl,HA,HK1,⟨m1,rfl⟩⟩:=hrel
  cases gk with
  | zero=>exact absurd HA.out (by simp [xR.l0])
  | succ k1 =>
   have H:=HA.out
   clear HA
   simp only [xR.l0] at H
   by_cases c2:x3_1 < (a0.size:Int)
   ·
    rw [if_pos c2] at H
    have c2b0:decide (x3_1 < (a0.size:Int))=true:=decide_eq_true c2
    clear c2
    by_cases c3:0≤x3_1
    ·
     rw [if_pos c3] at H
     have c3b0:decide (0≤x3_1)=true:=decide_eq_true c3
     clear c3
     by_cases c5:(bt a0 x3_1)=92
     ·
      rw [if_pos c5] at H
      have c5b0:((bt a0 x3_1) == 92)=true:=beq_iff_eq.mpr c5
      have c5b1:((bt a0 x3_1) != 92)=false:=bne_eq_false_iff_eq.mpr c5
      clear c5
      replace H:=Option.bind_eq_some_iff.mp H
      obtain⟨⟨t368,t369⟩,A60,H⟩:=H
      try dsimp only at H
      have A6:=zA.mk A60
      clear A60
      by_cases c7:t369=true
      ·
       subst c7
       rw [if_pos rfl] at H
       replace H:=Option.bind_eq_some_iff.mp H
       obtain⟨t370,A80,H⟩:=H
       try dsimp only at H
       have A8:=zA.mk A80
       clear A80
       by_cases c9:t370=true
       ·
        subst c9
        rw [if_pos rfl] at H
        replace H:=Option.bind_eq_some_iff.mp H
        obtain⟨⟨t371,t372⟩,A100,H⟩:=H
        try dsimp only at H
        have A10:=zA.mk A100
        clear A100
        by_cases c11:t372=true
        ·
         subst c11
         rw [if_pos rfl] at H
         replace H:=Option.bind_eq_some_iff.mp H
         obtain⟨t373,A120,H⟩:=H
         try dsimp only at H
         have A12:=zA.mk A120
         clear A120
         by_cases c13:t373=true
         ·
          subst c13
          rw [if_pos rfl] at H
          as_aux_lemma =>
           have H':=zA.mk H
           clear H
           have p4:0≤(x3_1:Int):=of_decide_eq_true jC
           have q4:x3_1 < (a0.size:Int):=of_decide_eq_true jC
           have hx4:=j9 a0 x3_1
           replace p4:=eq_true p4
           replace q4:=eq_true q4
           go_wp2_with (first|((with_reducible refine zR (f:=33) rfl ?_);refine xN (some 21) rfl rfl Tryz.func33 (by kernel_rfl) rfl #[.string a0, .int .i64 x3_1] rfl jI ?_;(with_reducible refine(xC.calls k1 a0 x3_1 t368 true _ A6.out).mono ?_);rintro e w' ⟨rfl,⟨nd,rfl⟩⟩;refine⟨_,rfl,?_⟩)|((with_reducible refine zR (f:=34) rfl ?_);refine xN (some 33) rfl rfl Tryz.func34 (by kernel_rfl) rfl #[.int .i64 t368] rfl jI ?_;(with_reducible refine(vK.calls t368 true _ A8.out).mono ?_);rintro e w' ⟨rfl,⟨nd,rfl⟩⟩;refine⟨_,rfl,?_⟩)|((with_reducible refine zR (f:=33) rfl ?_);refine xN (some 38) rfl rfl Tryz.func33 (by kernel_rfl) rfl #[.string a0, .int .i64 (wrap64 (x3_1+6))] rfl jI ?_;(with_reducible refine(xC.calls k1 a0 (wrap64 (x3_1+6)) t371 true _ A10.out).mono ?_);rintro e w' ⟨rfl,⟨nd,rfl⟩⟩;refine⟨_,rfl,?_⟩)|(go_at_call 35;(with_reducible refine(vM.calls t371 true _ A12.out).mono ?_);rintro e w' ⟨rfl,⟨nd,rfl⟩⟩))
           go_roundg k1
           case measure=>have:=HK1.out;omega
           case rel=>exact⟨(wrap64 (x3_1+12)),vU,H',⟨VU⟩,qQ⟩
         ·
          replace c13:=Bool.eq_false_iff.mpr c13
          subst c13
          rw [if_neg (show ¬ (false=true) by decide)] at H
          as_aux_lemma =>
           obtain rfl:=Option.some.inj H
           have p4:0≤(x3_1:Int):=of_decide_eq_true jC
           have q4:x3_1 < (a0.size:Int):=of_decide_eq_true jC
           have hx4:=j9 a0 x3_1
           replace p4:=eq_true p4
           replace q4:=eq_true q4
           go_wp2_with (first|((with_reducible refine zR (f:=33) rfl ?_);refine xN (some 21) rfl rfl Tryz.func33 (by kernel_rfl) rfl #[.string a0, .int .i64 x3_1] rfl jI ?_;(with_reducible refine(xC.calls k1 a0 x3_1 t368 true _ A6.out).mono ?_);rintro e w' ⟨rfl,⟨nd,rfl⟩⟩;refine⟨_,rfl,?_⟩)|((with_reducible refine zR (f:=34) rfl ?_);refine xN (some 33) rfl rfl Tryz.func34 (by kernel_rfl) rfl #[.int .i64 t368] rfl jI ?_;(with_reducible refine(vK.calls t368 true _ A8.out).mono ?_);rintro e w' ⟨rfl,⟨nd,rfl⟩⟩;refine⟨_,rfl,?_⟩)|((with_reducible refine zR (f:=33) rfl ?_);refine xN (some 38) rfl rfl Tryz.func33 (by kernel_rfl) rfl #[.string a0, .int .i64 (wrap64 (x3_1+6))] rfl jI ?_;(with_reducible refine(xC.calls k1 a0 (wrap64 (x3_1+6)) t371 true _ A10.out).mono ?_);rintro e w' ⟨rfl,⟨nd,rfl⟩⟩;refine⟨_,rfl,?_⟩)|(go_at_call 35;(with_reducible refine(vM.calls t371 false _ A12.out).mono ?_);rintro e w' ⟨rfl,⟨nd,rfl⟩⟩))
           go_ret
           exact⟨vU,qQ⟩
        ·
         replace c11:=Bool.eq_false_iff.mpr c11
         subst c11
         rw [if_neg (show ¬ (false=true) by decide)] at H
         as_aux_lemma =>
          obtain rfl:=Option.some.inj H
          have p4:0≤(x3_1:Int):=of_decide_eq_true jC
          have q4:x3_1 < (a0.size:Int):=of_decide_eq_true jC
          have hx4:=j9 a0 x3_1
          replace p4:=eq_true p4
          replace q4:=eq_true q4
          go_wp2_with (first|((with_reducible refine zR (f:=33) rfl ?_);refine xN (some 21) rfl rfl Tryz.func33 (by kernel_rfl) rfl #[.string a0, .int .i64 x3_1] rfl jI ?_;(with_reducible refine(xC.calls k1 a0 x3_1 t368 true _ A6.out).mono ?_);rintro e w' ⟨rfl,⟨nd,rfl⟩⟩;refine⟨_,rfl,?_⟩)|((with_reducible refine zR (f:=34) rfl ?_);refine xN (some 33) rfl rfl Tryz.func34 (by kernel_rfl) rfl #[.int .i64 t368] rfl jI ?_;(with_reducible refine(vK.calls t368 true _ A8.out).mono ?_);rintro e w' ⟨rfl,⟨nd,rfl⟩⟩;refine⟨_,rfl,?_⟩)|((with_reducible refine zR (f:=33) rfl ?_);refine xN (some 38) rfl rfl Tryz.func33 (by kernel_rfl) rfl #[.string a0, .int .i64 (wrap64 (x3_1+6))] rfl jI ?_;(with_reducible refine(xC.calls k1 a0 (wrap64 (x3_1+6)) t371 false _ A10.out).mono ?_);rintro e w' ⟨rfl,⟨nd,rfl⟩⟩;refine⟨_,rfl,?_⟩))
          go_ret
          exact⟨vU,qQ⟩
       ·
        replace c9:=Bool.eq_false_iff.mpr c9
        subst c9
        rw [if_neg (show ¬ (false=true) by decide)] at H
        replace H:=Option.bind_eq_some_iff.mp H
        obtain⟨t374,A140,H⟩:=H
        try dsimp only at H
        have A14:=zA.mk A140
        clear A140
        by_cases c15:t374=true
        ·
         subst c15
         rw [if_pos rfl] at H
         as_aux_lemma =>
          obtain rfl:=Option.some.inj H
          have p4:0≤(x3_1:Int):=of_decide_eq_true jC
          have q4:x3_1 < (a0.size:Int):=of_decide_eq_true jC
          have hx4:=j9 a0 x3_1
          replace p4:=eq_true p4
          replace q4:=eq_true q4
          go_wp2_with (first|((with_reducible refine zR (f:=33) rfl ?_);refine xN (some 21) rfl rfl Tryz.func33 (by kernel_rfl) rfl #[.string a0, .int .i64 x3_1] rfl jI ?_;(with_reducible refine(xC.calls k1 a0 x3_1 t368 true _ A6.out).mono ?_);rintro e w' ⟨rfl,⟨nd,rfl⟩⟩;refine⟨_,rfl,?_⟩)|((with_reducible refine zR (f:=34) rfl ?_);refine xN (some 33) rfl rfl Tryz.func34 (by kernel_rfl) rfl #[.int .i64 t368] rfl jI ?_;(with_reducible refine(vK.calls t368 false _ A8.out).mono ?_);rintro e w' ⟨rfl,⟨nd,rfl⟩⟩;refine⟨_,rfl,?_⟩)|((with_reducible refine zR (f:=35) rfl ?_);refine xN (some 52) rfl rfl Tryz.func35 (by kernel_rfl) rfl #[.int .i64 t368] rfl jI ?_;(with_reducible refine(vM.calls t368 true _ A14.out).mono ?_);rintro e w' ⟨rfl,⟨nd,rfl⟩⟩;refine⟨_,rfl,?_⟩))
          go_ret
          exact⟨vU,qQ⟩
        ·
         replace c15:=Bool.eq_false_iff.mpr c15
         subst c15
         rw [if_neg (show ¬ (false=true) by decide)] at H
         as_aux_lemma =>
          have H':=zA.mk H
          clear H
          have p4:0≤(x3_1:Int):=of_decide_eq_true jC
          have q4:x3_1 < (a0.size:Int):=of_decide_eq_true jC
          have hx4:=j9 a0 x3_1
          replace p4:=eq_true p4
          replace q4:=eq_true q4
          go_wp2_with (first|((with_reducible refine zR (f:=33) rfl ?_);refine xN (some 21) rfl rfl Tryz.func33 (by kernel_rfl) rfl #[.string a0, .int .i64 x3_1] rfl jI ?_;(with_reducible refine(xC.calls k1 a0 x3_1 t368 true _ A6.out).mono ?_);rintro e w' ⟨rfl,⟨nd,rfl⟩⟩;refine⟨_,rfl,?_⟩)|((with_reducible refine zR (f:=34) rfl ?_);refine xN (some 33) rfl rfl Tryz.func34 (by kernel_rfl) rfl #[.int .i64 t368] rfl jI ?_;(with_reducible refine(vK.calls t368 false _ A8.out).mono ?_);rintro e w' ⟨rfl,⟨nd,rfl⟩⟩;refine⟨_,rfl,?_⟩)|((with_reducible refine zR (f:=35) rfl ?_);refine xN (some 52) rfl rfl Tryz.func35 (by kernel_rfl) rfl #[.int .i64 t368] rfl jI ?_;(with_reducible refine(vM.calls t368 false _ A14.out).mono ?_);rintro e w' ⟨rfl,⟨nd,rfl⟩⟩;refine⟨_,rfl,?_⟩))
          go_roundg k1
          case measure=>have:=HK1.out;omega
          case rel=>exact⟨(wrap64 (x3_1+6)),vU,H',⟨VU⟩,qQ⟩
      ·
       replace c7:=Bool.eq_false_iff.mpr c7
       subst c7
       rw [if_neg (show ¬ (false=true) by decide)] at H
       as_aux_lemma =>
        have H':=zA.mk H
        clear H
        have p4:0≤(x3_1:Int):=of_decide_eq_true jC
        have q4:x3_1 < (a0.size:Int):=of_decide_eq_true jC
        have hx4:=j9 a0 x3_1
        replace p4:=eq_true p4
        replace q4:=eq_true q4
        go_wp2_with (first|((with_reducible refine zR (f:=33) rfl ?_);refine xN (some 21) rfl rfl Tryz.func33 (by kernel_rfl) rfl #[.string a0, .int .i64 x3_1] rfl jI ?_;(with_reducible refine(xC.calls k1 a0 x3_1 t368 false _ A6.out).mono ?_);rintro e w' ⟨rfl,⟨nd,rfl⟩⟩;refine⟨_,rfl,?_⟩))
        go_roundg k1
        case measure=>have:=HK1.out;omega
        case rel=>exact⟨(wrap64 (x3_1+2)),vU,H',⟨VU⟩,qQ⟩
     ·
      rw [if_neg c5] at H
      have c5b0:((bt a0 x3_1) == 92)=false:=beq_eq_false_iff_ne.mpr c5
      have c5b1:((bt a0 x3_1) != 92)=true:=bne_iff_ne.mpr c5
      as_aux_lemma =>
       have H':=zA.mk H
       clear H
       have p4:0≤(x3_1:Int):=of_decide_eq_true jC
       have q4:x3_1 < (a0.size:Int):=of_decide_eq_true jC
       have hx4:=j9 a0 x3_1
       replace p4:=eq_true p4
       replace q4:=eq_true q4
       go_wp2
       go_roundg k1
       case measure=>have:=HK1.out;omega
       case rel=>exact⟨(wrap64 (x3_1+1)),vU,H',⟨VU⟩,qQ⟩
    ·
     rw [if_neg c3] at H
     exact absurd H (by simp)
   ·
    rw [if_neg c2] at H
    have c2b0:decide (x3_1 < (a0.size:Int))=false:=decide_eq_false c2
    clear c2
    as_aux_lemma =>
     obtain rfl:=Option.some.inj H
     go_wp2
     go_ret
     exact⟨vU,qQ⟩
def j6.l0:Nat→ByteArray→Int→Int→ByteArray→List ByteArray→List (S25)→Option (Int)
 | 0,_,_,_,_,_,_=>none
 | k+1,x1,x5,x379000,x379001,x379002,x379003=>if x5 ≥ 0 then (if 0≤x5 then (if x5 < (x379002.length:Int) then (if (kX ByteArray.empty x379002 x5).toList=x1.toList then (some x5) else (j6.l0 k x1 (wrap64 (x5 - 1)) x379000 x379001 x379002 x379003)) else (none)) else (none)) else (some (-1))
def j6.f (k:Nat) (a0_0:Int) (a0_1:ByteArray) (l0_2:List ByteArray) (l0_3:List (S25)) (a1:ByteArray):Option (Int):=j6.l0 k a1 (wrap64 ((l0_2.length:Int) - 1)) a0_0 a0_1 l0_2 l0_3
theorem j6.calls (k:Nat) (a0_0:Int) (a0_1:ByteArray) (A0_2:Option Addr) (c0_2:Nat) (l0_2:List ByteArray) (A0_3:Option Addr) (c0_3:Nat) (l0_3:List (S25)) (a1:ByteArray) (r:Int) (w:World) (hr0_2:Kd.C Kd.string w A0_2 l0_2.length l0_2) (hc0_2:l0_2.length≤c0_2) (hr0_3:Kd.C k25 w A0_3 l0_3.length l0_3) (hc0_3:l0_3.length≤c0_3) (h:j6.f k a0_0 a0_1 l0_2 l0_3 a1=some r) :
  Calls Tryz.prog 24 #[.agg #[.int .i64 a0_0, .string a0_1, .slice A0_2 l0_2.length c0_2, .slice A0_3 l0_3.length c0_3], .string a1] w fun e w'=>e = .returned (.int .i64 r)∧Below w.heap.size w w':=by
 have hu25:=Tryz.underlying25
 have HR0_2:=zA.mk hr0_2
 have HC0_2:=zA.mk hc0_2
 clear hr0_2 hc0_2
 have HR0_3:=zA.mk hr0_3
 have HC0_3:=zA.mk hc0_3
 clear hr0_3 hc0_3
 have HB:=zA.mk (Below.refl w.heap.size w)
 have H:(j6.l0 k a1 (wrap64 ((l0_2.length:Int) - 1)) a0_0 a0_1 l0_2 l0_3)=some r:=h
 clear h
 have H':=zA.mk H
 clear H
 go_enter Tryz.func24,Tryz.ntmps24
 go_wp2_with (first|((with_reducible refine jB (N:=2) rfl ?_);refine jS ?hg (N:=2) ?hd (cs:=#[.int .i64 a0_0, .string a0_1, .slice A0_2 l0_2.length c0_2, .slice A0_3 l0_3.length c0_3]) (t:=25) ?hr ?_;(case hd=>rfl);(case hg=>rfl);(case hr=>first|(go_simp;done)|(go_simp;rfl));intro gb378 hg w3 hbox hb;have n0_:=zA.mk (vB yS hb);have n1_:=zA.mk (hbox);have n2_:=zA.mk ((by rw [hg];exact(xB yS):w.heap.size≤gb378));have n3_:=zA.mk ((by rw [hg];exact(xB yS):w.heap.size≤gb378));clear HB;have HB:=n0_;have BK378:=n1_;have GW378:=n2_;have GE378:=n3_;clear n0_ n1_ n2_ n3_;clear hb hbox hg;have hcz4_0:w3.cell? ⟨gb378,0,none⟩=some (.int .i64 a0_0):=(zB BK378.out 0).trans rfl;have hcz4_1:w3.cell? ⟨gb378,1,none⟩=some (.string a0_1):=(zB BK378.out 1).trans rfl;have hcz4_2:w3.cell? ⟨gb378,2,none⟩=some (.slice A0_2 l0_2.length c0_2):=(zB BK378.out 2).trans rfl;have hcz4_3:w3.cell? ⟨gb378,3,none⟩=some (.slice A0_3 l0_3.length c0_3):=(zB BK378.out 3).trans rfl;have hfz4_0:=zC BK378.out 0;have hfz4_1:=zC BK378.out 1;have hfz4_2:=zC BK378.out 2;have hfz4_3:=zC BK378.out 3))
 (try simp only [Act.put,List.setIfInBounds_toArray,List.set_cons_succ,List.set_cons_zero])
 go_loopg [5] k (fun kq v5 w'=>∃ (x5_1:Int),v5 = .int .i64 x5_1∧zA (j6.l0 kq a1 x5_1 a0_0 a0_1 l0_2 l0_3=some r)∧zA (kq≤k)∧zA (w'.heap[gb378]?=some (.cells #[.int .i64 a0_0, .string a0_1,(.slice A0_2 l0_2.length c0_2),(.slice A0_3 l0_3.length c0_3)] 25 (0,0)))∧zA (Below w.heap.size w w'))
 case atStart=>exact⟨(wrap64 ((l0_2.length:Int) - 1)),vU,H',⟨Nat.le_refl _⟩,⟨by (with_reducible repeat (first|refine zG ?_ _|refine zI ?_|refine zF ?_ _));exact BK378.out⟩,⟨Zq71⟩⟩
 case round =>
  clear H'
  try clear c2
  try clear p2
  try clear hcz4_0
  try clear hcz4_1
  try clear hcz4_2
  try clear hcz4_3
  try clear hfz4_0
  try clear hfz4_1
  try clear hfz4_2
  try clear hfz4_3
  obtain⟨x5_1,rfl,HA,HK1,BK378,HB⟩:=hrel
  cases gk with
  | zero=>exact absurd HA.out (by simp [j6.l0])
  | succ k1 =>
   have H:=HA.out
   clear HA
   simp only [j6.l0] at H
   by_cases c5:x5_1 ≥ 0
   ·
    rw [if_pos c5] at H
    have c5b0:decide (0≤x5_1)=true:=decide_eq_true c5
    clear c5
    by_cases c6:0≤x5_1
    ·
     rw [if_pos c6] at H
     have c6b0:decide (0≤x5_1)=true:=decide_eq_true c6
     clear c6
     by_cases c7:x5_1 < (l0_2.length:Int)
     ·
      rw [if_pos c7] at H
      have c7b0:decide (x5_1 < (l0_2.length:Int))=true:=decide_eq_true c7
      clear c7
      by_cases c8:(kX ByteArray.empty l0_2 x5_1).toList=a1.toList
      ·
       rw [if_pos c8] at H
       have c8b0:((kX ByteArray.empty l0_2 x5_1).toList == a1.toList)=true:=beq_iff_eq.mpr c8
       have c8b1:((kX ByteArray.empty l0_2 x5_1).toList != a1.toList)=false:=bne_eq_false_iff_eq.mpr c8
       clear c8
       as_aux_lemma =>
        obtain rfl:=Option.some.inj H
        have hcz9_0:wr.cell? ⟨gb378,0,none⟩=some (.int .i64 a0_0):=(zB BK378.out 0).trans rfl
        have hcz9_1:wr.cell? ⟨gb378,1,none⟩=some (.string a0_1):=(zB BK378.out 1).trans rfl
        have hcz9_2:wr.cell? ⟨gb378,2,none⟩=some (.slice A0_2 l0_2.length c0_2):=(zB BK378.out 2).trans rfl
        have hcz9_3:wr.cell? ⟨gb378,3,none⟩=some (.slice A0_3 l0_3.length c0_3):=(zB BK378.out 3).trans rfl
        have hfz9_0:=zC BK378.out 0
        have hfz9_1:=zC BK378.out 1
        have hfz9_2:=zC BK378.out 2
        have hfz9_3:=zC BK378.out 3
        have p379:0≤(x5_1:Int):=of_decide_eq_true jC
        have q379:x5_1 < (l0_2.length:Int):=of_decide_eq_true jC
        obtain⟨ad379,e379,hx379_0⟩:=Kd.yL HR0_2.out x5_1 p379 q379
        cases e379
        replace hx379_0:=(HB.out.cell (World.block_lt_of_cell? w _ hx379_0)).trans hx379_0
        replace p379:=eq_true p379
        replace q379:=eq_true q379
        go_wp2
        go_ret
        exact⟨qW,Zq71⟩
      ·
       rw [if_neg c8] at H
       have c8b0:((kX ByteArray.empty l0_2 x5_1).toList == a1.toList)=false:=beq_eq_false_iff_ne.mpr c8
       have c8b1:((kX ByteArray.empty l0_2 x5_1).toList != a1.toList)=true:=bne_iff_ne.mpr c8
       as_aux_lemma =>
        have H':=zA.mk H
        clear H
        have hcz10_0:wr.cell? ⟨gb378,0,none⟩=some (.int .i64 a0_0):=(zB BK378.out 0).trans rfl
        have hcz10_1:wr.cell? ⟨gb378,1,none⟩=some (.string a0_1):=(zB BK378.out 1).trans rfl
        have hcz10_2:wr.cell? ⟨gb378,2,none⟩=some (.slice A0_2 l0_2.length c0_2):=(zB BK378.out 2).trans rfl
        have hcz10_3:wr.cell? ⟨gb378,3,none⟩=some (.slice A0_3 l0_3.length c0_3):=(zB BK378.out 3).trans rfl
        have hfz10_0:=zC BK378.out 0
        have hfz10_1:=zC BK378.out 1
        have hfz10_2:=zC BK378.out 2
        have hfz10_3:=zC BK378.out 3
        have p379:0≤(x5_1:Int):=of_decide_eq_true jC
        have q379:x5_1 < (l0_2.length:Int):=of_decide_eq_true jC
        obtain⟨ad379,e379,hx379_0⟩:=Kd.yL HR0_2.out x5_1 p379 q379
        cases e379
        replace hx379_0:=(HB.out.cell (World.block_lt_of_cell? w _ hx379_0)).trans hx379_0
        replace p379:=eq_true p379
        replace q379:=eq_true q379
        go_wp2
        go_roundg k1
        case measure=>have:=HK1.out;omega
        case rel=>exact⟨(wrap64 (x5_1 - 1)),vU,H',⟨VU⟩,⟨by (with_reducible repeat (first|refine zG ?_ _|refine zI ?_|refine zF ?_ _));exact BK378.out⟩,⟨Zq71⟩⟩
     ·
      rw [if_neg c7] at H
      exact absurd H (by simp)
    ·
     rw [if_neg c6] at H
     exact absurd H (by simp)
   ·
    rw [if_neg c5] at H
    have c5b0:decide (0≤x5_1)=false:=decide_eq_false c5
    clear c5
    as_aux_lemma =>
     obtain rfl:=Option.some.inj H
     go_wp2
     go_ret
     exact⟨qW,Zq71⟩
end Go.Proofs.YtljhmnnhfnmhmaaGreatDoor.G
