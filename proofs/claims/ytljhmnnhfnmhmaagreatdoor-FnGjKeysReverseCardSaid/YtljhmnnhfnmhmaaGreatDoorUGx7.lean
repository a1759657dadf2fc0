/-
Lemmas of this claim; made short by a program of this work.
-/
import Derived.Test.YtljhmnnhfnmhmaaGreatDoorUM7
import Derived.Test.YtljhmnnhfnmhmaaGreatDoorUGx6
import Derived.Test.YtljhmnnhfnmhmaaGreatDoorUM0
set_option linter.unusedVariables false
set_option linter.unusedSimpArgs false
set_option maxHeartbeats 60000000
set_option maxRecDepth 100000
namespace Go.Proofs.YtljhmnnhfnmhmaaGreatDoor.G
open Go.RowKit Go.Proofs.YtljhmnnhfnmhmaaGreatDoorW.PrintWords Go.Proofs.YtljhmnnhfnmhmaaGreatDoorW.PrintLast Go.Proofs.YtljhmnnhfnmhmaaGreatDoorW.PrintMore
attribute [local go_sem] qG qJ yE yF jT jU qH qK
def xD.l0:Nat→List Int→ByteArray→Int→Option (ByteArray)
 | 0,_,_,_=>none
 | k+1,x3,x4,x5=>if x5 < (x4.size:Int) then (if 0≤x5 then (if (bt x4 x5)=92 then ((xC.f k x4 x5).bind fun bt318=>(if bt318.2=true then ((xC.f k x4 (wrap64 (x5+6))).bind fun bt324=>(if bt324.2=true then ((vK.f bt318.1).bind fun t326=>(if t326=true then ((vM.f bt324.1).bind fun t327=>(if t327=true then ((xH.f k x3 (wrap64 ((wrap64 (65536+(wrap64 ((wrap64 (bt318.1 - 55296)) * 1024))))+(wrap64 (bt324.1 - 56320))))).bind fun t328=>(xD.l0 k t328 x4 (wrap64 ((wrap64 (x5+6))+6)))) else ((xH.f k x3 bt318.1).bind fun t331=>(xD.l0 k t331 x4 (wrap64 (x5+6)))))) else ((xH.f k x3 bt318.1).bind fun t334=>(xD.l0 k t334 x4 (wrap64 (x5+6)))))) else ((xH.f k x3 bt318.1).bind fun t337=>(xD.l0 k t337 x4 (wrap64 (x5+6)))))) else (if 0≤(wrap64 (x5+1)) then (if (wrap64 (x5+1)) < (x4.size:Int) then ((yI.f (bt x4 (wrap64 (x5+1)))).bind fun t320=>(if x3.length < 140737488355328 then (xD.l0 k (x3 ++ [t320]) x4 (wrap64 (x5+2))) else (none))) else (none)) else (none)))) else (if x3.length < 140737488355328 then (xD.l0 k (x3 ++ [bt x4 x5]) x4 (wrap64 (x5+1))) else (none))) else (none)) else (some (strOfNums x3))
def xD.f (k:Nat) (a0:ByteArray):Option (ByteArray):=if 1≤(wrap64 ((a0.size:Int) - 1)) then (if (wrap64 ((a0.size:Int) - 1))≤(a0.size:Int) then (xD.l0 k ([]:List Int) (a0.extract 1 ((wrap64 ((a0.size:Int) - 1)):Int).toNat) 0) else (none)) else (none)
theorem xD.calls (k:Nat) (a0:ByteArray) (r:ByteArray) (w:World) (h:xD.f k a0=some r) :
  Calls Tryz.prog 30 #[.string a0] w fun e w'=>e = .returned (.string r)∧Below w.heap.size w w':=by
 have HB:=zA.mk (Below.refl w.heap.size w)
 have H:(if 1≤(wrap64 ((a0.size:Int) - 1)) then (if (wrap64 ((a0.size:Int) - 1))≤(a0.size:Int) then (xD.l0 k ([]:List Int) (a0.extract 1 ((wrap64 ((a0.size:Int) - 1)):Int).toNat) 0) else (none)) else (none))=some r:=h
 clear h
 by_cases c2:1≤(wrap64 ((a0.size:Int) - 1))
 ·
  rw [if_pos c2] at H
  have c2b0:=eq_true c2
  have c2b1:decide (1≤(wrap64 ((a0.size:Int) - 1)))=true:=decide_eq_true c2
  clear c2
  by_cases c3:(wrap64 ((a0.size:Int) - 1))≤(a0.size:Int)
  ·
   rw [if_pos c3] at H
   have c3b0:=eq_true c3
   have c3b1:decide ((wrap64 ((a0.size:Int) - 1))≤(a0.size:Int))=true:=decide_eq_true c3
   clear c3
   have H':=zA.mk H
   clear H
   go_enter Tryz.func30,Tryz.ntmps30
   go_wp2
   (try simp only [Act.put,List.setIfInBounds_toArray,List.set_cons_succ,List.set_cons_zero])
   generalize a0.extract 1 ((wrap64 ((a0.size:Int) - 1)):Int).toNat=sx at H' ⊢
   go_loopg [3,5] k (fun kq v3 v5 w'=>∃ (x3_1:List Int) (x5_1:Int),v5 = .int .i64 x5_1∧zA (xD.l0 kq x3_1 sx x5_1=some r)∧zA (kq≤k)∧zA (Kd.R (Kd.int .u8) 5 w' w.heap.size (fun _=>True) v3 x3_1)∧zA (Below w.heap.size w w'))
   case atStart=>exact⟨(([]:List Int)),(0),vU,H',⟨Nat.le_refl _⟩,⟨wT⟩,⟨yS⟩⟩
   case round =>
    clear H'
    try clear c2
    try clear c2b0
    try clear c2b1
    try clear p2
    try clear c3
    try clear c3b0
    try clear c3b1
    obtain⟨x3_1,x5_1,rfl,HA,HK1,HO_3,HB⟩:=hrel
    cases gk with
    | zero=>exact absurd HA.out (by simp [xD.l0])
    | succ k1 =>
     have H:=HA.out
     clear HA
     simp only [xD.l0] at H
     by_cases c4:x5_1 < (sx.size:Int)
     ·
      rw [if_pos c4] at H
      have c4b0:decide (x5_1 < (sx.size:Int))=true:=decide_eq_true c4
      clear c4
      by_cases c5:0≤x5_1
      ·
       rw [if_pos c5] at H
       have c5b0:decide (0≤x5_1)=true:=decide_eq_true c5
       clear c5
       by_cases c7:(bt sx x5_1)=92
       ·
        rw [if_pos c7] at H
        have c7b0:((bt sx x5_1) == 92)=true:=beq_iff_eq.mpr c7
        have c7b1:((bt sx x5_1) != 92)=false:=bne_eq_false_iff_eq.mpr c7
        clear c7
        replace H:=Option.bind_eq_some_iff.mp H
        obtain⟨⟨t318,t319⟩,A80,H⟩:=H
        try dsimp only at H
        have A8:=zA.mk A80
        clear A80
        by_cases c9:t319=true
        ·
         subst c9
         rw [if_pos rfl] at H
         replace H:=Option.bind_eq_some_iff.mp H
         obtain⟨⟨t324,t325⟩,A100,H⟩:=H
         try dsimp only at H
         have A10:=zA.mk A100
         clear A100
         by_cases c11:t325=true
         ·
          subst c11
          rw [if_pos rfl] at H
          replace H:=Option.bind_eq_some_iff.mp H
          obtain⟨t326,A120,H⟩:=H
          try dsimp only at H
          have A12:=zA.mk A120
          clear A120
          by_cases c13:t326=true
          ·
           subst c13
           rw [if_pos rfl] at H
           replace H:=Option.bind_eq_some_iff.mp H
           obtain⟨t327,A140,H⟩:=H
           try dsimp only at H
           have A14:=zA.mk A140
           clear A140
           by_cases c15:t327=true
           ·
            subst c15
            rw [if_pos rfl] at H
            replace H:=Option.bind_eq_some_iff.mp H
            obtain⟨t328,A160,H⟩:=H
            try dsimp only at H
            have A16:=zA.mk A160
            clear A160
            have H':=zA.mk H
            clear H
            have p6:0≤(x5_1:Int):=of_decide_eq_true jC
            have q6:x5_1 < (sx.size:Int):=of_decide_eq_true jC
            have hx6:=j9 sx x5_1
            replace p6:=eq_true p6
            replace q6:=eq_true q6
            go_wp2_with (first|((with_reducible refine zR (f:=33) rfl ?_);refine xN (some 34) rfl rfl Tryz.func33 (by kernel_rfl) rfl #[.string sx, .int .i64 x5_1] rfl jI ?_;(with_reducible refine(xC.calls k1 sx x5_1 t318 true _ A8.out).mono ?_);rintro e w' ⟨rfl,⟨nd,rfl⟩⟩;refine⟨_,rfl,?_⟩)|((with_reducible refine zR (f:=33) rfl ?_);refine xN (some 54) rfl rfl Tryz.func33 (by kernel_rfl) rfl #[.string sx, .int .i64 (wrap64 (x5_1+6))] rfl jI ?_;(with_reducible refine(xC.calls k1 sx (wrap64 (x5_1+6)) t324 true _ A10.out).mono ?_);rintro e w' ⟨rfl,⟨nd,rfl⟩⟩;refine⟨_,rfl,?_⟩)|(go_at_call 34;(with_reducible refine(vK.calls t318 true _ A12.out).mono ?_);rintro e w' ⟨rfl,⟨nd,rfl⟩⟩)|(go_at_call 35;(with_reducible refine(vM.calls t324 true _ A14.out).mono ?_);rintro e w' ⟨rfl,⟨nd,rfl⟩⟩;obtain⟨Ao17,co17,eo17⟩:=Kd.vJ HO_3.out;subst eo17)|((with_reducible refine zR (f:=56) rfl ?_);refine xN (some 77) rfl rfl Tryz.func56 (by kernel_rfl) rfl #[.slice Ao17 x3_1.length co17, .int .i64 (wrap64 ((wrap64 (65536+(wrap64 ((wrap64 (t318 - 55296)) * 1024))))+(wrap64 (t324 - 56320))))] rfl jI ?_;(with_reducible refine(xH.calls k1 (fun k_=>some k_=(.slice Ao17 x3_1.length co17:Value).ownBlock) (.slice Ao17 x3_1.length co17) x3_1 (wrap64 ((wrap64 (65536+(wrap64 ((wrap64 (t318 - 55296)) * 1024))))+(wrap64 (t324 - 56320)))) t328 w _ ?side1 ?side2 A16.out).mono ?_);(case side1=>repeat (first|(with_reducible first|exact HB.out|apply zD|apply zH|apply zJ)|exact HB.out));(case side2=>exact Kd.Z5 rfl HO_3.out);rintro e w18 ⟨v329,rfl,ho0,hb,hkp⟩;refine⟨_,rfl,?_⟩;replace HO330:=zA.mk (Kd.xG (ok':=fun k_=>True) ho0 (fun k_ hk_=>trivial));replace HB:=zA.mk (hb);(try clear hb);(try clear hkp);(try clear ho0)))
            go_roundg k1
            case measure=>have:=HK1.out;omega
            case rel=>exact⟨(t328),(wrap64 ((wrap64 (x5_1+6))+6)),vU,H',⟨VU⟩,⟨by (with_reducible repeat (first|apply Kd.xJ|apply Kd.xK|apply Kd.xU));exact HO330.out⟩,⟨yS⟩⟩
           ·
            replace c15:=Bool.eq_false_iff.mpr c15
            subst c15
            rw [if_neg (show ¬ (false=true) by decide)] at H
            replace H:=Option.bind_eq_some_iff.mp H
            obtain⟨t331,A190,H⟩:=H
            try dsimp only at H
            have A19:=zA.mk A190
            clear A190
            have H':=zA.mk H
            clear H
            have p6:0≤(x5_1:Int):=of_decide_eq_true jC
            have q6:x5_1 < (sx.size:Int):=of_decide_eq_true jC
            have hx6:=j9 sx x5_1
            replace p6:=eq_true p6
            replace q6:=eq_true q6
            go_wp2_with (first|((with_reducible refine zR (f:=33) rfl ?_);refine xN (some 34) rfl rfl Tryz.func33 (by kernel_rfl) rfl #[.string sx, .int .i64 x5_1] rfl jI ?_;(with_reducible refine(xC.calls k1 sx x5_1 t318 true _ A8.out).mono ?_);rintro e w' ⟨rfl,⟨nd,rfl⟩⟩;refine⟨_,rfl,?_⟩)|((with_reducible refine zR (f:=33) rfl ?_);refine xN (some 54) rfl rfl Tryz.func33 (by kernel_rfl) rfl #[.string sx, .int .i64 (wrap64 (x5_1+6))] rfl jI ?_;(with_reducible refine(xC.calls k1 sx (wrap64 (x5_1+6)) t324 true _ A10.out).mono ?_);rintro e w' ⟨rfl,⟨nd,rfl⟩⟩;refine⟨_,rfl,?_⟩)|(go_at_call 34;(with_reducible refine(vK.calls t318 true _ A12.out).mono ?_);rintro e w' ⟨rfl,⟨nd,rfl⟩⟩)|(go_at_call 35;(with_reducible refine(vM.calls t324 false _ A14.out).mono ?_);rintro e w' ⟨rfl,⟨nd,rfl⟩⟩;obtain⟨Ao20,co20,eo20⟩:=Kd.vJ HO_3.out;subst eo20)|((with_reducible refine zR (f:=56) rfl ?_);refine xN (some 77) rfl rfl Tryz.func56 (by kernel_rfl) rfl #[.slice Ao20 x3_1.length co20, .int .i64 t318] rfl jI ?_;(with_reducible refine(xH.calls k1 (fun k_=>some k_=(.slice Ao20 x3_1.length co20:Value).ownBlock) (.slice Ao20 x3_1.length co20) x3_1 t318 t331 w _ ?side1 ?side2 A19.out).mono ?_);(case side1=>repeat (first|(with_reducible first|exact HB.out|apply zD|apply zH|apply zJ)|exact HB.out));(case side2=>exact Kd.Z5 rfl HO_3.out);rintro e w21 ⟨v332,rfl,ho0,hb,hkp⟩;refine⟨_,rfl,?_⟩;replace HO333:=zA.mk (Kd.xG (ok':=fun k_=>True) ho0 (fun k_ hk_=>trivial));replace HB:=zA.mk (hb);(try clear hb);(try clear hkp);(try clear ho0)))
            go_roundg k1
            case measure=>have:=HK1.out;omega
            case rel=>exact⟨(t331),(wrap64 (x5_1+6)),vU,H',⟨VU⟩,⟨by (with_reducible repeat (first|apply Kd.xJ|apply Kd.xK|apply Kd.xU));exact HO333.out⟩,⟨yS⟩⟩
          ·
           replace c13:=Bool.eq_false_iff.mpr c13
           subst c13
           rw [if_neg (show ¬ (false=true) by decide)] at H
           replace H:=Option.bind_eq_some_iff.mp H
           obtain⟨t334,A220,H⟩:=H
           try dsimp only at H
           have A22:=zA.mk A220
           clear A220
           have H':=zA.mk H
           clear H
           have p6:0≤(x5_1:Int):=of_decide_eq_true jC
           have q6:x5_1 < (sx.size:Int):=of_decide_eq_true jC
           have hx6:=j9 sx x5_1
           replace p6:=eq_true p6
           replace q6:=eq_true q6
           go_wp2_with (first|((with_reducible refine zR (f:=33) rfl ?_);refine xN (some 34) rfl rfl Tryz.func33 (by kernel_rfl) rfl #[.string sx, .int .i64 x5_1] rfl jI ?_;(with_reducible refine(xC.calls k1 sx x5_1 t318 true _ A8.out).mono ?_);rintro e w' ⟨rfl,⟨nd,rfl⟩⟩;refine⟨_,rfl,?_⟩)|((with_reducible refine zR (f:=33) rfl ?_);refine xN (some 54) rfl rfl Tryz.func33 (by kernel_rfl) rfl #[.string sx, .int .i64 (wrap64 (x5_1+6))] rfl jI ?_;(with_reducible refine(xC.calls k1 sx (wrap64 (x5_1+6)) t324 true _ A10.out).mono ?_);rintro e w' ⟨rfl,⟨nd,rfl⟩⟩;refine⟨_,rfl,?_⟩)|(go_at_call 34;(with_reducible refine(vK.calls t318 false _ A12.out).mono ?_);rintro e w' ⟨rfl,⟨nd,rfl⟩⟩;obtain⟨Ao23,co23,eo23⟩:=Kd.vJ HO_3.out;subst eo23)|((with_reducible refine zR (f:=56) rfl ?_);refine xN (some 77) rfl rfl Tryz.func56 (by kernel_rfl) rfl #[.slice Ao23 x3_1.length co23, .int .i64 t318] rfl jI ?_;(with_reducible refine(xH.calls k1 (fun k_=>some k_=(.slice Ao23 x3_1.length co23:Value).ownBlock) (.slice Ao23 x3_1.length co23) x3_1 t318 t334 w _ ?side1 ?side2 A22.out).mono ?_);(case side1=>repeat (first|(with_reducible first|exact HB.out|apply zD|apply zH|apply zJ)|exact HB.out));(case side2=>exact Kd.Z5 rfl HO_3.out);rintro e w24 ⟨v335,rfl,ho0,hb,hkp⟩;refine⟨_,rfl,?_⟩;replace HO336:=zA.mk (Kd.xG (ok':=fun k_=>True) ho0 (fun k_ hk_=>trivial));replace HB:=zA.mk (hb);(try clear hb);(try clear hkp);(try clear ho0)))
           go_roundg k1
           case measure=>have:=HK1.out;omega
           case rel=>exact⟨(t334),(wrap64 (x5_1+6)),vU,H',⟨VU⟩,⟨by (with_reducible repeat (first|apply Kd.xJ|apply Kd.xK|apply Kd.xU));exact HO336.out⟩,⟨yS⟩⟩
         ·
          replace c11:=Bool.eq_false_iff.mpr c11
          subst c11
          rw [if_neg (show ¬ (false=true) by decide)] at H
          replace H:=Option.bind_eq_some_iff.mp H
          obtain⟨t337,A250,H⟩:=H
          try dsimp only at H
          have A25:=zA.mk A250
          clear A250
          have H':=zA.mk H
          clear H
          have p6:0≤(x5_1:Int):=of_decide_eq_true jC
          have q6:x5_1 < (sx.size:Int):=of_decide_eq_true jC
          have hx6:=j9 sx x5_1
          replace p6:=eq_true p6
          replace q6:=eq_true q6
          go_wp2_with (first|((with_reducible refine zR (f:=33) rfl ?_);refine xN (some 34) rfl rfl Tryz.func33 (by kernel_rfl) rfl #[.string sx, .int .i64 x5_1] rfl jI ?_;(with_reducible refine(xC.calls k1 sx x5_1 t318 true _ A8.out).mono ?_);rintro e w' ⟨rfl,⟨nd,rfl⟩⟩;refine⟨_,rfl,?_⟩)|((with_reducible refine zR (f:=33) rfl ?_);refine xN (some 54) rfl rfl Tryz.func33 (by kernel_rfl) rfl #[.string sx, .int .i64 (wrap64 (x5_1+6))] rfl jI ?_;(with_reducible refine(xC.calls k1 sx (wrap64 (x5_1+6)) t324 false _ A10.out).mono ?_);rintro e w' ⟨rfl,⟨nd,rfl⟩⟩;refine⟨_,rfl,?_⟩;obtain⟨Ao26,co26,eo26⟩:=Kd.vJ HO_3.out;subst eo26)|((with_reducible refine zR (f:=56) rfl ?_);refine xN (some 77) rfl rfl Tryz.func56 (by kernel_rfl) rfl #[.slice Ao26 x3_1.length co26, .int .i64 t318] rfl jI ?_;(with_reducible refine(xH.calls k1 (fun k_=>some k_=(.slice Ao26 x3_1.length co26:Value).ownBlock) (.slice Ao26 x3_1.length co26) x3_1 t318 t337 w _ ?side1 ?side2 A25.out).mono ?_);(case side1=>repeat (first|(with_reducible first|exact HB.out|apply zD|apply zH|apply zJ)|exact HB.out));(case side2=>exact Kd.Z5 rfl HO_3.out);rintro e w27 ⟨v338,rfl,ho0,hb,hkp⟩;refine⟨_,rfl,?_⟩;replace HO339:=zA.mk (Kd.xG (ok':=fun k_=>True) ho0 (fun k_ hk_=>trivial));replace HB:=zA.mk (hb);(try clear hb);(try clear hkp);(try clear ho0)))
          go_roundg k1
          case measure=>have:=HK1.out;omega
          case rel=>exact⟨(t337),(wrap64 (x5_1+6)),vU,H',⟨VU⟩,⟨by (with_reducible repeat (first|apply Kd.xJ|apply Kd.xK|apply Kd.xU));exact HO339.out⟩,⟨yS⟩⟩
        ·
         replace c9:=Bool.eq_false_iff.mpr c9
         subst c9
         rw [if_neg (show ¬ (false=true) by decide)] at H
         obtain⟨ji28,hji28⟩:∃ j_:Int,(wrap64 (x5_1+1))=j_:=⟨_,rfl⟩
         replace H:(if 0≤(ji28) then (if (ji28) < (sx.size:Int) then ((yI.f (bt sx (ji28))).bind fun t320=>(if x3_1.length < 140737488355328 then (xD.l0 k1 (x3_1 ++ [t320]) sx (wrap64 (x5_1+2))) else (none))) else (none)) else (none))=some r:=by first|(rw [hji28] at H;exact H)|(simp only [hji28] at H ⊢;exact H)
         (try rw [hji28] at A8)
         have hji28w:(IntKind.i64.wrap (x5_1+1))=ji28:=(z6 _).trans hji28
         by_cases c29:0≤(ji28)
         ·
          rw [if_pos c29] at H
          have c29b0:decide (0≤(ji28))=true:=decide_eq_true c29
          clear c29
          by_cases c30:(ji28) < (sx.size:Int)
          ·
           rw [if_pos c30] at H
           have c30b0:decide ((ji28) < (sx.size:Int))=true:=decide_eq_true c30
           clear c30
           replace H:=Option.bind_eq_some_iff.mp H
           obtain⟨t320,A320,H⟩:=H
           try dsimp only at H
           have A32:=zA.mk A320
           clear A320
           by_cases c33:x3_1.length < 140737488355328
           ·
            rw [if_pos c33] at H
            have LMc33:=zA.mk c33
            clear c33
            obtain⟨y321,hy321⟩:∃ y_:List Int,y_=(x3_1 ++ [t320]):=⟨_,rfl⟩
            replace H:(xD.l0 k1 y321 sx (wrap64 (x5_1+2)))=some r:=by first|(rw [hy321];with_reducible exact H)|(have H2_:=(Option.bind_some _ _).symm.trans H;rw [hy321];with_reducible exact H2_)|(have H2_:=(Option.bind_some _ _).symm.trans H;with_reducible exact H2_)|with_reducible exact H|(rw [hy321];exact H)|exact H
            have Ny321:=zA.mk hy321
            clear hy321
            have H':=zA.mk H
            clear H
            have p6:0≤(x5_1:Int):=of_decide_eq_true jC
            have q6:x5_1 < (sx.size:Int):=of_decide_eq_true jC
            have hx6:=j9 sx x5_1
            replace p6:=eq_true p6
            replace q6:=eq_true q6
            go_wp2_with (first|((with_reducible refine zR (f:=33) rfl ?_);refine xN (some 34) rfl rfl Tryz.func33 (by kernel_rfl) rfl #[.string sx, .int .i64 x5_1] rfl jI ?_;(with_reducible refine(xC.calls k1 sx x5_1 t318 false _ A8.out).mono ?_);rintro e w' ⟨rfl,⟨nd,rfl⟩⟩;refine⟨_,rfl,?_⟩;have p31:0≤((ji28):Int):=of_decide_eq_true jC;have q31:(ji28) < (sx.size:Int):=of_decide_eq_true jC;have hx31:=j9 sx (ji28);replace p31:=eq_true p31;replace q31:=eq_true q31)|((with_reducible refine zR (f:=55) rfl ?_);refine xN (some 44) rfl rfl Tryz.func55 (by kernel_rfl) rfl #[.int .u8 (bt sx (ji28))] rfl (by (try simp only [List.map_toArray,List.map_cons,List.map_nil]);first|done|(simp only [hji28];rfl)|rfl|(simp only [List.length_drop,List.length_take];rfl)) ?_;(with_reducible refine(yI.calls (bt sx (ji28)) t320 _ A32.out).mono ?_);rintro e w' ⟨rfl,⟨nd,rfl⟩⟩;refine⟨_,rfl,?_⟩)|((with_reducible refine xI (b := .append) (xs:=#[.tmp 39, .tmp 45]) rfl ?_);at_builtin;refine Kd.qE (Kd.int .u8) (w0:=w) w.heap.size rfl (.tmp 39) (.tmp 45) 63 5 (.int .u8 0) 1 rfl Tryz.underlying63 kK rfl (by decide) (by omega) u3 x3_1 t320 [.int .u8 t320] (fun _=>True) (fun _=>False) rfl rfl ?aP (fun _ hk=>hk.elim) ?aF ?aO ?aB ?aS ?aL ?_;(case aP=>exact rfl);(case aB=>exact yS);(case aF=>exact(fun _ _=>trivial));(case aO=>exact(by (with_reducible repeat (first|apply Kd.xJ|apply Kd.xK|apply Kd.xU));exact HO_3.out));(case aS=>exact(xB yS));(case aL=>have:=LMc33.out;omega);intro v322 w34 ho hb hg hat;rw [← Ny321.out] at ho;replace HB:=zA.mk (hb);replace HO323:=zA.mk (ho);clear ho hb hg hat))
            go_roundg k1
            case measure=>have:=HK1.out;omega
            case rel=>exact⟨(y321),(wrap64 (x5_1+2)),vU,H',⟨VU⟩,⟨by (with_reducible repeat (first|apply Kd.xJ|apply Kd.xK|apply Kd.xU));exact HO323.out⟩,⟨yS⟩⟩
           ·
            rw [if_neg c33] at H
            exact absurd H (by simp)
          ·
           rw [if_neg c30] at H
           exact absurd H (by simp)
         ·
          rw [if_neg c29] at H
          exact absurd H (by simp)
       ·
        rw [if_neg c7] at H
        have c7b0:((bt sx x5_1) == 92)=false:=beq_eq_false_iff_ne.mpr c7
        have c7b1:((bt sx x5_1) != 92)=true:=bne_iff_ne.mpr c7
        by_cases c36:x3_1.length < 140737488355328
        ·
         rw [if_pos c36] at H
         have LMc36:=zA.mk c36
         clear c36
         obtain⟨y315,hy315⟩:∃ y_:List Int,y_=(x3_1 ++ [bt sx x5_1]):=⟨_,rfl⟩
         replace H:(xD.l0 k1 y315 sx (wrap64 (x5_1+1)))=some r:=by first|(rw [hy315];with_reducible exact H)|(have H2_:=(Option.bind_some _ _).symm.trans H;rw [hy315];with_reducible exact H2_)|(have H2_:=(Option.bind_some _ _).symm.trans H;with_reducible exact H2_)|with_reducible exact H|(rw [hy315];exact H)|exact H
         have Ny315:=zA.mk hy315
         clear hy315
         have H':=zA.mk H
         clear H
         have p6:0≤(x5_1:Int):=of_decide_eq_true jC
         have q6:x5_1 < (sx.size:Int):=of_decide_eq_true jC
         have hx6:=j9 sx x5_1
         replace p6:=eq_true p6
         replace q6:=eq_true q6
         have p35:0≤(x5_1:Int):=of_decide_eq_true jC
         have q35:x5_1 < (sx.size:Int):=of_decide_eq_true jC
         have hx35:=j9 sx x5_1
         replace p35:=eq_true p35
         replace q35:=eq_true q35
         go_wp2_with (first|((with_reducible refine xI (b := .append) (xs:=#[.tmp 23, .tmp 27]) rfl ?_);at_builtin;refine Kd.qE (Kd.int .u8) (w0:=w) w.heap.size rfl (.tmp 23) (.tmp 27) 63 5 (.int .u8 0) 1 rfl Tryz.underlying63 kK rfl (by decide) (by omega) u3 x3_1 (bt sx x5_1) [.int .u8 (bt sx x5_1)] (fun _=>True) (fun _=>False) rfl rfl ?aP (fun _ hk=>hk.elim) ?aF ?aO ?aB ?aS ?aL ?_;(case aP=>exact rfl);(case aB=>exact yS);(case aF=>exact(fun _ _=>trivial));(case aO=>exact(by (with_reducible repeat (first|apply Kd.xJ|apply Kd.xK|apply Kd.xU));exact HO_3.out));(case aS=>exact(xB yS));(case aL=>have:=LMc36.out;omega);intro v316 w37 ho hb hg hat;rw [← Ny315.out] at ho;replace HB:=zA.mk (hb);replace HO317:=zA.mk (ho);clear ho hb hg hat))
         go_roundg k1
         case measure=>have:=HK1.out;omega
         case rel=>exact⟨(y315),(wrap64 (x5_1+1)),vU,H',⟨VU⟩,⟨by (with_reducible repeat (first|apply Kd.xJ|apply Kd.xK|apply Kd.xU));exact HO317.out⟩,⟨yS⟩⟩
        ·
         rw [if_neg c36] at H
         exact absurd H (by simp)
      ·
       rw [if_neg c5] at H
       exact absurd H (by simp)
     ·
      rw [if_neg c4] at H
      have c4b0:decide (x5_1 < (sx.size:Int))=false:=decide_eq_false c4
      clear c4
      obtain rfl:=Option.some.inj H
      have hcv38:=ZO (P:=Tryz.prog) Tryz.underlying63 Tryz.underlying5 Tryz.underlying9 (Kd.y9 HO_3.out)
      go_wp2
      go_ret
      exact⟨qW,yS⟩
  ·
   rw [if_neg c3] at H
   exact absurd H (by simp)
 ·
  rw [if_neg c2] at H
  exact absurd H (by simp)
end Go.Proofs.YtljhmnnhfnmhmaaGreatDoor.G
