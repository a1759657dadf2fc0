/-
Lemmas of this claim; made short by a program of this work.
-/
import Derived.Test.YtljhmnnhfnmhmaaGreatDoorUM7
import Derived.Test.YtljhmnnhfnmhmaaGreatDoorUGx1
import Derived.Test.YtljhmnnhfnmhmaaGreatDoorUM0
set_option linter.unusedVariables false
set_option linter.unusedSimpArgs false
set_option maxHeartbeats 8000000
set_option maxRecDepth 100000
namespace Go.Proofs.YtljhmnnhfnmhmaaGreatDoor.G
open Go.RowKit Go.Proofs.YtljhmnnhfnmhmaaGreatDoorW.PrintWords Go.Proofs.YtljhmnnhfnmhmaaGreatDoorW.PrintLast Go.Proofs.YtljhmnnhfnmhmaaGreatDoorW.PrintMore
attribute [local go_sem] qG qJ yE yF jT jU qH qK
mutual
def xC.j0:Nat→ByteArray→Int→Bool→Option (Int × Bool)
 | 0,_,_,_=>none
 | k+1,x0,x1,x27=>if x27=true then (some (0,false)) else (xC.l0 k x0 x1 0 (wrap64 (x1+2)))
def xC.l0:Nat→ByteArray→Int→Int→Int→Option (Int × Bool)
 | 0,_,_,_,_=>none
 | k+1,x0,x1,x6,x7=>if x7 < (wrap64 (x1+6)) then (if 0≤x7 then (if x7 < (x0.size:Int) then ((zY.f k (bt x0 x7)).bind fun bt284=>(if bt284.2=true then (xC.l0 k x0 x1 (wrap64 ((wrap64 (x6 * 16))+bt284.1)) (wrap64 (x7+1))) else (some (0,false)))) else (none)) else (none)) else (some (x6,true))
end
def xC.f (k:Nat) (a0:ByteArray) (a1:Int):Option (Int × Bool):=if (wrap64 ((a0.size:Int) - a1)) < 6 then (xC.j0 k a0 a1 true) else (if 0≤a1 then (if a1 < (a0.size:Int) then (if (bt a0 a1)=92 then (if 0≤(wrap64 (a1+1)) then (if (wrap64 (a1+1)) < (a0.size:Int) then (xC.j0 k a0 a1 ((bt a0 (wrap64 (a1+1))) != 117)) else (none)) else (none)) else (xC.j0 k a0 a1 true)) else (none)) else (none))
theorem xC.calls (k:Nat) (a0:ByteArray) (a1:Int) (r1:Int) (r2:Bool) (w:World) (h:xC.f k a0 a1=some (r1,r2)) :
  Calls Tryz.prog 33 #[.string a0, .int .i64 a1] w fun e w'=>e = .returned (.tuple #[.int .i64 r1, .bool r2])∧vW w w':=by
 have H:(if (wrap64 ((a0.size:Int) - a1)) < 6 then (xC.j0 k a0 a1 true) else (if 0≤a1 then (if a1 < (a0.size:Int) then (if (bt a0 a1)=92 then (if 0≤(wrap64 (a1+1)) then (if (wrap64 (a1+1)) < (a0.size:Int) then (xC.j0 k a0 a1 ((bt a0 (wrap64 (a1+1))) != 117)) else (none)) else (none)) else (xC.j0 k a0 a1 true)) else (none)) else (none)))=some (r1,r2):=h
 clear h
 have HC3:=zA.mk H
 clear H
 go_enter Tryz.func33,Tryz.ntmps33
 go_upto_region 1 with (fail)
 go_cut [27] (fun v27 wc=>∃ (kq:Nat) (x27_2:Bool),v27 = .bool x27_2∧zA (xC.j0 kq a0 a1 x27_2=some (r1,r2))∧zA (kq≤k)∧vW w wc)
 case first =>
  have H:=HC3.out
  clear HC3
  by_cases c4:(wrap64 ((a0.size:Int) - a1)) < 6
  ·
   rw [if_pos c4] at H
   have c4b0:decide ((wrap64 ((a0.size:Int) - a1)) < 6)=true:=decide_eq_true c4
   clear c4
   (first|rw [c4b0]|(simp only [z6,z7];rw [c4b0])|skip)
   as_aux_lemma =>
    have H':=zA.mk H
    clear H
    go_wp2
    go_meet
    case rel=>exact⟨_,(true),vU,H',⟨uJ⟩,qQ⟩
  ·
   rw [if_neg c4] at H
   have c4b0:decide ((wrap64 ((a0.size:Int) - a1)) < 6)=false:=decide_eq_false c4
   clear c4
   (first|rw [c4b0]|(simp only [z6,z7];rw [c4b0])|skip)
   by_cases c5:0≤a1
   ·
    rw [if_pos c5] at H
    have c5b0:decide (0≤a1)=true:=decide_eq_true c5
    clear c5
    by_cases c6:a1 < (a0.size:Int)
    ·
     rw [if_pos c6] at H
     have c6b0:decide (a1 < (a0.size:Int))=true:=decide_eq_true c6
     clear c6
     by_cases c8:(bt a0 a1)=92
     ·
      rw [if_pos c8] at H
      have c8b0:((bt a0 a1) == 92)=true:=beq_iff_eq.mpr c8
      have c8b1:((bt a0 a1) != 92)=false:=bne_eq_false_iff_eq.mpr c8
      clear c8
      obtain⟨ji9,hji9⟩:∃ j_:Int,(wrap64 (a1+1))=j_:=⟨_,rfl⟩
      replace H:(if 0≤(ji9) then (if (ji9) < (a0.size:Int) then (xC.j0 k a0 a1 ((bt a0 (ji9)) != 117)) else (none)) else (none))=some (r1,r2):=by first|(rw [hji9] at H;exact H)|(simp only [hji9] at H ⊢;exact H)
      have hji9w:(IntKind.i64.wrap (a1+1))=ji9:=(z6 _).trans hji9
      by_cases c10:0≤(ji9)
      ·
       rw [if_pos c10] at H
       have c10b0:decide (0≤(ji9))=true:=decide_eq_true c10
       clear c10
       by_cases c11:(ji9) < (a0.size:Int)
       ·
        rw [if_pos c11] at H
        have c11b0:decide ((ji9) < (a0.size:Int))=true:=decide_eq_true c11
        clear c11
        as_aux_lemma =>
         have H':=zA.mk H
         clear H
         have p7:0≤(a1:Int):=of_decide_eq_true jC
         have q7:a1 < (a0.size:Int):=of_decide_eq_true jC
         have hx7:=j9 a0 a1
         replace p7:=eq_true p7
         replace q7:=eq_true q7
         have p12:0≤((ji9):Int):=of_decide_eq_true jC
         have q12:(ji9) < (a0.size:Int):=of_decide_eq_true jC
         have hx12:=j9 a0 (ji9)
         replace p12:=eq_true p12
         replace q12:=eq_true q12
         go_wp2
         go_meet
         case rel=>exact⟨_,(((bt a0 (ji9)) != 117)),(by first|rfl|(simp;done)|(simp only [← hji9] <;> (first|rfl|simp))|(simp [*];done)),H',⟨uJ⟩,qQ⟩
       ·
        rw [if_neg c11] at H
        exact absurd H (by simp)
      ·
       rw [if_neg c10] at H
       exact absurd H (by simp)
     ·
      rw [if_neg c8] at H
      have c8b0:((bt a0 a1) == 92)=false:=beq_eq_false_iff_ne.mpr c8
      have c8b1:((bt a0 a1) != 92)=true:=bne_iff_ne.mpr c8
      as_aux_lemma =>
       have H':=zA.mk H
       clear H
       have p7:0≤(a1:Int):=of_decide_eq_true jC
       have q7:a1 < (a0.size:Int):=of_decide_eq_true jC
       have hx7:=j9 a0 a1
       replace p7:=eq_true p7
       replace q7:=eq_true q7
       go_wp2
       go_meet
       case rel=>exact⟨_,(true),vU,H',⟨uJ⟩,qQ⟩
    ·
     rw [if_neg c6] at H
     exact absurd H (by simp)
   ·
    rw [if_neg c5] at H
    exact absurd H (by simp)
 case rest =>
  clear HC3
  try clear c1
  try clear p1
  try clear q1
  try clear hx1
  try clear p2
  try clear c3
  try clear c4
  try clear c4b0
  try clear c5
  try clear c5b0
  try clear c6
  try clear c6b0
  try clear p6
  try clear p7
  try clear q7
  try clear hx7
  try clear c8
  try clear c8b0
  try clear c8b1
  try clear c10
  try clear c10b0
  try clear c11
  try clear c11b0
  try clear p12
  try clear q12
  try clear hx12
  try clear p12
  try clear p7
  try clear q12
  try clear q7
  obtain⟨kq,x27_2,rfl,HA,HJ2,⟨mc2,rfl⟩⟩:=hcut
  cases kq with
  | zero=>exact absurd HA.out (by simp [xC.j0])
  | succ kj2 =>
   have H:=HA.out
   clear HA
   simp only [xC.j0] at H
   by_cases c13:x27_2=true
   ·
    subst c13
    rw [if_pos rfl] at H
    as_aux_lemma =>
     simp only [Option.some.injEq,Prod.mk.injEq] at H
     obtain⟨rfl,rfl⟩:=H
     go_wp2
     go_ret2
     exact⟨vU,qQ⟩
   ·
    replace c13:=Bool.eq_false_iff.mpr c13
    subst c13
    rw [if_neg (show ¬ (false=true) by decide)] at H
    have H':=zA.mk H
    clear H
    go_wp2
    (try simp only [Act.put,List.setIfInBounds_toArray,List.set_cons_succ,List.set_cons_zero])
    go_loopg [6,7] kj2 (fun kq v6 v7 w'=>∃ (x6_2:Int) (x7_2:Int),v6 = .int .i64 x6_2∧v7 = .int .i64 x7_2∧zA (xC.l0 kq a0 a1 x6_2 x7_2=some (r1,r2))∧zA (kq≤kj2)∧vW w w')
    case atStart=>exact⟨(0),(wrap64 (a1+2)),vU,vU,H',⟨Nat.le_refl _⟩,qQ⟩
    case round =>
     clear H'
     try clear c1
     try clear p1
     try clear q1
     try clear hx1
     try clear c2
     try clear p2
     try clear c3
     try clear c4
     try clear c4b0
     try clear c5
     try clear c5b0
     try clear c6
     try clear c6b0
     try clear p6
     try clear p7
     try clear q7
     try clear hx7
     try clear c8
     try clear c8b0
     try clear c8b1
     try clear c10
     try clear c10b0
     try clear c11
     try clear c11b0
     try clear p12
     try clear q12
     try clear hx12
     try clear c13
     try clear p1
     try clear p12
     try clear p2
     try clear p6
     try clear p7
     try clear q1
     try clear q12
     try clear q7
     obtain⟨x6_2,x7_2,rfl,rfl,HA,HK2,⟨m2,rfl⟩⟩:=hrel
     cases gk with
     | zero=>exact absurd HA.out (by simp [xC.l0])
     | succ k2 =>
      have H:=HA.out
      clear HA
      simp only [xC.l0] at H
      by_cases c14:x7_2 < (wrap64 (a1+6))
      ·
       rw [if_pos c14] at H
       have c14b0:decide (x7_2 < (wrap64 (a1+6)))=true:=decide_eq_true c14
       clear c14
       by_cases c15:0≤x7_2
       ·
        rw [if_pos c15] at H
        have c15b0:decide (0≤x7_2)=true:=decide_eq_true c15
        clear c15
        by_cases c16:x7_2 < (a0.size:Int)
        ·
         rw [if_pos c16] at H
         have c16b0:decide (x7_2 < (a0.size:Int))=true:=decide_eq_true c16
         clear c16
         replace H:=Option.bind_eq_some_iff.mp H
         obtain⟨⟨t284,t285⟩,A180,H⟩:=H
         try dsimp only at H
         have A18:=zA.mk A180
         clear A180
         by_cases c19:t285=true
         ·
          subst c19
          rw [if_pos rfl] at H
          as_aux_lemma =>
           have H':=zA.mk H
           clear H
           have p17:0≤(x7_2:Int):=of_decide_eq_true jC
           have q17:x7_2 < (a0.size:Int):=of_decide_eq_true jC
           have hx17:=j9 a0 x7_2
           replace p17:=eq_true p17
           replace q17:=eq_true q17
           go_wp2_with (first|((with_reducible refine zR (f:=63) rfl ?_);refine xN (some 40) rfl rfl Tryz.func63 (by kernel_rfl) rfl #[.int .u8 (bt a0 x7_2)] rfl jI ?_;(with_reducible refine(zY.calls k2 (bt a0 x7_2) t284 true _ A18.out).mono ?_);rintro e w' ⟨rfl,⟨nd,rfl⟩⟩;refine⟨_,rfl,?_⟩))
           go_roundg k2
           case measure=>have:=HJ2.out;have:=HK2.out;omega
           case rel=>exact⟨(wrap64 ((wrap64 (x6_2 * 16))+t284)),(wrap64 (x7_2+1)),vU,vU,H',⟨Zq23⟩,qQ⟩
         ·
          replace c19:=Bool.eq_false_iff.mpr c19
          subst c19
          rw [if_neg (show ¬ (false=true) by decide)] at H
          as_aux_lemma =>
           simp only [Option.some.injEq,Prod.mk.injEq] at H
           obtain⟨rfl,rfl⟩:=H
           have p17:0≤(x7_2:Int):=of_decide_eq_true jC
           have q17:x7_2 < (a0.size:Int):=of_decide_eq_true jC
           have hx17:=j9 a0 x7_2
           replace p17:=eq_true p17
           replace q17:=eq_true q17
           go_wp2_with (first|((with_reducible refine zR (f:=63) rfl ?_);refine xN (some 40) rfl rfl Tryz.func63 (by kernel_rfl) rfl #[.int .u8 (bt a0 x7_2)] rfl jI ?_;(with_reducible refine(zY.calls k2 (bt a0 x7_2) t284 false _ A18.out).mono ?_);rintro e w' ⟨rfl,⟨nd,rfl⟩⟩;refine⟨_,rfl,?_⟩))
           go_ret2
           exact⟨vU,qQ⟩
        ·
         rw [if_neg c16] at H
         exact absurd H (by simp)
       ·
        rw [if_neg c15] at H
        exact absurd H (by simp)
      ·
       rw [if_neg c14] at H
       have c14b0:decide (x7_2 < (wrap64 (a1+6)))=false:=decide_eq_false c14
       clear c14
       as_aux_lemma =>
        simp only [Option.some.injEq,Prod.mk.injEq] at H
        obtain⟨rfl,rfl⟩:=H
        go_wp2
        go_ret2
        exact⟨vU,qQ⟩
def vK.f (a0:Int):Option (Bool):=if 55296≤a0 then (some (decide (a0≤56319))) else (some false)
theorem vK.calls (a0:Int) (r:Bool) (w:World) (h:vK.f a0=some r) :
  Calls Tryz.prog 34 #[.int .i64 a0] w fun e w'=>e = .returned (.bool r)∧vW w w':=by
 have H:(if 55296≤a0 then (some (decide (a0≤56319))) else (some false))=some r:=h
 clear h
 by_cases c2:55296≤a0
 ·
  rw [if_pos c2] at H
  have c2b0:decide (55296≤a0)=true:=decide_eq_true c2
  clear c2
  as_aux_lemma =>
   obtain rfl:=Option.some.inj H
   go_enter Tryz.func34,Tryz.ntmps34
   go_wp2
   go_ret
   exact⟨vU,qQ⟩
 ·
  rw [if_neg c2] at H
  have c2b0:decide (55296≤a0)=false:=decide_eq_false c2
  clear c2
  as_aux_lemma =>
   obtain rfl:=Option.some.inj H
   go_enter Tryz.func34,Tryz.ntmps34
   go_wp2
   go_ret
   exact⟨vU,qQ⟩
def vM.f (a0:Int):Option (Bool):=if 56320≤a0 then (some (decide (a0≤57343))) else (some false)
theorem vM.calls (a0:Int) (r:Bool) (w:World) (h:vM.f a0=some r) :
  Calls Tryz.prog 35 #[.int .i64 a0] w fun e w'=>e = .returned (.bool r)∧vW w w':=by
 have H:(if 56320≤a0 then (some (decide (a0≤57343))) else (some false))=some r:=h
 clear h
 by_cases c2:56320≤a0
 ·
  rw [if_pos c2] at H
  have c2b0:decide (56320≤a0)=true:=decide_eq_true c2
  clear c2
  as_aux_lemma =>
   obtain rfl:=Option.some.inj H
   go_enter Tryz.func35,Tryz.ntmps35
   go_wp2
   go_ret
   exact⟨vU,qQ⟩
 ·
  rw [if_neg c2] at H
  have c2b0:decide (56320≤a0)=false:=decide_eq_false c2
  clear c2
  as_aux_lemma =>
   obtain rfl:=Option.some.inj H
   go_enter Tryz.func35,Tryz.ntmps35
   go_wp2
   go_ret
   exact⟨vU,qQ⟩
def yI.f (a0:Int):Option (Int):=if a0=98 then (some 8) else (if a0=102 then (some 12) else (if a0=110 then (some 10) else (if a0=114 then (some 13) else (if a0=116 then (some 9) else (some a0)))))
theorem yI.calls (a0:Int) (r:Int) (w:World) (h:yI.f a0=some r) :
  Calls Tryz.prog 55 #[.int .u8 a0] w fun e w'=>e = .returned (.int .u8 r)∧vW w w':=by
 have H:(if a0=98 then (some 8) else (if a0=102 then (some 12) else (if a0=110 then (some 10) else (if a0=114 then (some 13) else (if a0=116 then (some 9) else (some a0))))))=some r:=h
 clear h
 by_cases c2:a0=98
 ·
  rw [if_pos c2] at H
  have c2b0:(a0 == 98)=true:=beq_iff_eq.mpr c2
  have c2b1:(a0 != 98)=false:=bne_eq_false_iff_eq.mpr c2
  clear c2
  as_aux_lemma =>
   obtain rfl:=Option.some.inj H
   go_enter Tryz.func55,Tryz.ntmps55
   go_wp2
   go_ret
   exact⟨vU,qQ⟩
 ·
  rw [if_neg c2] at H
  have c2b0:(a0 == 98)=false:=beq_eq_false_iff_ne.mpr c2
  have c2b1:(a0 != 98)=true:=bne_iff_ne.mpr c2
  by_cases c3:a0=102
  ·
   rw [if_pos c3] at H
   have c3b0:(a0 == 102)=true:=beq_iff_eq.mpr c3
   have c3b1:(a0 != 102)=false:=bne_eq_false_iff_eq.mpr c3
   clear c3
   as_aux_lemma =>
    obtain rfl:=Option.some.inj H
    go_enter Tryz.func55,Tryz.ntmps55
    go_wp2
    go_ret
    exact⟨vU,qQ⟩
  ·
   rw [if_neg c3] at H
   have c3b0:(a0 == 102)=false:=beq_eq_false_iff_ne.mpr c3
   have c3b1:(a0 != 102)=true:=bne_iff_ne.mpr c3
   by_cases c4:a0=110
   ·
    rw [if_pos c4] at H
    have c4b0:(a0 == 110)=true:=beq_iff_eq.mpr c4
    have c4b1:(a0 != 110)=false:=bne_eq_false_iff_eq.mpr c4
    clear c4
    as_aux_lemma =>
     obtain rfl:=Option.some.inj H
     go_enter Tryz.func55,Tryz.ntmps55
     go_wp2
     go_ret
     exact⟨vU,qQ⟩
   ·
    rw [if_neg c4] at H
    have c4b0:(a0 == 110)=false:=beq_eq_false_iff_ne.mpr c4
    have c4b1:(a0 != 110)=true:=bne_iff_ne.mpr c4
    by_cases c5:a0=114
    ·
     rw [if_pos c5] at H
     have c5b0:(a0 == 114)=true:=beq_iff_eq.mpr c5
     have c5b1:(a0 != 114)=false:=bne_eq_false_iff_eq.mpr c5
     clear c5
     as_aux_lemma =>
      obtain rfl:=Option.some.inj H
      go_enter Tryz.func55,Tryz.ntmps55
      go_wp2
      go_ret
      exact⟨vU,qQ⟩
    ·
     rw [if_neg c5] at H
     have c5b0:(a0 == 114)=false:=beq_eq_false_iff_ne.mpr c5
     have c5b1:(a0 != 114)=true:=bne_iff_ne.mpr c5
     by_cases c6:a0=116
     ·
      rw [if_pos c6] at H
      have c6b0:(a0 == 116)=true:=beq_iff_eq.mpr c6
      have c6b1:(a0 != 116)=false:=bne_eq_false_iff_eq.mpr c6
      clear c6
      as_aux_lemma =>
       obtain rfl:=Option.some.inj H
       go_enter Tryz.func55,Tryz.ntmps55
       go_wp2
       go_ret
       exact⟨vU,qQ⟩
     ·
      rw [if_neg c6] at H
      have c6b0:(a0 == 116)=false:=beq_eq_false_iff_ne.mpr c6
      have c6b1:(a0 != 116)=true:=bne_iff_ne.mpr c6
      as_aux_lemma =>
       obtain rfl:=Option.some.inj H
       go_enter Tryz.func55,Tryz.ntmps55
       go_wp2
       go_ret
       exact⟨vU,qQ⟩
def xH.j0:Nat→List Int→Int→Bool→Option (List Int)
 | 0,_,_,_=>none
 | k+1,x0,x1,x27=>if x27=true then ((some (([239,191,189]:List Int):List Int)).bind fun y297=>(if x0.length+y297.length < 140737488355328 then (some (x0 ++ y297)) else (none))) else (if x1 < 65536 then ((some (([(wrap64 (224+(wrap64 (Int.tdiv x1 4096)))) % 256,(wrap64 (128+(Int.tmod (wrap64 (Int.tdiv x1 64)) 64))) % 256,(wrap64 (128+(Int.tmod x1 64))) % 256]:List Int):List Int)).bind fun y303=>(if x0.length+y303.length < 140737488355328 then (some (x0 ++ y303)) else (none))) else ((some (([(wrap64 (240+(wrap64 (Int.tdiv x1 262144)))) % 256,(wrap64 (128+(Int.tmod (wrap64 (Int.tdiv x1 4096)) 64))) % 256,(wrap64 (128+(Int.tmod (wrap64 (Int.tdiv x1 64)) 64))) % 256,(wrap64 (128+(Int.tmod x1 64))) % 256]:List Int):List Int)).bind fun y309=>(if x0.length+y309.length < 140737488355328 then (some (x0 ++ y309)) else (none))))
def xH.f (k:Nat) (l0:List Int) (a1:Int):Option (List Int):=if a1 < 128 then (if l0.length < 140737488355328 then (some (l0 ++ [(a1) % 256])) else (none)) else (if a1 < 2048 then ((some (([(wrap64 (192+(wrap64 (Int.tdiv a1 64)))) % 256,(wrap64 (128+(Int.tmod a1 64))) % 256]:List Int):List Int)).bind fun y289=>(if l0.length+y289.length < 140737488355328 then (some (l0 ++ y289)) else (none))) else ((vK.f a1).bind fun t295=>(if t295=true then (xH.j0 k l0 a1 true) else ((vM.f a1).bind fun t296=>(xH.j0 k l0 a1 t296)))))
theorem xH.calls (k:Nat) (P0_:Nat→Prop) (u9000_:Value) (l0:List Int) (a1:Int) (r:List Int) (w0 w:World) (hB:Below w0.heap.size w0 w) (ho0:Kd.R (Kd.int .u8) 5 w w0.heap.size P0_ u9000_ l0) (h:xH.f k l0 a1=some r) :
  Calls Tryz.prog 56 #[u9000_, .int .i64 a1] w fun e w'=>∃ v0_:Value,e = .returned (v0_)∧Kd.R (Kd.int .u8) 5 w' w0.heap.size (fun k_=>(P0_ k_∨w.heap.size≤k_)) v0_ r∧Below w0.heap.size w0 w'∧Kept w w' (fun k_=>P0_ k_):=by
 have HO0:=zA.mk (show Kd.R (Kd.int .u8) 5 w w0.heap.size (fun k_=>(P0_ k_∨w.heap.size≤k_)) u9000_ l0 from Kd.xG ho0 (fun k_ hk=>(.inl hk)))
 have HK:=zA.mk (Kept.refl w (fun k_=>P0_ k_))
 have HW0:=zA.mk hB.size
 have HB:=zA.mk hB
 clear hB
 have H:(if a1 < 128 then (if l0.length < 140737488355328 then (some (l0 ++ [(a1) % 256])) else (none)) else (if a1 < 2048 then ((some (([(wrap64 (192+(wrap64 (Int.tdiv a1 64)))) % 256,(wrap64 (128+(Int.tmod a1 64))) % 256]:List Int):List Int)).bind fun y289=>(if l0.length+y289.length < 140737488355328 then (some (l0 ++ y289)) else (none))) else ((vK.f a1).bind fun t295=>(if t295=true then (xH.j0 k l0 a1 true) else ((vM.f a1).bind fun t296=>(xH.j0 k l0 a1 t296))))))=some r:=h
 clear h
 by_cases c3:a1 < 128
 ·
  rw [if_pos c3] at H
  have c3b0:decide (a1 < 128)=true:=decide_eq_true c3
  clear c3
  by_cases c4:l0.length < 140737488355328
  ·
   rw [if_pos c4] at H
   have LMc4:=zA.mk c4
   clear c4
   obtain⟨y286,hy286⟩:∃ y_:List Int,y_=(l0 ++ [(a1) % 256]):=⟨_,rfl⟩
   replace H:(some y286)=some r:=by first|(rw [hy286];with_reducible exact H)|(have H2_:=(Option.bind_some _ _).symm.trans H;rw [hy286];with_reducible exact H2_)|(have H2_:=(Option.bind_some _ _).symm.trans H;with_reducible exact H2_)|with_reducible exact H|(rw [hy286];exact H)|exact H
   have Ny286:=zA.mk hy286
   clear hy286
   as_aux_lemma =>
    obtain rfl:=Option.some.inj H
    go_enter Tryz.func56,Tryz.ntmps56
    go_wp2_with (first|((with_reducible refine xI (b := .append) (xs:=#[.tmp 8, .tmp 11]) rfl ?_);at_builtin;refine Kd.qE (Kd.int .u8) (w0:=w0) w0.heap.size rfl (.tmp 8) (.tmp 11) 63 5 (.int .u8 0) 1 rfl Tryz.underlying63 kK rfl (by decide) (by omega) u9000_ l0 ((a1) % 256) [.int .u8 ((a1) % 256)] (fun k_=>(P0_ k_∨w.heap.size≤k_)) (fun _=>False) rfl rfl ?aP (fun _ hk=>hk.elim) ?aF ?aO ?aB ?aS ?aL ?_;(case aP=>exact rfl);(case aB=>exact yS);(case aF=>exact(fun k_ hk=>(.inr (Nat.le_trans zDu hk))));(case aO=>exact zIb);(case aS=>exact(xB yS));(case aL=>have:=LMc4.out;omega);intro v287 w5 ho hb hg hat;rw [← Ny286.out] at ho;replace HB:=zA.mk (hb);replace HK:=zA.mk (Kept.yK (S:=(fun k_=>P0_ k_)) hg YU (fun k_ e_=>(HO0.out.1 k_ e_)));replace HO288:=zA.mk (ho);clear ho hb hg hat))
    go_ret
    exact⟨_,qW,by (with_reducible repeat (first|apply Kd.xJ|apply Kd.xK|apply Kd.xU));exact HO288.out,yS,YU⟩
  ·
   rw [if_neg c4] at H
   exact absurd H (by simp)
 ·
  rw [if_neg c3] at H
  have c3b0:decide (a1 < 128)=false:=decide_eq_false c3
  clear c3
  by_cases c6:a1 < 2048
  ·
   rw [if_pos c6] at H
   have c6b0:decide (a1 < 2048)=true:=decide_eq_true c6
   clear c6
   obtain⟨y289,hy289⟩:∃ y_:List Int,y_=(([(wrap64 (192+(wrap64 (Int.tdiv a1 64)))) % 256,(wrap64 (128+(Int.tmod a1 64))) % 256]:List Int)):=⟨_,rfl⟩
   replace H:(if l0.length+y289.length < 140737488355328 then (some (l0 ++ y289)) else (none))=some r:=by first|(rw [hy289];with_reducible exact H)|(have H2_:=(Option.bind_some _ _).symm.trans H;rw [hy289];with_reducible exact H2_)|(have H2_:=(Option.bind_some _ _).symm.trans H;with_reducible exact H2_)|with_reducible exact H|(rw [hy289];exact H)|exact H
   have Ny289:=zA.mk hy289
   clear hy289
   by_cases c7:l0.length+y289.length < 140737488355328
   ·
    rw [if_pos c7] at H
    have LMc7:=zA.mk c7
    clear c7
    obtain⟨y292,hy292⟩:∃ y_:List Int,y_=(l0 ++ y289):=⟨_,rfl⟩
    replace H:(some y292)=some r:=by first|(rw [hy292];with_reducible exact H)|(have H2_:=(Option.bind_some _ _).symm.trans H;rw [hy292];with_reducible exact H2_)|(have H2_:=(Option.bind_some _ _).symm.trans H;with_reducible exact H2_)|with_reducible exact H|(rw [hy292];exact H)|exact H
    have Ny292:=zA.mk hy292
    clear hy292
    as_aux_lemma =>
     obtain rfl:=Option.some.inj H
     go_enter Tryz.func56,Tryz.ntmps56
     go_wp2_with (first|((with_reducible refine jB (N:=25) rfl ?_);refine Kd.zDs (Kd.int .u8) _ 5 ?hg (N:=25) ?hd (xs:=([(wrap64 (192+(wrap64 (Int.tdiv a1 64)))) % 256,(wrap64 (128+(Int.tmod a1 64))) % 256]:List Int)) (inner:=[.int .u8 ((wrap64 (192+(wrap64 (Int.tdiv a1 64)))) % 256), .int .u8 ((wrap64 (128+(Int.tmod a1 64))) % 256)]) (ok:=fun _=>True) (okp:=fun _=>True) ?hr ?hp (fun _ hk=>hk) trivial (Below.refl _ _) (Nat.le_refl _) (by simp) ?_;(case hd=>rfl);(case hg=>rfl);(case hr=>first|(go_simp;done)|(go_simp;rfl));(case hp=>exact(yQ.one (show Kd.M (Kd.int .u8) _ _ _ ((wrap64 (192+(wrap64 (Int.tdiv a1 64)))) % 256) [.int .u8 ((wrap64 (192+(wrap64 (Int.tdiv a1 64)))) % 256)] from rfl) (yQ.one (show Kd.M (Kd.int .u8) _ _ _ ((wrap64 (128+(Int.tmod a1 64))) % 256) [.int .u8 ((wrap64 (128+(Int.tmod a1 64))) % 256)] from rfl) (yQ.none _ _))));intro v290 w8 ho9 hb hg_ hnew_;clear hg_ hnew_;(first|rw [← Ny289.out] at ho9|(simp only [Int.reduceToNat] at ho9;rw [← Ny289.out] at ho9));have n0_:=zA.mk (Kd.uF zIb (Kd.yB ho9) hb);have n1_:=zA.mk (Kd.jN (Kd.yV (Kd.KX (M:=fun k_=>(P0_ k_∨w.heap.size≤k_)) ho9 zDu (fun k_ h_ => .inr h_)) (Kd.X8 zIb)) (xB yS));have n2_:=zA.mk (Kept.below (S:=(fun k_=>P0_ k_)) YU hb);have n3_:=zA.mk (vB yS hb);clear HO0;clear HK;clear HB;have HO0:=n0_;have HO291:=n1_;have HK:=n2_;have HB:=n3_;clear n0_ n1_ n2_ n3_;clear hb ho9;obtain⟨Ao11,co11,eo11⟩:=Kd.vJ HO291.out;subst eo11)|((with_reducible refine xI (b := .append) (xs:=#[.tmp 16, .tmp 25]) rfl ?_);at_builtin;refine Kd.jW (Kd.int .u8) (w0:=w0) w0.heap.size rfl (.tmp 16) (.tmp 25) 63 5 (.int .u8 0) 1 rfl Tryz.underlying63 kK rfl (by decide) (by omega) u9000_ l0 y289 _ _ _ (fun k_=>(P0_ k_∨w.heap.size≤k_)∧some k_≠(.slice Ao11 y289.length co11:Value).ownBlock) (fun _=>False) rfl rfl ?aO ?aR (fun _ _ h=>h) (fun _ h=>h.elim) ?aF ?aB ?aS ?aL ?_;(case aR=>repeat (first|exact(Kd.vX HO291.out).2.2|(with_reducible refine Kd.vZ ?_ _)|(with_reducible refine Kd.jJ ?_ _)|(with_reducible refine Kd.qM ?_)));(case aB=>exact yS);(case aF=>exact(fun k_ hk=>⟨(.inr (Nat.le_trans zDu hk)),Kd.V4 (Kd.X8 (by (with_reducible repeat (first|apply Kd.xJ|apply Kd.xK|apply Kd.xU));exact HO291.out)) k_ hk⟩));(case aO=>exact zIb);(case aS=>exact(xB yS));(case aL=>have:=LMc7.out;omega);intro v293 w10 ho hb hg hat;rw [← Ny292.out] at ho;replace HO291:=zA.mk (Kd.Z3 (ok:=(fun k_=>(P0_ k_∨w.heap.size≤k_))) (by (with_reducible repeat (first|apply Kd.xJ|apply Kd.xK|apply Kd.xU));exact Kd.xG HO291.out (fun _ hk=>⟨hk.1.1,hk.2⟩)) hg hat);replace HB:=zA.mk (hb);replace HK:=zA.mk (Kept.yK (S:=(fun k_=>P0_ k_)) hg YU (fun k_ e_=>(HO0.out.1 k_ e_).1));replace HO294:=zA.mk (ho);clear ho hb hg hat))
     go_ret
     exact⟨_,qW,by (with_reducible repeat (first|apply Kd.xJ|apply Kd.xK|apply Kd.xU));exact Kd.xG HO294.out (fun _ hk=>hk.1),yS,YU⟩
   ·
    rw [if_neg c7] at H
    exact absurd H (by simp)
  ·
   rw [if_neg c6] at H
   have c6b0:decide (a1 < 2048)=false:=decide_eq_false c6
   clear c6
   have HC12:=zA.mk H
   clear H
   go_enter Tryz.func56,Tryz.ntmps56
   go_upto_region 5 with (fail)
   go_cut [27] (fun v27 wc=>∃ (kq:Nat) (x27_11:Bool),v27 = .bool x27_11∧zA (xH.j0 kq l0 a1 x27_11=some r)∧zA (kq≤k)∧zA (Kd.R (Kd.int .u8) 5 wc w0.heap.size (fun k_=>(P0_ k_∨w.heap.size≤k_)) u9000_ l0)∧zA (Kept w wc (fun k_=>P0_ k_))∧zA (Below w0.heap.size w0 wc))
   case first =>
    have H:=HC12.out
    clear HC12
    replace H:=Option.bind_eq_some_iff.mp H
    obtain⟨t295,A130,H⟩:=H
    try dsimp only at H
    have A13:=zA.mk A130
    clear A130
    by_cases c14:t295=true
    ·
     subst c14
     rw [if_pos rfl] at H
     as_aux_lemma =>
      have H':=zA.mk H
      clear H
      go_wp2_with (first|((with_reducible refine zR (f:=34) rfl ?_);refine xN (some 29) rfl rfl Tryz.func34 (by kernel_rfl) rfl #[.int .i64 a1] rfl jI ?_;(with_reducible refine(vK.calls a1 true _ A13.out).mono ?_);rintro e w' ⟨rfl,⟨nd,rfl⟩⟩;refine⟨_,rfl,?_⟩))
      go_meet
      case rel=>exact⟨_,(true),vU,H',⟨uJ⟩,⟨zIb⟩,⟨YU⟩,⟨yS⟩⟩
    ·
     replace c14:=Bool.eq_false_iff.mpr c14
     subst c14
     rw [if_neg (show ¬ (false=true) by decide)] at H
     replace H:=Option.bind_eq_some_iff.mp H
     obtain⟨t296,A150,H⟩:=H
     try dsimp only at H
     have A15:=zA.mk A150
     clear A150
     as_aux_lemma =>
      have H':=zA.mk H
      clear H
      go_wp2_with (first|((with_reducible refine zR (f:=34) rfl ?_);refine xN (some 29) rfl rfl Tryz.func34 (by kernel_rfl) rfl #[.int .i64 a1] rfl jI ?_;(with_reducible refine(vK.calls a1 false _ A13.out).mono ?_);rintro e w' ⟨rfl,⟨nd,rfl⟩⟩;refine⟨_,rfl,?_⟩)|(go_at_call 35;(with_reducible refine(vM.calls a1 t296 _ A15.out).mono ?_);rintro e w' ⟨rfl,⟨nd,rfl⟩⟩))
      go_meet
      case rel=>exact⟨_,(t296),vU,H',⟨uJ⟩,⟨zIb⟩,⟨YU⟩,⟨yS⟩⟩
   case rest =>
    clear HC12
    try clear c1
    try clear p2
    try clear c3
    try clear c3b0
    try clear c4
    try clear c5
    try clear c6
    try clear c6b0
    try clear p6
    try clear c7
    try clear c14
    obtain⟨kq,x27_11,rfl,HA,HJ11,HO_0,HK,HB⟩:=hcut
    cases kq with
    | zero=>exact absurd HA.out (by simp [xH.j0])
    | succ kj11 =>
     have H:=HA.out
     clear HA
     simp only [xH.j0] at H
     by_cases c16:x27_11=true
     ·
      subst c16
      rw [if_pos rfl] at H
      obtain⟨y297,hy297⟩:∃ y_:List Int,y_=(([239,191,189]:List Int)):=⟨_,rfl⟩
      replace H:(if l0.length+y297.length < 140737488355328 then (some (l0 ++ y297)) else (none))=some r:=by first|(rw [hy297];with_reducible exact H)|(have H2_:=(Option.bind_some _ _).symm.trans H;rw [hy297];with_reducible exact H2_)|(have H2_:=(Option.bind_some _ _).symm.trans H;with_reducible exact H2_)|with_reducible exact H|(rw [hy297];exact H)|exact H
      have Ny297:=zA.mk hy297
      clear hy297
      by_cases c17:l0.length+y297.length < 140737488355328
      ·
       rw [if_pos c17] at H
       have LMc17:=zA.mk c17
       clear c17
       obtain⟨y300,hy300⟩:∃ y_:List Int,y_=(l0 ++ y297):=⟨_,rfl⟩
       replace H:(some y300)=some r:=by first|(rw [hy300];with_reducible exact H)|(have H2_:=(Option.bind_some _ _).symm.trans H;rw [hy300];with_reducible exact H2_)|(have H2_:=(Option.bind_some _ _).symm.trans H;with_reducible exact H2_)|with_reducible exact H|(rw [hy300];exact H)|exact H
       have Ny300:=zA.mk hy300
       clear hy300
       as_aux_lemma =>
        obtain rfl:=Option.some.inj H
        go_wp2_with (first|((with_reducible refine jB (N:=35) rfl ?_);refine Kd.zDs (Kd.int .u8) _ 5 ?hg (N:=35) ?hd (xs:=([239,191,189]:List Int)) (inner:=[.int .u8 239, .int .u8 191, .int .u8 189]) (ok:=fun _=>True) (okp:=fun _=>True) ?hr ?hp (fun _ hk=>hk) trivial (Below.refl _ _) (Nat.le_refl _) (by simp) ?_;(case hd=>rfl);(case hg=>rfl);(case hr=>first|(go_simp;done)|(go_simp;rfl));(case hp=>exact(yQ.one (show Kd.M (Kd.int .u8) _ _ _ 239 [.int .u8 239] from rfl) (yQ.one (show Kd.M (Kd.int .u8) _ _ _ 191 [.int .u8 191] from rfl) (yQ.one (show Kd.M (Kd.int .u8) _ _ _ 189 [.int .u8 189] from rfl) (yQ.none _ _)))));intro v298 w18 ho19 hb hg_ hnew_;clear hg_ hnew_;(first|rw [← Ny297.out] at ho19|(simp only [Int.reduceToNat] at ho19;rw [← Ny297.out] at ho19));have n0_:=zA.mk (Kd.uF zDv (Kd.yB ho19) hb);have n1_:=zA.mk (Kd.jN (Kd.yV (Kd.KX (M:=fun k_=>(P0_ k_∨w.heap.size≤k_)) ho19 zDu (fun k_ h_ => .inr h_)) (Kd.X8 zDv)) (xB yS));have n2_:=zA.mk (Kept.below (S:=(fun k_=>P0_ k_)) YU hb);have n3_:=zA.mk (vB yS hb);clear HO_0;clear HK;clear HB;have HO_0:=n0_;have HO299:=n1_;have HK:=n2_;have HB:=n3_;clear n0_ n1_ n2_ n3_;clear hb ho19;obtain⟨Ao21,co21,eo21⟩:=Kd.vJ HO299.out;subst eo21)|((with_reducible refine xI (b := .append) (xs:=#[.tmp 34, .tmp 35]) rfl ?_);at_builtin;refine Kd.jW (Kd.int .u8) (w0:=w0) w0.heap.size rfl (.tmp 34) (.tmp 35) 63 5 (.int .u8 0) 1 rfl Tryz.underlying63 kK rfl (by decide) (by omega) u9000_ l0 y297 _ _ _ (fun k_=>(P0_ k_∨w.heap.size≤k_)∧some k_≠(.slice Ao21 y297.length co21:Value).ownBlock) (fun _=>False) rfl rfl ?aO ?aR (fun _ _ h=>h) (fun _ h=>h.elim) ?aF ?aB ?aS ?aL ?_;(case aR=>repeat (first|exact(Kd.vX HO299.out).2.2|(with_reducible refine Kd.vZ ?_ _)|(with_reducible refine Kd.jJ ?_ _)|(with_reducible refine Kd.qM ?_)));(case aB=>exact yS);(case aF=>exact(fun k_ hk=>⟨(.inr (Nat.le_trans zDu hk)),Kd.V4 (Kd.X8 (by (with_reducible repeat (first|apply Kd.xJ|apply Kd.xK|apply Kd.xU));exact HO299.out)) k_ hk⟩));(case aO=>exact zDv);(case aS=>exact(xB yS));(case aL=>have:=LMc17.out;omega);intro v301 w20 ho hb hg hat;rw [← Ny300.out] at ho;replace HO299:=zA.mk (Kd.Z3 (ok:=(fun k_=>(P0_ k_∨w.heap.size≤k_))) (by (with_reducible repeat (first|apply Kd.xJ|apply Kd.xK|apply Kd.xU));exact Kd.xG HO299.out (fun _ hk=>⟨hk.1.1,hk.2⟩)) hg hat);replace HB:=zA.mk (hb);replace HK:=zA.mk (Kept.yK (S:=(fun k_=>P0_ k_)) hg YU (fun k_ e_=>(HO_0.out.1 k_ e_).1));replace HO302:=zA.mk (ho);clear ho hb hg hat))
        go_ret
        exact⟨_,qW,by (with_reducible repeat (first|apply Kd.xJ|apply Kd.xK|apply Kd.xU));exact Kd.xG HO302.out (fun _ hk=>hk.1),yS,YU⟩
      ·
       rw [if_neg c17] at H
       exact absurd H (by simp)
     ·
      replace c16:=Bool.eq_false_iff.mpr c16
      subst c16
      rw [if_neg (show ¬ (false=true) by decide)] at H
      by_cases c22:a1 < 65536
      ·
       rw [if_pos c22] at H
       have c22b0:decide (a1 < 65536)=true:=decide_eq_true c22
       clear c22
       obtain⟨y303,hy303⟩:∃ y_:List Int,y_=(([(wrap64 (224+(wrap64 (Int.tdiv a1 4096)))) % 256,(wrap64 (128+(Int.tmod (wrap64 (Int.tdiv a1 64)) 64))) % 256,(wrap64 (128+(Int.tmod a1 64))) % 256]:List Int)):=⟨_,rfl⟩
       replace H:(if l0.length+y303.length < 140737488355328 then (some (l0 ++ y303)) else (none))=some r:=by first|(rw [hy303];with_reducible exact H)|(have H2_:=(Option.bind_some _ _).symm.trans H;rw [hy303];with_reducible exact H2_)|(have H2_:=(Option.bind_some _ _).symm.trans H;with_reducible exact H2_)|with_reducible exact H|(rw [hy303];exact H)|exact H
       have Ny303:=zA.mk hy303
       clear hy303
       by_cases c23:l0.length+y303.length < 140737488355328
       ·
        rw [if_pos c23] at H
        have LMc23:=zA.mk c23
        clear c23
        obtain⟨y306,hy306⟩:∃ y_:List Int,y_=(l0 ++ y303):=⟨_,rfl⟩
        replace H:(some y306)=some r:=by first|(rw [hy306];with_reducible exact H)|(have H2_:=(Option.bind_some _ _).symm.trans H;rw [hy306];with_reducible exact H2_)|(have H2_:=(Option.bind_some _ _).symm.trans H;with_reducible exact H2_)|with_reducible exact H|(rw [hy306];exact H)|exact H
        have Ny306:=zA.mk hy306
        clear hy306
        as_aux_lemma =>
         obtain rfl:=Option.some.inj H
         go_wp2_with (first|((with_reducible refine jB (N:=54) rfl ?_);refine Kd.zDs (Kd.int .u8) _ 5 ?hg (N:=54) ?hd (xs:=([(wrap64 (224+(wrap64 (Int.tdiv a1 4096)))) % 256,(wrap64 (128+(Int.tmod (wrap64 (Int.tdiv a1 64)) 64))) % 256,(wrap64 (128+(Int.tmod a1 64))) % 256]:List Int)) (inner:=[.int .u8 ((wrap64 (224+(wrap64 (Int.tdiv a1 4096)))) % 256), .int .u8 ((wrap64 (128+(Int.tmod (wrap64 (Int.tdiv a1 64)) 64))) % 256), .int .u8 ((wrap64 (128+(Int.tmod a1 64))) % 256)]) (ok:=fun _=>True) (okp:=fun _=>True) ?hr ?hp (fun _ hk=>hk) trivial (Below.refl _ _) (Nat.le_refl _) (by simp) ?_;(case hd=>rfl);(case hg=>rfl);(case hr=>first|(go_simp;done)|(go_simp;rfl));(case hp=>exact(yQ.one (show Kd.M (Kd.int .u8) _ _ _ ((wrap64 (224+(wrap64 (Int.tdiv a1 4096)))) % 256) [.int .u8 ((wrap64 (224+(wrap64 (Int.tdiv a1 4096)))) % 256)] from rfl) (yQ.one (show Kd.M (Kd.int .u8) _ _ _ ((wrap64 (128+(Int.tmod (wrap64 (Int.tdiv a1 64)) 64))) % 256) [.int .u8 ((wrap64 (128+(Int.tmod (wrap64 (Int.tdiv a1 64)) 64))) % 256)] from rfl) (yQ.one (show Kd.M (Kd.int .u8) _ _ _ ((wrap64 (128+(Int.tmod a1 64))) % 256) [.int .u8 ((wrap64 (128+(Int.tmod a1 64))) % 256)] from rfl) (yQ.none _ _)))));intro v304 w24 ho25 hb hg_ hnew_;clear hg_ hnew_;(first|rw [← Ny303.out] at ho25|(simp only [Int.reduceToNat] at ho25;rw [← Ny303.out] at ho25));have n0_:=zA.mk (Kd.uF zDv (Kd.yB ho25) hb);have n1_:=zA.mk (Kd.jN (Kd.yV (Kd.KX (M:=fun k_=>(P0_ k_∨w.heap.size≤k_)) ho25 zDu (fun k_ h_ => .inr h_)) (Kd.X8 zDv)) (xB yS));have n2_:=zA.mk (Kept.below (S:=(fun k_=>P0_ k_)) YU hb);have n3_:=zA.mk (vB yS hb);clear HO_0;clear HK;clear HB;have HO_0:=n0_;have HO305:=n1_;have HK:=n2_;have HB:=n3_;clear n0_ n1_ n2_ n3_;clear hb ho25;obtain⟨Ao27,co27,eo27⟩:=Kd.vJ HO305.out;subst eo27)|((with_reducible refine xI (b := .append) (xs:=#[.tmp 40, .tmp 54]) rfl ?_);at_builtin;refine Kd.jW (Kd.int .u8) (w0:=w0) w0.heap.size rfl (.tmp 40) (.tmp 54) 63 5 (.int .u8 0) 1 rfl Tryz.underlying63 kK rfl (by decide) (by omega) u9000_ l0 y303 _ _ _ (fun k_=>(P0_ k_∨w.heap.size≤k_)∧some k_≠(.slice Ao27 y303.length co27:Value).ownBlock) (fun _=>False) rfl rfl ?aO ?aR (fun _ _ h=>h) (fun _ h=>h.elim) ?aF ?aB ?aS ?aL ?_;(case aR=>repeat (first|exact(Kd.vX HO305.out).2.2|(with_reducible refine Kd.vZ ?_ _)|(with_reducible refine Kd.jJ ?_ _)|(with_reducible refine Kd.qM ?_)));(case aB=>exact yS);(case aF=>exact(fun k_ hk=>⟨(.inr (Nat.le_trans zDu hk)),Kd.V4 (Kd.X8 (by (with_reducible repeat (first|apply Kd.xJ|apply Kd.xK|apply Kd.xU));exact HO305.out)) k_ hk⟩));(case aO=>exact zDv);(case aS=>exact(xB yS));(case aL=>have:=LMc23.out;omega);intro v307 w26 ho hb hg hat;rw [← Ny306.out] at ho;replace HO305:=zA.mk (Kd.Z3 (ok:=(fun k_=>(P0_ k_∨w.heap.size≤k_))) (by (with_reducible repeat (first|apply Kd.xJ|apply Kd.xK|apply Kd.xU));exact Kd.xG HO305.out (fun _ hk=>⟨hk.1.1,hk.2⟩)) hg hat);replace HB:=zA.mk (hb);replace HK:=zA.mk (Kept.yK (S:=(fun k_=>P0_ k_)) hg YU (fun k_ e_=>(HO_0.out.1 k_ e_).1));replace HO308:=zA.mk (ho);clear ho hb hg hat))
         go_ret
         exact⟨_,qW,by (with_reducible repeat (first|apply Kd.xJ|apply Kd.xK|apply Kd.xU));exact Kd.xG HO308.out (fun _ hk=>hk.1),yS,YU⟩
       ·
        rw [if_neg c23] at H
        exact absurd H (by simp)
      ·
       rw [if_neg c22] at H
       have c22b0:decide (a1 < 65536)=false:=decide_eq_false c22
       clear c22
       obtain⟨y309,hy309⟩:∃ y_:List Int,y_=(([(wrap64 (240+(wrap64 (Int.tdiv a1 262144)))) % 256,(wrap64 (128+(Int.tmod (wrap64 (Int.tdiv a1 4096)) 64))) % 256,(wrap64 (128+(Int.tmod (wrap64 (Int.tdiv a1 64)) 64))) % 256,(wrap64 (128+(Int.tmod a1 64))) % 256]:List Int)):=⟨_,rfl⟩
       replace H:(if l0.length+y309.length < 140737488355328 then (some (l0 ++ y309)) else (none))=some r:=by first|(rw [hy309];with_reducible exact H)|(have H2_:=(Option.bind_some _ _).symm.trans H;rw [hy309];with_reducible exact H2_)|(have H2_:=(Option.bind_some _ _).symm.trans H;with_reducible exact H2_)|with_reducible exact H|(rw [hy309];exact H)|exact H
       have Ny309:=zA.mk hy309
       clear hy309
       by_cases c28:l0.length+y309.length < 140737488355328
       ·
        rw [if_pos c28] at H
        have LMc28:=zA.mk c28
        clear c28
        obtain⟨y312,hy312⟩:∃ y_:List Int,y_=(l0 ++ y309):=⟨_,rfl⟩
        replace H:(some y312)=some r:=by first|(rw [hy312];with_reducible exact H)|(have H2_:=(Option.bind_some _ _).symm.trans H;rw [hy312];with_reducible exact H2_)|(have H2_:=(Option.bind_some _ _).symm.trans H;with_reducible exact H2_)|with_reducible exact H|(rw [hy312];exact H)|exact H
        have Ny312:=zA.mk hy312
        clear hy312
        as_aux_lemma =>
         obtain rfl:=Option.some.inj H
         go_wp2_with (first|((with_reducible refine jB (N:=75) rfl ?_);refine Kd.zDs (Kd.int .u8) _ 5 ?hg (N:=75) ?hd (xs:=([(wrap64 (240+(wrap64 (Int.tdiv a1 262144)))) % 256,(wrap64 (128+(Int.tmod (wrap64 (Int.tdiv a1 4096)) 64))) % 256,(wrap64 (128+(Int.tmod (wrap64 (Int.tdiv a1 64)) 64))) % 256,(wrap64 (128+(Int.tmod a1 64))) % 256]:List Int)) (inner:=[.int .u8 ((wrap64 (240+(wrap64 (Int.tdiv a1 262144)))) % 256), .int .u8 ((wrap64 (128+(Int.tmod (wrap64 (Int.tdiv a1 4096)) 64))) % 256), .int .u8 ((wrap64 (128+(Int.tmod (wrap64 (Int.tdiv a1 64)) 64))) % 256), .int .u8 ((wrap64 (128+(Int.tmod a1 64))) % 256)]) (ok:=fun _=>True) (okp:=fun _=>True) ?hr ?hp (fun _ hk=>hk) trivial (Below.refl _ _) (Nat.le_refl _) (by simp) ?_;(case hd=>rfl);(case hg=>rfl);(case hr=>first|(go_simp;done)|(go_simp;rfl));(case hp=>exact(yQ.one (show Kd.M (Kd.int .u8) _ _ _ ((wrap64 (240+(wrap64 (Int.tdiv a1 262144)))) % 256) [.int .u8 ((wrap64 (240+(wrap64 (Int.tdiv a1 262144)))) % 256)] from rfl) (yQ.one (show Kd.M (Kd.int .u8) _ _ _ ((wrap64 (128+(Int.tmod (wrap64 (Int.tdiv a1 4096)) 64))) % 256) [.int .u8 ((wrap64 (128+(Int.tmod (wrap64 (Int.tdiv a1 4096)) 64))) % 256)] from rfl) (yQ.one (show Kd.M (Kd.int .u8) _ _ _ ((wrap64 (128+(Int.tmod (wrap64 (Int.tdiv a1 64)) 64))) % 256) [.int .u8 ((wrap64 (128+(Int.tmod (wrap64 (Int.tdiv a1 64)) 64))) % 256)] from rfl) (yQ.one (show Kd.M (Kd.int .u8) _ _ _ ((wrap64 (128+(Int.tmod a1 64))) % 256) [.int .u8 ((wrap64 (128+(Int.tmod a1 64))) % 256)] from rfl) (yQ.none _ _))))));intro v310 w29 ho30 hb hg_ hnew_;clear hg_ hnew_;(first|rw [← Ny309.out] at ho30|(simp only [Int.reduceToNat] at ho30;rw [← Ny309.out] at ho30));have n0_:=zA.mk (Kd.uF zDv (Kd.yB ho30) hb);have n1_:=zA.mk (Kd.jN (Kd.yV (Kd.KX (M:=fun k_=>(P0_ k_∨w.heap.size≤k_)) ho30 zDu (fun k_ h_ => .inr h_)) (Kd.X8 zDv)) (xB yS));have n2_:=zA.mk (Kept.below (S:=(fun k_=>P0_ k_)) YU hb);have n3_:=zA.mk (vB yS hb);clear HO_0;clear HK;clear HB;have HO_0:=n0_;have HO311:=n1_;have HK:=n2_;have HB:=n3_;clear n0_ n1_ n2_ n3_;clear hb ho30;obtain⟨Ao32,co32,eo32⟩:=Kd.vJ HO311.out;subst eo32)|((with_reducible refine xI (b := .append) (xs:=#[.tmp 56, .tmp 75]) rfl ?_);at_builtin;refine Kd.jW (Kd.int .u8) (w0:=w0) w0.heap.size rfl (.tmp 56) (.tmp 75) 63 5 (.int .u8 0) 1 rfl Tryz.underlying63 kK rfl (by decide) (by omega) u9000_ l0 y309 _ _ _ (fun k_=>(P0_ k_∨w.heap.size≤k_)∧some k_≠(.slice Ao32 y309.length co32:Value).ownBlock) (fun _=>False) rfl rfl ?aO ?aR (fun _ _ h=>h) (fun _ h=>h.elim) ?aF ?aB ?aS ?aL ?_;(case aR=>repeat (first|exact(Kd.vX HO311.out).2.2|(with_reducible refine Kd.vZ ?_ _)|(with_reducible refine Kd.jJ ?_ _)|(with_reducible refine Kd.qM ?_)));(case aB=>exact yS);(case aF=>exact(fun k_ hk=>⟨(.inr (Nat.le_trans zDu hk)),Kd.V4 (Kd.X8 (by (with_reducible repeat (first|apply Kd.xJ|apply Kd.xK|apply Kd.xU));exact HO311.out)) k_ hk⟩));(case aO=>exact zDv);(case aS=>exact(xB yS));(case aL=>have:=LMc28.out;omega);intro v313 w31 ho hb hg hat;rw [← Ny312.out] at ho;replace HO311:=zA.mk (Kd.Z3 (ok:=(fun k_=>(P0_ k_∨w.heap.size≤k_))) (by (with_reducible repeat (first|apply Kd.xJ|apply Kd.xK|apply Kd.xU));exact Kd.xG HO311.out (fun _ hk=>⟨hk.1.1,hk.2⟩)) hg hat);replace HB:=zA.mk (hb);replace HK:=zA.mk (Kept.yK (S:=(fun k_=>P0_ k_)) hg YU (fun k_ e_=>(HO_0.out.1 k_ e_).1));replace HO314:=zA.mk (ho);clear ho hb hg hat))
         go_ret
         exact⟨_,qW,by (with_reducible repeat (first|apply Kd.xJ|apply Kd.xK|apply Kd.xU));exact Kd.xG HO314.out (fun _ hk=>hk.1),yS,YU⟩
       ·
        rw [if_neg c28] at H
        exact absurd H (by simp)
end Go.Proofs.YtljhmnnhfnmhmaaGreatDoor.G
