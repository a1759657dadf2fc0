/-
Lemmas of this claim; made short by a program of this work.
-/
import Derived.Test.YtljhmnnhfnmhmaaGreatDoorUPu
import Derived.Test.YtljhmnnhfnmhmaaGreatDoorUM9
import Derived.Test.YtljhmnnhfnmhmaaGreatDoorUM0
set_option linter.unusedVariables false
set_option linter.unusedSimpArgs false
set_option maxHeartbeats 8000000
set_option maxRecDepth 100000
namespace Go.Proofs.YtljhmnnhfnmhmaaGreatDoor.M
open Go Go.RowKit Go.Lib Go.Proofs.YtljhmnnhfnmhmaaGreatDoorW.PrintWords Go.Proofs.YtljhmnnhfnmhmaaGreatDoorW.PrintLast Go.Proofs.YtljhmnnhfnmhmaaGreatDoorW.PrintMore
def UnP (w:World) (e:Ending) (w':World):Prop:=∃ v:ByteArray,e = .returned (.string v)∧Below w.heap.size w w'
def UnC (s:ByteArray) (w0:World) (u3:Value) (xs:List Int) (p:Nat) (a4 a5:Value) (wx:World):Prop:=∃ (q:Nat) (rv:Int),a4 = .int .i64 (q:Int)∧a5 = .int .i32 rv∧p+6≤q∧q≤s.size∧zA (Esc s q)∧zA (Buf w0 wx u3 xs)∧zA (Below w0.heap.size w0 wx)
theorem Buf.below {w0 w w1:World} {v:Value} {xs:List Int} (h:Buf w0 w v xs) (hb:Below w.heap.size w w1):Buf w0 w1 v xs:=Kd.vS h hb
def UnL (s:ByteArray) (w0:World) (kq:Nat) (a3 a4:Value) (w:World):Prop:=∃ (p:Nat) (xs:List Int),a4 = .int .i64 (p:Int)∧Esc s p∧kq+p=s.size∧zA (xs.length≤p)∧zA (Buf w0 w a3 xs)∧zA (Below w0.heap.size w0 w)
theorem ZU (s:ByteArray) (w:World) (hs:s.size≤1048576) (h:Esc s 0):Calls Tryz.prog 68 #[.string s] w (UnP w):=by
 have hb:=vP s
 have HX:=Lib.hid h
 have HB:=zA.mk (Below.refl w.heap.size w)
 clear h
 go_enter Tryz.func68,Tryz.ntmps68
 go_wp2_with ((with_reducible refine jB (N:=9) rfl ?_);refine JL (w0:=w) rfl (.tmp 8) rfl s.size rfl hs HB.out ?_;clear HB;intro v3 w3 HO3 HB3)
 go_loopg [3,4] s.size (fun kq a3 a4 w'=>UnL s w kq a3 a4 w')
 case atStart=>exact⟨0,[],rfl,HX.out,rfl,⟨Nat.le_refl _⟩,HO3,HB3⟩
 case round =>
  clear HX HO3 HB3
  obtain⟨p,xs,rfl,he,hk,HL,HO,HB⟩:=hrel
  have hpl:=he.le
  have hcv:=ZO (P:=Tryz.prog) Tryz.underlying63 Tryz.underlying5 Tryz.underlying9 (Kd.y9 HO.out)
  by_cases hlt:p < s.size
  ·
   clear hcv
   rcases he.cases hlt with ⟨h32,h92,he1⟩|⟨hp1,h92,hsc,he1⟩|⟨hp5,h92,h117,hx,he1⟩
   ·
    have HE:=Lib.hid he1
    have h92b:(bn s p == 92)=false:=beq_eq_false_iff_ne.mpr h92
    have h32n:¬ bn s p < 32:=by omega
    clear he he1 h92 h32
    as_aux_lemma =>
     go_wp2_with ((with_reducible refine xI (b := .append) (xs:=#[.tmp 16, .tmp 20]) rfl ?_);at_builtin;refine kH (w0:=w) rfl (.tmp 16) (.tmp 20) rfl u3 xs _ rfl rfl ?aB ?aO ?aL ?_;(case aB=>repeat (first|(with_reducible first|exact HB.out|apply zD|apply zH|apply zJ)|exact HB.out));(case aO=>((with_reducible repeat (first|apply Kd.xJ|apply Kd.xK|apply Kd.xU));exact HO.out));(case aL=>have:=HL.out;omega);intro v5 ys w5 HY HO5 HB5)
     go_roundg (gk - 1)
     case measure=>omega
     case rel=>exact⟨p+1,ys,by go_num,HE.out,by omega,⟨zDt⟩,HO5,HB5⟩
   ·
    have HE:=Lib.hid he1
    have h32n:¬ bn s p < 32:=by omega
    have hb1:((s[p+1]'hp1).toNat:Int)=bn s (p+1):=hb (p+1) hp1
    clear he he1
    rcases hsc with hc|hc|hc|hc|hc|hc|hc|hc
    ·
     as_aux_lemma =>
      go_wp2_with ((with_reducible refine xI (b := .append) (xs:=#[.tmp 49, .tmp 50]) rfl ?_);at_builtin;refine kH (w0:=w) rfl (.tmp 49) (.tmp 50) rfl u3 xs _ rfl rfl ?aB ?aO ?aL ?_;(case aB=>repeat (first|(with_reducible first|exact HB.out|apply zD|apply zH|apply zJ)|exact HB.out));(case aO=>((with_reducible repeat (first|apply Kd.xJ|apply Kd.xK|apply Kd.xU));exact HO.out));(case aL=>have:=HL.out;omega);intro v5 ys w5 HY HO5 HB5)
      go_roundg (gk - 2)
      case measure=>omega
      case rel=>exact⟨p+2,ys,by go_num,HE.out,by omega,⟨zDt⟩,HO5,HB5⟩
    ·
     as_aux_lemma =>
      go_wp2_with ((with_reducible refine xI (b := .append) (xs:=#[.tmp 54, .tmp 55]) rfl ?_);at_builtin;refine kH (w0:=w) rfl (.tmp 54) (.tmp 55) rfl u3 xs _ rfl rfl ?aB ?aO ?aL ?_;(case aB=>repeat (first|(with_reducible first|exact HB.out|apply zD|apply zH|apply zJ)|exact HB.out));(case aO=>((with_reducible repeat (first|apply Kd.xJ|apply Kd.xK|apply Kd.xU));exact HO.out));(case aL=>have:=HL.out;omega);intro v5 ys w5 HY HO5 HB5)
      go_roundg (gk - 2)
      case measure=>omega
      case rel=>exact⟨p+2,ys,by go_num,HE.out,by omega,⟨zDt⟩,HO5,HB5⟩
    ·
     as_aux_lemma =>
      go_wp2_with ((with_reducible refine xI (b := .append) (xs:=#[.tmp 59, .tmp 60]) rfl ?_);at_builtin;refine kH (w0:=w) rfl (.tmp 59) (.tmp 60) rfl u3 xs _ rfl rfl ?aB ?aO ?aL ?_;(case aB=>repeat (first|(with_reducible first|exact HB.out|apply zD|apply zH|apply zJ)|exact HB.out));(case aO=>((with_reducible repeat (first|apply Kd.xJ|apply Kd.xK|apply Kd.xU));exact HO.out));(case aL=>have:=HL.out;omega);intro v5 ys w5 HY HO5 HB5)
      go_roundg (gk - 2)
      case measure=>omega
      case rel=>exact⟨p+2,ys,by go_num,HE.out,by omega,⟨zDt⟩,HO5,HB5⟩
    ·
     as_aux_lemma =>
      go_wp2_with ((with_reducible refine xI (b := .append) (xs:=#[.tmp 64, .tmp 65]) rfl ?_);at_builtin;refine kH (w0:=w) rfl (.tmp 64) (.tmp 65) rfl u3 xs _ rfl rfl ?aB ?aO ?aL ?_;(case aB=>repeat (first|(with_reducible first|exact HB.out|apply zD|apply zH|apply zJ)|exact HB.out));(case aO=>((with_reducible repeat (first|apply Kd.xJ|apply Kd.xK|apply Kd.xU));exact HO.out));(case aL=>have:=HL.out;omega);intro v5 ys w5 HY HO5 HB5)
      go_roundg (gk - 2)
      case measure=>omega
      case rel=>exact⟨p+2,ys,by go_num,HE.out,by omega,⟨zDt⟩,HO5,HB5⟩
    ·
     as_aux_lemma =>
      go_wp2_with ((with_reducible refine xI (b := .append) (xs:=#[.tmp 69, .tmp 70]) rfl ?_);at_builtin;refine kH (w0:=w) rfl (.tmp 69) (.tmp 70) rfl u3 xs _ rfl rfl ?aB ?aO ?aL ?_;(case aB=>repeat (first|(with_reducible first|exact HB.out|apply zD|apply zH|apply zJ)|exact HB.out));(case aO=>((with_reducible repeat (first|apply Kd.xJ|apply Kd.xK|apply Kd.xU));exact HO.out));(case aL=>have:=HL.out;omega);intro v5 ys w5 HY HO5 HB5)
      go_roundg (gk - 2)
      case measure=>omega
      case rel=>exact⟨p+2,ys,by go_num,HE.out,by omega,⟨zDt⟩,HO5,HB5⟩
    ·
     as_aux_lemma =>
      go_wp2_with ((with_reducible refine xI (b := .append) (xs:=#[.tmp 74, .tmp 75]) rfl ?_);at_builtin;refine kH (w0:=w) rfl (.tmp 74) (.tmp 75) rfl u3 xs _ rfl rfl ?aB ?aO ?aL ?_;(case aB=>repeat (first|(with_reducible first|exact HB.out|apply zD|apply zH|apply zJ)|exact HB.out));(case aO=>((with_reducible repeat (first|apply Kd.xJ|apply Kd.xK|apply Kd.xU));exact HO.out));(case aL=>have:=HL.out;omega);intro v5 ys w5 HY HO5 HB5)
      go_roundg (gk - 2)
      case measure=>omega
      case rel=>exact⟨p+2,ys,by go_num,HE.out,by omega,⟨zDt⟩,HO5,HB5⟩
    ·
     as_aux_lemma =>
      go_wp2_with ((with_reducible refine xI (b := .append) (xs:=#[.tmp 79, .tmp 80]) rfl ?_);at_builtin;refine kH (w0:=w) rfl (.tmp 79) (.tmp 80) rfl u3 xs _ rfl rfl ?aB ?aO ?aL ?_;(case aB=>repeat (first|(with_reducible first|exact HB.out|apply zD|apply zH|apply zJ)|exact HB.out));(case aO=>((with_reducible repeat (first|apply Kd.xJ|apply Kd.xK|apply Kd.xU));exact HO.out));(case aL=>have:=HL.out;omega);intro v5 ys w5 HY HO5 HB5)
      go_roundg (gk - 2)
      case measure=>omega
      case rel=>exact⟨p+2,ys,by go_num,HE.out,by omega,⟨zDt⟩,HO5,HB5⟩
    ·
     as_aux_lemma =>
      go_wp2_with ((with_reducible refine xI (b := .append) (xs:=#[.tmp 84, .tmp 85]) rfl ?_);at_builtin;refine kH (w0:=w) rfl (.tmp 84) (.tmp 85) rfl u3 xs _ rfl rfl ?aB ?aO ?aL ?_;(case aB=>repeat (first|(with_reducible first|exact HB.out|apply zD|apply zH|apply zJ)|exact HB.out));(case aO=>((with_reducible repeat (first|apply Kd.xJ|apply Kd.xK|apply Kd.xU));exact HO.out));(case aL=>have:=HL.out;omega);intro v5 ys w5 HY HO5 HB5)
      go_roundg (gk - 2)
      case measure=>omega
      case rel=>exact⟨p+2,ys,by go_num,HE.out,by omega,⟨zDt⟩,HO5,HB5⟩
   ·
    have HE:=Lib.hid he1
    have h32n:¬ bn s p < 32:=by omega
    have hp1:p+1 < s.size:=by omega
    have hb1:((s[p+1]'hp1).toNat:Int)=bn s (p+1):=hb (p+1) hp1
    obtain⟨js,hjs⟩:∃ js,s.extract (p+2) s.size=js:=⟨_,rfl⟩
    have hjz:js.size=s.size - (p+2):=by rw [← hjs,ByteArray.size_extract];omega
    have hjx:∀ j:Nat,j < 4→Hex (bn js j):=fun j hj=>by
     rw [← hjs,Y0 s (p+2) j (by omega)]
     exact hx j hj
    have HR:=Lib.hid (JE js wr (by omega) (by omega) hjx)
    have hjt:s.extract ((p:Int)+1+1).toNat s.size=js:=by rw [show ((p:Int)+1+1).toNat=p+2 by omega];exact hjs
    clear he he1 hx hjx hjs
    go_upto_if 104 with (first|(go_at_call 82;refine HR.out.mono ?_;rintro e w1 ⟨rv,rfl,hb1'⟩)|(go_at_call 83;refine(XL _ _).mono ?_;rintro e w2 ⟨bv,rfl,rfl⟩))
    have HO2:zA (Buf w w2 u3 xs):=⟨HO.out.below hb1'⟩
    have HB2:zA (Below w.heap.size w w2):=⟨HB.out.trans (hb1'.mono HB.out.size)⟩
    clear hb1' HO HB HR hjt
    obtain⟨q,hq⟩:∃ q,q=p+6:=⟨_,rfl⟩
    rw [show (p:Int)+1+5=(q:Int) by omega]
    rw [← hq] at HE
    have hqp:p+6≤q:=by omega
    have hqs:q≤s.size:=by omega
    clear hq
    go_cut [4,5] (fun a4 a5 wx=>UnC s w u3 xs p a4 a5 wx)
    case first =>
     cases bv
     ·
      as_aux_lemma =>
       go_wp2_with fail
       go_meet
       case rel=>exact⟨q,rv,rfl,rfl,by omega,by omega,⟨HE.out⟩,HO2,HB2⟩
     ·
      by_cases hl6:q+6≤s.size
      ·
       obtain⟨js6,hjs6⟩:∃ js,s.extract q s.size=js:=⟨_,rfl⟩
       have hz6:js6.size=s.size - q:=by rw [← hjs6,ByteArray.size_extract];omega
       have hz7:(6:Int)≤(js6.size:Int):=by omega
       have hq1l:q+1 < s.size:=by omega
       have hb6:((s[q+1]'hq1l).toNat:Int)=bn s (q+1):=hb (q+1) hq1l
       by_cases h92q:bn s q=92
       ·
        by_cases h117q:bn s (q+1)=117
        ·
         have hE2:(∀ j:Nat,j < 4→Hex (bn s (q+2+j)))∧Esc s (q+6):=by
          rcases HE.out.cases (by omega) with ⟨_,h,_⟩|⟨_,_,h,_⟩|⟨_,_,_,h,h2⟩
          ·
           exact absurd h92q h
          ·
           rw [h117q] at h;unfold zA6 at h;omega
          ·
           exact⟨h,h2⟩
         obtain⟨js8,hjs8⟩:∃ js,s.extract (q+2) s.size=js:=⟨_,rfl⟩
         have hz8:js8.size=s.size - (q+2):=by rw [← hjs8,ByteArray.size_extract];omega
         have hjx:∀ j:Nat,j < 4→Hex (bn js8 j):=fun j hj=>by
          rw [← hjs8,Y0 s (q+2) j (by omega)]
          exact hE2.1 j hj
         have HR:=Lib.hid (JE js8 w2 (by omega) (by omega) hjx)
         have hjt8:s.extract ((q:Int)+2).toNat s.size=js8:=by rw [show ((q:Int)+2).toNat=q+2 by omega];exact hjs8
         have HE2:=Lib.hid hE2.2
         clear hjx hE2
         as_aux_lemma =>
          go_wp2_with (first|(go_at_call 82;refine HR.out.mono ?_;rintro e w1 ⟨rv2,rfl,hb9⟩)|(go_at_call 84;refine(VB _ _ _).mono ?_;rintro e w9 ⟨rv3,rfl,rfl⟩))
          go_meet
          case rel=>exact⟨q+6,_,Zq1,rfl,by omega,by omega,⟨HE2.out⟩,⟨HO2.out.below hb9⟩,⟨HB2.out.trans (hb9.mono HB2.out.size)⟩⟩
        ·
         have h117b:(bn s (q+1) == 117)=false:=beq_eq_false_iff_ne.mpr h117q
         as_aux_lemma =>
          go_wp2_with fail
          go_meet
          case rel=>exact⟨q,rv,rfl,rfl,by omega,by omega,⟨HE.out⟩,HO2,HB2⟩
       ·
        have h92qb:(bn s q == 92)=false:=beq_eq_false_iff_ne.mpr h92q
        as_aux_lemma =>
         go_wp2_with fail
         go_meet
         case rel=>exact⟨q,rv,rfl,rfl,by omega,by omega,⟨HE.out⟩,HO2,HB2⟩
      ·
       obtain⟨js6,hjs6⟩:∃ js,s.extract q s.size=js:=⟨_,rfl⟩
       have hz6:js6.size=s.size - q:=by rw [← hjs6,ByteArray.size_extract];omega
       have hz7:¬ (6:Int)≤(js6.size:Int):=by omega
       as_aux_lemma =>
        go_wp2_with fail
        go_meet
        case rel=>exact⟨q,rv,rfl,rfl,by omega,by omega,⟨HE.out⟩,HO2,HB2⟩
    case rest =>
     obtain⟨q2,rw2,rfl,rfl,hq1,hq2,HE2,HO3,HB3⟩:=hcut
     clear HE HO2 HB2
     go_wp2_with (first|((with_reducible refine xI (b := .append) (xs:=#[.tmp 132, .tmp 133]) rfl ?_);at_builtin;refine zBo (w0:=w) rfl (.tmp 132) (.tmp 133) rfl u3 xs rfl rfl HB3.out HO3.out (by have:=HL.out;omega) ?_;intro g5 c5 n5 w5 HN5 HG5 HC5 HY5;have hw1:wrap64 ((n5:Int) - 8)=(xs.length:Int):=(by have:=HN5.out;have:=HL.out;unfold wrap64;omega);have hw2:n5 - xs.length=8:=(by have:=HN5.out;omega);have hw3:xs.length < c5:=(by have:=HN5.out;have:=HC5.out;omega);have hw4:xs.length≤n5:=(by have:=HN5.out;omega);have hw5:n5≤c5:=HC5.out;generalize hm:xs.length=m at hw1 hw2 hw3 hw4;have HM:=Lib.hid hm;clear hm))
     refine(VC w _ g5 _ n5 c5 _ n5 _ HY5.out (by have:=HN5.out;have:=HM.out;omega) HG5.out).mono ?_
     rintro e w6 ⟨k,rfl,hk1,hk2,hBB⟩
     obtain⟨kn,rfl⟩:=Int.eq_ofNat_of_zero_le (show 0≤k by clear hw1;omega)
     have hw6:(m:Int)+(kn:Int)≤(c5:Int):=(by clear hw1;omega)
     have hw8:(0:Int)≤(m:Int)+(kn:Int):=(by clear hw1;omega)
     have hw7:wrap64 ((m:Int)+(kn:Int))=(m:Int)+(kn:Int):=(by clear hw1;have:=HM.out;have:=HL.out;unfold wrap64;omega)
     obtain⟨ys,hys,hbu,hbe⟩:=hBB
     have HYS:=zA.mk hys
     have HBU:=zA.mk hbu
     have HBE:=zA.mk hbe
     clear hys hbu hbe
     go_wp2_with fail
     go_roundg (s.size - q2)
     case measure=>clear hw1 hw7;omega
     case rel=>clear hw1 hw7;exact⟨q2,ys.take (m+kn),Zq1,HE2.out,by omega,⟨by have:=HM.out;have:=HL.out;rw [List.length_take];omega⟩,⟨HBU.out.take (by have:=HYS.out;have:=HM.out;have:=HN5.out;omega)⟩,HBE⟩
  ·
   clear he
   as_aux_lemma =>
    go_wp2_with fail
    go_ret
    exact⟨_,rfl,HB.out⟩
end Go.Proofs.YtljhmnnhfnmhmaaGreatDoor.M
