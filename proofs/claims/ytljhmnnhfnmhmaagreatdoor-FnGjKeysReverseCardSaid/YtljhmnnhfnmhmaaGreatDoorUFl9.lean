/-
Lemmas of this claim; made short by a program of this work.
-/
import Derived.Test.YtljhmnnhfnmhmaaGreatDoorUFl8
import Derived.Test.YtljhmnnhfnmhmaaGreatDoorUM3
import Derived.Test.YtljhmnnhfnmhmaaGreatDoorUM0
set_option linter.unusedVariables false
set_option linter.unusedSimpArgs false
set_option maxHeartbeats 4000000
set_option maxRecDepth 100000
namespace Go.Proofs.YtljhmnnhfnmhmaaGreatDoor.M
open Go Go.RowKit Go.Proofs.YtljhmnnhfnmhmaaGreatDoorW.PrintWords
structure FT (g b o c bp op cp:Nat) (w:World):Prop where
 i0:w.cell? ⟨8,0,none⟩=some (.int .u64 52)
 i1:w.cell? ⟨8,1,none⟩=some (.int .u64 11)
 i2:w.cell? ⟨8,2,none⟩=some (.int .i64 (-1023))
 pw:w.cell? ⟨12,0,none⟩=some (.slice (some ⟨bp,op,none⟩) 9 cp)
 pv:∀ j:Nat,j < 9→∃ v:Nat,1≤v∧v≤27∧w.cell? ⟨bp,op+j,none⟩=some (.int .i64 (v:Int))
 ch:KU b o c w
 lb:b < g
 lp:bp < g
 l12:12 < g
theorem FT.below {g b o c bp op cp:Nat} {w w':World} (h:FT g b o c bp op cp w) (hb:Below g w w'):FT g b o c bp op cp w':=by
 have k:∀ (x y:Nat),x < g→w'.cell? ⟨x,y,none⟩=w.cell? ⟨x,y,none⟩:=fun x y hx=>hb.cell (p:=⟨x,y,none⟩) hx
 have l:=h.l12
 refine⟨(k 8 0 (by omega)).trans h.i0,(k 8 1 (by omega)).trans h.i1,(k 8 2 (by omega)).trans h.i2,(k 12 0 l).trans h.pw,fun j hj=>?_,⟨(k 10 0 (by omega)).trans h.ch.1,fun q q1 q2=>?_⟩,h.lb,h.lp,h.l12⟩
 ·
  obtain⟨v,v1,v2,hv⟩:=h.pv j hj
  exact⟨v,v1,v2,(k bp _ h.lp).trans hv⟩
 ·
  obtain⟨δ,s,l,h1,h2,h3⟩:=h.ch.2 q q1 q2
  exact⟨δ,s,l,(k b _ h.lb).trans h1,(k b _ h.lb).trans h2,h3⟩
def FBt (g:Nat) (w:World) (e:Ending) (w':World):Prop:=∃ (n:Int) (v:Bool),e = .returned (.tuple #[.int .u64 n, .bool v])∧Below g w w'
def F1 (g:Nat) (neg:Bool) (w:World) (k:Nat) (a6:Value) (wr:World):Prop:=∃ (e:Int) (f':Nat→Int) (nd':Nat) (dp':Int) (tr':Bool),
 a6 = .int .i64 e∧0≤e∧e+27 * k≤86400∧10 * dp'+f' 0≤k∧-820≤dp'∧dp'≤310∧Dc g f' nd' dp' neg tr' wr∧Dg f' nd'∧Below g w wr
def F1x (g:Nat) (neg:Bool) (w:World) (a6:Value) (wr:World):Prop:=∃ (e:Int) (f':Nat→Int) (nd':Nat) (dp':Int) (tr':Bool),
 a6 = .int .i64 e∧0≤e∧e≤86400∧-820≤dp'∧dp'≤0∧Dc g f' nd' dp' neg tr' wr∧Dg f' nd'∧Below g w wr
def F2 (g:Nat) (neg:Bool) (w:World) (k:Nat) (a6:Value) (wr:World):Prop:=∃ (e:Int) (f':Nat→Int) (nd':Nat) (dp':Int) (tr':Bool),
 a6 = .int .i64 e∧e≤86400∧-243000+27 * k≤e∧-(10 * dp')+57 - f' 0≤k∧-1000≤dp'∧dp'≤310∧Dc g f' nd' dp' neg tr' wr∧Dg f' nd'∧Below g w wr
def F2x (g:Nat) (neg:Bool) (w:World) (a6:Value) (wr:World):Prop:=∃ (e:Int) (f':Nat→Int) (nd':Nat) (dp':Int) (tr':Bool),
 a6 = .int .i64 e∧-250000≤e∧e≤86400∧-4000000≤dp'∧dp'≤400∧Dc g f' nd' dp' neg tr' wr∧Dg f' nd'∧Below g w wr
def F3x (g:Nat) (neg:Bool) (w:World) (a6:Value) (wr:World):Prop:=∃ (e:Int) (f':Nat→Int) (nd':Nat) (dp':Int) (tr':Bool),
 a6 = .int .i64 e∧-1022≤e∧e≤86400∧-8000000≤dp'∧dp'≤400∧Dc g f' nd' dp' neg tr' wr∧Dg f' nd'∧Below g w wr
theorem JP (g:Nat) (f:Nat→Int) (nd:Nat) (dp:Int) (neg tr:Bool) (b o c bp op cp:Nat) (w:World) (hD:Dc g f nd dp neg tr w) (hf:nd=0∨Dg f nd) (hT:FT g b o c bp op cp w) :
  Calls Tryz.prog 157 #[.pointer (some ⟨g,0,none⟩), .pointer (some ⟨8,0,none⟩)] w (FBt g w):=by
 have c800:=hD.nd
 have c801:=hD.dp
 have c802:=hD.neg
 have i0:=hT.i0
 have i1:=hT.i1
 have i2:=hT.i2
 have HD:=Lib.hid hD
 have HT:=Lib.hid hT
 have HF:=Lib.hid hf
 clear hD hT hf
 go_enter Tryz.func157,Tryz.ntmps157
 go_wp2_with fail
 refine VP ?_
 generalize hJ:(fun l a' w'=>∃ n,Reach _ _ _ n l a' w')=J
 have HJ:=Lib.hid hJ
 clear hJ
 by_cases h0:nd=0
 ·
  subst h0
  as_aux_lemma =>
   go_wp2_with fail
   go_step3
   change J _ _ _
   rw [← HJ.out]
   refine⟨1,y4 0 (by rfl) ?_⟩
   generalize Reach _ _ _ 0=J0
   cases neg
   ·
    go_wp2_with fail
    go_quiet (fail)
    go_wp2_with fail
    show bodyPost _ _ _ Exit.ret _ _
    go_ret2
    exact⟨_,_,rfl,Zq7⟩
   ·
    go_wp2_with fail
    go_quiet (fail)
    go_wp2_with fail
    go_quiet (fail)
    go_wp2_with fail
    show bodyPost _ _ _ Exit.ret _ _
    go_ret2
    exact⟨_,_,rfl,Zq7⟩
 ·
  by_cases h310:310 < dp
  ·
   have hnz:((nd:Int) == 0)=false:=beq_eq_false_iff_ne.mpr (by omega)
   as_aux_lemma =>
    go_wp2_with fail
    go_step3
    change J _ _ _
    rw [← HJ.out]
    refine⟨1,y4 0 (by rfl) ?_⟩
    generalize Reach _ _ _ 0=J0
    go_wp2_with fail
    go_quiet (fail)
    go_wp2_with fail
    go_step3
    cases neg
    ·
     go_wp2_with fail
     go_quiet (fail)
     go_wp2_with fail
     show bodyPost _ _ _ Exit.ret _ _
     go_ret2
     exact⟨_,_,rfl,Zq7⟩
    ·
     go_wp2_with fail
     go_quiet (fail)
     go_wp2_with fail
     go_quiet (fail)
     go_wp2_with fail
     show bodyPost _ _ _ Exit.ret _ _
     go_ret2
     exact⟨_,_,rfl,Zq7⟩
  ·
   by_cases h330:dp < -330
   ·
    have hnz:((nd:Int) == 0)=false:=beq_eq_false_iff_ne.mpr (by omega)
    as_aux_lemma =>
     go_wp2_with fail
     go_step3
     change J _ _ _
     rw [← HJ.out]
     refine⟨1,y4 0 (by rfl) ?_⟩
     generalize Reach _ _ _ 0=J0
     cases neg
     ·
      go_wp2_with fail
      go_quiet (fail)
      go_wp2_with fail
      show bodyPost _ _ _ Exit.ret _ _
      go_ret2
      exact⟨_,_,rfl,Zq7⟩
     ·
      go_wp2_with fail
      go_quiet (fail)
      go_wp2_with fail
      go_quiet (fail)
      go_wp2_with fail
      show bodyPost _ _ _ Exit.ret _ _
      go_ret2
      exact⟨_,_,rfl,Zq7⟩
   ·
    have hnz:((nd:Int) == 0)=false:=beq_eq_false_iff_ne.mpr (by omega)
    have hDg:Dg f nd:=by rcases HF.out with h|h;exact absurd h h0;exact h
    have hf0:=hDg.2.2.2 0 (by have:=hDg.1;omega)
    go_upto_block 0 with fail
    go_cut [6] (fun a6 wx=>F1x g neg w a6 wx)
    case first =>
     go_wp2_with fail
     go_loopg [6] 3200 (fun k a6 wr=>F1 g neg w k a6 wr)
     case atStart=>exact⟨0,f,nd,dp,tr,rfl,by omega,by omega,by omega,by omega,by omega,HD.out,hDg,Below.refl _ _⟩
     case round =>
      obtain⟨e,f',nd',dp',tr',rfl,he0,he1,hk,hdl,hdu,hDr,hfr,hBr⟩:=hrel
      have c801:=hDr.dp
      by_cases hpos:0 < dp'
      ·
       obtain⟨q,rfl⟩:=Int.eq_ofNat_of_zero_le (show 0≤dp' by omega)
       have hft:=HT.out.below hBr
       have pw:=hft.pw
       have hf0':=hfr.2.2.2 0 (by have:=hfr.1;omega)
       have hk1:1≤gk:=by omega
       have HDr:=Lib.hid (And.intro hDr (And.intro hfr (And.intro hBr hf0')))
       by_cases h9:9≤q
       ·
        clear hft hDr hfr hBr hDg hf0 c800 hf0'
        as_aux_lemma =>
         go_wp2_with fail
         go_quiet (fail)
         go_wp2_with (go_at_call 118;refine(kA g f' nd' _ _ neg tr' 27 _ Zq8 HDr.out.2.1 rfl (by omega) (by omega) (by omega) (by omega)).mono ?_;rintro e w' ⟨rfl,hh⟩;have HH:=Lib.hid hh;clear hh)
         go_roundg (gk - 1)
         case measure=>omega
         case rel =>
          obtain⟨f2,nd2,dp2,tr2,hD2,hf2,hB2,hl2,hu2⟩:=HH.out
          have hx:=HDr.out.2.2.2
          have hf20:=hf2.2.2.2 0 (by have:=hf2.1;omega)
          exact⟨e+27,f2,nd2,dp2,tr2,rfl,by omega,by omega,by omega,by omega,by omega,hD2,hf2,(below_drewN HDr.out.2.2.1 _).trans hB2⟩
       ·
        obtain⟨v,v1,v2,pv⟩:=hft.pv q (by omega)
        clear hft hDr hfr hBr hDg hf0 c800 hf0'
        as_aux_lemma =>
         go_wp2_with fail
         go_quiet (fail)
         go_wp2_with fail
         go_quiet (fail)
         go_wp2_with (go_at_call 118;refine(kA g f' nd' _ _ neg tr' v _ Zq8 HDr.out.2.1 rfl (by omega) (by omega) (by omega) (by omega)).mono ?_;rintro e w' ⟨rfl,hh⟩;have HH:=Lib.hid hh;clear hh)
         go_roundg (gk - 1)
         case measure=>omega
         case rel =>
          obtain⟨f2,nd2,dp2,tr2,hD2,hf2,hB2,hl2,hu2⟩:=HH.out
          have hx:=HDr.out.2.2.2
          have hf20:=hf2.2.2.2 0 (by have:=hf2.1;omega)
          exact⟨e+v,f2,nd2,dp2,tr2,rfl,by omega,by omega,by omega,by omega,by omega,hD2,hf2,(below_drewN HDr.out.2.2.1 _).trans hB2⟩
      ·
       have HDr:=Lib.hid (And.intro hDr (And.intro hfr hBr))
       clear hDr hfr hBr hDg hf0 c800
       as_aux_lemma =>
        go_wp2_with fail
        go_meet
        exact⟨e,f',nd',dp',tr',rfl,he0,by omega,hdl,by omega,HDr.out.1,HDr.out.2.1,HDr.out.2.2⟩
    case rest =>
     obtain⟨e,f',nd',dp',tr',rfl,he0,he1,hdl,hdu,hDr,hfr,hBr⟩:=hcut
     have hf0':=hfr.2.2.2 0 (by have:=hfr.1;omega)
     have HDr:=Lib.hid (And.intro hDr (And.intro hfr hBr))
     clear hDr hfr hBr hDg hf0 c800 c801 c802 i0 i1 i2
     go_upto_block 2 with fail
     go_cut [6] (fun a6 wx=>F2x g neg w a6 wx)
     case first =>
      go_wp2_with fail
      go_loopg [6] 9000 (fun k a6 wr=>F2 g neg w k a6 wr)
      case atStart=>exact⟨e,f',nd',dp',tr',rfl,by omega,by omega,by omega,by omega,by omega,HDr.out.1,HDr.out.2.1,HDr.out.2.2⟩
      case round =>
       clear HDr hf0' he0 he1 hdl hdu
       obtain⟨e,f',nd',dp',tr',rfl,he0,he1,hk,hdl,hdu,hDr,hfr,hBr⟩:=hrel
       have c801:=hDr.dp
       have c0:=hDr.d 0 (by omega)
       have hf0':=hfr.2.2.2 0 (by have:=hfr.1;omega)
       have h49:=hfr.2.2.1
       have hft:=HT.out.below hBr
       have pw:=hft.pw
       have HDr:=Lib.hid (And.intro hDr (And.intro hfr (And.intro hBr hf0')))
       obtain⟨x,hx⟩:∃ x,x=f' 0:=⟨_,rfl⟩
       rw [← hx] at c0 hk hf0' h49
       have HX:=Lib.hid hx
       clear hx
       by_cases hneg:dp' < 0
       ·
        obtain⟨q,hq⟩:=Int.eq_ofNat_of_zero_le (show 0≤-dp' by omega)
        obtain rfl:dp' = -(q:Int):=by omega
        have hq0:0 < q:=by omega
        by_cases h9:9≤q
        ·
         clear hft hDr hfr hBr hq
         as_aux_lemma =>
          go_wp2_with fail
          go_quiet (fail)
          have hx1:=HX.out
          go_wp2_with (go_at_call 118;refine(yT g f' nd' _ neg tr' 27 b o c _ Zq8 HDr.out.2.1 (by omega) (by omega) (by omega) (by omega) Zq9 HT.out.lb (by have:=HT.out.l12;omega)).mono ?_;rintro e w' ⟨rfl,hh⟩;have HH:=Lib.hid hh;clear hh)
          go_roundg (gk - 1)
          case measure=>omega
          case rel =>
           obtain⟨f2,nd2,dp2,tr2,hD2,hf2,hB2,hl2,hu2⟩:=HH.out
           have hx:=HDr.out.2.2.2
           have hf20:=hf2.2.2.2 0 (by have:=hf2.1;omega)
           exact⟨e - 27,f2,nd2,dp2,tr2,rfl,by omega,by omega,by omega,by omega,by omega,hD2,hf2,(below_drewN HDr.out.2.2.1 _).trans hB2⟩
        ·
         have hq4:q < 9:=by omega
         obtain⟨v,v1,v2,pv⟩:=hft.pv q (by omega)
         clear hft hDr hfr hBr hq
         as_aux_lemma =>
          go_wp2_with fail
          go_quiet (fail)
          go_wp2_with fail
          go_quiet (fail)
          have hx1:=HX.out
          go_wp2_with (go_at_call 118;refine(yT g f' nd' _ neg tr' v b o c _ Zq8 HDr.out.2.1 (by omega) (by omega) (by omega) (by omega) Zq9 HT.out.lb (by have:=HT.out.l12;omega)).mono ?_;rintro e w' ⟨rfl,hh⟩;have HH:=Lib.hid hh;clear hh)
          go_roundg (gk - 1)
          case measure=>omega
          case rel =>
           obtain⟨f2,nd2,dp2,tr2,hD2,hf2,hB2,hl2,hu2⟩:=HH.out
           have hx:=HDr.out.2.2.2
           have hf20:=hf2.2.2.2 0 (by have:=hf2.1;omega)
           exact⟨e - v,f2,nd2,dp2,tr2,rfl,by omega,by omega,by omega,by omega,by omega,hD2,hf2,(below_drewN HDr.out.2.2.1 _).trans hB2⟩
       ·
        by_cases hz:dp'=0∧x < 53
        ·
         obtain⟨hz,hx53⟩:=hz
         obtain⟨v,v1,v2,pv⟩:=hft.pv 0 (by omega)
         rw [Nat.add_zero] at pv
         clear hft hDr hfr hBr
         subst hz
         as_aux_lemma =>
          go_wp2_with fail
          go_quiet (fail)
          go_wp2_with fail
          go_quiet (fail)
          have hx1:=HX.out
          go_wp2_with (go_at_call 118;refine(yT g f' nd' _ neg tr' v b o c _ Zq8 HDr.out.2.1 (by omega) (by omega) (by omega) (by omega) Zq9 HT.out.lb (by have:=HT.out.l12;omega)).mono ?_;rintro e w' ⟨rfl,hh⟩;have HH:=Lib.hid hh;clear hh)
          go_roundg (gk - 1)
          case measure=>omega
          case rel =>
           obtain⟨f2,nd2,dp2,tr2,hD2,hf2,hB2,hl2,hu2⟩:=HH.out
           have hx:=HDr.out.2.2.2
           have hf20:=hf2.2.2.2 0 (by have:=hf2.1;omega)
           exact⟨e - v,f2,nd2,dp2,tr2,rfl,by omega,by omega,by omega,by omega,by omega,hD2,hf2,(below_drewN HDr.out.2.2.1 _).trans hB2⟩
        ·
         clear hft hDr hfr hBr
         by_cases hz2:dp'=0
         ·
          have hx53:¬ x < 53:=fun h=>hz ⟨hz2,h⟩
          clear hz
          subst hz2
          as_aux_lemma =>
           go_wp2_with fail
           go_meet
           exact⟨e,f',nd',0,tr',rfl,by omega,by omega,by omega,by omega,HDr.out.1,HDr.out.2.1,HDr.out.2.2.1⟩
         ·
          have hz3:(dp' == 0)=false:=beq_eq_false_iff_ne.mpr hz2
          clear hz
          as_aux_lemma =>
           go_wp2_with fail
           go_meet
           exact⟨e,f',nd',dp',tr',rfl,by omega,by omega,by omega,by omega,HDr.out.1,HDr.out.2.1,HDr.out.2.2.1⟩
     case rest =>
      clear HDr hf0' he0 he1 hdl hdu
      obtain⟨e,f',nd',dp',tr',rfl,he0,he1,hdl,hdu,hDr,hfr,hBr⟩:=hcut
      have hft:=HT.out.below hBr
      have i0:=hft.i0
      have i1:=hft.i1
      have i2:=hft.i2
      have HDr:=Lib.hid (And.intro hDr (And.intro hfr hBr))
      clear hft hDr hfr hBr
      go_upto_if 111 with fail
      go_cut [6] (fun a6 wx=>F3x g neg w a6 wx)
      case first =>
       by_cases hlo:e - 1 < -1022
       ·
        obtain⟨K,hK⟩:=Int.eq_ofNat_of_zero_le (show 0≤-1021 - e by omega)
        have hK1:1≤K:=by omega
        have hK2:K≤1000000:=by omega
        have HK:=Lib.hid hK
        clear hK
        as_aux_lemma =>
         go_wp2_with (go_at_call 118;refine(kA g f' nd' _ _ neg tr' K _ HDr.out.1 HDr.out.2.1 (by have:=HK.out;omega) hK1 hK2 (by omega) (by omega)).mono ?_;rintro e w' ⟨rfl,hh⟩;have HH:=Lib.hid hh;clear hh)
         go_meet
         obtain⟨f2,nd2,dp2,tr2,hD2,hf2,hB2,hl2,hu2⟩:=HH.out
         have:=HK.out
         exact⟨_,f2,nd2,dp2,tr2,rfl,by omega,by omega,by omega,by omega,hD2,hf2,HDr.out.2.2.trans hB2⟩
       ·
        as_aux_lemma =>
         go_wp2_with fail
         go_meet
         exact⟨_,f',nd',dp',tr',rfl,by omega,by omega,by omega,by omega,HDr.out.1,HDr.out.2.1,HDr.out.2.2⟩
      case rest =>
       clear HDr he0 he1 hdl hdu i0 i1 i2
       obtain⟨e,f',nd',dp',tr',rfl,he0,he1,hdl,hdu,hDr,hfr,hBr⟩:=hcut
       have hft:=HT.out.below hBr
       have i0:=hft.i0
       have i1:=hft.i1
       have i2:=hft.i2
       have c802:=hDr.neg
       have HFT:=Lib.hid hft
       have HB:=Lib.hid hBr
       have HDr:=Lib.hid (And.intro hDr hfr)
       clear hft hDr hfr hBr
       by_cases hov:2047≤e+1023
       ·
        have hov2:¬ e+1023 < 2047:=by omega
        as_aux_lemma =>
         go_wp2_with fail
         go_quiet (fail)
         go_wp2_with fail
         go_step3
         change J _ _ _
         rw [← HJ.out]
         refine⟨1,y4 0 (by rfl) ?_⟩
         generalize Reach _ _ _ 0=J0
         go_wp2_with fail
         go_quiet (fail)
         go_wp2_with fail
         go_step3
         cases neg
         ·
          go_wp2_with fail
          go_quiet (fail)
          go_wp2_with fail
          show bodyPost _ _ _ Exit.ret _ _
          go_ret2
          exact⟨_,_,rfl,zFj⟩
         ·
          go_wp2_with fail
          go_quiet (fail)
          go_wp2_with fail
          go_quiet (fail)
          go_wp2_with fail
          show bodyPost _ _ _ Exit.ret _ _
          go_ret2
          exact⟨_,_,rfl,zFj⟩
       ·
        have hov2:e+1023 < 2047:=by omega
        go_wp2_with fail
        go_quiet (fail)
        go_wp2_with fail
        refine(yT g f' nd' _ neg tr' 53 b o c _ (HDr.out.1.drewN _) HDr.out.2 (by omega) (by omega) (by omega) (by omega) (HFT.out.below (below_drewN (Below.refl _ _) _)).ch HT.out.lb (by have:=HT.out.l12;omega)).mono ?_
        rintro en w2 ⟨rfl,f2,nd2,dp2,tr2,hD2,hf2,hB2,hl2,hu2⟩
        clear i0 i1 i2 c802
        have hBn:=(below_drewN HB.out _).trans hB2
        have hft:=HT.out.below hBn
        have i0:=hft.i0
        have i1:=hft.i1
        have i2:=hft.i2
        have c802:=hD2.neg
        have HB:=Lib.hid hBn
        have HR:=Lib.hid (VL g f2 nd2 dp2 neg tr2 w2 hD2 hf2 (by omega))
        clear hB2 hBn hft hD2 hf2 HFT HDr
        go_wp2_with fail
        refine HR.out.mono ?_
        rintro en w3 ⟨m,rfl,rfl⟩
        by_cases hm:m=9007199254740992
        ·
         subst hm
         by_cases hov3:2047≤e+1+1023
         ·
          have hov4:¬ e+1+1023 < 2047:=by omega
          as_aux_lemma =>
           go_wp2_with fail
           go_quiet (fail)
           go_wp2_with fail
           go_step3
           change J _ _ _
           rw [← HJ.out]
           refine⟨1,y4 0 (by rfl) ?_⟩
           generalize Reach _ _ _ 0=J0
           go_wp2_with fail
           go_quiet (fail)
           go_wp2_with fail
           go_step3
           cases neg
           ·
            go_wp2_with fail
            go_quiet (fail)
            go_wp2_with fail
            show bodyPost _ _ _ Exit.ret _ _
            go_ret2
            exact⟨_,_,rfl,zFj⟩
           ·
            go_wp2_with fail
            go_quiet (fail)
            go_wp2_with fail
            go_quiet (fail)
            go_wp2_with fail
            show bodyPost _ _ _ Exit.ret _ _
            go_ret2
            exact⟨_,_,rfl,zFj⟩
         ·
          have hov4:e+1+1023 < 2047:=by omega
          as_aux_lemma =>
           go_wp2_with fail
           go_quiet (fail)
           go_wp2_with fail
           all_goals
            go_step3
            change J _ _ _
            rw [← HJ.out]
            refine⟨1,y4 0 (by rfl) ?_⟩
            generalize Reach _ _ _ 0=J0
            cases neg
            ·
             go_wp2_with fail
             go_quiet (fail)
             go_wp2_with fail
             show bodyPost _ _ _ Exit.ret _ _
             go_ret2
             exact⟨_,_,rfl,zFj⟩
            ·
             go_wp2_with fail
             go_quiet (fail)
             go_wp2_with fail
             go_quiet (fail)
             go_wp2_with fail
             show bodyPost _ _ _ Exit.ret _ _
             go_ret2
             exact⟨_,_,rfl,zFj⟩
        ·
         have hmb:(m == 9007199254740992)=false:=beq_eq_false_iff_ne.mpr hm
         clear hm
         as_aux_lemma =>
          go_wp2_with fail
          all_goals
           go_step3
           change J _ _ _
           rw [← HJ.out]
           refine⟨1,y4 0 (by rfl) ?_⟩
           generalize Reach _ _ _ 0=J0
           cases neg
           ·
            go_wp2_with fail
            go_quiet (fail)
            go_wp2_with fail
            show bodyPost _ _ _ Exit.ret _ _
            go_ret2
            exact⟨_,_,rfl,zFj⟩
           ·
            go_wp2_with fail
            go_quiet (fail)
            go_wp2_with fail
            go_quiet (fail)
            go_wp2_with fail
            show bodyPost _ _ _ Exit.ret _ _
            go_ret2
            exact⟨_,_,rfl,zFj⟩
end Go.Proofs.YtljhmnnhfnmhmaaGreatDoor.M
