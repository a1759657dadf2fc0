/-
Lemmas of this claim; made short by a program of this work.
-/
import Derived.Test.YtljhmnnhfnmhmaaGreatDoorUFl3
import Derived.Test.YtljhmnnhfnmhmaaGreatDoorUM9
import Derived.StillTailTactics
import Derived.RegionTactic
import Derived.ChangeAlike
import Derived.Test.YtljhmnnhfnmhmaaGreatDoorUM0
set_option linter.unusedVariables false
set_option linter.unusedSimpArgs false
set_option maxHeartbeats 4000000
set_option maxRecDepth 100000
namespace Go.Proofs.YtljhmnnhfnmhmaaGreatDoor.M
open Go Go.RowKit Go.Proofs.YtljhmnnhfnmhmaaGreatDoorW.PrintWords
def Dz (f:Nat→Int) (nd:Nat):Prop:=nd≤800∧(1≤nd→49≤f 0)∧∀ j:Nat,j < nd→48≤f j∧f j≤57
theorem Dz.dg {f:Nat→Int} {nd:Nat} (h:Dz f nd):nd=0∨Dg f nd:=by
 rcases Nat.eq_zero_or_pos nd with h0|h0
 ·
  exact .inl h0
 ·
  exact .inr ⟨h0,h.1,h.2.1 h0,h.2.2⟩
def DW (g:Nat) (w wr:World):Prop:=∃ (f':Nat→Int) (nd':Nat) (dp':Int) (neg' tr':Bool),Dc g f' nd' dp' neg' tr' wr∧Dz f' nd'∧Below g w wr
def SetP (g:Nat) (w:World) (e:Ending) (w':World):Prop:=∃ b:Bool,e = .returned (.bool b)∧DW g w w'
def S1 (g:Nat) (s:ByteArray) (w:World) (a5 a6 a7:Value) (wr:World):Prop:=∃ (i:Nat) (sd sg:Bool),a5 = .int .i64 (i:Int)∧a6 = .bool sd∧a7 = .bool sg∧i≤s.size∧DW g w wr
def S0 (g:Nat) (w:World) (a5:Value) (wr:World):Prop:=∃ i:Nat,a5 = .int .i64 (i:Int)∧i≤1∧DW g w wr
def SE (s:ByteArray) (a5 a9:Value):Prop:=∃ (k:Nat) (e:Int),a5 = .int .i64 (k:Int)∧a9 = .int .i64 e∧k≤s.size∧0≤e∧e≤110000
theorem zH0 (g:Nat) (f:Nat→Int) (dp:Int) (neg tr:Bool) (s:ByteArray) (w:World) (hD:Dc g f 0 dp neg tr w) (hs:s.size≤1048576) (h:kZ s) :
  Calls Tryz.prog 156 #[.pointer (some ⟨g,0,none⟩), .string s] w (SetP g w):=by
 have hb:=vP s
 have c802:=hD.neg
 have c803:=hD.tr
 have f802:=hD.fz 802 (by omega)
 have f803:=hD.fz 803 (by omega)
 have HD:=Lib.hid hD
 have HX:=Lib.hid h
 clear hD h
 by_cases hpos:0 < s.size
 ·
  have hne:¬ s=ByteArray.empty:=by rintro rfl;simp at hpos
  have hne2:((s.size:Int)≤0)=False:=by simp;omega
  have h0:Dz f 0:=⟨by omega,by omega,by omega⟩
  go_enter Tryz.func156,Tryz.ntmps156
  go_upto_block 0 with fail
  go_cut [5] (fun a5 wx=>S0 g w a5 wx)
  case first =>
   as_aux_lemma =>
    go_wp2_with fail
    all_goals go_meet
    ·
     exact⟨1,rfl,by omega,f,0,dp,_,_,(HD.out.XX _).ZD _,h0,((Below.refl _ _).setCell (by simp) _).setCell (by simp) _⟩
    ·
     exact⟨1,rfl,by omega,f,0,dp,_,_,(((HD.out.XX _).ZD _).XX _),h0,(((Below.refl _ _).setCell (by simp) _).setCell (by simp) _).setCell (by simp) _⟩
    ·
     exact⟨0,rfl,by omega,f,0,dp,_,_,(HD.out.XX _).ZD _,h0,((Below.refl _ _).setCell (by simp) _).setCell (by simp) _⟩
  case rest =>
   clear c802 c803 f802 f803
   obtain⟨i,rfl,hi,hW⟩:=hcut
   have HW:=Lib.hid hW
   clear hW
   go_upto_block 1 with fail
   go_cut [5,6,7] (fun a5 a6 a7 wx=>S1 g s w a5 a6 a7 wx)
   case first =>
    go_wp2_with fail
    go_loopw [5,6,7] (fun a5 a6 a7 wr=>S1 g s w a5 a6 a7 wr) (fun a5 _ _ _=>s.size - (intOf a5).toNat)
    case atStart=>exact⟨i,false,false,rfl,rfl,rfl,by omega,HW.out⟩
    case round =>
     clear HW
     obtain⟨i,sd,sg,rfl,rfl,rfl,hi2,f',nd',dp',neg',tr',hDr,hz,hBr⟩:=hrel
     have c800:=hDr.nd
     have c801:=hDr.dp
     have f800:=hDr.fz 800 (by omega)
     have f801:=hDr.fz 801 (by omega)
     have hn8:=hz.1
     have HW:=Lib.hid (And.intro hDr (And.intro hz hBr))
     by_cases hlt:i < s.size
     ·
      have hc:qN (bn s i):=HX.out.at_ i hlt
      unfold qN at hc
      by_cases h46:bn s i=46
      ·
       clear hc hDr hz hBr
       cases sd
       ·
        as_aux_lemma =>
         go_wp2_with fail
         go_roundw
         case rel=>exact⟨i+1,true,sg,by go_num,rfl,rfl,by omega,f',nd',_,neg',tr',HW.out.1.ZT _,HW.out.2.1,HW.out.2.2.setCell (by simp) _⟩
         case measure=>first|(simp [intOf];done)|(simp [intOf];omega)
       ·
        as_aux_lemma =>
         go_wp2_with fail
         go_ret
         exact⟨_,rfl,f',nd',dp',neg',tr',HW.out.1,HW.out.2.1,HW.out.2.2⟩
      ·
       by_cases hdg:48≤bn s i∧bn s i≤57
       ·
        obtain⟨hg0,hg1⟩:=hdg
        have hn95:(bn s i == 95)=false:=beq_eq_false_iff_ne.mpr (by omega)
        have hn46:(bn s i == 46)=false:=beq_eq_false_iff_ne.mpr (by omega)
        clear hc h46
        by_cases hz0:bn s i=48∧nd'=0
        ·
         obtain⟨hz0,hz1⟩:=hz0
         subst hz1
         clear hDr hz hBr hn95 hn46 hg0 hg1
         as_aux_lemma =>
          go_wp2_with fail
          go_roundw
          case rel=>exact⟨i+1,sd,true,by go_num,rfl,rfl,by omega,f',0,_,neg',tr',HW.out.1.ZT _,HW.out.2.1,HW.out.2.2.setCell (by simp) _⟩
          case measure=>first|(simp [intOf];done)|(simp [intOf];omega)
        ·
         have hzb:(bn s i == 48 && (nd':Int) == 0)=false:=by
          by_cases h:bn s i=48
          ·
           have:¬ nd'=0:=fun h2=>hz0 ⟨h,h2⟩
           simp [h,this]
          ·
           simp [h]
         have h49:nd'=0→49≤bn s i:=fun h=>by
          have:¬ bn s i=48:=fun h2=>hz0 ⟨h2,h⟩
          omega
         have H49:=Lib.hid h49
         clear h49
         by_cases h48:bn s i=48
         ·
          have hnz:((nd':Int) == 0)=false:=beq_eq_false_iff_ne.mpr (by have:=H49.out;omega)
          by_cases h8:nd' < 800
          ·
           have cd:=hDr.d nd' h8
           have fd:=hDr.fz nd' (by omega)
           have hne8:¬ 800=nd':=by omega
           clear hDr hz hBr hz0 hzb
           as_aux_lemma =>
            go_wp2_with fail
            go_region
            all_goals
             go_wp2_with fail
             go_roundw
             case rel =>
              refine⟨i+1,sd,true,by go_num,rfl,rfl,by omega,_,nd'+1,_,neg',tr',(by first|exact((HW.out.1.YN nd' h8 _).wM _).drewN 1|exact((HW.out.1.YN nd' h8 _).drewN 1).wM _),?_,(by first|exact((HW.out.2.2.setCell (by simp) _).setCell (by simp) _).drew|exact((HW.out.2.2.setCell (by simp) _).drew).setCell (by simp) _)⟩
              refine⟨by omega,fun _=>?_,fun j hj=>?_⟩
              ·
               by_cases e:0=nd'
               ·
                simp only [if_pos e];have:=H49.out e.symm;omega
               ·
                simp only [if_neg e];exact HW.out.2.1.2.1 (by omega)
              ·
               by_cases e:j=nd'
               ·
                simp only [if_pos e];omega
               ·
                simp only [if_neg e];exact HW.out.2.1.2.2 j (by omega)
             case measure=>first|(simp [intOf];done)|(simp [intOf];omega)
          ·
           have c803:=hDr.tr
           have f803:=hDr.fz 803 (by omega)
           clear hDr hz hBr hz0 hzb
           as_aux_lemma =>
            go_wp2_with fail
            all_goals
             go_roundw
             case rel =>
              first
               | exact⟨i+1,sd,true,by go_num,rfl,rfl,by omega,f',nd',dp',neg',true,HW.out.1.ZD _,HW.out.2.1,HW.out.2.2.setCell (by simp) _⟩
               | exact⟨i+1,sd,true,by go_num,rfl,rfl,by omega,f',nd',dp',neg',tr',HW.out.1,HW.out.2.1,HW.out.2.2⟩
             case measure=>first|(simp [intOf];done)|(simp [intOf];omega)
         ·
          have h48b:(bn s i == 48)=false:=beq_eq_false_iff_ne.mpr h48
          have h48c:(bn s i != 48)=true:=bne_iff_ne.mpr h48
          by_cases h8:nd' < 800
          ·
           have cd:=hDr.d nd' h8
           have fd:=hDr.fz nd' (by omega)
           have hne8:¬ 800=nd':=by omega
           clear hDr hz hBr hz0 hzb
           as_aux_lemma =>
            go_wp2_with fail
            go_region
            all_goals
             go_wp2_with fail
             go_roundw
             case rel =>
              refine⟨i+1,sd,true,by go_num,rfl,rfl,by omega,_,nd'+1,_,neg',tr',(by first|exact((HW.out.1.YN nd' h8 _).wM _).drewN 1|exact((HW.out.1.YN nd' h8 _).drewN 1).wM _),?_,(by first|exact((HW.out.2.2.setCell (by simp) _).setCell (by simp) _).drew|exact((HW.out.2.2.setCell (by simp) _).drew).setCell (by simp) _)⟩
              refine⟨by omega,fun _=>?_,fun j hj=>?_⟩
              ·
               by_cases e:0=nd'
               ·
                simp only [if_pos e];have:=H49.out e.symm;omega
               ·
                simp only [if_neg e];exact HW.out.2.1.2.1 (by omega)
              ·
               by_cases e:j=nd'
               ·
                simp only [if_pos e];omega
               ·
                simp only [if_neg e];exact HW.out.2.1.2.2 j (by omega)
             case measure=>first|(simp [intOf];done)|(simp [intOf];omega)
          ·
           have c803:=hDr.tr
           have f803:=hDr.fz 803 (by omega)
           clear hDr hz hBr hz0 hzb
           as_aux_lemma =>
            go_wp2_with fail
            all_goals
             go_roundw
             case rel =>
              first
               | exact⟨i+1,sd,true,by go_num,rfl,rfl,by omega,f',nd',dp',neg',true,HW.out.1.ZD _,HW.out.2.1,HW.out.2.2.setCell (by simp) _⟩
               | exact⟨i+1,sd,true,by go_num,rfl,rfl,by omega,f',nd',dp',neg',tr',HW.out.1,HW.out.2.1,HW.out.2.2⟩
             case measure=>first|(simp [intOf];done)|(simp [intOf];omega)
       ·
        have hc4:bn s i=43∨bn s i=45∨bn s i=69∨bn s i=101:=by omega
        clear hc h46 hdg hDr hz hBr
        rcases hc4 with hc4|hc4|hc4|hc4
        all_goals
         as_aux_lemma =>
          go_wp2_with fail
          go_meet
          exact⟨i,sd,sg,rfl,rfl,rfl,hi2,f',nd',dp',neg',tr',HW.out.1,HW.out.2.1,HW.out.2.2⟩
     ·
      clear hDr hz hBr
      as_aux_lemma =>
       go_wp2_with fail
       go_meet
       exact⟨i,sd,sg,rfl,rfl,rfl,hi2,f',nd',dp',neg',tr',HW.out.1,HW.out.2.1,HW.out.2.2⟩
   case rest =>
    clear HW
    obtain⟨i,sd,sg,rfl,rfl,rfl,hi2,hW⟩:=hcut
    have HW:=Lib.hid hW
    clear hW
    cases sg
    ·
     as_aux_lemma =>
      go_wp2_with fail
      go_ret
      exact⟨_,rfl,HW.out⟩
    ·
     go_upto_if 120 with fail
     go_cut [] (fun wx=>DW g w wx)
     case first =>
      obtain⟨f',nd',dp',neg',tr',hDr,hz,hBr⟩:=HW.out
      have c800:=hDr.nd
      have c801:=hDr.dp
      have f801:=hDr.fz 801 (by omega)
      have HW:=Lib.hid (And.intro hDr (And.intro hz hBr))
      clear hDr hz hBr
      cases sd
      ·
       as_aux_lemma =>
        go_wp2_with fail
        go_meet
        exact⟨f',nd',_,neg',tr',HW.out.1.ZT _,HW.out.2.1,HW.out.2.2.setCell (by simp) _⟩
      ·
       as_aux_lemma =>
        go_wp2_with fail
        go_meet
        exact⟨f',nd',dp',neg',tr',HW.out.1,HW.out.2.1,HW.out.2.2⟩
     case rest =>
      clear HW
      obtain⟨f',nd',dp',neg',tr',hDr,hz,hBr⟩:=hcut
      have c801:=hDr.dp
      have f801:=hDr.fz 801 (by omega)
      have HW:=Lib.hid (And.intro hDr (And.intro hz hBr))
      clear hDr hz hBr
      go_upto_region 32 with fail
      by_cases hlt:i < s.size
      ·
       have hc:=HX.out.at_ i hlt
       have hE:low (bn s i)=101 ↔ (bn s i=69∨bn s i=101):=zJ6 _
       by_cases he:bn s i=69∨bn s i=101
       ·
        have hl:(low (bn s i) == 101)=true:=beq_iff_eq.mpr (hE.mpr he)
        clear hE he hc
        go_cut [138] (fun a wx=>a = .bool true∧wc=wx)
        case first =>
         as_aux_lemma =>
          go_wp2_with (go_at_call 126;(with_reducible refine(wF _ (HX.out.at_ _ (by omega)) _).mono ?_);rintro e w' ⟨rfl,rfl⟩)
          go_meet
          exact⟨rfl,rfl⟩
        case rest =>
         obtain⟨rfl,rfl⟩:=hcut
         by_cases hl1:i+1 < s.size
         ·
          go_upto_block 4 with fail
          go_cut [5,8] (fun a b wx=>∃ (i2:Nat) (es:Int),a = .int .i64 (i2:Int)∧b = .int .i64 es∧i+1≤i2∧i2≤i+2∧wc=wx)
          case first =>
           as_aux_lemma =>
            go_wp2_with fail
            all_goals go_meet
            ·
             exact⟨i+2,1,by go_num,rfl,by omega,by omega,rfl⟩
            ·
             exact⟨i+2,-1,by go_num,rfl,by omega,by omega,rfl⟩
            ·
             exact⟨i+1,1,by go_num,rfl,by omega,by omega,rfl⟩
          case rest =>
           obtain⟨j,es,rfl,rfl,hj0,hj1,rfl⟩:=hcut
           by_cases hjl:j < s.size
           ·
            by_cases hdg:48≤bn s j∧bn s j≤57
            ·
             obtain⟨hg0,hg1⟩:=hdg
             have z1:decide (s.size≤j)=false:=decide_eq_false (by omega)
             have z2:decide (bn s j < 48)=false:=decide_eq_false (by omega)
             have z3:decide (57 < bn s j)=false:=decide_eq_false (by omega)
             go_upto_block 5 with fail
             go_cut [5,9] (fun a5 a9 wx=>SE s a5 a9∧wc=wx)
             case first =>
              go_wp2_with fail
              go_loop [5,9] (fun a5 a9=>SE s a5 a9) (fun a5 _=>s.size - (intOf a5).toNat)
              case atStart=>exact⟨j,0,rfl,rfl,by omega,by omega,by omega⟩
              case round =>
               obtain⟨k,e,rfl,rfl,hk,hx0,hx1⟩:=hrel
               by_cases hkl:k < s.size
               ·
                have hc:=HX.out.at_ k hkl
                unfold qN at hc
                have hn95:(bn s k == 95)=false:=beq_eq_false_iff_ne.mpr (by omega)
                clear hc
                by_cases hk0:48≤bn s k
                ·
                 by_cases hk1:bn s k≤57
                 ·
                  by_cases hel:e < 10000
                  ·
                   as_aux_lemma =>
                    go_wp2_with fail
                    go_round
                    case rel=>exact⟨k+1,e * 10+bn s k - 48,by go_num,rfl,by omega,by omega,by omega⟩
                    case measure=>simp [intOf];omega
                  ·
                   as_aux_lemma =>
                    go_wp2_with fail
                    go_round
                    case rel=>exact⟨k+1,e,by go_num,rfl,by omega,by omega,by omega⟩
                    case measure=>simp [intOf];omega
                 ·
                  as_aux_lemma =>
                   go_wp2_with fail
                   go_meet
                   exact⟨⟨k,e,rfl,rfl,by omega,by omega,by omega⟩,rfl⟩
                ·
                 as_aux_lemma =>
                  go_wp2_with fail
                  go_meet
                  exact⟨⟨k,e,rfl,rfl,by omega,by omega,by omega⟩,rfl⟩
               ·
                as_aux_lemma =>
                 go_wp2_with fail
                 go_meet
                 exact⟨⟨k,e,rfl,rfl,by omega,by omega,by omega⟩,rfl⟩
             case rest =>
              obtain⟨⟨k,e,rfl,rfl,hk,hx0,hx1⟩,rfl⟩:=hcut
              as_aux_lemma =>
               go_wp2_with fail
               all_goals
                go_ret
                exact⟨_,rfl,f',nd',_,neg',tr',HW.out.1.ZT _,HW.out.2.1,HW.out.2.2.setCell (by simp) _⟩
            ·
             by_cases hlo:bn s j < 48
             ·
              as_aux_lemma =>
               go_wp2_with fail
               go_ret
               exact⟨_,rfl,f',nd',dp',neg',tr',HW.out.1,HW.out.2.1,HW.out.2.2⟩
             ·
              have hhi:57 < bn s j:=by omega
              clear hdg
              as_aux_lemma =>
               go_wp2_with fail
               go_ret
               exact⟨_,rfl,f',nd',dp',neg',tr',HW.out.1,HW.out.2.1,HW.out.2.2⟩
           ·
            as_aux_lemma =>
             go_wp2_with fail
             go_ret
             exact⟨_,rfl,f',nd',dp',neg',tr',HW.out.1,HW.out.2.1,HW.out.2.2⟩
         ·
          as_aux_lemma =>
           go_wp2_with fail
           go_ret
           exact⟨_,rfl,f',nd',dp',neg',tr',HW.out.1,HW.out.2.1,HW.out.2.2⟩
       ·
        have hl:(low (bn s i) == 101)=false:=beq_eq_false_iff_ne.mpr (fun h=>he (hE.mp h))
        clear hE he hc
        as_aux_lemma =>
         go_wp2_with (go_at_call 126;(with_reducible refine(wF _ (HX.out.at_ _ (by omega)) _).mono ?_);rintro e w' ⟨rfl,rfl⟩)
         all_goals
          go_ret
          exact⟨_,rfl,f',nd',dp',neg',tr',HW.out.1,HW.out.2.1,HW.out.2.2⟩
      ·
       as_aux_lemma =>
        go_wp2_with fail
        all_goals
         go_ret
         exact⟨_,rfl,f',nd',dp',neg',tr',HW.out.1,HW.out.2.1,HW.out.2.2⟩
 ·
  have he:s=ByteArray.empty:=ByteArray.ext (Array.eq_empty_of_size_eq_zero (by show s.size=0;omega))
  subst he
  have h0:Dz f 0:=⟨by omega,by omega,by omega⟩
  as_aux_lemma =>
   clear hb HX hpos hs
   go_enter Tryz.func156,Tryz.ntmps156
   go_wp2
   go_ret
   exact⟨_,rfl,f,0,dp,_,_,(HD.out.XX _).ZD _,h0,((Below.refl _ _).setCell (by simp) _).setCell (by simp) _⟩
end Go.Proofs.YtljhmnnhfnmhmaaGreatDoor.M
