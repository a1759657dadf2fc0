/-
Lemmas of this claim; made short by a program of this work.
-/
import Derived.Test.YtljhmnnhfnmhmaaGreatDoorUFl7
import Derived.Test.YtljhmnnhfnmhmaaGreatDoorUM0
set_option linter.unusedVariables false
set_option linter.unusedSimpArgs false
set_option maxHeartbeats 1000000
set_option maxRecDepth 100000
namespace Go.Proofs.YtljhmnnhfnmhmaaGreatDoor.M
open Go Go.RowKit Go.Proofs.YtljhmnnhfnmhmaaGreatDoorW.PrintWords
theorem yT (g:Nat) (f:Nat→Int) (nd:Nat) (dp:Int) (neg tr:Bool) (K:Nat) (b o c:Nat) (w:World) (hD:Dc g f nd dp neg tr w) (hf:Dg f nd) (hK1:1≤K) (hK2:K≤60) (hd0:-1000000000≤dp) (hd1:dp≤1000000000)
  (hC:KU b o c w) (hbg:b < g) (h10:10 < g) :
  Calls Tryz.prog 118 #[.pointer (some ⟨g,0,none⟩), .int .i64 (K:Int)] w (SL g f dp neg w):=by
 have c800:=hD.nd
 have hnz:((nd:Int) == 0)=false:=beq_eq_false_iff_ne.mpr (by have:=hf.1;omega)
 have HX:=Lib.hid (JS g f nd dp neg tr K b o c w hD hf hK1 hK2 hd0 hd1 hC hbg h10)
 clear hD hf hC
 go_enter Tryz.func118,Tryz.ntmps118
 go_wp2_with fail
 refine wp_loop_rounds 1 ?_
 rw [rounds_succ]
 go_wp2_with (go_at_call 143;refine HX.out.mono ?_;rintro e w' ⟨rfl,hh⟩;have HH:=Lib.hid hh;clear hh)
 go_end0
 exact⟨rfl,HH.out⟩
def SRn (g:Nat) (f:Nat→Int) (dp:Int) (neg:Bool) (K:Nat) (w:World) (e:Ending) (w':World):Prop :=
 e = .returned (.tuple #[])∧∃ (f':Nat→Int) (nd':Nat) (dp':Int) (tr':Bool),Dc g f' nd' dp' neg tr' w'∧Dg f' nd'∧Below g w w'∧dp - 820 * (((K - 1) / 60+1:Nat):Int)≤dp'∧(dp' < dp∨(dp'=dp∧f' 0 < f 0))
def RSL (g:Nat) (f:Nat→Int) (dp:Int) (neg:Bool) (K:Nat) (w:World) (a1:Value) (wr:World):Prop :=
 ∃ (j m:Nat) (z:Int) (f':Nat→Int) (nd':Nat) (dp':Int) (tr':Bool),a1 = .int .i64 z∧z = -(j:Int)∧1≤j∧j+60 * m=K∧Dc g f' nd' dp' neg tr' wr∧Dg f' nd'∧Below g w wr∧dp - 820 * m≤dp'∧dp'≤dp∧(dp'=dp→f' 0≤f 0)
theorem kA (g:Nat) (f:Nat→Int) (nd:Nat) (dp z:Int) (neg tr:Bool) (K:Nat) (w:World) (hD:Dc g f nd dp neg tr w) (hf:Dg f nd) (hz:z = -(K:Int)) (hK1:1≤K) (hK2:K≤1000000) (hd0:-10000000≤dp) (hd1:dp≤10000000) :
  Calls Tryz.prog 118 #[.pointer (some ⟨g,0,none⟩), .int .i64 z] w (SRn g f dp neg K w):=by
 have c800:=hD.nd
 have hnz:((nd:Int) == 0)=false:=beq_eq_false_iff_ne.mpr (by have:=hf.1;omega)
 have HD:=Lib.hid (And.intro hD hf)
 have hz1:z < 0:=by omega
 have hz2:¬ 0 < z:=by omega
 have HZ:=Lib.hid hz
 clear hD hf hz
 go_enter Tryz.func118,Tryz.ntmps118
 go_wp2_with fail
 go_loopw [1] (fun a1 wr=>RSL g f dp neg K w a1 wr) (fun a1 _=>(-(intOf a1)).toNat)
 case atStart=>exact⟨K,0,z,f,nd,dp,tr,rfl,HZ.out,hK1,by omega,HD.out.1,HD.out.2,Below.refl _ _,by omega,by omega,fun _=>Int.le_refl _⟩
 case round =>
  obtain⟨j,m,y,f',nd',dp',tr',rfl,hy,hj1,hj2,hDr,hfr,hBr,hl,hu,he⟩:=hrel
  have hm0:m≤1000000:=by omega
  have hjK:j≤1000000:=by omega
  have HJ:=Lib.hid hj2
  clear hj2
  by_cases h60:60 < j
  ·
   have hy1:y < -60:=by omega
   have hy2:-1000000≤y:=by omega
   have HX:=Lib.hid (wW g f' nd' dp' neg tr' 60 wr hDr hfr (by omega) (by omega) (by omega) (by omega))
   have HR:=Lib.hid (And.intro hBr (And.intro hl (And.intro hu (And.intro he hy))))
   clear hDr hfr hBr hl hu he hy
   as_aux_lemma =>
    go_wp2_with (go_at_call 144;refine HX.out.mono ?_;rintro e w' ⟨rfl,hh⟩;have HH:=Lib.hid hh;clear hh)
    go_roundw
    case rel =>
     obtain⟨f2,nd2,dp2,tr2,hD2,hf2,hB2,hl2,hu2⟩:=HH.out
     obtain⟨hBr,hl,hu,he,hy⟩:=HR.out
     have hj2:=HJ.out
     exact⟨j - 60,m+1,y+60,f2,nd2,dp2,tr2,rfl,by omega,by omega,by omega,hD2,hf2,hBr.trans hB2,by omega,by omega,fun h=>by omega⟩
    case measure=>first|(simp [intOf];done)|(simp [intOf];omega)
  ·
   have hy1:¬ y < -60:=by omega
   have hy2:-1000000≤y:=by omega
   have hy3:y < 0:=by omega
   have hy4:-y=(j:Int):=by omega
   have HX:=Lib.hid (wW g f' nd' dp' neg tr' j wr hDr hfr (by omega) (by omega) (by omega) (by omega))
   have HR:=Lib.hid (And.intro hBr (And.intro hl (And.intro hu he)))
   clear hDr hfr hBr hl hu he hy
   as_aux_lemma =>
    go_wp2_with (go_at_call 144;refine HX.out.mono ?_;rintro e w' ⟨rfl,hh⟩;have HH:=Lib.hid hh;clear hh)
    go_end0
    obtain⟨f2,nd2,dp2,tr2,hD2,hf2,hB2,hl2,hu2⟩:=HH.out
    obtain⟨hBr,hl,hu,he⟩:=HR.out
    have hj2:=HJ.out
    exact⟨rfl,f2,nd2,dp2,tr2,hD2,hf2,hBr.trans hB2,by omega,by omega⟩
def BoolP (w:World) (e:Ending) (w':World):Prop:=∃ b:Bool,e = .returned (.bool b)∧w'=w
theorem KM (g:Nat) (f:Nat→Int) (nd:Nat) (dp n:Int) (neg tr:Bool) (w:World) (hD:Dc g f nd dp neg tr w) (hf:Dg f nd) (hn0:-1000000000≤n) (hn1:n≤20) :
  Calls Tryz.prog 145 #[.pointer (some ⟨g,0,none⟩), .int .i64 n] w (BoolP w):=by
 have c800:=hD.nd
 have c803:=hD.tr
 obtain⟨h1,h2,h3,h4⟩:=hf
 by_cases hneg:n < 0
 ·
  clear hD h4
  go_enter Tryz.func145,Tryz.ntmps145
  go_wp2
  go_ret
  exact⟨_,rfl,rfl⟩
 ·
  obtain⟨m,rfl⟩:=Int.eq_ofNat_of_zero_le (show 0≤n by omega)
  by_cases hge:nd≤m
  ·
   clear hD h4
   go_enter Tryz.func145,Tryz.ntmps145
   go_wp2
   go_ret
   exact⟨_,rfl,rfl⟩
  ·
   have cm:=hD.d m (by omega)
   rcases m with _|m
   ·
    clear hD h4
    go_enter Tryz.func145,Tryz.ntmps145
    go_wp2
    all_goals
     go_ret
     exact⟨_,rfl,rfl⟩
   ·
    have cm2:=hD.d m (by omega)
    clear hD h4
    go_enter Tryz.func145,Tryz.ntmps145
    go_wp2
    all_goals
     go_ret
     exact⟨_,rfl,rfl⟩
def RIL (nd:Nat) (dp:Int) (a3 a4:Value):Prop:=∃ (i:Nat) (m:Int),a3 = .int .i64 (i:Int)∧a4 = .int .u64 m∧i≤20∧i≤nd
def RIL2 (a3 a4:Value):Prop:=∃ (i:Nat) (m:Int),a3 = .int .i64 (i:Int)∧a4 = .int .u64 m∧i≤20
theorem VL (g:Nat) (f:Nat→Int) (nd:Nat) (dp:Int) (neg tr:Bool) (w:World) (hD:Dc g f nd dp neg tr w) (hf:Dg f nd) (hn0:-1000000000≤dp) :
  Calls Tryz.prog 172 #[.pointer (some ⟨g,0,none⟩)] w (U64 w):=by
 have c801:=hD.dp
 have c800:=hD.nd
 by_cases h20:20 < dp
 ·
  clear hD hf
  go_enter Tryz.func172,Tryz.ntmps172
  go_wp2
  go_ret
  exact⟨_,rfl,rfl⟩
 ·
  have HD:=Lib.hid hD
  have HX:=Lib.hid (KM g f nd dp dp neg tr w hD hf hn0 (by omega))
  obtain⟨h1,h2,h3,h4⟩:=hf
  clear hD h4
  go_enter Tryz.func172,Tryz.ntmps172
  go_upto_block 0 with fail
  go_cut [3,4] (fun a3 a4 wx=>RIL2 a3 a4∧w=wx)
  case first =>
   go_wp2_with fail
   go_loop [3,4] (fun a3 a4=>RIL nd dp a3 a4) (fun a3 _=>nd - (intOf a3).toNat)
   case atStart=>exact⟨0,0,rfl,rfl,by omega,by omega⟩
   case round =>
    obtain⟨i,m,rfl,rfl,hi,hi2⟩:=hrel
    by_cases hd:(i:Int) < dp
    ·
     by_cases hn:i < nd
     ·
      have ci:=HD.out.d i (by omega)
      as_aux_lemma =>
       go_wp2_with fail
       go_round
       case rel=>exact⟨i+1,_,by go_num,rfl,by omega,by omega⟩
       case measure=>first|(simp [intOf];done)|(simp [intOf];omega)
     ·
      as_aux_lemma =>
       go_wp2_with fail
       go_meet
       exact⟨⟨i,m,rfl,rfl,hi⟩,rfl⟩
    ·
     as_aux_lemma =>
      go_wp2_with fail
      go_meet
      exact⟨⟨i,m,rfl,rfl,hi⟩,rfl⟩
  case rest =>
   obtain⟨⟨i,m,rfl,rfl,hi⟩,rfl⟩:=hcut
   go_upto_block 2 with fail
   go_cut [3,4] (fun a3 a4 wx=>RIL2 a3 a4∧w=wx)
   case first =>
    go_wp2_with fail
    go_loop [3,4] (fun a3 a4=>RIL2 a3 a4) (fun a3 _=>20 - (intOf a3).toNat)
    case atStart=>exact⟨i,m,rfl,rfl,hi⟩
    case round =>
     obtain⟨i,m,rfl,rfl,hi⟩:=hrel
     by_cases hd:(i:Int) < dp
     ·
      as_aux_lemma =>
       go_wp2_with fail
       go_round
       case rel=>exact⟨i+1,_,by go_num,rfl,by omega⟩
       case measure=>first|(simp [intOf];done)|(simp [intOf];omega)
     ·
      as_aux_lemma =>
       go_wp2_with fail
       go_meet
       exact⟨⟨i,m,rfl,rfl,hi⟩,rfl⟩
   case rest =>
    obtain⟨⟨i,m,rfl,rfl,hi⟩,rfl⟩:=hcut
    go_wp2_with (go_at_call 145;refine HX.out.mono ?_;rintro e w' ⟨bb,rfl,rfl⟩)
    all_goals
     go_ret
     exact⟨_,rfl,rfl⟩
end Go.Proofs.YtljhmnnhfnmhmaaGreatDoor.M
