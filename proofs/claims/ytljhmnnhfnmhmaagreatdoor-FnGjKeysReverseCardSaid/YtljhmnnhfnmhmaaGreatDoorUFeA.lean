/-
Lemmas of this claim; made short by a program of this work.
-/
import Derived.Test.YtljhmnnhfnmhmaaGreatDoorUFeO
import Derived.Test.YtljhmnnhfnmhmaaGreatDoorUM0
set_option linter.unusedVariables false
set_option linter.unusedSimpArgs false
set_option maxHeartbeats 8000000
set_option maxRecDepth 100000
namespace Go.Proofs.YtljhmnnhfnmhmaaGreatDoor.M
open Go Go.RowKit Go.Proofs.YtljhmnnhfnmhmaaGreatDoorW.PrintWords
attribute [local go_sem] xL
theorem zE2:∃ m i,Ieee.double.read 4607182418800017408 = .number false m i:=⟨_,_,rfl⟩
theorem zHp {x:Nat} (h:NN x):∃ r,floatBits .add .f64 x 4607182418800017408=some r∧NN r:=by
 obtain⟨n,j,hv⟩:=zE2
 rcases KF h with ⟨s,m,i,hx⟩|⟨s,hx⟩
 ·
  exact⟨_,by show (((Ieee.double.read x).sum (Ieee.double.read 4607182418800017408)).map Ieee.double.write)=_;rw [hx,hv];rfl,uV _ _ _⟩
 ·
  exact⟨_,by show (((Ieee.double.read x).sum (Ieee.double.read 4607182418800017408)).map Ieee.double.write)=_;rw [hx,hv];rfl,zCq s⟩
def FA (t st:ByteArray) (nm b2 b7 b8 n:Nat) (L:List (List Int)) (It:Nat→Nat→World→Prop) (a6 a12:Value) (wr:World):Prop :=
 ∃ (i k:Nat) (num:Nat) (ty8:Int) (raw8 str8:ByteArray) (num8:Nat) (ix8:Int),a6 = .int .i64 (i:Int)∧a12 = .int .i64 (k:Int)∧i≤t.size∧k≤t.size∧zA (NN num) ∧
  zA (AS t i (L.drop k)∧k≤L.length∧k≤i)∧zA (Rs b2 5 t st nm 0 wr)∧zA (Rs b7 2 ⟨#[]⟩ ⟨#[]⟩ num 0 wr)∧zA (Rs b8 ty8 raw8 str8 num8 ix8 wr)∧zA (It n k wr∧n≤wr.heap.size)
def zGe (v:List Int):Prop:=∃ r,v=91 :: r∨v=123 :: r
theorem XI (t st:ByteArray) (nm:Nat) (L:List (List Int)) (It:Nat→Nat→World→Prop) (f:Nat) (cap:Array Value) (m0:Nat) (w:World)
  (ht:t.size≤1048576) (hz:0 < t.size) (h0:bn t 0=91) (hO:AS t 1 L) (hm0:m0≤w.heap.size)
  (hE:∀ args w,(callFunc f args).run Tryz.prog w = .ok (.enter f args) w)
  (hI:Iter w.heap.size m0 It w)
  (hIc:∀ n k w1 v num ix2 ty str2 num2,L[k]?=some v→Vl v→(ty=5 ↔ zGe v)→It n k w1→n≤w1.heap.size→Calls Tryz.prog f (#[Rv 2 ⟨#[]⟩ ⟨#[]⟩ num 0,Rv ty (strOfNums v) str2 num2 ix2] ++ cap) w1
   (fun e w2=>e = .returned (.bool true)∧It n (k+1) w2∧Chg (fun b=>¬ (w.heap.size≤b∧b < n)) w1 w2)) :
  Calls Tryz.prog 38 #[Rv 5 t st nm 0, .func (.func f) #[] cap] w (fun e w'=>e = .returned (.tuple #[])∧∃ n,It n L.length w'):=by
 have hb:=vP t
 have HE:=Lib.hid hE
 have HI:=Lib.hid hI
 have HIc:=Lib.hid hIc
 have HO:=Lib.hid (And.intro hO hm0)
 have HX:=Lib.hid (fun W=>yU t st nm 0 W)
 clear hE hI hIc hO hm0
 unfold Rv
 go_enter Tryz.func38,Tryz.ntmps38
 go_wp2_with fail
 refine(HX.out _).mono ?_
 rintro e w1 ⟨rfl,hB1⟩
 have r2:Rs w.heap.size 5 t st nm 0 w1:=⟨xF (vQ w _) hB1⟩
 have kB1:Below w.heap.size w w1:=(zD (Below.refl _ _) _).trans (hB1.mono (zD (Below.refl w.heap.size w) _).size)
 have hlt1:w.heap.size < w1.heap.size:=by have:=hB1.size;simp at this;omega
 clear hB1
 obtain⟨c20,c21,c22,c23,c24,c25⟩:=r2.cells
 go_wp2_with fail
 obtain⟨W0,hW0⟩:∃ W0,(w1.alloc (Obj.cells #[Value.int IntKind.i64 0,Value.string ⟨#[]⟩,Value.string ⟨#[]⟩,Value.float FloatKind.f64 0,Value.int IntKind.i64 0,Value.slice none 0 0] 57)).alloc (Obj.cells #[Value.int IntKind.i64 0,Value.string ⟨#[]⟩,Value.string ⟨#[]⟩,Value.float FloatKind.f64 0,Value.int IntKind.i64 0,Value.slice none 0 0] 57)=W0:=⟨_,rfl⟩
 have hsz:W0.heap.size=w1.heap.size+2:=by rw [← hW0];simp
 have r7:Rs w1.heap.size 0 ⟨#[]⟩ ⟨#[]⟩ 0 0 W0:=⟨by rw [← hW0];exact xF (vQ w1 _) (zD (Below.refl _ _) _)⟩
 have r8:Rs (w1.heap.size+1) 0 ⟨#[]⟩ ⟨#[]⟩ 0 0 W0:=⟨by rw [← hW0];have:=vQ (w1.alloc (Obj.cells #[Value.int IntKind.i64 0,Value.string ⟨#[]⟩,Value.string ⟨#[]⟩,Value.float FloatKind.f64 0,Value.int IntKind.i64 0,Value.slice none 0 0] 57)) (Obj.cells #[Value.int IntKind.i64 0,Value.string ⟨#[]⟩,Value.string ⟨#[]⟩,Value.float FloatKind.f64 0,Value.int IntKind.i64 0,Value.slice none 0 0] 57);rw [show (w1.alloc (Obj.cells #[Value.int IntKind.i64 0,Value.string ⟨#[]⟩,Value.string ⟨#[]⟩,Value.float FloatKind.f64 0,Value.int IntKind.i64 0,Value.slice none 0 0] 57)).heap.size=w1.heap.size+1 by simp] at this;exact this⟩
 have kB:Below w1.heap.size w1 W0:=by rw [← hW0];exact zD (zD (Below.refl _ _) _) _
 have s2:=r2.below kB
 have kW:Below w.heap.size w W0:=kB1.trans (kB.mono (by omega))
 rw [hW0]
 clear hW0 r2 kB kB1 c20 c21 c22 c23 c24 c25
 obtain⟨n,hn⟩:∃ n,W0.heap.size=n:=⟨_,rfl⟩
 obtain⟨b8,h8⟩:∃ b,w1.heap.size+1=b:=⟨_,rfl⟩
 rw [h8] at r8 ⊢
 obtain⟨b7,h7⟩:∃ b,w1.heap.size=b:=⟨_,rfl⟩
 rw [h7] at r7 hsz hlt1 h8 ⊢
 obtain⟨b2,h2⟩:∃ b,w.heap.size=b:=⟨_,rfl⟩
 rw [h2] at s2 hlt1 ⊢
 have h28:¬ b2=b8:=by omega
 have h27:¬ b2=b7:=by omega
 have h78:¬ b7=b8:=by omega
 have h72:¬ b7=b2:=by omega
 have h87:¬ b8=b7:=by omega
 have h82:¬ b8=b2:=by omega
 have HN:=Lib.hid (show w.heap.size≤b2∧w.heap.size≤b7∧w.heap.size≤b8∧b2 < n∧b7 < n∧b8 < n∧W0.heap.size=n by omega)
 have HW:=Lib.hid kW
 have HR2:=Lib.hid s2
 have HR7:=Lib.hid r7
 have HR8:=Lib.hid r8
 clear kW h2 h7 h8 hn hsz hlt1
 obtain⟨c20,c21,c22,c23,c24,c25⟩:=s2.cells
 obtain⟨c70,c71,c72,c73,c74,c75⟩:=r7.cells
 obtain⟨f70,f71,f72,f73,f74,f75⟩:=r7.qP
 clear s2 r7 r8
 go_loopw [5,6] (fun a5 a6 wr=>a5 = .bool false∧a6 = .int .i64 0∧wr=W0) (fun _ _ _=>0)
 case atStart=>exact⟨rfl,rfl,rfl⟩
 case round =>
  obtain⟨rfl,rfl,rfl⟩:=hrel
  go_wp2_with fail
  have k7:=(HR7.out.j8 2).qO 13830554455654793216
  have k2:=(HR2.out.far (o:=0) (v:=Value.int IntKind.i64 2) h27).far (o:=3) (v:=Value.float FloatKind.f64 13830554455654793216) h27
  have k8:=(HR8.out.far (o:=0) (v:=Value.int IntKind.i64 2) h87).far (o:=3) (v:=Value.float FloatKind.f64 13830554455654793216) h87
  have kI:It n 0 ((wr.setCell ⟨b7,0,none⟩ (Value.int IntKind.i64 2)).setCell ⟨b7,3,none⟩ (Value.float FloatKind.f64 13830554455654793216)):=HI.out.XM n 0 w _ (HI.out.start n (by have:=HN.out;have:=HW.out.size;omega)) (Chg.setCell (Chg.setCell (Chg.vL HW.out) ⟨b7,0,none⟩ ⟨HN.out.2.1,HN.out.2.2.2.2.1⟩ _) ⟨b7,3,none⟩ ⟨HN.out.2.1,HN.out.2.2.2.2.1⟩ _)
  have kn:n≤((wr.setCell ⟨b7,0,none⟩ (Value.int IntKind.i64 2)).setCell ⟨b7,3,none⟩ (Value.float FloatKind.f64 13830554455654793216)).heap.size:=by have:=HN.out;simp [World.setCell];omega
  clear c20 c21 c22 c23 c24 c25 c70 c71 c72 c73 c74 c75 f70 f71 f72 f73 f74 f75
  generalize hgw:((wr.setCell ⟨b7,0,none⟩ (Value.int IntKind.i64 2)).setCell ⟨b7,3,none⟩ (Value.float FloatKind.f64 13830554455654793216))=W1 at k7 k2 k8 kI kn ⊢
  clear hgw HR2 HR7 HR8
  go_loopw [6,12] (fun a6 a12 wr=>FA t st nm b2 b7 b8 n L It a6 a12 wr) (fun a6 _ _=>t.size+1 - (intOf a6).toNat)
  case atStart=>exact⟨1,0,_,_,_,_,_,_,rfl,rfl,by omega,by omega,⟨by unfold NN;decide⟩,⟨⟨HO.out.1,by omega,by omega⟩⟩,⟨k2⟩,⟨k7⟩,⟨k8⟩,⟨⟨kI,kn⟩⟩⟩
  case round =>
   clear k2 k7 k8 kI kn
   obtain⟨i,k,num,ty8,raw8,str8,num8,ix8,rfl,rfl,hi,hk,⟨hnn⟩,⟨hos,hkl,hki⟩,⟨q2⟩,⟨q7⟩,⟨q8⟩,⟨qI,qn⟩⟩:=hrel
   have HQ2:=Lib.hid q2
   have HQ7:=Lib.hid q7
   have HQ8:=Lib.hid q8
   have HQI:=Lib.hid (And.intro qI qn)
   obtain⟨c20,c21,c22,c23,c24,c25⟩:=q2.cells
   obtain⟨c70,c71,c72,c73,c74,c75⟩:=q7.cells
   obtain⟨f70,f71,f72,f73,f74,f75⟩:=q7.qP
   obtain⟨c80,c81,c82,c83,c84,c85⟩:=q8.cells
   obtain⟨f80,f81,f82,f83,f84,f85⟩:=q8.qP
   clear q2 q7 q8 qI qn
   by_cases hlt:i < t.size
   ·
    obtain⟨p2,hip,hp2,hsep,hns,hcs⟩:=hos.take hlt
    have HS:=Lib.hid hsep
    have HNS:=Lib.hid hns
    have HC:=Lib.hid hcs
    obtain⟨num2,hadd,hnn2⟩:=zHp hnn
    have hadd2:=run_float_arith (P:=Tryz.prog) wr .add 54 .f64 num 4607182418800017408 num2 hadd
    have HNN:=Lib.hid hnn2
    clear hos hsep hns hcs hadd hnn hnn2
    go_wp2_with fail
    have k7:=HQ7.out.qO num2
    have k2:=HQ2.out.far (o:=3) (v:=Value.float FloatKind.f64 num2) h27
    have k8:=HQ8.out.far (o:=3) (v:=Value.float FloatKind.f64 num2) h87
    have kI:It n k (wr.setCell ⟨b7,3,none⟩ (Value.float FloatKind.f64 num2)):=HI.out.XM n k wr _ HQI.out.1 ((Chg.refl _ _).setCell ⟨b7,3,none⟩ ⟨HN.out.2.1,HN.out.2.2.2.2.1⟩ _)
    have kn:n≤(wr.setCell ⟨b7,3,none⟩ (Value.float FloatKind.f64 num2)).heap.size:=by have:=HQI.out.2;simpa [World.setCell] using this
    clear hadd2 c20 c21 c22 c23 c24 c25 c70 c71 c72 c73 c74 c75 f70 f71 f72 f73 f74 f75 c80 c81 c82 c83 c84 c85 f80 f81 f82 f83 f84 f85
    generalize hgw:(wr.setCell ⟨b7,3,none⟩ (Value.float FloatKind.f64 num2))=W3 at k7 k2 k8 kI kn ⊢
    clear hgw HQ2 HQ7 HQ8 HQI
    have HK2:=Lib.hid k2
    have HK7:=Lib.hid k7
    have HK8:=Lib.hid k8
    have HKI:=Lib.hid (And.intro kI kn)
    clear k2 k7 k8 kI kn
    go_loop [6] (fun a6=>∃ m:Nat,a6 = .int .i64 (m:Int)∧i≤m∧m≤p2) (fun a6=>p2+1 - (intOf a6).toNat)
    case atStart=>exact⟨i,rfl,Nat.le_refl _,hip⟩
    case round =>
     obtain⟨m,rfl,hm1,hm2⟩:=hrel
     have hml:m < t.size:=by omega
     by_cases hm:m < p2
     ·
      have hs:=HS.out m hm1 hm
      unfold Sep at hs
      by_cases h32:bn t m≤32
      ·
       clear hs
       go_wp2_with fail
       go_round
       case rel=>exact⟨m+1,by go_num,by omega,by omega⟩
       case measure=>first|(simp [intOf];done)|(simp [intOf];omega)
      ·
       have hs:bn t m=44∨bn t m=58:=by omega
       rcases hs with hs|hs
       ·
        go_wp2_with fail
        go_round
        case rel=>exact⟨m+1,by go_num,by omega,by omega⟩
        case measure=>first|(simp [intOf];done)|(simp [intOf];omega)
       ·
        go_wp2_with fail
        go_round
        case rel=>exact⟨m+1,by go_num,by omega,by omega⟩
        case measure=>first|(simp [intOf];done)|(simp [intOf];omega)
     ·
      obtain rfl:m=p2:=by omega
      have hn:=HNS.out
      unfold Sep at hn
      have h32:¬ bn t m≤32:=by omega
      have h44:(bn t m == 44)=false:=beq_eq_false_iff_ne.mpr (by omega)
      have h58:(bn t m == 58)=false:=beq_eq_false_iff_ne.mpr (by omega)
      clear hn
      rcases HC.out with ⟨hL0,h93,hend⟩|⟨v,L',p3,hLd,hp23,sv,⟨nd,hnd⟩,hp3,hfo,hos1⟩
      ·
       have hkL:k=L.length:=by
        have:=List.length_drop (i:=k) (l:=L)
        rw [hL0] at this
        simp at this
        omega
       have HKL:=Lib.hid hkL
       have HPN:=Lib.hid (fun W=>JY t m W ht h93 hend)
       clear hL0 hend hkL h93
       go_wp2_with fail
       refine(HPN.out W3).mono ?_
       rintro e w4 ⟨ty,raw4,str4,num4,idx4,rfl,hB4⟩
       have m8:=HK8.out.below hB4
       have mI:It n k w4:=HI.out.XM n k W3 _ HKI.out.1 (Chg.vL hB4)
       clear hB4
       have HMI:=Lib.hid mI
       obtain⟨c80,c81,c82,c83,c84,c85⟩:=m8.cells
       obtain⟨f80,f81,f82,f83,f84,f85⟩:=m8.qP
       clear m8 mI
       go_wp2_with fail
       refine bodyPost_ret (v := .tuple #[]) (by simp [results,Tryz.results38,go_sem]) rfl ?_
       exact⟨rfl,n,by rw [← HKL.out];exact HI.out.XM n k w4 _ HMI.out (((((((Chg.refl _ w4).setCell ⟨b8,0,none⟩ ⟨HN.out.2.2.1,HN.out.2.2.2.2.2.1⟩ _).setCell ⟨b8,1,none⟩ ⟨HN.out.2.2.1,HN.out.2.2.2.2.2.1⟩ _).setCell ⟨b8,2,none⟩ ⟨HN.out.2.2.1,HN.out.2.2.2.2.2.1⟩ _).setCell ⟨b8,3,none⟩ ⟨HN.out.2.2.1,HN.out.2.2.2.2.2.1⟩ _).setCell ⟨b8,4,none⟩ ⟨HN.out.2.2.1,HN.out.2.2.2.2.2.1⟩ _).setCell ⟨b8,5,none⟩ ⟨HN.out.2.2.1,HN.out.2.2.2.2.2.1⟩ _)⟩
      ·
       obtain⟨hLk,hLd1,hkl1⟩:=drop_take hLd
       have hvs:=wL sv
       have hbx:(bn t m=91∨bn t m=123) ↔ zGe v:=by
        obtain⟨c,e,rfl,_⟩:=hnd.head
        have hc:=sv.bn.2.1
        rw [hc]
        constructor
        ·
         rintro(h|h)
         ·
          exact⟨e, .inl (by rw [h])⟩
         ·
          exact⟨e, .inr (by rw [h])⟩
        ·
         rintro⟨r,h|h⟩
         ·
          injection h with h _;exact .inl h
         ·
          injection h with h _;exact .inr h
       have HL:=Lib.hid (And.intro hLk (And.intro hLd1 (And.intro hkl1 (And.intro hvs (And.intro (show Vl v from ⟨nd,hnd⟩) hbx)))))
       have HV:=Lib.hid (fun w6 (hm:m0≤w6.heap.size) (hT:Tb m0 w6)=>vD t ht hnd sv hp3 hfo m0 w6 hm hT)
       have HOS:=Lib.hid hos1
       clear hLd hLk hLd1 hkl1 hvs hbx hnd sv hfo hos1
       go_wp2_with fail
       refine(HV.out W3 (by have:=HO.out.2;have:=HN.out;have:=HKI.out.2;have:=HW.out.size;omega) (HI.out.tab n k W3 HKI.out.1)).mono ?_
       rintro e w4 ⟨ty,str4,num4,idx4,rfl,hty0,hty5,htyb,hB4⟩
       have m2:=HK2.out.below hB4
       have m7:=HK7.out.below hB4
       have m8:=HK8.out.below hB4
       have mI:It n k w4:=HI.out.XM n k W3 _ HKI.out.1 (Chg.vL hB4)
       have mn:n≤w4.heap.size:=by have:=HKI.out.2;have:=hB4.size;omega
       clear hB4 hty0 hty5
       have HM2:=Lib.hid m2
       have HM7:=Lib.hid m7
       have HM8:=Lib.hid m8
       have HMI:=Lib.hid (And.intro mI mn)
       obtain⟨c20,c21,c22,c23,c24,c25⟩:=m2.cells
       obtain⟨c70,c71,c72,c73,c74,c75⟩:=m7.cells
       obtain⟨f70,f71,f72,f73,f74,f75⟩:=m7.qP
       obtain⟨c80,c81,c82,c83,c84,c85⟩:=m8.cells
       obtain⟨f80,f81,f82,f83,f84,f85⟩:=m8.qP
       clear m2 m7 m8 mI mn
       go_upto_if 131 with fail
       have k2:=(((((HM2.out.far (o:=0) (v:=Value.int IntKind.i64 ty) h28).far (o:=1) (v:=Value.string (t.extract m p3)) h28).far (o:=2) (v:=Value.string str4) h28).far (o:=3) (v:=Value.float FloatKind.f64 num4) h28).far (o:=4) (v:=Value.int IntKind.i64 idx4) h28).far (o:=5) (v:=Value.slice none 0 0) h28
       have k7:=(((((HM7.out.far (o:=0) (v:=Value.int IntKind.i64 ty) h78).far (o:=1) (v:=Value.string (t.extract m p3)) h78).far (o:=2) (v:=Value.string str4) h78).far (o:=3) (v:=Value.float FloatKind.f64 num4) h78).far (o:=4) (v:=Value.int IntKind.i64 idx4) h78).far (o:=5) (v:=Value.slice none 0 0) h78
       have k8:=(((((HM8.out.j8 ty).jF (t.extract m p3)).qD str4).qO num4).j5 idx4).yH
       have kC:Chg (fun b=>w.heap.size≤b∧b < n) w4 ((((((w4.setCell { block:=b8,off:=0 } (Value.int IntKind.i64 ty)).setCell { block:=b8,off:=1 } (Value.string (t.extract m p3))).setCell { block:=b8,off:=2 } (Value.string str4)).setCell { block:=b8,off:=3 } (Value.float FloatKind.f64 num4)).setCell { block:=b8,off:=4 } (Value.int IntKind.i64 idx4)).setCell { block:=b8,off:=5 } (Value.slice none 0 0)):=((((((Chg.refl _ w4).setCell ⟨b8,0,none⟩ ⟨HN.out.2.2.1,HN.out.2.2.2.2.2.1⟩ _).setCell ⟨b8,1,none⟩ ⟨HN.out.2.2.1,HN.out.2.2.2.2.2.1⟩ _).setCell ⟨b8,2,none⟩ ⟨HN.out.2.2.1,HN.out.2.2.2.2.2.1⟩ _).setCell ⟨b8,3,none⟩ ⟨HN.out.2.2.1,HN.out.2.2.2.2.2.1⟩ _).setCell ⟨b8,4,none⟩ ⟨HN.out.2.2.1,HN.out.2.2.2.2.2.1⟩ _).setCell ⟨b8,5,none⟩ ⟨HN.out.2.2.1,HN.out.2.2.2.2.2.1⟩ _
       clear c20 c21 c22 c23 c24 c25 c70 c71 c72 c73 c74 c75 f70 f71 f72 f73 f74 f75 c80 c81 c82 c83 c84 c85 f80 f81 f82 f83 f84 f85
       generalize hgw:((((((w4.setCell { block:=b8,off:=0 } (Value.int IntKind.i64 ty)).setCell { block:=b8,off:=1 } (Value.string (t.extract m p3))).setCell { block:=b8,off:=2 } (Value.string str4)).setCell { block:=b8,off:=3 } (Value.float FloatKind.f64 num4)).setCell { block:=b8,off:=4 } (Value.int IntKind.i64 idx4)).setCell { block:=b8,off:=5 } (Value.slice none 0 0))=W5 at k2 k7 k8 kC ⊢
       have kI:It n k W5:=HI.out.XM n k w4 _ HMI.out.1 kC
       have kn:n≤W5.heap.size:=Nat.le_trans HMI.out.2 kC.size
       have HK2:=Lib.hid k2
       have HK7:=Lib.hid k7
       have HK8:=Lib.hid k8
       have HKI:=Lib.hid (And.intro kI kn)
       obtain⟨c20,c21,c22,c23,c24,c25⟩:=k2.cells
       obtain⟨c70,c71,c72,c73,c74,c75⟩:=k7.cells
       obtain⟨c80,c81,c82,c83,c84,c85⟩:=k8.cells
       obtain⟨f80,f81,f82,f83,f84,f85⟩:=k8.qP
       clear k2 k7 k8 kC kI kn hgw HM2 HM7 HM8 HMI
       go_upto_if 134 with fail
       go_upto_if 155 with fail
       have k2:=HK2.out.far (o:=4) (v:=Value.int IntKind.i64 (m:Int)) h28
       have k7:=HK7.out.far (o:=4) (v:=Value.int IntKind.i64 (m:Int)) h78
       have k8:=HK8.out.j5 (m:Int)
       have kI:It n k (W5.setCell ⟨b8,4,none⟩ (Value.int IntKind.i64 (m:Int))):=HI.out.XM n k W5 _ HKI.out.1 ((Chg.refl _ _).setCell ⟨b8,4,none⟩ ⟨HN.out.2.2.1,HN.out.2.2.2.2.2.1⟩ _)
       have kn:n≤(W5.setCell ⟨b8,4,none⟩ (Value.int IntKind.i64 (m:Int))).heap.size:=by have:=HKI.out.2;simpa [World.setCell] using this
       clear c20 c21 c22 c23 c24 c25 c70 c71 c72 c73 c74 c75 c80 c81 c82 c83 c84 c85 f80 f81 f82 f83 f84 f85
       generalize hgw:(W5.setCell ⟨b8,4,none⟩ (Value.int IntKind.i64 (m:Int)))=W6 at k2 k7 k8 kI kn ⊢
       have hc:=HIc.out n k W6 v num2 (m:Int) ty str4 num4 HL.out.1 HL.out.2.2.2.2.1 (htyb.trans HL.out.2.2.2.2.2) kI kn
       rw [show strOfNums v=t.extract m p3 from HL.out.2.2.2.1.symm] at hc
       unfold Rv at hc
       rw [HE.out,Oper.upon_enter]
       refine hc.mono ?_
       rintro e w7 ⟨rfl,hI7,hC7⟩
       have m2:Rs b2 5 t st nm 0 w7:=⟨hC7.heap k2.blk (fun h=>h ⟨HN.out.1,HN.out.2.2.2.1⟩)⟩
       have m7:=(⟨hC7.heap k7.blk (fun h=>h ⟨HN.out.2.1,HN.out.2.2.2.2.1⟩)⟩:Rs b7 _ _ _ _ _ w7)
       have m8:=(⟨hC7.heap k8.blk (fun h=>h ⟨HN.out.2.2.1,HN.out.2.2.2.2.2.1⟩)⟩:Rs b8 _ _ _ _ _ w7)
       have HM:=Lib.hid (And.intro m2 (And.intro m7 (And.intro m8 (And.intro hI7 (Nat.le_trans kn hC7.size)))))
       have hkt:k < t.size:=by omega
       clear htyb m2 m7 m8 hI7 hC7 hc k2 k7 k8 kI kn hgw HK2 HK7 HK8 HKI
       go_wp2_with fail
       go_roundw
       case rel=>exact⟨p3+1,k+1,_,_,_,_,_,_,by go_num,by go_num,by omega,by omega,⟨HNN.out⟩,⟨⟨by rw [HL.out.2.1];exact HOS.out,HL.out.2.2.1,by omega⟩⟩,⟨HM.out.1⟩,⟨HM.out.2.1⟩,⟨HM.out.2.2.1⟩,⟨HM.out.2.2.2⟩⟩
       case measure=>first|(simp [intOf];done)|(simp [intOf];omega)
   ·
    have hL:=hos.end_ (by omega)
    have hkL:k=L.length:=by
     have:=List.length_drop (i:=k) (l:=L)
     rw [hL] at this
     simp at this
     omega
    have HK:=Lib.hid hkL
    clear hos hL hkL
    go_wp2_with fail
    go_end0
    exact⟨rfl,n,by rw [← HK.out];exact HQI.out.1⟩
end Go.Proofs.YtljhmnnhfnmhmaaGreatDoor.M
