/-
Lemmas of this claim; made short by a program of this work.
-/
import Derived.Test.YtljhmnnhfnmhmaaGreatDoorUM37
import Derived.Test.YtljhmnnhfnmhmaaGreatDoorUM38
import Derived.Sort.AtCall
import Derived.Shelf.Abstract
import Derived.Test.YtljhmnnhfnmhmaaGreatDoorUM0
set_option linter.unusedVariables false
set_option linter.unusedSimpArgs false
set_option maxHeartbeats 8000000
set_option maxRecDepth 100000
namespace Go.Proofs.YtljhmnnhfnmhmaaGreatDoor.M
open Go Go.RowKit Go.Proofs.YtljhmnnhfnmhmaaGreatDoorW.PrintWords
attribute [local go_sem] xL
structure Iter (B m0:Nat) (It:Nat→Nat→World→Prop) (w:World):Prop where
 start:∀ n,B≤n→It n 0 w
 XM:∀ n k w1 w2,It n k w1→Chg (fun b=>B≤b∧b < n) w1 w2→It n k w2
 tab:∀ n k w1,It n k w1→Tb m0 w1
def FO (t st:ByteArray) (nm b2 b7 b8 n:Nat) (L:List (List Int × List Int)) (It:Nat→Nat→World→Prop) (a6 a12:Value) (wr:World):Prop :=
 ∃ (i k:Nat) (raw str:ByteArray) (ix ty8:Int) (raw8 str8:ByteArray) (num8:Nat) (ix8:Int),a6 = .int .i64 (i:Int)∧a12 = .int .i64 (k:Int)∧i≤t.size∧k≤t.size ∧
  zA (OS t i (L.drop k)∧k≤L.length∧k≤i)∧zA (Rs b2 5 t st nm 0 wr)∧zA (Rs b7 3 raw str 0 ix wr)∧zA (Rs b8 ty8 raw8 str8 num8 ix8 wr)∧zA (It n k wr∧n≤wr.heap.size)
def FX (t st:ByteArray) (nm b2 b7 b8 n k:Nat) (r raw:ByteArray) (ix ty8:Int) (raw8 str8:ByteArray) (num8:Nat) (ix8:Int) (It:Nat→Nat→World→Prop) (a9:Value) (wr:World):Prop :=
 ∃ str:ByteArray,a9 = .string r∧zA (Rs b2 5 t st nm 0 wr)∧zA (Rs b7 3 raw str 0 ix wr)∧zA (Rs b8 ty8 raw8 str8 num8 ix8 wr)∧zA (It n k wr∧n≤wr.heap.size)
theorem drop_take {α:Type} {L L':List α} {k:Nat} {x:α} (h:L.drop k=x :: L'):L[k]?=some x∧L.drop (k+1)=L'∧k < L.length:=by
 have hk:k < L.length:=by
  rcases Nat.lt_or_ge k L.length with h1|h1
  ·
   exact h1
  ·
   rw [List.drop_eq_nil_of_le h1] at h;cases h
 rw [List.drop_eq_getElem_cons hk] at h
 injection h with h1 h2
 exact⟨by rw [List.getElem?_eq_getElem hk,h1],h2,hk⟩
theorem wZ (t st:ByteArray) (nm:Nat) (L:List (List Int × List Int)) (It:Nat→Nat→World→Prop) (f:Nat) (cap:Array Value) (m0:Nat) (w:World)
  (ht:t.size≤1048576) (hz:0 < t.size) (h0:bn t 0=123) (hO:OS t 1 L) (hm0:m0≤w.heap.size)
  (hE:∀ args w,(callFunc f args).run Tryz.prog w = .ok (.enter f args) w)
  (hI:Iter w.heap.size m0 It w)
  (hIc:∀ n k w1 kv str num ix ix2 ty str2 num2,L[k]?=some kv→It n k w1→n≤w1.heap.size→Calls Tryz.prog f (#[Rv 3 (strOfNums kv.1) str num ix,Rv ty (strOfNums kv.2) str2 num2 ix2] ++ cap) w1
   (fun e w2=>e = .returned (.bool true)∧It n (k+1) w2∧Chg (fun b=>¬ (w.heap.size≤b∧b < n)) w1 w2)) :
  Calls Tryz.prog 38 #[Rv 5 t st nm 0, .func (.func f) #[] cap] w (fun e w'=>e = .returned (.tuple #[])∧∃ n,It n L.length w'):=by
 have hb:=vP t
 have HE:=Lib.hid hE
 have HI:=Lib.hid hI
 have HIc:=Lib.hid hIc
 have HO:=Lib.hid (And.intro hO hm0)
 have HX:=Lib.hid (fun W=>yU t st nm 0 W)
 clear hE hI hIc hO hm0
 unfold Rv
 go_enter Tryz.func38,Tryz.ntmps38
 go_wp2_with fail
 refine(HX.out _).mono ?_
 rintro e w1 ⟨rfl,hB1⟩
 have r2:Rs w.heap.size 5 t st nm 0 w1:=⟨xF (vQ w _) hB1⟩
 have kB1:Below w.heap.size w w1:=(zD (Below.refl _ _) _).trans (hB1.mono (zD (Below.refl w.heap.size w) _).size)
 have hlt1:w.heap.size < w1.heap.size:=by have:=hB1.size;simp at this;omega
 clear hB1
 obtain⟨c20,c21,c22,c23,c24,c25⟩:=r2.cells
 go_wp2_with fail
 obtain⟨W0,hW0⟩:∃ W0,(w1.alloc (Obj.cells #[Value.int IntKind.i64 0,Value.string ⟨#[]⟩,Value.string ⟨#[]⟩,Value.float FloatKind.f64 0,Value.int IntKind.i64 0,Value.slice none 0 0] 57)).alloc (Obj.cells #[Value.int IntKind.i64 0,Value.string ⟨#[]⟩,Value.string ⟨#[]⟩,Value.float FloatKind.f64 0,Value.int IntKind.i64 0,Value.slice none 0 0] 57)=W0:=⟨_,rfl⟩
 have hsz:W0.heap.size=w1.heap.size+2:=by rw [← hW0];simp
 have r7:Rs w1.heap.size 0 ⟨#[]⟩ ⟨#[]⟩ 0 0 W0:=⟨by rw [← hW0];exact xF (vQ w1 _) (zD (Below.refl _ _) _)⟩
 have r8:Rs (w1.heap.size+1) 0 ⟨#[]⟩ ⟨#[]⟩ 0 0 W0:=⟨by rw [← hW0];have:=vQ (w1.alloc (Obj.cells #[Value.int IntKind.i64 0,Value.string ⟨#[]⟩,Value.string ⟨#[]⟩,Value.float FloatKind.f64 0,Value.int IntKind.i64 0,Value.slice none 0 0] 57)) (Obj.cells #[Value.int IntKind.i64 0,Value.string ⟨#[]⟩,Value.string ⟨#[]⟩,Value.float FloatKind.f64 0,Value.int IntKind.i64 0,Value.slice none 0 0] 57);rw [show (w1.alloc (Obj.cells #[Value.int IntKind.i64 0,Value.string ⟨#[]⟩,Value.string ⟨#[]⟩,Value.float FloatKind.f64 0,Value.int IntKind.i64 0,Value.slice none 0 0] 57)).heap.size=w1.heap.size+1 by simp] at this;exact this⟩
 have kB:Below w1.heap.size w1 W0:=by rw [← hW0];exact zD (zD (Below.refl _ _) _) _
 have s2:=r2.below kB
 have kW:Below w.heap.size w W0:=kB1.trans (kB.mono (by omega))
 rw [hW0]
 clear hW0 r2 kB kB1 c20 c21 c22 c23 c24 c25
 obtain⟨n,hn⟩:∃ n,W0.heap.size=n:=⟨_,rfl⟩
 obtain⟨b8,h8⟩:∃ b,w1.heap.size+1=b:=⟨_,rfl⟩
 rw [h8] at r8 ⊢
 obtain⟨b7,h7⟩:∃ b,w1.heap.size=b:=⟨_,rfl⟩
 rw [h7] at r7 hsz hlt1 h8 ⊢
 obtain⟨b2,h2⟩:∃ b,w.heap.size=b:=⟨_,rfl⟩
 rw [h2] at s2 hlt1 ⊢
 have h28:¬ b2=b8:=by omega
 have h27:¬ b2=b7:=by omega
 have h78:¬ b7=b8:=by omega
 have h72:¬ b7=b2:=by omega
 have h87:¬ b8=b7:=by omega
 have h82:¬ b8=b2:=by omega
 have HN:=Lib.hid (show w.heap.size≤b2∧w.heap.size≤b7∧w.heap.size≤b8∧b2 < n∧b7 < n∧b8 < n∧W0.heap.size=n by omega)
 have HW:=Lib.hid kW
 have HR2:=Lib.hid s2
 have HR7:=Lib.hid r7
 have HR8:=Lib.hid r8
 clear kW h2 h7 h8 hn hsz hlt1
 obtain⟨c20,c21,c22,c23,c24,c25⟩:=s2.cells
 obtain⟨c70,c71,c72,c73,c74,c75⟩:=r7.cells
 obtain⟨f70,f71,f72,f73,f74,f75⟩:=r7.qP
 clear s2 r7 r8
 go_loopw [5,6] (fun a5 a6 wr=>a5 = .bool false∧a6 = .int .i64 0∧wr=W0) (fun _ _ _=>0)
 case atStart=>exact⟨rfl,rfl,rfl⟩
 case round =>
  obtain⟨rfl,rfl,rfl⟩:=hrel
  go_wp2_with fail
  have k7:=HR7.out.j8 3
  have k2:=HR2.out.far (o:=0) (v:=Value.int IntKind.i64 3) h27
  have k8:=HR8.out.far (o:=0) (v:=Value.int IntKind.i64 3) h87
  have kI:It n 0 (wr.setCell ⟨b7,0,none⟩ (Value.int IntKind.i64 3)):=HI.out.XM n 0 w _ (HI.out.start n (by have:=HN.out;have:=HW.out.size;omega)) (Chg.setCell (Chg.vL HW.out) ⟨b7,0,none⟩ ⟨HN.out.2.1,HN.out.2.2.2.2.1⟩ _)
  have kn:n≤(wr.setCell ⟨b7,0,none⟩ (Value.int IntKind.i64 3)).heap.size:=by have:=HN.out;simp [World.setCell];omega
  clear c20 c21 c22 c23 c24 c25 c70 c71 c72 c73 c74 c75 f70 f71 f72 f73 f74 f75
  generalize hgw:wr.setCell ⟨b7,0,none⟩ (Value.int IntKind.i64 3)=W1 at k7 k2 k8 kI kn ⊢
  clear hgw HR2 HR7 HR8
  go_loopw [6,12] (fun a6 a12 wr=>FO t st nm b2 b7 b8 n L It a6 a12 wr) (fun a6 _ _=>t.size+1 - (intOf a6).toNat)
  case atStart=>exact⟨1,0,_,_,_,_,_,_,_,_,rfl,rfl,by omega,by omega,⟨⟨HO.out.1,by omega,by omega⟩⟩,⟨k2⟩,⟨k7⟩,⟨k8⟩,⟨⟨kI,kn⟩⟩⟩
  case round =>
   clear k2 k7 k8 kI kn
   obtain⟨i,k,raw,str,ix,ty8,raw8,str8,num8,ix8,rfl,rfl,hi,hk,⟨hos,hkl,hki⟩,⟨q2⟩,⟨q7⟩,⟨q8⟩,⟨qI,qn⟩⟩:=hrel
   have HQ2:=Lib.hid q2
   have HQ7:=Lib.hid q7
   have HQ8:=Lib.hid q8
   have HQI:=Lib.hid (And.intro qI qn)
   obtain⟨c20,c21,c22,c23,c24,c25⟩:=q2.cells
   obtain⟨c70,c71,c72,c73,c74,c75⟩:=q7.cells
   obtain⟨f70,f71,f72,f73,f74,f75⟩:=q7.qP
   obtain⟨c80,c81,c82,c83,c84,c85⟩:=q8.cells
   obtain⟨f80,f81,f82,f83,f84,f85⟩:=q8.qP
   clear q2 q7 q8 qI qn
   by_cases hlt:i < t.size
   ·
    by_cases h34:bn t i=34
    ·
     obtain⟨key,v,L',q,p2,p3,hLd,sk,hqk,hq2,hsep,hp23,hns,sv,⟨nd,hnd⟩,hp3,hfo,hos1⟩:=hos.take hlt h34
     obtain⟨hLk,hLd1,hkl1⟩:=drop_take hLd
     obtain⟨qq,rfl,hiq,hin⟩:=zC7 sk hqk
     have hql:=hin.lt
     have hesc:=zC6 sk hqk
     have hrs:=wL sk
     have hvs:=wL sv
     have hgv:=sv.ge
     have hrz:(t.extract i (qq+1)).size=qq+1 - i:=by rw [ByteArray.size_extract];omega
     have hP:=fun w=>wI t i qq w ht hin
     unfold PS at hP
     have hxi:=V0 t i qq (by omega) hql
     have hU:=fun w=>ZU (t.extract (i+1) qq) w (by rw [ByteArray.size_extract];omega) hesc
     rw [← hxi] at hU
     clear hesc hxi hin hqk hLd
     obtain⟨r,hr⟩:∃ r,t.extract i (qq+1)=r:=⟨_,rfl⟩
     rw [hr] at hrz hP hU hrs
     have hqc:(qq:Int)+1=((qq+1:Nat):Int):=by omega
     rw [hqc] at hP
     obtain⟨q,hq⟩:∃ q,qq+1=q:=⟨_,rfl⟩
     rw [hq] at hP hrz hq2 hsep
     have hqi:i+2≤q:=by omega
     have hql2:q≤t.size:=by omega
     clear hr hqc hq hiq hql sk qq
     have hrsz:2≤r.size:=by omega
     have hrl:r.size≤1048577:=by omega
     have hsl:∀ w:World,(Instr.sliceAt 9 (.string r) (some (.int .i64 1)) (some (.int .i64 ((r.size:Int) - 1))) none).run Tryz.prog w = .ok (.string (r.extract 1 (r.size - 1))) w:=fun w=>y5 r 1 (r.size - 1) 1 ((r.size:Int) - 1) rfl (by omega) (by omega) (by omega) w
     obtain⟨s,hs⟩:∃ s,r.extract 1 (r.size - 1)=s:=⟨_,rfl⟩
     rw [hs] at hU hsl
     have HP:=Lib.hid hP
     have HU:=Lib.hid hU
     have HS:=Lib.hid hsep
     have HNS:=Lib.hid hns
     have HV:=Lib.hid (fun w6 (hm:m0≤w6.heap.size) (hT:Tb m0 w6)=>vD t ht hnd sv hp3 hfo m0 w6 hm hT)
     have HL:=Lib.hid (And.intro hLk (And.intro hLd1 (And.intro hkl1 (And.intro hrs hvs))))
     have HOS:=Lib.hid hos1
     have h34b:(bn t i != 34)=false:=by rw [h34];rfl
     clear hP hU hsep hns hnd sv hfo hLk hLd1 hkl1 hrs hvs hos1 hrz hs h34
     go_wp2_with fail
     refine(HP.out _).mono ?_
     rintro e w3 ⟨vv,nn,rfl,rfl⟩
     go_upto_if 75 with fail
     go_cut [9] (fun a9 wx=>FX t st nm b2 b7 b8 n k r raw ix ty8 raw8 str8 num8 ix8 It a9 wx)
     case first =>
      cases vv
      ·
       go_wp2_with fail
       have kI:It n k ((wr.drewN nn).setCell ⟨b7,2,none⟩ (Value.string s)):=HI.out.XM n k wr _ HQI.out.1 (Chg.setCell (Chg.vL (below_drewN (Below.refl _ _) nn)) ⟨b7,2,none⟩ ⟨HN.out.2.1,HN.out.2.2.2.2.1⟩ _)
       have kn:n≤((wr.drewN nn).setCell ⟨b7,2,none⟩ (Value.string s)).heap.size:=by have:=HQI.out.2;simpa [World.setCell] using this
       go_meet
       exact⟨s,rfl,⟨(HQ2.out.drewN nn).far h27⟩,⟨(HQ7.out.drewN nn).qD s⟩,⟨(HQ8.out.drewN nn).far h87⟩,⟨⟨kI,kn⟩⟩⟩
      ·
       go_wp2_with fail
       refine(HU.out _).mono ?_
       rintro e w5 ⟨u,rfl,hBu⟩
       have k2:=(HQ2.out.drewN nn).below hBu
       have k7:=(HQ7.out.drewN nn).below hBu
       have k8:=(HQ8.out.drewN nn).below hBu
       have kC:Chg (fun b=>w.heap.size≤b∧b < n) wr w5:=(Chg.vL (below_drewN (Below.refl _ _) nn)).trans (Chg.vL hBu)
       clear hBu c20 c21 c22 c23 c24 c25 c70 c71 c72 c73 c74 c75 f70 f71 f72 f73 f74 f75 c80 c81 c82 c83 c84 c85 f80 f81 f82 f83 f84 f85
       have HK:=Lib.hid (And.intro k2 (And.intro k7 (And.intro k8 kC)))
       obtain⟨c70,c71,c72,c73,c74,c75⟩:=k7.cells
       obtain⟨f70,f71,f72,f73,f74,f75⟩:=k7.qP
       clear k2 k7 k8 kC
       go_wp2_with fail
       have kI:It n k (w5.setCell ⟨b7,2,none⟩ (Value.string u)):=HI.out.XM n k wr _ HQI.out.1 (HK.out.2.2.2.setCell ⟨b7,2,none⟩ ⟨HN.out.2.1,HN.out.2.2.2.2.1⟩ _)
       have kn:n≤(w5.setCell ⟨b7,2,none⟩ (Value.string u)).heap.size:=by have:=HQI.out.2;have:=HK.out.2.2.2.size;simp [World.setCell];omega
       go_meet
       exact⟨u,rfl,⟨HK.out.1.far h27⟩,⟨HK.out.2.1.qD u⟩,⟨HK.out.2.2.1.far h87⟩,⟨⟨kI,kn⟩⟩⟩
     case rest =>
      obtain⟨strx,rfl,⟨k2⟩,⟨k7⟩,⟨k8⟩,⟨kI,kn⟩⟩:=hcut
      clear c20 c21 c22 c23 c24 c25 c70 c71 c72 c73 c74 c75 f70 f71 f72 f73 f74 f75 c80 c81 c82 c83 c84 c85 f80 f81 f82 f83 f84 f85
      have HK2:=Lib.hid k2
      have HK7:=Lib.hid k7
      have HK8:=Lib.hid k8
      have HKI:=Lib.hid (And.intro kI kn)
      clear HQ2 HQ7 HQ8 HQI HP HU hsl
      obtain⟨c20,c21,c22,c23,c24,c25⟩:=k2.cells
      obtain⟨c70,c71,c72,c73,c74,c75⟩:=k7.cells
      obtain⟨f70,f71,f72,f73,f74,f75⟩:=k7.qP
      obtain⟨c80,c81,c82,c83,c84,c85⟩:=k8.cells
      obtain⟨f80,f81,f82,f83,f84,f85⟩:=k8.qP
      clear k2 k7 k8 kI kn
      go_wp2_with fail
      have k7:=(HK7.out.jF r).j5 (i:Int)
      have k2:=(HK2.out.far (o:=1) (v:=Value.string r) h27).far (o:=4) (v:=Value.int IntKind.i64 (i:Int)) h27
      have k8:=(HK8.out.far (o:=1) (v:=Value.string r) h87).far (o:=4) (v:=Value.int IntKind.i64 (i:Int)) h87
      have kI:It n k ((wc.setCell ⟨b7,1,none⟩ (Value.string r)).setCell ⟨b7,4,none⟩ (Value.int IntKind.i64 (i:Int))):=HI.out.XM n k wc _ HKI.out.1 (((Chg.refl _ _).setCell ⟨b7,1,none⟩ ⟨HN.out.2.1,HN.out.2.2.2.2.1⟩ _).setCell ⟨b7,4,none⟩ ⟨HN.out.2.1,HN.out.2.2.2.2.1⟩ _)
      have kn:n≤((wc.setCell ⟨b7,1,none⟩ (Value.string r)).setCell ⟨b7,4,none⟩ (Value.int IntKind.i64 (i:Int))).heap.size:=by have:=HKI.out.2;simpa [World.setCell] using this
      clear c20 c21 c22 c23 c24 c25 c70 c71 c72 c73 c74 c75 f70 f71 f72 f73 f74 f75 c80 c81 c82 c83 c84 c85 f80 f81 f82 f83 f84 f85
      generalize hgw:((wc.setCell ⟨b7,1,none⟩ (Value.string r)).setCell ⟨b7,4,none⟩ (Value.int IntKind.i64 (i:Int)))=W3 at k7 k2 k8 kI kn ⊢
      clear hgw HK2 HK7 HK8 HKI
      have HK2:=Lib.hid k2
      have HK7:=Lib.hid k7
      have HK8:=Lib.hid k8
      have HKI:=Lib.hid (And.intro kI kn)
      clear k2 k7 k8 kI kn
      go_loop [6] (fun a6=>∃ m:Nat,a6 = .int .i64 (m:Int)∧q≤m∧m≤p2) (fun a6=>p2+1 - (intOf a6).toNat)
      case atStart=>exact⟨q,rfl,Nat.le_refl _,hq2⟩
      case round =>
       obtain⟨m,rfl,hm1,hm2⟩:=hrel
       have hml:m < t.size:=by omega
       by_cases hm:m < p2
       ·
        have hs:=HS.out m hm1 hm
        unfold Sep at hs
        by_cases h32:bn t m≤32
        ·
         clear hs
         go_wp2_with fail
         go_round
         case rel=>exact⟨m+1,by go_num,by omega,by omega⟩
         case measure=>first|(simp [intOf];done)|(simp [intOf];omega)
        ·
         have hs:bn t m=44∨bn t m=58:=by omega
         rcases hs with hs|hs
         ·
          go_wp2_with fail
          go_round
          case rel=>exact⟨m+1,by go_num,by omega,by omega⟩
          case measure=>first|(simp [intOf];done)|(simp [intOf];omega)
         ·
          go_wp2_with fail
          go_round
          case rel=>exact⟨m+1,by go_num,by omega,by omega⟩
          case measure=>first|(simp [intOf];done)|(simp [intOf];omega)
       ·
        obtain rfl:m=p2:=by omega
        have hn:=HNS.out
        unfold Sep at hn
        have h32:¬ bn t m≤32:=by omega
        have h44:(bn t m == 44)=false:=beq_eq_false_iff_ne.mpr (by omega)
        have h58:(bn t m == 58)=false:=beq_eq_false_iff_ne.mpr (by omega)
        clear hn
        go_wp2_with fail
        refine(HV.out W3 (by have:=HO.out.2;have:=HN.out;have:=HKI.out.2;have:=HW.out.size;omega) (HI.out.tab n k W3 HKI.out.1)).mono ?_
        rintro e w4 ⟨ty,str4,num4,idx4,rfl,hty0,hty5,htyb,hB4⟩
        have m2:=HK2.out.below hB4
        have m7:=HK7.out.below hB4
        have m8:=HK8.out.below hB4
        have mI:It n k w4:=HI.out.XM n k W3 _ HKI.out.1 (Chg.vL hB4)
        have mn:n≤w4.heap.size:=by have:=HKI.out.2;have:=hB4.size;omega
        clear hB4 htyb hty0 hty5
        have HM2:=Lib.hid m2
        have HM7:=Lib.hid m7
        have HM8:=Lib.hid m8
        have HMI:=Lib.hid (And.intro mI mn)
        obtain⟨c20,c21,c22,c23,c24,c25⟩:=m2.cells
        obtain⟨c70,c71,c72,c73,c74,c75⟩:=m7.cells
        obtain⟨f70,f71,f72,f73,f74,f75⟩:=m7.qP
        obtain⟨c80,c81,c82,c83,c84,c85⟩:=m8.cells
        obtain⟨f80,f81,f82,f83,f84,f85⟩:=m8.qP
        clear m2 m7 m8 mI mn
        go_upto_if 131 with fail
        have k2:=(((((HM2.out.far (o:=0) (v:=Value.int IntKind.i64 ty) h28).far (o:=1) (v:=Value.string (t.extract m p3)) h28).far (o:=2) (v:=Value.string str4) h28).far (o:=3) (v:=Value.float FloatKind.f64 num4) h28).far (o:=4) (v:=Value.int IntKind.i64 idx4) h28).far (o:=5) (v:=Value.slice none 0 0) h28
        have k7:=(((((HM7.out.far (o:=0) (v:=Value.int IntKind.i64 ty) h78).far (o:=1) (v:=Value.string (t.extract m p3)) h78).far (o:=2) (v:=Value.string str4) h78).far (o:=3) (v:=Value.float FloatKind.f64 num4) h78).far (o:=4) (v:=Value.int IntKind.i64 idx4) h78).far (o:=5) (v:=Value.slice none 0 0) h78
        have k8:=(((((HM8.out.j8 ty).jF (t.extract m p3)).qD str4).qO num4).j5 idx4).yH
        have kC:Chg (fun b=>w.heap.size≤b∧b < n) w4 ((((((w4.setCell { block:=b8,off:=0 } (Value.int IntKind.i64 ty)).setCell { block:=b8,off:=1 } (Value.string (t.extract m p3))).setCell { block:=b8,off:=2 } (Value.string str4)).setCell { block:=b8,off:=3 } (Value.float FloatKind.f64 num4)).setCell { block:=b8,off:=4 } (Value.int IntKind.i64 idx4)).setCell { block:=b8,off:=5 } (Value.slice none 0 0)):=((((((Chg.refl _ w4).setCell ⟨b8,0,none⟩ ⟨HN.out.2.2.1,HN.out.2.2.2.2.2.1⟩ _).setCell ⟨b8,1,none⟩ ⟨HN.out.2.2.1,HN.out.2.2.2.2.2.1⟩ _).setCell ⟨b8,2,none⟩ ⟨HN.out.2.2.1,HN.out.2.2.2.2.2.1⟩ _).setCell ⟨b8,3,none⟩ ⟨HN.out.2.2.1,HN.out.2.2.2.2.2.1⟩ _).setCell ⟨b8,4,none⟩ ⟨HN.out.2.2.1,HN.out.2.2.2.2.2.1⟩ _).setCell ⟨b8,5,none⟩ ⟨HN.out.2.2.1,HN.out.2.2.2.2.2.1⟩ _
        clear c20 c21 c22 c23 c24 c25 c70 c71 c72 c73 c74 c75 f70 f71 f72 f73 f74 f75 c80 c81 c82 c83 c84 c85 f80 f81 f82 f83 f84 f85
        generalize hgw:((((((w4.setCell { block:=b8,off:=0 } (Value.int IntKind.i64 ty)).setCell { block:=b8,off:=1 } (Value.string (t.extract m p3))).setCell { block:=b8,off:=2 } (Value.string str4)).setCell { block:=b8,off:=3 } (Value.float FloatKind.f64 num4)).setCell { block:=b8,off:=4 } (Value.int IntKind.i64 idx4)).setCell { block:=b8,off:=5 } (Value.slice none 0 0))=W5 at k2 k7 k8 kC ⊢
        have kI:It n k W5:=HI.out.XM n k w4 _ HMI.out.1 kC
        have kn:n≤W5.heap.size:=Nat.le_trans HMI.out.2 kC.size
        have HK2:=Lib.hid k2
        have HK7:=Lib.hid k7
        have HK8:=Lib.hid k8
        have HKI:=Lib.hid (And.intro kI kn)
        obtain⟨c20,c21,c22,c23,c24,c25⟩:=k2.cells
        obtain⟨c70,c71,c72,c73,c74,c75⟩:=k7.cells
        obtain⟨c80,c81,c82,c83,c84,c85⟩:=k8.cells
        obtain⟨f80,f81,f82,f83,f84,f85⟩:=k8.qP
        clear k2 k7 k8 kC kI kn hgw HM2 HM7 HM8 HMI
        go_upto_if 134 with fail
        go_upto_if 155 with fail
        have k2:=HK2.out.far (o:=4) (v:=Value.int IntKind.i64 (m:Int)) h28
        have k7:=HK7.out.far (o:=4) (v:=Value.int IntKind.i64 (m:Int)) h78
        have k8:=HK8.out.j5 (m:Int)
        have kI:It n k (W5.setCell ⟨b8,4,none⟩ (Value.int IntKind.i64 (m:Int))):=HI.out.XM n k W5 _ HKI.out.1 ((Chg.refl _ _).setCell ⟨b8,4,none⟩ ⟨HN.out.2.2.1,HN.out.2.2.2.2.2.1⟩ _)
        have kn:n≤(W5.setCell ⟨b8,4,none⟩ (Value.int IntKind.i64 (m:Int))).heap.size:=by have:=HKI.out.2;simpa [World.setCell] using this
        clear c20 c21 c22 c23 c24 c25 c70 c71 c72 c73 c74 c75 c80 c81 c82 c83 c84 c85 f80 f81 f82 f83 f84 f85
        generalize hgw:(W5.setCell ⟨b8,4,none⟩ (Value.int IntKind.i64 (m:Int)))=W6 at k2 k7 k8 kI kn ⊢
        have hc:=HIc.out n k W6 (key,v) strx 0 (i:Int) (m:Int) ty str4 num4 HL.out.1 kI kn
        rw [show strOfNums (key,v).1=r from HL.out.2.2.2.1.symm,show strOfNums (key,v).2=t.extract m p3 from HL.out.2.2.2.2.symm] at hc
        unfold Rv at hc
        rw [HE.out,Oper.upon_enter]
        refine hc.mono ?_
        rintro e w7 ⟨rfl,hI7,hC7⟩
        have m2:Rs b2 5 t st nm 0 w7:=⟨hC7.heap k2.blk (fun h=>h ⟨HN.out.1,HN.out.2.2.2.1⟩)⟩
        have m7:=(⟨hC7.heap k7.blk (fun h=>h ⟨HN.out.2.1,HN.out.2.2.2.2.1⟩)⟩:Rs b7 _ _ _ _ _ w7)
        have m8:=(⟨hC7.heap k8.blk (fun h=>h ⟨HN.out.2.2.1,HN.out.2.2.2.2.2.1⟩)⟩:Rs b8 _ _ _ _ _ w7)
        have HM:=Lib.hid (And.intro m2 (And.intro m7 (And.intro m8 (And.intro hI7 (Nat.le_trans kn hC7.size)))))
        have hkt:k < t.size:=by omega
        clear m2 m7 m8 hI7 hC7 hc k2 k7 k8 kI kn hgw HK2 HK7 HK8 HKI
        go_wp2_with fail
        go_roundw
        case rel=>exact⟨p3+1,k+1,_,_,_,_,_,_,_,_,by go_num,by go_num,by omega,by omega,⟨⟨by rw [HL.out.2.1];exact HOS.out,HL.out.2.2.1,by omega⟩⟩,⟨HM.out.1⟩,⟨HM.out.2.1⟩,⟨HM.out.2.2.1⟩,⟨HM.out.2.2.2⟩⟩
        case measure=>first|(simp [intOf];done)|(simp [intOf];omega)
    ·
     have hos1:=Lib.hid (hos.skip hlt h34)
     have h34b:(bn t i != 34)=true:=bne_iff_ne.mpr h34
     clear hos
     go_wp2_with fail
     go_roundw
     case rel=>exact⟨i+1,k,_,_,_,_,_,_,_,_,by go_num,rfl,by omega,hk,⟨⟨hos1.out,hkl,by omega⟩⟩,⟨HQ2.out⟩,⟨HQ7.out⟩,⟨HQ8.out⟩,⟨HQI.out⟩⟩
     case measure=>first|(simp [intOf];done)|(simp [intOf];omega)
   ·
    have hL:=hos.end_ (by omega)
    have hkL:k=L.length:=by
     have:=List.length_drop (i:=k) (l:=L)
     rw [hL] at this
     simp at this
     omega
    have HK:=Lib.hid hkL
    clear hos hL hkL
    go_wp2_with fail
    go_end0
    exact⟨rfl,n,by rw [← HK.out];exact HQI.out.1⟩
end Go.Proofs.YtljhmnnhfnmhmaaGreatDoor.M
