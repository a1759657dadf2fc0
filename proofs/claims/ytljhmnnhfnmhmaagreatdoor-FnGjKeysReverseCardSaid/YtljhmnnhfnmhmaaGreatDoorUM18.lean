/-
Lemmas of this claim; made short by a program of this work.
-/
import Derived.Test.YtljhmnnhfnmhmaaGreatDoorUGj3
import Derived.Test.YtljhmnnhfnmhmaaGreatDoorUUn
import Derived.Test.YtljhmnnhfnmhmaaGreatDoorUM0
import Derived.Test.YtljhmnnhfnmhmaaGreatDoorUFl11
set_option linter.unusedVariables false
set_option linter.unusedSimpArgs false
set_option maxHeartbeats 4000000
set_option maxRecDepth 100000
namespace Go.Proofs.YtljhmnnhfnmhmaaGreatDoor.M
open Go Go.RowKit Go.Proofs.YtljhmnnhfnmhmaaGreatDoorW.PrintWords
attribute [local go_sem] xL
theorem V0 (t:ByteArray) (i q:Nat) (h:i+1≤q) (hq:q < t.size):(t.extract i (q+1)).extract 1 ((t.extract i (q+1)).size - 1)=t.extract (i+1) q:=by
 have hz:(t.extract i (q+1)).size=q+1 - i:=by rw [ByteArray.size_extract];omega
 rw [hz]
 apply ByteArray.ext
 simp only [ByteArray.data_extract,Array.extract_extract]
 congr 1
 omega
theorem YE (t:ByteArray) (i q:Nat) (w:World) (ht:t.size≤1048576) (h:WY t (i+1) q) (hE:Esc (t.extract (i+1) q) 0) :
  Calls Tryz.prog 69 #[.string t, .int .i64 (i:Int), .bool true] w (zDo t i (q+1) w):=by
 have h0:bn t i=34:=by simpa using h.opn
 have hqi:=h.le
 have hql:=h.lt
 have hxi:=V0 t i q hqi hql
 have hrz:(t.extract i (q+1)).size=q+1 - i:=by rw [ByteArray.size_extract];omega
 have hL:=fun w=>wI t i q w ht h
 unfold PS at hL
 have hU:=fun w=>ZU (t.extract (i+1) q) w (by rw [ByteArray.size_extract];omega) hE
 rw [← hxi] at hU
 clear h hE hxi
 unfold zDo
 obtain⟨r,hr⟩:∃ r,t.extract i (q+1)=r:=⟨_,rfl⟩
 rw [hr] at hrz hL hU ⊢
 clear hr
 obtain⟨j,hj⟩:∃ j,q+1=j:=⟨_,rfl⟩
 have hjc:(q:Int)+1=(j:Int):=by omega
 rw [hjc] at hL
 rw [hj] at hrz ⊢
 have hb:=vP t
 have hjl:j≤t.size:=by omega
 have hij:i+2≤j:=by omega
 clear hj hjc hqi hql
 have hrs:2≤r.size:=by omega
 have hrl:r.size≤1048577:=by omega
 have hsl:∀ w:World,(Instr.sliceAt 9 (.string r) (some (.int .i64 1)) (some (.int .i64 ((r.size:Int) - 1))) none).run Tryz.prog w = .ok (.string (r.extract 1 (r.size - 1))) w:=fun w=>y5 r 1 (r.size - 1) 1 ((r.size:Int) - 1) rfl (by omega) (by omega) (by omega) w
 obtain⟨s,hs⟩:∃ s,r.extract 1 (r.size - 1)=s:=⟨_,rfl⟩
 rw [hs] at hU hsl
 have HL:=Lib.hid hL
 have HU:=Lib.hid hU
 have hil:i < t.size:=by omega
 clear hL hU hs hrz
 go_enter Tryz.func69,Tryz.ntmps69
 go_wp2_with fail
 obtain⟨W0,hW0⟩:∃ W0,(w.alloc (Obj.cells #[Value.int IntKind.i64 0,Value.string ⟨#[]⟩,Value.string ⟨#[]⟩,Value.float FloatKind.f64 0,Value.int IntKind.i64 0,Value.slice none 0 0] 57)).alloc (Obj.cells #[Value.int IntKind.i64 0,Value.string ⟨#[]⟩,Value.string ⟨#[]⟩,Value.float FloatKind.f64 0,Value.int IntKind.i64 0,Value.slice none 0 0] 57)=W0:=⟨_,rfl⟩
 have r7:Rs w.heap.size 0 ⟨#[]⟩ ⟨#[]⟩ 0 0 W0:=⟨Zq2⟩
 have r9:Rs (w.heap.size+1) 0 ⟨#[]⟩ ⟨#[]⟩ 0 0 W0:=⟨Zq3⟩
 have hB0:Below w.heap.size w W0:=by rw [← hW0];exact zD (zD (Below.refl _ _) _) _
 rw [hW0]
 clear hW0
 obtain⟨b9,h9⟩:∃ b9,w.heap.size+1=b9:=⟨_,rfl⟩
 rw [h9] at r9 ⊢
 obtain⟨b7,h7⟩:∃ b7,w.heap.size=b7:=⟨_,rfl⟩
 have hne:¬ b7=b9:=by omega
 have hne':¬ b9=b7:=by omega
 rw [h7] at r7 ⊢
 have H7:Hid (w.heap.size≤b7):=Lib.hid (by omega)
 have H9:Hid (w.heap.size≤b9):=Lib.hid (by omega)
 have HB:=Lib.hid hB0
 have HR7:=Lib.hid r7
 have HR9:=Lib.hid r9
 clear h7 h9 hB0
 obtain⟨c70,c71,c72,c73,c74,c75⟩:=r7.cells
 obtain⟨f70,f71,f72,f73,f74,f75⟩:=r7.qP
 obtain⟨c90,c91,c92,c93,c94,c95⟩:=r9.cells
 obtain⟨f90,f91,f92,f93,f94,f95⟩:=r9.qP
 clear r7 r9
 go_loop [1] (fun a1=>a1 = .int .i64 (i:Int)) (fun _=>0)
 case atStart=>rfl
 case round =>
  obtain rfl:=hrel
  go_wp2_with fail
  refine(HL.out _).mono ?_
  rintro e w1 ⟨v,nn,rfl,rfl⟩
  cases v
  ·
   go_wp2_with fail
   have q7:=((((HR7.out.drewN nn).far (o:=0) (v:=Value.int IntKind.i64 3) hne).far (o:=1) (v:=Value.string r) hne).far (o:=2) (v:=Value.string s) hne)
   have q9:=((((HR9.out.drewN nn).j8 3).jF r).qD s)
   have qB:Below w.heap.size w ((((W0.drewN nn).setCell { block:=b9,off:=0 } (Value.int IntKind.i64 3)).setCell { block:=b9,off:=1 } (Value.string r)).setCell { block:=b9,off:=2 } (Value.string s)):=((((below_drewN HB.out nn).setCell H9.out _).setCell H9.out _).setCell H9.out _)
   clear c70 c71 c72 c73 c74 c75 f70 f71 f72 f73 f74 f75 c90 c91 c92 c93 c94 c95 f90 f91 f92 f93 f94 f95
   generalize hgw:((((W0.drewN nn).setCell { block:=b9,off:=0 } (Value.int IntKind.i64 3)).setCell { block:=b9,off:=1 } (Value.string r)).setCell { block:=b9,off:=2 } (Value.string s))=W2 at q7 q9 qB ⊢
   clear hgw HR7 HR9 HB
   have HR7:=Lib.hid q7
   have HR9:=Lib.hid q9
   have HB:=Lib.hid qB
   obtain⟨c70,c71,c72,c73,c74,c75⟩:=q7.cells
   obtain⟨f70,f71,f72,f73,f74,f75⟩:=q7.qP
   obtain⟨c90,c91,c92,c93,c94,c95⟩:=q9.cells
   obtain⟨f90,f91,f92,f93,f94,f95⟩:=q9.qP
   clear qB q7 q9
   go_region
   go_wp2_with fail
   refine bodyPost_ret (jX _ _ b7 _ _ _ _ _ _ _ rfl rfl rfl (((((((HR7.out.j8 3).jF (r)).qD (s)).qO (0)).j5 (0)).yH).drew)) rfl ?_
   exact⟨3,_,_,_,rfl,by decide,by decide,⟨fun h=>absurd h (by decide),fun h=>by omega⟩,zJ ((((((HB.out.setCell H7.out _).setCell H7.out _).setCell H7.out _).setCell H7.out _).setCell H7.out _).setCell H7.out _)⟩
  ·
   go_wp2_with fail
   refine(HU.out _).mono ?_
   rintro e w1 ⟨u,rfl,hBu⟩
   have k7:=(((HR7.out.drewN nn).far (o:=0) (v:=Value.int IntKind.i64 3) hne).far (o:=1) (v:=Value.string r) hne).below hBu
   have k9:=(((HR9.out.drewN nn).j8 3).jF r).below hBu
   have kB:=(((below_drewN HB.out nn).setCell (p:=⟨b9,0,none⟩) H9.out (Value.int IntKind.i64 3)).setCell (p:=⟨b9,1,none⟩) H9.out (Value.string r)).trans (hBu.mono (((below_drewN HB.out nn).setCell (p:=⟨b9,0,none⟩) H9.out (Value.int IntKind.i64 3)).setCell (p:=⟨b9,1,none⟩) H9.out (Value.string r)).size)
   clear hBu c70 c71 c72 c73 c74 c75 f70 f71 f72 f73 f74 f75 c90 c91 c92 c93 c94 c95 f90 f91 f92 f93 f94 f95
   have HK7:=Lib.hid k7
   have HK9:=Lib.hid k9
   have HKB:=Lib.hid kB
   obtain⟨c70,c71,c72,c73,c74,c75⟩:=k7.cells
   obtain⟨f70,f71,f72,f73,f74,f75⟩:=k7.qP
   obtain⟨c90,c91,c92,c93,c94,c95⟩:=k9.cells
   obtain⟨f90,f91,f92,f93,f94,f95⟩:=k9.qP
   clear k7 k9 kB HR7 HR9 HB
   go_wp2_with fail
   have q7:=(HK7.out.far (o:=2) (v:=Value.string u) hne)
   have q9:=(HK9.out.qD u)
   have qB:Below w.heap.size w (w1.setCell { block:=b9,off:=2 } (Value.string u)):=(HKB.out.setCell H9.out _)
   clear c70 c71 c72 c73 c74 c75 f70 f71 f72 f73 f74 f75 c90 c91 c92 c93 c94 c95 f90 f91 f92 f93 f94 f95
   generalize hgw:(w1.setCell { block:=b9,off:=2 } (Value.string u))=W2 at q7 q9 qB ⊢
   clear hgw HK7 HK9 HKB
   have HR7:=Lib.hid q7
   have HR9:=Lib.hid q9
   have HB:=Lib.hid qB
   obtain⟨c70,c71,c72,c73,c74,c75⟩:=q7.cells
   obtain⟨f70,f71,f72,f73,f74,f75⟩:=q7.qP
   obtain⟨c90,c91,c92,c93,c94,c95⟩:=q9.cells
   obtain⟨f90,f91,f92,f93,f94,f95⟩:=q9.qP
   clear qB q7 q9
   go_region
   go_wp2_with fail
   refine bodyPost_ret (jX _ _ b7 _ _ _ _ _ _ _ rfl rfl rfl (((((((HR7.out.j8 3).jF (r)).qD (u)).qO (0)).j5 (0)).yH).drew)) rfl ?_
   exact⟨3,_,_,_,rfl,by decide,by decide,⟨fun h=>absurd h (by decide),fun h=>by omega⟩,zJ ((((((HB.out.setCell H7.out _).setCell H7.out _).setCell H7.out _).setCell H7.out _).setCell H7.out _).setCell H7.out _)⟩
end Go.Proofs.YtljhmnnhfnmhmaaGreatDoor.M
namespace Go.Proofs.YtljhmnnhfnmhmaaGreatDoor.M
open Go Go.RowKit Go.Proofs.YtljhmnnhfnmhmaaGreatDoorW.PrintWords
structure PfT (n b o c bp op cp bt ot ct:Nat) (w:World):Prop where
 all:zDl n b o c bp op cp bt ot ct w
 es:∃ ev,w.cell? ⟨4,0,none⟩=some ev∧(ev = .nilIface∨∃ te pe,ev = .iface te pe)
 er:∃ ev,w.cell? ⟨5,0,none⟩=some ev∧(ev = .nilIface∨∃ te pe,ev = .iface te pe)
theorem PfT.below {n b o c bp op cp bt ot ct:Nat} {w w':World} (h:PfT n b o c bp op cp bt ot ct w) (hb:Below n w w'):PfT n b o c bp op cp bt ot ct w':=by
 have l:=h.all.l13
 obtain⟨e1,h1,h2⟩:=h.es
 obtain⟨e3,h3,h4⟩:=h.er
 exact⟨h.all.below hb,⟨e1,(hb.cell (p:=⟨4,0,none⟩) (by show 4 < n;omega)).trans h1,h2⟩,⟨e3,(hb.cell (p:=⟨5,0,none⟩) (by show 5 < n;omega)).trans h3,h4⟩⟩
theorem YH (s:ByteArray) (b o c bp op cp bt ot ct:Nat) (w:World) (hs:s.size≤1048576) (h:kZ s) (hT:zDl w.heap.size b o c bp op cp bt ot ct w):Calls Tryz.prog 104 #[.string s, .int .i64 64] w (AT w):=by
 have HX:=Lib.hid (W8 s b o c bp op cp bt ot ct w hs h hT)
 clear hs h hT
 go_enter Tryz.func104,Tryz.ntmps104
 go_wp2_with fail
 refine HX.out.mono ?_
 rintro e w' ⟨f,n,v,hv,rfl,hB⟩
 have HV:=Lib.hid (And.intro hv hB)
 clear hv hB
 go_wp2_with fail
 go_ret3
 exact⟨_,_,_,HV.out.1,rfl,HV.out.2⟩
def AE (w:World) (e:Ending) (w':World):Prop:=∃ (f:Nat) (v:Value),ErrV v∧e = .returned (.tuple #[.float .f64 f,v])∧Below w.heap.size w w'
theorem KI (s:ByteArray) (b o c bp op cp bt ot ct:Nat) (w:World) (hs:s.size≤1048576) (h:kZ s) (hT:zDl w.heap.size b o c bp op cp bt ot ct w):Calls Tryz.prog 95 #[.string s, .int .i64 64] w (AE w):=by
 have HX:=Lib.hid (YH s b o c bp op cp bt ot ct w hs h hT)
 clear hs h hT
 go_enter Tryz.func95,Tryz.ntmps95
 go_wp2_with fail
 refine HX.out.mono ?_
 rintro e w' ⟨f,n,v,hv,rfl,hB⟩
 have HV:=Lib.hid (And.intro hv hB)
 clear hv hB
 go_wp2_with fail
 ·
  go_ret2
  exact⟨_,_, .inr (.inr rfl),rfl,HV.out.2⟩
 ·
  go_ret2
  exact⟨_,_,HV.out.1,rfl,HV.out.2⟩
def PF (w:World) (e:Ending) (w':World):Prop:=∃ (f:Nat) (v:Value),e = .returned (.tuple #[.float .f64 f,v])∧Below w.heap.size w w'
theorem VK (s:ByteArray) (b o c bp op cp bt ot ct:Nat) (w:World) (hs:s.size≤1048576) (h:kZ s) (hT:PfT w.heap.size b o c bp op cp bt ot ct w):Calls Tryz.prog 81 #[.string s, .int .i64 64] w (PF w):=by
 have HX:=Lib.hid (KI s b o c bp op cp bt ot ct w hs h hT.all)
 have HT:=Lib.hid hT
 have HS:=Lib.hid hs
 clear hs h hT
 go_enter Tryz.func81,Tryz.ntmps81
 go_wp2_with fail
 refine HX.out.mono ?_
 rintro e w1 ⟨f,v,hv,rfl,hB⟩
 have hT1:=HT.out.below hB
 obtain⟨e1,h1,h2⟩:=hT1.es
 obtain⟨e3,h3,h4⟩:=hT1.er
 have HB:=Lib.hid hB
 clear hB hT1 HX HT
 rcases hv with rfl|rfl|rfl
 ·
  clear h1 h2 h3 h4
  go_wp2_with fail
  go_ret2
  exact⟨_,_,rfl,HB.out⟩
 ·
  clear h1 h2
  have HE:=Lib.hid (Tryz.strconv_toError_range ⟨#[80,97,114,115,101,70,108,111,97,116]⟩ s 0 64 e3 w1 (by have:=HS.out;omega) h3 h4)
  clear h3 h4
  go_wp2_with fail
  refine HE.out.mono ?_
  rintro e w2 ⟨N,rfl,_,_,hB2⟩
  have HB2:=Lib.hid (HB.out.trans (hB2.mono HB.out.size))
  clear hB2
  go_wp2_with fail
  go_ret2
  exact⟨_,_,rfl,HB2.out⟩
 ·
  clear h3 h4
  have HE:=Lib.hid (Tryz.strconv_toError_syntax ⟨#[80,97,114,115,101,70,108,111,97,116]⟩ s 0 64 e1 w1 (by have:=HS.out;omega) h1 h2)
  clear h1 h2
  go_wp2_with fail
  refine HE.out.mono ?_
  rintro e w2 ⟨N,rfl,_,_,hB2⟩
  have HB2:=Lib.hid (HB.out.trans (hB2.mono HB.out.size))
  clear hB2
  go_wp2_with fail
  go_ret2
  exact⟨_,_,rfl,HB2.out⟩
end Go.Proofs.YtljhmnnhfnmhmaaGreatDoor.M
