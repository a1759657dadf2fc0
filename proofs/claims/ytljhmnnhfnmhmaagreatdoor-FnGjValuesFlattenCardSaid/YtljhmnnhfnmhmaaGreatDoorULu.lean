/-
Lemmas of this claim; made short by a program of this work.
-/
import Derived.Test.YtljhmnnhfnmhmaaGreatDoorUM47
import Derived.Test.YtljhmnnhfnmhmaaGreatDoorUM45
import Derived.Test.YtljhmnnhfnmhmaaGreatDoorUM0
set_option linter.unusedVariables false
set_option linter.unusedSimpArgs false
set_option maxHeartbeats 8000000
set_option maxRecDepth 100000
namespace Go.Proofs.YtljhmnnhfnmhmaaGreatDoor.M
open Go Go.RowKit Go.Proofs.YtljhmnnhfnmhmaaGreatDoorW.PrintWords Go.Proofs.YtljhmnnhfnmhmaaGreatDoorW.PrintLast Go.Proofs.YtljhmnnhfnmhmaaGreatDoor.G
theorem zJ4 {W:World} {B:Nat} {ok:Nat→Prop} {A:Option Addr} {n c:Nat} {xs:List S25} (h:Kd.R k25 25 W B ok (.slice A n c) xs) (i:Nat) (hi:i < n) :
  ∃ ad A2 c2 A3 c3,A=some ad∧W.cell? (ad.add (i * 4))=some (.int .i64 (xs.getD i z25).f0)∧W.cell? ⟨(ad.add (i * 4)).block,(ad.add (i * 4)).off+1,none⟩=some (.string (xs.getD i z25).f1) ∧
   W.cell? ⟨(ad.add (i * 4)).block,(ad.add (i * 4)).off+2,none⟩=some (.slice A2 (xs.getD i z25).f2.length c2)∧W.cell? ⟨(ad.add (i * 4)).block,(ad.add (i * 4)).off+3,none⟩=some (.slice A3 (xs.getD i z25).f3.length c3) ∧
   Kd.R k25 25 W B ok (.slice A3 (xs.getD i z25).f3.length c3) (xs.getD i z25).f3:=by
 obtain⟨A',c',hv⟩:=Kd.vJ h
 simp only [Value.slice.injEq] at hv
 obtain⟨_,hn,_⟩:=hv
 cases A with
 | none =>
  obtain⟨_,inner,ho,_⟩:=h
  rcases ho.2 with ⟨hv,h0⟩|⟨g,cap',cur,hv,_⟩
  ·
   cases hv;omega
  ·
   cases hv
 | some ad =>
  obtain⟨cs,hl,hM,hc0⟩:=Kd.zI5 h z25 (i:Int) (by omega) (by omega)
  simp only [Int.toNat_natCast] at hM hc0
  have hc:∀ j u,cs[j]?=some u→W.cell? (ad.add (i * 4+j))=some u:=hc0
  obtain⟨v2,v3,rfl,g2,g3⟩:=zCe hM
  obtain⟨A2,c2,rfl⟩:=Kd.vJ g2
  obtain⟨A3,c3,rfl⟩:=Kd.vJ g3
  exact⟨ad,A2,c2,A3,c3,rfl,hc 0 _ rfl,Zq4,Zq5,Zq6,Kd.xG g3 (fun k hk=>hk.1)⟩
theorem zG6 (t:ByteArray) (w:World) (h:2147483647 < t.size):Calls Tryz.prog 4 #[.string t] w (zAv w):=by
 have hlt:(2147483647:Int) < (t.size:Int):=by omega
 go_enter Tryz.func4,Tryz.ntmps4
 go_wp2_with fail
 go_ret
 exact⟨rfl,by repeat (first|(with_reducible first|exact Below.refl _ _|apply zD|apply zH|apply zJ)|exact Below.refl _ _)⟩
theorem zJx (t:ByteArray) (w:World) (h:¬ 2147483647 < t.size) (hB:Calls Tryz.prog 5 #[.string t] w (fun e w'=>Z8 w e w'∨∃ n,Z7 n false w e w')):Calls Tryz.prog 4 #[.string t] w (zAv w):=by
 have hlt:¬ (2147483647:Int) < (t.size:Int):=by omega
 have HB:=Lib.hid hB
 clear hB
 go_enter Tryz.func4,Tryz.ntmps4
 go_wp2_with fail
 refine HB.out.mono ?_
 rintro e w1 h1
 rcases h1 with ⟨rfl,hb1⟩|⟨n,v,rfl,⟨A2,c2,A3,c3,rfl,_⟩,hb1⟩
 ·
  have HB1:=Lib.hid hb1
  clear hb1
  unfold zKv
  go_wp2_with fail
  go_ret
  exact⟨rfl,zIq⟩
 ·
  have HB1:=Lib.hid hb1
  clear hb1
  go_wp2_with fail
  go_ret
  exact⟨rfl,zIq⟩
theorem zG5 (t:ByteArray) (n:S25) (w:World) (h:¬ 2147483647 < t.size) (h6:¬ n.f0=6) (hB:Calls Tryz.prog 5 #[.string t] w (fun e w'=>Z7 n true w e w')):Calls Tryz.prog 4 #[.string t] w (zAv w):=by
 have hlt:¬ (2147483647:Int) < (t.size:Int):=by omega
 have h6b:(n.f0 != 6)=true:=bne_iff_ne.mpr h6
 have HB:=Lib.hid hB
 clear hB
 go_enter Tryz.func4,Tryz.ntmps4
 go_wp2_with fail
 refine HB.out.mono ?_
 rintro e w1 ⟨v,rfl,⟨A2,c2,A3,c3,rfl,_⟩,hb1⟩
 have HB1:=Lib.hid hb1
 clear hb1
 go_wp2_with fail
 go_ret
 exact⟨rfl,zIq⟩
def FlR (w1 W0:World) (b5:Nat) (n:S25) (a27:Value) (wr:World):Prop :=
 ∃ (i:Nat) (v:Value),a27 = .int .i64 (i:Int)∧i≤n.f3.length∧zA (∀ j m,j < i→n.f3[j]?=some m→m.f0=5)∧zA (Below b5 W0 wr)∧zA (wr.heap[b5]?=some (.cells #[.int .i64 5, .string ⟨#[]⟩, .slice none 0 0,v] 25 (0,0))) ∧
  zA (Kd.N k25 25 wr (b5+1) (fun k=>k≠b5) v (jG (n.f3.take i)))
theorem Q4 (l:List S25) (i:Nat) (m:S25) (h:l[i]?=some m):jG (l.take (i+1))=jG (l.take i) ++ m.f3:=by
 have he:l.take (i+1)=l.take i ++ [m]:=by rw [List.take_add_one,h];rfl
 rw [he]
 simp [jG]
theorem zEj (l:List S25) (i:Nat):(jG (l.take i)).length≤(jG l).length:=by
 conv=>rhs;rw [← List.take_append_drop i l]
 simp only [jG,List.flatMap_append,List.length_append]
 omega
theorem zG7 (t:ByteArray) (n:S25) (m0:Nat) (w:World) (h:¬ 2147483647 < t.size) (h6:n.f0=6) (hm:m0≤w.heap.size) (hT:Tb m0 w) (hlen:n.f3.length≤1048576) (hkl:(jG n.f3).length≤1048576)
  (hB:Calls Tryz.prog 5 #[.string t] w (fun e w'=>Z7 n true w e w'))
  (hF:(∀ m ∈ n.f3,m.f0=5)→∃ V F:ByteArray,WB ⟨5,j4,[],jG n.f3⟩∧(∀ W,m0≤W.heap.size→Tb m0 W→Calls Tryz.prog 8 #[.string t] W (yR V W))∧(∀ W,m0≤W.heap.size→Tb m0 W→Calls Tryz.prog 12 #[.string V, .string ⟨#[]⟩] W (yR F W))∧∀ W,Calls Tryz.prog 9 #[.string F] W (uH ⟨5,j4,[],jG n.f3⟩ W)) :
  Calls Tryz.prog 4 #[.string t] w (zAv w):=by
 have hlt:¬ (2147483647:Int) < (t.size:Int):=by omega
 have h6b:(n.f0 != 6)=false:=bne_eq_false_iff_eq.mpr h6
 have HB:=Lib.hid hB
 have HT:=Lib.hid (And.intro hm hT)
 have HF:=Lib.hid hF
 have HL:=Lib.hid (And.intro hlen hkl)
 clear hB hm hT hF hkl
 go_enter Tryz.func4,Tryz.ntmps4
 go_wp2_with fail
 refine HB.out.mono ?_
 rintro e w1 ⟨v,rfl,⟨A2,c2,A3,c3,rfl,n2,n3⟩,hb1⟩
 have HN:=Lib.hid (And.intro n3 hb1)
 clear n2 n3 hb1
 have h6n:=h6
 go_wp2_with fail
 obtain⟨W0,hW0⟩:∃ W,((w1.alloc (Obj.cells #[Value.int IntKind.i64 6,Value.string n.f1,Value.slice A2 n.f2.length c2,Value.slice A3 n.f3.length c3] 25)).alloc (Obj.cells #[Value.int IntKind.i64 5,Value.string ⟨#[]⟩,Value.slice none 0 0,Value.slice none 0 0] 25))=W:=⟨_,rfl⟩
 have h50:W0.heap[w1.heap.size+1]?=some (.cells #[.int .i64 5, .string ⟨#[]⟩, .slice none 0 0, .slice none 0 0] 25 (0,0)):=by
  rw [← hW0]
  have:=heap_alloc_new (w1.alloc (Obj.cells #[Value.int IntKind.i64 6,Value.string n.f1,Value.slice A2 n.f2.length c2,Value.slice A3 n.f3.length c3] 25)) (Obj.cells #[Value.int IntKind.i64 5,Value.string ⟨#[]⟩,Value.slice none 0 0,Value.slice none 0 0] 25)
  simpa using this
 have hl0:Below w1.heap.size w1 W0:=by rw [← hW0];exact zD (zD (Below.refl _ _) _) _
 have hz0:W0.heap.size=w1.heap.size+2:=by rw [← hW0];simp
 rw [hW0]
 clear hW0
 obtain⟨b5,hb5⟩:∃ b,w1.heap.size+1=b:=⟨_,rfl⟩
 rw [hb5] at h50 ⊢
 have hr1:Kd.R k25 25 w1 w.heap.size (fun k=>k < w1.heap.size) (.slice A3 n.f3.length c3) n.f3:=Kd.xG (Kd.jK HN.out.1) (fun k hk=>hk.2.2.1)
 have H0:=Lib.hid (And.intro hl0 (And.intro hr1 (And.intro (show w1.heap.size < b5∧b5 < W0.heap.size∧w.heap.size≤w1.heap.size from ⟨by omega,by omega,xB HN.out.2⟩) h50)))
 clear hl0 hr1 h50 hz0 hb5
 go_loopw [27] (fun a27 wr=>FlR w1 W0 b5 n a27 wr) (fun a27 _=>n.f3.length+1 - (RowKit.intOf a27).toNat)
 case atStart=>exact⟨0,_,rfl,Nat.zero_le _,⟨fun j m hj=>absurd hj (by omega)⟩,⟨Below.refl _ _⟩,⟨H0.out.2.2.2⟩,⟨by simpa [jG] using Kd.zI1 k25 25 W0 (b5+1) (fun k=>k≠b5)⟩⟩
 case round =>
  obtain⟨i,v,rfl,hi,⟨h5s⟩,⟨hbl⟩,⟨hb5⟩,⟨hN⟩⟩:=hrel
  have hH:=H0.out
  have hbw1:Below w1.heap.size w1 wr:=hH.1.trans (hbl.mono (by omega))
  have hrw:Kd.R k25 25 wr w.heap.size (fun k=>k < w1.heap.size) (.slice A3 n.f3.length c3) n.f3:=Kd.vS hH.2.1 hbw1
  have hlow:Below w.heap.size w wr:=HN.out.2.trans (hbw1.mono hH.2.2.1.2.2)
  have hlt5:=xW hb5
  by_cases hil:i < n.f3.length
  ·
   obtain⟨ad,K2,k2,K3,k3,rfl,x0,x1,x2,x3,hk3⟩:=zJ4 hrw i hil
   have hget:n.f3[i]?=some (n.f3.getD i z25):=by rw [List.getD_eq_getElem?_getD,List.getElem?_eq_getElem hil];rfl
   generalize n.f3.getD i z25=m at x0 x1 x2 x3 hk3 hget
   have HK:=Lib.hid (And.intro hk3 (And.intro hget (And.intro hb5 (And.intro hN (And.intro h5s (And.intro hbl (And.intro hlow hlt5)))))))
   have hili:(i:Int) < (n.f3.length:Int):=by omega
   clear hk3 hget hN h5s hbl hlow hH hbw1 hrw hlt5
   by_cases h5k:m.f0=5
   ·
    have hb50:(wr.alloc (Obj.cells #[Value.int IntKind.i64 m.f0,Value.string m.f1,Value.slice K2 m.f2.length k2,Value.slice K3 m.f3.length k3] 25)).cell? ⟨b5,3,none⟩=some v:=by
     exact zB (xF hb5 (zD (Below.refl _ _) (Obj.cells #[Value.int IntKind.i64 m.f0,Value.string m.f1,Value.slice K2 m.f2.length k2,Value.slice K3 m.f3.length k3] 25))) 3 _ rfl
    have h5b:(m.f0 != 5)=false:=bne_eq_false_iff_eq.mpr h5k
    have H5K:=Lib.hid h5k
    clear hb5 h5k
    have hA:=zD (Below.refl wr.heap.size wr) (Obj.cells #[Value.int IntKind.i64 m.f0,Value.string m.f1,Value.slice K2 m.f2.length k2,Value.slice K3 m.f3.length k3] 25)
    have HW:=Lib.hid (show wr.heap.size+1=(wr.alloc (Obj.cells #[Value.int IntKind.i64 m.f0,Value.string m.f1,Value.slice K2 m.f2.length k2,Value.slice K3 m.f3.length k3] 25)).heap.size by simp)
    have HN2:=Lib.hid (Kd.zGl HK.out.2.2.2.1 hA)
    have HF2:=Lib.hid (show Kd.F k25 (wr.alloc (Obj.cells #[Value.int IntKind.i64 m.f0,Value.string m.f1,Value.slice K2 m.f2.length k2,Value.slice K3 m.f3.length k3] 25)) (fun k=>k < b5) K3 m.f3.length m.f3 from Kd.zIv (Kd.R_F (Kd.vS HK.out.1 hA)) (fun k hk=>by have:=H0.out.2.2.1.1;omega))
    have HP2:=Lib.hid (show ∀ k,k < b5→k≠b5∧some k≠v.ownBlock from fun k hk=>⟨by omega,fun he=>by have:=Kd.zI0 HK.out.2.2.2.1 k he.symm;omega⟩)
    have HQ2:=Lib.hid (show ∀ k,(wr.alloc (Obj.cells #[Value.int IntKind.i64 m.f0,Value.string m.f1,Value.slice K2 m.f2.length k2,Value.slice K3 m.f3.length k3] 25)).heap.size≤k→k≠b5 from fun k hk=>by have:=HK.out.2.2.2.2.2.2.2;rw [← HW.out] at hk;omega)
    have HB2:=Lib.hid (show Below (b5+1) wr (wr.alloc (Obj.cells #[Value.int IntKind.i64 m.f0,Value.string m.f1,Value.slice K2 m.f2.length k2,Value.slice K3 m.f3.length k3] 25)) from hA.mono (by have:=HK.out.2.2.2.2.2.2.2;omega))
    have HS2:=Lib.hid (show b5+1≤(wr.alloc (Obj.cells #[Value.int IntKind.i64 m.f0,Value.string m.f1,Value.slice K2 m.f2.length k2,Value.slice K3 m.f3.length k3] 25)).heap.size by have:=HK.out.2.2.2.2.2.2.2;rw [← HW.out];omega)
    have HSZ:=Lib.hid (show ((jG (n.f3.take i)).length+m.f3.length) * 72≤140737488355328 by
     have h1:=zEj n.f3 (i+1)
     rw [Q4 n.f3 i m HK.out.2.1,List.length_append] at h1
     have:=HL.out.2
     omega)
    clear hA
    go_wp2_with (at_builtin;refine Kd.JG k25 (w0:=wr) (b5+1) rfl _ _ 23 25 (.agg #[(.int .i64 0),(.string ⟨#[]⟩),(.slice none 0 0),(.slice none 0 0)]) 72 rfl Tryz.underlying23 zFy rfl (by decide) (by decide) v (jG (n.f3.take i)) m.f3 K3 m.f3.length k3 (fun k=>k≠b5) (fun k=>k < b5) rfl rfl HN2.out HF2.out HP2.out HQ2.out HB2.out HS2.out HSZ.out ?_)
    intro v1 w4 hr hb4 hg hat
    have h5w:w4.heap[b5]?=some (.cells #[.int .i64 5, .string ⟨#[]⟩, .slice none 0 0,v] 25 (0,0)):=(hb4.block b5 (by omega)).trans HK.out.2.2.1
    obtain⟨A4,c4,hv4⟩:=Kd.zA3 hr
    subst hv4
    rw [← Q4 n.f3 i m HK.out.2.1] at hr ⊢
    generalize hgn:(jG (n.f3.take (i+1))).length=nn at hr ⊢
    have d5:w4.cell? ⟨b5,3,none⟩=some v:=zB h5w 3 _ rfl
    have f5:w4.frozen? ⟨b5,3,none⟩=false:=zC h5w _
    have h5x:=heap_setCell_same w4 b5 3 _ 25 (.slice A4 nn c4) h5w
    have hr2:Kd.N k25 25 (w4.setCell ⟨b5,3,none⟩ (.slice A4 nn c4)) (b5+1) (fun k=>k≠b5) (.slice A4 nn c4) (jG (n.f3.take (i+1))):=Kd.N_far hr (p:=⟨b5,3,none⟩) (fun k hk=>hk) _
    have hb2:Below b5 W0 (w4.setCell ⟨b5,3,none⟩ (.slice A4 nn c4)):=(HK.out.2.2.2.2.2.1.trans (hb4.mono (by omega))).setCell (p:=⟨b5,3,none⟩) (Nat.le_refl b5) _
    have h5s2:∀ (j:Nat) (m':S25),j < i+1→n.f3[j]?=some m'→m'.f0=5:=fun j m' hj hm'=>by
     rcases Nat.lt_or_ge j i with hji|hji
     ·
      exact HK.out.2.2.2.2.1 j m' hji hm'
     ·
      obtain rfl:j=i:=by omega
      rw [HK.out.2.1] at hm'
      obtain rfl:=Option.some.inj hm'
      exact H5K.out
    have HR2:=Lib.hid (And.intro hr2 (And.intro hb2 (And.intro h5s2 h5x)))
    clear hr hb4 hg hat h5w hgn hr2 hb2 h5s2 h5x hb50 x0 x1 x2 x3
    go_wp2_with fail
    go_roundw
    case rel=>exact⟨i+1,_,by go_num,by omega,⟨HR2.out.2.2.1⟩,⟨HR2.out.2.1⟩,⟨HR2.out.2.2.2⟩,⟨HR2.out.1⟩⟩
    case measure=>first|(simp [RowKit.intOf];done)|(simp [RowKit.intOf];omega)
   ·
    have h5b:(m.f0 != 5)=true:=bne_iff_ne.mpr h5k
    clear hb5 h5k
    go_wp2_with fail
    go_ret
    exact⟨rfl,by repeat (first|(with_reducible first|exact HK.out.2.2.2.2.2.2.1|apply zD|apply zH|apply zJ)|exact HK.out.2.2.2.2.2.2.1)⟩
  ·
   obtain rfl:i=n.f3.length:=by omega
   have hall:∀ m ∈ n.f3,m.f0=5:=fun m hm=>by
    obtain⟨j,hj⟩:=List.getElem?_of_mem hm
    exact h5s j m (List.getElem?_eq_some_iff.1 hj).1 hj
   obtain⟨V,F,hwb,hV,hFl,hRd⟩:=HF.out hall
   rw [List.take_length] at hN
   obtain⟨A4,c4,hv4,hc4,hC4⟩:=Kd.zGm hN
   subst hv4
   have hmw:m0≤wr.heap.size:=Nat.le_trans HT.out.1 (xB hlow)
   have hTw:Tb m0 wr:=HT.out.2.below (hlow.mono HT.out.1)
   have hili:¬ (n.f3.length:Int) < (n.f3.length:Int):=by omega
   have q0:wr.cell? ⟨b5,0,none⟩=some (.int .i64 5):=zB hb5 0 _ rfl
   have q1:wr.cell? ⟨b5,1,none⟩=some (.string ⟨#[]⟩):=zB hb5 1 _ rfl
   have q2:wr.cell? ⟨b5,2,none⟩=some (.slice none 0 0):=zB hb5 2 _ rfl
   have q3:wr.cell? ⟨b5,3,none⟩=some (.slice A4 (jG n.f3).length c4):=zB hb5 3 _ rfl
   have HV:=Lib.hid (fun W (hb:Below wr.heap.size wr W)=>hV W (Nat.le_trans hmw hb.size) (hTw.below (hb.mono hmw)))
   have HFL:=Lib.hid (fun W (hb:Below wr.heap.size wr W)=>hFl W (Nat.le_trans hmw hb.size) (hTw.below (hb.mono hmw)))
   have HRR:=Lib.hid (show ∀ W,Below wr.heap.size wr W→Calls Tryz.prog 11 #[.string F, .agg #[.int .i64 5, .string ⟨#[]⟩, .slice none 0 0, .slice A4 (jG n.f3).length c4]] W (zAv W) from fun W hb=>KB F ⟨5,j4,[],jG n.f3⟩ none A4 0 c4 W hRd hwb (Nat.le_refl _) hc4 (Kd.zIt _ _) (Kd.vN hC4 hb))
   have HCC:=Lib.hid (fun W (hb:Below wr.heap.size wr W)=>(show W.cell? ⟨b5,0,none⟩=some (.int .i64 5)∧W.cell? ⟨b5,1,none⟩=some (.string ⟨#[]⟩)∧W.cell? ⟨b5,2,none⟩=some (.slice none 0 0)∧W.cell? ⟨b5,3,none⟩=some (.slice A4 (jG n.f3).length c4) from ⟨zB (xF hb5 hb) 0 _ rfl,zB (xF hb5 hb) 1 _ rfl,zB (xF hb5 hb) 2 _ rfl,zB (xF hb5 hb) 3 _ rfl⟩))
   have HX:=Lib.hid (And.intro hmw (And.intro hTw (And.intro hlow (And.intro hb5 (And.intro hC4 (And.intro hc4 hwb))))))
   clear hV hFl hRd hmw hTw hlow hb5 hC4 hc4 hwb hN h5s hbl hall hH hbw1 hrw hlt5
   go_wp2_with fail
   have hrf:=Below.refl wr.heap.size wr
   have HRF:=zA.mk hrf
   clear hrf
   go_region_held3 (fun W=>W.cell? ⟨b5,0,none⟩=some (.int .i64 5)∧W.cell? ⟨b5,1,none⟩=some (.string ⟨#[]⟩)∧W.cell? ⟨b5,2,none⟩=some (.slice none 0 0)∧W.cell? ⟨b5,3,none⟩=some (.slice A4 (jG n.f3).length c4)) (go_keep)
    (first|(go_at_call 8;refine(HV.out _ ?sB).mono ?_;(case sB=>repeat (first|(with_reducible first|exact HRF.out|apply zD|apply zH|apply zJ)|exact HRF.out));rintro e y1 ⟨rfl,hby1⟩;have hqy1:Below wr.heap.size wr y1:=(by repeat (first|(with_reducible first|exact HRF.out|apply zD|apply zH|apply zJ)|exact HRF.out):Below wr.heap.size wr _).trans (hby1.mono (by simp));obtain⟨ay10,ay11,ay12,ay13⟩:=HCC.out _ hqy1;have HYy1:=zA.mk hqy1;clear hby1 hqy1)|(go_at_call 12;refine(HFL.out _ ?sB).mono ?_;(case sB=>repeat (first|(with_reducible first|exact HYy1.out|apply zD|apply zH|apply zJ)|exact HYy1.out));rintro e y2 ⟨rfl,hby2⟩;have hqy2:Below wr.heap.size wr y2:=(by repeat (first|(with_reducible first|exact HYy1.out|apply zD|apply zH|apply zJ)|exact HYy1.out):Below wr.heap.size wr _).trans (hby2.mono (by have:=HYy1.out.size;simp;omega));obtain⟨ay20,ay21,ay22,ay23⟩:=HCC.out _ hqy2;have HYy2:=zA.mk hqy2;clear hby2 hqy2)|(go_at_call 11;refine(HRR.out _ ?sB).mono ?_;(case sB=>repeat (first|(with_reducible first|exact HYy2.out|apply zD|apply zH|apply zJ)|exact HYy2.out));rintro e y3 ⟨rfl,hby3⟩;have hqy3:Below wr.heap.size wr y3:=(by repeat (first|(with_reducible first|exact HYy2.out|apply zD|apply zH|apply zJ)|exact HYy2.out):Below wr.heap.size wr _).trans (hby3.mono (by have:=HYy2.out.size;simp;omega));obtain⟨ay30,ay31,ay32,ay33⟩:=HCC.out _ hqy3;have HYy3:=zA.mk hqy3;clear hby3 hqy3))
   go_wp2_with fail
   go_ret
   have HZ:=zA.mk (HX.out.2.2.1.trans (HYy3.out.mono (xB HX.out.2.2.1)))
   exact⟨rfl,by repeat (first|(with_reducible first|exact HZ.out|apply zD|apply zH|apply zJ)|exact HZ.out)⟩
theorem RX.kids {s:List Int} {n:S25} (h:RX 0 s [] [n]):n.f3.length≤s.length:=by
 cases h with
 | arr _ h=>have:=h.len.2;simp only [List.length_cons,List.length_append];omega
 | obj _ h=>have:=h.len.2;simp only [List.length_cons,List.length_append];omega
 | _=>exact Nat.zero_le _
theorem Nds.kids {l:List (List Int)} {ns:List S25} (h:Nds l ns):(jG ns).length≤esz l∧ns.length≤esz l:=by
 induction h with
 | nil=>exact⟨Nat.zero_le _,Nat.zero_le _⟩
 | @cons v n l ns hv _ ih =>
  have:=hv.kids
  have hk:jG (n :: ns)=n.f3 ++ jG ns:=by simp [jG]
  rw [hk,List.length_append]
  simp only [esz,List.length_cons]
  omega
theorem zJw (t:ByteArray) (m0:Nat) (w:World) (hm:m0≤w.heap.size) (hT:Tb m0 w):Calls Tryz.prog 4 #[.string t] w (zAv w):=by
 by_cases h:2147483647 < t.size
 ·
  exact zG6 t w h
 rcases WA t w with hB|⟨n,b,hB,hb⟩
 ·
  exact zJx t w h (hB.mono (fun e w' h => .inl h))
 cases b with
 | false=>exact zJx t w h (hB.mono (fun e w' h => .inr ⟨n,h⟩))
 | true =>
  obtain⟨hs,hx⟩:=hb rfl
  by_cases h6:n.f0=6
  ·
   obtain⟨L,hO,hL⟩:=zKi (by omega) rfl hx h6
   obtain⟨v1,v2,v3⟩:=ZQ t L hO hs
   obtain⟨k1,k2⟩:=hL.kids
   refine zG7 t n m0 w h h6 hm hT (by omega) (by omega) hB (fun h5=>?_)
   obtain⟨Es,hC⟩:=hL.cores h5
   obtain⟨hP,hW⟩:=zB5 hC v2 (by omega)
   obtain⟨k,r1,r2,r3,r4,r5,hk,hk2⟩:=hP.get
   exact⟨strOfNums (bx (L.map Prod.snd)),strOfNums (bx (flt Es)),hW,fun W a b=>zFp t L m0 hO hs W a b,fun W a b=>Q2 _ _ _ _ (VG _ _ Es n.f3 m0 W (zDi t L hO hs) hC a b),fun W=>J6 k _ r1 r2 r3 r4 r5 _ W hk hk2⟩
  ·
   exact zG5 t n w h h6 hB
end Go.Proofs.YtljhmnnhfnmhmaaGreatDoor.M
