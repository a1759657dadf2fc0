/-
Lemmas of this claim; made short by a program of this work.
-/
import Derived.Test.YtljhmnnhfnmhmaaGreatDoorUM37
import Derived.Test.YtljhmnnhfnmhmaaGreatDoorUM28
import Derived.Test.YtljhmnnhfnmhmaaGreatDoorUM32
import Derived.Test.YtljhmnnhfnmhmaaGreatDoorUM0
import Derived.Test.YtljhmnnhfnmhmaaGreatDoorUGj3
import Derived.Test.YtljhmnnhfnmhmaaGreatDoorUM7
import Derived.Test.YtljhmnnhfnmhmaaGreatDoorUM24
import Derived.Lib.Builder
import Derived.Lib.UnsafeStr
import Derived.Shelf.Strings.Builder1
set_option linter.unusedVariables false
set_option linter.unusedSimpArgs false
set_option linter.unusedSectionVars false
namespace Go.Proofs.YtljhmnnhfnmhmaaGreatDoor.M
open Go Go.RowKit Go.Proofs.YtljhmnnhfnmhmaaGreatDoorW.PrintWords Go.Proofs.YtljhmnnhfnmhmaaGreatDoor.G
structure TX (t:ByteArray) (w1 s w2:List Int) (n:S25):Prop where
 eq:bytesOf t=w1 ++ (s ++ w2)
 b1:xV w1
 b2:xV w2
 rx:RX 0 s [] [n]
def PlY (t:ByteArray) (n:S25):Prop:=∃ p:S38,Ev (fun k=>jH.f k t) (p.f0,p.f1,p.f2,p.f3,p.f4,true)∧uI t p n
section
variable (t:ByteArray) (ht:t.size≤1048576)
include ht
theorem zKc {j l:Nat} {w:List Int} (hs:Seg (bytesOf t) j l w) (hw:xV w) (hl:l=t.size):NF ((bytesOf t).getD j 0):=by
 have hlen:=zW t
 cases w with
 | nil =>
  have:=hs.at_
  simp only [List.length_nil] at this
  have h0:(bytesOf t).getD j 0=0:=by simp only [List.getD,List.getElem?_eq_none (by omega:(bytesOf t).length≤j),Option.getD_none]
  rw [h0]
  unfold NF;omega
 | cons c w =>
  have h:=hs.cons.2.1
  have h2:=hw c (by simp)
  rw [h]
  unfold Ws at h2
  unfold NF;omega
theorem zCx:Ev (fun k=>jH.f k t) (0,0,0,[],[],false)∨∃ w1 s w2 n,TX t w1 s w2 n∧PlY t n:=by
 obtain⟨i,w1,hb,hs1,hw1⟩:=qC t ht t.size 0 (by omega) (by omega)
 have hi:i≤t.size:=xQ t hs1
 obtain⟨r1,r2,r3,r4,r5,b,j,s,hv,hs2,hbt⟩:=(zE1 t ht t.size i (by omega) hi).1
 have hj:j≤t.size:=xQ t hs2
 have hP:∀ r:Int × Int × Int × (List (S47)) × (List (S38)) × Bool,Ev (fun k=>if b=true then (zM.f k t (j:Int)).bind fun c =>
   if c.2=(t.size:Int) then Option.some (r1,r2,r3,r4,r5,true) else Option.some (0,0,0,[],[],false)
  else Option.some (0,0,0,[],[],false)) r→Ev (fun k=>jH.f k t) r:=by
  intro r hr
  refine Ev.eq (Ev.bind (f:=fun k=>zM.f k t ((0:Nat):Int)) (g:=fun k b=>(zO.f k b.1 b.2).bind fun v =>
   if v.2.2.2.2.2.1=true then (zM.f k v.2.2.2.2.2.2.1 v.2.2.2.2.2.2.2).bind fun c =>
    if c.2=(t.size:Int) then Option.some (v.1,v.2.1,v.2.2.1,v.2.2.2.1,v.2.2.2.2.1,true) else Option.some (0,0,0,[],[],false)
   else Option.some (0,0,0,[],[],false)) hb ?_) (fun k=>rfl)
  refine Ev.bind (g:=fun k v=>if v.2.2.2.2.2.1=true then (zM.f k v.2.2.2.2.2.2.1 v.2.2.2.2.2.2.2).bind fun c =>
    if c.2=(t.size:Int) then Option.some (v.1,v.2.1,v.2.2.1,v.2.2.2.1,v.2.2.2.2.1,true) else Option.some (0,0,0,[],[],false)
   else Option.some (0,0,0,[],[],false)) hv ?_
  exact hr
 cases b with
 | false =>
  left
  refine hP _ ?_
  simp only [Bool.false_eq_true,if_false]
  exact Ev.some
 | true =>
  obtain⟨_,n,hx⟩:=hbt rfl
  obtain⟨l,w2,hc,hs3,hw2⟩:=qC t ht t.size j (by omega) hj
  by_cases hl:l=t.size
  ·
   right
   obtain⟨p,hp1,hp2⟩:=(comp t ht hx).1 rfl n rfl i j hs2 (zKc t ht hs3 hw2 hl)
   have he:=Ev.uniq hv hp1
   simp only [Prod.mk.injEq] at he
   obtain⟨e1,e2,e3,e4,e5,_⟩:=he
   refine⟨w1,s,w2,n,⟨?_,hw1,hw2,hx⟩,p,?_,hp2⟩
   ·
    have h:=(hs1.app (hs2.app hs3)).eq
    rw [hl,← zW,List.drop_length,List.append_nil] at h
    simpa using h
   ·
    refine hP _ ?_
    simp only [if_true]
    refine Ev.bind (g:=fun k c=>if c.2=(t.size:Int) then Option.some (r1,r2,r3,r4,r5,true) else Option.some (0,0,0,[],[],false)) hc ?_
    simp only [hl,if_true,e1,e2,e3,e4,e5]
    exact Ev.some
  ·
   left
   refine hP _ ?_
   simp only [if_true]
   refine Ev.bind (g:=fun k c=>if c.2=(t.size:Int) then Option.some (r1,r2,r3,r4,r5,true) else Option.some (0,0,0,[],[],false)) hc ?_
   rw [if_neg (by simp only;omega)]
   exact Ev.some
theorem JB {s:List Int} {n:S25} (he:bytesOf t=s) (hx:RX 0 s [] [n]):PlY t n:=by
 have hlen:=zW t
 have hs:Seg (bytesOf t) 0 t.size s:=by rw [← hlen,← he];exact Seg.whole _
 have h0:(bytesOf t).getD t.size 0=0:=by simp only [List.getD,List.getElem?_eq_none (by omega:(bytesOf t).length≤t.size),Option.getD_none]
 obtain⟨p,hp1,hp2⟩:=(comp t ht hx).1 rfl n rfl 0 t.size hs (by rw [h0];unfold NF;omega)
 have hb:Ev (fun k=>zM.f k t ((0:Nat):Int)) (t,((0:Nat):Int)):=jP t ht [] 0 0 (Seg.nil (by omega)) xV.nil (uB t hx (r:=[]) (by rw [List.append_nil];exact hs))
 have hc:Ev (fun k=>zM.f k t (t.size:Int)) (t,(t.size:Int)):=jP t ht [] t.size t.size (Seg.nil (by omega)) xV.nil (by rw [h0];unfold Ws;omega)
 refine⟨p,?_,hp2⟩
 refine Ev.eq (Ev.bind (f:=fun k=>zM.f k t ((0:Nat):Int)) (g:=fun k b=>(zO.f k b.1 b.2).bind fun v =>
   if v.2.2.2.2.2.1=true then (zM.f k v.2.2.2.2.2.2.1 v.2.2.2.2.2.2.2).bind fun c =>
    if c.2=(t.size:Int) then Option.some (v.1,v.2.1,v.2.2.1,v.2.2.2.1,v.2.2.2.2.1,true) else Option.some (0,0,0,[],[],false)
   else Option.some (0,0,0,[],[],false)) hb ?_) (fun k=>rfl)
 refine Ev.bind (g:=fun k v=>if v.2.2.2.2.2.1=true then (zM.f k v.2.2.2.2.2.2.1 v.2.2.2.2.2.2.2).bind fun c =>
    if c.2=(t.size:Int) then Option.some (v.1,v.2.1,v.2.2.1,v.2.2.2.1,v.2.2.2.2.1,true) else Option.some (0,0,0,[],[],false)
   else Option.some (0,0,0,[],[],false)) hp1 ?_
 simp only [if_true]
 refine Ev.bind (g:=fun k c=>if c.2=(t.size:Int) then Option.some (p.f0,p.f1,p.f2,p.f3,p.f4,true) else Option.some (0,0,0,[],[],false)) hc ?_
 simp only [if_true]
 exact Ev.some
end
theorem PlY.get {t:ByteArray} {n:S25} (h:PlY t n):∃ (k:Nat) (r1 r2 r3:Int) (r4:List S47) (r5:List S38),jH.f k t=some (r1,r2,r3,r4,r5,true)∧xA.f k t r1 r2 r3 r4 r5=some (n.f0,n.f1,n.f2,n.f3):=by
 obtain⟨p,⟨K1,h1⟩,⟨K2,h2⟩⟩:=h
 exact⟨K1+K2,p.f0,p.f1,p.f2,p.f3,p.f4,h1 _ (by omega),h2 _ (by omega)⟩
end Go.Proofs.YtljhmnnhfnmhmaaGreatDoor.M
namespace Go.Proofs.YtljhmnnhfnmhmaaGreatDoor.M
open Go Go.RowKit Go.Proofs.YtljhmnnhfnmhmaaGreatDoorW.PrintWords Go.Proofs.YtljhmnnhfnmhmaaGreatDoor.G
end Go.Proofs.YtljhmnnhfnmhmaaGreatDoor.M
set_option maxHeartbeats 4000000
set_option maxRecDepth 100000
namespace Go.Proofs.YtljhmnnhfnmhmaaGreatDoor.M
open Go Go.RowKit Go.Proofs.YtljhmnnhfnmhmaaGreatDoorW.PrintWords
attribute [local go_sem] xL
def Rv (ty:Int) (raw str:ByteArray) (num:Nat) (idx:Int):Value := .agg #[.int .i64 ty, .string raw, .string str, .float .f64 num, .int .i64 idx, .slice none 0 0]
def zIa (v:Bool) (w:World) (e:Ending) (w':World):Prop:=e = .returned (.bool v)∧Below w.heap.size w w'
theorem yU (raw str:ByteArray) (num:Nat) (idx:Int) (w:World):Calls Tryz.prog 43 #[Rv 5 raw str num idx] w (zIa true w):=by
 unfold Rv
 go_enter Tryz.func43,Tryz.ntmps43
 go_wp2
 go_ret
 exact⟨rfl,zD (Below.refl _ _) _⟩
theorem uC (raw str:ByteArray) (num:Nat) (idx:Int) (w:World) (hz:0 < raw.size) (h0:bn raw 0=91):Calls Tryz.prog 37 #[Rv 5 raw str num idx] w (zIa true w):=by
 have hb:=vP raw
 unfold Rv
 go_enter Tryz.func37,Tryz.ntmps37
 go_wp2
 go_ret
 exact⟨rfl,zD (Below.refl _ _) _⟩
theorem V7 (raw str:ByteArray) (num:Nat) (idx:Int) (w:World) (hz:0 < raw.size) (h0:bn raw 0=123):Calls Tryz.prog 37 #[Rv 5 raw str num idx] w (zIa false w):=by
 have hb:=vP raw
 unfold Rv
 go_enter Tryz.func37,Tryz.ntmps37
 go_wp2
 go_ret
 exact⟨rfl,zD (Below.refl _ _) _⟩
theorem XH (t:ByteArray):t.extract 0 t.size=t:=by
 apply ByteArray.ext
 rw [ByteArray.data_extract]
 exact Array.extract_size
def zGo (t:ByteArray) (w:World) (e:Ending) (w':World):Prop:=e = .returned (Rv 5 t ⟨#[]⟩ 0 0)∧Below w.heap.size w w'
theorem uX (tmps:Array Value) (W:World) (b:Nat) (ty idx:Int) (raw str:ByteArray) (num:Nat) (h2:tmps.getD 2 undef = .pointer (some ⟨b,0,none⟩)) (h:Rs b ty raw str num idx W) :
  (results Tryz.f36 tmps).run Tryz.prog W = .ok (Rv ty raw str num idx) W:=by
 have h2':tmps[2]?.getD undef = .pointer (some ⟨b,0,none⟩):=by simpa using h2
 have hr:Tryz.f36.results=#[.cell 2 57]:=rfl
 simp [results,hr,h2',asAddr,Rv,run_loadVar_row W b 57 57 _ (0,0) _ h.blk Tryz.underlying57 rfl (by kernel_rfl)]
theorem XS (t:ByteArray) (w:World) (hz:0 < t.size) (ht:t.size≤1048576) (h0:bn t 0=123):Calls Tryz.prog 36 #[.string t] w (zGo t w):=by
 have hb:=vP t
 have hx:=XH t
 have hE:=Lib.hid (fun W=>yU t ⟨#[]⟩ 0 0 W)
 have hx0:(0:Int).toNat=0:=rfl
 go_enter Tryz.func36,Tryz.ntmps36
 go_wp2_with fail
 obtain⟨W0,hW0⟩:∃ W0,(w.alloc (Obj.cells #[Value.int IntKind.i64 0,Value.string ⟨#[]⟩,Value.string ⟨#[]⟩,Value.float FloatKind.f64 0,Value.int IntKind.i64 0,Value.slice none 0 0] 57)).alloc (Obj.cells #[Value.int IntKind.i64 0,Value.string ⟨#[]⟩,Value.string ⟨#[]⟩,Value.float FloatKind.f64 0,Value.int IntKind.i64 0,Value.slice none 0 0] 57)=W0:=⟨_,rfl⟩
 have r7:Rs w.heap.size 0 ⟨#[]⟩ ⟨#[]⟩ 0 0 W0:=⟨Zq2⟩
 have r9:Rs (w.heap.size+1) 0 ⟨#[]⟩ ⟨#[]⟩ 0 0 W0:=⟨Zq3⟩
 have hB0:Below w.heap.size w W0:=by rw [← hW0];exact zD (zD (Below.refl _ _) _) _
 rw [hW0]
 clear hW0
 obtain⟨b9,h9⟩:∃ b9,w.heap.size+1=b9:=⟨_,rfl⟩
 rw [h9] at r9 ⊢
 obtain⟨b7,h7⟩:∃ b7,w.heap.size=b7:=⟨_,rfl⟩
 have hne:¬ b7=b9:=by omega
 have hne':¬ b9=b7:=by omega
 rw [h7] at r7 ⊢
 have H7:Hid (w.heap.size≤b7):=Lib.hid (by omega)
 have H9:Hid (w.heap.size≤b9):=Lib.hid (by omega)
 have HB:=Lib.hid hB0
 have HR7:=Lib.hid r7
 have HR9:=Lib.hid r9
 clear h7 h9 hB0
 obtain⟨c70,c71,c72,c73,c74,c75⟩:=r7.cells
 obtain⟨f70,f71,f72,f73,f74,f75⟩:=r7.qP
 obtain⟨c90,c91,c92,c93,c94,c95⟩:=r9.cells
 obtain⟨f90,f91,f92,f93,f94,f95⟩:=r9.qP
 clear r7 r9
 go_loop [4] (fun a4=>a4 = .int .i64 0) (fun _=>0)
 case atStart=>rfl
 case round =>
  obtain rfl:=hrel
  go_wp2_with fail
  have k7:=((HR7.out.far (o:=0) (v:=Value.int IntKind.i64 5) hne).far (o:=1) (v:=Value.string t) hne)
  have k9:=((HR9.out.j8 5).jF t)
  have kB:Below w.heap.size w ((W0.setCell { block:=b9,off:=0 } (Value.int IntKind.i64 5)).setCell { block:=b9,off:=1 } (Value.string t)):=((HB.out.setCell H9.out _).setCell H9.out _)
  clear c70 c71 c72 c73 c74 c75 f70 f71 f72 f73 f74 f75 c90 c91 c92 c93 c94 c95 f90 f91 f92 f93 f94 f95
  generalize hgw:((W0.setCell { block:=b9,off:=0 } (Value.int IntKind.i64 5)).setCell { block:=b9,off:=1 } (Value.string t))=W1 at k7 k9 kB ⊢
  clear hgw HR7 HR9 HB
  refine(hE.out W1).mono ?_
  rintro e w1 ⟨rfl,hBu⟩
  have m7:=k7.below hBu
  have m9:=k9.below hBu
  have mB:=kB.trans (hBu.mono kB.size)
  clear hBu k7 k9 kB
  have HK7:=Lib.hid m7
  have HK9:=Lib.hid m9
  have HKB:=Lib.hid mB
  obtain⟨c70,c71,c72,c73,c74,c75⟩:=m7.cells
  obtain⟨f70,f71,f72,f73,f74,f75⟩:=m7.qP
  obtain⟨c90,c91,c92,c93,c94,c95⟩:=m9.cells
  obtain⟨f90,f91,f92,f93,f94,f95⟩:=m9.qP
  clear m7 m9 mB
  go_wp2_with fail
  refine bodyPost_ret (uX _ _ b7 _ _ _ _ _ rfl ((((((((HK7.out.far (o:=4) (v:=Value.int IntKind.i64 0) hne).j8 5).jF t).qD ⟨#[]⟩).qO 0).j5 0).yH))) rfl ?_
  exact⟨rfl,(((((((HKB.out.setCell H9.out _).setCell H7.out _).setCell H7.out _).setCell H7.out _).setCell H7.out _).setCell H7.out _).setCell H7.out _)⟩
theorem YF (t:ByteArray) (w:World) (hz:0 < t.size) (ht:t.size≤1048576) (h0:bn t 0=91):Calls Tryz.prog 36 #[.string t] w (zGo t w):=by
 have hb:=vP t
 have hx:=XH t
 have hE:=Lib.hid (fun W=>yU t ⟨#[]⟩ 0 0 W)
 have hx0:(0:Int).toNat=0:=rfl
 go_enter Tryz.func36,Tryz.ntmps36
 go_wp2_with fail
 obtain⟨W0,hW0⟩:∃ W0,(w.alloc (Obj.cells #[Value.int IntKind.i64 0,Value.string ⟨#[]⟩,Value.string ⟨#[]⟩,Value.float FloatKind.f64 0,Value.int IntKind.i64 0,Value.slice none 0 0] 57)).alloc (Obj.cells #[Value.int IntKind.i64 0,Value.string ⟨#[]⟩,Value.string ⟨#[]⟩,Value.float FloatKind.f64 0,Value.int IntKind.i64 0,Value.slice none 0 0] 57)=W0:=⟨_,rfl⟩
 have r7:Rs w.heap.size 0 ⟨#[]⟩ ⟨#[]⟩ 0 0 W0:=⟨Zq2⟩
 have r9:Rs (w.heap.size+1) 0 ⟨#[]⟩ ⟨#[]⟩ 0 0 W0:=⟨Zq3⟩
 have hB0:Below w.heap.size w W0:=by rw [← hW0];exact zD (zD (Below.refl _ _) _) _
 rw [hW0]
 clear hW0
 obtain⟨b9,h9⟩:∃ b9,w.heap.size+1=b9:=⟨_,rfl⟩
 rw [h9] at r9 ⊢
 obtain⟨b7,h7⟩:∃ b7,w.heap.size=b7:=⟨_,rfl⟩
 have hne:¬ b7=b9:=by omega
 have hne':¬ b9=b7:=by omega
 rw [h7] at r7 ⊢
 have H7:Hid (w.heap.size≤b7):=Lib.hid (by omega)
 have H9:Hid (w.heap.size≤b9):=Lib.hid (by omega)
 have HB:=Lib.hid hB0
 have HR7:=Lib.hid r7
 have HR9:=Lib.hid r9
 clear h7 h9 hB0
 obtain⟨c70,c71,c72,c73,c74,c75⟩:=r7.cells
 obtain⟨f70,f71,f72,f73,f74,f75⟩:=r7.qP
 obtain⟨c90,c91,c92,c93,c94,c95⟩:=r9.cells
 obtain⟨f90,f91,f92,f93,f94,f95⟩:=r9.qP
 clear r7 r9
 go_loop [4] (fun a4=>a4 = .int .i64 0) (fun _=>0)
 case atStart=>rfl
 case round =>
  obtain rfl:=hrel
  go_wp2_with fail
  have k7:=((HR7.out.far (o:=0) (v:=Value.int IntKind.i64 5) hne).far (o:=1) (v:=Value.string t) hne)
  have k9:=((HR9.out.j8 5).jF t)
  have kB:Below w.heap.size w ((W0.setCell { block:=b9,off:=0 } (Value.int IntKind.i64 5)).setCell { block:=b9,off:=1 } (Value.string t)):=((HB.out.setCell H9.out _).setCell H9.out _)
  clear c70 c71 c72 c73 c74 c75 f70 f71 f72 f73 f74 f75 c90 c91 c92 c93 c94 c95 f90 f91 f92 f93 f94 f95
  generalize hgw:((W0.setCell { block:=b9,off:=0 } (Value.int IntKind.i64 5)).setCell { block:=b9,off:=1 } (Value.string t))=W1 at k7 k9 kB ⊢
  clear hgw HR7 HR9 HB
  refine(hE.out W1).mono ?_
  rintro e w1 ⟨rfl,hBu⟩
  have m7:=k7.below hBu
  have m9:=k9.below hBu
  have mB:=kB.trans (hBu.mono kB.size)
  clear hBu k7 k9 kB
  have HK7:=Lib.hid m7
  have HK9:=Lib.hid m9
  have HKB:=Lib.hid mB
  obtain⟨c70,c71,c72,c73,c74,c75⟩:=m7.cells
  obtain⟨f70,f71,f72,f73,f74,f75⟩:=m7.qP
  obtain⟨c90,c91,c92,c93,c94,c95⟩:=m9.cells
  obtain⟨f90,f91,f92,f93,f94,f95⟩:=m9.qP
  clear m7 m9 mB
  go_wp2_with fail
  refine bodyPost_ret (uX _ _ b7 _ _ _ _ _ rfl ((((((((HK7.out.far (o:=4) (v:=Value.int IntKind.i64 0) hne).j8 5).jF t).qD ⟨#[]⟩).qO 0).j5 0).yH))) rfl ?_
  exact⟨rfl,(((((((HKB.out.setCell H9.out _).setCell H7.out _).setCell H7.out _).setCell H7.out _).setCell H7.out _).setCell H7.out _).setCell H7.out _)⟩
end Go.Proofs.YtljhmnnhfnmhmaaGreatDoor.M
set_option maxHeartbeats 4000000
set_option maxRecDepth 100000
namespace Go.Proofs.YtljhmnnhfnmhmaaGreatDoor.M
open Go Go.RowKit Go.Proofs.YtljhmnnhfnmhmaaGreatDoorW.PrintWords Go.Proofs.YtljhmnnhfnmhmaaGreatDoorW.PrintLast Go.Proofs.YtljhmnnhfnmhmaaGreatDoorW.PrintMore
structure Chg (S:Nat→Prop) (w w':World):Prop where
 os:w'.os=w.os
 tape:w'.tape=w.tape
 output:w'.output=w.output
 size:w.heap.size≤w'.heap.size
 block:∀ k,k < w.heap.size→¬ S k→w'.heap[k]?=w.heap[k]?
theorem Chg.refl (S:Nat→Prop) (w:World):Chg S w w:=⟨rfl,rfl,rfl,Nat.le_refl _,fun _ _ _=>rfl⟩
theorem Chg.trans {S:Nat→Prop} {a b c:World} (h:Chg S a b) (k:Chg S b c):Chg S a c :=
 ⟨k.os.trans h.os,k.tape.trans h.tape,k.output.trans h.output,Nat.le_trans h.size k.size,fun i hi hn=>(k.block i (Nat.lt_of_lt_of_le hi h.size) hn).trans (h.block i hi hn)⟩
theorem Chg.mono {S S':Nat→Prop} {a b:World} (h:Chg S a b) (hs:∀ k,S k→S' k):Chg S' a b:=⟨h.os,h.tape,h.output,h.size,fun i hi hn=>h.block i hi (fun hk=>hn (hs i hk))⟩
theorem Chg.vL {S:Nat→Prop} {a b:World} (h:Below a.heap.size a b):Chg S a b:=⟨h.os,h.tape,h.output,h.size,fun i hi _=>h.block i hi⟩
theorem Chg.grown {S:Nat→Prop} {a b:World} {row:Option Nat} (h:a.grownBy b row) (hr:∀ k,row=some k→S k):Chg S a b:=⟨h.os,h.tape,h.output,h.size,fun i hi hn=>h.block i hi (fun e=>hn (hr i e.symm))⟩
theorem Chg.setCell {S:Nat→Prop} {a b:World} (h:Chg S a b) (p:Addr) (hp:S p.block) (v:Value):Chg S a (b.setCell p v) :=
 ⟨h.os,h.tape,h.output,by have:=h.size;simpa [World.setCell] using this,fun i hi hn=>(Below.heap_setCell b p v i (fun e=>hn (e ▸ hp))).trans (h.block i hi hn)⟩
theorem Chg.below {S:Nat→Prop} {a b:World} (h:Chg S a b) {B:Nat} (hB:B≤a.heap.size) (hs:∀ k,S k→B≤k):Below B a b :=
 ⟨h.os,h.tape,h.output,h.size,fun i hi=>h.block i (Nat.lt_of_lt_of_le hi hB) (fun hk=>by have:=hs i hk;omega)⟩
theorem Chg.heap {S:Nat→Prop} {a b:World} (h:Chg S a b) {k:Nat} {o:Obj} (hk:a.heap[k]?=some o) (hn:¬ S k):b.heap[k]?=some o:=(h.block k (xW hk) hn).trans hk
def Bld (b base:Nat) (ok:Nat→Prop) (bs:List Int) (w:World):Prop :=
 ∃ p v,w.heap[b]?=some (.cells #[p,v] 67 (0,0))∧(p = .pointer none∨p = .pointer (some ⟨b,0,none⟩))∧Kd.R (Kd.int .u8) 5 w base ok v bs
theorem Bld.mono {b base:Nat} {ok ok':Nat→Prop} {bs:List Int} {w:World} (h:Bld b base ok bs w) (hs:∀ k,ok k→ok' k):Bld b base ok' bs w:=by
 obtain⟨p,v,h1,h2,h3⟩:=h
 exact⟨p,v,h1,h2,Kd.xG h3 hs⟩
theorem Bld.chg {b base:Nat} {ok S:Nat→Prop} {bs:List Int} {w w':World} (h:Bld b base ok bs w) (hc:Chg S w w') (hb:¬ S b) (hok:∀ k,ok k→¬ S k):Bld b base ok bs w':=by
 obtain⟨p,v,h1,h2,h3⟩:=h
 exact⟨p,v,hc.heap h1 hb,h2,Kd.wS h3 (fun k ho hk=>hc.block k hk (hok k ho))⟩
theorem liesB:liesAt Tryz.prog Tryz.prog.depth 67 (2 / Tryz.prog.cellsOf 67) 0 67 1=true:=by kernel_rfl
theorem zKn:(Tryz.prog.info? 67).map (fun i=>i.size)=some 2:=by kernel_rfl
theorem VA (b:Nat) (w:World) (h0:w.cell? ⟨b,0,none⟩=some (.pointer (some ⟨b,0,none⟩))) :
  Calls Tryz.prog 70 #[.pointer (some ⟨b,0,none⟩)] w fun e w'=>e = .returned (.tuple #[])∧w'=w:=by
 obtain⟨j,hj,_⟩:=Option.map_eq_some_iff.1 zKn
 go_enter Tryz.func70,Tryz.ntmps70
 go_wp2
 rw [Lib.run_neq_ptr_same w _ Tryz.underlying65 hj]
 go_wp2
 go_end0
 exact⟨rfl,rfl⟩
theorem XE (b:Nat) (v:Value) (w:World) (hb:w.heap[b]?=some (.cells #[.pointer none,v] 67 (0,0))) :
  Calls Tryz.prog 70 #[.pointer (some ⟨b,0,none⟩)] w fun e w'=>e = .returned (.tuple #[])∧w'=w.setCell ⟨b,0,none⟩ (.pointer (some ⟨b,0,none⟩)):=by
 obtain⟨j,hj,hjs⟩:=Option.map_eq_some_iff.1 zKn
 have h0:w.cell? ⟨b,0,none⟩=some (.pointer none):=zB hb 0 _ rfl
 have hfz:w.frozen? ⟨b,0,none⟩=false:=zC hb _
 have hsh:w.shape? b=some (67,2):=by simp [World.shape?,hb]
 clear hb
 go_enter Tryz.func70,Tryz.ntmps70
 go_wp2
 rw [Lib.run_to_unsafe w ⟨b,0,none⟩ Tryz.underlying65 Tryz.underlying105 hj (by rw [hjs];decide) hsh (Nat.zero_lt_succ 1)]
 simp only [Result.andThen]
 rw [Oper.upon_value]
 go_wp2
 rw [run_callFunc_extern Tryz.func89 (by kernel_rfl) (by kernel_rfl) (by kernel_rfl) (e:=Extern.AbiNoEscape.same) (by kernel_rfl)]
 rw [Lib.run_noEscape]
 simp only [Result.andThen]
 rw [Oper.upon_value]
 go_wp2
 rw [Lib.run_from_unsafe w ⟨b,0,none⟩ Tryz.underlying105 Tryz.underlying65 hj hsh liesB]
 simp only [Result.andThen]
 rw [Oper.upon_value]
 go_wp2
 go_end0
 exact⟨rfl,rfl⟩
theorem uM (b:Nat) (p v:Value) (w:World) (hb:w.heap[b]?=some (.cells #[p,v] 67 (0,0))) (hp:p = .pointer none∨p = .pointer (some ⟨b,0,none⟩)) :
  Calls Tryz.prog 70 #[.pointer (some ⟨b,0,none⟩)] w fun e w'=>e = .returned (.tuple #[])∧w'.heap[b]?=some (.cells #[.pointer (some ⟨b,0,none⟩),v] 67 (0,0))∧Chg (fun k=>k=b) w w':=by
 rcases hp with rfl|rfl
 ·
  refine(XE b v w hb).mono ?_
  rintro e w' ⟨rfl,rfl⟩
  exact⟨rfl,heap_setCell_same w b 0 _ 67 _ hb,Chg.setCell (S:=fun k=>k=b) (Chg.refl _ w) ⟨b,0,none⟩ rfl _⟩
 ·
  refine(VA b w (zB hb 0 _ rfl)).mono ?_
  rintro e w' ⟨rfl,rfl⟩
  exact⟨rfl,hb,Chg.refl _ _⟩
def BS (b:Nat) (ok:Nat→Prop) (k:Nat):Prop:=k=b∨ok k
theorem zBk {b base:Nat} {ok:Nat→Prop} {bs:List Int} {p v v':Value} {w:World} (hb:w.heap[b]?=some (.cells #[p,v] 67 (0,0))) (hp:p = .pointer none∨p = .pointer (some ⟨b,0,none⟩)) (hv:Kd.R (Kd.int .u8) 5 w base ok v' bs) (hn:∀ k,ok k→k≠b):Bld b base ok bs (w.setCell ⟨b,1,none⟩ v') :=
 ⟨p,v',heap_setCell_same w b 1 _ 67 _ hb,hp,Kd.vE hv (p:=⟨b,1,none⟩) hn _⟩
theorem qL (b base:Nat) (ok:Nat→Prop) (bs:List Int) (c:Int) (w:World) (h:Bld b base ok bs w) (hok:∀ k,ok k→base≤k∧k≠b) (hf:∀ k,w.heap.size≤k→ok k) (hob:base≤b) (hl:bs.length+1≤140737488355328) :
  Calls Tryz.prog 44 #[.pointer (some ⟨b,0,none⟩), .int .u8 c] w fun e w'=>e = .returned .nilIface∧Bld b base ok (bs ++ [c]) w'∧Chg (BS b ok) w w':=by
 obtain⟨p,v,hb,hp,hv⟩:=h
 have hbl:=xW hb
 have HC:=Lib.hid (uM b p v w hb hp)
 have HV:=Lib.hid hv
 have HK:=Lib.hid (And.intro hok hf)
 clear hb hp hv hok hf
 go_enter Tryz.func44,Tryz.ntmps44
 go_wp2_with fail
 refine HC.out.mono ?_
 rintro e w1 ⟨rfl,hb1,hc1⟩
 have hok:=HK.out.1
 have hf:=HK.out.2
 have hv1:Kd.R (Kd.int .u8) 5 w1 base ok v bs:=Kd.wS HV.out (fun k ho hk=>hc1.block k hk (hok k ho).2)
 have c0:w1.cell? ⟨b,0,none⟩=some (.pointer (some ⟨b,0,none⟩)):=zB hb1 0 _ rfl
 have c1:w1.cell? ⟨b,1,none⟩=some v:=zB hb1 1 _ rfl
 have HB1:=Lib.hid (And.intro hb1 (And.intro hc1 hv1))
 have HB2:=Lib.hid (Chg.below hc1 (B:=base) (by omega) (fun k hk=>by omega))
 have HF:=Lib.hid (fun k (hk:w1.heap.size≤k)=>hf k (Nat.le_trans hc1.size hk))
 have hz:base≤w1.heap.size:=by have:=hc1.size;omega
 clear hok hf hv1 hb1 hc1
 go_wp2_with (at_builtin;refine Kd.qE (Kd.int .u8) (w0:=w) base rfl _ _ 63 5 (.int .u8 0) 1 rfl Tryz.underlying63 G.kK rfl (by decide) (by omega) v bs c [.int .u8 c] ok (fun _=>False) rfl rfl rfl (fun _ hk=>hk.elim) HF.out HB1.out.2.2 HB2.out hz (by omega) ?_)
 intro v1 w2 hr hb2 hg hat
 have hok:=HK.out.1
 have hbk:w2.heap[b]?=some (.cells #[.pointer (some ⟨b,0,none⟩),v] 67 (0,0)):=by
  refine(hg.block b (xW HB1.out.1) ?_).trans HB1.out.1
  intro e
  exact(hok b (HV.out.1 b e.symm)).2 rfl
 have hch:Chg (BS b ok) w w2:=(HB1.out.2.1.mono (fun k hk => .inl hk)).trans (Chg.grown hg (fun k hk => .inr (HV.out.1 k hk)))
 obtain⟨g,cap,hv1,_⟩:=Kd.uG hr (by simp)
 subst hv1
 generalize hnn:(bs ++ [c]).length=nn at hr ⊢
 clear hnn
 have d0:w2.cell? ⟨b,0,none⟩=some (.pointer (some ⟨b,0,none⟩)):=zB hbk 0 _ rfl
 have d1:w2.cell? ⟨b,1,none⟩=some v:=zB hbk 1 _ rfl
 have f1:w2.frozen? ⟨b,1,none⟩=false:=zC hbk _
 have HR:=Lib.hid (And.intro hr (And.intro hbk hch))
 clear hr hbk hch hg hat hb2 hok c0 c1
 go_wp2_with fail
 go_ret
 exact⟨rfl,zBk HR.out.2.1 (.inr rfl) HR.out.1 (fun k hk=>(HK.out.1 k hk).2),HR.out.2.2.setCell _ (.inl rfl) _⟩
theorem yA (b base:Nat) (ok:Nat→Prop) (bs:List Int) (s:ByteArray) (w:World) (h:Bld b base ok bs w) (hok:∀ k,ok k→base≤k∧k≠b) (hf:∀ k,w.heap.size≤k→ok k) (hob:base≤b) (hl:bs.length+s.size≤140737488355328) :
  Calls Tryz.prog 46 #[.pointer (some ⟨b,0,none⟩), .string s] w fun e w'=>e = .returned (.tuple #[.int .i64 (s.size:Int), .nilIface])∧Bld b base ok (bs ++ bytesOf s) w'∧Chg (BS b ok) w w':=by
 obtain⟨p,v,hb,hp,hv⟩:=h
 have hbl:=xW hb
 have HC:=Lib.hid (uM b p v w hb hp)
 have HV:=Lib.hid hv
 have HK:=Lib.hid (And.intro hok hf)
 clear hb hp hv hok hf
 go_enter Tryz.func46,Tryz.ntmps46
 go_wp2_with fail
 refine HC.out.mono ?_
 rintro e w1 ⟨rfl,hb1,hc1⟩
 have hok:=HK.out.1
 have hf:=HK.out.2
 have hv1:Kd.R (Kd.int .u8) 5 w1 base ok v bs:=Kd.wS HV.out (fun k ho hk=>hc1.block k hk (hok k ho).2)
 have c0:w1.cell? ⟨b,0,none⟩=some (.pointer (some ⟨b,0,none⟩)):=zB hb1 0 _ rfl
 have c1:w1.cell? ⟨b,1,none⟩=some v:=zB hb1 1 _ rfl
 have HB1:=Lib.hid (And.intro hb1 (And.intro hc1 hv1))
 have HB2:=Lib.hid (Chg.below hc1 (B:=base) (by omega) (fun k hk=>by omega))
 have HF:=Lib.hid (fun k (hk:w1.heap.size≤k)=>hf k (Nat.le_trans hc1.size hk))
 have hz:base≤w1.heap.size:=by have:=hc1.size;omega
 clear hok hf hv1 hb1 hc1
 go_wp2_with (at_builtin;refine Own.y7 (w0:=w) base rfl _ _ 63 9 5 rfl Tryz.underlying63 Tryz.underlying9 G.kK v bs s ok rfl rfl HF.out HB1.out.2.2 HB2.out hz (by omega) ?_)
 intro v1 w2 hr hb2 hg hat
 have hok:=HK.out.1
 have hbk:w2.heap[b]?=some (.cells #[.pointer (some ⟨b,0,none⟩),v] 67 (0,0)):=by
  refine(hg.block b (xW HB1.out.1) ?_).trans HB1.out.1
  intro e
  exact(hok b (HV.out.1 b e.symm)).2 rfl
 have hch:Chg (BS b ok) w w2:=(HB1.out.2.1.mono (fun k hk => .inl hk)).trans (Chg.grown hg (fun k hk => .inr (HV.out.1 k hk)))
 obtain⟨A,n,cap,hv1⟩:∃ A n cap,v1 = .slice A n cap:=by
  rcases (Kd.y9 hr).2 with ⟨hv,_⟩|⟨g,cap,cur,hv,_⟩
  ·
   exact⟨_,_,_,hv⟩
  ·
   exact⟨_,_,_,hv⟩
 subst hv1
 have d0:w2.cell? ⟨b,0,none⟩=some (.pointer (some ⟨b,0,none⟩)):=zB hbk 0 _ rfl
 have d1:w2.cell? ⟨b,1,none⟩=some v:=zB hbk 1 _ rfl
 have f1:w2.frozen? ⟨b,1,none⟩=false:=zC hbk _
 have HR:=Lib.hid (And.intro hr (And.intro hbk hch))
 clear hr hbk hch hg hat hb2 hok c0 c1
 go_wp2_with fail
 go_ret2
 exact⟨rfl,zBk HR.out.2.1 (.inr rfl) HR.out.1 (fun k hk=>(HK.out.1 k hk).2),HR.out.2.2.setCell _ (.inl rfl) _⟩
theorem uL (b base:Nat) (ok:Nat→Prop) (bs:List Int) (w:World) (h:Bld b base ok bs w) (hok:∀ k,ok k→base≤k∧k≠b) (hob:base≤b) (hne:bs≠[]) (hrg:Rng bs) :
  Calls Tryz.prog 47 #[.pointer (some ⟨b,0,none⟩)] w fun e w'=>e = .returned (.string (strOfNums bs))∧Below base w w':=by
 obtain⟨p,v,hb,hp,hv⟩:=h
 have hbl:=xW hb
 have hown:=Kd.y9 hv
 have hl0:bs.length≠0:=by simpa using hne
 obtain⟨l,hl⟩:∃ l:List UInt8,l=bs.map (fun z=>UInt8.ofNat z.toNat):=⟨_,rfl⟩
 have hll:l.length=bs.length:=by rw [hl,List.length_map]
 have hlne:l≠[]:=by intro e;rw [e] at hll;simp at hll;omega
 have hstr:strOfNums bs=⟨l.toArray⟩:=by rw [hl];rfl
 obtain⟨g,cap,cur,rfl,hbg,hg,hnc,hcm,hcs,htake⟩:∃ g cap cur,v = .slice (some ⟨g,0,none⟩) bs.length cap∧base≤g∧w.heap[g]?=some (.cells cur 5 (0,0))∧bs.length≤cap∧cap≤maxLen∧cur.size=cap * 1∧cur.toList.take (bs.length * 1)=WQ .u8 bs:=by
  rcases hown.2 with ⟨_,hz⟩|⟨g,cap,cur,hv,r⟩
  ·
   exact absurd hz hl0
  ·
   exact⟨g,cap,cur,hv,r⟩
 have c1:w.drew.cell? ⟨b,1,none⟩=some (.slice (some ⟨g,0,none⟩) bs.length cap):=zB (W:=w.drew) hb 1 _ rfl
 have hSD:(Builtin.unsafeSliceData_ #[63] 91 #[.slice (some ⟨g,0,none⟩) bs.length cap]).run Tryz.prog w.drew = .ok (.pointer (some ⟨g,0,none⟩)) w.drew :=
  Lib.run_unsafeSliceData_row _ _ _ _ _ _ (by omega)
 have hUS:(Builtin.unsafeString_ #[91,3] 9 #[.pointer (some ⟨g,0,none⟩), .int .i64 (bs.length:Int)]).run Tryz.prog w.drew = .ok (.string ⟨l.toArray⟩) (w.drew.freeze ⟨g,0,none⟩ bs.length):=by
  have hg':w.drew.heap[g]?=some (.cells cur 5 (0,0)):=hg
  rw [← hll]
  refine Lib.run_unsafeString_row w.drew 91 3 9 5 Tryz.underlying91 (by kernel_rfl) g cur.size (by simp [World.shape?,hg']) l hlne (by omega) (by unfold maxLen at hcm;omega) ?_
  intro j x hx
  have hjl:j < bs.length:=by
   rw [← hll]
   exact(List.getElem?_eq_some_iff.1 hx).1
  have hx2:x=UInt8.ofNat (bs[j].toNat):=by
   rw [hl,List.getElem?_map,List.getElem?_eq_getElem hjl] at hx
   simpa using hx.symm
  have hz:=hrg bs[j] (List.getElem_mem hjl)
  have:=hown.cells (g:=g) rfl j (.int .u8 bs[j]) (by unfold VD;rw [List.getElem?_map,List.getElem?_eq_getElem hjl];rfl)
  rw [hx2]
  have he:((UInt8.ofNat (bs[j].toNat)).toNat:Int)=bs[j]:=by rw [UInt8.toNat_ofNat'];omega
  rw [he]
  exact this
 rw [hstr]
 clear hown hv htake hcs hstr hl hrg hne
 have mixed:Tryz.prog.follows Departure.mixedOrders=true:=by kernel_rfl
 go_enter Tryz.func47,Tryz.ntmps47
 go_wp2
 go_region_o
 all_goals (go_wp2;go_ret;exact⟨rfl,Lib.below_freeze (Below.drew (Below.refl base w)) (p:=⟨g,0,none⟩) hbg _⟩)
end Go.Proofs.YtljhmnnhfnmhmaaGreatDoor.M
