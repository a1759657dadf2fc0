/-
Lemmas of this claim; made short by a program of this work.
-/
import Derived.Test.YtljhmnnhfnmhmaaGreatDoorUFeA
import Derived.Test.YtljhmnnhfnmhmaaGreatDoorUM0
import Derived.Test.YtljhmnnhfnmhmaaGreatDoorUM37
set_option linter.unusedVariables false
set_option linter.unusedSimpArgs false
namespace Go.Proofs.YtljhmnnhfnmhmaaGreatDoor.M
open Go Go.RowKit Go.Proofs.YtljhmnnhfnmhmaaGreatDoorW.PrintWords
theorem Bld.bound {b base:Nat} {ok:Nat→Prop} {bs:List Int} {w:World} (h:Bld b base ok bs w):Bld b base (fun k=>ok k∧k < w.heap.size) bs w:=by
 obtain⟨p,v,h1,h2,h3⟩:=h
 exact⟨p,v,h1,h2,Kd.xG (Kd.jK h3) (fun k hk=>⟨hk.1,hk.2.2.1⟩)⟩
theorem Bld.lt {b base:Nat} {ok:Nat→Prop} {bs:List Int} {w:World} (h:Bld b base ok bs w):b < w.heap.size:=by
 obtain⟨p,v,h1,_⟩:=h
 exact xW h1
def okC (B0 B n b1 b2 b3 k:Nat):Prop:=B0≤k∧k≠b1∧k≠b2∧k≠b3∧(k < B∨n≤k)
structure ItB (w0:World) (m0 B bo bb bi:Nat) (oo:Obj) (X:Nat→List Int) (n k:Nat) (w:World):Prop where
 nb:B≤n
 low:Below w0.heap.size w0 w
 tab:Tb m0 w
 cnt:w.heap[bi]?=some (.cells #[.int .i64 (k:Int)] 3 (0,0))
 obj:w.heap[bo]?=some oo
 bld:Bld bb w0.heap.size (okC w0.heap.size B n bo bb bi) (X k) w
structure zGf (w0:World) (m0 B bo bb bi:Nat):Prop where
 m:m0≤w0.heap.size
 bo1:w0.heap.size≤bo
 bo2:bo < B
 bb1:w0.heap.size≤bb
 bb2:bb < B
 bi1:w0.heap.size≤bi
 bi2:bi < B
 n1:bi≠bb
 n2:bo≠bb
 n3:bo≠bi
theorem ItB.XM {w0:World} {m0 B bo bb bi:Nat} {oo:Obj} {X:Nat→List Int} (hc:zGf w0 m0 B bo bb bi):∀ n k w1 w2,ItB w0 m0 B bo bb bi oo X n k w1→Chg (fun b=>B≤b∧b < n) w1 w2→ItB w0 m0 B bo bb bi oo X n k w2:=by
 intro n k w1 w2 h hg
 have hb:Below w0.heap.size w1 w2:=hg.below h.low.size (fun k hk=>by have:=hc.bo1;have:=hc.bo2;omega)
 exact⟨h.nb,h.low.trans hb,h.tab.below (hb.mono hc.m),hg.heap h.cnt (by have:=hc.bi2;omega),hg.heap h.obj (by have:=hc.bo2;omega),h.bld.chg hg (by have:=hc.bb2;omega) (fun k hk=>by unfold okC at hk;omega)⟩
theorem ItB.iter {w0 w:World} {m0 bo bb bi:Nat} {oo:Obj} {X:Nat→List Int} (hc:zGf w0 m0 w.heap.size bo bb bi) (h:ItB w0 m0 w.heap.size bo bb bi oo X w.heap.size 0 w):Iter w.heap.size m0 (ItB w0 m0 w.heap.size bo bb bi oo X) w where
 start:=fun n hn=>⟨hn,h.low,h.tab,h.cnt,h.obj,h.bld.bound.mono (fun k hk=>by unfold okC at hk ⊢;omega)⟩
 XM:=ItB.XM hc
 tab:=fun n k w1 h=>h.tab
theorem ItB.step {w0:World} {m0 B bo bb bi:Nat} {oo:Obj} {X:Nat→List Int} (hc:zGf w0 m0 B bo bb bi) {n k:Nat} {w w2:World} (h:ItB w0 m0 B bo bb bi oo X n k w) (hn:n≤w.heap.size) (hg:Chg (BS bb (okC w0.heap.size B n bo bb bi)) w w2) (hb:Bld bb w0.heap.size (okC w0.heap.size B n bo bb bi) (X (k+1)) w2) :
  ItB w0 m0 B bo bb bi oo X n (k+1) (w2.setCell ⟨bi,0,none⟩ (.int .i64 ((k:Int)+1)))∧Chg (fun b=>¬ (B≤b∧b < n)) w (w2.setCell ⟨bi,0,none⟩ (.int .i64 ((k:Int)+1))):=by
 have hBn:=h.nb
 have h1:=hc.bo1
 have h2:=hc.bo2
 have h3:=hc.bb1
 have h4:=hc.bb2
 have h5:=hc.bi1
 have h6:=hc.bi2
 have n1:=hc.n1
 have n2:=hc.n2
 have n3:=hc.n3
 have hgl:Below w0.heap.size w w2:=hg.below h.low.size (fun k hk=>by unfold BS okC at hk;omega)
 have hci:=hg.heap h.cnt (by unfold BS okC;omega)
 have hco:=hg.heap h.obj (by unfold BS okC;omega)
 refine⟨⟨hBn,(h.low.trans hgl).setCell (p:=⟨bi,0,none⟩) h5 _,h.tab.below ((hgl.mono hc.m).setCell (p:=⟨bi,0,none⟩) (by have:=hc.m;show m0≤bi;omega) _),?_,?_,?_⟩,?_⟩
 ·
  have:=heap_setCell_same w2 bi 0 _ 3 (.int .i64 ((k:Int)+1)) hci
  exact this
 ·
  exact(heap_setCell_other w2 ⟨bi,0,none⟩ bo _ n3).trans hco
 ·
  obtain⟨p,v,g1,g2,g3⟩:=hb
  exact⟨p,v,(heap_setCell_other w2 ⟨bi,0,none⟩ bb _ (Ne.symm n1)).trans g1,g2,Kd.vE g3 (p:=⟨bi,0,none⟩) (fun k hk=>by unfold okC at hk;exact hk.2.2.2.1) _⟩
 ·
  exact(hg.mono (fun k hk=>by unfold BS okC at hk;omega)).setCell ⟨bi,0,none⟩ (by show ¬ (B≤bi∧bi < n);omega) _
end Go.Proofs.YtljhmnnhfnmhmaaGreatDoor.M
namespace Go.Proofs.YtljhmnnhfnmhmaaGreatDoor.M
open Go Go.RowKit Go.Proofs.YtljhmnnhfnmhmaaGreatDoorW.PrintWords
end Go.Proofs.YtljhmnnhfnmhmaaGreatDoor.M
namespace Go.Proofs.YtljhmnnhfnmhmaaGreatDoor.M
open Go Go.RowKit Go.Proofs.YtljhmnnhfnmhmaaGreatDoorW.PrintWords
attribute [local go_sem] xL
end Go.Proofs.YtljhmnnhfnmhmaaGreatDoor.M
set_option maxHeartbeats 4000000
set_option maxRecDepth 100000
namespace Go.Proofs.YtljhmnnhfnmhmaaGreatDoor.M
open Go Go.RowKit Go.Lib Go.Proofs.YtljhmnnhfnmhmaaGreatDoorW.PrintWords Go.Proofs.YtljhmnnhfnmhmaaGreatDoorW.PrintLast Go.Proofs.YtljhmnnhfnmhmaaGreatDoorW.PrintMore
theorem yX (v:Value) (xs:List Int) (w0 w:World) (h:Buf w0 w v xs):Calls Tryz.prog 40 #[v] w fun e w'=>e = .returned (.string (strOfNums xs))∧Below w.heap.size w w':=by
 have hcv:=ZO (P:=Tryz.prog) Tryz.underlying63 Tryz.underlying5 Tryz.underlying9 (Kd.y9 h)
 go_enter Tryz.func40,Tryz.ntmps40
 go_wp2
 go_ret
 exact⟨rfl,Zq7⟩
end Go.Proofs.YtljhmnnhfnmhmaaGreatDoor.M
namespace Go.Proofs.YtljhmnnhfnmhmaaGreatDoor.M
open Go Go.RowKit Go.Proofs.YtljhmnnhfnmhmaaGreatDoorW.PrintWords
attribute [local go_sem] xL
end Go.Proofs.YtljhmnnhfnmhmaaGreatDoor.M
set_option maxHeartbeats 8000000
set_option maxRecDepth 100000
namespace Go.Proofs.YtljhmnnhfnmhmaaGreatDoor.M
open Go Go.RowKit Go.Proofs.YtljhmnnhfnmhmaaGreatDoorW.PrintWords
attribute [local go_sem] xL
theorem zAu {w0:World} {m0 B bo bb bi:Nat} {oo:Obj} {X:Nat→List Int} (hc:zGf w0 m0 B bo bb bi) {n k:Nat} {w:World} (h:ItB w0 m0 B bo bb bi oo X n k w) (hn:n≤w.heap.size) (kr vr str str2:ByteArray) (num num2:Nat) (tk ix ix2 ty:Int)
  (hX:X (k+1)=(if k=0 then X k else X k ++ [44]) ++ bytesOf vr) (hl:(X (k+1)).length≤1099511627776) (hk:k≤1099511627776) :
  Calls Tryz.prog 48 #[Rv tk kr str num ix,Rv ty vr str2 num2 ix2, .pointer (some ⟨bi,0,none⟩), .pointer (some ⟨bb,0,none⟩)] w
   (fun e w2=>e = .returned (.bool true)∧ItB w0 m0 B bo bb bi oo X n (k+1) w2∧Chg (fun b=>¬ (B≤b∧b < n)) w w2):=by
 have hBn:=h.nb
 have hbi:=xW h.cnt
 have hbo:=xW h.obj
 have hbb:=h.bld.lt
 have hlo:=h.low.size
 have cI:((w.alloc (Obj.cells #[Value.int IntKind.i64 tk,Value.string kr,Value.string str,Value.float FloatKind.f64 num,Value.int IntKind.i64 ix,Value.slice none 0 0] 57)).alloc (Obj.cells #[Value.int IntKind.i64 ty,Value.string vr,Value.string str2,Value.float FloatKind.f64 num2,Value.int IntKind.i64 ix2,Value.slice none 0 0] 57)).cell? ⟨bi,0,none⟩=some (.int .i64 (k:Int)):=zB (xF h.cnt (zD (zD (Below.refl _ _) _) _)) 0 _ rfl
 have hBW:Below w.heap.size w ((w.alloc (Obj.cells #[Value.int IntKind.i64 tk,Value.string kr,Value.string str,Value.float FloatKind.f64 num,Value.int IntKind.i64 ix,Value.slice none 0 0] 57)).alloc (Obj.cells #[Value.int IntKind.i64 ty,Value.string vr,Value.string str2,Value.float FloatKind.f64 num2,Value.int IntKind.i64 ix2,Value.slice none 0 0] 57)):=zD (zD (Below.refl _ _) _) _
 have r1:Rs w.heap.size tk kr str num ix ((w.alloc (Obj.cells #[Value.int IntKind.i64 tk,Value.string kr,Value.string str,Value.float FloatKind.f64 num,Value.int IntKind.i64 ix,Value.slice none 0 0] 57)).alloc (Obj.cells #[Value.int IntKind.i64 ty,Value.string vr,Value.string str2,Value.float FloatKind.f64 num2,Value.int IntKind.i64 ix2,Value.slice none 0 0] 57)):=⟨xF (vQ w _) (zD (Below.refl _ _) _)⟩
 have r2:Rs (w.heap.size+1) ty vr str2 num2 ix2 ((w.alloc (Obj.cells #[Value.int IntKind.i64 tk,Value.string kr,Value.string str,Value.float FloatKind.f64 num,Value.int IntKind.i64 ix,Value.slice none 0 0] 57)).alloc (Obj.cells #[Value.int IntKind.i64 ty,Value.string vr,Value.string str2,Value.float FloatKind.f64 num2,Value.int IntKind.i64 ix2,Value.slice none 0 0] 57)):=⟨Zq78⟩
 have hsz:((w.alloc (Obj.cells #[Value.int IntKind.i64 tk,Value.string kr,Value.string str,Value.float FloatKind.f64 num,Value.int IntKind.i64 ix,Value.slice none 0 0] 57)).alloc (Obj.cells #[Value.int IntKind.i64 ty,Value.string vr,Value.string str2,Value.float FloatKind.f64 num2,Value.int IntKind.i64 ix2,Value.slice none 0 0] 57)).heap.size=w.heap.size+2:=by simp
 have HH:=Lib.hid (And.intro hc (And.intro h (And.intro hn hBn)))
 have HX:=Lib.hid (And.intro hX hl)
 have HB:=Lib.hid (And.intro hBW (And.intro r1 (And.intro r2 hsz)))
 have HN:=Lib.hid (And.intro hbi (And.intro hbo (And.intro hbb hlo)))
 clear hc h hX hl hBW r1 r2 hsz hbi hbo hbb hlo hn hBn
 unfold Rv
 go_enter Tryz.func48,Tryz.ntmps48
 go_upto_if 8 with fail
 have hBW:=HB.out.1
 have r1:=HB.out.2.1
 have r2:=HB.out.2.2.1
 have hsz:=HB.out.2.2.2
 clear HB
 generalize hgw:((w.alloc (Obj.cells #[Value.int IntKind.i64 tk,Value.string kr,Value.string str,Value.float FloatKind.f64 num,Value.int IntKind.i64 ix,Value.slice none 0 0] 57)).alloc (Obj.cells #[Value.int IntKind.i64 ty,Value.string vr,Value.string str2,Value.float FloatKind.f64 num2,Value.int IntKind.i64 ix2,Value.slice none 0 0] 57))=W0 at cI hBW r1 r2 hsz ⊢
 clear hgw
 obtain⟨x2,hx2⟩:∃ x,w.heap.size+1=x:=⟨_,rfl⟩
 obtain⟨x1,hx1⟩:∃ x,w.heap.size=x:=⟨_,rfl⟩
 rw [hx2] at r2 ⊢
 rw [hx1] at r1 ⊢
 have hx12:¬ x1=x2:=by omega
 have HXX:=Lib.hid (show w.heap.size≤x1∧w.heap.size≤x2 by omega)
 have hI:=HH.out.2.1
 have hcc:=HH.out.1
 have hok:∀ k,okC w0.heap.size B n bo bb bi k→w0.heap.size≤k∧k≠bo∧k≠bb∧k≠bi∧(k < B∨n≤k):=fun k hk=>hk
 have hbld:Bld bb w0.heap.size (fun k=>okC w0.heap.size B n bo bb bi k∧k≠x1∧k≠x2) (X k) W0:=((hI.bld.bound).chg (Chg.vL (S:=fun _=>False) hBW) (fun h=>h) (fun _ _ h=>h)).mono (fun k hk=>⟨hk.1,by omega,by omega⟩)
 have hko:∀ k,(okC w0.heap.size B n bo bb bi k∧k≠x1∧k≠x2)→w0.heap.size≤k∧k≠bb:=fun k hk=>⟨hk.1.1,hk.1.2.2.1⟩
 have hkf:∀ k,W0.heap.size≤k→(okC w0.heap.size B n bo bb bi k∧k≠x1∧k≠x2):=fun k hk=>by
  have:=HN.out
  have:=HH.out.2.2
  unfold okC
  omega
 have hbb1:=hcc.bb1
 have hgB:Chg (fun _=>False) w W0:=Chg.vL hBW
 have hO0:W0.heap[bo]?=some oo:=xF hI.obj hBW
 have hI0:W0.heap[bi]?=some (.cells #[.int .i64 (k:Int)] 3 (0,0)):=xF hI.cnt hBW
 have HR:=Lib.hid (And.intro r1 (And.intro r2 (And.intro hgB (And.intro hO0 hI0))))
 have HF:=Lib.hid (And.intro hko (And.intro hkf hbb1))
 have HBL:=Lib.hid hbld
 clear r1 r2 hgB hO0 hI0 hko hkf hbb1 hbld hok hcc hI hBW hsz hx1 hx2
 by_cases hk0:k=0
 ·
  subst hk0
  have hz:X 1=X 0 ++ bytesOf vr:=by have:=HX.out.1;simpa using this
  have hlen:(X 0).length+(vr).size≤1099511627776:=by have:=HX.out.2;rw [hz,List.length_append,zW] at this;exact this
  have HW:=Lib.hid (fun W hB hF=>yA bb w0.heap.size (fun k=>okC w0.heap.size B n bo bb bi k∧k≠x1∧k≠x2) (X 0) vr W hB HF.out.1 hF HF.out.2.2 (by omega))
  have HZ:=Lib.hid (And.intro hz hlen)
  clear hz hlen
  have hR1:=HR.out.1
  have hR2:=HR.out.2.1
  obtain⟨c10,c11,c12,c13,c14,c15⟩:=hR1.cells
  obtain⟨c20,c21,c22,c23,c24,c25⟩:=hR2.cells
  clear hR1 hR2
  go_wp2_with fail
  refine(HW.out W0 HBL.out HF.out.2.1).mono ?_
  rintro e w3 ⟨rfl,hb3,hg3⟩
  rw [← HZ.out.1] at hb3
  have hg:=HR.out.2.2.1.mono (S':=fun k=>BS bb (okC w0.heap.size B n bo bb bi) k) (fun k h=>h.elim)
  have hg4:=hg.trans (hg3.mono (S':=fun k=>BS bb (okC w0.heap.size B n bo bb bi) k) (fun k hk=>hk.imp id (fun h=>h.1)))
  have cnt3:=hg3.heap HR.out.2.2.2.2 zIp
  have cI3:w3.cell? ⟨bi,0,none⟩=some (.int .i64 (0:Nat)):=zB cnt3 0 _ rfl
  have fI3:w3.frozen? ⟨bi,0,none⟩=false:=zC cnt3 _
  have HS:=Lib.hid (HH.out.2.1.step HH.out.1 HH.out.2.2.1 hg4 (hb3.mono (fun k hk=>hk.1)))
  clear hb3 hg3 hg hg4 cnt3
  go_wp2_with fail
  go_ret
  exact⟨rfl,by simpa using HS.out.1,by simpa using HS.out.2⟩
 ·
  have hz:X (k+1)=(X k ++ [44]) ++ bytesOf vr:=by have:=HX.out.1;rw [if_neg hk0] at this;exact this
  have hlen:(X k ++ [44]).length+(vr).size≤1099511627776:=by have:=HX.out.2;rw [hz,List.length_append,zW] at this;exact this
  have hlen1:(X k).length+1≤1099511627776:=by rw [List.length_append] at hlen;simp at hlen;omega
  have HW1:=Lib.hid (fun W hB hF=>qL bb w0.heap.size (fun k=>okC w0.heap.size B n bo bb bi k∧k≠x1∧k≠x2) (X k) 44 W hB HF.out.1 hF HF.out.2.2 (by omega))
  have HW:=Lib.hid (fun W hB hF=>yA bb w0.heap.size (fun k=>okC w0.heap.size B n bo bb bi k∧k≠x1∧k≠x2) (X k ++ [44]) vr W hB HF.out.1 hF HF.out.2.2 (by omega))
  have HZ:=Lib.hid (And.intro hz hlen)
  clear hz hlen hlen1
  have hkp:(0:Int) < (k:Int):=by omega
  go_wp2_with fail
  refine(HW1.out W0 HBL.out HF.out.2.1).mono ?_
  rintro e w2 ⟨rfl,hb2,hg2⟩
  have hR1:Rs x1 tk kr str num ix w2:=⟨hg2.heap HR.out.1.blk Zq80⟩
  have hR2:Rs x2 ty vr str2 num2 ix2 w2:=⟨hg2.heap HR.out.2.1.blk Zq80⟩
  have hO2:=hg2.heap HR.out.2.2.2.1 (by have:=HH.out.1.n2;unfold BS okC;omega)
  have hI2:=hg2.heap HR.out.2.2.2.2 zIp
  obtain⟨c10,c11,c12,c13,c14,c15⟩:=hR1.cells
  obtain⟨c20,c21,c22,c23,c24,c25⟩:=hR2.cells
  have HG2:=Lib.hid (And.intro hb2 (And.intro hg2 hI2))
  clear hR1 hR2 hO2 hI2 hb2 hg2
  go_wp2_with fail
  refine(HW.out w2 HG2.out.1 (fun k hk=>HF.out.2.1 k (Nat.le_trans HG2.out.2.1.size hk))).mono ?_
  rintro e w3 ⟨rfl,hb3,hg3⟩
  rw [← HZ.out.1] at hb3
  have hg:=HR.out.2.2.1.mono (S':=fun k=>BS bb (okC w0.heap.size B n bo bb bi) k) (fun k h=>h.elim)
  have hg4:=(hg.trans (HG2.out.2.1.mono (S':=fun k=>BS bb (okC w0.heap.size B n bo bb bi) k) (fun k hk=>hk.imp id (fun h=>h.1)))).trans (hg3.mono (S':=fun k=>BS bb (okC w0.heap.size B n bo bb bi) k) (fun k hk=>hk.imp id (fun h=>h.1)))
  have cnt3:=hg3.heap HG2.out.2.2 zIp
  have cI3:w3.cell? ⟨bi,0,none⟩=some (.int .i64 (k:Int)):=zB cnt3 0 _ rfl
  have fI3:w3.frozen? ⟨bi,0,none⟩=false:=zC cnt3 _
  have HS:=Lib.hid (HH.out.2.1.step HH.out.1 HH.out.2.2.1 hg4 (hb3.mono (fun k hk=>hk.1)))
  clear hb3 hg3 hg hg4 cnt3
  go_wp2_with fail
  go_ret
  exact⟨rfl,by simpa using HS.out.1,by simpa using HS.out.2⟩
end Go.Proofs.YtljhmnnhfnmhmaaGreatDoor.M
namespace Go.Proofs.YtljhmnnhfnmhmaaGreatDoor.M
open Go Go.RowKit Go.Proofs.YtljhmnnhfnmhmaaGreatDoorW.PrintWords
attribute [local go_sem] xL
end Go.Proofs.YtljhmnnhfnmhmaaGreatDoor.M
namespace Go.Proofs.YtljhmnnhfnmhmaaGreatDoor.M
open Go.RowKit
def yR (S:ByteArray) (w:World) (e:Ending) (w':World):Prop:=e = .returned (.string S)∧Below w.heap.size w w'
theorem zJs (t S:ByteArray) (w:World) (h:Calls Tryz.prog 27 #[.string t, .string ⟨#[]⟩] w (yR S w)):Calls Tryz.prog 18 #[.string t] w (yR S w):=by
 unfold yR at h
 have H:=Lib.hid h
 clear h;unfold yR
 go_enter Tryz.func18,Tryz.ntmps18
 go_wp2_with fail
 refine H.out.mono ?_
 rintro e w1 ⟨rfl,h1⟩
 go_wp2_with fail
 go_ret
 exact⟨rfl,h1⟩
theorem XJ (t S:ByteArray) (w:World) (h:Calls Tryz.prog 27 #[.string t, .string ⟨#[]⟩] w (yR S w)):Calls Tryz.prog 8 #[.string t] w (yR S w):=by
 have h':=zJs t S w h
 unfold yR at h'
 have H:=Lib.hid h'
 clear h h';unfold yR
 go_enter Tryz.func8,Tryz.ntmps8
 go_wp2_with fail
 refine H.out.mono ?_
 rintro e w1 ⟨rfl,h1⟩
 go_wp2_with fail
 go_ret
 exact⟨rfl,h1⟩
end Go.Proofs.YtljhmnnhfnmhmaaGreatDoor.M
