/-
Lemmas of this claim; made short by a program of this work.
-/
import Derived.Test.YtljhmnnhfnmhmaaGreatDoorUM45
import Derived.Test.YtljhmnnhfnmhmaaGreatDoorUM32
import Derived.Test.YtljhmnnhfnmhmaaGreatDoorUGx12
import Derived.Test.YtljhmnnhfnmhmaaGreatDoorUM50
import Derived.Test.YtljhmnnhfnmhmaaGreatDoorUM51
import Derived.Test.YtljhmnnhfnmhmaaGreatDoorUM0
set_option linter.unusedVariables false
set_option linter.unusedSimpArgs false
set_option linter.unnecessarySimpa false
set_option maxHeartbeats 8000000
set_option maxRecDepth 100000
namespace Go.Proofs.YtljhmnnhfnmhmaaGreatDoor.M
open Go Go.RowKit Go.Proofs.YtljhmnnhfnmhmaaGreatDoorW.PrintWords Go.Proofs.YtljhmnnhfnmhmaaGreatDoorW.PrintLast Go.Proofs.YtljhmnnhfnmhmaaGreatDoor.G
theorem zEm (t:ByteArray) (w:World) (h:2147483647 < t.size):Calls Tryz.prog 3 #[.string t] w (zAv w):=by
 have hlt:(2147483647:Int) < (t.size:Int):=by omega
 go_enter Tryz.func3,Tryz.ntmps3
 go_wp2_with fail
 go_ret
 exact⟨rfl,by repeat (first|(with_reducible first|exact Below.refl _ _|apply zD|apply zH|apply zJ)|exact Below.refl _ _)⟩
theorem zF2 (t:ByteArray) (w:World) (h:¬ 2147483647 < t.size) (hB:Calls Tryz.prog 5 #[.string t] w (fun e w'=>Z8 w e w'∨∃ n,Z7 n false w e w')):Calls Tryz.prog 3 #[.string t] w (zAv w):=by
 have hlt:¬ (2147483647:Int) < (t.size:Int):=by omega
 have HB:=Lib.hid hB
 clear hB
 go_enter Tryz.func3,Tryz.ntmps3
 go_wp2_with fail
 refine HB.out.mono ?_
 rintro e w1 h1
 rcases h1 with ⟨rfl,hb1⟩|⟨n,v,rfl,⟨A2,c2,A3,c3,rfl,_⟩,hb1⟩
 ·
  have HB1:=Lib.hid hb1
  clear hb1
  unfold zKv
  go_wp2_with fail
  go_ret
  exact⟨rfl,zIq⟩
 ·
  have HB1:=Lib.hid hb1
  clear hb1
  go_wp2_with fail
  go_ret
  exact⟨rfl,zIq⟩
theorem zEl (t:ByteArray) (n:S25) (w:World) (h:¬ 2147483647 < t.size) (h6:¬ n.f0=6) (hB:Calls Tryz.prog 5 #[.string t] w (fun e w'=>Z7 n true w e w')):Calls Tryz.prog 3 #[.string t] w (zAv w):=by
 have hlt:¬ (2147483647:Int) < (t.size:Int):=by omega
 have h6b:(n.f0 != 6)=true:=bne_iff_ne.mpr h6
 have HB:=Lib.hid hB
 clear hB
 go_enter Tryz.func3,Tryz.ntmps3
 go_wp2_with fail
 refine HB.out.mono ?_
 rintro e w1 ⟨v,rfl,⟨A2,c2,A3,c3,rfl,_⟩,hb1⟩
 have HB1:=Lib.hid hb1
 clear hb1
 go_wp2_with fail
 go_ret
 exact⟨rfl,zIq⟩
end Go.Proofs.YtljhmnnhfnmhmaaGreatDoor.M
set_option maxHeartbeats 8000000
set_option maxRecDepth 100000
namespace Go.Proofs.YtljhmnnhfnmhmaaGreatDoor.M
open Go Go.RowKit Go.Proofs.YtljhmnnhfnmhmaaGreatDoorW.PrintWords Go.Proofs.YtljhmnnhfnmhmaaGreatDoorW.PrintLast Go.Proofs.YtljhmnnhfnmhmaaGreatDoor.G
theorem zHi (t K1 K2 V1 V2 X:ByteArray) (n a c:S25) (m0:Nat) (w:World) (h:¬ 2147483647 < t.size) (h6:n.f0=6) (hm:m0≤w.heap.size) (hT:Tb m0 w)
  (hB:Calls Tryz.prog 5 #[.string t] w (fun e w'=>Z7 n true w e w'))
  (c1:∀ W,m0≤W.heap.size→Tb m0 W→Calls Tryz.prog 7 #[.string t] W (yR K1 W))
  (c2:∀ W,m0≤W.heap.size→Tb m0 W→Calls Tryz.prog 6 #[.string K1] W (yR K2 W))
  (c3:∀ W,m0≤W.heap.size→Tb m0 W→Calls Tryz.prog 6 #[.string t] W (yR X W))
  (c4:∀ W,m0≤W.heap.size→Tb m0 W→Calls Tryz.prog 7 #[.string X] W (yR K2 W))
  (c5:∀ W,m0≤W.heap.size→Tb m0 W→Calls Tryz.prog 8 #[.string t] W (yR V1 W))
  (c6:∀ W,m0≤W.heap.size→Tb m0 W→Calls Tryz.prog 6 #[.string V1] W (yR V2 W))
  (c7:∀ W,m0≤W.heap.size→Tb m0 W→Calls Tryz.prog 8 #[.string X] W (yR V2 W))
  (r1:∀ W,Calls Tryz.prog 9 #[.string K2] W (uH a W)) (r2:∀ W,Calls Tryz.prog 9 #[.string V2] W (uH c W)) (ha:WB a) (hc:WB c) (hl:a.f3.length=n.f2.length) :
  Calls Tryz.prog 3 #[.string t] w (zAv w):=by
 have hlt:¬ (2147483647:Int) < (t.size:Int):=by omega
 have h6b:(n.f0 != 6)=false:=bne_eq_false_iff_eq.mpr h6
 have HB:=Lib.hid hB
 have HT:=Lib.hid (And.intro hm hT)
 unfold yR at c1 c2 c3 c4 c5 c6 c7
 have H1:=Lib.hid c1
 have H2:=Lib.hid c2
 have H3:=Lib.hid c3
 have H4:=Lib.hid c4
 have H5:=Lib.hid c5
 have H6:=Lib.hid c6
 have H7:=Lib.hid c7
 have HR1:=Lib.hid r1
 have HR2:=Lib.hid r2
 have HS:=Lib.hid (And.intro ha hc)
 have HL:=Lib.hid hl
 clear hB c1 c2 c3 c4 c5 c6 c7 r1 r2 ha hc hm hT hl
 go_enter Tryz.func3,Tryz.ntmps3
 go_wp2_with fail
 refine HB.out.mono ?_
 rintro e w1 ⟨v,rfl,⟨A2,c2,A3,c3,rfl,n2,n3⟩,hb1⟩
 have HN:=Lib.hid (And.intro n2 (And.intro n3 hb1))
 clear n2 n3 hb1
 have h6n:=h6
 go_wp2_with fail
 obtain⟨W0,hW0⟩:∃ W0,(w1.alloc (.cells #[.int .i64 6, .string n.f1, .slice A2 n.f2.length c2, .slice A3 n.f3.length c3] 25))=W0:=⟨_,rfl⟩
 have hB0:Below w.heap.size w W0:=by rw [← hW0];exact zD HN.out.2.2 _
 have g0:W0.heap[w1.heap.size]?=some (.cells #[.int .i64 6, .string n.f1, .slice A2 n.f2.length c2, .slice A3 n.f3.length c3] 25 (0,0)):=by rw [← hW0];simpa using heap_alloc_new w1 _
 rw [hW0]
 clear hW0
 have HG0:=Lib.hid (And.intro hB0 g0)
 clear hB0 g0
 refine(H1.out _ (Nat.le_trans HT.out.1 (xB HG0.out.1)) (HT.out.2.below (HG0.out.1.mono HT.out.1))).mono ?_
 rintro e u1 ⟨rfl,hb⟩
 have HG1:=Lib.hid (show Below w.heap.size w u1∧u1.heap[w1.heap.size]?=some (.cells #[.int .i64 6, .string n.f1, .slice A2 n.f2.length c2, .slice A3 n.f3.length c3] 25 (0,0)) from ⟨HG0.out.1.trans (hb.mono (xB HG0.out.1)),(hb.block _ (xW HG0.out.2)).trans HG0.out.2⟩)
 clear hb
 go_wp2_with fail
 refine(H2.out _ (Nat.le_trans HT.out.1 (xB HG1.out.1)) (HT.out.2.below (HG1.out.1.mono HT.out.1))).mono ?_
 rintro e u2 ⟨rfl,hb⟩
 have HG2:=Lib.hid (show Below w.heap.size w u2∧u2.heap[w1.heap.size]?=some (.cells #[.int .i64 6, .string n.f1, .slice A2 n.f2.length c2, .slice A3 n.f3.length c3] 25 (0,0)) from ⟨HG1.out.1.trans (hb.mono (xB HG1.out.1)),(hb.block _ (xW HG1.out.2)).trans HG1.out.2⟩)
 clear hb
 go_wp2_with fail
 refine(H3.out _ (Nat.le_trans HT.out.1 (xB HG2.out.1)) (HT.out.2.below (HG2.out.1.mono HT.out.1))).mono ?_
 rintro e u3 ⟨rfl,hb⟩
 have HG3:=Lib.hid (show Below w.heap.size w u3∧u3.heap[w1.heap.size]?=some (.cells #[.int .i64 6, .string n.f1, .slice A2 n.f2.length c2, .slice A3 n.f3.length c3] 25 (0,0)) from ⟨HG2.out.1.trans (hb.mono (xB HG2.out.1)),(hb.block _ (xW HG2.out.2)).trans HG2.out.2⟩)
 clear hb
 go_wp2_with fail
 refine(H4.out _ (Nat.le_trans HT.out.1 (xB HG3.out.1)) (HT.out.2.below (HG3.out.1.mono HT.out.1))).mono ?_
 rintro e u4 ⟨rfl,hb⟩
 have HG4:=Lib.hid (show Below w.heap.size w u4∧u4.heap[w1.heap.size]?=some (.cells #[.int .i64 6, .string n.f1, .slice A2 n.f2.length c2, .slice A3 n.f3.length c3] 25 (0,0)) from ⟨HG3.out.1.trans (hb.mono (xB HG3.out.1)),(hb.block _ (xW HG3.out.2)).trans HG3.out.2⟩)
 clear hb
 go_wp2_with fail
 refine(H5.out _ (Nat.le_trans HT.out.1 (xB HG4.out.1)) (HT.out.2.below (HG4.out.1.mono HT.out.1))).mono ?_
 rintro e u5 ⟨rfl,hb⟩
 have HG5:=Lib.hid (show Below w.heap.size w u5∧u5.heap[w1.heap.size]?=some (.cells #[.int .i64 6, .string n.f1, .slice A2 n.f2.length c2, .slice A3 n.f3.length c3] 25 (0,0)) from ⟨HG4.out.1.trans (hb.mono (xB HG4.out.1)),(hb.block _ (xW HG4.out.2)).trans HG4.out.2⟩)
 clear hb
 go_wp2_with fail
 refine(H6.out _ (Nat.le_trans HT.out.1 (xB HG5.out.1)) (HT.out.2.below (HG5.out.1.mono HT.out.1))).mono ?_
 rintro e u6 ⟨rfl,hb⟩
 have HG6:=Lib.hid (show Below w.heap.size w u6∧u6.heap[w1.heap.size]?=some (.cells #[.int .i64 6, .string n.f1, .slice A2 n.f2.length c2, .slice A3 n.f3.length c3] 25 (0,0)) from ⟨HG5.out.1.trans (hb.mono (xB HG5.out.1)),(hb.block _ (xW HG5.out.2)).trans HG5.out.2⟩)
 clear hb
 go_wp2_with fail
 refine(H3.out _ (Nat.le_trans HT.out.1 (xB HG6.out.1)) (HT.out.2.below (HG6.out.1.mono HT.out.1))).mono ?_
 rintro e u7 ⟨rfl,hb⟩
 have HG7:=Lib.hid (show Below w.heap.size w u7∧u7.heap[w1.heap.size]?=some (.cells #[.int .i64 6, .string n.f1, .slice A2 n.f2.length c2, .slice A3 n.f3.length c3] 25 (0,0)) from ⟨HG6.out.1.trans (hb.mono (xB HG6.out.1)),(hb.block _ (xW HG6.out.2)).trans HG6.out.2⟩)
 clear hb
 go_wp2_with fail
 refine(H7.out _ (Nat.le_trans HT.out.1 (xB HG7.out.1)) (HT.out.2.below (HG7.out.1.mono HT.out.1))).mono ?_
 rintro e u8 ⟨rfl,hb⟩
 have HG8:=Lib.hid (show Below w.heap.size w u8∧u8.heap[w1.heap.size]?=some (.cells #[.int .i64 6, .string n.f1, .slice A2 n.f2.length c2, .slice A3 n.f3.length c3] 25 (0,0)) from ⟨HG7.out.1.trans (hb.mono (xB HG7.out.1)),(hb.block _ (xW HG7.out.2)).trans HG7.out.2⟩)
 clear hb
 go_wp2_with fail
 refine(HR1.out u8).mono ?_
 rintro e x1 ⟨v,rfl,⟨P21,p21,P31,p31,rfl,y2,y3⟩,hb⟩
 have hn:NBk (x1.alloc (Obj.cells #[Value.int IntKind.i64 a.f0,Value.string a.f1,Value.slice P21 a.f2.length p21,Value.slice P31 a.f3.length p31] 25)) x1.heap.size a P21 p21 P31 p31:=NBk.new y2 y3
 have hbr:Below u8.heap.size u8 (x1.alloc (Obj.cells #[Value.int IntKind.i64 a.f0,Value.string a.f1,Value.slice P21 a.f2.length p21,Value.slice P31 a.f3.length p31] 25)):=zD hb _
 have HX1:=Lib.hid (show Below w.heap.size w (x1.alloc (Obj.cells #[Value.int IntKind.i64 a.f0,Value.string a.f1,Value.slice P21 a.f2.length p21,Value.slice P31 a.f3.length p31] 25))∧(x1.alloc (Obj.cells #[Value.int IntKind.i64 a.f0,Value.string a.f1,Value.slice P21 a.f2.length p21,Value.slice P31 a.f3.length p31] 25)).heap[w1.heap.size]?=some (.cells #[.int .i64 6, .string n.f1, .slice A2 n.f2.length c2, .slice A3 n.f3.length c3] 25 (0,0))∧NBk (x1.alloc (Obj.cells #[Value.int IntKind.i64 a.f0,Value.string a.f1,Value.slice P21 a.f2.length p21,Value.slice P31 a.f3.length p31] 25)) x1.heap.size a P21 p21 P31 p31 from ⟨HG8.out.1.trans (hbr.mono (xB HG8.out.1)),(hbr.block _ (xW HG8.out.2)).trans HG8.out.2,hn⟩)
 clear hn hbr y2 y3 hb HG8
 go_wp2_with fail
 generalize hX:(x1.alloc (Obj.cells #[Value.int IntKind.i64 a.f0,Value.string a.f1,Value.slice P21 a.f2.length p21,Value.slice P31 a.f3.length p31] 25))=X1 at HX1 ⊢
 clear hX
 refine(HR1.out X1).mono ?_
 rintro e x2 ⟨v,rfl,⟨P22,p22,P32,p32,rfl,y2,y3⟩,hb⟩
 have hn:NBk (x2.alloc (Obj.cells #[Value.int IntKind.i64 a.f0,Value.string a.f1,Value.slice P22 a.f2.length p22,Value.slice P32 a.f3.length p32] 25)) x2.heap.size a P22 p22 P32 p32:=NBk.new y2 y3
 have hbr:Below X1.heap.size X1 (x2.alloc (Obj.cells #[Value.int IntKind.i64 a.f0,Value.string a.f1,Value.slice P22 a.f2.length p22,Value.slice P32 a.f3.length p32] 25)):=zD hb _
 have HX2:=Lib.hid (show Below w.heap.size w (x2.alloc (Obj.cells #[Value.int IntKind.i64 a.f0,Value.string a.f1,Value.slice P22 a.f2.length p22,Value.slice P32 a.f3.length p32] 25))∧(x2.alloc (Obj.cells #[Value.int IntKind.i64 a.f0,Value.string a.f1,Value.slice P22 a.f2.length p22,Value.slice P32 a.f3.length p32] 25)).heap[w1.heap.size]?=some (.cells #[.int .i64 6, .string n.f1, .slice A2 n.f2.length c2, .slice A3 n.f3.length c3] 25 (0,0))∧NBk (x2.alloc (Obj.cells #[Value.int IntKind.i64 a.f0,Value.string a.f1,Value.slice P22 a.f2.length p22,Value.slice P32 a.f3.length p32] 25)) x1.heap.size a P21 p21 P31 p31∧NBk (x2.alloc (Obj.cells #[Value.int IntKind.i64 a.f0,Value.string a.f1,Value.slice P22 a.f2.length p22,Value.slice P32 a.f3.length p32] 25)) x2.heap.size a P22 p22 P32 p32 from ⟨HX1.out.1.trans (hbr.mono (xB HX1.out.1)),(hbr.block _ (xW HX1.out.2.1)).trans HX1.out.2.1,HX1.out.2.2.below hbr,hn⟩)
 clear hn hbr y2 y3 hb HX1
 go_wp2_with fail
 generalize hX:(x2.alloc (Obj.cells #[Value.int IntKind.i64 a.f0,Value.string a.f1,Value.slice P22 a.f2.length p22,Value.slice P32 a.f3.length p32] 25))=X2 at HX2 ⊢
 clear hX
 refine(HR2.out X2).mono ?_
 rintro e x3 ⟨v,rfl,⟨P23,p23,P33,p33,rfl,y2,y3⟩,hb⟩
 have hn:NBk (x3.alloc (Obj.cells #[Value.int IntKind.i64 c.f0,Value.string c.f1,Value.slice P23 c.f2.length p23,Value.slice P33 c.f3.length p33] 25)) x3.heap.size c P23 p23 P33 p33:=NBk.new y2 y3
 have hbr:Below X2.heap.size X2 (x3.alloc (Obj.cells #[Value.int IntKind.i64 c.f0,Value.string c.f1,Value.slice P23 c.f2.length p23,Value.slice P33 c.f3.length p33] 25)):=zD hb _
 have HX3:=Lib.hid (show Below w.heap.size w (x3.alloc (Obj.cells #[Value.int IntKind.i64 c.f0,Value.string c.f1,Value.slice P23 c.f2.length p23,Value.slice P33 c.f3.length p33] 25))∧(x3.alloc (Obj.cells #[Value.int IntKind.i64 c.f0,Value.string c.f1,Value.slice P23 c.f2.length p23,Value.slice P33 c.f3.length p33] 25)).heap[w1.heap.size]?=some (.cells #[.int .i64 6, .string n.f1, .slice A2 n.f2.length c2, .slice A3 n.f3.length c3] 25 (0,0))∧NBk (x3.alloc (Obj.cells #[Value.int IntKind.i64 c.f0,Value.string c.f1,Value.slice P23 c.f2.length p23,Value.slice P33 c.f3.length p33] 25)) x1.heap.size a P21 p21 P31 p31∧NBk (x3.alloc (Obj.cells #[Value.int IntKind.i64 c.f0,Value.string c.f1,Value.slice P23 c.f2.length p23,Value.slice P33 c.f3.length p33] 25)) x2.heap.size a P22 p22 P32 p32∧NBk (x3.alloc (Obj.cells #[Value.int IntKind.i64 c.f0,Value.string c.f1,Value.slice P23 c.f2.length p23,Value.slice P33 c.f3.length p33] 25)) x3.heap.size c P23 p23 P33 p33 from ⟨HX2.out.1.trans (hbr.mono (xB HX2.out.1)),(hbr.block _ (xW HX2.out.2.1)).trans HX2.out.2.1,HX2.out.2.2.1.below hbr,HX2.out.2.2.2.below hbr,hn⟩)
 clear hn hbr y2 y3 hb HX2
 go_wp2_with fail
 generalize hX:(x3.alloc (Obj.cells #[Value.int IntKind.i64 c.f0,Value.string c.f1,Value.slice P23 c.f2.length p23,Value.slice P33 c.f3.length p33] 25))=X3 at HX3 ⊢
 clear hX
 refine(HR2.out X3).mono ?_
 rintro e x4 ⟨v,rfl,⟨P24,p24,P34,p34,rfl,y2,y3⟩,hb⟩
 have hn:NBk (x4.alloc (Obj.cells #[Value.int IntKind.i64 c.f0,Value.string c.f1,Value.slice P24 c.f2.length p24,Value.slice P34 c.f3.length p34] 25)) x4.heap.size c P24 p24 P34 p34:=NBk.new y2 y3
 have hbr:Below X3.heap.size X3 (x4.alloc (Obj.cells #[Value.int IntKind.i64 c.f0,Value.string c.f1,Value.slice P24 c.f2.length p24,Value.slice P34 c.f3.length p34] 25)):=zD hb _
 have HX4:=Lib.hid (show Below w.heap.size w (x4.alloc (Obj.cells #[Value.int IntKind.i64 c.f0,Value.string c.f1,Value.slice P24 c.f2.length p24,Value.slice P34 c.f3.length p34] 25))∧(x4.alloc (Obj.cells #[Value.int IntKind.i64 c.f0,Value.string c.f1,Value.slice P24 c.f2.length p24,Value.slice P34 c.f3.length p34] 25)).heap[w1.heap.size]?=some (.cells #[.int .i64 6, .string n.f1, .slice A2 n.f2.length c2, .slice A3 n.f3.length c3] 25 (0,0))∧NBk (x4.alloc (Obj.cells #[Value.int IntKind.i64 c.f0,Value.string c.f1,Value.slice P24 c.f2.length p24,Value.slice P34 c.f3.length p34] 25)) x1.heap.size a P21 p21 P31 p31∧NBk (x4.alloc (Obj.cells #[Value.int IntKind.i64 c.f0,Value.string c.f1,Value.slice P24 c.f2.length p24,Value.slice P34 c.f3.length p34] 25)) x2.heap.size a P22 p22 P32 p32∧NBk (x4.alloc (Obj.cells #[Value.int IntKind.i64 c.f0,Value.string c.f1,Value.slice P24 c.f2.length p24,Value.slice P34 c.f3.length p34] 25)) x3.heap.size c P23 p23 P33 p33∧NBk (x4.alloc (Obj.cells #[Value.int IntKind.i64 c.f0,Value.string c.f1,Value.slice P24 c.f2.length p24,Value.slice P34 c.f3.length p34] 25)) x4.heap.size c P24 p24 P34 p34 from ⟨HX3.out.1.trans (hbr.mono (xB HX3.out.1)),(hbr.block _ (xW HX3.out.2.1)).trans HX3.out.2.1,HX3.out.2.2.1.below hbr,HX3.out.2.2.2.1.below hbr,HX3.out.2.2.2.2.below hbr,hn⟩)
 clear hn hbr y2 y3 hb HX3
 obtain⟨q00,q01,q02,q03⟩:=HX4.out.2.2.1.cells
 obtain⟨q10,q11,q12,q13⟩:=HX4.out.2.2.2.1.cells
 obtain⟨q20,q21,q22,q23⟩:=HX4.out.2.2.2.2.1.cells
 obtain⟨q30,q31,q32,q33⟩:=HX4.out.2.2.2.2.2.cells
 go_wp2_with fail
 have hs1:=HS.out.1
 have hs2:=HS.out.2
 obtain⟨ka,hka⟩:=(KN hs1).get
 obtain⟨kc,hkc⟩:=(KN hs2).get
 clear hs1 hs2
 refine(z8.calls ka a.f0 a.f1 _ _ a.f2 _ _ a.f3 a.f0 a.f1 _ _ a.f2 _ _ a.f3 true _ (HX4.out.2.2.1).j2 (HX4.out.2.2.1).k2 (HX4.out.2.2.1).j3 (HX4.out.2.2.1).k3 (HX4.out.2.2.2.1).j2 (HX4.out.2.2.2.1).k2 (HX4.out.2.2.2.1).j3 (HX4.out.2.2.2.1).k3 hka).mono ?_
 rintro e z1 ⟨rfl,hb⟩
 have HZ1:=Lib.hid (show z1.heap[w1.heap.size]?=some (.cells #[.int .i64 6, .string n.f1, .slice A2 n.f2.length c2, .slice A3 n.f3.length c3] 25 (0,0))∧NBk z1 x1.heap.size a P21 p21 P31 p31∧NBk z1 x3.heap.size c P23 p23 P33 p33∧NBk z1 x4.heap.size c P24 p24 P34 p34 from ⟨(hb.block _ (xW HX4.out.2.1)).trans HX4.out.2.1,HX4.out.2.2.1.below hb,HX4.out.2.2.2.2.1.below hb,HX4.out.2.2.2.2.2.below hb⟩)
 have HB1:=Lib.hid (HX4.out.1.trans (hb.mono (xB HX4.out.1)))
 clear hb q00 q01 q02 q03 q10 q11 q12 q13 q20 q21 q22 q23 q30 q31 q32 q33
 obtain⟨q20,q21,q22,q23⟩:=HZ1.out.2.2.1.cells
 obtain⟨q30,q31,q32,q33⟩:=HZ1.out.2.2.2.cells
 go_wp2_with fail
 refine(z8.calls kc c.f0 c.f1 _ _ c.f2 _ _ c.f3 c.f0 c.f1 _ _ c.f2 _ _ c.f3 true _ (HZ1.out.2.2.1).j2 (HZ1.out.2.2.1).k2 (HZ1.out.2.2.1).j3 (HZ1.out.2.2.1).k3 (HZ1.out.2.2.2).j2 (HZ1.out.2.2.2).k2 (HZ1.out.2.2.2).j3 (HZ1.out.2.2.2).k3 hkc).mono ?_
 rintro e z2 ⟨rfl,hb⟩
 obtain⟨q00,q01,q02,q03⟩:=(HZ1.out.2.1.below hb).cells
 have hc32:z2.cell? ⟨w1.heap.size,2,none⟩=some (.slice A2 n.f2.length c2):=zB ((hb.block _ (xW HZ1.out.1)).trans HZ1.out.1) 2 _ rfl
 have hll:((a.f3.length:Int) == (n.f2.length:Int))=true:=by rw [HL.out];simp
 have HB2:=Lib.hid (HB1.out.trans (hb.mono (xB HB1.out)))
 clear hb q20 q21 q22 q23 q30 q31 q32 q33
 go_wp2_with fail
 go_ret
 exact⟨rfl,HB2.out⟩
end Go.Proofs.YtljhmnnhfnmhmaaGreatDoor.M
namespace Go.Proofs.YtljhmnnhfnmhmaaGreatDoor.M
open Go Go.RowKit Go.Proofs.YtljhmnnhfnmhmaaGreatDoorW.PrintWords Go.Proofs.YtljhmnnhfnmhmaaGreatDoorW.PrintLast Go.Proofs.YtljhmnnhfnmhmaaGreatDoor.G
theorem zHh (t:ByteArray) (m0:Nat) (w:World) (hm:m0≤w.heap.size) (hT:Tb m0 w):Calls Tryz.prog 3 #[.string t] w (zAv w):=by
 by_cases h:2147483647 < t.size
 ·
  exact zEm t w h
 rcases WA t w with hB|⟨n,b,hB,hb⟩
 ·
  exact zF2 t w h (hB.mono (fun e w' h => .inl h))
 cases b with
 | false=>exact zF2 t w h (hB.mono (fun e w' h => .inr ⟨n,h⟩))
 | true =>
  obtain⟨hs,hx⟩:=hb rfl
  by_cases h6:n.f0=6
  ·
   obtain⟨L,hO,hL⟩:=ot_of (by omega) rfl hx h6
   obtain⟨a,wa,la,ra⟩:=zCg t L hO hs
   obtain⟨c,wc,lc,rc⟩:=zDj t L hO hs
   exact zHi t _ _ _ _ _ n a c m0 w h h6 hm hT hB (fun W h1 h2=>zJk t L m0 hO hs W h1 h2) (fun W h1 h2=>zAc t L m0 hO hs W h1 h2) (fun W h1 h2=>c_rev t L m0 hO hs W h1 h2) (fun W h1 h2=>zAd t L m0 hO hs W h1 h2)
    (fun W h1 h2=>zFp t L m0 hO hs W h1 h2) (fun W h1 h2=>zAf t L m0 hO hs W h1 h2) (fun W h1 h2=>zAe t L m0 hO hs W h1 h2) ra rc wa wc (by rw [la,hL])
  ·
   exact zEl t n w h h6 hB
end Go.Proofs.YtljhmnnhfnmhmaaGreatDoor.M
