/-
Lemmas of this claim; made short by a program of this work.
-/
import Derived.Test.YtljhmnnhfnmhmaaGreatDoorUGj3
import Derived.Test.YtljhmnnhfnmhmaaGreatDoorUM0
set_option linter.unusedVariables false
set_option linter.unusedSimpArgs false
set_option maxHeartbeats 4000000
set_option maxRecDepth 100000
namespace Go.Proofs.YtljhmnnhfnmhmaaGreatDoor.M
open Go Go.RowKit Go.Proofs.YtljhmnnhfnmhmaaGreatDoorW.PrintWords
attribute [local go_sem] xL
theorem wV (t:ByteArray) (i j:Nat) (w:World) (ht:t.size≤1048576) (hV:VT w) (h0:bn t i=91) (h:Sq t (i+1) 1 j) :
  Calls Tryz.prog 69 #[.string t, .int .i64 (i:Int), .bool true] w (zDo t i j w):=by
 have hb:=vP t
 have hge:=h.ge
 have HL:=Lib.hid (fun w (hV:VT w)=>wH t i j w ht hV h)
 have HV:=Lib.hid hV
 clear h hV
 go_enter Tryz.func69,Tryz.ntmps69
 go_wp2_with fail
 obtain⟨W0,hW0⟩:∃ W0,(w.alloc (Obj.cells #[Value.int IntKind.i64 0,Value.string ⟨#[]⟩,Value.string ⟨#[]⟩,Value.float FloatKind.f64 0,Value.int IntKind.i64 0,Value.slice none 0 0] 57)).alloc (Obj.cells #[Value.int IntKind.i64 0,Value.string ⟨#[]⟩,Value.string ⟨#[]⟩,Value.float FloatKind.f64 0,Value.int IntKind.i64 0,Value.slice none 0 0] 57)=W0:=⟨_,rfl⟩
 have r7:Rs w.heap.size 0 ⟨#[]⟩ ⟨#[]⟩ 0 0 W0:=⟨Zq2⟩
 have r9:Rs (w.heap.size+1) 0 ⟨#[]⟩ ⟨#[]⟩ 0 0 W0:=⟨Zq3⟩
 have hB0:Below w.heap.size w W0:=by rw [← hW0];exact zD (zD (Below.refl _ _) _) _
 rw [hW0]
 clear hW0
 obtain⟨b9,h9⟩:∃ b9,w.heap.size+1=b9:=⟨_,rfl⟩
 rw [h9] at r9 ⊢
 obtain⟨b7,h7⟩:∃ b7,w.heap.size=b7:=⟨_,rfl⟩
 have hne:¬ b7=b9:=by omega
 have hne':¬ b9=b7:=by omega
 rw [h7] at r7 ⊢
 have H7:Hid (w.heap.size≤b7):=Lib.hid (by omega)
 have H9:Hid (w.heap.size≤b9):=Lib.hid (by omega)
 have HB:=Lib.hid hB0
 have HR7:=Lib.hid r7
 have HR9:=Lib.hid r9
 clear h7 h9 hB0
 obtain⟨c70,c71,c72,c73,c74,c75⟩:=r7.cells
 obtain⟨f70,f71,f72,f73,f74,f75⟩:=r7.qP
 obtain⟨c90,c91,c92,c93,c94,c95⟩:=r9.cells
 obtain⟨f90,f91,f92,f93,f94,f95⟩:=r9.qP
 clear r7 r9
 go_loop [1] (fun a1=>a1 = .int .i64 (i:Int)) (fun _=>0)
 case atStart=>rfl
 case round =>
  obtain rfl:=hrel
  have hV0:VT W0:=HV.out.below HB.out
  have HV0:=Lib.hid hV0
  clear hV0
  go_wp2_with fail
  refine(HL.out _ HV0.out).mono ?_
  rintro e w1 ⟨n,rfl,rfl⟩
  go_wp2_with fail
  generalize (min (j:Int) (t.size:Int) - ((j - i:Nat):Int))=ix
  have q7:=((((HR7.out.drewN n).far (o:=1) (v:=Value.string (t.extract i j)) hne).far (o:=0) (v:=Value.int IntKind.i64 5) hne).far (o:=4) (v:=Value.int IntKind.i64 ix) hne)
  have q9:=((((HR9.out.drewN n).jF (t.extract i j)).j8 5).j5 ix)
  have qB:Below w.heap.size w ((((W0.drewN n).setCell { block:=b9,off:=1 } (Value.string (t.extract i j))).setCell { block:=b9,off:=0 } (Value.int IntKind.i64 5)).setCell { block:=b9,off:=4 } (Value.int IntKind.i64 ix)):=((((below_drewN HB.out n).setCell H9.out _).setCell H9.out _).setCell H9.out _)
  clear c70 c71 c72 c73 c74 c75 f70 f71 f72 f73 f74 f75 c90 c91 c92 c93 c94 c95 f90 f91 f92 f93 f94 f95
  generalize hgw:((((W0.drewN n).setCell { block:=b9,off:=1 } (Value.string (t.extract i j))).setCell { block:=b9,off:=0 } (Value.int IntKind.i64 5)).setCell { block:=b9,off:=4 } (Value.int IntKind.i64 ix))=W2 at q7 q9 qB ⊢
  clear hgw HR7 HR9 HB
  have HR7:=Lib.hid q7
  have HR9:=Lib.hid q9
  have HB:=Lib.hid qB
  obtain⟨c70,c71,c72,c73,c74,c75⟩:=q7.cells
  obtain⟨f70,f71,f72,f73,f74,f75⟩:=q7.qP
  obtain⟨c90,c91,c92,c93,c94,c95⟩:=q9.cells
  obtain⟨f90,f91,f92,f93,f94,f95⟩:=q9.qP
  clear qB q7 q9
  go_region
  go_wp2_with fail
  refine bodyPost_ret (jX _ _ b7 _ _ _ _ _ _ _ rfl rfl rfl (((((((HR7.out.j8 5).jF (t.extract i j)).qD (⟨#[]⟩)).qO (0)).j5 (ix)).yH).drew)) rfl ?_
  exact⟨5,_,_,_,rfl,by decide,by decide,⟨fun _ => .inl h0,fun _=>rfl⟩,zJ ((((((HB.out.setCell H7.out _).setCell H7.out _).setCell H7.out _).setCell H7.out _).setCell H7.out _).setCell H7.out _)⟩
theorem wG (t:ByteArray) (i j:Nat) (w:World) (ht:t.size≤1048576) (hV:VT w) (h0:bn t i=123) (h:Sq t (i+1) 1 j) :
  Calls Tryz.prog 69 #[.string t, .int .i64 (i:Int), .bool true] w (zDo t i j w):=by
 have hb:=vP t
 have hge:=h.ge
 have HL:=Lib.hid (fun w (hV:VT w)=>wH t i j w ht hV h)
 have HV:=Lib.hid hV
 clear h hV
 go_enter Tryz.func69,Tryz.ntmps69
 go_wp2_with fail
 obtain⟨W0,hW0⟩:∃ W0,(w.alloc (Obj.cells #[Value.int IntKind.i64 0,Value.string ⟨#[]⟩,Value.string ⟨#[]⟩,Value.float FloatKind.f64 0,Value.int IntKind.i64 0,Value.slice none 0 0] 57)).alloc (Obj.cells #[Value.int IntKind.i64 0,Value.string ⟨#[]⟩,Value.string ⟨#[]⟩,Value.float FloatKind.f64 0,Value.int IntKind.i64 0,Value.slice none 0 0] 57)=W0:=⟨_,rfl⟩
 have r7:Rs w.heap.size 0 ⟨#[]⟩ ⟨#[]⟩ 0 0 W0:=⟨Zq2⟩
 have r9:Rs (w.heap.size+1) 0 ⟨#[]⟩ ⟨#[]⟩ 0 0 W0:=⟨Zq3⟩
 have hB0:Below w.heap.size w W0:=by rw [← hW0];exact zD (zD (Below.refl _ _) _) _
 rw [hW0]
 clear hW0
 obtain⟨b9,h9⟩:∃ b9,w.heap.size+1=b9:=⟨_,rfl⟩
 rw [h9] at r9 ⊢
 obtain⟨b7,h7⟩:∃ b7,w.heap.size=b7:=⟨_,rfl⟩
 have hne:¬ b7=b9:=by omega
 have hne':¬ b9=b7:=by omega
 rw [h7] at r7 ⊢
 have H7:Hid (w.heap.size≤b7):=Lib.hid (by omega)
 have H9:Hid (w.heap.size≤b9):=Lib.hid (by omega)
 have HB:=Lib.hid hB0
 have HR7:=Lib.hid r7
 have HR9:=Lib.hid r9
 clear h7 h9 hB0
 obtain⟨c70,c71,c72,c73,c74,c75⟩:=r7.cells
 obtain⟨f70,f71,f72,f73,f74,f75⟩:=r7.qP
 obtain⟨c90,c91,c92,c93,c94,c95⟩:=r9.cells
 obtain⟨f90,f91,f92,f93,f94,f95⟩:=r9.qP
 clear r7 r9
 go_loop [1] (fun a1=>a1 = .int .i64 (i:Int)) (fun _=>0)
 case atStart=>rfl
 case round =>
  obtain rfl:=hrel
  have hV0:VT W0:=HV.out.below HB.out
  have HV0:=Lib.hid hV0
  clear hV0
  go_wp2_with fail
  refine(HL.out _ HV0.out).mono ?_
  rintro e w1 ⟨n,rfl,rfl⟩
  go_wp2_with fail
  generalize (min (j:Int) (t.size:Int) - ((j - i:Nat):Int))=ix
  have q7:=((((HR7.out.drewN n).far (o:=1) (v:=Value.string (t.extract i j)) hne).far (o:=0) (v:=Value.int IntKind.i64 5) hne).far (o:=4) (v:=Value.int IntKind.i64 ix) hne)
  have q9:=((((HR9.out.drewN n).jF (t.extract i j)).j8 5).j5 ix)
  have qB:Below w.heap.size w ((((W0.drewN n).setCell { block:=b9,off:=1 } (Value.string (t.extract i j))).setCell { block:=b9,off:=0 } (Value.int IntKind.i64 5)).setCell { block:=b9,off:=4 } (Value.int IntKind.i64 ix)):=((((below_drewN HB.out n).setCell H9.out _).setCell H9.out _).setCell H9.out _)
  clear c70 c71 c72 c73 c74 c75 f70 f71 f72 f73 f74 f75 c90 c91 c92 c93 c94 c95 f90 f91 f92 f93 f94 f95
  generalize hgw:((((W0.drewN n).setCell { block:=b9,off:=1 } (Value.string (t.extract i j))).setCell { block:=b9,off:=0 } (Value.int IntKind.i64 5)).setCell { block:=b9,off:=4 } (Value.int IntKind.i64 ix))=W2 at q7 q9 qB ⊢
  clear hgw HR7 HR9 HB
  have HR7:=Lib.hid q7
  have HR9:=Lib.hid q9
  have HB:=Lib.hid qB
  obtain⟨c70,c71,c72,c73,c74,c75⟩:=q7.cells
  obtain⟨f70,f71,f72,f73,f74,f75⟩:=q7.qP
  obtain⟨c90,c91,c92,c93,c94,c95⟩:=q9.cells
  obtain⟨f90,f91,f92,f93,f94,f95⟩:=q9.qP
  clear qB q7 q9
  go_region
  go_wp2_with fail
  refine bodyPost_ret (jX _ _ b7 _ _ _ _ _ _ _ rfl rfl rfl (((((((HR7.out.j8 5).jF (t.extract i j)).qD (⟨#[]⟩)).qO (0)).j5 (ix)).yH).drew)) rfl ?_
  exact⟨5,_,_,_,rfl,by decide,by decide,⟨fun _ => .inr h0,fun _=>rfl⟩,zJ ((((((HB.out.setCell H7.out _).setCell H7.out _).setCell H7.out _).setCell H7.out _).setCell H7.out _).setCell H7.out _)⟩
end Go.Proofs.YtljhmnnhfnmhmaaGreatDoor.M
