/-
Lemmas of this claim; made short by a program of this work.
-/
import Derived.Test.YtljhmnnhfnmhmaaGreatDoorUGj2
import Derived.Test.YtljhmnnhfnmhmaaGreatDoorUM3
import Derived.RegionTactic
import Derived.ChangeAlike
import Derived.Test.YtljhmnnhfnmhmaaGreatDoorUM0
set_option linter.unusedVariables false
set_option linter.unusedSimpArgs false
set_option maxHeartbeats 4000000
set_option maxRecDepth 100000
namespace Go.Proofs.YtljhmnnhfnmhmaaGreatDoor.M
open Go Go.RowKit Go.Proofs.YtljhmnnhfnmhmaaGreatDoorW.PrintWords
def zDo (t:ByteArray) (i j:Nat) (w:World) (e:Ending) (w':World):Prop:=∃ (ty:Int) (str:ByteArray) (num:Nat) (idx:Int),
 e = .returned (.tuple #[.int .i64 (j:Int), .agg #[.int .i64 ty, .string (t.extract i j), .string str, .float .f64 num, .int .i64 idx, .slice none 0 0], .bool true])∧0≤ty∧ty≤5∧(ty=5 ↔ (bn t i=91∨bn t i=123))∧Below w.heap.size w w'
structure Rs (b:Nat) (ty:Int) (raw str:ByteArray) (num:Nat) (idx:Int) (W:World):Prop where
 blk:W.heap[b]?=some (.cells #[.int .i64 ty, .string raw, .string str, .float .f64 num, .int .i64 idx, .slice none 0 0] 57 (0,0))
theorem zB {W:World} {b:Nat} {cs:Array Value} {t:TypeId} (h:W.heap[b]?=some (.cells cs t (0,0))) (j:Nat) (v:Value) (hj:cs[j]?=some v):W.cell? ⟨b,j,none⟩=some v:=by
 unfold World.cell?
 simp only [h]
 exact hj
theorem Rs.cells {b:Nat} {ty:Int} {raw str:ByteArray} {num:Nat} {idx:Int} {W:World} (h:Rs b ty raw str num idx W) :
  W.cell? ⟨b,0,none⟩=some (.int .i64 ty)∧W.cell? ⟨b,1,none⟩=some (.string raw)∧W.cell? ⟨b,2,none⟩=some (.string str)∧W.cell? ⟨b,3,none⟩=some (.float .f64 num)∧W.cell? ⟨b,4,none⟩=some (.int .i64 idx)∧W.cell? ⟨b,5,none⟩=some (.slice none 0 0) :=
 ⟨zB h.blk 0 _ rfl,zB h.blk 1 _ rfl,zB h.blk 2 _ rfl,zB h.blk 3 _ rfl,zB h.blk 4 _ rfl,zB h.blk 5 _ rfl⟩
theorem Rs.qP {b:Nat} {ty:Int} {raw str:ByteArray} {num:Nat} {idx:Int} {W:World} (h:Rs b ty raw str num idx W) :
  W.frozen? ⟨b,0,none⟩=false∧W.frozen? ⟨b,1,none⟩=false∧W.frozen? ⟨b,2,none⟩=false∧W.frozen? ⟨b,3,none⟩=false∧W.frozen? ⟨b,4,none⟩=false∧W.frozen? ⟨b,5,none⟩=false :=
 ⟨zC h.blk _,zC h.blk _,zC h.blk _,zC h.blk _,zC h.blk _,zC h.blk _⟩
theorem Rs.below {b:Nat} {ty:Int} {raw str:ByteArray} {num:Nat} {idx:Int} {W W1:World} (h:Rs b ty raw str num idx W) (hb:Below W.heap.size W W1):Rs b ty raw str num idx W1:=⟨xF h.blk hb⟩
theorem Rs.far {b b' o:Nat} {ty:Int} {raw str:ByteArray} {num:Nat} {idx:Int} {W:World} {v:Value} (h:Rs b ty raw str num idx W) (hne:¬ b=b'):Rs b ty raw str num idx (W.setCell ⟨b',o,none⟩ v):=⟨(heap_setCell_other W ⟨b',o,none⟩ b v hne).trans h.blk⟩
theorem Rs.drewN {b:Nat} {ty:Int} {raw str:ByteArray} {num:Nat} {idx:Int} {W:World} (h:Rs b ty raw str num idx W) (n:Nat):Rs b ty raw str num idx (W.drewN n):=h.below (below_drewN (Below.refl _ _) n)
theorem Rs.j8 {b:Nat} {ty:Int} {raw str:ByteArray} {num:Nat} {idx:Int} {W:World} (h:Rs b ty raw str num idx W) (ty':Int):Rs b ty' raw str num idx (W.setCell ⟨b,0,none⟩ (.int .i64 ty')):=⟨heap_setCell_same W b 0 _ 57 _ h.blk⟩
theorem Rs.jF {b:Nat} {ty:Int} {raw str:ByteArray} {num:Nat} {idx:Int} {W:World} (h:Rs b ty raw str num idx W) (r:ByteArray):Rs b ty r str num idx (W.setCell ⟨b,1,none⟩ (.string r)):=⟨heap_setCell_same W b 1 _ 57 _ h.blk⟩
theorem Rs.qD {b:Nat} {ty:Int} {raw str:ByteArray} {num:Nat} {idx:Int} {W:World} (h:Rs b ty raw str num idx W) (r:ByteArray):Rs b ty raw r num idx (W.setCell ⟨b,2,none⟩ (.string r)):=⟨heap_setCell_same W b 2 _ 57 _ h.blk⟩
theorem Rs.qO {b:Nat} {ty:Int} {raw str:ByteArray} {num:Nat} {idx:Int} {W:World} (h:Rs b ty raw str num idx W) (r:Nat):Rs b ty raw str r idx (W.setCell ⟨b,3,none⟩ (.float .f64 r)):=⟨heap_setCell_same W b 3 _ 57 _ h.blk⟩
theorem Rs.j5 {b:Nat} {ty:Int} {raw str:ByteArray} {num:Nat} {idx:Int} {W:World} (h:Rs b ty raw str num idx W) (r:Int):Rs b ty raw str num r (W.setCell ⟨b,4,none⟩ (.int .i64 r)):=⟨heap_setCell_same W b 4 _ 57 _ h.blk⟩
theorem Rs.yH {b:Nat} {ty:Int} {raw str:ByteArray} {num:Nat} {idx:Int} {W:World} (h:Rs b ty raw str num idx W):Rs b ty raw str num idx (W.setCell ⟨b,5,none⟩ (.slice none 0 0)):=⟨heap_setCell_same W b 5 _ 57 _ h.blk⟩
theorem Rs.drew {b:Nat} {ty:Int} {raw str:ByteArray} {num:Nat} {idx:Int} {W:World} (h:Rs b ty raw str num idx W):Rs b ty raw str num idx W.drew:=h.below (zJ (Below.refl _ _))
theorem jX (tmps:Array Value) (W:World) (b:Nat) (j ty idx:Int) (raw str:ByteArray) (num:Nat) (v:Bool) (h6:tmps.getD 6 undef = .int .i64 j) (h7:tmps.getD 7 undef = .pointer (some ⟨b,0,none⟩)) (h8:tmps.getD 8 undef = .bool v) (h:Rs b ty raw str num idx W) :
  (results Tryz.f69 tmps).run Tryz.prog W = .ok (.tuple #[.int .i64 j, .agg #[.int .i64 ty, .string raw, .string str, .float .f64 num, .int .i64 idx, .slice none 0 0], .bool v]) W:=by
 have h6':tmps[6]?.getD undef = .int .i64 j:=by simpa using h6
 have h7':tmps[7]?.getD undef = .pointer (some ⟨b,0,none⟩):=by simpa using h7
 have h8':tmps[8]?.getD undef = .bool v:=by simpa using h8
 have hr:Tryz.f69.results=#[.tmp 6, .cell 7 57, .tmp 8]:=rfl
 simp [results,hr,h6',h7',h8',asAddr,run_loadVar_row W b 57 57 _ (0,0) _ h.blk Tryz.underlying57 rfl (by kernel_rfl)]
theorem xL (P:Program) (w:World) (a:Addr) (k:FloatKind) (v:Nat) (m:Mode) :
  (store a (.float k v) m).run P w=match w.cell? a with
   | some _=>if w.frozen? a then .halt (.unsupported (.unsafePointer "a write to bytes that a string shares")) w else .ok () (w.setCell a (.float k v))
   | none=>match w.farStore P a (.float k v) (m == .atomic) with
    | .ok (w',_) => .ok () w'
    | .error h => .halt h w:=run_store P w a _ m rfl
attribute [local go_sem] xL
theorem VT.below {w w':World} (h:VT w) (hb:Below w.heap.size w w'):VT w':=fun c hc=>by
 have h0:0 < w.heap.size:=by
  have:=h 0 (by omega)
  unfold World.cell? at this
  rcases Nat.eq_zero_or_pos w.heap.size with hz|hz
  ·
   simp [hz] at this
  ·
   exact hz
 rw [hb.cell (p:=⟨0,c,none⟩) h0]
 exact h c hc
theorem J1 (t:ByteArray) (i j:Nat) (w:World) (ht:t.size≤1048576) (hij:i+1 < j) (hj:j < t.size) (h0:bn t i=116) (hin:∀ p:Nat,i < p→p < j→97≤bn t p∧bn t p≤122) (hat:bn t j < 97∨122 < bn t j) :
  Calls Tryz.prog 69 #[.string t, .int .i64 (i:Int), .bool true] w (zDo t i j w):=by
 have hb:=vP t
 have HL:=Lib.hid (fun w=>yO t i j w ht (by omega) hj hin hat)
 clear hin hat
 go_enter Tryz.func69,Tryz.ntmps69
 go_wp2_with fail
 obtain⟨W0,hW0⟩:∃ W0,(w.alloc (Obj.cells #[Value.int IntKind.i64 0,Value.string ⟨#[]⟩,Value.string ⟨#[]⟩,Value.float FloatKind.f64 0,Value.int IntKind.i64 0,Value.slice none 0 0] 57)).alloc (Obj.cells #[Value.int IntKind.i64 0,Value.string ⟨#[]⟩,Value.string ⟨#[]⟩,Value.float FloatKind.f64 0,Value.int IntKind.i64 0,Value.slice none 0 0] 57)=W0:=⟨_,rfl⟩
 have r7:Rs w.heap.size 0 ⟨#[]⟩ ⟨#[]⟩ 0 0 W0:=⟨Zq2⟩
 have r9:Rs (w.heap.size+1) 0 ⟨#[]⟩ ⟨#[]⟩ 0 0 W0:=⟨Zq3⟩
 have hB0:Below w.heap.size w W0:=by rw [← hW0];exact zD (zD (Below.refl _ _) _) _
 rw [hW0]
 clear hW0
 obtain⟨b9,h9⟩:∃ b9,w.heap.size+1=b9:=⟨_,rfl⟩
 rw [h9] at r9 ⊢
 obtain⟨b7,h7⟩:∃ b7,w.heap.size=b7:=⟨_,rfl⟩
 have hne:¬ b7=b9:=by omega
 have hne':¬ b9=b7:=by omega
 rw [h7] at r7 ⊢
 have H7:Hid (w.heap.size≤b7):=Lib.hid (by omega)
 have H9:Hid (w.heap.size≤b9):=Lib.hid (by omega)
 have HB:=Lib.hid hB0
 have HR7:=Lib.hid r7
 have HR9:=Lib.hid r9
 clear h7 h9 hB0
 obtain⟨c70,c71,c72,c73,c74,c75⟩:=r7.cells
 obtain⟨f70,f71,f72,f73,f74,f75⟩:=r7.qP
 obtain⟨c90,c91,c92,c93,c94,c95⟩:=r9.cells
 obtain⟨f90,f91,f92,f93,f94,f95⟩:=r9.qP
 clear r7 r9
 go_loop [1] (fun a1=>a1 = .int .i64 (i:Int)) (fun _=>0)
 case atStart=>rfl
 case round =>
  obtain rfl:=hrel
  go_wp2_with fail
  refine(HL.out _).mono ?_
  rintro e w1 ⟨n,rfl,rfl⟩
  go_wp2_with fail
  have q7:=(((HR7.out.drewN n).far (o:=1) (v:=Value.string (t.extract i j)) hne).far (o:=0) (v:=Value.int IntKind.i64 4) hne)
  have q9:=(((HR9.out.drewN n).jF (t.extract i j)).j8 4)
  have qB:Below w.heap.size w (((W0.drewN n).setCell { block:=b9,off:=1 } (Value.string (t.extract i j))).setCell { block:=b9,off:=0 } (Value.int IntKind.i64 4)):=(((below_drewN HB.out n).setCell H9.out _).setCell H9.out _)
  clear c70 c71 c72 c73 c74 c75 f70 f71 f72 f73 f74 f75 c90 c91 c92 c93 c94 c95 f90 f91 f92 f93 f94 f95
  generalize hgw:(((W0.drewN n).setCell { block:=b9,off:=1 } (Value.string (t.extract i j))).setCell { block:=b9,off:=0 } (Value.int IntKind.i64 4))=W2 at q7 q9 qB ⊢
  clear hgw HR7 HR9 HB
  have HR7:=Lib.hid q7
  have HR9:=Lib.hid q9
  have HB:=Lib.hid qB
  obtain⟨c70,c71,c72,c73,c74,c75⟩:=q7.cells
  obtain⟨f70,f71,f72,f73,f74,f75⟩:=q7.qP
  obtain⟨c90,c91,c92,c93,c94,c95⟩:=q9.cells
  obtain⟨f90,f91,f92,f93,f94,f95⟩:=q9.qP
  clear qB q7 q9
  go_region
  go_wp2_with fail
  refine bodyPost_ret (jX _ _ b7 _ _ _ _ _ _ _ rfl rfl rfl (((((((HR7.out.j8 4).jF (t.extract i j)).qD (⟨#[]⟩)).qO (0)).j5 (0)).yH).drew)) rfl ?_
  exact⟨4,_,_,_,rfl,by decide,by decide,⟨fun h=>absurd h (by decide),fun h=>by omega⟩,zJ ((((((HB.out.setCell H7.out _).setCell H7.out _).setCell H7.out _).setCell H7.out _).setCell H7.out _).setCell H7.out _)⟩
theorem VJ (t:ByteArray) (i j:Nat) (w:World) (ht:t.size≤1048576) (hij:i+1 < j) (hj:j < t.size) (h0:bn t i=102) (hin:∀ p:Nat,i < p→p < j→97≤bn t p∧bn t p≤122) (hat:bn t j < 97∨122 < bn t j) :
  Calls Tryz.prog 69 #[.string t, .int .i64 (i:Int), .bool true] w (zDo t i j w):=by
 have hb:=vP t
 have HL:=Lib.hid (fun w=>yO t i j w ht (by omega) hj hin hat)
 clear hin hat
 go_enter Tryz.func69,Tryz.ntmps69
 go_wp2_with fail
 obtain⟨W0,hW0⟩:∃ W0,(w.alloc (Obj.cells #[Value.int IntKind.i64 0,Value.string ⟨#[]⟩,Value.string ⟨#[]⟩,Value.float FloatKind.f64 0,Value.int IntKind.i64 0,Value.slice none 0 0] 57)).alloc (Obj.cells #[Value.int IntKind.i64 0,Value.string ⟨#[]⟩,Value.string ⟨#[]⟩,Value.float FloatKind.f64 0,Value.int IntKind.i64 0,Value.slice none 0 0] 57)=W0:=⟨_,rfl⟩
 have r7:Rs w.heap.size 0 ⟨#[]⟩ ⟨#[]⟩ 0 0 W0:=⟨Zq2⟩
 have r9:Rs (w.heap.size+1) 0 ⟨#[]⟩ ⟨#[]⟩ 0 0 W0:=⟨Zq3⟩
 have hB0:Below w.heap.size w W0:=by rw [← hW0];exact zD (zD (Below.refl _ _) _) _
 rw [hW0]
 clear hW0
 obtain⟨b9,h9⟩:∃ b9,w.heap.size+1=b9:=⟨_,rfl⟩
 rw [h9] at r9 ⊢
 obtain⟨b7,h7⟩:∃ b7,w.heap.size=b7:=⟨_,rfl⟩
 have hne:¬ b7=b9:=by omega
 have hne':¬ b9=b7:=by omega
 rw [h7] at r7 ⊢
 have H7:Hid (w.heap.size≤b7):=Lib.hid (by omega)
 have H9:Hid (w.heap.size≤b9):=Lib.hid (by omega)
 have HB:=Lib.hid hB0
 have HR7:=Lib.hid r7
 have HR9:=Lib.hid r9
 clear h7 h9 hB0
 obtain⟨c70,c71,c72,c73,c74,c75⟩:=r7.cells
 obtain⟨f70,f71,f72,f73,f74,f75⟩:=r7.qP
 obtain⟨c90,c91,c92,c93,c94,c95⟩:=r9.cells
 obtain⟨f90,f91,f92,f93,f94,f95⟩:=r9.qP
 clear r7 r9
 go_loop [1] (fun a1=>a1 = .int .i64 (i:Int)) (fun _=>0)
 case atStart=>rfl
 case round =>
  obtain rfl:=hrel
  go_wp2_with fail
  refine(HL.out _).mono ?_
  rintro e w1 ⟨n,rfl,rfl⟩
  go_wp2_with fail
  have q7:=(((HR7.out.drewN n).far (o:=1) (v:=Value.string (t.extract i j)) hne).far (o:=0) (v:=Value.int IntKind.i64 1) hne)
  have q9:=(((HR9.out.drewN n).jF (t.extract i j)).j8 1)
  have qB:Below w.heap.size w (((W0.drewN n).setCell { block:=b9,off:=1 } (Value.string (t.extract i j))).setCell { block:=b9,off:=0 } (Value.int IntKind.i64 1)):=(((below_drewN HB.out n).setCell H9.out _).setCell H9.out _)
  clear c70 c71 c72 c73 c74 c75 f70 f71 f72 f73 f74 f75 c90 c91 c92 c93 c94 c95 f90 f91 f92 f93 f94 f95
  generalize hgw:(((W0.drewN n).setCell { block:=b9,off:=1 } (Value.string (t.extract i j))).setCell { block:=b9,off:=0 } (Value.int IntKind.i64 1))=W2 at q7 q9 qB ⊢
  clear hgw HR7 HR9 HB
  have HR7:=Lib.hid q7
  have HR9:=Lib.hid q9
  have HB:=Lib.hid qB
  obtain⟨c70,c71,c72,c73,c74,c75⟩:=q7.cells
  obtain⟨f70,f71,f72,f73,f74,f75⟩:=q7.qP
  obtain⟨c90,c91,c92,c93,c94,c95⟩:=q9.cells
  obtain⟨f90,f91,f92,f93,f94,f95⟩:=q9.qP
  clear qB q7 q9
  go_region
  go_wp2_with fail
  refine bodyPost_ret (jX _ _ b7 _ _ _ _ _ _ _ rfl rfl rfl (((((((HR7.out.j8 1).jF (t.extract i j)).qD (⟨#[]⟩)).qO (0)).j5 (0)).yH).drew)) rfl ?_
  exact⟨1,_,_,_,rfl,by decide,by decide,⟨fun h=>absurd h (by decide),fun h=>by omega⟩,zJ ((((((HB.out.setCell H7.out _).setCell H7.out _).setCell H7.out _).setCell H7.out _).setCell H7.out _).setCell H7.out _)⟩
theorem JZ (t:ByteArray) (i j:Nat) (w:World) (ht:t.size≤1048576) (hij:i+1 < j) (hj:j < t.size) (h0:bn t i=110) (h1:bn t (i+1)=117) (hin:∀ p:Nat,i < p→p < j→97≤bn t p∧bn t p≤122) (hat:bn t j < 97∨122 < bn t j) :
  Calls Tryz.prog 69 #[.string t, .int .i64 (i:Int), .bool true] w (zDo t i j w):=by
 have hb:=vP t
 have HL:=Lib.hid (fun w=>yO t i j w ht (by omega) hj hin hat)
 clear hin hat
 have hi1:i+1 < t.size:=by omega
 have hb1:((t[i+1]'hi1).toNat:Int)=bn t (i+1):=hb (i+1) hi1
 go_enter Tryz.func69,Tryz.ntmps69
 go_wp2_with fail
 obtain⟨W0,hW0⟩:∃ W0,(w.alloc (Obj.cells #[Value.int IntKind.i64 0,Value.string ⟨#[]⟩,Value.string ⟨#[]⟩,Value.float FloatKind.f64 0,Value.int IntKind.i64 0,Value.slice none 0 0] 57)).alloc (Obj.cells #[Value.int IntKind.i64 0,Value.string ⟨#[]⟩,Value.string ⟨#[]⟩,Value.float FloatKind.f64 0,Value.int IntKind.i64 0,Value.slice none 0 0] 57)=W0:=⟨_,rfl⟩
 have r7:Rs w.heap.size 0 ⟨#[]⟩ ⟨#[]⟩ 0 0 W0:=⟨Zq2⟩
 have r9:Rs (w.heap.size+1) 0 ⟨#[]⟩ ⟨#[]⟩ 0 0 W0:=⟨Zq3⟩
 have hB0:Below w.heap.size w W0:=by rw [← hW0];exact zD (zD (Below.refl _ _) _) _
 rw [hW0]
 clear hW0
 obtain⟨b9,h9⟩:∃ b9,w.heap.size+1=b9:=⟨_,rfl⟩
 rw [h9] at r9 ⊢
 obtain⟨b7,h7⟩:∃ b7,w.heap.size=b7:=⟨_,rfl⟩
 have hne:¬ b7=b9:=by omega
 have hne':¬ b9=b7:=by omega
 rw [h7] at r7 ⊢
 have H7:Hid (w.heap.size≤b7):=Lib.hid (by omega)
 have H9:Hid (w.heap.size≤b9):=Lib.hid (by omega)
 have HB:=Lib.hid hB0
 have HR7:=Lib.hid r7
 have HR9:=Lib.hid r9
 clear h7 h9 hB0
 obtain⟨c70,c71,c72,c73,c74,c75⟩:=r7.cells
 obtain⟨f70,f71,f72,f73,f74,f75⟩:=r7.qP
 obtain⟨c90,c91,c92,c93,c94,c95⟩:=r9.cells
 obtain⟨f90,f91,f92,f93,f94,f95⟩:=r9.qP
 clear r7 r9
 go_loop [1] (fun a1=>a1 = .int .i64 (i:Int)) (fun _=>0)
 case atStart=>rfl
 case round =>
  obtain rfl:=hrel
  go_wp2_with fail
  refine(HL.out _).mono ?_
  rintro e w1 ⟨n,rfl,rfl⟩
  go_wp2_with fail
  have q7:=((HR7.out.drewN n).far (o:=1) (v:=Value.string (t.extract i j)) hne)
  have q9:=((HR9.out.drewN n).jF (t.extract i j))
  have qB:Below w.heap.size w ((W0.drewN n).setCell { block:=b9,off:=1 } (Value.string (t.extract i j))):=((below_drewN HB.out n).setCell H9.out _)
  clear c70 c71 c72 c73 c74 c75 f70 f71 f72 f73 f74 f75 c90 c91 c92 c93 c94 c95 f90 f91 f92 f93 f94 f95
  generalize hgw:((W0.drewN n).setCell { block:=b9,off:=1 } (Value.string (t.extract i j)))=W2 at q7 q9 qB ⊢
  clear hgw HR7 HR9 HB
  have HR7:=Lib.hid q7
  have HR9:=Lib.hid q9
  have HB:=Lib.hid qB
  obtain⟨c70,c71,c72,c73,c74,c75⟩:=q7.cells
  obtain⟨f70,f71,f72,f73,f74,f75⟩:=q7.qP
  obtain⟨c90,c91,c92,c93,c94,c95⟩:=q9.cells
  obtain⟨f90,f91,f92,f93,f94,f95⟩:=q9.qP
  clear qB q7 q9
  go_region
  go_wp2_with fail
  refine bodyPost_ret (jX _ _ b7 _ _ _ _ _ _ _ rfl rfl rfl (((((((HR7.out.j8 0).jF (t.extract i j)).qD (⟨#[]⟩)).qO (0)).j5 (0)).yH).drew)) rfl ?_
  exact⟨0,_,_,_,rfl,by decide,by decide,⟨fun h=>absurd h (by decide),fun h=>by omega⟩,zJ ((((((HB.out.setCell H7.out _).setCell H7.out _).setCell H7.out _).setCell H7.out _).setCell H7.out _).setCell H7.out _)⟩
end Go.Proofs.YtljhmnnhfnmhmaaGreatDoor.M
