/-
Lemmas of this claim; made short by a program of this work.
-/
import Derived.Test.YtljhmnnhfnmhmaaGreatDoorUGj3
import Derived.Test.YtljhmnnhfnmhmaaGreatDoorUM18
import Derived.Test.YtljhmnnhfnmhmaaGreatDoorUM0
set_option linter.unusedVariables false
set_option linter.unusedSimpArgs false
set_option maxHeartbeats 4000000
set_option maxRecDepth 100000
namespace Go.Proofs.YtljhmnnhfnmhmaaGreatDoor.M
open Go Go.RowKit Go.Proofs.YtljhmnnhfnmhmaaGreatDoorW.PrintWords
attribute [local go_sem] xL
theorem FT.up {g g' b o c bp op cp:Nat} {w:World} (h:FT g b o c bp op cp w) (hg:g≤g'):FT g' b o c bp op cp w :=
 { h with lb:=Nat.lt_of_lt_of_le h.lb hg,lp:=Nat.lt_of_lt_of_le h.lp hg,l12:=Nat.lt_of_lt_of_le h.l12 hg }
theorem zDl.up {n n' b o c bp op cp bt ot ct:Nat} {w:World} (h:zDl n b o c bp op cp bt ot ct w) (hg:n≤n'):zDl n' b o c bp op cp bt ot ct w :=
 { h with ft:=h.ft.up hg,lt:=Nat.lt_of_lt_of_le h.lt hg,l13:=Nat.lt_of_lt_of_le h.l13 hg }
theorem PfT.up {n n' b o c bp op cp bt ot ct:Nat} {w:World} (h:PfT n b o c bp op cp bt ot ct w) (hg:n≤n'):PfT n' b o c bp op cp bt ot ct w :=
 { h with all:=h.all.up hg }
theorem YD (t:ByteArray) (i j:Nat) (w:World) (b o c bp op cp bt ot ct:Nat) (ht:t.size≤1048576) (hij:i < j) (hj:j < t.size) (hch:∀ p:Nat,i≤p→p < j→qN (bn t p)) (h0:bn t i=45∨(48≤bn t i∧bn t i≤57)) (hat:Brk (bn t j)) (hT:PfT w.heap.size b o c bp op cp bt ot ct w) :
  Calls Tryz.prog 69 #[.string t, .int .i64 (i:Int), .bool true] w (zDo t i j w):=by
 have hnt:kZ (t.extract i j):=by
  intro k hk
  rw [ByteArray.size_extract] at hk
  rw [zBl t i j k (by omega) (by omega)]
  exact hch (i+k) (by omega) (by omega)
 have hrz:(t.extract i j).size≤1048576:=by rw [ByteArray.size_extract];omega
 have HP:=Lib.hid (fun w (hT:PfT w.heap.size b o c bp op cp bt ot ct w)=>VK (t.extract i j) b o c bp op cp bt ot ct w hrz hnt hT)
 have HT:=Lib.hid hT
 have hb:=vP t
 have HL:=Lib.hid (fun w=>XR t i j w ht hij hj (fun p h1 h2=>by have:=hch p (by omega) h2;unfold qN at this;unfold Brk;omega) hat)
 have hbox:¬ (bn t i=91∨bn t i=123):=by omega
 have HBX:=Lib.hid hbox
 obtain⟨ch,hch1⟩:∃ ch,bn t i=ch:=⟨_,rfl⟩
 rw [hch1] at h0
 have h123:(ch == 123)=false:=beq_eq_false_iff_ne.mpr (by omega)
 have h91:(ch == 91)=false:=beq_eq_false_iff_ne.mpr (by omega)
 have h32:¬ ch≤32:=by omega
 have hil:i < t.size:=by omega
 clear hch hat hnt hrz hT hbox
 go_enter Tryz.func69,Tryz.ntmps69
 go_wp2_with fail
 obtain⟨W0,hW0⟩:∃ W0,(w.alloc (Obj.cells #[Value.int IntKind.i64 0,Value.string ⟨#[]⟩,Value.string ⟨#[]⟩,Value.float FloatKind.f64 0,Value.int IntKind.i64 0,Value.slice none 0 0] 57)).alloc (Obj.cells #[Value.int IntKind.i64 0,Value.string ⟨#[]⟩,Value.string ⟨#[]⟩,Value.float FloatKind.f64 0,Value.int IntKind.i64 0,Value.slice none 0 0] 57)=W0:=⟨_,rfl⟩
 have r7:Rs w.heap.size 0 ⟨#[]⟩ ⟨#[]⟩ 0 0 W0:=⟨Zq2⟩
 have r9:Rs (w.heap.size+1) 0 ⟨#[]⟩ ⟨#[]⟩ 0 0 W0:=⟨Zq3⟩
 have hB0:Below w.heap.size w W0:=by rw [← hW0];exact zD (zD (Below.refl _ _) _) _
 rw [hW0]
 clear hW0
 obtain⟨b9,h9⟩:∃ b9,w.heap.size+1=b9:=⟨_,rfl⟩
 rw [h9] at r9 ⊢
 obtain⟨b7,h7⟩:∃ b7,w.heap.size=b7:=⟨_,rfl⟩
 have hne:¬ b7=b9:=by omega
 have hne':¬ b9=b7:=by omega
 rw [h7] at r7 ⊢
 have H7:Hid (w.heap.size≤b7):=Lib.hid (by omega)
 have H9:Hid (w.heap.size≤b9):=Lib.hid (by omega)
 have HB:=Lib.hid hB0
 have HR7:=Lib.hid r7
 have HR9:=Lib.hid r9
 clear h7 h9 hB0
 obtain⟨c70,c71,c72,c73,c74,c75⟩:=r7.cells
 obtain⟨f70,f71,f72,f73,f74,f75⟩:=r7.qP
 obtain⟨c90,c91,c92,c93,c94,c95⟩:=r9.cells
 obtain⟨f90,f91,f92,f93,f94,f95⟩:=r9.qP
 clear r7 r9
 go_loop [1] (fun a1=>a1 = .int .i64 (i:Int)) (fun _=>0)
 case atStart=>rfl
 case round =>
  obtain rfl:=hrel
  have H0:=Lib.hid h0
  clear h0
  go_upto_block 2 with fail
  go_cut [1,11] (fun a1 a11 wx=>a1 = .int .i64 (i:Int)∧a11 = .bool true∧W0=wx)
  case first =>
   have h0:ch=45∨ch=48∨ch=49∨ch=50∨ch=51∨ch=52∨ch=53∨ch=54∨ch=55∨ch=56∨ch=57:=by have:=H0.out;omega
   clear H0 h123 h91 h32 c70 c71 c72 c73 c74 c75 f70 f71 f72 f73 f74 f75 c90 c91 c92 c93 c94 c95 f90 f91 f92 f93 f94 f95
   rcases h0 with rfl|rfl|rfl|rfl|rfl|rfl|rfl|rfl|rfl|rfl|rfl
   all_goals
    go_wp2_with fail
    go_meet
    exact⟨rfl,rfl,rfl⟩
  case rest =>
   obtain⟨rfl,rfl,rfl⟩:=hcut
   go_wp2_with fail
   refine(HL.out _).mono ?_
   rintro e w1 ⟨nn,rfl,rfl⟩
   go_wp2_with fail
   have k7:=(((HR7.out.drewN nn).far (o:=1) (v:=Value.string (t.extract i j)) hne).far (o:=0) (v:=Value.int IntKind.i64 2) hne)
   have k9:=(((HR9.out.drewN nn).jF (t.extract i j)).j8 2)
   have kB:Below w.heap.size w (((W0.drewN nn).setCell { block:=b9,off:=1 } (Value.string (t.extract i j))).setCell { block:=b9,off:=0 } (Value.int IntKind.i64 2)):=(((below_drewN HB.out nn).setCell H9.out _).setCell H9.out _)
   clear c70 c71 c72 c73 c74 c75 f70 f71 f72 f73 f74 f75 c90 c91 c92 c93 c94 c95 f90 f91 f92 f93 f94 f95
   generalize hgw:(((W0.drewN nn).setCell { block:=b9,off:=1 } (Value.string (t.extract i j))).setCell { block:=b9,off:=0 } (Value.int IntKind.i64 2))=W1 at k7 k9 kB ⊢
   clear hgw HR7 HR9 HB
   have hT1:=(HT.out.below kB).up kB.size
   refine(HP.out _ hT1).mono ?_
   rintro e w1 ⟨fl,ev,rfl,hBu⟩
   have m7:=k7.below hBu
   have m9:=k9.below hBu
   have mB:=kB.trans (hBu.mono kB.size)
   clear hBu k7 k9 kB hT1
   have HK7:=Lib.hid m7
   have HK9:=Lib.hid m9
   have HKB:=Lib.hid mB
   obtain⟨c70,c71,c72,c73,c74,c75⟩:=m7.cells
   obtain⟨f70,f71,f72,f73,f74,f75⟩:=m7.qP
   obtain⟨c90,c91,c92,c93,c94,c95⟩:=m9.cells
   obtain⟨f90,f91,f92,f93,f94,f95⟩:=m9.qP
   clear m7 m9 mB
   go_wp2_with fail
   have q7:=(HK7.out.far (o:=3) (v:=Value.float FloatKind.f64 fl) hne)
   have q9:=(HK9.out.qO fl)
   have qB:Below w.heap.size w (w1.setCell { block:=b9,off:=3 } (Value.float FloatKind.f64 fl)):=(HKB.out.setCell H9.out _)
   clear c70 c71 c72 c73 c74 c75 f70 f71 f72 f73 f74 f75 c90 c91 c92 c93 c94 c95 f90 f91 f92 f93 f94 f95
   generalize hgw:(w1.setCell { block:=b9,off:=3 } (Value.float FloatKind.f64 fl))=W2 at q7 q9 qB ⊢
   clear hgw HK7 HK9 HKB
   have HR7:=Lib.hid q7
   have HR9:=Lib.hid q9
   have HB:=Lib.hid qB
   obtain⟨c70,c71,c72,c73,c74,c75⟩:=q7.cells
   obtain⟨f70,f71,f72,f73,f74,f75⟩:=q7.qP
   obtain⟨c90,c91,c92,c93,c94,c95⟩:=q9.cells
   obtain⟨f90,f91,f92,f93,f94,f95⟩:=q9.qP
   clear qB q7 q9
   go_region
   go_wp2_with fail
   refine bodyPost_ret (jX _ _ b7 _ _ _ _ _ _ _ rfl rfl rfl (((((((HR7.out.j8 2).jF (t.extract i j)).qD (⟨#[]⟩)).qO (fl)).j5 (0)).yH).drew)) rfl ?_
   exact⟨2,_,_,_,rfl,by decide,by decide,⟨fun h=>absurd h (by decide),fun h=>absurd h HBX.out⟩,zJ ((((((HB.out.setCell H7.out _).setCell H7.out _).setCell H7.out _).setCell H7.out _).setCell H7.out _).setCell H7.out _)⟩
end Go.Proofs.YtljhmnnhfnmhmaaGreatDoor.M
