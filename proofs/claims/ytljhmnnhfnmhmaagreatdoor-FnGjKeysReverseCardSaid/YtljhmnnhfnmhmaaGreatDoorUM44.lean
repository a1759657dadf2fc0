/-
Lemmas of this claim; made short by a program of this work.
-/
import Derived.Test.YtljhmnnhfnmhmaaGreatDoorUTxg
import Derived.Test.YtljhmnnhfnmhmaaGreatDoorUGx11
import Derived.Test.YtljhmnnhfnmhmaaGreatDoorUM3
import Derived.Deep.RegionHeld3
import Derived.Test.YtljhmnnhfnmhmaaGreatDoorUM43
import Derived.Test.YtljhmnnhfnmhmaaGreatDoorUM0
set_option linter.unusedVariables false
set_option linter.unusedSimpArgs false
set_option maxHeartbeats 8000000
set_option maxRecDepth 100000
namespace Go.Proofs.YtljhmnnhfnmhmaaGreatDoor.G
open Go.RowKit Go.Proofs.YtljhmnnhfnmhmaaGreatDoorW.PrintWords Go.Proofs.YtljhmnnhfnmhmaaGreatDoorW.PrintLast Go.Proofs.YtljhmnnhfnmhmaaGreatDoorW.PrintMore
theorem zBi (t:ByteArray) (n:S25) (w:World) (hRd:∀ W,Calls Tryz.prog 13 #[.string t] W (uH n W)) (hU:∀ A2 c2 A3 c3 W,Kd.C Kd.string W A2 n.f2.length n.f2→n.f2.length≤c2→Kd.C k25 W A3 n.f3.length n.f3→n.f3.length≤c3→Calls Tryz.prog 14 #[.agg #[.int .i64 n.f0, .string n.f1, .slice A2 n.f2.length c2, .slice A3 n.f3.length c3]] W fun e w'=>e = .returned (.bool true)∧Below W.heap.size W w') (hpos:0 < t.size) (hsz:t.size≤65536) (hbl1:∀ W,Calls Tryz.prog 15 #[.int .u8 (M.bn t 0)] W (fun e w'=>e = .returned (.bool false)∧vW W w')) (hbl2:∀ W,Calls Tryz.prog 15 #[.int .u8 (M.bn t (t.size - 1))] W (fun e w'=>e = .returned (.bool true)∧vW W w')):Calls Tryz.prog 5 #[.string t] w (Z7 n false w):=by
 have HU:=zA.mk hU
 have HBL1:=zA.mk hbl1
 have HBL2:=zA.mk hbl2
 have hb:=M.vP t
 have hp0:(0:Int) < (t.size:Int):=by omega
 have hp1:wrap64 ((t.size:Int) - 1)=((t.size - 1:Nat):Int):=by unfold wrap64;omega
 have hp2:t.size - 1 < t.size:=by omega
 clear hU hbl1 hbl2
 have hR0:(w.alloc (.cells #[.int .i64 0, .string ⟨#[]⟩, .slice none 0 0, .slice none 0 0] 25)).heap[w.heap.size]?=some (.cells #[.int .i64 0, .string ⟨#[]⟩, .slice none 0 0, .slice none 0 0] 25 (0,0)):=by simpa using heap_alloc_new w _
 have HR:=zA.mk hR0
 have HD:=zA.mk hRd
 clear hR0 hRd
 go_enter Tryz.func5,Tryz.ntmps5
 go_wp2_with fail
 refine(HD.out _).mono ?_
 rintro e w2 ⟨v,rfl,hnd,hb⟩
 obtain⟨A2,c2,A3,c3,rfl,hn2,hn3⟩:=id hnd
 obtain⟨_,k2,j2⟩:=Kd.vX hn2
 obtain⟨_,k3,j3⟩:=Kd.vX hn3
 clear hn2 hn3
 have hb2:w2.heap[w.heap.size]?=some (.cells #[.int .i64 0, .string ⟨#[]⟩, .slice none 0 0, .slice none 0 0] 25 (0,0)):=(hb.block _ zAy).trans HR.out
 have hB:Below w.heap.size w w2:=(zD (Below.refl w.heap.size w) (.cells #[.int .i64 0, .string ⟨#[]⟩, .slice none 0 0, .slice none 0 0] 25)).trans (hb.mono zAz)
 have hlt2:=xW hb2
 have hc0:w2.cell? ⟨w.heap.size,0,none⟩=some (.int .i64 0):=(zB hb2 0).trans rfl
 have hc1:w2.cell? ⟨w.heap.size,1,none⟩=some (.string ⟨#[]⟩):=(zB hb2 1).trans rfl
 have hc2:w2.cell? ⟨w.heap.size,2,none⟩=some (.slice none 0 0):=(zB hb2 2).trans rfl
 have hc3:w2.cell? ⟨w.heap.size,3,none⟩=some (.slice none 0 0):=(zB hb2 3).trans rfl
 have hf:∀ i,w2.frozen? ⟨w.heap.size,i,none⟩=false:=fun i=>zC hb2 i
 have HB:=zA.mk (And.intro hb2 hB)
 clear hb hb2 hB HR
 have HN:=zA.mk hnd
 clear hnd
 go_wp2_with fail
 have g4:(w2.alloc (.cells #[.int .i64 n.f0, .string n.f1, .slice A2 n.f2.length c2, .slice A3 n.f3.length c3] 25)).heap[w2.heap.size]?=some (.cells #[.int .i64 n.f0, .string n.f1, .slice A2 n.f2.length c2, .slice A3 n.f3.length c3] 25 (0,0)):=by simpa using heap_alloc_new w2 _
 have hBa:Below w.heap.size w (w2.alloc (.cells #[.int .i64 n.f0, .string n.f1, .slice A2 n.f2.length c2, .slice A3 n.f3.length c3] 25)):=zD HB.out.2 _
 have g2:(w2.alloc (.cells #[.int .i64 n.f0, .string n.f1, .slice A2 n.f2.length c2, .slice A3 n.f3.length c3] 25)).heap[w.heap.size]?=some (.cells #[.int .i64 0, .string ⟨#[]⟩, .slice none 0 0, .slice none 0 0] 25 (0,0)):=zF HB.out.1 _
 have hlt3:w2.heap.size < (w2.alloc (.cells #[.int .i64 n.f0, .string n.f1, .slice A2 n.f2.length c2, .slice A3 n.f3.length c3] 25)).heap.size:=by simp
 have K2:=k2
 have K3:=k3
 have i2:∀ W',Below (w2.alloc (.cells #[.int .i64 n.f0, .string n.f1, .slice A2 n.f2.length c2, .slice A3 n.f3.length c3] 25)).heap.size (w2.alloc (.cells #[.int .i64 n.f0, .string n.f1, .slice A2 n.f2.length c2, .slice A3 n.f3.length c3] 25)) W'→Kd.C Kd.string W' A2 n.f2.length n.f2:=fun W' h=>Kd.vN j2 ((zD (Below.refl _ _) _).trans (h.mono (by simp)))
 have i3:∀ W',Below (w2.alloc (.cells #[.int .i64 n.f0, .string n.f1, .slice A2 n.f2.length c2, .slice A3 n.f3.length c3] 25)).heap.size (w2.alloc (.cells #[.int .i64 n.f0, .string n.f1, .slice A2 n.f2.length c2, .slice A3 n.f3.length c3] 25)) W'→Kd.C k25 W' A3 n.f3.length n.f3:=fun W' h=>Kd.vN j3 ((zD (Below.refl _ _) _).trans (h.mono (by simp)))
 have hnr:=HN.out.below (zD (Below.refl _ _) (.cells #[.int .i64 n.f0, .string n.f1, .slice A2 n.f2.length c2, .slice A3 n.f3.length c3] 25))
 obtain⟨W0,hW0⟩:∃ W0,(w2.alloc (.cells #[.int .i64 n.f0, .string n.f1, .slice A2 n.f2.length c2, .slice A3 n.f3.length c3] 25))=W0:=⟨_,rfl⟩
 rw [hW0] at g4 hBa g2 hlt3 i2 i3 hnr ⊢
 have HC2:=zA.mk i2
 have HC3:=zA.mk i3
 have H4:=zA.mk g4
 have H2:=zA.mk g2
 have HL:=zA.mk (And.intro hlt3 (Nat.lt_trans hlt2 hlt3))
 have HNR:=zA.mk hnr
 have HBA:=zA.mk hBa
 have q0:W0.cell? ⟨w2.heap.size,0,none⟩=some (.int .i64 n.f0):=(zB g4 0).trans rfl
 have q1:W0.cell? ⟨w2.heap.size,1,none⟩=some (.string n.f1):=(zB g4 1).trans rfl
 have q2:W0.cell? ⟨w2.heap.size,2,none⟩=some (.slice A2 n.f2.length c2):=(zB g4 2).trans rfl
 have q3:W0.cell? ⟨w2.heap.size,3,none⟩=some (.slice A3 n.f3.length c3):=(zB g4 3).trans rfl
 clear hW0 g4 hBa g2 i2 i3 hnr hc0 hc1 hc2 hc3 hf j2 j3 k2 k3 hlt3 hlt2 HN HB
 refine kV (n:=23) (S:=fun W=>W.cell? ⟨w2.heap.size,0,none⟩=some (.int .i64 n.f0)∧W.cell? ⟨w2.heap.size,1,none⟩=some (.string n.f1)∧W.cell? ⟨w2.heap.size,2,none⟩=some (.slice A2 n.f2.length c2)∧W.cell? ⟨w2.heap.size,3,none⟩=some (.slice A3 n.f3.length c3)) (ds:=[21]) #[false,false,false,false,false,false,false,false,false,false,false,false,false,false,false,false,false,false,false,false,false,false,false] (by kernel_rfl) rfl rfl ⟨q0,q1,q2,q3⟩ (fun hHeld=>?_)
 refine xP (i:=1) (N:=(some 12)) (v:=?_) (a':=?_) #[false,true,false,false,false,false,false,false,false,false,false,false,false,false,false,false,false,false,false,false,false,false,false] rfl rfl (by kernel_rfl) (fun _ _ _ h=>h) (Or.inl ⟨by rfl,?_⟩) ?_ ?_
 rotate_left
 ·
  intro w'
  go_simp
  with_reducible rfl
 rotate_left
 ·
  simp only [Act.put,List.setIfInBounds_toArray,List.set_cons_zero,List.set_cons_succ,z6,z7]
  rfl
 refine xP (i:=2) (N:=(some 13)) (v:=?_) (a':=?_) #[false,true,true,false,false,false,false,false,false,false,false,false,false,false,false,false,false,false,false,false,false,false,false] rfl rfl (by kernel_rfl) (fun _ _ _ h=>h) (Or.inl ⟨by rfl,?_⟩) ?_ ?_
 rotate_left
 ·
  intro w'
  go_simp
  with_reducible rfl
 rotate_left
 ·
  simp only [Act.put,List.setIfInBounds_toArray,List.set_cons_zero,List.set_cons_succ,z6,z7]
  rfl
 refine jZ (i:=0) (N:=(some 11)) (v:=?_) (a':=?_) #[true,true,true,false,false,false,false,false,false,false,false,false,false,false,false,false,false,false,false,false,false,false,false] rfl rfl (by kernel_rfl) (fun _ _ _ h=>h) (Or.inl ⟨by rfl,?_⟩) hHeld ?_ ?_
 rotate_left
 ·
  rintro w' ⟨s0,s1,s2,s3⟩
  go_simp
  with_reducible rfl
 rotate_left
 ·
  simp only [Act.put,List.setIfInBounds_toArray,List.set_cons_zero,List.set_cons_succ,z6,z7]
  rfl
 refine jZ (i:=3) (N:=(some 14)) (v:=?_) (a':=?_) #[true,true,true,true,false,false,false,false,false,false,false,false,false,false,false,false,false,false,false,false,false,false,false] rfl rfl (by kernel_rfl) (fun _ _ _ h=>h) (Or.inl ⟨by rfl,?_⟩) hHeld ?_ ?_
 rotate_left
 ·
  rintro w' ⟨s0,s1,s2,s3⟩
  go_simp
  with_reducible rfl
 rotate_left
 ·
  simp only [Act.put,List.setIfInBounds_toArray,List.set_cons_zero,List.set_cons_succ,z6,z7]
  rfl
 refine JW (i:=4) (N:=some 15) #[true,true,true,true,true,false,false,false,false,false,false,false,false,false,false,false,false,false,false,false,false,false,false] rfl rfl (by kernel_rfl) (by decide) (fun K hK=>?_)
 refine uA Tryz.func14 (by kernel_rfl) rfl #[.agg #[.int .i64 n.f0, .string n.f1, .slice A2 n.f2.length c2, .slice A3 n.f3.length c3]] (by rfl) rfl rfl zDx ?_
 refine(HU.out A2 c2 A3 c3 _ (HC2.out _ (zJ (Below.refl _ _))) K2 (HC3.out _ (zJ (Below.refl _ _))) K3).mono ?_
 rintro e w11 ⟨rfl,hb11⟩
 have hB11:Below W0.heap.size W0 w11:=(zJ (Below.refl _ _)).trans hb11
 have m4:=(hB11.block _ HL.out.1).trans H4.out
 have m2:=(hB11.block _ HL.out.2).trans H2.out
 have HB11:=zA.mk hB11
 have M4:=zA.mk m4
 have M2:=zA.mk m2
 clear m4 m2 hb11 hB11
 refine⟨_,rfl,?_⟩
 refine hK.out _ _ ⟨(zB M4.out 0).trans rfl,(zB M4.out 1).trans rfl,(zB M4.out 2).trans rfl,(zB M4.out 3).trans rfl⟩ (fun hHeld=>?_)
 clear hK K
 refine kL (a':=?_) ?_ ?_
 rotate_left
 ·
  show Act.put _ (some 15) _=_
  simp only [Act.put,List.setIfInBounds_toArray,List.set_cons_zero,List.set_cons_succ,z6,z7]
  rfl
 refine xP (i:=5) (N:=(some 16)) (v:=?_) (a':=?_) #[true,true,true,true,true,true,false,false,false,false,false,false,false,false,false,false,false,false,false,false,false,false,false] rfl rfl (by kernel_rfl) (fun _ _ _ h=>h) (Or.inl ⟨by rfl,?_⟩) ?_ ?_
 rotate_left
 ·
  intro w'
  go_simp
  with_reducible rfl
 rotate_left
 ·
  simp only [Act.put,List.setIfInBounds_toArray,List.set_cons_zero,List.set_cons_succ,z6,z7]
  rfl
 refine xP (i:=6) (N:=(some 17)) (v:=?_) (a':=?_) #[true,true,true,true,true,true,true,false,false,false,false,false,false,false,false,false,false,false,false,false,false,false,false] rfl rfl (by kernel_rfl) (fun _ _ _ h=>h) (Or.inl ⟨by rfl,?_⟩) ?_ ?_
 rotate_left
 ·
  intro w'
  go_simp
  with_reducible rfl
 rotate_left
 ·
  simp only [Act.put,List.setIfInBounds_toArray,List.set_cons_zero,List.set_cons_succ,z6,z7]
  rfl
 refine xP (i:=7) (N:=(some 18)) (v:=?_) (a':=?_) #[true,true,true,true,true,true,true,true,false,false,false,false,false,false,false,false,false,false,false,false,false,false,false] rfl rfl (by kernel_rfl) (fun _ _ _ h=>h) (Or.inl ⟨by rfl,?_⟩) ?_ ?_
 rotate_left
 ·
  intro w'
  go_simp
  with_reducible rfl
 rotate_left
 ·
  simp only [Act.put,List.setIfInBounds_toArray,List.set_cons_zero,List.set_cons_succ,z6,z7]
  rfl
 refine xP (i:=8) (N:=(some 19)) (v:=?_) (a':=?_) #[true,true,true,true,true,true,true,true,true,false,false,false,false,false,false,false,false,false,false,false,false,false,false] rfl rfl (by kernel_rfl) (fun _ _ _ h=>h) (Or.inl ⟨by rfl,?_⟩) ?_ ?_
 rotate_left
 ·
  intro w'
  go_simp
  with_reducible rfl
 rotate_left
 ·
  simp only [Act.put,List.setIfInBounds_toArray,List.set_cons_zero,List.set_cons_succ,z6,z7]
  rfl
 refine JW (i:=9) (N:=some 20) #[true,true,true,true,true,true,true,true,true,true,false,false,false,false,false,false,false,false,false,false,false,false,false] rfl rfl (by kernel_rfl) (by decide) (fun K hK=>?_)
 refine uA Tryz.func15 (by kernel_rfl) rfl #[.int .u8 (M.bn t (0))] (by rfl) rfl rfl zDx ?_
 refine(HBL1.out _).mono ?_
 rintro e w12 ⟨rfl,⟨⟨nn1,hdr1⟩⟩⟩
 have hb11:Below W0.heap.size W0 w12:=by rw [hdr1];exact zH HB11.out nn1
 have m4:=(hb11.block _ HL.out.1).trans H4.out
 have m2:=(hb11.block _ HL.out.2).trans H2.out
 clear HB11 M4 M2 hdr1
 have HB11:=zA.mk hb11
 have M4:=zA.mk m4
 have M2:=zA.mk m2
 clear m4 m2 hb11
 refine⟨_,rfl,?_⟩
 refine hK.out _ _ ⟨(zB M4.out 0).trans rfl,(zB M4.out 1).trans rfl,(zB M4.out 2).trans rfl,(zB M4.out 3).trans rfl⟩ (fun hHeld=>?_)
 clear hK K
 refine kL (a':=?_) ?_ ?_
 rotate_left
 ·
  show Act.put _ (some 20) _=_
  simp only [Act.put,List.setIfInBounds_toArray,List.set_cons_zero,List.set_cons_succ,z6,z7]
  rfl
 refine xP (i:=10) (N:=(some 21)) (v:=?_) (a':=?_) #[true,true,true,true,true,true,true,true,true,true,true,false,false,false,false,false,false,false,false,false,false,false,false] rfl rfl (by kernel_rfl) (fun _ _ _ h=>h) (Or.inl ⟨by rfl,?_⟩) ?_ ?_
 rotate_left
 ·
  intro w'
  go_simp
  with_reducible rfl
 rotate_left
 ·
  simp only [Act.put,List.setIfInBounds_toArray,List.set_cons_zero,List.set_cons_succ,z6,z7]
  rfl
 refine xP (i:=11) (N:=(some 22)) (v:=?_) (a':=?_) #[true,true,true,true,true,true,true,true,true,true,true,true,false,false,false,false,false,false,false,false,false,false,false] rfl rfl (by kernel_rfl) (fun _ _ _ h=>h) (Or.inl ⟨by rfl,?_⟩) ?_ ?_
 rotate_left
 ·
  intro w'
  go_simp
  with_reducible rfl
 rotate_left
 ·
  simp only [Act.put,List.setIfInBounds_toArray,List.set_cons_zero,List.set_cons_succ,z6,z7]
  rfl
 refine xP (i:=12) (N:=(some 23)) (v:=?_) (a':=?_) #[true,true,true,true,true,true,true,true,true,true,true,true,true,false,false,false,false,false,false,false,false,false,false] rfl rfl (by kernel_rfl) (fun _ _ _ h=>h) (Or.inl ⟨by rfl,?_⟩) ?_ ?_
 rotate_left
 ·
  intro w'
  go_simp
  with_reducible rfl
 rotate_left
 ·
  simp only [Act.put,List.setIfInBounds_toArray,List.set_cons_zero,List.set_cons_succ,z6,z7]
  rfl
 refine xP (i:=13) (N:=(some 24)) (v:=?_) (a':=?_) #[true,true,true,true,true,true,true,true,true,true,true,true,true,true,false,false,false,false,false,false,false,false,false] rfl rfl (by kernel_rfl) (fun _ _ _ h=>h) (Or.inl ⟨by rfl,?_⟩) ?_ ?_
 rotate_left
 ·
  intro w'
  go_simp
  with_reducible rfl
 rotate_left
 ·
  simp only [Act.put,List.setIfInBounds_toArray,List.set_cons_zero,List.set_cons_succ,z6,z7]
  rfl
 refine xP (i:=14) (N:=(some 25)) (v:=?_) (a':=?_) #[true,true,true,true,true,true,true,true,true,true,true,true,true,true,true,false,false,false,false,false,false,false,false] rfl rfl (by kernel_rfl) (fun _ _ _ h=>h) (Or.inl ⟨by rfl,?_⟩) ?_ ?_
 rotate_left
 ·
  intro w'
  go_simp
  with_reducible rfl
 rotate_left
 ·
  simp only [Act.put,List.setIfInBounds_toArray,List.set_cons_zero,List.set_cons_succ,z6,z7]
  rfl
 refine xP (i:=15) (N:=(some 26)) (v:=?_) (a':=?_) #[true,true,true,true,true,true,true,true,true,true,true,true,true,true,true,true,false,false,false,false,false,false,false] rfl rfl (by kernel_rfl) (fun _ _ _ h=>h) (Or.inl ⟨by rfl,?_⟩) ?_ ?_
 rotate_left
 ·
  intro w'
  go_simp
  with_reducible rfl
 rotate_left
 ·
  simp only [Act.put,List.setIfInBounds_toArray,List.set_cons_zero,List.set_cons_succ,z6,z7]
  rfl
 refine xP (i:=16) (N:=(some 27)) (v:=?_) (a':=?_) #[true,true,true,true,true,true,true,true,true,true,true,true,true,true,true,true,true,false,false,false,false,false,false] rfl rfl (by kernel_rfl) (fun _ _ _ h=>h) (Or.inl ⟨by rfl,?_⟩) ?_ ?_
 rotate_left
 ·
  intro w'
  go_simp
  with_reducible rfl
 rotate_left
 ·
  simp only [Act.put,List.setIfInBounds_toArray,List.set_cons_zero,List.set_cons_succ,z6,z7]
  rfl
 refine xP (i:=17) (N:=(some 28)) (v:=?_) (a':=?_) #[true,true,true,true,true,true,true,true,true,true,true,true,true,true,true,true,true,true,false,false,false,false,false] rfl rfl (by kernel_rfl) (fun _ _ _ h=>h) (Or.inl ⟨by rfl,?_⟩) ?_ ?_
 rotate_left
 ·
  intro w'
  go_simp
  with_reducible rfl
 rotate_left
 ·
  simp only [Act.put,List.setIfInBounds_toArray,List.set_cons_zero,List.set_cons_succ,z6,z7]
  rfl
 refine JW (i:=18) (N:=some 29) #[true,true,true,true,true,true,true,true,true,true,true,true,true,true,true,true,true,true,true,false,false,false,false] rfl rfl (by kernel_rfl) (by decide) (fun K hK=>?_)
 refine uA Tryz.func15 (by kernel_rfl) rfl #[.int .u8 (M.bn t (t.size - 1))] (by rfl) rfl rfl zDx ?_
 refine(HBL2.out _).mono ?_
 rintro e w13 ⟨rfl,⟨⟨nn2,hdr2⟩⟩⟩
 have hb11:Below W0.heap.size W0 w13:=by rw [hdr2];exact zH HB11.out nn2
 have m4:=(hb11.block _ HL.out.1).trans H4.out
 have m2:=(hb11.block _ HL.out.2).trans H2.out
 clear HB11 M4 M2 hdr2
 have HB11:=zA.mk hb11
 have M4:=zA.mk m4
 have M2:=zA.mk m2
 clear m4 m2 hb11
 refine⟨_,rfl,?_⟩
 refine hK.out _ _ ⟨(zB M4.out 0).trans rfl,(zB M4.out 1).trans rfl,(zB M4.out 2).trans rfl,(zB M4.out 3).trans rfl⟩ (fun hHeld=>?_)
 clear hK K
 refine kL (a':=?_) ?_ ?_
 rotate_left
 ·
  show Act.put _ (some 29) _=_
  simp only [Act.put,List.setIfInBounds_toArray,List.set_cons_zero,List.set_cons_succ,z6,z7]
  rfl
 refine xP (i:=19) (N:=(some 30)) (v:=?_) (a':=?_) #[true,true,true,true,true,true,true,true,true,true,true,true,true,true,true,true,true,true,true,true,false,false,false] rfl rfl (by kernel_rfl) (fun _ _ _ h=>h) (Or.inl ⟨by rfl,?_⟩) ?_ ?_
 rotate_left
 ·
  intro w'
  go_simp
  with_reducible rfl
 rotate_left
 ·
  simp only [Act.put,List.setIfInBounds_toArray,List.set_cons_zero,List.set_cons_succ,z6,z7]
  rfl
 refine xP (i:=20) (N:=(some 31)) (v:=?_) (a':=?_) #[true,true,true,true,true,true,true,true,true,true,true,true,true,true,true,true,true,true,true,true,true,false,false] rfl rfl (by kernel_rfl) (fun _ _ _ h=>h) (Or.inl ⟨by rfl,?_⟩) ?_ ?_
 rotate_left
 ·
  intro w'
  go_simp
  with_reducible rfl
 rotate_left
 ·
  simp only [Act.put,List.setIfInBounds_toArray,List.set_cons_zero,List.set_cons_succ,z6,z7]
  rfl
 refine zAh (i:=21) (N:=none) #[true,true,true,true,true,true,true,true,true,true,true,true,true,true,true,true,true,true,true,true,true,true,false] rfl rfl (by kernel_rfl) (by decide) (fun K hK=>?_)
 have hc0:w13.cell? ⟨w.heap.size,0,none⟩=some (.int .i64 0):=(zB M2.out 0).trans rfl
 have hc1:w13.cell? ⟨w.heap.size,1,none⟩=some (.string ⟨#[]⟩):=(zB M2.out 1).trans rfl
 have hc2:w13.cell? ⟨w.heap.size,2,none⟩=some (.slice none 0 0):=(zB M2.out 2).trans rfl
 have hc3:w13.cell? ⟨w.heap.size,3,none⟩=some (.slice none 0 0):=(zB M2.out 3).trans rfl
 have hf:=fun i=>zC M2.out i
 refine zAq (w1:=?_) (by rfl) rfl ?_ ?_
 rotate_left
 ·
  go_simp
  rfl
 refine hK.out _ _ ?_
 clear hK K
 clear hc0 hc1 hc2 hc3 hf
 refine xP (i:=22) (N:=(some 3)) (v:=?_) (a':=?_) #[true,true,true,true,true,true,true,true,true,true,true,true,true,true,true,true,true,true,true,true,true,true,true] rfl rfl (by kernel_rfl) (fun _ _ _ h=>h) (Or.inl ⟨by rfl,?_⟩) ?_ ?_
 rotate_left
 ·
  intro w'
  go_simp
  with_reducible rfl
 rotate_left
 ·
  simp only [Act.put,List.setIfInBounds_toArray,List.set_cons_zero,List.set_cons_succ,z6,z7]
  rfl
 refine ZW (by kernel_rfl) ?_
 go_wp2_with fail
 refine bodyPost_ret (vF rfl _ _ w.heap.size 25 #[.int .i64 n.f0, .string n.f1, .slice A2 n.f2.length c2, .slice A3 n.f3.length c3] (0,0) _ rfl Zq87 Tryz.underlying25 rfl (by kernel_rfl)) rfl ?_
 have hx:=((HNR.out.below HB11.out).zD9 (g:=w.heap.size) zAy (.int .i64 n.f0) (.string n.f1) (.slice A2 n.f2.length c2) (.slice A3 n.f3.length c3)).lower (B':=w.heap.size) zAz
 have HZ:=zA.mk (HBA.out.trans (HB11.out.mono (Nat.le_of_lt HL.out.2)))
 exact⟨_,rfl,hx,Zq88⟩
end Go.Proofs.YtljhmnnhfnmhmaaGreatDoor.G
set_option maxHeartbeats 8000000
set_option maxRecDepth 100000
namespace Go.Proofs.YtljhmnnhfnmhmaaGreatDoor.G
open Go.RowKit Go.Proofs.YtljhmnnhfnmhmaaGreatDoorW.PrintWords Go.Proofs.YtljhmnnhfnmhmaaGreatDoorW.PrintLast Go.Proofs.YtljhmnnhfnmhmaaGreatDoorW.PrintMore
theorem zD0 (t:ByteArray) (n:S25) (w:World) (hRd:∀ W,Calls Tryz.prog 13 #[.string t] W (uH n W)) (hU:∀ A2 c2 A3 c3 W,Kd.C Kd.string W A2 n.f2.length n.f2→n.f2.length≤c2→Kd.C k25 W A3 n.f3.length n.f3→n.f3.length≤c3→Calls Tryz.prog 14 #[.agg #[.int .i64 n.f0, .string n.f1, .slice A2 n.f2.length c2, .slice A3 n.f3.length c3]] W fun e w'=>e = .returned (.bool true)∧Below W.heap.size W w') (hpos:0 < t.size) (hsz:t.size≤65536) (hbl1:∀ W,Calls Tryz.prog 15 #[.int .u8 (M.bn t 0)] W (fun e w'=>e = .returned (.bool false)∧vW W w')) (hbl2:∀ W,Calls Tryz.prog 15 #[.int .u8 (M.bn t (t.size - 1))] W (fun e w'=>e = .returned (.bool false)∧vW W w')):Calls Tryz.prog 5 #[.string t] w (Z7 n true w):=by
 have HU:=zA.mk hU
 have HBL1:=zA.mk hbl1
 have HBL2:=zA.mk hbl2
 have hb:=M.vP t
 have hp0:(0:Int) < (t.size:Int):=by omega
 have hp1:wrap64 ((t.size:Int) - 1)=((t.size - 1:Nat):Int):=by unfold wrap64;omega
 have hp2:t.size - 1 < t.size:=by omega
 clear hU hbl1 hbl2
 have hR0:(w.alloc (.cells #[.int .i64 0, .string ⟨#[]⟩, .slice none 0 0, .slice none 0 0] 25)).heap[w.heap.size]?=some (.cells #[.int .i64 0, .string ⟨#[]⟩, .slice none 0 0, .slice none 0 0] 25 (0,0)):=by simpa using heap_alloc_new w _
 have HR:=zA.mk hR0
 have HD:=zA.mk hRd
 clear hR0 hRd
 go_enter Tryz.func5,Tryz.ntmps5
 go_wp2_with fail
 refine(HD.out _).mono ?_
 rintro e w2 ⟨v,rfl,hnd,hb⟩
 obtain⟨A2,c2,A3,c3,rfl,hn2,hn3⟩:=id hnd
 obtain⟨_,k2,j2⟩:=Kd.vX hn2
 obtain⟨_,k3,j3⟩:=Kd.vX hn3
 clear hn2 hn3
 have hb2:w2.heap[w.heap.size]?=some (.cells #[.int .i64 0, .string ⟨#[]⟩, .slice none 0 0, .slice none 0 0] 25 (0,0)):=(hb.block _ zAy).trans HR.out
 have hB:Below w.heap.size w w2:=(zD (Below.refl w.heap.size w) (.cells #[.int .i64 0, .string ⟨#[]⟩, .slice none 0 0, .slice none 0 0] 25)).trans (hb.mono zAz)
 have hlt2:=xW hb2
 have hc0:w2.cell? ⟨w.heap.size,0,none⟩=some (.int .i64 0):=(zB hb2 0).trans rfl
 have hc1:w2.cell? ⟨w.heap.size,1,none⟩=some (.string ⟨#[]⟩):=(zB hb2 1).trans rfl
 have hc2:w2.cell? ⟨w.heap.size,2,none⟩=some (.slice none 0 0):=(zB hb2 2).trans rfl
 have hc3:w2.cell? ⟨w.heap.size,3,none⟩=some (.slice none 0 0):=(zB hb2 3).trans rfl
 have hf:∀ i,w2.frozen? ⟨w.heap.size,i,none⟩=false:=fun i=>zC hb2 i
 have HB:=zA.mk (And.intro hb2 hB)
 clear hb hb2 hB HR
 have HN:=zA.mk hnd
 clear hnd
 go_wp2_with fail
 have g4:(w2.alloc (.cells #[.int .i64 n.f0, .string n.f1, .slice A2 n.f2.length c2, .slice A3 n.f3.length c3] 25)).heap[w2.heap.size]?=some (.cells #[.int .i64 n.f0, .string n.f1, .slice A2 n.f2.length c2, .slice A3 n.f3.length c3] 25 (0,0)):=by simpa using heap_alloc_new w2 _
 have hBa:Below w.heap.size w (w2.alloc (.cells #[.int .i64 n.f0, .string n.f1, .slice A2 n.f2.length c2, .slice A3 n.f3.length c3] 25)):=zD HB.out.2 _
 have g2:(w2.alloc (.cells #[.int .i64 n.f0, .string n.f1, .slice A2 n.f2.length c2, .slice A3 n.f3.length c3] 25)).heap[w.heap.size]?=some (.cells #[.int .i64 0, .string ⟨#[]⟩, .slice none 0 0, .slice none 0 0] 25 (0,0)):=zF HB.out.1 _
 have hlt3:w2.heap.size < (w2.alloc (.cells #[.int .i64 n.f0, .string n.f1, .slice A2 n.f2.length c2, .slice A3 n.f3.length c3] 25)).heap.size:=by simp
 have K2:=k2
 have K3:=k3
 have i2:∀ W',Below (w2.alloc (.cells #[.int .i64 n.f0, .string n.f1, .slice A2 n.f2.length c2, .slice A3 n.f3.length c3] 25)).heap.size (w2.alloc (.cells #[.int .i64 n.f0, .string n.f1, .slice A2 n.f2.length c2, .slice A3 n.f3.length c3] 25)) W'→Kd.C Kd.string W' A2 n.f2.length n.f2:=fun W' h=>Kd.vN j2 ((zD (Below.refl _ _) _).trans (h.mono (by simp)))
 have i3:∀ W',Below (w2.alloc (.cells #[.int .i64 n.f0, .string n.f1, .slice A2 n.f2.length c2, .slice A3 n.f3.length c3] 25)).heap.size (w2.alloc (.cells #[.int .i64 n.f0, .string n.f1, .slice A2 n.f2.length c2, .slice A3 n.f3.length c3] 25)) W'→Kd.C k25 W' A3 n.f3.length n.f3:=fun W' h=>Kd.vN j3 ((zD (Below.refl _ _) _).trans (h.mono (by simp)))
 have hnr:=HN.out.below (zD (Below.refl _ _) (.cells #[.int .i64 n.f0, .string n.f1, .slice A2 n.f2.length c2, .slice A3 n.f3.length c3] 25))
 obtain⟨W0,hW0⟩:∃ W0,(w2.alloc (.cells #[.int .i64 n.f0, .string n.f1, .slice A2 n.f2.length c2, .slice A3 n.f3.length c3] 25))=W0:=⟨_,rfl⟩
 rw [hW0] at g4 hBa g2 hlt3 i2 i3 hnr ⊢
 have HC2:=zA.mk i2
 have HC3:=zA.mk i3
 have H4:=zA.mk g4
 have H2:=zA.mk g2
 have HL:=zA.mk (And.intro hlt3 (Nat.lt_trans hlt2 hlt3))
 have HNR:=zA.mk hnr
 have HBA:=zA.mk hBa
 have q0:W0.cell? ⟨w2.heap.size,0,none⟩=some (.int .i64 n.f0):=(zB g4 0).trans rfl
 have q1:W0.cell? ⟨w2.heap.size,1,none⟩=some (.string n.f1):=(zB g4 1).trans rfl
 have q2:W0.cell? ⟨w2.heap.size,2,none⟩=some (.slice A2 n.f2.length c2):=(zB g4 2).trans rfl
 have q3:W0.cell? ⟨w2.heap.size,3,none⟩=some (.slice A3 n.f3.length c3):=(zB g4 3).trans rfl
 clear hW0 g4 hBa g2 i2 i3 hnr hc0 hc1 hc2 hc3 hf j2 j3 k2 k3 hlt3 hlt2 HN HB
 refine kV (n:=23) (S:=fun W=>W.cell? ⟨w2.heap.size,0,none⟩=some (.int .i64 n.f0)∧W.cell? ⟨w2.heap.size,1,none⟩=some (.string n.f1)∧W.cell? ⟨w2.heap.size,2,none⟩=some (.slice A2 n.f2.length c2)∧W.cell? ⟨w2.heap.size,3,none⟩=some (.slice A3 n.f3.length c3)) (ds:=[21]) #[false,false,false,false,false,false,false,false,false,false,false,false,false,false,false,false,false,false,false,false,false,false,false] (by kernel_rfl) rfl rfl ⟨q0,q1,q2,q3⟩ (fun hHeld=>?_)
 refine xP (i:=1) (N:=(some 12)) (v:=?_) (a':=?_) #[false,true,false,false,false,false,false,false,false,false,false,false,false,false,false,false,false,false,false,false,false,false,false] rfl rfl (by kernel_rfl) (fun _ _ _ h=>h) (Or.inl ⟨by rfl,?_⟩) ?_ ?_
 rotate_left
 ·
  intro w'
  go_simp
  with_reducible rfl
 rotate_left
 ·
  simp only [Act.put,List.setIfInBounds_toArray,List.set_cons_zero,List.set_cons_succ,z6,z7]
  rfl
 refine xP (i:=2) (N:=(some 13)) (v:=?_) (a':=?_) #[false,true,true,false,false,false,false,false,false,false,false,false,false,false,false,false,false,false,false,false,false,false,false] rfl rfl (by kernel_rfl) (fun _ _ _ h=>h) (Or.inl ⟨by rfl,?_⟩) ?_ ?_
 rotate_left
 ·
  intro w'
  go_simp
  with_reducible rfl
 rotate_left
 ·
  simp only [Act.put,List.setIfInBounds_toArray,List.set_cons_zero,List.set_cons_succ,z6,z7]
  rfl
 refine jZ (i:=0) (N:=(some 11)) (v:=?_) (a':=?_) #[true,true,true,false,false,false,false,false,false,false,false,false,false,false,false,false,false,false,false,false,false,false,false] rfl rfl (by kernel_rfl) (fun _ _ _ h=>h) (Or.inl ⟨by rfl,?_⟩) hHeld ?_ ?_
 rotate_left
 ·
  rintro w' ⟨s0,s1,s2,s3⟩
  go_simp
  with_reducible rfl
 rotate_left
 ·
  simp only [Act.put,List.setIfInBounds_toArray,List.set_cons_zero,List.set_cons_succ,z6,z7]
  rfl
 refine jZ (i:=3) (N:=(some 14)) (v:=?_) (a':=?_) #[true,true,true,true,false,false,false,false,false,false,false,false,false,false,false,false,false,false,false,false,false,false,false] rfl rfl (by kernel_rfl) (fun _ _ _ h=>h) (Or.inl ⟨by rfl,?_⟩) hHeld ?_ ?_
 rotate_left
 ·
  rintro w' ⟨s0,s1,s2,s3⟩
  go_simp
  with_reducible rfl
 rotate_left
 ·
  simp only [Act.put,List.setIfInBounds_toArray,List.set_cons_zero,List.set_cons_succ,z6,z7]
  rfl
 refine JW (i:=4) (N:=some 15) #[true,true,true,true,true,false,false,false,false,false,false,false,false,false,false,false,false,false,false,false,false,false,false] rfl rfl (by kernel_rfl) (by decide) (fun K hK=>?_)
 refine uA Tryz.func14 (by kernel_rfl) rfl #[.agg #[.int .i64 n.f0, .string n.f1, .slice A2 n.f2.length c2, .slice A3 n.f3.length c3]] (by rfl) rfl rfl zDx ?_
 refine(HU.out A2 c2 A3 c3 _ (HC2.out _ (zJ (Below.refl _ _))) K2 (HC3.out _ (zJ (Below.refl _ _))) K3).mono ?_
 rintro e w11 ⟨rfl,hb11⟩
 have hB11:Below W0.heap.size W0 w11:=(zJ (Below.refl _ _)).trans hb11
 have m4:=(hB11.block _ HL.out.1).trans H4.out
 have m2:=(hB11.block _ HL.out.2).trans H2.out
 have HB11:=zA.mk hB11
 have M4:=zA.mk m4
 have M2:=zA.mk m2
 clear m4 m2 hb11 hB11
 refine⟨_,rfl,?_⟩
 refine hK.out _ _ ⟨(zB M4.out 0).trans rfl,(zB M4.out 1).trans rfl,(zB M4.out 2).trans rfl,(zB M4.out 3).trans rfl⟩ (fun hHeld=>?_)
 clear hK K
 refine kL (a':=?_) ?_ ?_
 rotate_left
 ·
  show Act.put _ (some 15) _=_
  simp only [Act.put,List.setIfInBounds_toArray,List.set_cons_zero,List.set_cons_succ,z6,z7]
  rfl
 refine xP (i:=5) (N:=(some 16)) (v:=?_) (a':=?_) #[true,true,true,true,true,true,false,false,false,false,false,false,false,false,false,false,false,false,false,false,false,false,false] rfl rfl (by kernel_rfl) (fun _ _ _ h=>h) (Or.inl ⟨by rfl,?_⟩) ?_ ?_
 rotate_left
 ·
  intro w'
  go_simp
  with_reducible rfl
 rotate_left
 ·
  simp only [Act.put,List.setIfInBounds_toArray,List.set_cons_zero,List.set_cons_succ,z6,z7]
  rfl
 refine xP (i:=6) (N:=(some 17)) (v:=?_) (a':=?_) #[true,true,true,true,true,true,true,false,false,false,false,false,false,false,false,false,false,false,false,false,false,false,false] rfl rfl (by kernel_rfl) (fun _ _ _ h=>h) (Or.inl ⟨by rfl,?_⟩) ?_ ?_
 rotate_left
 ·
  intro w'
  go_simp
  with_reducible rfl
 rotate_left
 ·
  simp only [Act.put,List.setIfInBounds_toArray,List.set_cons_zero,List.set_cons_succ,z6,z7]
  rfl
 refine xP (i:=7) (N:=(some 18)) (v:=?_) (a':=?_) #[true,true,true,true,true,true,true,true,false,false,false,false,false,false,false,false,false,false,false,false,false,false,false] rfl rfl (by kernel_rfl) (fun _ _ _ h=>h) (Or.inl ⟨by rfl,?_⟩) ?_ ?_
 rotate_left
 ·
  intro w'
  go_simp
  with_reducible rfl
 rotate_left
 ·
  simp only [Act.put,List.setIfInBounds_toArray,List.set_cons_zero,List.set_cons_succ,z6,z7]
  rfl
 refine xP (i:=8) (N:=(some 19)) (v:=?_) (a':=?_) #[true,true,true,true,true,true,true,true,true,false,false,false,false,false,false,false,false,false,false,false,false,false,false] rfl rfl (by kernel_rfl) (fun _ _ _ h=>h) (Or.inl ⟨by rfl,?_⟩) ?_ ?_
 rotate_left
 ·
  intro w'
  go_simp
  with_reducible rfl
 rotate_left
 ·
  simp only [Act.put,List.setIfInBounds_toArray,List.set_cons_zero,List.set_cons_succ,z6,z7]
  rfl
 refine JW (i:=9) (N:=some 20) #[true,true,true,true,true,true,true,true,true,true,false,false,false,false,false,false,false,false,false,false,false,false,false] rfl rfl (by kernel_rfl) (by decide) (fun K hK=>?_)
 refine uA Tryz.func15 (by kernel_rfl) rfl #[.int .u8 (M.bn t (0))] (by rfl) rfl rfl zDx ?_
 refine(HBL1.out _).mono ?_
 rintro e w12 ⟨rfl,⟨⟨nn1,hdr1⟩⟩⟩
 have hb11:Below W0.heap.size W0 w12:=by rw [hdr1];exact zH HB11.out nn1
 have m4:=(hb11.block _ HL.out.1).trans H4.out
 have m2:=(hb11.block _ HL.out.2).trans H2.out
 clear HB11 M4 M2 hdr1
 have HB11:=zA.mk hb11
 have M4:=zA.mk m4
 have M2:=zA.mk m2
 clear m4 m2 hb11
 refine⟨_,rfl,?_⟩
 refine hK.out _ _ ⟨(zB M4.out 0).trans rfl,(zB M4.out 1).trans rfl,(zB M4.out 2).trans rfl,(zB M4.out 3).trans rfl⟩ (fun hHeld=>?_)
 clear hK K
 refine kL (a':=?_) ?_ ?_
 rotate_left
 ·
  show Act.put _ (some 20) _=_
  simp only [Act.put,List.setIfInBounds_toArray,List.set_cons_zero,List.set_cons_succ,z6,z7]
  rfl
 refine xP (i:=10) (N:=(some 21)) (v:=?_) (a':=?_) #[true,true,true,true,true,true,true,true,true,true,true,false,false,false,false,false,false,false,false,false,false,false,false] rfl rfl (by kernel_rfl) (fun _ _ _ h=>h) (Or.inl ⟨by rfl,?_⟩) ?_ ?_
 rotate_left
 ·
  intro w'
  go_simp
  with_reducible rfl
 rotate_left
 ·
  simp only [Act.put,List.setIfInBounds_toArray,List.set_cons_zero,List.set_cons_succ,z6,z7]
  rfl
 refine xP (i:=11) (N:=(some 22)) (v:=?_) (a':=?_) #[true,true,true,true,true,true,true,true,true,true,true,true,false,false,false,false,false,false,false,false,false,false,false] rfl rfl (by kernel_rfl) (fun _ _ _ h=>h) (Or.inl ⟨by rfl,?_⟩) ?_ ?_
 rotate_left
 ·
  intro w'
  go_simp
  with_reducible rfl
 rotate_left
 ·
  simp only [Act.put,List.setIfInBounds_toArray,List.set_cons_zero,List.set_cons_succ,z6,z7]
  rfl
 refine xP (i:=12) (N:=(some 23)) (v:=?_) (a':=?_) #[true,true,true,true,true,true,true,true,true,true,true,true,true,false,false,false,false,false,false,false,false,false,false] rfl rfl (by kernel_rfl) (fun _ _ _ h=>h) (Or.inl ⟨by rfl,?_⟩) ?_ ?_
 rotate_left
 ·
  intro w'
  go_simp
  with_reducible rfl
 rotate_left
 ·
  simp only [Act.put,List.setIfInBounds_toArray,List.set_cons_zero,List.set_cons_succ,z6,z7]
  rfl
 refine xP (i:=13) (N:=(some 24)) (v:=?_) (a':=?_) #[true,true,true,true,true,true,true,true,true,true,true,true,true,true,false,false,false,false,false,false,false,false,false] rfl rfl (by kernel_rfl) (fun _ _ _ h=>h) (Or.inl ⟨by rfl,?_⟩) ?_ ?_
 rotate_left
 ·
  intro w'
  go_simp
  with_reducible rfl
 rotate_left
 ·
  simp only [Act.put,List.setIfInBounds_toArray,List.set_cons_zero,List.set_cons_succ,z6,z7]
  rfl
 refine xP (i:=14) (N:=(some 25)) (v:=?_) (a':=?_) #[true,true,true,true,true,true,true,true,true,true,true,true,true,true,true,false,false,false,false,false,false,false,false] rfl rfl (by kernel_rfl) (fun _ _ _ h=>h) (Or.inl ⟨by rfl,?_⟩) ?_ ?_
 rotate_left
 ·
  intro w'
  go_simp
  with_reducible rfl
 rotate_left
 ·
  simp only [Act.put,List.setIfInBounds_toArray,List.set_cons_zero,List.set_cons_succ,z6,z7]
  rfl
 refine xP (i:=15) (N:=(some 26)) (v:=?_) (a':=?_) #[true,true,true,true,true,true,true,true,true,true,true,true,true,true,true,true,false,false,false,false,false,false,false] rfl rfl (by kernel_rfl) (fun _ _ _ h=>h) (Or.inl ⟨by rfl,?_⟩) ?_ ?_
 rotate_left
 ·
  intro w'
  go_simp
  with_reducible rfl
 rotate_left
 ·
  simp only [Act.put,List.setIfInBounds_toArray,List.set_cons_zero,List.set_cons_succ,z6,z7]
  rfl
 refine xP (i:=16) (N:=(some 27)) (v:=?_) (a':=?_) #[true,true,true,true,true,true,true,true,true,true,true,true,true,true,true,true,true,false,false,false,false,false,false] rfl rfl (by kernel_rfl) (fun _ _ _ h=>h) (Or.inl ⟨by rfl,?_⟩) ?_ ?_
 rotate_left
 ·
  intro w'
  go_simp
  with_reducible rfl
 rotate_left
 ·
  simp only [Act.put,List.setIfInBounds_toArray,List.set_cons_zero,List.set_cons_succ,z6,z7]
  rfl
 refine xP (i:=17) (N:=(some 28)) (v:=?_) (a':=?_) #[true,true,true,true,true,true,true,true,true,true,true,true,true,true,true,true,true,true,false,false,false,false,false] rfl rfl (by kernel_rfl) (fun _ _ _ h=>h) (Or.inl ⟨by rfl,?_⟩) ?_ ?_
 rotate_left
 ·
  intro w'
  go_simp
  with_reducible rfl
 rotate_left
 ·
  simp only [Act.put,List.setIfInBounds_toArray,List.set_cons_zero,List.set_cons_succ,z6,z7]
  rfl
 refine JW (i:=18) (N:=some 29) #[true,true,true,true,true,true,true,true,true,true,true,true,true,true,true,true,true,true,true,false,false,false,false] rfl rfl (by kernel_rfl) (by decide) (fun K hK=>?_)
 refine uA Tryz.func15 (by kernel_rfl) rfl #[.int .u8 (M.bn t (t.size - 1))] (by rfl) rfl rfl zDx ?_
 refine(HBL2.out _).mono ?_
 rintro e w13 ⟨rfl,⟨⟨nn2,hdr2⟩⟩⟩
 have hb11:Below W0.heap.size W0 w13:=by rw [hdr2];exact zH HB11.out nn2
 have m4:=(hb11.block _ HL.out.1).trans H4.out
 have m2:=(hb11.block _ HL.out.2).trans H2.out
 clear HB11 M4 M2 hdr2
 have HB11:=zA.mk hb11
 have M4:=zA.mk m4
 have M2:=zA.mk m2
 clear m4 m2 hb11
 refine⟨_,rfl,?_⟩
 refine hK.out _ _ ⟨(zB M4.out 0).trans rfl,(zB M4.out 1).trans rfl,(zB M4.out 2).trans rfl,(zB M4.out 3).trans rfl⟩ (fun hHeld=>?_)
 clear hK K
 refine kL (a':=?_) ?_ ?_
 rotate_left
 ·
  show Act.put _ (some 29) _=_
  simp only [Act.put,List.setIfInBounds_toArray,List.set_cons_zero,List.set_cons_succ,z6,z7]
  rfl
 refine xP (i:=19) (N:=(some 30)) (v:=?_) (a':=?_) #[true,true,true,true,true,true,true,true,true,true,true,true,true,true,true,true,true,true,true,true,false,false,false] rfl rfl (by kernel_rfl) (fun _ _ _ h=>h) (Or.inl ⟨by rfl,?_⟩) ?_ ?_
 rotate_left
 ·
  intro w'
  go_simp
  with_reducible rfl
 rotate_left
 ·
  simp only [Act.put,List.setIfInBounds_toArray,List.set_cons_zero,List.set_cons_succ,z6,z7]
  rfl
 refine xP (i:=20) (N:=(some 31)) (v:=?_) (a':=?_) #[true,true,true,true,true,true,true,true,true,true,true,true,true,true,true,true,true,true,true,true,true,false,false] rfl rfl (by kernel_rfl) (fun _ _ _ h=>h) (Or.inl ⟨by rfl,?_⟩) ?_ ?_
 rotate_left
 ·
  intro w'
  go_simp
  with_reducible rfl
 rotate_left
 ·
  simp only [Act.put,List.setIfInBounds_toArray,List.set_cons_zero,List.set_cons_succ,z6,z7]
  rfl
 refine zAh (i:=21) (N:=none) #[true,true,true,true,true,true,true,true,true,true,true,true,true,true,true,true,true,true,true,true,true,true,false] rfl rfl (by kernel_rfl) (by decide) (fun K hK=>?_)
 have hc0:w13.cell? ⟨w.heap.size,0,none⟩=some (.int .i64 0):=(zB M2.out 0).trans rfl
 have hc1:w13.cell? ⟨w.heap.size,1,none⟩=some (.string ⟨#[]⟩):=(zB M2.out 1).trans rfl
 have hc2:w13.cell? ⟨w.heap.size,2,none⟩=some (.slice none 0 0):=(zB M2.out 2).trans rfl
 have hc3:w13.cell? ⟨w.heap.size,3,none⟩=some (.slice none 0 0):=(zB M2.out 3).trans rfl
 have hf:=fun i=>zC M2.out i
 refine zAq (w1:=?_) (by rfl) rfl ?_ ?_
 rotate_left
 ·
  go_simp
  rfl
 refine hK.out _ _ ?_
 clear hK K
 clear hc0 hc1 hc2 hc3 hf
 refine xP (i:=22) (N:=(some 3)) (v:=?_) (a':=?_) #[true,true,true,true,true,true,true,true,true,true,true,true,true,true,true,true,true,true,true,true,true,true,true] rfl rfl (by kernel_rfl) (fun _ _ _ h=>h) (Or.inl ⟨by rfl,?_⟩) ?_ ?_
 rotate_left
 ·
  intro w'
  go_simp
  with_reducible rfl
 rotate_left
 ·
  simp only [Act.put,List.setIfInBounds_toArray,List.set_cons_zero,List.set_cons_succ,z6,z7]
  rfl
 refine ZW (by kernel_rfl) ?_
 go_wp2_with fail
 refine bodyPost_ret (vF rfl _ _ w.heap.size 25 #[.int .i64 n.f0, .string n.f1, .slice A2 n.f2.length c2, .slice A3 n.f3.length c3] (0,0) _ rfl Zq87 Tryz.underlying25 rfl (by kernel_rfl)) rfl ?_
 have hx:=((HNR.out.below HB11.out).zD9 (g:=w.heap.size) zAy (.int .i64 n.f0) (.string n.f1) (.slice A2 n.f2.length c2) (.slice A3 n.f3.length c3)).lower (B':=w.heap.size) zAz
 have HZ:=zA.mk (HBA.out.trans (HB11.out.mono (Nat.le_of_lt HL.out.2)))
 exact⟨_,rfl,hx,Zq88⟩
end Go.Proofs.YtljhmnnhfnmhmaaGreatDoor.G
