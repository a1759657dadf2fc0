/-
Lemmas of this claim; made short by a program of this work.
-/
import Derived.Test.YtljhmnnhfnmhmaaGreatDoorUM7
import Derived.Test.YtljhmnnhfnmhmaaGreatDoorUGx10
import Derived.Test.YtljhmnnhfnmhmaaGreatDoorUM0
set_option linter.unusedVariables false
set_option linter.unusedSimpArgs false
set_option maxHeartbeats 8000000
set_option maxRecDepth 100000
namespace Go.Proofs.YtljhmnnhfnmhmaaGreatDoor.G
open Go.RowKit Go.Proofs.YtljhmnnhfnmhmaaGreatDoorW.PrintWords Go.Proofs.YtljhmnnhfnmhmaaGreatDoorW.PrintLast Go.Proofs.YtljhmnnhfnmhmaaGreatDoorW.PrintMore
attribute [local go_sem] qG qJ yE yF jT jU qH qK
mutual
def xE.l0:Nat→Int→Int→ByteArray→List ByteArray→List (S25)→Option (Bool)
 | 0,_,_,_,_,_=>none
 | k+1,x3,x381000,x381001,x381002,x381003=>if x3 < (x381002.length:Int) then (if 0≤x3 then ((j6.f k x381000 x381001 x381002 x381003 (kX ByteArray.empty x381002 x3)).bind fun t382=>(if t382=x3 then (xE.l0 k (wrap64 (x3+1)) x381000 x381001 x381002 x381003) else (some false))) else (none)) else (xE.l1 k 0 x381000 x381001 x381002 x381003)
def xE.l1:Nat→Int→Int→ByteArray→List ByteArray→List (S25)→Option (Bool)
 | 0,_,_,_,_,_=>none
 | k+1,x4,x381000,x381001,x381002,x381003=>if x4 < (x381003.length:Int) then (if 0≤x4 then ((xE.f k ((xO x381003 x4).f0) ((xO x381003 x4).f1) ((xO x381003 x4).f2) ((xO x381003 x4).f3)).bind fun t384=>(if t384=true then (xE.l1 k (wrap64 (x4+1)) x381000 x381001 x381002 x381003) else (some false))) else (none)) else (some true)
def xE.f:Nat→Int→ByteArray→List ByteArray→List (S25)→Option (Bool)
 | 0,_,_,_,_=>none
 | k+1,a0_0,a0_1,l0_2,l0_3=>xE.l0 k 0 a0_0 a0_1 l0_2 l0_3
end
def xE.T4:Bool × List (List Nat × List Nat):=(true,[([],[]),([],[]),([1],[1]),([],[]),([2,3],[2,3]),([4],[4]),([0,5],[0,5]),([],[]),([6,7],[6,7])])
def xE.B4:List Nat:=[0,0,2,0,14,30,63,0,255]
theorem xE.tab4:ZY .any (opsOf Tryz.f14 4)=xE.T4:=by kernel_rfl
theorem xE.zJi:kP xE.T4.2 xE.B4=true:=by kernel_rfl
theorem xE.calls (k:Nat):∀ (a0_0:Int) (a0_1:ByteArray) (A0_2:Option Addr) (c0_2:Nat) (l0_2:List ByteArray) (A0_3:Option Addr) (c0_3:Nat) (l0_3:List (S25)) (r:Bool) (w:World) (hr0_2:Kd.C Kd.string w A0_2 l0_2.length l0_2) (hc0_2:l0_2.length≤c0_2) (hr0_3:Kd.C k25 w A0_3 l0_3.length l0_3) (hc0_3:l0_3.length≤c0_3) (h:xE.f k a0_0 a0_1 l0_2 l0_3=some r),
  Calls Tryz.prog 14 #[.agg #[.int .i64 a0_0, .string a0_1, .slice A0_2 l0_2.length c0_2, .slice A0_3 l0_3.length c0_3]] w fun e w'=>e = .returned (.bool r)∧Below w.heap.size w w':=by
 induction k using Nat.strongRecOn with
 | _ k ih =>
 intro a0_0 a0_1 A0_2 c0_2 l0_2 A0_3 c0_3 l0_3 r w hr0_2 hc0_2 hr0_3 hc0_3 h
 cases k with
 | zero=>exact absurd h (by simp [xE.f])
 | succ k =>
 simp only [xE.f] at h
 have hu25:=Tryz.underlying25
 have HR0_2:=zA.mk hr0_2
 have HC0_2:=zA.mk hc0_2
 clear hr0_2 hc0_2
 have HR0_3:=zA.mk hr0_3
 have HC0_3:=zA.mk hc0_3
 clear hr0_3 hc0_3
 have HB:=zA.mk (Below.refl w.heap.size w)
 have H:(xE.l0 k 0 a0_0 a0_1 l0_2 l0_3)=some r:=h
 clear h
 have H':=zA.mk H
 clear H
 go_enter Tryz.func14,Tryz.ntmps14
 go_wp2_with (first|((with_reducible refine jB (N:=1) rfl ?_);refine jS ?hg (N:=1) ?hd (cs:=#[.int .i64 a0_0, .string a0_1, .slice A0_2 l0_2.length c0_2, .slice A0_3 l0_3.length c0_3]) (t:=25) ?hr ?_;(case hd=>rfl);(case hg=>rfl);(case hr=>first|(go_simp;done)|(go_simp;rfl));intro gb380 hg w2 hbox hb;have n0_:=zA.mk (vB yS hb);have n1_:=zA.mk (hbox);have n2_:=zA.mk ((by rw [hg];exact(xB yS):w.heap.size≤gb380));have n3_:=zA.mk ((by rw [hg];exact(xB yS):w.heap.size≤gb380));clear HB;have HB:=n0_;have BK380:=n1_;have GW380:=n2_;have GE380:=n3_;clear n0_ n1_ n2_ n3_;clear hb hbox hg))
 (try simp only [Act.put,List.setIfInBounds_toArray,List.set_cons_succ,List.set_cons_zero])
 go_loopg [3] k (fun kq v3 w'=>∃ (x3_1:Int),v3 = .int .i64 x3_1∧zA (xE.l0 kq x3_1 a0_0 a0_1 l0_2 l0_3=some r)∧zA (kq≤k)∧zA (w'.heap[gb380]?=some (.cells #[.int .i64 a0_0, .string a0_1,(.slice A0_2 l0_2.length c0_2),(.slice A0_3 l0_3.length c0_3)] 25 (0,0)))∧zA (Below w.heap.size w w'))
 case atStart=>exact⟨(0),vU,H',⟨Nat.le_refl _⟩,⟨zFm⟩,⟨zBe⟩⟩
 case round =>
  clear H'
  try clear c1
  try clear p2
  obtain⟨x3_1,rfl,HA,HK1,BK380,HB⟩:=hrel
  cases gk with
  | zero=>exact absurd HA.out (by simp [xE.l0])
  | succ k1 =>
   have H:=HA.out
   clear HA
   simp only [xE.l0] at H
   by_cases c3:x3_1 < (l0_2.length:Int)
   ·
    rw [if_pos c3] at H
    have c3b0:decide (x3_1 < (l0_2.length:Int))=true:=decide_eq_true c3
    clear c3
    by_cases c4:0≤x3_1
    ·
     rw [if_pos c4] at H
     have c4b0:decide (0≤x3_1)=true:=decide_eq_true c4
     clear c4
     replace H:=Option.bind_eq_some_iff.mp H
     obtain⟨t382,A50,H⟩:=H
     try dsimp only at H
     have A5:=zA.mk A50
     clear A50
     by_cases c6:t382=x3_1
     ·
      rw [if_pos c6] at H
      have c6b0:(t382 == x3_1)=true:=beq_iff_eq.mpr c6
      have c6b1:(t382 != x3_1)=false:=bne_eq_false_iff_eq.mpr c6
      clear c6
      as_aux_lemma =>
       have H':=zA.mk H
       clear H
       have hcz7_0:wr.cell? ⟨gb380,0,none⟩=some (.int .i64 a0_0):=(zB BK380.out 0).trans rfl
       have hcz7_1:wr.cell? ⟨gb380,1,none⟩=some (.string a0_1):=(zB BK380.out 1).trans rfl
       have hcz7_2:wr.cell? ⟨gb380,2,none⟩=some (.slice A0_2 l0_2.length c0_2):=(zB BK380.out 2).trans rfl
       have hcz7_3:wr.cell? ⟨gb380,3,none⟩=some (.slice A0_3 l0_3.length c0_3):=(zB BK380.out 3).trans rfl
       have hfz7_0:=zC BK380.out 0
       have hfz7_1:=zC BK380.out 1
       have hfz7_2:=zC BK380.out 2
       have hfz7_3:=zC BK380.out 3
       try go_wp2
       have n0_:=zA.mk (zI BK380.out)
       have n1_:=zA.mk (zJ HB.out)
       clear BK380
       clear HB
       have BK380:=n0_
       have HB:=n1_
       clear n0_ n1_
       have p381:0≤(x3_1:Int):=of_decide_eq_true jC
       have q381:x3_1 < (l0_2.length:Int):=of_decide_eq_true jC
       obtain⟨ad381,e381,hx381_0⟩:=Kd.yL HR0_2.out x3_1 p381 q381
       have hw381_0:=hx381_0
       cases e381
       replace hx381_0:=(HB.out.cell (World.block_lt_of_cell? w _ hx381_0)).trans hx381_0
       replace p381:=eq_true p381
       replace q381:=eq_true q381
       refine kV (n:=9) (S:=fun w'=>w'.cell? ⟨gb380,0,none⟩=some (.int .i64 a0_0)∧w'.cell? ⟨gb380,1,none⟩=some (.string a0_1)∧w'.cell? ⟨gb380,2,none⟩=some (.slice (some ad381) l0_2.length c0_2)∧w'.cell? ⟨gb380,3,none⟩=some (.slice A0_3 l0_3.length c0_3)∧w'.cell? (ad381.add (x3_1).toNat)=some (.string (kX ByteArray.empty l0_2 x3_1))) (ds:=[]) #[false,false,false,false,false,false,false,false,false] (by kernel_rfl) rfl rfl ⟨(zB BK380.out 0).trans rfl,(zB BK380.out 1).trans rfl,(zB BK380.out 2).trans rfl,(zB BK380.out 3).trans rfl,((HB.out.cell (World.block_lt_of_cell? w _ hw381_0)).trans hw381_0)⟩ (fun hHeld=>?_);refine yM xE.tab4 xE.zJi (fun HT_ HW_=>?_)
       generalize wr.drew=w8 at BK380 HB hx381_0 hHeld ⊢
       refine xP (i:=1) (N:=some 13) (v:=?_) (a':=?_) #[false,true,false,false,false,false,false,false,false] rfl rfl (vD HT_.out (by kernel_rfl)) (fun _ _ _ h=>h) (Or.inl ⟨by rfl,?_⟩) ?_ ?_
       rotate_left
       ·
        intro w'
        go_simp
        with_reducible rfl
       rotate_left
       ·
        simp only [Act.put,List.setIfInBounds_toArray,List.set_cons_zero,List.set_cons_succ,z6,z7]
        rfl
       refine xP (i:=3) (N:=some 15) (v:=?_) (a':=?_) #[false,true,false,true,false,false,false,false,false] rfl rfl (vD HT_.out (by kernel_rfl)) (fun _ _ _ h=>h) (Or.inl ⟨by rfl,?_⟩) ?_ ?_
       rotate_left
       ·
        intro w'
        go_simp
        with_reducible rfl
       rotate_left
       ·
        simp only [Act.put,List.setIfInBounds_toArray,List.set_cons_zero,List.set_cons_succ,z6,z7]
        rfl
       refine xP (i:=7) (N:=some 19) (v:=?_) (a':=?_) #[false,true,false,true,false,false,false,true,false] rfl rfl (vD HT_.out (by kernel_rfl)) (fun _ _ _ h=>h) (Or.inl ⟨by rfl,?_⟩) ?_ ?_
       rotate_left
       ·
        intro w'
        go_simp
        with_reducible rfl
       rotate_left
       ·
        simp only [Act.put,List.setIfInBounds_toArray,List.set_cons_zero,List.set_cons_succ,z6,z7]
        rfl
       refine jZ (i:=0) (N:=some 12) (v:=?_) (a':=?_) #[true,true,false,true,false,false,false,true,false] rfl rfl (vH HT_.out HW_.out (by kernel_rfl)) (fun _ _ _ h=>h) (Or.inl ⟨by rfl,?_⟩) hHeld ?_ ?_
       rotate_left
       ·
        rintro w' ⟨s0,s1,s2,s3,s4⟩
        go_simp
        with_reducible rfl
       rotate_left
       ·
        simp only [Act.put,List.setIfInBounds_toArray,List.set_cons_zero,List.set_cons_succ,z6,z7]
        rfl
       refine jZ (i:=2) (N:=some 14) (v:=?_) (a':=?_) #[true,true,true,true,false,false,false,true,false] rfl rfl (vH HT_.out HW_.out (by kernel_rfl)) (fun _ _ _ h=>h) (Or.inl ⟨by rfl,?_⟩) hHeld ?_ ?_
       rotate_left
       ·
        rintro w' ⟨s0,s1,s2,s3,s4⟩
        go_simp
        with_reducible rfl
       rotate_left
       ·
        simp only [Act.put,List.setIfInBounds_toArray,List.set_cons_zero,List.set_cons_succ,z6,z7]
        rfl
       refine xP (i:=4) (N:=some 16) (v:=?_) (a':=?_) #[true,true,true,true,true,false,false,true,false] rfl rfl (vD HT_.out (by kernel_rfl)) (fun _ _ _ h=>h) (Or.inl ⟨by rfl,?_⟩) ?_ ?_
       rotate_left
       ·
        intro w'
        go_simp
        with_reducible rfl
       rotate_left
       ·
        simp only [Act.put,List.setIfInBounds_toArray,List.set_cons_zero,List.set_cons_succ,z6,z7]
        rfl
       refine jZ (i:=5) (N:=some 17) (v:=?_) (a':=?_) #[true,true,true,true,true,true,false,true,false] rfl rfl (vH HT_.out HW_.out (by kernel_rfl)) (fun _ _ _ h=>h) (Or.inl ⟨by rfl,?_⟩) hHeld ?_ ?_
       rotate_left
       ·
        rintro w' ⟨s0,s1,s2,s3,s4⟩
        go_simp
        with_reducible rfl
       rotate_left
       ·
        simp only [Act.put,List.setIfInBounds_toArray,List.set_cons_zero,List.set_cons_succ,z6,z7]
        rfl
       refine JW (i:=6) (N:=some 18) #[true,true,true,true,true,true,true,true,false] rfl rfl (kT HT_.out (by kernel_rfl)) (by decide) (fun K hK=>?_)
       refine uA Tryz.func24 (by kernel_rfl) rfl #[.agg #[.int .i64 a0_0, .string a0_1, .slice (some ad381) l0_2.length c0_2, .slice A0_3 l0_3.length c0_3], .string (kX ByteArray.empty l0_2 x3_1)] (by rfl) rfl rfl jI ?_
       with_reducible refine(j6.calls k1 a0_0 a0_1 _ _ l0_2 _ _ l0_3 (kX ByteArray.empty l0_2 x3_1) t382 _ ?side1 ?side2 ?side3 ?side4 A5.out).mono ?_
       (case side1=>repeat (first|exact(Kd.vN HR0_2.out HB.out)|(with_reducible refine Kd.vZ ?_ _)|(with_reducible refine Kd.jJ ?_ _)|(with_reducible refine Kd.qM ?_)))
       (case side2=>exact HC0_2.out)
       (case side3=>repeat (first|exact(Kd.vN HR0_3.out HB.out)|(with_reducible refine Kd.vZ ?_ _)|(with_reducible refine Kd.jJ ?_ _)|(with_reducible refine Kd.qM ?_)))
       (case side4=>exact HC0_3.out)
       rintro e w9 ⟨rfl,hb⟩
       refine⟨_,rfl,?_⟩
       have n0_:=zA.mk (xF (g:=gb380) (o := .cells #[.int .i64 a0_0, .string a0_1, .slice (some ad381) l0_2.length c0_2, .slice A0_3 l0_3.length c0_3] 25 (0,0)) zFm hb)
       have n1_:=zA.mk (vB zBe hb)
       clear BK380
       clear HB
       have BK380:=n0_
       have HB:=n1_
       clear n0_ n1_
       (try clear hb)
       (try clear hb2)
       (try clear hk)
       (try clear hi)
       refine hK.out _ _ ⟨(zB BK380.out 0).trans rfl,(zB BK380.out 1).trans rfl,(zB BK380.out 2).trans rfl,(zB BK380.out 3).trans rfl,((HB.out.cell (World.block_lt_of_cell? w _ hw381_0)).trans hw381_0)⟩ (fun hHeld=>?_)
       clear hK K
       refine kL (a':=?_) ?_ ?_
       rotate_left
       ·
        show Act.put _ (some 18) _=_
        simp only [Act.put,List.setIfInBounds_toArray,List.set_cons_zero,List.set_cons_succ,z6,z7]
        rfl
       refine xP (i:=8) (N:=some 20) (v:=?_) (a':=?_) #[true,true,true,true,true,true,true,true,true] rfl rfl (vD HT_.out (by kernel_rfl)) (fun _ _ _ h=>h) (Or.inl ⟨by rfl,?_⟩) ?_ ?_
       rotate_left
       ·
        intro w'
        go_simp
        with_reducible rfl
       rotate_left
       ·
        simp only [Act.put,List.setIfInBounds_toArray,List.set_cons_zero,List.set_cons_succ,z6,z7]
        rfl
       refine ZW (wB HT_.out (by kernel_rfl)) ?_
       try go_wp2
       go_roundg k1
       case measure=>have:=HK1.out;omega
       case rel=>exact⟨(wrap64 (x3_1+1)),vU,H',⟨VU⟩,⟨zFm⟩,⟨zBe⟩⟩
     ·
      rw [if_neg c6] at H
      have c6b0:(t382 == x3_1)=false:=beq_eq_false_iff_ne.mpr c6
      have c6b1:(t382 != x3_1)=true:=bne_iff_ne.mpr c6
      as_aux_lemma =>
       obtain rfl:=Option.some.inj H
       have hcz10_0:wr.cell? ⟨gb380,0,none⟩=some (.int .i64 a0_0):=(zB BK380.out 0).trans rfl
       have hcz10_1:wr.cell? ⟨gb380,1,none⟩=some (.string a0_1):=(zB BK380.out 1).trans rfl
       have hcz10_2:wr.cell? ⟨gb380,2,none⟩=some (.slice A0_2 l0_2.length c0_2):=(zB BK380.out 2).trans rfl
       have hcz10_3:wr.cell? ⟨gb380,3,none⟩=some (.slice A0_3 l0_3.length c0_3):=(zB BK380.out 3).trans rfl
       have hfz10_0:=zC BK380.out 0
       have hfz10_1:=zC BK380.out 1
       have hfz10_2:=zC BK380.out 2
       have hfz10_3:=zC BK380.out 3
       try go_wp2
       have n0_:=zA.mk (zI BK380.out)
       have n1_:=zA.mk (zJ HB.out)
       clear BK380
       clear HB
       have BK380:=n0_
       have HB:=n1_
       clear n0_ n1_
       have p381:0≤(x3_1:Int):=of_decide_eq_true jC
       have q381:x3_1 < (l0_2.length:Int):=of_decide_eq_true jC
       obtain⟨ad381,e381,hx381_0⟩:=Kd.yL HR0_2.out x3_1 p381 q381
       have hw381_0:=hx381_0
       cases e381
       replace hx381_0:=(HB.out.cell (World.block_lt_of_cell? w _ hx381_0)).trans hx381_0
       replace p381:=eq_true p381
       replace q381:=eq_true q381
       refine kV (n:=9) (S:=fun w'=>w'.cell? ⟨gb380,0,none⟩=some (.int .i64 a0_0)∧w'.cell? ⟨gb380,1,none⟩=some (.string a0_1)∧w'.cell? ⟨gb380,2,none⟩=some (.slice (some ad381) l0_2.length c0_2)∧w'.cell? ⟨gb380,3,none⟩=some (.slice A0_3 l0_3.length c0_3)∧w'.cell? (ad381.add (x3_1).toNat)=some (.string (kX ByteArray.empty l0_2 x3_1))) (ds:=[]) #[false,false,false,false,false,false,false,false,false] (by kernel_rfl) rfl rfl ⟨(zB BK380.out 0).trans rfl,(zB BK380.out 1).trans rfl,(zB BK380.out 2).trans rfl,(zB BK380.out 3).trans rfl,((HB.out.cell (World.block_lt_of_cell? w _ hw381_0)).trans hw381_0)⟩ (fun hHeld=>?_);refine yM xE.tab4 xE.zJi (fun HT_ HW_=>?_)
       generalize wr.drew=w11 at BK380 HB hx381_0 hHeld ⊢
       refine xP (i:=1) (N:=some 13) (v:=?_) (a':=?_) #[false,true,false,false,false,false,false,false,false] rfl rfl (vD HT_.out (by kernel_rfl)) (fun _ _ _ h=>h) (Or.inl ⟨by rfl,?_⟩) ?_ ?_
       rotate_left
       ·
        intro w'
        go_simp
        with_reducible rfl
       rotate_left
       ·
        simp only [Act.put,List.setIfInBounds_toArray,List.set_cons_zero,List.set_cons_succ,z6,z7]
        rfl
       refine xP (i:=3) (N:=some 15) (v:=?_) (a':=?_) #[false,true,false,true,false,false,false,false,false] rfl rfl (vD HT_.out (by kernel_rfl)) (fun _ _ _ h=>h) (Or.inl ⟨by rfl,?_⟩) ?_ ?_
       rotate_left
       ·
        intro w'
        go_simp
        with_reducible rfl
       rotate_left
       ·
        simp only [Act.put,List.setIfInBounds_toArray,List.set_cons_zero,List.set_cons_succ,z6,z7]
        rfl
       refine xP (i:=7) (N:=some 19) (v:=?_) (a':=?_) #[false,true,false,true,false,false,false,true,false] rfl rfl (vD HT_.out (by kernel_rfl)) (fun _ _ _ h=>h) (Or.inl ⟨by rfl,?_⟩) ?_ ?_
       rotate_left
       ·
        intro w'
        go_simp
        with_reducible rfl
       rotate_left
       ·
        simp only [Act.put,List.setIfInBounds_toArray,List.set_cons_zero,List.set_cons_succ,z6,z7]
        rfl
       refine jZ (i:=0) (N:=some 12) (v:=?_) (a':=?_) #[true,true,false,true,false,false,false,true,false] rfl rfl (vH HT_.out HW_.out (by kernel_rfl)) (fun _ _ _ h=>h) (Or.inl ⟨by rfl,?_⟩) hHeld ?_ ?_
       rotate_left
       ·
        rintro w' ⟨s0,s1,s2,s3,s4⟩
        go_simp
        with_reducible rfl
       rotate_left
       ·
        simp only [Act.put,List.setIfInBounds_toArray,List.set_cons_zero,List.set_cons_succ,z6,z7]
        rfl
       refine jZ (i:=2) (N:=some 14) (v:=?_) (a':=?_) #[true,true,true,true,false,false,false,true,false] rfl rfl (vH HT_.out HW_.out (by kernel_rfl)) (fun _ _ _ h=>h) (Or.inl ⟨by rfl,?_⟩) hHeld ?_ ?_
       rotate_left
       ·
        rintro w' ⟨s0,s1,s2,s3,s4⟩
        go_simp
        with_reducible rfl
       rotate_left
       ·
        simp only [Act.put,List.setIfInBounds_toArray,List.set_cons_zero,List.set_cons_succ,z6,z7]
        rfl
       refine xP (i:=4) (N:=some 16) (v:=?_) (a':=?_) #[true,true,true,true,true,false,false,true,false] rfl rfl (vD HT_.out (by kernel_rfl)) (fun _ _ _ h=>h) (Or.inl ⟨by rfl,?_⟩) ?_ ?_
       rotate_left
       ·
        intro w'
        go_simp
        with_reducible rfl
       rotate_left
       ·
        simp only [Act.put,List.setIfInBounds_toArray,List.set_cons_zero,List.set_cons_succ,z6,z7]
        rfl
       refine jZ (i:=5) (N:=some 17) (v:=?_) (a':=?_) #[true,true,true,true,true,true,false,true,false] rfl rfl (vH HT_.out HW_.out (by kernel_rfl)) (fun _ _ _ h=>h) (Or.inl ⟨by rfl,?_⟩) hHeld ?_ ?_
       rotate_left
       ·
        rintro w' ⟨s0,s1,s2,s3,s4⟩
        go_simp
        with_reducible rfl
       rotate_left
       ·
        simp only [Act.put,List.setIfInBounds_toArray,List.set_cons_zero,List.set_cons_succ,z6,z7]
        rfl
       refine JW (i:=6) (N:=some 18) #[true,true,true,true,true,true,true,true,false] rfl rfl (kT HT_.out (by kernel_rfl)) (by decide) (fun K hK=>?_)
       refine uA Tryz.func24 (by kernel_rfl) rfl #[.agg #[.int .i64 a0_0, .string a0_1, .slice (some ad381) l0_2.length c0_2, .slice A0_3 l0_3.length c0_3], .string (kX ByteArray.empty l0_2 x3_1)] (by rfl) rfl rfl jI ?_
       with_reducible refine(j6.calls k1 a0_0 a0_1 _ _ l0_2 _ _ l0_3 (kX ByteArray.empty l0_2 x3_1) t382 _ ?side1 ?side2 ?side3 ?side4 A5.out).mono ?_
       (case side1=>repeat (first|exact(Kd.vN HR0_2.out HB.out)|(with_reducible refine Kd.vZ ?_ _)|(with_reducible refine Kd.jJ ?_ _)|(with_reducible refine Kd.qM ?_)))
       (case side2=>exact HC0_2.out)
       (case side3=>repeat (first|exact(Kd.vN HR0_3.out HB.out)|(with_reducible refine Kd.vZ ?_ _)|(with_reducible refine Kd.jJ ?_ _)|(with_reducible refine Kd.qM ?_)))
       (case side4=>exact HC0_3.out)
       rintro e w12 ⟨rfl,hb⟩
       refine⟨_,rfl,?_⟩
       have n0_:=zA.mk (xF (g:=gb380) (o := .cells #[.int .i64 a0_0, .string a0_1, .slice (some ad381) l0_2.length c0_2, .slice A0_3 l0_3.length c0_3] 25 (0,0)) zFm hb)
       have n1_:=zA.mk (vB zBe hb)
       clear BK380
       clear HB
       have BK380:=n0_
       have HB:=n1_
       clear n0_ n1_
       (try clear hb)
       (try clear hb2)
       (try clear hk)
       (try clear hi)
       refine hK.out _ _ ⟨(zB BK380.out 0).trans rfl,(zB BK380.out 1).trans rfl,(zB BK380.out 2).trans rfl,(zB BK380.out 3).trans rfl,((HB.out.cell (World.block_lt_of_cell? w _ hw381_0)).trans hw381_0)⟩ (fun hHeld=>?_)
       clear hK K
       refine kL (a':=?_) ?_ ?_
       rotate_left
       ·
        show Act.put _ (some 18) _=_
        simp only [Act.put,List.setIfInBounds_toArray,List.set_cons_zero,List.set_cons_succ,z6,z7]
        rfl
       refine xP (i:=8) (N:=some 20) (v:=?_) (a':=?_) #[true,true,true,true,true,true,true,true,true] rfl rfl (vD HT_.out (by kernel_rfl)) (fun _ _ _ h=>h) (Or.inl ⟨by rfl,?_⟩) ?_ ?_
       rotate_left
       ·
        intro w'
        go_simp
        with_reducible rfl
       rotate_left
       ·
        simp only [Act.put,List.setIfInBounds_toArray,List.set_cons_zero,List.set_cons_succ,z6,z7]
        rfl
       refine ZW (wB HT_.out (by kernel_rfl)) ?_
       try go_wp2
       go_ret
       exact⟨qW,zBe⟩
    ·
     rw [if_neg c4] at H
     exact absurd H (by simp)
   ·
    rw [if_neg c3] at H
    have c3b0:decide (x3_1 < (l0_2.length:Int))=false:=decide_eq_false c3
    clear c3
    have H':=zA.mk H
    clear H
    have hcz13_0:wr.cell? ⟨gb380,0,none⟩=some (.int .i64 a0_0):=(zB BK380.out 0).trans rfl
    have hcz13_1:wr.cell? ⟨gb380,1,none⟩=some (.string a0_1):=(zB BK380.out 1).trans rfl
    have hcz13_2:wr.cell? ⟨gb380,2,none⟩=some (.slice A0_2 l0_2.length c0_2):=(zB BK380.out 2).trans rfl
    have hcz13_3:wr.cell? ⟨gb380,3,none⟩=some (.slice A0_3 l0_3.length c0_3):=(zB BK380.out 3).trans rfl
    have hfz13_0:=zC BK380.out 0
    have hfz13_1:=zC BK380.out 1
    have hfz13_2:=zC BK380.out 2
    have hfz13_3:=zC BK380.out 3
    go_wp2
    (try simp only [Act.put,List.setIfInBounds_toArray,List.set_cons_succ,List.set_cons_zero])
    go_loopg [4] k1 (fun kq v4 w'=>∃ (x4_2:Int),v4 = .int .i64 x4_2∧zA (xE.l1 kq x4_2 a0_0 a0_1 l0_2 l0_3=some r)∧zA (kq≤k1)∧zA (w'.heap[gb380]?=some (.cells #[.int .i64 a0_0, .string a0_1,(.slice A0_2 l0_2.length c0_2),(.slice A0_3 l0_3.length c0_3)] 25 (0,0)))∧zA (Below w.heap.size w w'))
    case atStart=>exact⟨(0),vU,H',⟨Nat.le_refl _⟩,⟨zFm⟩,⟨zBe⟩⟩
    case round =>
     clear H'
     try clear c1
     try clear c2
     try clear p2
     try clear c3
     try clear c3b0
     try clear p3
     try clear q3
     try clear hx3
     try clear c4
     try clear c4b0
     try clear c6
     try clear c6b0
     try clear c6b1
     try clear p6
     try clear hcz10_0
     try clear hcz10_1
     try clear hcz10_2
     try clear hcz10_3
     try clear hcz13_0
     try clear hcz13_1
     try clear hcz13_2
     try clear hcz13_3
     try clear hcz7_0
     try clear hcz7_1
     try clear hcz7_2
     try clear hcz7_3
     try clear hfz10_0
     try clear hfz10_1
     try clear hfz10_2
     try clear hfz10_3
     try clear hfz13_0
     try clear hfz13_1
     try clear hfz13_2
     try clear hfz13_3
     try clear hfz7_0
     try clear hfz7_1
     try clear hfz7_2
     try clear hfz7_3
     try clear hx381_0
     try clear p2
     try clear p381
     try clear q381
     obtain⟨x4_2,rfl,HA,HK2,BK380,HB⟩:=hrel
     cases gk with
     | zero=>exact absurd HA.out (by simp [xE.l1])
     | succ k2 =>
      have H:=HA.out
      clear HA
      simp only [xE.l1] at H
      by_cases c14:x4_2 < (l0_3.length:Int)
      ·
       rw [if_pos c14] at H
       have c14b0:decide (x4_2 < (l0_3.length:Int))=true:=decide_eq_true c14
       clear c14
       by_cases c15:0≤x4_2
       ·
        rw [if_pos c15] at H
        have c15b0:decide (0≤x4_2)=true:=decide_eq_true c15
        clear c15
        replace H:=Option.bind_eq_some_iff.mp H
        obtain⟨t384,A160,H⟩:=H
        try dsimp only at H
        have A16:=zA.mk A160
        clear A160
        by_cases c17:t384=true
        ·
         subst c17
         rw [if_pos rfl] at H
         as_aux_lemma =>
          have H':=zA.mk H
          clear H
          have hcz18_0:wr.cell? ⟨gb380,0,none⟩=some (.int .i64 a0_0):=(zB BK380.out 0).trans rfl
          have hcz18_1:wr.cell? ⟨gb380,1,none⟩=some (.string a0_1):=(zB BK380.out 1).trans rfl
          have hcz18_2:wr.cell? ⟨gb380,2,none⟩=some (.slice A0_2 l0_2.length c0_2):=(zB BK380.out 2).trans rfl
          have hcz18_3:wr.cell? ⟨gb380,3,none⟩=some (.slice A0_3 l0_3.length c0_3):=(zB BK380.out 3).trans rfl
          have hfz18_0:=zC BK380.out 0
          have hfz18_1:=zC BK380.out 1
          have hfz18_2:=zC BK380.out 2
          have hfz18_3:=zC BK380.out 3
          have p383:0≤(x4_2:Int):=of_decide_eq_true jC
          have q383:x4_2 < (l0_3.length:Int):=of_decide_eq_true jC
          obtain⟨ad383,A383_2,c383_2,A383_3,c383_3,e383,hx383_0,hx383_1,hx383_2,hx383_3,hl383_2,hi383_2,hl383_3,hi383_3⟩:=VV HR0_3.out x4_2 p383 q383
          cases e383
          replace hx383_0:=(HB.out.cell (World.block_lt_of_cell? w _ hx383_0)).trans hx383_0
          replace hx383_1:=(HB.out.cell (World.block_lt_of_cell? w _ hx383_1)).trans hx383_1
          replace hx383_2:=(HB.out.cell (World.block_lt_of_cell? w _ hx383_2)).trans hx383_2
          replace hx383_3:=(HB.out.cell (World.block_lt_of_cell? w _ hx383_3)).trans hx383_3
          have HR383_2:=zA.mk hi383_2
          have HC383_2:=zA.mk hl383_2
          clear hi383_2 hl383_2
          have HR383_3:=zA.mk hi383_3
          have HC383_3:=zA.mk hl383_3
          clear hi383_3 hl383_3
          replace p383:=eq_true p383
          replace q383:=eq_true q383
          go_wp2_with (first|((with_reducible refine zR (f:=14) rfl ?_);refine xN (some 33) rfl rfl Tryz.func14 (by kernel_rfl) rfl #[.agg #[.int .i64 ((xO l0_3 x4_2).f0), .string ((xO l0_3 x4_2).f1), .slice A383_2 ((xO l0_3 x4_2).f2).length c383_2, .slice A383_3 ((xO l0_3 x4_2).f3).length c383_3]] rfl jI ?_;(with_reducible refine(ih k2 (by have:=HK1.out;have:=HK2.out;omega) ((xO l0_3 x4_2).f0) ((xO l0_3 x4_2).f1) _ _ ((xO l0_3 x4_2).f2) _ _ ((xO l0_3 x4_2).f3) true _ ?side1 ?side2 ?side3 ?side4 A16.out).mono ?_);(case side1=>repeat (first|exact(Kd.vN HR383_2.out HB.out)|(with_reducible refine Kd.vZ ?_ _)|(with_reducible refine Kd.jJ ?_ _)|(with_reducible refine Kd.qM ?_)));(case side2=>exact HC383_2.out);(case side3=>repeat (first|exact(Kd.vN HR383_3.out HB.out)|(with_reducible refine Kd.vZ ?_ _)|(with_reducible refine Kd.jJ ?_ _)|(with_reducible refine Kd.qM ?_)));(case side4=>exact HC383_3.out);rintro e w19 ⟨rfl,hb⟩;refine⟨_,rfl,?_⟩;replace BK380:=zA.mk (xF (g:=gb380) (o := .cells #[.int .i64 a0_0, .string a0_1, .slice A0_2 l0_2.length c0_2, .slice (some ad383) l0_3.length c0_3] 25 (0,0)) zFm hb);replace HB:=zA.mk (vB zBe hb);(try clear hb);(try clear hb2);(try clear hk);(try clear hi)))
          go_roundg k2
          case measure=>have:=HK1.out;have:=HK2.out;omega
          case rel=>exact⟨(wrap64 (x4_2+1)),vU,H',⟨by have:=HK1.out;have:=HK2.out;omega⟩,⟨zFm⟩,⟨zBe⟩⟩
        ·
         replace c17:=Bool.eq_false_iff.mpr c17
         subst c17
         rw [if_neg (show ¬ (false=true) by decide)] at H
         as_aux_lemma =>
          obtain rfl:=Option.some.inj H
          have hcz20_0:wr.cell? ⟨gb380,0,none⟩=some (.int .i64 a0_0):=(zB BK380.out 0).trans rfl
          have hcz20_1:wr.cell? ⟨gb380,1,none⟩=some (.string a0_1):=(zB BK380.out 1).trans rfl
          have hcz20_2:wr.cell? ⟨gb380,2,none⟩=some (.slice A0_2 l0_2.length c0_2):=(zB BK380.out 2).trans rfl
          have hcz20_3:wr.cell? ⟨gb380,3,none⟩=some (.slice A0_3 l0_3.length c0_3):=(zB BK380.out 3).trans rfl
          have hfz20_0:=zC BK380.out 0
          have hfz20_1:=zC BK380.out 1
          have hfz20_2:=zC BK380.out 2
          have hfz20_3:=zC BK380.out 3
          have p383:0≤(x4_2:Int):=of_decide_eq_true jC
          have q383:x4_2 < (l0_3.length:Int):=of_decide_eq_true jC
          obtain⟨ad383,A383_2,c383_2,A383_3,c383_3,e383,hx383_0,hx383_1,hx383_2,hx383_3,hl383_2,hi383_2,hl383_3,hi383_3⟩:=VV HR0_3.out x4_2 p383 q383
          cases e383
          replace hx383_0:=(HB.out.cell (World.block_lt_of_cell? w _ hx383_0)).trans hx383_0
          replace hx383_1:=(HB.out.cell (World.block_lt_of_cell? w _ hx383_1)).trans hx383_1
          replace hx383_2:=(HB.out.cell (World.block_lt_of_cell? w _ hx383_2)).trans hx383_2
          replace hx383_3:=(HB.out.cell (World.block_lt_of_cell? w _ hx383_3)).trans hx383_3
          have HR383_2:=zA.mk hi383_2
          have HC383_2:=zA.mk hl383_2
          clear hi383_2 hl383_2
          have HR383_3:=zA.mk hi383_3
          have HC383_3:=zA.mk hl383_3
          clear hi383_3 hl383_3
          replace p383:=eq_true p383
          replace q383:=eq_true q383
          go_wp2_with (first|((with_reducible refine zR (f:=14) rfl ?_);refine xN (some 33) rfl rfl Tryz.func14 (by kernel_rfl) rfl #[.agg #[.int .i64 ((xO l0_3 x4_2).f0), .string ((xO l0_3 x4_2).f1), .slice A383_2 ((xO l0_3 x4_2).f2).length c383_2, .slice A383_3 ((xO l0_3 x4_2).f3).length c383_3]] rfl jI ?_;(with_reducible refine(ih k2 (by have:=HK1.out;have:=HK2.out;omega) ((xO l0_3 x4_2).f0) ((xO l0_3 x4_2).f1) _ _ ((xO l0_3 x4_2).f2) _ _ ((xO l0_3 x4_2).f3) false _ ?side1 ?side2 ?side3 ?side4 A16.out).mono ?_);(case side1=>repeat (first|exact(Kd.vN HR383_2.out HB.out)|(with_reducible refine Kd.vZ ?_ _)|(with_reducible refine Kd.jJ ?_ _)|(with_reducible refine Kd.qM ?_)));(case side2=>exact HC383_2.out);(case side3=>repeat (first|exact(Kd.vN HR383_3.out HB.out)|(with_reducible refine Kd.vZ ?_ _)|(with_reducible refine Kd.jJ ?_ _)|(with_reducible refine Kd.qM ?_)));(case side4=>exact HC383_3.out);rintro e w21 ⟨rfl,hb⟩;refine⟨_,rfl,?_⟩;replace BK380:=zA.mk (xF (g:=gb380) (o := .cells #[.int .i64 a0_0, .string a0_1, .slice A0_2 l0_2.length c0_2, .slice (some ad383) l0_3.length c0_3] 25 (0,0)) zFm hb);replace HB:=zA.mk (vB zBe hb);(try clear hb);(try clear hb2);(try clear hk);(try clear hi)))
          go_ret
          exact⟨qW,zBe⟩
       ·
        rw [if_neg c15] at H
        exact absurd H (by simp)
      ·
       rw [if_neg c14] at H
       have c14b0:decide (x4_2 < (l0_3.length:Int))=false:=decide_eq_false c14
       clear c14
       as_aux_lemma =>
        obtain rfl:=Option.some.inj H
        have hcz22_0:wr.cell? ⟨gb380,0,none⟩=some (.int .i64 a0_0):=(zB BK380.out 0).trans rfl
        have hcz22_1:wr.cell? ⟨gb380,1,none⟩=some (.string a0_1):=(zB BK380.out 1).trans rfl
        have hcz22_2:wr.cell? ⟨gb380,2,none⟩=some (.slice A0_2 l0_2.length c0_2):=(zB BK380.out 2).trans rfl
        have hcz22_3:wr.cell? ⟨gb380,3,none⟩=some (.slice A0_3 l0_3.length c0_3):=(zB BK380.out 3).trans rfl
        have hfz22_0:=zC BK380.out 0
        have hfz22_1:=zC BK380.out 1
        have hfz22_2:=zC BK380.out 2
        have hfz22_3:=zC BK380.out 3
        go_wp2
        go_ret
        exact⟨qW,zBe⟩
end Go.Proofs.YtljhmnnhfnmhmaaGreatDoor.G
