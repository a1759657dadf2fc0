/-
Lemmas of this claim; made short by a program of this work.
-/
import Derived.Test.YtljhmnnhfnmhmaaGreatDoorUM7
import Derived.Test.YtljhmnnhfnmhmaaGreatDoorUM0
set_option linter.unusedVariables false
set_option linter.unusedSimpArgs false
set_option maxHeartbeats 8000000
set_option maxRecDepth 100000
namespace Go.Proofs.YtljhmnnhfnmhmaaGreatDoor.G
open Go.RowKit Go.Proofs.YtljhmnnhfnmhmaaGreatDoorW.PrintWords Go.Proofs.YtljhmnnhfnmhmaaGreatDoorW.PrintLast Go.Proofs.YtljhmnnhfnmhmaaGreatDoorW.PrintMore
attribute [local go_sem] qG qJ yE yF jT jU qH qK
def vR.f (a0:Int):Option (Bool):=if a0=32 then (some true) else (if a0=9 then (some true) else (if a0=10 then (some true) else (some (a0 == 13))))
theorem vR.calls (a0:Int) (r:Bool) (w:World) (h:vR.f a0=some r) :
  Calls Tryz.prog 15 #[.int .u8 a0] w fun e w'=>e = .returned (.bool r)∧vW w w':=by
 have H:(if a0=32 then (some true) else (if a0=9 then (some true) else (if a0=10 then (some true) else (some (a0 == 13)))))=some r:=h
 clear h
 by_cases c2:a0=32
 ·
  rw [if_pos c2] at H
  have c2b0:(a0 == 32)=true:=beq_iff_eq.mpr c2
  have c2b1:(a0 != 32)=false:=bne_eq_false_iff_eq.mpr c2
  clear c2
  as_aux_lemma =>
   obtain rfl:=Option.some.inj H
   go_enter Tryz.func15,Tryz.ntmps15
   go_wp2
   go_ret
   exact⟨vU,qQ⟩
 ·
  rw [if_neg c2] at H
  have c2b0:(a0 == 32)=false:=beq_eq_false_iff_ne.mpr c2
  have c2b1:(a0 != 32)=true:=bne_iff_ne.mpr c2
  by_cases c3:a0=9
  ·
   rw [if_pos c3] at H
   have c3b0:(a0 == 9)=true:=beq_iff_eq.mpr c3
   have c3b1:(a0 != 9)=false:=bne_eq_false_iff_eq.mpr c3
   clear c3
   as_aux_lemma =>
    obtain rfl:=Option.some.inj H
    go_enter Tryz.func15,Tryz.ntmps15
    go_wp2
    go_ret
    exact⟨vU,qQ⟩
  ·
   rw [if_neg c3] at H
   have c3b0:(a0 == 9)=false:=beq_eq_false_iff_ne.mpr c3
   have c3b1:(a0 != 9)=true:=bne_iff_ne.mpr c3
   by_cases c4:a0=10
   ·
    rw [if_pos c4] at H
    have c4b0:(a0 == 10)=true:=beq_iff_eq.mpr c4
    have c4b1:(a0 != 10)=false:=bne_eq_false_iff_eq.mpr c4
    clear c4
    as_aux_lemma =>
     obtain rfl:=Option.some.inj H
     go_enter Tryz.func15,Tryz.ntmps15
     go_wp2
     go_ret
     exact⟨vU,qQ⟩
   ·
    rw [if_neg c4] at H
    have c4b0:(a0 == 10)=false:=beq_eq_false_iff_ne.mpr c4
    have c4b1:(a0 != 10)=true:=bne_iff_ne.mpr c4
    as_aux_lemma =>
     obtain rfl:=Option.some.inj H
     go_enter Tryz.func15,Tryz.ntmps15
     go_wp2
     go_ret
     exact⟨vU,qQ⟩
def zE (w0 W:World) (g:Nat) (f0:ByteArray) (f1:Int):Prop:=W.heap[g]?=some (.cells #[.string f0, .int .i64 f1] 44 (0,0))∧w0.heap.size≤g
theorem zE.grown {w0 W:World} {g:Nat} {f0:ByteArray} {f1:Int} {W1:World} {row:Option Nat} (h:zE w0 W g f0 f1) (hw:W.grownBy W1 row) (hne:some g≠row):zE w0 W1 g f0 f1:=by
 obtain⟨hb,hg⟩:=h
 exact⟨qX hb hw hne,hg⟩
theorem zE.below {w0 W:World} {g:Nat} {f0:ByteArray} {f1:Int} {W1:World} (h:zE w0 W g f0 f1) (hw:Below W.heap.size W W1):zE w0 W1 g f0 f1:=h.grown (VF hw none) (by simp)
theorem zE.alloc {w0 W:World} {g:Nat} {f0:ByteArray} {f1:Int} (h:zE w0 W g f0 f1) (o:Obj):zE w0 (W.alloc o) g f0 f1:=h.below (zD (Below.refl _ _) o)
theorem zE.drewN {w0 W:World} {g:Nat} {f0:ByteArray} {f1:Int} (h:zE w0 W g f0 f1) (m:Nat):zE w0 (W.drewN m) g f0 f1:=h
theorem zE.drew {w0 W:World} {g:Nat} {f0:ByteArray} {f1:Int} (h:zE w0 W g f0 f1):zE w0 W.drew g f0 f1:=h
theorem zE.apart {w0 W:World} {g:Nat} {f0:ByteArray} {f1:Int} {α:Type} {d:Kd α} {e:Nat} {base:Nat} {ok:Nat→Prop} {v:Value} {xs:List α} (h:zE w0 W g f0 f1) (ho:d.R e W base ok v xs) (ht:∀ q,q ∈ e :: d.E→q≠44):d.R e W base (fun k=>ok k∧k≠g) v xs:=by
 obtain⟨hb,hg⟩:=h
 exact Kd.yC ho hb ht
theorem zE.YB {w0 W:World} {g:Nat} {f0:ByteArray} {f1:Int} {α:Type} {d:Kd α} {e:Nat} {base:Nat} {ok:Nat→Prop} {v:Value} {xs:List α} (h:zE w0 W g f0 f1) (ho:d.R e W base ok v xs) (ht:e≠44):some g≠v.ownBlock:=by
 obtain⟨hb,hg⟩:=h
 exact Kd.zI7 ho hb ht
theorem zE.lt {w0 W:World} {g:Nat} {f0:ByteArray} {f1:Int} (h:zE w0 W g f0 f1):g < W.heap.size:=by
 obtain⟨hb,hg⟩:=h
 exact xW hb
theorem zE.ge {w0 W:World} {g:Nat} {f0:ByteArray} {f1:Int} (h:zE w0 W g f0 f1):w0.heap.size≤g:=by
 obtain⟨hb,hg⟩:=h
 exact hg
theorem zE.far {w0 W:World} {g:Nat} {f0:ByteArray} {f1:Int} {p:Addr} (h:zE w0 W g f0 f1) (hne:g≠p.block) (u:Value):zE w0 (W.setCell p u) g f0 f1:=by
 obtain⟨hb,hg⟩:=h
 exact⟨xZ hb hne u,hg⟩
theorem xS {W:World} {g:Nat} {f0:ByteArray} {f1:Int} (h:W.heap[g]?=some (.cells #[.string f0, .int .i64 f1] 44 (0,0))):W.cell? ⟨g,0,none⟩=some (.string f0):=(zB h 0).trans rfl
theorem zE.xX {w0 W:World} {g:Nat} {f0:ByteArray} {f1:Int} (h:zE w0 W g f0 f1) (x:ByteArray):zE w0 (W.setCell ⟨g,0,none⟩ (.string x)) g x f1:=by
 obtain⟨hb,hg⟩:=h
 exact⟨by simpa using YZ hb 0 (.string x),hg⟩
theorem xT {W:World} {g:Nat} {f0:ByteArray} {f1:Int} (h:W.heap[g]?=some (.cells #[.string f0, .int .i64 f1] 44 (0,0))):W.cell? ⟨g,1,none⟩=some (.int .i64 f1):=(zB h 1).trans rfl
theorem zE.xY {w0 W:World} {g:Nat} {f0:ByteArray} {f1:Int} (h:zE w0 W g f0 f1) (x:Int):zE w0 (W.setCell ⟨g,1,none⟩ (.int .i64 x)) g f0 x:=by
 obtain⟨hb,hg⟩:=h
 exact⟨by simpa using YZ hb 1 (.int .i64 x),hg⟩
theorem zE.new (w0 W:World) (f0:ByteArray) (f1:Int) (hB:Below w0.heap.size w0 W):zE w0 (W.alloc (.cells #[.string f0, .int .i64 f1] 44)) W.heap.size f0 f1:=⟨by simpa using heap_alloc_new W _,hB.size⟩
def zM.l0:Nat→ByteArray→Int→Option (ByteArray × Int)
 | 0,_,_=>none
 | k+1,x1000,x1001=>if x1001 < (x1000.size:Int) then (if 0≤x1001 then ((vR.f (bt x1000 x1001)).bind fun t101=>(if t101=true then (zM.l0 k x1000 (wrap64 (x1001+1))) else (some (x1000,x1001)))) else (none)) else (some (x1000,x1001))
def zM.f (k:Nat) (s0_0:ByteArray) (s0_1:Int):Option (ByteArray × Int):=zM.l0 k s0_0 s0_1
theorem zM.calls (k:Nat) (g:Nat) (s0_0:ByteArray) (s0_1:Int) (r1:ByteArray) (r2:Int) (w0 w:World) (hI:zE w0 w g s0_0 s0_1) (hB:Below w0.heap.size w0 w) (h:zM.f k s0_0 s0_1=some (r1,r2)) :
  Calls Tryz.prog 28 #[.pointer (some ⟨g,0,none⟩)] w fun e w'=>e = .returned (.tuple #[])∧zE w0 w' g r1 r2∧Below w0.heap.size w0 w'∧zQ w w' g none:=by
 have HI0:=zA.mk hI
 have HK:=zA.mk (zQ.refl w g none)
 have HL:=zA.mk hB.size
 clear hI
 have HW0:=zA.mk hB.size
 have HB:=zA.mk hB
 clear hB
 have H:(zM.l0 k s0_0 s0_1)=some (r1,r2):=h
 clear h
 have H':=zA.mk H
 clear H
 go_enter Tryz.func28,Tryz.ntmps28
 go_wp2
 repeat (go_quiet (fail);try go_wp2)
 (try simp only [Act.put,List.setIfInBounds_toArray,List.set_cons_succ,List.set_cons_zero])
 go_loopg [] k (fun kq w'=>∃ (x1001_1:Int),zA (zM.l0 kq s0_0 x1001_1=some (r1,r2))∧zA (kq≤k)∧zA (zE w0 w' g s0_0 x1001_1)∧zA (zQ w w' g none)∧zA (Below w0.heap.size w0 w'))
 case atStart=>exact⟨(s0_1),H',⟨Nat.le_refl _⟩,⟨qS⟩,⟨vT⟩,⟨qT⟩⟩
 case round =>
  clear H'
  obtain⟨x1001_1,HA,HK1,HI0,HK,HB⟩:=hrel
  cases gk with
  | zero=>exact absurd HA.out (by simp [zM.l0])
  | succ k1 =>
   have H:=HA.out
   clear HA
   simp only [zM.l0] at H
   by_cases c2:x1001_1 < (s0_0.size:Int)
   ·
    rw [if_pos c2] at H
    have c2b0:decide (x1001_1 < (s0_0.size:Int))=true:=decide_eq_true c2
    clear c2
    by_cases c3:0≤x1001_1
    ·
     rw [if_pos c3] at H
     have c3b0:decide (0≤x1001_1)=true:=decide_eq_true c3
     clear c3
     replace H:=Option.bind_eq_some_iff.mp H
     obtain⟨t101,A50,H⟩:=H
     try dsimp only at H
     have A5:=zA.mk A50
     clear A50
     by_cases c6:t101=true
     ·
      subst c6
      rw [if_pos rfl] at H
      as_aux_lemma =>
       have H':=zA.mk H
       clear H
       obtain⟨HGz7,hgz7⟩:=HI0.out
       have hcz7_0:=xS HGz7
       have hcz7_1:=xT HGz7
       have hfz7_0:=zC HGz7 0
       have hfz7_1:=zC HGz7 1
       clear HGz7 hgz7
       have p4:0≤(x1001_1:Int):=of_decide_eq_true jC
       have q4:x1001_1 < (s0_0.size:Int):=of_decide_eq_true jC
       have hx4:=j9 s0_0 x1001_1
       replace p4:=eq_true p4
       replace q4:=eq_true q4
       go_wp2_with (first|(go_at_call 15;(with_reducible refine(vR.calls (bt s0_0 x1001_1) true _ A5.out).mono ?_);rintro e w' ⟨rfl,⟨nd,rfl⟩⟩;(try first|exact⟨rfl,_,World.drewN_drewN _ _ _⟩|exact⟨rfl,_,Eq.trans (World.drewN_drewN _ _ _) (congrArg (World.drewN _) (Nat.add_assoc _ _ _))⟩)))
       repeat (go_quiet (first|(go_at_call 15;(with_reducible refine(vR.calls (bt s0_0 x1001_1) true _ A5.out).mono ?_);rintro e w' ⟨rfl,⟨nd,rfl⟩⟩;(try first|exact⟨rfl,_,World.drewN_drewN _ _ _⟩|exact⟨rfl,_,Eq.trans (World.drewN_drewN _ _ _) (congrArg (World.drewN _) (Nat.add_assoc _ _ _))⟩)));try go_wp2_with (first|(go_at_call 15;(with_reducible refine(vR.calls (bt s0_0 x1001_1) true _ A5.out).mono ?_);rintro e w' ⟨rfl,⟨nd,rfl⟩⟩;(try first|exact⟨rfl,_,World.drewN_drewN _ _ _⟩|exact⟨rfl,_,Eq.trans (World.drewN_drewN _ _ _) (congrArg (World.drewN _) (Nat.add_assoc _ _ _))⟩))))
       go_roundg k1
       case measure=>have:=HK1.out;omega
       case rel=>exact⟨(wrap64 (x1001_1+1)),H',⟨VU⟩,⟨qS⟩,⟨vT⟩,⟨qT⟩⟩
     ·
      replace c6:=Bool.eq_false_iff.mpr c6
      subst c6
      rw [if_neg (show ¬ (false=true) by decide)] at H
      as_aux_lemma =>
       simp only [Option.some.injEq,Prod.mk.injEq] at H
       obtain⟨rfl,rfl⟩:=H
       obtain⟨HGz8,hgz8⟩:=HI0.out
       have hcz8_0:=xS HGz8
       have hcz8_1:=xT HGz8
       have hfz8_0:=zC HGz8 0
       have hfz8_1:=zC HGz8 1
       clear HGz8 hgz8
       have p4:0≤(x1001_1:Int):=of_decide_eq_true jC
       have q4:x1001_1 < (s0_0.size:Int):=of_decide_eq_true jC
       have hx4:=j9 s0_0 x1001_1
       replace p4:=eq_true p4
       replace q4:=eq_true q4
       go_wp2_with (first|(go_at_call 15;(with_reducible refine(vR.calls (bt s0_0 x1001_1) false _ A5.out).mono ?_);rintro e w' ⟨rfl,⟨nd,rfl⟩⟩;(try first|exact⟨rfl,_,World.drewN_drewN _ _ _⟩|exact⟨rfl,_,Eq.trans (World.drewN_drewN _ _ _) (congrArg (World.drewN _) (Nat.add_assoc _ _ _))⟩)))
       repeat (go_quiet (first|(go_at_call 15;(with_reducible refine(vR.calls (bt s0_0 x1001_1) false _ A5.out).mono ?_);rintro e w' ⟨rfl,⟨nd,rfl⟩⟩;(try first|exact⟨rfl,_,World.drewN_drewN _ _ _⟩|exact⟨rfl,_,Eq.trans (World.drewN_drewN _ _ _) (congrArg (World.drewN _) (Nat.add_assoc _ _ _))⟩)));try go_wp2_with (first|(go_at_call 15;(with_reducible refine(vR.calls (bt s0_0 x1001_1) false _ A5.out).mono ?_);rintro e w' ⟨rfl,⟨nd,rfl⟩⟩;(try first|exact⟨rfl,_,World.drewN_drewN _ _ _⟩|exact⟨rfl,_,Eq.trans (World.drewN_drewN _ _ _) (congrArg (World.drewN _) (Nat.add_assoc _ _ _))⟩))))
       first|go_end0|((try simp only [Exit.inBlock,Exit.then]);refine bodyPost_ret (results_none rfl _ _ _) rfl ?_)
       exact⟨qW,qS,qT,vT⟩
    ·
     rw [if_neg c3] at H
     exact absurd H (by simp)
   ·
    rw [if_neg c2] at H
    have c2b0:decide (x1001_1 < (s0_0.size:Int))=false:=decide_eq_false c2
    clear c2
    as_aux_lemma =>
     simp only [Option.some.injEq,Prod.mk.injEq] at H
     obtain⟨rfl,rfl⟩:=H
     obtain⟨HGz9,hgz9⟩:=HI0.out
     have hcz9_0:=xS HGz9
     have hcz9_1:=xT HGz9
     have hfz9_0:=zC HGz9 0
     have hfz9_1:=zC HGz9 1
     clear HGz9 hgz9
     go_wp2
     repeat (go_quiet (fail);try go_wp2)
     first|go_end0|((try simp only [Exit.inBlock,Exit.then]);refine bodyPost_ret (results_none rfl _ _ _) rfl ?_)
     exact⟨qW,qS,qT,vT⟩
def xM.f (s0_0:ByteArray) (s0_1:Int):Option (Int × ByteArray × Int):=if s0_1 < (s0_0.size:Int) then (if 0≤s0_1 then (some (bt s0_0 s0_1,s0_0,s0_1)) else (none)) else (some (0,s0_0,s0_1))
theorem xM.calls (g:Nat) (s0_0:ByteArray) (s0_1:Int) (r1:Int) (r2:ByteArray) (r3:Int) (w0 w:World) (hI:zE w0 w g s0_0 s0_1) (hB:Below w0.heap.size w0 w) (h:xM.f s0_0 s0_1=some (r1,r2,r3)) :
  Calls Tryz.prog 49 #[.pointer (some ⟨g,0,none⟩)] w fun e w'=>e = .returned (.int .u8 r1)∧zE w0 w' g r2 r3∧Below w0.heap.size w0 w'∧zQ w w' g none:=by
 have HI0:=zA.mk hI
 have HK:=zA.mk (zQ.refl w g none)
 have HL:=zA.mk hB.size
 clear hI
 have HW0:=zA.mk hB.size
 have HB:=zA.mk hB
 clear hB
 have H:(if s0_1 < (s0_0.size:Int) then (if 0≤s0_1 then (some (bt s0_0 s0_1,s0_0,s0_1)) else (none)) else (some (0,s0_0,s0_1)))=some (r1,r2,r3):=h
 clear h
 by_cases c2:s0_1 < (s0_0.size:Int)
 ·
  rw [if_pos c2] at H
  have c2b0:decide (s0_1 < (s0_0.size:Int))=true:=decide_eq_true c2
  clear c2
  by_cases c3:0≤s0_1
  ·
   rw [if_pos c3] at H
   have c3b0:decide (0≤s0_1)=true:=decide_eq_true c3
   clear c3
   as_aux_lemma =>
    simp only [Option.some.injEq,Prod.mk.injEq] at H
    obtain⟨rfl,rfl,rfl⟩:=H
    obtain⟨HGz5,hgz5⟩:=HI0.out
    have hcz5_0:=xS HGz5
    have hcz5_1:=xT HGz5
    have hfz5_0:=zC HGz5 0
    have hfz5_1:=zC HGz5 1
    clear HGz5 hgz5
    have p4:0≤(s0_1:Int):=of_decide_eq_true jC
    have q4:s0_1 < (s0_0.size:Int):=of_decide_eq_true jC
    have hx4:=j9 s0_0 s0_1
    replace p4:=eq_true p4
    replace q4:=eq_true q4
    go_enter Tryz.func49,Tryz.ntmps49
    go_wp2
    repeat (go_quiet (fail);try go_wp2)
    go_ret
    exact⟨qW,qS,qT,vT⟩
  ·
   rw [if_neg c3] at H
   exact absurd H (by simp)
 ·
  rw [if_neg c2] at H
  have c2b0:decide (s0_1 < (s0_0.size:Int))=false:=decide_eq_false c2
  clear c2
  as_aux_lemma =>
   simp only [Option.some.injEq,Prod.mk.injEq] at H
   obtain⟨rfl,rfl,rfl⟩:=H
   obtain⟨HGz6,hgz6⟩:=HI0.out
   have hcz6_0:=xS HGz6
   have hcz6_1:=xT HGz6
   have hfz6_0:=zC HGz6 0
   have hfz6_1:=zC HGz6 1
   clear HGz6 hgz6
   go_enter Tryz.func49,Tryz.ntmps49
   go_wp2
   repeat (go_quiet (fail);try go_wp2)
   go_ret
   exact⟨qW,qS,qT,vT⟩
mutual
def zY.j0:Nat→Int→Bool→Option (Int × Bool)
 | 0,_,_=>none
 | k+1,x0,x4=>if x4=true then (some ((x0 - 48) % 256,true)) else (if 97≤x0 then (zY.j1 k x0 (decide (x0≤102))) else (zY.j1 k x0 false))
def zY.j1:Nat→Int→Bool→Option (Int × Bool)
 | 0,_,_=>none
 | k+1,x0,x14=>if x14=true then (some (((x0 - 97) % 256)+10,true)) else (if 65≤x0 then (if x0≤70 then (some (((x0 - 65) % 256)+10,true)) else (some (0,false))) else (some (0,false)))
end
def zY.f (k:Nat) (a0:Int):Option (Int × Bool):=if 48≤a0 then (zY.j0 k a0 (decide (a0≤57))) else (zY.j0 k a0 false)
theorem zY.calls (k:Nat) (a0:Int) (r1:Int) (r2:Bool) (w:World) (h:zY.f k a0=some (r1,r2)) :
  Calls Tryz.prog 63 #[.int .u8 a0] w fun e w'=>e = .returned (.tuple #[.int .i64 r1, .bool r2])∧vW w w':=by
 have H:(if 48≤a0 then (zY.j0 k a0 (decide (a0≤57))) else (zY.j0 k a0 false))=some (r1,r2):=h
 clear h
 have HC2:=zA.mk H
 clear H
 go_enter Tryz.func63,Tryz.ntmps63
 go_upto_region 1 with (fail)
 go_cut [4] (fun v4 wc=>∃ (kq:Nat) (x4_1:Bool),v4 = .bool x4_1∧zA (zY.j0 kq a0 x4_1=some (r1,r2))∧zA (kq≤k)∧vW w wc)
 case first =>
  have H:=HC2.out
  clear HC2
  by_cases c3:48≤a0
  ·
   rw [if_pos c3] at H
   have c3b0:decide (48≤a0)=true:=decide_eq_true c3
   clear c3
   (first|rw [c3b0]|(simp only [z6,z7];rw [c3b0])|skip)
   as_aux_lemma =>
    have H':=zA.mk H
    clear H
    go_wp2
    go_meet
    case rel=>exact⟨_,(decide (a0≤57)),vU,H',⟨uJ⟩,qQ⟩
  ·
   rw [if_neg c3] at H
   have c3b0:decide (48≤a0)=false:=decide_eq_false c3
   clear c3
   (first|rw [c3b0]|(simp only [z6,z7];rw [c3b0])|skip)
   as_aux_lemma =>
    have H':=zA.mk H
    clear H
    go_wp2
    go_meet
    case rel=>exact⟨_,(false),vU,H',⟨uJ⟩,qQ⟩
 case rest =>
  clear HC2
  try clear p2
  try clear c3
  try clear c3b0
  obtain⟨kq,x4_1,rfl,HA,HJ1,⟨mc1,rfl⟩⟩:=hcut
  cases kq with
  | zero=>exact absurd HA.out (by simp [zY.j0])
  | succ kj1 =>
   have H:=HA.out
   clear HA
   simp only [zY.j0] at H
   by_cases c4:x4_1=true
   ·
    subst c4
    rw [if_pos rfl] at H
    as_aux_lemma =>
     simp only [Option.some.injEq,Prod.mk.injEq] at H
     obtain⟨rfl,rfl⟩:=H
     go_wp2
     go_ret2
     exact⟨vU,qQ⟩
   ·
    replace c4:=Bool.eq_false_iff.mpr c4
    subst c4
    rw [if_neg (show ¬ (false=true) by decide)] at H
    have HC5:=zA.mk H
    clear H
    go_upto_region 3 with (fail)
    go_cut [14] (fun v14 wc=>∃ (kq:Nat) (x14_4:Bool),v14 = .bool x14_4∧zA (zY.j1 kq a0 x14_4=some (r1,r2))∧zA (kq≤kj1)∧vW w wc)
    case first =>
     have H:=HC5.out
     clear HC5
     by_cases c6:97≤a0
     ·
      rw [if_pos c6] at H
      have c6b0:decide (97≤a0)=true:=decide_eq_true c6
      clear c6
      (first|rw [c6b0]|(simp only [z6,z7];rw [c6b0])|skip)
      as_aux_lemma =>
       have H':=zA.mk H
       clear H
       go_wp2
       go_meet
       case rel=>exact⟨_,(decide (a0≤102)),vU,H',⟨by have:=HJ1.out;first|omega|exact Nat.le_refl _⟩,qQ⟩
     ·
      rw [if_neg c6] at H
      have c6b0:decide (97≤a0)=false:=decide_eq_false c6
      clear c6
      (first|rw [c6b0]|(simp only [z6,z7];rw [c6b0])|skip)
      as_aux_lemma =>
       have H':=zA.mk H
       clear H
       go_wp2
       go_meet
       case rel=>exact⟨_,(false),vU,H',⟨by have:=HJ1.out;first|omega|exact Nat.le_refl _⟩,qQ⟩
    case rest =>
     clear HC5
     try clear c1
     try clear p2
     try clear c3
     try clear c3b0
     try clear c4
     try clear c6
     try clear c6b0
     try clear p2
     obtain⟨kq,x14_4,rfl,HA,HJ4,⟨mc4,rfl⟩⟩:=hcut
     cases kq with
     | zero=>exact absurd HA.out (by simp [zY.j1])
     | succ kj4 =>
      have H:=HA.out
      clear HA
      simp only [zY.j1] at H
      by_cases c7:x14_4=true
      ·
       subst c7
       rw [if_pos rfl] at H
       as_aux_lemma =>
        simp only [Option.some.injEq,Prod.mk.injEq] at H
        obtain⟨rfl,rfl⟩:=H
        go_wp2
        go_ret2
        exact⟨vU,qQ⟩
      ·
       replace c7:=Bool.eq_false_iff.mpr c7
       subst c7
       rw [if_neg (show ¬ (false=true) by decide)] at H
       by_cases c8:65≤a0
       ·
        rw [if_pos c8] at H
        have c8b0:decide (65≤a0)=true:=decide_eq_true c8
        clear c8
        by_cases c9:a0≤70
        ·
         rw [if_pos c9] at H
         have c9b0:decide (a0≤70)=true:=decide_eq_true c9
         clear c9
         as_aux_lemma =>
          simp only [Option.some.injEq,Prod.mk.injEq] at H
          obtain⟨rfl,rfl⟩:=H
          go_wp2
          go_ret2
          exact⟨vU,qQ⟩
        ·
         rw [if_neg c9] at H
         have c9b0:decide (a0≤70)=false:=decide_eq_false c9
         clear c9
         as_aux_lemma =>
          simp only [Option.some.injEq,Prod.mk.injEq] at H
          obtain⟨rfl,rfl⟩:=H
          go_wp2
          go_ret2
          exact⟨vU,qQ⟩
       ·
        rw [if_neg c8] at H
        have c8b0:decide (65≤a0)=false:=decide_eq_false c8
        clear c8
        as_aux_lemma =>
         simp only [Option.some.injEq,Prod.mk.injEq] at H
         obtain⟨rfl,rfl⟩:=H
         go_wp2
         go_ret2
         exact⟨vU,qQ⟩
end Go.Proofs.YtljhmnnhfnmhmaaGreatDoor.G
