/-
Lemmas of this claim; made short by a program of this work.
-/
import Derived.Test.YtljhmnnhfnmhmaaGreatDoorUGx5
import Derived.Test.YtljhmnnhfnmhmaaGreatDoorUGx8
import Derived.Outline
import Derived.Test.YtljhmnnhfnmhmaaGreatDoorUM0
set_option linter.unusedVariables false
set_option linter.unusedSimpArgs false
set_option maxHeartbeats 8000000
set_option maxRecDepth 100000
namespace Go.Proofs.YtljhmnnhfnmhmaaGreatDoor.G
open Go.RowKit Go.Proofs.YtljhmnnhfnmhmaaGreatDoorW.PrintWords Go.Proofs.YtljhmnnhfnmhmaaGreatDoorW.PrintLast Go.Proofs.YtljhmnnhfnmhmaaGreatDoorW.PrintMore
theorem far5 {α:Type} {d:Kd α} {e base:Nat} {w:World} {ok ok':Nat→Prop} {v:Value} {xs:List α} (g B:Nat) (h:d.R e w B ok v xs) (hb:base≤B) (hok:∀ k,ok k→k≠g) (hok':∀ k,ok k→ok' k) (u0 u1 u2 u3 u4:Value) :
  d.R e (((((w.setCell ⟨g,0,none⟩ u0).setCell ⟨g,1,none⟩ u1).setCell ⟨g,2,none⟩ u2).setCell ⟨g,3,none⟩ u3).setCell ⟨g,4,none⟩ u4) base ok' v xs :=
 Kd.jN (Kd.xG (Kd.vE (Kd.vE (Kd.vE (Kd.vE (Kd.vE h hok u0) hok u1) hok u2) hok u3) hok u4) hok') hb
def jH.f (k:Nat) (a0:ByteArray):Option (Int × Int × Int × (List (S47)) × (List (S38)) × Bool) :=
 (zM.f k a0 0).bind fun b=>(zO.f k b.1 b.2).bind fun v =>
  if v.2.2.2.2.2.1=true then (zM.f k v.2.2.2.2.2.2.1 v.2.2.2.2.2.2.2).bind fun c =>
   if c.2=(a0.size:Int) then some (v.1,v.2.1,v.2.2.1,v.2.2.2.1,v.2.2.2.2.1,true) else some (0,0,0,[],[],false)
  else some (0,0,0,[],[],false)
theorem jH.calls (k:Nat) (a0:ByteArray) (r1:Int) (r2:Int) (r3:Int) (r4:List (S47)) (r5:List (S38)) (r6:Bool) (w:World) (h:jH.f k a0=some (r1,r2,r3,r4,r5,r6)) :
  Calls Tryz.prog 19 #[.string a0] w fun e w'=>∃ v3_ v4_:Value,e = .returned (.tuple #[.agg #[.int .i64 r1, .int .i64 r2, .int .i64 r3,v3_,v4_], .bool r6])∧Kd.R k47 47 w' w.heap.size (fun _=>True) v3_ r4∧Kd.R k38 38 w' w.heap.size (fun k_=>some k_≠(v3_:Value).ownBlock) v4_ r5∧Below w.heap.size w w':=by
 unfold jH.f at h
 obtain⟨⟨b1,b2⟩,hb0,h⟩:=Option.bind_eq_some_iff.mp h
 obtain⟨⟨v1,v2,v3,v4,v5,v6,v7,v8⟩,hv0,h⟩:=Option.bind_eq_some_iff.mp h
 have A1:=zA.mk hb0
 have A2:=zA.mk hv0
 have H:=zA.mk h
 clear hb0 hv0 h
 have hB0:Below w.heap.size w (w.alloc (.cells #[.int .i64 0, .int .i64 0, .int .i64 0, .slice none 0 0, .slice none 0 0] 38)):=zD (Below.refl _ _) _
 have hI0:zE w ((w.alloc (.cells #[.int .i64 0, .int .i64 0, .int .i64 0, .slice none 0 0, .slice none 0 0] 38)).alloc (.cells #[.string a0, .int .i64 0] 44)) (w.heap.size+1) a0 0:=by
  have:=zE.new w _ a0 0 hB0
  simpa using this
 have hB1:=zD hB0 (.cells #[.string a0, .int .i64 0] 44)
 have hR0:((w.alloc (.cells #[.int .i64 0, .int .i64 0, .int .i64 0, .slice none 0 0, .slice none 0 0] 38)).alloc (.cells #[.string a0, .int .i64 0] 44)).heap[w.heap.size]?=some (.cells #[.int .i64 0, .int .i64 0, .int .i64 0, .slice none 0 0, .slice none 0 0] 38 (0,0)):=by
  exact(heap_alloc_old _ _ (by simp)).trans (by simpa using heap_alloc_new w _)
 have HI:=zA.mk hI0
 have HB:=zA.mk hB1
 have HR:=zA.mk hR0
 clear hB0 hI0 hB1 hR0
 go_enter Tryz.func19,Tryz.ntmps19
 go_wp2_with fail
 refine(zM.calls k (w.heap.size+1) a0 0 b1 b2 w _ HI.out HB.out A1.out).mono ?_
 rintro e w1 ⟨rfl,hi,hb,hk⟩
 have HR1:=zA.mk (zQ.blk hk HR.out (by omega) (by simp))
 have HI1:=zA.mk hi
 have HB1:=zA.mk hb
 clear hi hb hk HI HB HR
 go_wp2_with fail
 refine(zO.calls k (w.heap.size+1) b1 b2 v1 v2 v3 v4 v5 v6 v7 v8 w _ HI1.out HB1.out A2.out).mono ?_
 rintro e w2 ⟨u3,u4,rfl,ho3,ho4,hi,hb,hk⟩
 have HR2:=zA.mk (zQ.blk hk HR1.out (by omega) (by simp))
 have HI2:=zA.mk hi
 have HB2:=zA.mk hb
 have hl1:=HI1.out.lt
 have hl2:=HB2.out.size
 have HL1:=zA.mk hl1
 clear hi hb hk HI1 HB1 HR1 hl1 hl2
 obtain⟨a3,q3,rfl⟩:=Kd.vJ ho3
 obtain⟨a4,q4,rfl⟩:=Kd.vJ ho4
 have HO3:=zA.mk (Kd.jK ho3)
 have HO4:=zA.mk (Kd.jK ho4)
 clear ho3 ho4
 have hlt:=xW HR2.out
 have hb2:∀ o,(w2.alloc o).heap[w.heap.size]?=some (.cells #[.int .i64 0, .int .i64 0, .int .i64 0, .slice none 0 0, .slice none 0 0] 38 (0,0)):=fun o=>(heap_alloc_old _ _ hlt).trans HR2.out
 cases v6 with
 | false =>
  have h:=H.out
  rw [if_neg (by decide)] at h
  simp only [Option.some.injEq,Prod.mk.injEq] at h
  obtain⟨rfl,rfl,rfl,rfl,rfl,rfl⟩:=h
  clear H
  have hc0:w2.cell? ⟨w.heap.size,0,none⟩=some (.int .i64 0):=(zB HR2.out 0).trans rfl
  have hc1:w2.cell? ⟨w.heap.size,1,none⟩=some (.int .i64 0):=(zB HR2.out 1).trans rfl
  have hc2:w2.cell? ⟨w.heap.size,2,none⟩=some (.int .i64 0):=(zB HR2.out 2).trans rfl
  have hc3:w2.cell? ⟨w.heap.size,3,none⟩=some (.slice none 0 0):=(zB HR2.out 3).trans rfl
  have hc4:w2.cell? ⟨w.heap.size,4,none⟩=some (.slice none 0 0):=(zB HR2.out 4).trans rfl
  have hf:∀ i,w2.frozen? ⟨w.heap.size,i,none⟩=false:=fun i=>zC HR2.out i
  have HBQ:=zA.mk hb2
  clear hb2
  go_wp2_with fail
  refine bodyPost_ret (vF rfl _ _ w.heap.size 38 #[.int .i64 0, .int .i64 0, .int .i64 0, .slice none 0 0, .slice none 0 0] (0,0) _ rfl (by (with_reducible repeat (first|refine zG ?_ _|refine zI ?_|refine zF ?_ _));refine zX (cs:=#[.int .i64 0, .int .i64 0, .int .i64 0, .slice none 0 0, .slice none 0 0]) ?_ 4 _ rfl;(with_reducible repeat (first|refine zG ?_ _|refine zI ?_|refine zF ?_ _));refine zX (cs:=#[.int .i64 0, .int .i64 0, .int .i64 0, .slice none 0 0, .slice none 0 0]) ?_ 3 _ rfl;(with_reducible repeat (first|refine zG ?_ _|refine zI ?_|refine zF ?_ _));refine zX (cs:=#[.int .i64 0, .int .i64 0, .int .i64 0, .slice none 0 0, .slice none 0 0]) ?_ 2 _ rfl;(with_reducible repeat (first|refine zG ?_ _|refine zI ?_|refine zF ?_ _));refine zX (cs:=#[.int .i64 0, .int .i64 0, .int .i64 0, .slice none 0 0, .slice none 0 0]) ?_ 1 _ rfl;(with_reducible repeat (first|refine zG ?_ _|refine zI ?_|refine zF ?_ _));refine zX (cs:=#[.int .i64 0, .int .i64 0, .int .i64 0, .slice none 0 0, .slice none 0 0]) ?_ 0 _ rfl;(with_reducible repeat (first|refine zG ?_ _|refine zI ?_|refine zF ?_ _));exact HR2.out) Tryz.underlying38 rfl (by kernel_rfl)) rfl ?_
  exact⟨_,_,rfl,Kd.ZJ _ _ _ _ _,Kd.ZJ _ _ _ _ _,by repeat (first|(with_reducible first|exact HB2.out|apply zD|apply zH|apply zJ|refine zT ?_ (Nat.le_refl _))|exact HB2.out)⟩
 | true =>
  have h:=H.out
  rw [if_pos rfl] at h
  obtain⟨⟨c1,c2⟩,hc0,h⟩:=Option.bind_eq_some_iff.mp h
  have A3:=zA.mk hc0
  have H3:=zA.mk h
  have HBQ:=zA.mk hb2
  have HLT:=zA.mk hlt
  clear H h hc0 hb2 hlt
  go_wp2_with fail
  refine(zM.calls k (w.heap.size+1) v7 v8 c1 c2 w _ (HI2.out.alloc _) (zD HB2.out _) A3.out).mono ?_
  rintro e w3 ⟨rfl,hi,hb,hk⟩
  have HR3:=zA.mk (zQ.blk hk (HBQ.out _) (by omega) (by simp))
  have HP:=zA.mk (zQ.blk hk (heap_alloc_new w2 (.cells #[.int .i64 v1, .int .i64 v2, .int .i64 v3, .slice a3 v4.length q3, .slice a4 v5.length q4] 38)) (by have:=HI2.out.lt;omega) (by simp))
  have HB3:=zA.mk hb
  have HO3':=zA.mk (Kd.jL (Kd.vS HO3.out (zD (Below.refl _ _) (.cells #[.int .i64 v1, .int .i64 v2, .int .i64 v3, .slice a3 v4.length q3, .slice a4 v5.length q4] 38))) hk (fun k_ hk_=>by have:=HL1.out;have:=hk_.2.1;omega))
  have HO4':=zA.mk (Kd.jL (Kd.vS HO4.out (zD (Below.refl _ _) (.cells #[.int .i64 v1, .int .i64 v2, .int .i64 v3, .slice a3 v4.length q3, .slice a4 v5.length q4] 38))) hk (fun k_ hk_=>by have:=HL1.out;have:=hk_.2.1;omega))
  obtain⟨HG,hgq⟩:=hi
  have hr0:=xS HG
  have hr1:=xT HG
  have HX:=zA.mk hb.size
  clear HG hgq hb hk HO3 HO4 HI2 HR2 HB2 HBQ
  have hc0:w3.cell? ⟨w.heap.size,0,none⟩=some (.int .i64 0):=(zB HR3.out 0).trans rfl
  have hc1:w3.cell? ⟨w.heap.size,1,none⟩=some (.int .i64 0):=(zB HR3.out 1).trans rfl
  have hc2:w3.cell? ⟨w.heap.size,2,none⟩=some (.int .i64 0):=(zB HR3.out 2).trans rfl
  have hc3:w3.cell? ⟨w.heap.size,3,none⟩=some (.slice none 0 0):=(zB HR3.out 3).trans rfl
  have hc4:w3.cell? ⟨w.heap.size,4,none⟩=some (.slice none 0 0):=(zB HR3.out 4).trans rfl
  have hf:∀ i,w3.frozen? ⟨w.heap.size,i,none⟩=false:=fun i=>zC HR3.out i
  have hp0:w3.cell? ⟨w2.heap.size,0,none⟩=some (.int .i64 v1):=(zB HP.out 0).trans rfl
  have hp1:w3.cell? ⟨w2.heap.size,1,none⟩=some (.int .i64 v2):=(zB HP.out 1).trans rfl
  have hp2:w3.cell? ⟨w2.heap.size,2,none⟩=some (.int .i64 v3):=(zB HP.out 2).trans rfl
  have hp3:w3.cell? ⟨w2.heap.size,3,none⟩=some (.slice a3 v4.length q3):=(zB HP.out 3).trans rfl
  have hp4:w3.cell? ⟨w2.heap.size,4,none⟩=some (.slice a4 v5.length q4):=(zB HP.out 4).trans rfl
  by_cases hc:c2=(a0.size:Int)
  ·
   have h:=H3.out
   rw [if_pos hc] at h
   simp only [Option.some.injEq,Prod.mk.injEq] at h
   obtain⟨rfl,rfl,rfl,rfl,rfl,rfl⟩:=h
   have hcb:(c2 != (a0.size:Int))=false:=bne_eq_false_iff_eq.mpr hc
   have hcb2:(c2 == (a0.size:Int))=true:=beq_iff_eq.mpr hc
   clear H3 hc
   go_wp2_with fail
   refine bodyPost_ret (vF rfl _ _ w.heap.size 38 #[.int .i64 v1, .int .i64 v2, .int .i64 v3, .slice a3 v4.length q3, .slice a4 v5.length q4] (0,0) _ rfl (by (with_reducible repeat (first|refine zG ?_ _|refine zI ?_|refine zF ?_ _));refine zX (cs:=#[.int .i64 v1, .int .i64 v2, .int .i64 v3, .slice a3 v4.length q3, .slice none 0 0]) ?_ 4 _ rfl;(with_reducible repeat (first|refine zG ?_ _|refine zI ?_|refine zF ?_ _));refine zX (cs:=#[.int .i64 v1, .int .i64 v2, .int .i64 v3, .slice none 0 0, .slice none 0 0]) ?_ 3 _ rfl;(with_reducible repeat (first|refine zG ?_ _|refine zI ?_|refine zF ?_ _));refine zX (cs:=#[.int .i64 v1, .int .i64 v2, .int .i64 0, .slice none 0 0, .slice none 0 0]) ?_ 2 _ rfl;(with_reducible repeat (first|refine zG ?_ _|refine zI ?_|refine zF ?_ _));refine zX (cs:=#[.int .i64 v1, .int .i64 0, .int .i64 0, .slice none 0 0, .slice none 0 0]) ?_ 1 _ rfl;(with_reducible repeat (first|refine zG ?_ _|refine zI ?_|refine zF ?_ _));refine zX (cs:=#[.int .i64 0, .int .i64 0, .int .i64 0, .slice none 0 0, .slice none 0 0]) ?_ 0 _ rfl;(with_reducible repeat (first|refine zG ?_ _|refine zI ?_|refine zF ?_ _));exact HR3.out) Tryz.underlying38 rfl (by kernel_rfl)) rfl ?_
   have hW:=HL1.out
   exact⟨_,_,rfl,far5 w.heap.size w1.heap.size HO3'.out (by omega) (fun k_ hk_=>by have:=hk_.2.1;omega) (fun _ _=>trivial) _ _ _ _ _,far5 w.heap.size w1.heap.size HO4'.out (by omega) (fun k_ hk_=>by have:=hk_.2.1;omega) (fun _ hk_=>hk_.1) _ _ _ _ _,by repeat (first|(with_reducible first|exact HB3.out|apply zD|apply zH|apply zJ|refine zT ?_ (Nat.le_refl _))|exact HB3.out)⟩
  ·
   have h:=H3.out
   rw [if_neg hc] at h
   simp only [Option.some.injEq,Prod.mk.injEq] at h
   obtain⟨rfl,rfl,rfl,rfl,rfl,rfl⟩:=h
   have hcb:(c2 != (a0.size:Int))=true:=bne_iff_ne.mpr hc
   have hcb2:(c2 == (a0.size:Int))=false:=beq_eq_false_iff_ne.mpr hc
   clear H3
   go_wp2_with fail
   refine bodyPost_ret (vF rfl _ _ w.heap.size 38 #[.int .i64 0, .int .i64 0, .int .i64 0, .slice none 0 0, .slice none 0 0] (0,0) _ rfl (by (with_reducible repeat (first|refine zG ?_ _|refine zI ?_|refine zF ?_ _));refine zX (cs:=#[.int .i64 0, .int .i64 0, .int .i64 0, .slice none 0 0, .slice none 0 0]) ?_ 4 _ rfl;(with_reducible repeat (first|refine zG ?_ _|refine zI ?_|refine zF ?_ _));refine zX (cs:=#[.int .i64 0, .int .i64 0, .int .i64 0, .slice none 0 0, .slice none 0 0]) ?_ 3 _ rfl;(with_reducible repeat (first|refine zG ?_ _|refine zI ?_|refine zF ?_ _));refine zX (cs:=#[.int .i64 0, .int .i64 0, .int .i64 0, .slice none 0 0, .slice none 0 0]) ?_ 2 _ rfl;(with_reducible repeat (first|refine zG ?_ _|refine zI ?_|refine zF ?_ _));refine zX (cs:=#[.int .i64 0, .int .i64 0, .int .i64 0, .slice none 0 0, .slice none 0 0]) ?_ 1 _ rfl;(with_reducible repeat (first|refine zG ?_ _|refine zI ?_|refine zF ?_ _));refine zX (cs:=#[.int .i64 0, .int .i64 0, .int .i64 0, .slice none 0 0, .slice none 0 0]) ?_ 0 _ rfl;(with_reducible repeat (first|refine zG ?_ _|refine zI ?_|refine zF ?_ _));exact HR3.out) Tryz.underlying38 rfl (by kernel_rfl)) rfl ?_
   exact⟨_,_,rfl,Kd.ZJ _ _ _ _ _,Kd.ZJ _ _ _ _ _,by repeat (first|(with_reducible first|exact HB3.out|apply zD|apply zH|apply zJ|refine zT ?_ (Nat.le_refl _))|exact HB3.out)⟩
end Go.Proofs.YtljhmnnhfnmhmaaGreatDoor.G
set_option maxHeartbeats 8000000
set_option maxRecDepth 100000
namespace Go.Proofs.YtljhmnnhfnmhmaaGreatDoor.G
open Go.RowKit Go.Proofs.YtljhmnnhfnmhmaaGreatDoorW.PrintWords Go.Proofs.YtljhmnnhfnmhmaaGreatDoorW.PrintLast Go.Proofs.YtljhmnnhfnmhmaaGreatDoorW.PrintMore
def zKv:Value := .agg #[.int .i64 0, .string ⟨#[]⟩, .slice none 0 0, .slice none 0 0]
def ZV (B:Nat) (w:World) (n:S25) (v:Value):Prop:=∃ A2 c2 A3 c3,v = .agg #[.int .i64 n.f0, .string n.f1, .slice A2 n.f2.length c2, .slice A3 n.f3.length c3]∧Kd.R Kd.string 9 w B (fun _=>True) (.slice A2 n.f2.length c2) n.f2∧Kd.R k25 25 w B (fun _=>True) (.slice A3 n.f3.length c3) n.f3
theorem ZV.below {B:Nat} {w w':World} {n:S25} {v:Value} (h:ZV B w n v) (hb:Below w.heap.size w w'):ZV B w' n v:=by
 obtain⟨A2,c2,A3,c3,h1,h2,h3⟩:=h
 exact⟨A2,c2,A3,c3,h1,Kd.vS h2 hb,Kd.vS h3 hb⟩
theorem ZV.lower {B B':Nat} {w:World} {n:S25} {v:Value} (h:ZV B w n v) (hb:B'≤B):ZV B' w n v:=by
 obtain⟨A2,c2,A3,c3,h1,h2,h3⟩:=h
 exact⟨A2,c2,A3,c3,h1,Kd.jN h2 hb,Kd.jN h3 hb⟩
def uH (n:S25) (w:World) (e:Ending) (w':World):Prop:=∃ v,e = .returned (.tuple #[v, .bool true])∧ZV w.heap.size w' n v∧Below w.heap.size w w'
def Z8 (w:World) (e:Ending) (w':World):Prop:=e = .returned (.tuple #[zKv, .bool false])∧Below w.heap.size w w'
theorem zD9 {α:Type} {d:Kd α} {e base:Nat} {w:World} {ok:Nat→Prop} {v:Value} {xs:List α} (g:Nat) (h:d.R e w base ok v xs) (hok:∀ k,ok k→k≠g) (u0 u1 u2 u3:Value) :
  d.R e ((((w.setCell ⟨g,0,none⟩ u0).setCell ⟨g,1,none⟩ u1).setCell ⟨g,2,none⟩ u2).setCell ⟨g,3,none⟩ u3) base ok v xs :=
 Kd.vE (Kd.vE (Kd.vE (Kd.vE h hok u0) hok u1) hok u2) hok u3
theorem ZV.zD9 {B g:Nat} {w:World} {n:S25} {v:Value} (h:ZV B w n v) (hg:g < B) (u0 u1 u2 u3:Value):ZV B ((((w.setCell ⟨g,0,none⟩ u0).setCell ⟨g,1,none⟩ u1).setCell ⟨g,2,none⟩ u2).setCell ⟨g,3,none⟩ u3) n v:=by
 obtain⟨A2,c2,A3,c3,h1,h2,h3⟩:=h
 exact⟨A2,c2,A3,c3,h1,Kd.xG (Go.Proofs.YtljhmnnhfnmhmaaGreatDoor.G.zD9 g (Kd.jK h2) (fun k hk=>by have:=hk.2.1;omega) u0 u1 u2 u3) (fun _ _=>trivial),Kd.xG (Go.Proofs.YtljhmnnhfnmhmaaGreatDoor.G.zD9 g (Kd.jK h3) (fun k hk=>by have:=hk.2.1;omega) u0 u1 u2 u3) (fun _ _=>trivial)⟩
theorem zHv (k:Nat) (t:ByteArray) (r1 r2 r3:Int) (r4:List S47) (r5:List S38) (w:World) (h:jH.f k t=some (r1,r2,r3,r4,r5,false)):Calls Tryz.prog 9 #[.string t] w (Z8 w):=by
 have HP:=zA.mk (fun W=>jH.calls k t r1 r2 r3 r4 r5 false W h)
 clear h
 have hR0:(w.alloc (.cells #[.int .i64 0, .string ⟨#[]⟩, .slice none 0 0, .slice none 0 0] 25)).heap[w.heap.size]?=some (.cells #[.int .i64 0, .string ⟨#[]⟩, .slice none 0 0, .slice none 0 0] 25 (0,0)):=by simpa using heap_alloc_new w _
 have HR:=zA.mk hR0
 clear hR0
 go_enter Tryz.func9,Tryz.ntmps9
 go_wp2_with fail
 refine(HP.out _).mono ?_
 rintro e w1 ⟨u3,u4,rfl,ho3,ho4,hb⟩
 obtain⟨a3,q3,rfl⟩:=Kd.vJ ho3
 obtain⟨a4,q4,rfl⟩:=Kd.vJ ho4
 have hb2:w1.heap[w.heap.size]?=some (.cells #[.int .i64 0, .string ⟨#[]⟩, .slice none 0 0, .slice none 0 0] 25 (0,0)):=(hb.block _ (by simp)).trans HR.out
 have hB:Below w.heap.size w w1:=(zD (Below.refl _ _) _).trans (hb.mono (by simp))
 have hlt:=xW hb2
 have hc0:w1.cell? ⟨w.heap.size,0,none⟩=some (.int .i64 0):=(zB hb2 0).trans rfl
 have hc1:w1.cell? ⟨w.heap.size,1,none⟩=some (.string ⟨#[]⟩):=(zB hb2 1).trans rfl
 have hc2:w1.cell? ⟨w.heap.size,2,none⟩=some (.slice none 0 0):=(zB hb2 2).trans rfl
 have hc3:w1.cell? ⟨w.heap.size,3,none⟩=some (.slice none 0 0):=(zB hb2 3).trans rfl
 have hf:∀ i,w1.frozen? ⟨w.heap.size,i,none⟩=false:=fun i=>zC hb2 i
 have HQ:=zA.mk (And.intro hb2 hB)
 clear ho3 ho4 hb hb2 hB HR HP
 go_wp2_with fail
 refine bodyPost_ret (vF rfl _ _ w.heap.size 25 #[.int .i64 0, .string ⟨#[]⟩, .slice none 0 0, .slice none 0 0] (0,0) _ rfl (by (with_reducible repeat (first|refine zG ?_ _|refine zI ?_|refine zF ?_ _));refine zX (cs:=#[.int .i64 0, .string ⟨#[]⟩, .slice none 0 0, .slice none 0 0]) ?_ 3 _ rfl;(with_reducible repeat (first|refine zG ?_ _|refine zI ?_|refine zF ?_ _));refine zX (cs:=#[.int .i64 0, .string ⟨#[]⟩, .slice none 0 0, .slice none 0 0]) ?_ 2 _ rfl;(with_reducible repeat (first|refine zG ?_ _|refine zI ?_|refine zF ?_ _));refine zX (cs:=#[.int .i64 0, .string ⟨#[]⟩, .slice none 0 0, .slice none 0 0]) ?_ 1 _ rfl;(with_reducible repeat (first|refine zG ?_ _|refine zI ?_|refine zF ?_ _));refine zX (cs:=#[.int .i64 0, .string ⟨#[]⟩, .slice none 0 0, .slice none 0 0]) ?_ 0 _ rfl;(with_reducible repeat (first|refine zG ?_ _|refine zI ?_|refine zF ?_ _));exact HQ.out.1) Tryz.underlying25 rfl (by kernel_rfl)) rfl ?_
 exact⟨rfl,by repeat (first|(with_reducible first|exact HQ.out.2|apply zD|apply zH|apply zJ|refine zT ?_ (Nat.le_refl _))|exact HQ.out.2)⟩
theorem J6 (k:Nat) (t:ByteArray) (r1 r2 r3:Int) (r4:List S47) (r5:List S38) (n:S25) (w:World) (h:jH.f k t=some (r1,r2,r3,r4,r5,true)) (hT:xA.f k t r1 r2 r3 r4 r5=some (n.f0,n.f1,n.f2,n.f3)):Calls Tryz.prog 9 #[.string t] w (uH n w):=by
 have HP:=zA.mk (fun W=>jH.calls k t r1 r2 r3 r4 r5 true W h)
 have HT:=zA.mk (fun A3 c3 A4 c4 W h3 l3 h4 l4=>xA.calls k t r1 r2 r3 A3 c3 r4 A4 c4 r5 n.f0 n.f1 n.f2 n.f3 W h3 l3 h4 l4 hT)
 clear h hT
 have hR0:(w.alloc (.cells #[.int .i64 0, .string ⟨#[]⟩, .slice none 0 0, .slice none 0 0] 25)).heap[w.heap.size]?=some (.cells #[.int .i64 0, .string ⟨#[]⟩, .slice none 0 0, .slice none 0 0] 25 (0,0)):=by simpa using heap_alloc_new w _
 have HR:=zA.mk hR0
 clear hR0
 go_enter Tryz.func9,Tryz.ntmps9
 go_wp2_with fail
 refine(HP.out _).mono ?_
 rintro e w1 ⟨u3,u4,rfl,ho3,ho4,hb⟩
 obtain⟨a3,q3,rfl⟩:=Kd.vJ ho3
 obtain⟨a4,q4,rfl⟩:=Kd.vJ ho4
 obtain⟨_,l3,g3⟩:=Kd.vX ho3
 obtain⟨_,l4,g4⟩:=Kd.vX ho4
 have hb2:w1.heap[w.heap.size]?=some (.cells #[.int .i64 0, .string ⟨#[]⟩, .slice none 0 0, .slice none 0 0] 25 (0,0)):=(hb.block _ (by simp)).trans HR.out
 have hB:Below w.heap.size w w1:=(zD (Below.refl _ _) _).trans (hb.mono (by simp))
 have HQ:=zA.mk (And.intro hb2 hB)
 have HG:=zA.mk (And.intro g3 (And.intro g4 (And.intro l3 l4)))
 clear ho3 ho4 hb hb2 hB HR HP g3 g4 l3 l4
 go_wp2_with fail
 refine(HT.out _ _ _ _ _ (Kd.vN HG.out.1 (zD (Below.refl _ _) _)) HG.out.2.2.1 (Kd.vN HG.out.2.1 (zD (Below.refl _ _) _)) HG.out.2.2.2).mono ?_
 rintro e w2 ⟨v2,v3,rfl,go2,go3,hb⟩
 obtain⟨b3,p3,rfl⟩:=Kd.vJ go2
 obtain⟨b4,p4,rfl⟩:=Kd.vJ go3
 have hb2:w2.heap[w.heap.size]?=some (.cells #[.int .i64 0, .string ⟨#[]⟩, .slice none 0 0, .slice none 0 0] 25 (0,0)):=(hb.block _ (by have:=xW HQ.out.1;simp;omega)).trans ((heap_alloc_old _ _ (xW HQ.out.1)).trans HQ.out.1)
 have hB:Below w.heap.size w w2:=(zD HQ.out.2 _).trans (hb.mono (by have:=HQ.out.2.size;simp;omega))
 have hlq:=xW HQ.out.1
 have hlt:=xW hb2
 have hc0:w2.cell? ⟨w.heap.size,0,none⟩=some (.int .i64 0):=(zB hb2 0).trans rfl
 have hc1:w2.cell? ⟨w.heap.size,1,none⟩=some (.string ⟨#[]⟩):=(zB hb2 1).trans rfl
 have hc2:w2.cell? ⟨w.heap.size,2,none⟩=some (.slice none 0 0):=(zB hb2 2).trans rfl
 have hc3:w2.cell? ⟨w.heap.size,3,none⟩=some (.slice none 0 0):=(zB hb2 3).trans rfl
 have hf:∀ i,w2.frozen? ⟨w.heap.size,i,none⟩=false:=fun i=>zC hb2 i
 have hQ2:=And.intro hb2 hB
 have hnode:=(ZV.zD9 (g:=w.heap.size) (n:=n) ⟨b3,p3,b4,p4,rfl,Kd.xG go2 (fun _ _=>trivial),Kd.xG go3 (fun _ _=>trivial)⟩ Zq0 (.int .i64 n.f0) (.string n.f1) (.slice b3 n.f2.length p3) (.slice b4 n.f3.length p4)).lower (B':=w.heap.size) Zq0
 have HJ:=zA.mk hnode
 have HQ2:=zA.mk hQ2
 clear HG HT HQ go2 go3 hb hb2 hB hlq hnode hQ2
 go_wp2_with fail
 refine bodyPost_ret (vF rfl _ _ w.heap.size 25 #[.int .i64 n.f0, .string n.f1, .slice b3 n.f2.length p3, .slice b4 n.f3.length p4] (0,0) _ rfl (by (with_reducible repeat (first|refine zG ?_ _|refine zI ?_|refine zF ?_ _));refine zX (cs:=#[.int .i64 n.f0, .string n.f1, .slice b3 n.f2.length p3, .slice none 0 0]) ?_ 3 _ rfl;(with_reducible repeat (first|refine zG ?_ _|refine zI ?_|refine zF ?_ _));refine zX (cs:=#[.int .i64 n.f0, .string n.f1, .slice none 0 0, .slice none 0 0]) ?_ 2 _ rfl;(with_reducible repeat (first|refine zG ?_ _|refine zI ?_|refine zF ?_ _));refine zX (cs:=#[.int .i64 n.f0, .string ⟨#[]⟩, .slice none 0 0, .slice none 0 0]) ?_ 1 _ rfl;(with_reducible repeat (first|refine zG ?_ _|refine zI ?_|refine zF ?_ _));refine zX (cs:=#[.int .i64 0, .string ⟨#[]⟩, .slice none 0 0, .slice none 0 0]) ?_ 0 _ rfl;(with_reducible repeat (first|refine zG ?_ _|refine zI ?_|refine zF ?_ _));exact HQ2.out.1) Tryz.underlying25 rfl (by kernel_rfl)) rfl ?_
 exact⟨_,rfl,HJ.out,by repeat (first|(with_reducible first|exact HQ2.out.2|apply zD|apply zH|apply zJ|refine zT ?_ (Nat.le_refl _))|exact HQ2.out.2)⟩
end Go.Proofs.YtljhmnnhfnmhmaaGreatDoor.G
namespace Go.Proofs.YtljhmnnhfnmhmaaGreatDoor.M
open Go Go.RowKit Go.Proofs.YtljhmnnhfnmhmaaGreatDoorW.PrintWords Go.Proofs.YtljhmnnhfnmhmaaGreatDoorW.PrintLast Go.Proofs.YtljhmnnhfnmhmaaGreatDoor.G
def zAv (w:World) (e:Ending) (w':World):Prop:=e = .returned (.bool true)∧Below w.heap.size w w'
structure NBk (W:World) (b:Nat) (n:S25) (A2:Option Addr) (c2:Nat) (A3:Option Addr) (c3:Nat):Prop where
 blk:W.heap[b]?=some (.cells #[.int .i64 n.f0, .string n.f1, .slice A2 n.f2.length c2, .slice A3 n.f3.length c3] 25 (0,0))
 k2:n.f2.length≤c2
 k3:n.f3.length≤c3
 j2:Kd.C Kd.string W A2 n.f2.length n.f2
 j3:Kd.C k25 W A3 n.f3.length n.f3
theorem NBk.below {W W':World} {b:Nat} {n:S25} {A2 A3:Option Addr} {c2 c3:Nat} (h:NBk W b n A2 c2 A3 c3) (hb:Below W.heap.size W W'):NBk W' b n A2 c2 A3 c3 :=
 ⟨(hb.block _ (xW h.blk)).trans h.blk,h.k2,h.k3,Kd.vN h.j2 hb,Kd.vN h.j3 hb⟩
theorem NBk.new {w:World} {n:S25} {A2 A3:Option Addr} {c2 c3 B:Nat} {ok ok':Nat→Prop} (h2:Kd.R Kd.string 9 w B ok (.slice A2 n.f2.length c2) n.f2) (h3:Kd.R k25 25 w B ok' (.slice A3 n.f3.length c3) n.f3) :
  NBk (w.alloc (.cells #[.int .i64 n.f0, .string n.f1, .slice A2 n.f2.length c2, .slice A3 n.f3.length c3] 25)) w.heap.size n A2 c2 A3 c3:=by
 obtain⟨_,k2,j2⟩:=Kd.vX h2
 obtain⟨_,k3,j3⟩:=Kd.vX h3
 exact⟨by simpa using heap_alloc_new w _,k2,k3,Kd.vZ j2 _,Kd.vZ j3 _⟩
theorem NBk.cells {W:World} {b:Nat} {n:S25} {A2 A3:Option Addr} {c2 c3:Nat} (h:NBk W b n A2 c2 A3 c3) :
  W.cell? ⟨b,0,none⟩=some (.int .i64 n.f0)∧W.cell? ⟨b,1,none⟩=some (.string n.f1)∧W.cell? ⟨b,2,none⟩=some (.slice A2 n.f2.length c2)∧W.cell? ⟨b,3,none⟩=some (.slice A3 n.f3.length c3) :=
 ⟨(zB h.blk 0).trans rfl,(zB h.blk 1).trans rfl,(zB h.blk 2).trans rfl,(zB h.blk 3).trans rfl⟩
end Go.Proofs.YtljhmnnhfnmhmaaGreatDoor.M
