/-
Lemmas of this claim; made short by a program of this work.
-/
import Derived.Test.YtljhmnnhfnmhmaaGreatDoorUM32
import Derived.Test.YtljhmnnhfnmhmaaGreatDoorUGx9
import Derived.Test.YtljhmnnhfnmhmaaGreatDoorUGx10
import Derived.Test.YtljhmnnhfnmhmaaGreatDoorUM0
set_option linter.unusedVariables false
set_option linter.unusedSimpArgs false
set_option maxHeartbeats 8000000
set_option maxRecDepth 100000
namespace Go.Proofs.YtljhmnnhfnmhmaaGreatDoor.G
open Go.RowKit Go.Proofs.YtljhmnnhfnmhmaaGreatDoorW.PrintWords Go.Proofs.YtljhmnnhfnmhmaaGreatDoorW.PrintLast Go.Proofs.YtljhmnnhfnmhmaaGreatDoorW.PrintMore
theorem zDa (t:ByteArray) (w:World) (h:65536 < t.size):Calls Tryz.prog 13 #[.string t] w (Z8 w):=by
 have hR0:(w.alloc (.cells #[.int .i64 0, .string ⟨#[]⟩, .slice none 0 0, .slice none 0 0] 25)).heap[w.heap.size]?=some (.cells #[.int .i64 0, .string ⟨#[]⟩, .slice none 0 0, .slice none 0 0] 25 (0,0)):=by simpa using heap_alloc_new w _
 have HR:=zA.mk hR0
 clear hR0
 go_enter Tryz.func13,Tryz.ntmps13
 have hb2:=HR.out
 have hlt:(65536:Int) < (t.size:Int):=by omega
 have hc0:(w.alloc (.cells #[.int .i64 0, .string ⟨#[]⟩, .slice none 0 0, .slice none 0 0] 25)).cell? ⟨w.heap.size,0,none⟩=some (.int .i64 0):=(zB hb2 0).trans rfl
 have hc1:(w.alloc (.cells #[.int .i64 0, .string ⟨#[]⟩, .slice none 0 0, .slice none 0 0] 25)).cell? ⟨w.heap.size,1,none⟩=some (.string ⟨#[]⟩):=(zB hb2 1).trans rfl
 have hc2:(w.alloc (.cells #[.int .i64 0, .string ⟨#[]⟩, .slice none 0 0, .slice none 0 0] 25)).cell? ⟨w.heap.size,2,none⟩=some (.slice none 0 0):=(zB hb2 2).trans rfl
 have hc3:(w.alloc (.cells #[.int .i64 0, .string ⟨#[]⟩, .slice none 0 0, .slice none 0 0] 25)).cell? ⟨w.heap.size,3,none⟩=some (.slice none 0 0):=(zB hb2 3).trans rfl
 have hf:∀ i,(w.alloc (.cells #[.int .i64 0, .string ⟨#[]⟩, .slice none 0 0, .slice none 0 0] 25)).frozen? ⟨w.heap.size,i,none⟩=false:=fun i=>zC hb2 i
 clear hb2
 go_wp2_with fail
 refine bodyPost_ret (vF rfl _ _ w.heap.size 25 #[.int .i64 0, .string ⟨#[]⟩, .slice none 0 0, .slice none 0 0] (0,0) _ rfl Zq81 Tryz.underlying25 rfl (by kernel_rfl)) rfl ?_
 exact⟨rfl,Zq82⟩
theorem zFc (t:ByteArray) (w:World) (h:t.size≤65536) (hU:∀ W,Calls Tryz.prog 22 #[.string t] W (fun e w'=>e = .returned (.bool false)∧vW W w')):Calls Tryz.prog 13 #[.string t] w (Z8 w):=by
 have hR0:(w.alloc (.cells #[.int .i64 0, .string ⟨#[]⟩, .slice none 0 0, .slice none 0 0] 25)).heap[w.heap.size]?=some (.cells #[.int .i64 0, .string ⟨#[]⟩, .slice none 0 0, .slice none 0 0] 25 (0,0)):=by simpa using heap_alloc_new w _
 have HR:=zA.mk hR0
 clear hR0
 go_enter Tryz.func13,Tryz.ntmps13
 have HU:=zA.mk hU
 clear hU
 have hlt:¬ (65536:Int) < (t.size:Int):=by omega
 go_wp2_with fail
 refine(HU.out _).mono ?_
 rintro e w1 ⟨rfl,⟨⟨n1,rfl⟩⟩⟩
 have hb2:((w.alloc (.cells #[.int .i64 0, .string ⟨#[]⟩, .slice none 0 0, .slice none 0 0] 25)).drewN n1).heap[w.heap.size]?=some (.cells #[.int .i64 0, .string ⟨#[]⟩, .slice none 0 0, .slice none 0 0] 25 (0,0)):=HR.out
 have hc0:((w.alloc (.cells #[.int .i64 0, .string ⟨#[]⟩, .slice none 0 0, .slice none 0 0] 25)).drewN n1).cell? ⟨w.heap.size,0,none⟩=some (.int .i64 0):=(zB hb2 0).trans rfl
 have hc1:((w.alloc (.cells #[.int .i64 0, .string ⟨#[]⟩, .slice none 0 0, .slice none 0 0] 25)).drewN n1).cell? ⟨w.heap.size,1,none⟩=some (.string ⟨#[]⟩):=(zB hb2 1).trans rfl
 have hc2:((w.alloc (.cells #[.int .i64 0, .string ⟨#[]⟩, .slice none 0 0, .slice none 0 0] 25)).drewN n1).cell? ⟨w.heap.size,2,none⟩=some (.slice none 0 0):=(zB hb2 2).trans rfl
 have hc3:((w.alloc (.cells #[.int .i64 0, .string ⟨#[]⟩, .slice none 0 0, .slice none 0 0] 25)).drewN n1).cell? ⟨w.heap.size,3,none⟩=some (.slice none 0 0):=(zB hb2 3).trans rfl
 have hf:∀ i,((w.alloc (.cells #[.int .i64 0, .string ⟨#[]⟩, .slice none 0 0, .slice none 0 0] 25)).drewN n1).frozen? ⟨w.heap.size,i,none⟩=false:=fun i=>zC hb2 i
 clear hb2
 go_wp2_with fail
 refine bodyPost_ret (vF rfl _ _ w.heap.size 25 #[.int .i64 0, .string ⟨#[]⟩, .slice none 0 0, .slice none 0 0] (0,0) _ rfl Zq81 Tryz.underlying25 rfl (by kernel_rfl)) rfl ?_
 exact⟨rfl,Zq82⟩
theorem zDb (t:ByteArray) (w:World) (h:t.size≤65536) (hU:∀ W,Calls Tryz.prog 22 #[.string t] W (fun e w'=>e = .returned (.bool true)∧vW W w')) (hQ:∀ W,Calls Tryz.prog 23 #[.string t] W (fun e w'=>e = .returned (.bool false)∧vW W w')):Calls Tryz.prog 13 #[.string t] w (Z8 w):=by
 have hR0:(w.alloc (.cells #[.int .i64 0, .string ⟨#[]⟩, .slice none 0 0, .slice none 0 0] 25)).heap[w.heap.size]?=some (.cells #[.int .i64 0, .string ⟨#[]⟩, .slice none 0 0, .slice none 0 0] 25 (0,0)):=by simpa using heap_alloc_new w _
 have HR:=zA.mk hR0
 clear hR0
 go_enter Tryz.func13,Tryz.ntmps13
 have HU:=zA.mk hU
 have HQ:=zA.mk hQ
 clear hU hQ
 have hlt:¬ (65536:Int) < (t.size:Int):=by omega
 go_wp2_with fail
 refine(HU.out _).mono ?_
 rintro e w1 ⟨rfl,⟨⟨n1,rfl⟩⟩⟩
 go_wp2_with fail
 refine(HQ.out _).mono ?_
 rintro e w1 ⟨rfl,⟨⟨n2,rfl⟩⟩⟩
 have hb2:(((w.alloc (.cells #[.int .i64 0, .string ⟨#[]⟩, .slice none 0 0, .slice none 0 0] 25)).drewN n1).drewN n2).heap[w.heap.size]?=some (.cells #[.int .i64 0, .string ⟨#[]⟩, .slice none 0 0, .slice none 0 0] 25 (0,0)):=HR.out
 have hc0:(((w.alloc (.cells #[.int .i64 0, .string ⟨#[]⟩, .slice none 0 0, .slice none 0 0] 25)).drewN n1).drewN n2).cell? ⟨w.heap.size,0,none⟩=some (.int .i64 0):=(zB hb2 0).trans rfl
 have hc1:(((w.alloc (.cells #[.int .i64 0, .string ⟨#[]⟩, .slice none 0 0, .slice none 0 0] 25)).drewN n1).drewN n2).cell? ⟨w.heap.size,1,none⟩=some (.string ⟨#[]⟩):=(zB hb2 1).trans rfl
 have hc2:(((w.alloc (.cells #[.int .i64 0, .string ⟨#[]⟩, .slice none 0 0, .slice none 0 0] 25)).drewN n1).drewN n2).cell? ⟨w.heap.size,2,none⟩=some (.slice none 0 0):=(zB hb2 2).trans rfl
 have hc3:(((w.alloc (.cells #[.int .i64 0, .string ⟨#[]⟩, .slice none 0 0, .slice none 0 0] 25)).drewN n1).drewN n2).cell? ⟨w.heap.size,3,none⟩=some (.slice none 0 0):=(zB hb2 3).trans rfl
 have hf:∀ i,(((w.alloc (.cells #[.int .i64 0, .string ⟨#[]⟩, .slice none 0 0, .slice none 0 0] 25)).drewN n1).drewN n2).frozen? ⟨w.heap.size,i,none⟩=false:=fun i=>zC hb2 i
 clear hb2
 go_wp2_with fail
 refine bodyPost_ret (vF rfl _ _ w.heap.size 25 #[.int .i64 0, .string ⟨#[]⟩, .slice none 0 0, .slice none 0 0] (0,0) _ rfl Zq81 Tryz.underlying25 rfl (by kernel_rfl)) rfl ?_
 exact⟨rfl,Zq82⟩
theorem zH4 (t:ByteArray) (w:World) (h:t.size≤65536) (hU:∀ W,Calls Tryz.prog 22 #[.string t] W (fun e w'=>e = .returned (.bool true)∧vW W w')) (hQ:∀ W,Calls Tryz.prog 23 #[.string t] W (fun e w'=>e = .returned (.bool true)∧vW W w')) (hRd:∀ W,Calls Tryz.prog 9 #[.string t] W (Z8 W)):Calls Tryz.prog 13 #[.string t] w (Z8 w):=by
 have hR0:(w.alloc (.cells #[.int .i64 0, .string ⟨#[]⟩, .slice none 0 0, .slice none 0 0] 25)).heap[w.heap.size]?=some (.cells #[.int .i64 0, .string ⟨#[]⟩, .slice none 0 0, .slice none 0 0] 25 (0,0)):=by simpa using heap_alloc_new w _
 have HR:=zA.mk hR0
 have HU:=zA.mk hU
 have HQ:=zA.mk hQ
 have HD:=zA.mk hRd
 clear hU hQ hRd hR0
 have hlt:¬ (65536:Int) < (t.size:Int):=by omega
 go_enter Tryz.func13,Tryz.ntmps13
 go_wp2_with fail
 refine(HU.out _).mono ?_
 rintro e w1 ⟨rfl,⟨⟨n1,rfl⟩⟩⟩
 go_wp2_with fail
 refine(HQ.out _).mono ?_
 rintro e w1 ⟨rfl,⟨⟨n2,rfl⟩⟩⟩
 go_wp2_with fail
 refine(HD.out _).mono ?_
 rintro e w2 ⟨rfl,hb⟩
 unfold zKv
 have hb2:w2.heap[w.heap.size]?=some (.cells #[.int .i64 0, .string ⟨#[]⟩, .slice none 0 0, .slice none 0 0] 25 (0,0)):=(hb.block _ zAy).trans HR.out
 have hB:Below w.heap.size w w2:=(zH (zD (Below.refl w.heap.size w) (.cells #[.int .i64 0, .string ⟨#[]⟩, .slice none 0 0, .slice none 0 0] 25)) (n1+n2)).trans (hb.mono zAz)
 have hlt2:=xW hb2
 have hc0:w2.cell? ⟨w.heap.size,0,none⟩=some (.int .i64 0):=(zB hb2 0).trans rfl
 have hc1:w2.cell? ⟨w.heap.size,1,none⟩=some (.string ⟨#[]⟩):=(zB hb2 1).trans rfl
 have hc2:w2.cell? ⟨w.heap.size,2,none⟩=some (.slice none 0 0):=(zB hb2 2).trans rfl
 have hc3:w2.cell? ⟨w.heap.size,3,none⟩=some (.slice none 0 0):=(zB hb2 3).trans rfl
 have hf:∀ i,w2.frozen? ⟨w.heap.size,i,none⟩=false:=fun i=>zC hb2 i
 have HB:=zA.mk (And.intro hb2 hB)
 clear hb hb2 hB HR
 go_wp2_with fail
 refine bodyPost_ret (vF rfl _ _ w.heap.size 25 #[.int .i64 0, .string ⟨#[]⟩, .slice none 0 0, .slice none 0 0] (0,0) _ rfl (by first|exact HR.out|((with_reducible repeat (first|refine zG ?_ _|refine zI ?_));refine zX (cs:=#[.int .i64 0, .string ⟨#[]⟩, .slice none 0 0, .slice none 0 0]) ?_ 3 _ rfl;(with_reducible repeat (first|refine zG ?_ _|refine zI ?_));refine zX (cs:=#[.int .i64 0, .string ⟨#[]⟩, .slice none 0 0, .slice none 0 0]) ?_ 2 _ rfl;(with_reducible repeat (first|refine zG ?_ _|refine zI ?_));refine zX (cs:=#[.int .i64 0, .string ⟨#[]⟩, .slice none 0 0, .slice none 0 0]) ?_ 1 _ rfl;(with_reducible repeat (first|refine zG ?_ _|refine zI ?_));refine zX (cs:=#[.int .i64 0, .string ⟨#[]⟩, .slice none 0 0, .slice none 0 0]) ?_ 0 _ rfl;(with_reducible repeat (first|refine zG ?_ _|refine zI ?_));exact HB.out.1)) Tryz.underlying25 rfl (by kernel_rfl)) rfl ?_
 exact⟨rfl,Zq85⟩
theorem zFd (t:ByteArray) (n:S25) (w:World) (h:t.size≤65536) (hU:∀ W,Calls Tryz.prog 22 #[.string t] W (fun e w'=>e = .returned (.bool true)∧vW W w')) (hQ:∀ W,Calls Tryz.prog 23 #[.string t] W (fun e w'=>e = .returned (.bool true)∧vW W w')) (hRd:∀ W,Calls Tryz.prog 9 #[.string t] W (uH n W)):Calls Tryz.prog 13 #[.string t] w (uH n w):=by
 have hR0:(w.alloc (.cells #[.int .i64 0, .string ⟨#[]⟩, .slice none 0 0, .slice none 0 0] 25)).heap[w.heap.size]?=some (.cells #[.int .i64 0, .string ⟨#[]⟩, .slice none 0 0, .slice none 0 0] 25 (0,0)):=by simpa using heap_alloc_new w _
 have HR:=zA.mk hR0
 have HU:=zA.mk hU
 have HQ:=zA.mk hQ
 have HD:=zA.mk hRd
 clear hU hQ hRd hR0
 have hlt:¬ (65536:Int) < (t.size:Int):=by omega
 go_enter Tryz.func13,Tryz.ntmps13
 go_wp2_with fail
 refine(HU.out _).mono ?_
 rintro e w1 ⟨rfl,⟨⟨n1,rfl⟩⟩⟩
 go_wp2_with fail
 refine(HQ.out _).mono ?_
 rintro e w1 ⟨rfl,⟨⟨n2,rfl⟩⟩⟩
 go_wp2_with fail
 refine(HD.out _).mono ?_
 rintro e w2 ⟨v,rfl,hnd,hb⟩
 obtain⟨A2,c2,A3,c3,rfl,_,_⟩:=id hnd
 have hnd:=(hnd.zD9 (g:=w.heap.size) zAy (.int .i64 n.f0) (.string n.f1) (.slice A2 n.f2.length c2) (.slice A3 n.f3.length c3)).lower (B':=w.heap.size) zAz
 have hb2:w2.heap[w.heap.size]?=some (.cells #[.int .i64 0, .string ⟨#[]⟩, .slice none 0 0, .slice none 0 0] 25 (0,0)):=(hb.block _ zAy).trans HR.out
 have hB:Below w.heap.size w w2:=(zH (zD (Below.refl w.heap.size w) (.cells #[.int .i64 0, .string ⟨#[]⟩, .slice none 0 0, .slice none 0 0] 25)) (n1+n2)).trans (hb.mono zAz)
 have hlt2:=xW hb2
 have hc0:w2.cell? ⟨w.heap.size,0,none⟩=some (.int .i64 0):=(zB hb2 0).trans rfl
 have hc1:w2.cell? ⟨w.heap.size,1,none⟩=some (.string ⟨#[]⟩):=(zB hb2 1).trans rfl
 have hc2:w2.cell? ⟨w.heap.size,2,none⟩=some (.slice none 0 0):=(zB hb2 2).trans rfl
 have hc3:w2.cell? ⟨w.heap.size,3,none⟩=some (.slice none 0 0):=(zB hb2 3).trans rfl
 have hf:∀ i,w2.frozen? ⟨w.heap.size,i,none⟩=false:=fun i=>zC hb2 i
 have HB:=zA.mk (And.intro hb2 hB)
 have HG:=zA.mk hnd
 clear hnd
 clear hb hb2 hB HR
 go_wp2_with fail
 refine bodyPost_ret (vF rfl _ _ w.heap.size 25 #[.int .i64 n.f0, .string n.f1, .slice A2 n.f2.length c2, .slice A3 n.f3.length c3] (0,0) _ rfl (by first|exact HR.out|((with_reducible repeat (first|refine zG ?_ _|refine zI ?_));refine zX (cs:=#[.int .i64 n.f0, .string n.f1, .slice A2 n.f2.length c2, .slice none 0 0]) ?_ 3 _ rfl;(with_reducible repeat (first|refine zG ?_ _|refine zI ?_));refine zX (cs:=#[.int .i64 n.f0, .string n.f1, .slice none 0 0, .slice none 0 0]) ?_ 2 _ rfl;(with_reducible repeat (first|refine zG ?_ _|refine zI ?_));refine zX (cs:=#[.int .i64 n.f0, .string ⟨#[]⟩, .slice none 0 0, .slice none 0 0]) ?_ 1 _ rfl;(with_reducible repeat (first|refine zG ?_ _|refine zI ?_));refine zX (cs:=#[.int .i64 0, .string ⟨#[]⟩, .slice none 0 0, .slice none 0 0]) ?_ 0 _ rfl;(with_reducible repeat (first|refine zG ?_ _|refine zI ?_));exact HB.out.1)) Tryz.underlying25 rfl (by kernel_rfl)) rfl ?_
 exact⟨_,rfl,HG.out,Zq85⟩
end Go.Proofs.YtljhmnnhfnmhmaaGreatDoor.G
