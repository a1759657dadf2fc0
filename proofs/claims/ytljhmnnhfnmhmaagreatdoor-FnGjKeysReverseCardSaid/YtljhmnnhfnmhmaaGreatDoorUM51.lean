/-
Lemmas of this claim; made short by a program of this work.
-/
import Derived.Test.YtljhmnnhfnmhmaaGreatDoorUM41
import Derived.Test.YtljhmnnhfnmhmaaGreatDoorUM37
import Derived.Test.YtljhmnnhfnmhmaaGreatDoorUM50
import Derived.Test.YtljhmnnhfnmhmaaGreatDoorUM0
import Derived.Test.YtljhmnnhfnmhmaaGreatDoorUM45
import Derived.Test.YtljhmnnhfnmhmaaGreatDoorUM38
import Derived.Test.YtljhmnnhfnmhmaaGreatDoorUM32
set_option linter.unusedVariables false
set_option linter.unusedSimpArgs false
set_option linter.unnecessarySimpa false
set_option linter.unusedSectionVars false
set_option maxHeartbeats 8000000
set_option maxRecDepth 100000
namespace Go.Proofs.YtljhmnnhfnmhmaaGreatDoor.M
open Go Go.RowKit Go.Proofs.YtljhmnnhfnmhmaaGreatDoorW.PrintWords
attribute [local go_sem] xL
theorem XO (t a:ByteArray) (L:List (List Int × List Int)) (m0:Nat) (w0:World) (h:OT t L) (hm:m0≤w0.heap.size) (hT:Tb m0 w0) :
  Calls Tryz.prog 26 #[.string t, .string a] w0 (fun e w'=>e = .returned (.string (strOfNums (bx (L.map Prod.fst))))∧Below w0.heap.size w0 w'):=by
 have hP:=fun w=>XS t w h.pos h.sz h.head
 have hX:=fun w=>yU t ⟨#[]⟩ 0 0 w
 have hO:=fun w=>ZR t ⟨#[]⟩ 0 0 w h.pos h.head
 unfold zGo Rv at hP
 unfold Rv at hX hO
 have HP:=Lib.hid hP
 have HX:=Lib.hid hX
 have HO:=Lib.hid hO
 have HH:=Lib.hid (And.intro h (And.intro hm hT))
 clear hP hX hO h hm hT
 go_enter Tryz.func26,Tryz.ntmps26
 go_wp2_with fail
 refine(HP.out _).mono ?_
 rintro e w1 ⟨rfl,hB1⟩
 go_wp2_with fail
 refine(HX.out _).mono ?_
 rintro e w2 ⟨rfl,hB2⟩
 have r5:Rs w1.heap.size 5 t ⟨#[]⟩ 0 0 w2:=⟨xF (vQ w1 _) hB2⟩
 have l1:Below w0.heap.size w0 w2:=(zD hB1 _).trans (hB2.mono (by have:=hB1.size;simp;omega))
 have z2:w1.heap.size < w2.heap.size:=by have:=hB2.size;simp at this;omega
 have hz1:=hB1.size
 obtain⟨b5,h5⟩:∃ b,w1.heap.size=b:=⟨_,rfl⟩
 rw [h5] at r5 z2 hz1 ⊢
 have HR:=Lib.hid (And.intro r5 l1)
 obtain⟨c50,c51,c52,c53,c54,c55⟩:=r5.cells
 clear r5 l1 hB1 hB2 h5
 go_wp2_with fail
 refine(HO.out w2).mono ?_
 rintro e w3 ⟨rfl,hB3⟩
 have r5:=HR.out.1.below hB3
 have l1:Below w0.heap.size w0 w3:=HR.out.2.trans (hB3.mono HR.out.2.size)
 have z3:=hB3.size
 have HR:=Lib.hid (And.intro r5 l1)
 clear r5 l1 hB3 c50 c51 c52 c53 c54 c55
 go_wp2_with fail
 obtain⟨W4,hW4⟩:∃ W,(w3.alloc (Obj.cells #[Value.bool true] 4)).alloc (Obj.cells #[Value.pointer none,Value.slice none 0 0] 67)=W:=⟨_,rfl⟩
 have kB:Below w3.heap.size w3 W4:=by rw [← hW4];exact zD (zD (Below.refl _ _) _) _
 have hbo:W4.heap[w3.heap.size]?=some (.cells #[.bool true] 4 (0,0)):=by rw [← hW4];exact xF (vQ w3 _) (zD (Below.refl _ _) _)
 have hbb:W4.heap[w3.heap.size+1]?=some (.cells #[.pointer none, .slice none 0 0] 67 (0,0)):=by rw [← hW4];have:=vQ (w3.alloc (Obj.cells #[Value.bool true] 4)) (Obj.cells #[Value.pointer none,Value.slice none 0 0] 67);rw [show (w3.alloc (Obj.cells #[Value.bool true] 4)).heap.size=w3.heap.size+1 by simp] at this;exact this
 have hsz:W4.heap.size=w3.heap.size+2:=by rw [← hW4];simp
 rw [hW4]
 clear hW4
 have l1:Below w0.heap.size w0 W4:=HR.out.2.trans (kB.mono HR.out.2.size)
 have r5:=HR.out.1.below kB
 obtain⟨bb,hbbe⟩:∃ b,w3.heap.size+1=b:=⟨_,rfl⟩
 rw [hbbe] at hbb ⊢
 obtain⟨bo,hboe⟩:∃ b,w3.heap.size=b:=⟨_,rfl⟩
 rw [hboe] at hbo z3 ⊢
 have HN:=Lib.hid (show w0.heap.size≤b5∧b5 < bo∧bo+1=bb∧W4.heap.size=bb+1 by omega)
 clear hsz hbbe hboe z2 z3 hz1 kB
 have hbld:Bld bb w0.heap.size (fun k=>w0.heap.size≤k∧k≠bb∧k≠bo∧k≠b5) [] W4:=⟨_,_,hbb, .inl rfl,Kd.ZJ _ _ _ _ _⟩
 have hWB:=qL bb w0.heap.size (fun k=>w0.heap.size≤k∧k≠bb∧k≠bo∧k≠b5) [] 91 W4 hbld (fun k hk=>⟨hk.1,hk.2.1⟩) (fun k hk=>by have:=HN.out;omega) (by have:=HN.out;omega) (by simp)
 have HR:=Lib.hid (And.intro r5 (And.intro l1 hbo))
 clear hbld hbb r5 l1 hbo
 refine hWB.mono ?_
 rintro e w5 ⟨rfl,hb5,hg5⟩
 have hn:=HN.out
 have r5:Rs b5 5 t ⟨#[]⟩ 0 0 w5:=⟨hg5.heap HR.out.1.blk (by unfold BS;simp;omega)⟩
 have hbo:=hg5.heap HR.out.2.2 (by unfold BS;simp;omega)
 have l1:Below w0.heap.size w0 w5:=HR.out.2.1.trans (hg5.below HR.out.2.1.size (fun k hk=>by unfold BS at hk;omega))
 have hs5:=hg5.size
 have HR:=Lib.hid (And.intro r5 (And.intro l1 (And.intro hbo (And.intro hb5 hs5))))
 have r6:Rs b5 5 t ⟨#[]⟩ 0 0 (w5.alloc (Obj.cells #[Value.int IntKind.i64 0] 3)):=r5.below (zD (Below.refl _ _) _)
 obtain⟨c50,c51,c52,c53,c54,c55⟩:=r6.cells
 clear r5 r6 l1 hbo hb5 hs5 hg5 hn
 go_wp2_with fail
 obtain⟨W6,hW6⟩:∃ W,w5.alloc (Obj.cells #[Value.int IntKind.i64 0] 3)=W:=⟨_,rfl⟩
 have kB:Below w5.heap.size w5 W6:=by rw [← hW6];exact zD (Below.refl _ _) _
 have hbi:W6.heap[w5.heap.size]?=some (.cells #[.int .i64 0] 3 (0,0)):=by rw [← hW6];exact vQ w5 _
 have hsz:W6.heap.size=w5.heap.size+1:=by rw [← hW6];simp
 rw [hW6]
 clear hW6 c50 c51 c52 c53 c54 c55
 obtain⟨bi,hbie⟩:∃ b,w5.heap.size=b:=⟨_,rfl⟩
 have hn:=HN.out
 have hs5:=HR.out.2.2.2.2
 have hcap:zGf w0 m0 W6.heap.size bo bb bi:=⟨HH.out.2.1,by omega,by omega,by omega,by omega,by omega,by omega,by omega,by omega,by omega⟩
 have hmsz:=HH.out.1.os.facts
 have hsz1:=HH.out.1.sz
 have hjl:=kS (L.map Prod.fst)
 have hje:=WG L
 have hst:ItB w0 m0 W6.heap.size bo bb bi (.cells #[.bool true] 4 (0,0)) (fun k=>91 :: jn ((L.map Prod.fst).take k)) W6.heap.size 0 W6 :=
  ⟨Nat.le_refl _,HR.out.2.1.trans (kB.mono HR.out.2.1.size),HH.out.2.2.below ((HR.out.2.1.trans (kB.mono HR.out.2.1.size)).mono HH.out.2.1),by rw [← hbie];exact hbi,(kB.block bo (by omega)).trans HR.out.2.2.1,
   ((HR.out.2.2.2.1.bound).chg (Chg.vL (S:=fun _=>False) kB) (fun h=>h) (fun _ _ h=>h)).mono (fun k hk=>by unfold okC;omega)⟩
 have hFE:=wZ t ⟨#[]⟩ 0 L (ItB w0 m0 W6.heap.size bo bb bi (.cells #[.bool true] 4 (0,0)) (fun k=>91 :: jn ((L.map Prod.fst).take k))) 45 #[.pointer (some ⟨bi,0,none⟩), .pointer (some ⟨bb,0,none⟩), .pointer (some ⟨bo,0,none⟩)] m0 W6 HH.out.1.sz HH.out.1.pos HH.out.1.head HH.out.1.os zJa
  (enters_of Tryz.func45 (by kernel_rfl) rfl) (ItB.iter hcap hst) (fun n k w1 kv str num ix ix2 ty str2 num2 hkv hIt hnw=>by
   have hkl:=(List.getElem?_eq_some_iff.1 hkv).1
   have hmem:=List.mem_of_getElem? hkv
   have hr:=(hmsz.2 kv hmem).1
   have hkm:(L.map Prod.fst)[k]?=some kv.1:=by rw [List.getElem?_map,hkv];rfl
   have hjt:=yD (L.map Prod.fst) (k+1)
   have hcnt:=uQ (L.map Prod.fst)
   rw [List.length_map] at hcnt
   exact zEi hcap hIt hnw (strOfNums kv.1) (strOfNums kv.2) str str2 num num2 3 ix ix2 ty (by rw [vV hr,JQ _ _ _ hkm];by_cases h0:k=0 <;> simp [h0]) zJb (by omega))
 unfold Rv at hFE
 rw [hbie]
 have HM:=Lib.hid (And.intro hmsz (And.intro hjl (And.intro hje hsz1)))
 clear hcap hst kB hbi hsz hbie hn hs5 hmsz hjl hje hsz1
 refine hFE.mono ?_
 rintro e w7 ⟨rfl,n,hIt⟩
 clear hFE
 have hX:(91 :: jn ((L.map Prod.fst).take L.length):List Int)=91 :: jn (L.map Prod.fst):=by rw [List.take_of_length_le (by simp)]
 have hb7:Bld bb w0.heap.size (fun k=>w0.heap.size≤k∧k≠bb) (91 :: jn (L.map Prod.fst)) w7:=by
  have:=hIt.bld.mono (ok':=fun k=>w0.heap.size≤k∧k≠bb) (fun k hk=>⟨hk.1,hk.2.2.1⟩)
  rw [hX] at this
  exact this
 have hlow:=hIt.low
 have hm:=HM.out
 have hob:w0.heap.size≤bb:=by have:=HN.out;omega
 have hWB:=qL bb w0.heap.size (fun k=>w0.heap.size≤k∧k≠bb) (91 :: jn (L.map Prod.fst)) 93 w7 hb7 (fun k hk=>hk) (fun k hk=>by have:=hb7.lt;have:=hlow.size;omega) hob zJb
 have HWB:=Lib.hid hWB
 have HL:=Lib.hid hlow
 clear hWB hlow hm hb7 hIt hX
 go_wp2_with fail
 refine HWB.out.mono ?_
 rintro e w8 ⟨rfl,hb8,hg8⟩
 have hrg:Rng ((91 :: jn (L.map Prod.fst)) ++ [93]):=(Rng.cons (by decide) (V8 (fun x hx=>by obtain⟨kv,hkv,rfl⟩:=List.mem_map.mp hx;exact(HM.out.1.2 kv hkv).1))).app (Rng.cons (by decide) Rng.nil)
 have HS:=Lib.hid (uL bb w0.heap.size (fun k=>w0.heap.size≤k∧k≠bb) ((91 :: jn (L.map Prod.fst)) ++ [93]) w8 hb8 (fun k hk=>hk) hob (by simp) hrg)
 have HG:=Lib.hid (HL.out.trans (hg8.below HL.out.size (fun k hk=>by unfold BS at hk;omega)))
 clear hb8 hg8 hrg
 go_wp2_with fail
 refine HS.out.mono ?_
 rintro e w9 ⟨rfl,hB9⟩
 have HG9:=Lib.hid (HG.out.trans hB9)
 clear hB9
 go_wp2_with fail
 go_ret
 exact⟨rfl,HG9.out⟩
end Go.Proofs.YtljhmnnhfnmhmaaGreatDoor.M
namespace Go.Proofs.YtljhmnnhfnmhmaaGreatDoor.M
open Go.RowKit
theorem zJq (t S:ByteArray) (w:World) (h:Calls Tryz.prog 25 #[.string t, .string ⟨#[]⟩] w (yR S w)):Calls Tryz.prog 16 #[.string t] w (yR S w):=by
 unfold yR at h
 have H:=Lib.hid h
 clear h;unfold yR
 go_enter Tryz.func16,Tryz.ntmps16
 go_wp2_with fail
 refine H.out.mono ?_
 rintro e w1 ⟨rfl,h1⟩
 go_wp2_with fail
 go_ret
 exact⟨rfl,h1⟩
theorem zJr (t S:ByteArray) (w:World) (h:Calls Tryz.prog 26 #[.string t, .string ⟨#[]⟩] w (yR S w)):Calls Tryz.prog 17 #[.string t] w (yR S w):=by
 unfold yR at h
 have H:=Lib.hid h
 clear h;unfold yR
 go_enter Tryz.func17,Tryz.ntmps17
 go_wp2_with fail
 refine H.out.mono ?_
 rintro e w1 ⟨rfl,h1⟩
 go_wp2_with fail
 go_ret
 exact⟨rfl,h1⟩
theorem wC (t S:ByteArray) (w:World) (h:Calls Tryz.prog 25 #[.string t, .string ⟨#[]⟩] w (yR S w)):Calls Tryz.prog 6 #[.string t] w (yR S w):=by
 have h':=zJq t S w h
 unfold yR at h'
 have H:=Lib.hid h'
 clear h h';unfold yR
 go_enter Tryz.func6,Tryz.ntmps6
 go_wp2_with fail
 refine H.out.mono ?_
 rintro e w1 ⟨rfl,h1⟩
 go_wp2_with fail
 go_ret
 exact⟨rfl,h1⟩
theorem Q3 (t S:ByteArray) (w:World) (h:Calls Tryz.prog 26 #[.string t, .string ⟨#[]⟩] w (yR S w)):Calls Tryz.prog 7 #[.string t] w (yR S w):=by
 have h':=zJr t S w h
 unfold yR at h'
 have H:=Lib.hid h'
 clear h h';unfold yR
 go_enter Tryz.func7,Tryz.ntmps7
 go_wp2_with fail
 refine H.out.mono ?_
 rintro e w1 ⟨rfl,h1⟩
 go_wp2_with fail
 go_ret
 exact⟨rfl,h1⟩
end Go.Proofs.YtljhmnnhfnmhmaaGreatDoor.M
set_option maxHeartbeats 8000000
set_option maxRecDepth 100000
namespace Go.Proofs.YtljhmnnhfnmhmaaGreatDoor.M
open Go Go.RowKit Go.Lib Go.Proofs.YtljhmnnhfnmhmaaGreatDoorW.PrintWords Go.Proofs.YtljhmnnhfnmhmaaGreatDoorW.PrintLast Go.Proofs.YtljhmnnhfnmhmaaGreatDoorW.PrintMore
attribute [local go_sem] xL
def RvL (w7:World) (L:List (List Int)) (a7 a8 a9:Value) (wr:World):Prop :=
 ∃ k:Nat,a8 = .int .i64 ((L.length:Int) - 1 - k)∧a9 = .int .i64 (k:Int)∧k≤L.length∧zA (Buf w7 wr a7 (91 :: jn (L.reverse.take k)))∧zA (Below w7.heap.size w7 wr)
theorem zHw {L:List (List Int)} {k:Nat} (hk:k < L.length):L.reverse[k]?=L[L.length - 1 - k]?:=by
 rw [List.getElem?_reverse hk]
theorem wU (t a:ByteArray) (L:List (List Int)) (m0:Nat) (w0:World) (h:AT2 t L) (hm:m0≤w0.heap.size) (hT:Tb m0 w0) :
  Calls Tryz.prog 25 #[.string t, .string a] w0 (fun e w'=>e = .returned (.string (strOfNums (bx L.reverse)))∧Below w0.heap.size w0 w'):=by
 have hP:=fun w=>YF t w h.pos h.sz h.head
 have hO:=fun w=>uC t ⟨#[]⟩ 0 0 w h.pos h.head
 unfold zGo Rv at hP
 unfold Rv at hO
 have HP:=Lib.hid hP
 have HO:=Lib.hid hO
 have HH:=Lib.hid (And.intro h (And.intro hm hT))
 clear hP hO h hm hT
 go_enter Tryz.func25,Tryz.ntmps25
 go_wp2_with fail
 refine(HP.out _).mono ?_
 rintro e w1 ⟨rfl,hB1⟩
 go_wp2_with fail
 refine(HO.out _).mono ?_
 rintro e w2 ⟨rfl,hB2⟩
 have r5:Rs w1.heap.size 5 t ⟨#[]⟩ 0 0 w2:=⟨xF (vQ w1 _) hB2⟩
 have l1:Below w0.heap.size w0 w2:=(zD hB1 _).trans (hB2.mono (by have:=hB1.size;simp;omega))
 have z2:w1.heap.size < w2.heap.size:=by have:=hB2.size;simp at this;omega
 have hz1:=hB1.size
 obtain⟨b5,h5⟩:∃ b,w1.heap.size=b:=⟨_,rfl⟩
 rw [h5] at r5 z2 hz1 ⊢
 have r6:Rs b5 5 t ⟨#[]⟩ 0 0 (w2.alloc (Obj.cells #[Value.slice none 0 0] 60)):=r5.below (zD (Below.refl _ _) _)
 have HR:=Lib.hid (And.intro r5 l1)
 obtain⟨c50,c51,c52,c53,c54,c55⟩:=r6.cells
 clear r5 r6 l1 hB1 hB2 h5
 go_wp2_with fail
 obtain⟨W3,hW3⟩:∃ W,w2.alloc (Obj.cells #[Value.slice none 0 0] 60)=W:=⟨_,rfl⟩
 have kB:Below w2.heap.size w2 W3:=by rw [← hW3];exact zD (Below.refl _ _) _
 have hbv:W3.heap[w2.heap.size]?=some (.cells #[.slice none 0 0] 60 (0,0)):=by rw [← hW3];exact vQ w2 _
 have hsz:W3.heap.size=w2.heap.size+1:=by rw [← hW3];simp
 rw [hW3]
 clear hW3 c50 c51 c52 c53 c54 c55
 obtain⟨bv,hbve⟩:∃ b,w2.heap.size=b:=⟨_,rfl⟩
 rw [hbve] at hbv hsz ⊢
 have hcap:zGg w0 m0 W3.heap.size bv:=⟨HH.out.2.1,by omega,by omega⟩
 have hfa:=HH.out.1.os.facts
 have hsz1:=HH.out.1.sz
 have hcnt:=uQ L
 have lW:Below w0.heap.size w0 W3:=HR.out.2.trans (kB.mono HR.out.2.size)
 have hst:ItR w0 m0 W3.heap.size bv (fun k=>(L.take k).map strOfNums) W3.heap.size 0 W3 :=
  ⟨Nat.le_refl _,lW,HH.out.2.2.below (lW.mono HH.out.2.1),_,hbv,Kd.ZJ _ _ _ _ _⟩
 have hFE:=XI t ⟨#[]⟩ 0 L (ItR w0 m0 W3.heap.size bv (fun k=>(L.take k).map strOfNums)) 39 #[.pointer (some ⟨bv,0,none⟩)] m0 W3 HH.out.1.sz HH.out.1.pos HH.out.1.head HH.out.1.os zJa
  (enters_of Tryz.func39 (by kernel_rfl) rfl) (ItR.iter hcap hst) (fun n k w1 v num ix2 ty str2 num2 hkv hVl hty hIt hnw=>by
   have hkl:=(List.getElem?_eq_some_iff.1 hkv).1
   exact zE5 hcap hIt hnw ⟨#[]⟩ (strOfNums v) ⟨#[]⟩ str2 num num2 2 0 ix2 ty (by rw [List.take_add_one,hkv];simp) Zq0)
 unfold Rv at hFE
 clear hcap hst kB hbv
 refine hFE.mono ?_
 rintro e w7 ⟨rfl,n,hIt⟩
 clear hFE
 have hX:(L.take L.length).map strOfNums=L.map strOfNums:=by rw [List.take_length]
 obtain⟨v0,hv1,hv2⟩:=hIt.row
 rw [hX] at hv2
 obtain⟨A,c,rfl,hcl,hC⟩:=Kd.Z4 hv2
 have hlow:=hIt.low
 have hbl:=xW hv1
 have cV:w7.cell? ⟨bv,0,none⟩=some (.slice A (L.map strOfNums).length c):=zB hv1 0 _ rfl
 rw [List.length_map] at cV
 have HC:=Lib.hid (And.intro hC (And.intro hlow hfa))
 have HB7:=Lib.hid (Below.refl w7.heap.size w7)
 have HV:=Lib.hid (And.intro hv1 hbl)
 have hL20:L.length≤1048576:=by omega
 have hesz:esz L.reverse+1≤1048576:=by rw [Y9];omega
 have HE:=Lib.hid hesz
 clear hX hv1 hv2 hcl hC hlow hbl hIt hfa hcnt lW hesz
 go_wp2_with (first|((with_reducible refine jB (N:=23) rfl ?_);refine JL (w0:=w7) rfl (.tmp 22) rfl t.size rfl hsz1 HB7.out ?_;intro v3 w8 HOw8 HBw8;have cV8:=(HBw8.out.cell (p:=⟨bv,0,none⟩) HV.out.2).trans cV)|((with_reducible refine xI (b := .append) (xs:=#[.tmp 24, .tmp 25]) rfl ?_);at_builtin;refine k5 (w0:=w7) rfl (.tmp 24) (.tmp 25) rfl v3 [] 91 rfl rfl HBw8.out HOw8.out (by simp) ?_;intro v4 w9 HOw9 HBw9;have cV9:=(HBw9.out.cell (p:=⟨bv,0,none⟩) HV.out.2).trans cV))
 go_loopw [7,8,9] (fun a7 a8 a9 wr=>RvL w7 L a7 a8 a9 wr) (fun _ _ a9 _=>L.length+1 - (RowKit.intOf a9).toNat)
 case atStart=>exact⟨0,by go_num,rfl,Nat.zero_le _,by simpa [jn] using HOw9,HBw9⟩
 case round =>
  clear HOw8 HBw8 HOw9 HBw9 cV8 cV9
  obtain⟨k,rfl,rfl,hk,HO1,HB1⟩:=hrel
  have cVr:=(HB1.out.cell (p:=⟨bv,0,none⟩) HV.out.2).trans cV
  by_cases hlt:k < L.length
  ·
   obtain⟨i,hi⟩:∃ i:Nat,(L.length:Int) - 1 - k=(i:Int):=⟨L.length - 1 - k,by omega⟩
   have hil:i < L.length:=by omega
   obtain⟨ad,hA,hcell⟩:=zGu HC.out.1 i (by rw [List.length_map];exact hil)
   subst hA
   obtain⟨x0,hx0⟩:∃ x,L[i]=x:=⟨_,rfl⟩
   have hLi:L[i]?=some x0:=by rw [List.getElem?_eq_getElem hil,hx0]
   have hmem:x0 ∈ L:=hx0 ▸ List.getElem_mem hil
   have hget:(L.map strOfNums).getD i ⟨#[]⟩=strOfNums x0:=by rw [List.getD_eq_getElem?_getD,List.getElem?_map,hLi];rfl
   rw [hget] at hcell
   have HCL:=Lib.hid hcell
   have hcr:=(HB1.out.cell (World.block_lt_of_cell? _ _ hcell)).trans hcell
   have hrv:L.reverse[k]?=some x0:=by rw [zHw hlt,show L.length - 1 - k=i by omega];exact hLi
   have hstep:=JQ L.reverse k x0 hrv
   have hlen1:=yD L.reverse (k+1)
   have hlen2:=kS L.reverse
   have hrg:=(HC.out.2.2.2 x0 hmem).1
   have hsz2:(strOfNums x0).size=x0.length:=vO _
   have hjl:(jn (L.reverse.take k)).length+x0.length≤1048576:=by
    have h1:=congrArg List.length hstep
    have h2:=HE.out
    rw [List.length_append] at h1
    by_cases h0:k=0
    ·
     rw [if_pos h0] at h1;omega
    ·
     rw [if_neg h0,List.length_append] at h1;omega
   have HST:=Lib.hid (And.intro hstep (And.intro hrg hjl))
   have HSZ:=Lib.hid hsz2
   rw [hi]
   have HI:=Lib.hid hi
   clear hget hcell hrv hstep hlen1 hlen2 hrg hsz2 hi hLi hjl
   by_cases hk0:k=0
   ·
    subst hk0
    have HEQ:=Lib.hid (show (91 :: jn (L.reverse.take 0)) ++ bytesOf (strOfNums x0)=91 :: jn (L.reverse.take (0+1)) by rw [HST.out.1,vV HST.out.2.1,if_pos rfl];rfl)
    go_wp2_with (((with_reducible refine xI (b := .append) (xs:=#[.tmp 41, .tmp 46]) rfl ?_);at_builtin;refine ZL (w0:=w7) rfl (.tmp 41) (.tmp 46) rfl u7 (91 :: jn (L.reverse.take 0)) (strOfNums x0) rfl rfl HB1.out HO1.out (by have:=HST.out.2.2;have:=HSZ.out;simp only [List.length_cons,List.length_append,List.length_nil];omega) ?_;intro v5 wa HOwa HBwa))
    rw [HEQ.out] at HOwa
    go_roundw
    case rel=>exact⟨0+1,by have:=HI.out;go_num,by go_num,by omega,HOwa,HBwa⟩
    case measure=>first|(simp [RowKit.intOf];done)|(simp [RowKit.intOf];omega)
   ·
    have HEQ:=Lib.hid (show ((91 :: jn (L.reverse.take k)) ++ [44]) ++ bytesOf (strOfNums x0)=91 :: jn (L.reverse.take (k+1)) by rw [HST.out.1,vV HST.out.2.1,if_neg hk0];simp)
    go_wp2_with (first|((with_reducible refine xI (b := .append) (xs:=#[.tmp 38, .tmp 39]) rfl ?_);at_builtin;refine k5 (w0:=w7) rfl (.tmp 38) (.tmp 39) rfl u7 (91 :: jn (L.reverse.take k)) 44 rfl rfl HB1.out HO1.out (by have:=HST.out.2.2;simp only [List.length_cons];omega) ?_;intro v4 w11 HOw11 HBw11;have cVq:=(HBw11.out.cell (p:=⟨bv,0,none⟩) HV.out.2).trans cV;have hcq:=(HBw11.out.cell (World.block_lt_of_cell? _ _ HCL.out)).trans HCL.out)|((with_reducible refine xI (b := .append) (xs:=#[.tmp 41, .tmp 46]) rfl ?_);at_builtin;refine ZL (w0:=w7) rfl (.tmp 41) (.tmp 46) rfl v4 ((91 :: jn (L.reverse.take k)) ++ [44]) (strOfNums x0) rfl rfl HBw11.out HOw11.out (by have:=HST.out.2.2;have:=HSZ.out;simp only [List.length_cons,List.length_append,List.length_nil];omega) ?_;intro v5 wa HOwa HBwa))
    rw [HEQ.out] at HOwa
    go_roundw
    case rel=>exact⟨k+1,by have:=HI.out;go_num,by go_num,by omega,HOwa,HBwa⟩
    case measure=>first|(simp [RowKit.intOf];done)|(simp [RowKit.intOf];omega)
  ·
   obtain rfl:k=L.length:=by omega
   have hz:¬ 0≤(L.length:Int) - 1 - (L.length:Int):=by omega
   have hxs:(91 :: jn (L.reverse.take L.length)) ++ [93]=bx L.reverse:=by rw [List.take_of_length_le (by simp)];rfl
   have hlen:=yD L.reverse L.length
   have hlen2:=kS L.reverse
   have HLN:=Lib.hid (show (91 :: jn (L.reverse.take L.length)).length+1≤140737488355328 by have:=HE.out;simp only [List.length_cons];omega)
   have HXS:=Lib.hid hxs
   clear hlen hlen2 hxs
   go_wp2_with ((with_reducible refine xI (b := .append) (xs:=#[.tmp 48, .tmp 49]) rfl ?_);at_builtin;refine k5 (w0:=w7) rfl (.tmp 48) (.tmp 49) rfl u7 (91 :: jn (L.reverse.take L.length)) 93 rfl rfl HB1.out HO1.out HLN.out ?_;intro v6 wb HOwb HBwb)
   rw [HXS.out] at HOwb
   refine(yX v6 _ w7 wb HOwb.out).mono ?_
   rintro e w10 ⟨rfl,hB10⟩
   have HL:=Lib.hid (HC.out.2.1.trans ((HBwb.out.trans (hB10.mono HBwb.out.size)).mono HC.out.2.1.size))
   clear hB10
   go_wp2_with fail
   go_ret
   exact⟨rfl,HL.out⟩
end Go.Proofs.YtljhmnnhfnmhmaaGreatDoor.M
set_option maxHeartbeats 8000000
set_option maxRecDepth 100000
namespace Go.Proofs.YtljhmnnhfnmhmaaGreatDoor.M
open Go Go.RowKit Go.Lib Go.Proofs.YtljhmnnhfnmhmaaGreatDoorW.PrintWords Go.Proofs.YtljhmnnhfnmhmaaGreatDoorW.PrintLast Go.Proofs.YtljhmnnhfnmhmaaGreatDoorW.PrintMore
attribute [local go_sem] xL
def fl2:List (List Int × List Int)→List ByteArray
 | []=>[]
 | kv :: L=>strOfNums kv.1 :: strOfNums kv.2 :: fl2 L
theorem zG3 (a b:List (List Int × List Int)):fl2 (a ++ b)=fl2 a ++ fl2 b:=by
 induction a with
 | nil=>rfl
 | cons x a ih=>simp [fl2,ih]
theorem JO (L:List (List Int × List Int)):(fl2 L).length=2 * L.length:=by
 induction L with
 | nil=>rfl
 | cons x a ih=>simp only [fl2,List.length_cons,ih];omega
theorem zG4 (L:List (List Int × List Int)):∀ (i:Nat) (kv:List Int × List Int),L[i]?=some kv→(fl2 L).getD (2 * i) ⟨#[]⟩=strOfNums kv.1∧(fl2 L).getD (2 * i+1) ⟨#[]⟩=strOfNums kv.2:=by
 induction L with
 | nil=>intro i kv h;simp at h
 | cons x a ih =>
  intro i kv h
  cases i with
  | zero =>
   obtain rfl:x=kv:=by simpa using h
   exact⟨rfl,rfl⟩
  | succ i =>
   have:=ih i kv (by simpa using h)
   rw [show 2 * (i+1)=2 * i+1+1 by omega]
   exact this
def RvO (w7:World) (L:List (List Int × List Int)) (a7 a8 a9:Value) (wr:World):Prop :=
 ∃ k:Nat,a8 = .int .i64 (2 * (L.length:Int) - 2 - 2 * k)∧a9 = .int .i64 (k:Int)∧k≤L.length∧zA (Buf w7 wr a7 (123 :: jn ((L.reverse.map pr).take k)))∧zA (Below w7.heap.size w7 wr)
theorem zE7 {L:List (List Int × List Int)} {k:Nat} (hk:k < L.length):L.reverse[k]?=L[L.length - 1 - k]?:=by
 rw [List.getElem?_reverse hk]
theorem VH (t a:ByteArray) (L:List (List Int × List Int)) (m0:Nat) (w0:World) (h:OT t L) (hm:m0≤w0.heap.size) (hT:Tb m0 w0) :
  Calls Tryz.prog 25 #[.string t, .string a] w0 (fun e w'=>e = .returned (.string (strOfNums (ox L.reverse)))∧Below w0.heap.size w0 w'):=by
 have hP:=fun w=>XS t w h.pos h.sz h.head
 have hO:=fun w=>V7 t ⟨#[]⟩ 0 0 w h.pos h.head
 have hO2:=fun w=>ZR t ⟨#[]⟩ 0 0 w h.pos h.head
 unfold zGo Rv at hP
 unfold Rv at hO hO2
 have HO2:=Lib.hid hO2
 have HP:=Lib.hid hP
 have HO:=Lib.hid hO
 have HH:=Lib.hid (And.intro h (And.intro hm hT))
 clear hP hO hO2 h hm hT
 go_enter Tryz.func25,Tryz.ntmps25
 go_wp2_with fail
 refine(HP.out _).mono ?_
 rintro e w1 ⟨rfl,hB1⟩
 go_wp2_with fail
 refine(HO.out _).mono ?_
 rintro e w2 ⟨rfl,hB2⟩
 have r5:Rs w1.heap.size 5 t ⟨#[]⟩ 0 0 w2:=⟨xF (vQ w1 _) hB2⟩
 have l1:Below w0.heap.size w0 w2:=(zD hB1 _).trans (hB2.mono (by have:=hB1.size;simp;omega))
 have z2:w1.heap.size < w2.heap.size:=by have:=hB2.size;simp at this;omega
 have hz1:=hB1.size
 obtain⟨b5,h5⟩:∃ b,w1.heap.size=b:=⟨_,rfl⟩
 rw [h5] at r5 z2 hz1 ⊢
 have HR:=Lib.hid (And.intro r5 l1)
 obtain⟨c50,c51,c52,c53,c54,c55⟩:=r5.cells
 clear r5 l1 hB1 hB2 h5
 go_wp2_with fail
 refine(HO2.out w2).mono ?_
 rintro e w3 ⟨rfl,hB3⟩
 have r5:=HR.out.1.below hB3
 have l1:Below w0.heap.size w0 w3:=HR.out.2.trans (hB3.mono HR.out.2.size)
 have z3:=hB3.size
 have HR:=Lib.hid (And.intro r5 l1)
 have r6:Rs b5 5 t ⟨#[]⟩ 0 0 (w3.alloc (Obj.cells #[Value.slice none 0 0] 60)):=r5.below (zD (Below.refl _ _) _)
 clear c50 c51 c52 c53 c54 c55
 obtain⟨c50,c51,c52,c53,c54,c55⟩:=r6.cells
 clear r5 r6 l1 hB3
 go_wp2_with fail
 obtain⟨W3,hW3⟩:∃ W,w3.alloc (Obj.cells #[Value.slice none 0 0] 60)=W:=⟨_,rfl⟩
 have kB:Below w3.heap.size w3 W3:=by rw [← hW3];exact zD (Below.refl _ _) _
 have hbv:W3.heap[w3.heap.size]?=some (.cells #[.slice none 0 0] 60 (0,0)):=by rw [← hW3];exact vQ w3 _
 have hsz:W3.heap.size=w3.heap.size+1:=by rw [← hW3];simp
 rw [hW3]
 clear hW3 c50 c51 c52 c53 c54 c55
 obtain⟨bv,hbve⟩:∃ b,w3.heap.size=b:=⟨_,rfl⟩
 rw [hbve] at hbv hsz ⊢
 have hcap:zGg w0 m0 W3.heap.size bv:=⟨HH.out.2.1,by omega,by omega⟩
 have hfa:=HH.out.1.os.facts
 have hsz1:=HH.out.1.sz
 have hcnt:=zCm L
 have lW:Below w0.heap.size w0 W3:=HR.out.2.trans (kB.mono HR.out.2.size)
 have hst:ItR w0 m0 W3.heap.size bv (fun k=>fl2 (L.take k)) W3.heap.size 0 W3 :=
  ⟨Nat.le_refl _,lW,HH.out.2.2.below (lW.mono HH.out.2.1),_,hbv,Kd.ZJ _ _ _ _ _⟩
 have hFE:=wZ t ⟨#[]⟩ 0 L (ItR w0 m0 W3.heap.size bv (fun k=>fl2 (L.take k))) 42 #[.pointer (some ⟨bv,0,none⟩)] m0 W3 HH.out.1.sz HH.out.1.pos HH.out.1.head HH.out.1.os zJa
  (enters_of Tryz.func42 (by kernel_rfl) rfl) (ItR.iter hcap hst) (fun n k w1 kv str num ix ix2 ty str2 num2 hkv hIt hnw=>by
   have hkl:=(List.getElem?_eq_some_iff.1 hkv).1
   exact zE6 hcap hIt hnw (strOfNums kv.1) (strOfNums kv.2) str str2 num num2 3 ix ix2 ty (by rw [List.take_add_one,hkv,zG3];rfl) (by simp only [JO,List.length_take];omega))
 unfold Rv at hFE
 clear hcap hst kB hbv
 refine hFE.mono ?_
 rintro e w7 ⟨rfl,n,hIt⟩
 clear hFE
 have hX:fl2 (L.take L.length)=fl2 L:=by rw [List.take_length]
 obtain⟨v0,hv1,hv2⟩:=hIt.row
 rw [hX] at hv2
 obtain⟨A,c,rfl,hcl,hC⟩:=Kd.Z4 hv2
 have hlow:=hIt.low
 have hbl:=xW hv1
 have cV:w7.cell? ⟨bv,0,none⟩=some (.slice A (fl2 L).length c):=zB hv1 0 _ rfl
 rw [JO] at cV
 have HC:=Lib.hid (And.intro hC (And.intro hlow hfa))
 have HB7:=Lib.hid (Below.refl w7.heap.size w7)
 have HV:=Lib.hid (And.intro hv1 hbl)
 have hL20:L.length≤1048576:=by omega
 have hesz:esz (L.reverse.map pr)+1≤1048576:=by have:=zFu L.reverse;rw [zCn] at this;omega
 have HE:=Lib.hid hesz
 clear hX hv1 hv2 hcl hC hlow hbl hIt hfa hcnt lW hesz
 go_wp2_with (first|((with_reducible refine jB (N:=60) rfl ?_);refine JL (w0:=w7) rfl (.tmp 59) rfl t.size rfl hsz1 HB7.out ?_;intro v3 w8 HOw8 HBw8;have cV8:=(HBw8.out.cell (p:=⟨bv,0,none⟩) HV.out.2).trans cV)|((with_reducible refine xI (b := .append) (xs:=#[.tmp 61, .tmp 62]) rfl ?_);at_builtin;refine k5 (w0:=w7) rfl (.tmp 61) (.tmp 62) rfl v3 [] 123 rfl rfl HBw8.out HOw8.out (by simp) ?_;intro v4 w9 HOw9 HBw9;have cV9:=(HBw9.out.cell (p:=⟨bv,0,none⟩) HV.out.2).trans cV))
 go_loopw [11,12,13] (fun a7 a8 a9 wr=>RvO w7 L a7 a8 a9 wr) (fun _ _ a9 _=>L.length+1 - (RowKit.intOf a9).toNat)
 case atStart=>exact⟨0,by go_num,rfl,Nat.zero_le _,by simpa [jn] using HOw9,HBw9⟩
 case round =>
  clear HOw8 HBw8 HOw9 HBw9 cV8 cV9
  obtain⟨k,rfl,rfl,hk,HO1,HB1⟩:=hrel
  have cVr:=(HB1.out.cell (p:=⟨bv,0,none⟩) HV.out.2).trans cV
  by_cases hlt:k < L.length
  ·
   obtain⟨i,hi⟩:∃ i:Nat,2 * (L.length:Int) - 2 - 2 * k=(i:Int):=⟨2 * (L.length - 1 - k),by omega⟩
   obtain⟨i0,hi0⟩:∃ i0:Nat,L.length - 1 - k=i0:=⟨_,rfl⟩
   have hi2:i=2 * i0:=by omega
   have hil:i0 < L.length:=by omega
   obtain⟨ad,hA,hcell⟩:=zGu HC.out.1 i (by rw [JO];omega)
   subst hA
   obtain⟨ad2,hA2,hcell2⟩:=zGu HC.out.1 (i+1) (by rw [JO];omega)
   injection hA2 with hA2
   subst hA2
   obtain⟨x0,hx0⟩:∃ x,L[i0]=x:=⟨_,rfl⟩
   have hLi:L[i0]?=some x0:=by rw [List.getElem?_eq_getElem hil,hx0]
   have hmem:x0 ∈ L:=hx0 ▸ List.getElem_mem hil
   have hget:=zG4 L i0 x0 hLi
   rw [hi2,hget.1] at hcell
   rw [hi2,hget.2] at hcell2
   rw [← hi2] at hcell hcell2
   have HCL:=Lib.hid (And.intro hcell hcell2)
   have hcr:=(HB1.out.cell (World.block_lt_of_cell? _ _ hcell)).trans hcell
   have hcr2:=(HB1.out.cell (World.block_lt_of_cell? _ _ hcell2)).trans hcell2
   have hrv:(L.reverse.map pr)[k]?=some (pr x0):=by rw [List.getElem?_map,zE7 hlt,hi0,hLi];rfl
   have hstep:=JQ (L.reverse.map pr) k (pr x0) hrv
   have hlen1:=yD (L.reverse.map pr) (k+1)
   have hlen2:=kS (L.reverse.map pr)
   have hrg:=HC.out.2.2.2 x0 hmem
   have hjl:(jn ((L.reverse.map pr).take k)).length+x0.1.length+x0.2.length≤1048576:=by
    have h1:=congrArg List.length hstep
    have h2:=HE.out
    have h3:(pr x0).length=x0.1.length+(x0.2.length+1):=by simp [pr]
    rw [List.length_append,h3] at h1
    by_cases h0:k=0
    ·
     rw [if_pos h0] at h1;omega
    ·
     rw [if_neg h0,List.length_append] at h1;omega
   have HST:=Lib.hid (And.intro hstep (And.intro hrg.1 (And.intro hrg.2.1 hjl)))
   have HSZ:=Lib.hid (And.intro (vO x0.1) (vO x0.2))
   have hil2:i+1 < 2 * L.length:=by omega
   have hib:i≤4000000:=by omega
   rw [hi]
   have HI:=Lib.hid hi
   clear hget hcell hcell2 hrv hstep hlen1 hlen2 hrg hi hi0 hi2 hLi hjl hx0
   by_cases hk0:k=0
   ·
    subst hk0
    have HEQ:=Lib.hid (show ((((123 :: jn ((L.reverse.map pr).take 0))) ++ bytesOf (strOfNums x0.1)) ++ [58]) ++ bytesOf (strOfNums x0.2)=123 :: jn ((L.reverse.map pr).take (0+1)) by rw [HST.out.1,vV HST.out.2.1,vV HST.out.2.2.1,if_pos rfl];simp [pr])
    go_wp2_with (first|((with_reducible refine xI (b := .append) (xs:=#[.tmp 78, .tmp 84]) rfl ?_);at_builtin;refine ZL (w0:=w7) rfl (.tmp 78) (.tmp 84) rfl u11 (123 :: jn ((L.reverse.map pr).take 0)) (strOfNums x0.1) rfl rfl HB1.out HO1.out zGt ?_;intro va wx HOwx HBwx;have cVwx:=(HBwx.out.cell (p:=⟨bv,0,none⟩) HV.out.2).trans cV;have hcwxa:=(HBwx.out.cell (World.block_lt_of_cell? _ _ HCL.out.1)).trans HCL.out.1;have hcwxb:=(HBwx.out.cell (World.block_lt_of_cell? _ _ HCL.out.2)).trans HCL.out.2)|((with_reducible refine xI (b := .append) (xs:=#[.tmp 86, .tmp 87]) rfl ?_);at_builtin;refine k5 (w0:=w7) rfl (.tmp 86) (.tmp 87) rfl va ((123 :: jn ((L.reverse.map pr).take 0)) ++ bytesOf (strOfNums x0.1)) 58 rfl rfl HBwx.out HOwx.out zGt ?_;intro vb wy HOwy HBwy;have cVwy:=(HBwy.out.cell (p:=⟨bv,0,none⟩) HV.out.2).trans cV;have hcwya:=(HBwy.out.cell (World.block_lt_of_cell? _ _ HCL.out.1)).trans HCL.out.1;have hcwyb:=(HBwy.out.cell (World.block_lt_of_cell? _ _ HCL.out.2)).trans HCL.out.2)|((with_reducible refine xI (b := .append) (xs:=#[.tmp 89, .tmp 95]) rfl ?_);at_builtin;refine ZL (w0:=w7) rfl (.tmp 89) (.tmp 95) rfl vb (((123 :: jn ((L.reverse.map pr).take 0)) ++ bytesOf (strOfNums x0.1)) ++ [58]) (strOfNums x0.2) rfl rfl HBwy.out HOwy.out zGt ?_;intro v5 wa HOwa HBwa))
    rw [HEQ.out] at HOwa
    go_roundw
    case rel=>exact⟨0+1,by have:=HI.out;go_num,by go_num,by omega,HOwa,HBwa⟩
    case measure=>first|(simp [RowKit.intOf];done)|(simp [RowKit.intOf];omega)
   ·
    have HEQ:=Lib.hid (show (((((123 :: jn ((L.reverse.map pr).take k))) ++ [44]) ++ bytesOf (strOfNums x0.1)) ++ [58]) ++ bytesOf (strOfNums x0.2)=123 :: jn ((L.reverse.map pr).take (k+1)) by rw [HST.out.1,vV HST.out.2.1,vV HST.out.2.2.1,if_neg hk0];simp [pr])
    go_wp2_with (first|((with_reducible refine xI (b := .append) (xs:=#[.tmp 75, .tmp 76]) rfl ?_);at_builtin;refine k5 (w0:=w7) rfl (.tmp 75) (.tmp 76) rfl u11 (123 :: jn ((L.reverse.map pr).take k)) 44 rfl rfl HB1.out HO1.out zGt ?_;intro v4 w11 HOw11 HBw11;have cVw11:=(HBw11.out.cell (p:=⟨bv,0,none⟩) HV.out.2).trans cV;have hcw11a:=(HBw11.out.cell (World.block_lt_of_cell? _ _ HCL.out.1)).trans HCL.out.1;have hcw11b:=(HBw11.out.cell (World.block_lt_of_cell? _ _ HCL.out.2)).trans HCL.out.2)|((with_reducible refine xI (b := .append) (xs:=#[.tmp 78, .tmp 84]) rfl ?_);at_builtin;refine ZL (w0:=w7) rfl (.tmp 78) (.tmp 84) rfl v4 ((123 :: jn ((L.reverse.map pr).take k)) ++ [44]) (strOfNums x0.1) rfl rfl HBw11.out HOw11.out zGt ?_;intro va wx HOwx HBwx;have cVwx:=(HBwx.out.cell (p:=⟨bv,0,none⟩) HV.out.2).trans cV;have hcwxa:=(HBwx.out.cell (World.block_lt_of_cell? _ _ HCL.out.1)).trans HCL.out.1;have hcwxb:=(HBwx.out.cell (World.block_lt_of_cell? _ _ HCL.out.2)).trans HCL.out.2)|((with_reducible refine xI (b := .append) (xs:=#[.tmp 86, .tmp 87]) rfl ?_);at_builtin;refine k5 (w0:=w7) rfl (.tmp 86) (.tmp 87) rfl va (((123 :: jn ((L.reverse.map pr).take k)) ++ [44]) ++ bytesOf (strOfNums x0.1)) 58 rfl rfl HBwx.out HOwx.out zGt ?_;intro vb wy HOwy HBwy;have cVwy:=(HBwy.out.cell (p:=⟨bv,0,none⟩) HV.out.2).trans cV;have hcwya:=(HBwy.out.cell (World.block_lt_of_cell? _ _ HCL.out.1)).trans HCL.out.1;have hcwyb:=(HBwy.out.cell (World.block_lt_of_cell? _ _ HCL.out.2)).trans HCL.out.2)|((with_reducible refine xI (b := .append) (xs:=#[.tmp 89, .tmp 95]) rfl ?_);at_builtin;refine ZL (w0:=w7) rfl (.tmp 89) (.tmp 95) rfl vb ((((123 :: jn ((L.reverse.map pr).take k)) ++ [44]) ++ bytesOf (strOfNums x0.1)) ++ [58]) (strOfNums x0.2) rfl rfl HBwy.out HOwy.out zGt ?_;intro v5 wa HOwa HBwa))
    rw [HEQ.out] at HOwa
    go_roundw
    case rel=>exact⟨k+1,by have:=HI.out;go_num,by go_num,by omega,HOwa,HBwa⟩
    case measure=>first|(simp [RowKit.intOf];done)|(simp [RowKit.intOf];omega)
  ·
   obtain rfl:k=L.length:=by omega
   have hz:¬ 0≤2 * (L.length:Int) - 2 - 2 * (L.length:Int):=by omega
   have hxs:(123 :: jn ((L.reverse.map pr).take L.length)) ++ [125]=ox L.reverse:=by rw [List.take_of_length_le (by simp)];rfl
   have hlen:=yD (L.reverse.map pr) L.length
   have hlen2:=kS (L.reverse.map pr)
   have HLN:=Lib.hid (show (123 :: jn ((L.reverse.map pr).take L.length)).length+1≤140737488355328 by have:=HE.out;simp only [List.length_cons];omega)
   have HXS:=Lib.hid hxs
   clear hlen hlen2 hxs
   go_wp2_with ((with_reducible refine xI (b := .append) (xs:=#[.tmp 97, .tmp 98]) rfl ?_);at_builtin;refine k5 (w0:=w7) rfl (.tmp 97) (.tmp 98) rfl u11 (123 :: jn ((L.reverse.map pr).take L.length)) 125 rfl rfl HB1.out HO1.out HLN.out ?_;intro v6 wb HOwb HBwb)
   rw [HXS.out] at HOwb
   refine(yX v6 _ w7 wb HOwb.out).mono ?_
   rintro e w10 ⟨rfl,hB10⟩
   have HL:=Lib.hid (HC.out.2.1.trans ((HBwb.out.trans (hB10.mono HBwb.out.size)).mono HC.out.2.1.size))
   clear hB10
   go_wp2_with fail
   go_ret
   exact⟨rfl,HL.out⟩
end Go.Proofs.YtljhmnnhfnmhmaaGreatDoor.M
namespace Go.Proofs.YtljhmnnhfnmhmaaGreatDoor.M
open Go Go.RowKit Go.Proofs.YtljhmnnhfnmhmaaGreatDoorW.PrintWords Go.Proofs.YtljhmnnhfnmhmaaGreatDoor.G
theorem zC0 (l:List (List Int)) (h:∀ v ∈ l,Vl v) (hr:∀ v ∈ l,Rng v) (hs:esz l≤1000000):∃ n:S25,WB n∧n.f3.length=l.length∧∀ W,Calls Tryz.prog 9 #[.string (strOfNums (bx l))] W (uH n W):=by
 obtain⟨n,hP,hW,hl⟩:=zGv l h hr hs
 obtain⟨k,r1,r2,r3,r4,r5,hk,hk2⟩:=hP.get
 exact⟨n,hW,hl,fun W=>J6 k _ r1 r2 r3 r4 r5 n W hk hk2⟩
section
variable (t:ByteArray) (L:List (List Int × List Int)) (m0:Nat) (h:OT t L) (hs:t.size≤65536)
include h hs
theorem V9:esz (L.map Prod.fst)≤65536∧(∀ v ∈ L.map Prod.fst,Rng v)∧∀ v ∈ L.map Prod.fst,Vl v:=by
 obtain⟨h1,h2⟩:=XN t L h hs
 have h3:=WG L
 have hlen:∀ (l:List (List Int)) v,v ∈ l→v.length≤esz l:=by
  intro l
  induction l with
  | nil=>intro v hv;cases hv
  | cons x l ih =>
   intro v hv
   rcases List.mem_cons.1 hv with rfl|hv
   ·
    simp only [esz];omega
   ·
    have:=ih v hv;simp only [esz];omega
 refine⟨by omega,fun v hv=>?_,fun v hv=>?_⟩
 ·
  obtain⟨kv,hkv,rfl⟩:=List.mem_map.1 hv
  exact(h2 kv hkv).1
 ·
  have hle:=hlen _ v hv
  obtain⟨kv,hkv,rfl⟩:=List.mem_map.1 hv
  exact qt_vl (h2 kv hkv).2.2.1 (h2 kv hkv).1 (by omega)
theorem zF8:OT (strOfNums (ox L.reverse)) L.reverse:=by
 obtain⟨h1,h2⟩:=XN t L h hs
 exact ot_ox (fun kv hkv=>h2 kv (List.mem_reverse.1 hkv)) (by rw [zCn];omega)
theorem zHf:AT2 (strOfNums (bx (L.map Prod.fst))) (L.map Prod.fst):=by
 obtain⟨h1,h2,h3⟩:=V9 t L h hs
 exact zJe h3 h2 (by omega)
theorem zCg:∃ n:S25,WB n∧n.f3.length=L.length∧∀ W,Calls Tryz.prog 9 #[.string (strOfNums (bx (L.map Prod.fst).reverse))] W (uH n W):=by
 obtain⟨h1,h2,h3⟩:=V9 t L h hs
 obtain⟨n,a,b,c⟩:=zC0 (L.map Prod.fst).reverse (fun v hv=>h3 v (List.mem_reverse.1 hv)) (fun v hv=>h2 v (List.mem_reverse.1 hv)) (by rw [Y9];omega)
 exact⟨n,a,by rw [b];simp,c⟩
theorem zDj:∃ n:S25,WB n∧n.f3.length=L.length∧∀ W,Calls Tryz.prog 9 #[.string (strOfNums (bx (L.map Prod.snd).reverse))] W (uH n W):=by
 obtain⟨h1,h2,h3⟩:=ZQ t L h hs
 obtain⟨n,a,b,c⟩:=zC0 (L.map Prod.snd).reverse (fun v hv=>h3 v (List.mem_reverse.1 hv)) (fun v hv=>h2 v (List.mem_reverse.1 hv)) (by rw [Y9];omega)
 exact⟨n,a,by rw [b];simp,c⟩
variable (w:World) (hm:m0≤w.heap.size) (hT:Tb m0 w)
include hm hT
theorem zJk:Calls Tryz.prog 7 #[.string t] w (yR (strOfNums (bx (L.map Prod.fst))) w):=Q3 _ _ _ (XO t ⟨#[]⟩ L m0 w h hm hT)
theorem c_rev:Calls Tryz.prog 6 #[.string t] w (yR (strOfNums (ox L.reverse)) w):=wC _ _ _ (VH t ⟨#[]⟩ L m0 w h hm hT)
theorem zAc:Calls Tryz.prog 6 #[.string (strOfNums (bx (L.map Prod.fst)))] w (yR (strOfNums (bx (L.map Prod.fst).reverse)) w):=wC _ _ _ (wU _ ⟨#[]⟩ _ m0 w (zHf t L h hs) hm hT)
theorem zAf:Calls Tryz.prog 6 #[.string (strOfNums (bx (L.map Prod.snd)))] w (yR (strOfNums (bx (L.map Prod.snd).reverse)) w):=wC _ _ _ (wU _ ⟨#[]⟩ _ m0 w (zDi t L h hs) hm hT)
theorem zAd:Calls Tryz.prog 7 #[.string (strOfNums (ox L.reverse))] w (yR (strOfNums (bx (L.map Prod.fst).reverse)) w):=by
 rw [← List.map_reverse]
 exact Q3 _ _ _ (XO _ ⟨#[]⟩ L.reverse m0 w (zF8 t L h hs) hm hT)
theorem zAe:Calls Tryz.prog 8 #[.string (strOfNums (ox L.reverse))] w (yR (strOfNums (bx (L.map Prod.snd).reverse)) w):=by
 rw [← List.map_reverse]
 exact XJ _ _ _ (uT _ ⟨#[]⟩ L.reverse m0 w (zF8 t L h hs) hm hT)
end
end Go.Proofs.YtljhmnnhfnmhmaaGreatDoor.M
