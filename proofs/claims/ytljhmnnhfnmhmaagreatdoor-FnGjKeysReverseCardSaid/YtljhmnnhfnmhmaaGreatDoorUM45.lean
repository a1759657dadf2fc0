/-
Lemmas of this claim; made short by a program of this work.
-/
import Derived.Test.YtljhmnnhfnmhmaaGreatDoorUM43
import Derived.Test.YtljhmnnhfnmhmaaGreatDoorUM44
import Derived.Test.YtljhmnnhfnmhmaaGreatDoorUM38
import Derived.Test.YtljhmnnhfnmhmaaGreatDoorUM0
import Derived.Test.YtljhmnnhfnmhmaaGreatDoorUM41
import Derived.Test.YtljhmnnhfnmhmaaGreatDoorUM37
import Derived.Test.YtljhmnnhfnmhmaaGreatDoorUM32
set_option linter.unusedVariables false
set_option linter.unusedSimpArgs false
set_option linter.unusedSectionVars false
namespace Go.Proofs.YtljhmnnhfnmhmaaGreatDoor.M
open Go Go.RowKit Go.Proofs.YtljhmnnhfnmhmaaGreatDoorW.PrintWords Go.Proofs.YtljhmnnhfnmhmaaGreatDoor.G
theorem zBj (c:Int):∃ b,vR.f c=some b∧(b=false→¬ Ws c):=by
 unfold vR.f Ws
 by_cases h1:c=32
 ·
  exact⟨true,by rw [if_pos h1],fun h=>by cases h⟩
 by_cases h2:c=9
 ·
  exact⟨true,by rw [if_neg h1,if_pos h2],fun h=>by cases h⟩
 by_cases h3:c=10
 ·
  exact⟨true,by rw [if_neg h1,if_neg h2,if_pos h3],fun h=>by cases h⟩
 ·
  refine⟨c == 13,by rw [if_neg h1,if_neg h2,if_neg h3],fun h=>?_⟩
  have h4:¬ c=13:=by simpa using h
  omega
theorem WA (t:ByteArray) (w:World):Calls Tryz.prog 5 #[.string t] w (Z8 w)∨∃ n b,Calls Tryz.prog 5 #[.string t] w (Z7 n b w)∧(b=true→t.size≤65536∧RX 0 (bytesOf t) [] [n]):=by
 by_cases hsz:65536 < t.size
 ·
  exact .inl (JK t w (fun W=>zDa t W hsz))
 have hs:t.size≤65536:=by omega
 have hs2:t.size≤1048576:=by omega
 obtain⟨bu,hu⟩:=zKt t hs2
 obtain⟨ku,hku⟩:=hu.get
 have hU:=fun W=>jA.calls ku t bu W hku
 cases bu with
 | false=>exact .inl (JK t w (fun W=>zFc t W hs hU))
 | true =>
  obtain⟨bp,hp⟩:=zCw t hs2
  obtain⟨kp,hkp⟩:=hp.get
  have hQ:=fun W=>xR.calls kp t bp W hkp
  cases bp with
  | false=>exact .inl (JK t w (fun W=>zDb t W hs hU hQ))
  | true =>
   rcases zCx t hs2 with hno|⟨w1,s,w2,n,hT,hP⟩
   ·
    obtain⟨k,hk⟩:=hno.get
    exact .inl (JK t w (fun W=>zH4 t W hs hU hQ (fun W=>zHv k t _ _ _ _ _ W hk)))
   ·
    obtain⟨k,r1,r2,r3,r4,r5,hk,hk2⟩:=hP.get
    have hR:=fun W=>zFd t n W hs hU hQ (fun W=>J6 k t r1 r2 r3 r4 r5 n W hk hk2)
    have hlen:=zW t
    have hlen2:=congrArg List.length hT.eq
    simp only [List.length_append] at hlen2
    have hW:WB n:=(hT.rx.wb (by omega)).2.2 n (by simp)
    obtain⟨bq,hq⟩:=zDc hW
    obtain⟨kq,hkq⟩:=hq.get
    have hN:=fun A2 c2 A3 c3 W h2 l2 h3 l3=>xE.calls kq n.f0 n.f1 A2 c2 n.f2 A3 c3 n.f3 bq W h2 l2 h3 l3 hkq
    have hne:=List.length_pos_iff.2 hT.rx.ne
    have hpos:0 < t.size:=by omega
    cases bq with
    | false=>exact .inr ⟨n,false,zDz t n w hR hN,fun h=>by cases h⟩
    | true =>
     obtain⟨b1,hb1,hw1⟩:=zBj (bn t 0)
     have hB1:=fun W=>vR.calls (bn t 0) b1 W hb1
     cases b1 with
     | true=>exact .inr ⟨n,false,W9 t n w hR hN hpos hs hB1,fun h=>by cases h⟩
     | false =>
      obtain⟨b2,hb2,hw2⟩:=zBj (bn t (t.size - 1))
      have hB2:=fun W=>vR.calls (bn t (t.size - 1)) b2 W hb2
      cases b2 with
      | true=>exact .inr ⟨n,false,zBi t n w hR hN hpos hs hB1 hB2,fun h=>by cases h⟩
      | false =>
       refine .inr ⟨n,true,zD0 t n w hR hN hpos hs hB1 hB2,fun _=>⟨hs,?_⟩⟩
       have e1:w1=[]:=by
        cases w1 with
        | nil=>rfl
        | cons c r =>
         refine absurd (hT.b1 c (by simp)) ?_
         have h0:bn t 0=c:=by
          have:=Y1 t 0 hpos
          rw [hT.eq] at this
          exact this
         rw [← h0];exact hw1 rfl
       have e2:w2=[]:=by
        by_cases hn:w2=[]
        ·
         exact hn
        ·
         have hl:=List.getLast_mem hn
         refine absurd (hT.b2 _ hl) ?_
         have h0:bn t (t.size - 1)=w2.getLast hn:=by
          have h3:=Y1 t (t.size - 1) (by omega)
          rw [hT.eq] at h3
          have hp2:=List.length_pos_iff.2 hn
          refine h3.trans ?_
          rw [List.getLast_eq_getElem,← List.append_assoc,List.getD,List.getElem?_append_right (by simp only [List.length_append];omega)]
          have hx:t.size - 1 - (w1 ++ s).length=w2.length - 1:=by simp only [List.length_append];omega
          rw [hx]
          simp [List.getElem?_eq_getElem (by omega:w2.length - 1 < w2.length)]
         rw [← h0];exact hw2 rfl
       have:=hT.eq
       rw [e1,e2,List.append_nil,List.nil_append] at this
       rw [this]
       exact hT.rx
end Go.Proofs.YtljhmnnhfnmhmaaGreatDoor.M
set_option maxHeartbeats 8000000
set_option maxRecDepth 100000
namespace Go.Proofs.YtljhmnnhfnmhmaaGreatDoor.M
open Go Go.RowKit Go.Proofs.YtljhmnnhfnmhmaaGreatDoorW.PrintWords
attribute [local go_sem] xL
theorem uT (t a:ByteArray) (L:List (List Int × List Int)) (m0:Nat) (w0:World) (h:OT t L) (hm:m0≤w0.heap.size) (hT:Tb m0 w0) :
  Calls Tryz.prog 27 #[.string t, .string a] w0 (fun e w'=>e = .returned (.string (strOfNums (bx (L.map Prod.snd))))∧Below w0.heap.size w0 w'):=by
 have hP:=fun w=>XS t w h.pos h.sz h.head
 have hX:=fun w=>yU t ⟨#[]⟩ 0 0 w
 have hO:=fun w=>V7 t ⟨#[]⟩ 0 0 w h.pos h.head
 unfold zGo Rv at hP
 unfold Rv at hX hO
 have HP:=Lib.hid hP
 have HX:=Lib.hid hX
 have HO:=Lib.hid hO
 have HH:=Lib.hid (And.intro h (And.intro hm hT))
 clear hP hX hO h hm hT
 go_enter Tryz.func27,Tryz.ntmps27
 go_wp2_with fail
 refine(HP.out _).mono ?_
 rintro e w1 ⟨rfl,hB1⟩
 go_wp2_with fail
 refine(HX.out _).mono ?_
 rintro e w2 ⟨rfl,hB2⟩
 have r5:Rs w1.heap.size 5 t ⟨#[]⟩ 0 0 w2:=⟨xF (vQ w1 _) hB2⟩
 have l1:Below w0.heap.size w0 w2:=(zD hB1 _).trans (hB2.mono (by have:=hB1.size;simp;omega))
 have z2:w1.heap.size < w2.heap.size:=by have:=hB2.size;simp at this;omega
 have hz1:=hB1.size
 obtain⟨b5,h5⟩:∃ b,w1.heap.size=b:=⟨_,rfl⟩
 rw [h5] at r5 z2 hz1 ⊢
 have HR:=Lib.hid (And.intro r5 l1)
 obtain⟨c50,c51,c52,c53,c54,c55⟩:=r5.cells
 clear r5 l1 hB1 hB2 h5
 go_wp2_with fail
 refine(HO.out w2).mono ?_
 rintro e w3 ⟨rfl,hB3⟩
 have r5:=HR.out.1.below hB3
 have l1:Below w0.heap.size w0 w3:=HR.out.2.trans (hB3.mono HR.out.2.size)
 have z3:=hB3.size
 have HR:=Lib.hid (And.intro r5 l1)
 clear r5 l1 hB3 c50 c51 c52 c53 c54 c55
 go_wp2_with fail
 obtain⟨W4,hW4⟩:∃ W,w3.alloc (Obj.cells #[Value.pointer none,Value.slice none 0 0] 67)=W:=⟨_,rfl⟩
 have kB:Below w3.heap.size w3 W4:=by rw [← hW4];exact zD (Below.refl _ _) _
 have hbb:W4.heap[w3.heap.size]?=some (.cells #[.pointer none, .slice none 0 0] 67 (0,0)):=by rw [← hW4];exact vQ w3 _
 have hsz:W4.heap.size=w3.heap.size+1:=by rw [← hW4];simp
 rw [hW4]
 clear hW4
 have l1:Below w0.heap.size w0 W4:=HR.out.2.trans (kB.mono HR.out.2.size)
 have r5:=HR.out.1.below kB
 obtain⟨bb,hbbe⟩:∃ b,w3.heap.size=b:=⟨_,rfl⟩
 rw [hbbe] at hbb z3 ⊢
 have HN:=Lib.hid (show w0.heap.size≤b5∧b5 < bb∧W4.heap.size=bb+1 by omega)
 clear hsz hbbe z2 z3 hz1 kB
 have hbld:Bld bb w0.heap.size (fun k=>w0.heap.size≤k∧k≠bb∧k≠b5) [] W4:=⟨_,_,hbb, .inl rfl,Kd.ZJ _ _ _ _ _⟩
 have hWB:=qL bb w0.heap.size (fun k=>w0.heap.size≤k∧k≠bb∧k≠b5) [] 91 W4 hbld (fun k hk=>⟨hk.1,hk.2.1⟩) (fun k hk=>by have:=HN.out;omega) (by have:=HN.out;omega) (by simp)
 have HR:=Lib.hid (And.intro r5 l1)
 clear hbld hbb r5 l1
 refine hWB.mono ?_
 rintro e w5 ⟨rfl,hb5,hg5⟩
 have hn:=HN.out
 have r5:Rs b5 5 t ⟨#[]⟩ 0 0 w5:=⟨hg5.heap HR.out.1.blk (by unfold BS;simp;omega)⟩
 have l1:Below w0.heap.size w0 w5:=HR.out.2.trans (hg5.below HR.out.2.size (fun k hk=>by unfold BS at hk;omega))
 have hs5:=hg5.size
 have HR:=Lib.hid (And.intro r5 (And.intro l1 (And.intro hb5 hs5)))
 have r6:Rs b5 5 t ⟨#[]⟩ 0 0 (w5.alloc (Obj.cells #[Value.int IntKind.i64 0] 3)):=r5.below (zD (Below.refl _ _) _)
 obtain⟨c50,c51,c52,c53,c54,c55⟩:=r6.cells
 clear r5 r6 l1 hb5 hs5 hg5 hn
 go_wp2_with fail
 obtain⟨W6,hW6⟩:∃ W,w5.alloc (Obj.cells #[Value.int IntKind.i64 0] 3)=W:=⟨_,rfl⟩
 have kB:Below w5.heap.size w5 W6:=by rw [← hW6];exact zD (Below.refl _ _) _
 have hbi:W6.heap[w5.heap.size]?=some (.cells #[.int .i64 0] 3 (0,0)):=by rw [← hW6];exact vQ w5 _
 have hsz:W6.heap.size=w5.heap.size+1:=by rw [← hW6];simp
 rw [hW6]
 clear hW6 c50 c51 c52 c53 c54 c55
 obtain⟨bi,hbie⟩:∃ b,w5.heap.size=b:=⟨_,rfl⟩
 have hn:=HN.out
 have hs5:=HR.out.2.2.2
 have hcap:zGf w0 m0 W6.heap.size b5 bb bi:=⟨HH.out.2.1,by omega,by omega,by omega,by omega,by omega,by omega,by omega,by omega,by omega⟩
 have hmsz:=HH.out.1.os.facts
 have hsz1:=HH.out.1.sz
 have hjl:=kS (L.map Prod.snd)
 have hje:=WH L
 have hst:ItB w0 m0 W6.heap.size b5 bb bi (.cells #[.int .i64 5, .string t, .string ⟨#[]⟩, .float .f64 0, .int .i64 0, .slice none 0 0] 57 (0,0)) (fun k=>91 :: jn ((L.map Prod.snd).take k)) W6.heap.size 0 W6 :=
  ⟨Nat.le_refl _,HR.out.2.1.trans (kB.mono HR.out.2.1.size),HH.out.2.2.below ((HR.out.2.1.trans (kB.mono HR.out.2.1.size)).mono HH.out.2.1),by rw [← hbie];exact hbi,(kB.block b5 (by omega)).trans HR.out.1.blk,
   ((HR.out.2.2.1.bound).chg (Chg.vL (S:=fun _=>False) kB) (fun h=>h) (fun _ _ h=>h)).mono (fun k hk=>by unfold okC;omega)⟩
 have hFE:=wZ t ⟨#[]⟩ 0 L (ItB w0 m0 W6.heap.size b5 bb bi (.cells #[.int .i64 5, .string t, .string ⟨#[]⟩, .float .f64 0, .int .i64 0, .slice none 0 0] 57 (0,0)) (fun k=>91 :: jn ((L.map Prod.snd).take k))) 48 #[.pointer (some ⟨bi,0,none⟩), .pointer (some ⟨bb,0,none⟩)] m0 W6 HH.out.1.sz HH.out.1.pos HH.out.1.head HH.out.1.os zJa
  (enters_of Tryz.func48 (by kernel_rfl) rfl) (ItB.iter hcap hst) (fun n k w1 kv str num ix ix2 ty str2 num2 hkv hIt hnw=>by
   have hkl:=(List.getElem?_eq_some_iff.1 hkv).1
   have hmem:=List.mem_of_getElem? hkv
   have hr:=(hmsz.2 kv hmem).2.1
   have hkm:(L.map Prod.snd)[k]?=some kv.2:=by rw [List.getElem?_map,hkv];rfl
   have hjt:=yD (L.map Prod.snd) (k+1)
   have hcnt:=uQ (L.map Prod.snd)
   rw [List.length_map] at hcnt
   exact zAu hcap hIt hnw (strOfNums kv.1) (strOfNums kv.2) str str2 num num2 3 ix ix2 ty (by rw [vV hr,JQ _ _ _ hkm];by_cases h0:k=0 <;> simp [h0]) zJb (by omega))
 unfold Rv at hFE
 rw [hbie]
 have HM:=Lib.hid (And.intro hmsz (And.intro hjl (And.intro hje hsz1)))
 clear hcap hst kB hbi hsz hbie hn hs5 hmsz hjl hje hsz1
 refine hFE.mono ?_
 rintro e w7 ⟨rfl,n,hIt⟩
 clear hFE
 have hX:(91 :: jn ((L.map Prod.snd).take L.length):List Int)=91 :: jn (L.map Prod.snd):=by rw [List.take_of_length_le (by simp)]
 have hb7:Bld bb w0.heap.size (fun k=>w0.heap.size≤k∧k≠bb) (91 :: jn (L.map Prod.snd)) w7:=by
  have:=hIt.bld.mono (ok':=fun k=>w0.heap.size≤k∧k≠bb) (fun k hk=>⟨hk.1,hk.2.2.1⟩)
  rw [hX] at this
  exact this
 have hlow:=hIt.low
 have hm:=HM.out
 have hob:w0.heap.size≤bb:=by have:=HN.out;omega
 have hWB:=qL bb w0.heap.size (fun k=>w0.heap.size≤k∧k≠bb) (91 :: jn (L.map Prod.snd)) 93 w7 hb7 (fun k hk=>hk) (fun k hk=>by have:=hb7.lt;have:=hlow.size;omega) hob zJb
 have HWB:=Lib.hid hWB
 have HL:=Lib.hid hlow
 clear hWB hlow hm hb7 hIt hX
 go_wp2_with fail
 refine HWB.out.mono ?_
 rintro e w8 ⟨rfl,hb8,hg8⟩
 have hrg:Rng ((91 :: jn (L.map Prod.snd)) ++ [93]):=(Rng.cons (by decide) (V8 (fun x hx=>by obtain⟨kv,hkv,rfl⟩:=List.mem_map.mp hx;exact(HM.out.1.2 kv hkv).2.1))).app (Rng.cons (by decide) Rng.nil)
 have HS:=Lib.hid (uL bb w0.heap.size (fun k=>w0.heap.size≤k∧k≠bb) ((91 :: jn (L.map Prod.snd)) ++ [93]) w8 hb8 (fun k hk=>hk) hob (by simp) hrg)
 have HG:=Lib.hid (HL.out.trans (hg8.below HL.out.size (fun k hk=>by unfold BS at hk;omega)))
 clear hb8 hg8 hrg
 go_wp2_with fail
 refine HS.out.mono ?_
 rintro e w9 ⟨rfl,hB9⟩
 have HG9:=Lib.hid (HG.out.trans hB9)
 clear hB9
 go_wp2_with fail
 go_ret
 exact⟨rfl,HG9.out⟩
end Go.Proofs.YtljhmnnhfnmhmaaGreatDoor.M
namespace Go.Proofs.YtljhmnnhfnmhmaaGreatDoor.M
open Go Go.RowKit Go.Lib Go.Proofs.YtljhmnnhfnmhmaaGreatDoorW.PrintWords Go.Proofs.YtljhmnnhfnmhmaaGreatDoorW.PrintLast Go.Proofs.YtljhmnnhfnmhmaaGreatDoorW.PrintMore
attribute [local go_sem] xL
end Go.Proofs.YtljhmnnhfnmhmaaGreatDoor.M
namespace Go.Proofs.YtljhmnnhfnmhmaaGreatDoor.M
open Go Go.RowKit Go.Lib Go.Proofs.YtljhmnnhfnmhmaaGreatDoorW.PrintWords Go.Proofs.YtljhmnnhfnmhmaaGreatDoorW.PrintLast Go.Proofs.YtljhmnnhfnmhmaaGreatDoorW.PrintMore
attribute [local go_sem] xL
end Go.Proofs.YtljhmnnhfnmhmaaGreatDoor.M
namespace Go.Proofs.YtljhmnnhfnmhmaaGreatDoor.M
open Go Go.RowKit Go.Proofs.YtljhmnnhfnmhmaaGreatDoorW.PrintWords Go.Proofs.YtljhmnnhfnmhmaaGreatDoor.G
section
variable (t:ByteArray) (L:List (List Int × List Int)) (m0:Nat) (h:OT t L) (hs:t.size≤65536)
include h hs
theorem XN:msz L≤65536∧∀ kv ∈ L,Rng kv.1∧Rng kv.2∧Qt kv.1∧Vl kv.2:=by
 have:=h.os.facts
 exact⟨by omega,this.2⟩
theorem ZQ:esz (L.map Prod.snd)≤65536∧(∀ v ∈ L.map Prod.snd,Rng v)∧∀ v ∈ L.map Prod.snd,Vl v:=by
 obtain⟨h1,h2⟩:=XN t L h hs
 have h3:=WH L
 refine⟨by omega,fun v hv=>?_,fun v hv=>?_⟩
 ·
  obtain⟨kv,hkv,rfl⟩:=List.mem_map.1 hv
  exact(h2 kv hkv).2.1
 ·
  obtain⟨kv,hkv,rfl⟩:=List.mem_map.1 hv
  exact(h2 kv hkv).2.2.2
theorem zDi:AT2 (strOfNums (bx (L.map Prod.snd))) (L.map Prod.snd):=by
 obtain⟨h1,h2,h3⟩:=ZQ t L h hs
 exact zJe h3 h2 (by omega)
variable (w:World) (hm:m0≤w.heap.size) (hT:Tb m0 w)
include hm hT
theorem zFp:Calls Tryz.prog 8 #[.string t] w (yR (strOfNums (bx (L.map Prod.snd))) w):=XJ _ _ _ (uT t ⟨#[]⟩ L m0 w h hm hT)
end
end Go.Proofs.YtljhmnnhfnmhmaaGreatDoor.M
