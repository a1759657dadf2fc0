/-
Lemmas of this claim; made short by a program of this work.
-/
import Derived.Test.YtljhmnnhfnmhmaaGreatDoorUM46
import Derived.Test.YtljhmnnhfnmhmaaGreatDoorUM41
import Derived.Test.YtljhmnnhfnmhmaaGreatDoorUM0
import Derived.Test.YtljhmnnhfnmhmaaGreatDoorUM32
import Derived.Test.YtljhmnnhfnmhmaaGreatDoorUGx12
set_option linter.unusedVariables false
set_option linter.unusedSimpArgs false
set_option maxHeartbeats 8000000
set_option maxRecDepth 100000
namespace Go.Proofs.YtljhmnnhfnmhmaaGreatDoor.M
open Go Go.RowKit Go.Lib Go.Proofs.YtljhmnnhfnmhmaaGreatDoorW.PrintWords Go.Proofs.YtljhmnnhfnmhmaaGreatDoorW.PrintLast Go.Proofs.YtljhmnnhfnmhmaaGreatDoorW.PrintMore
attribute [local go_sem] xL
structure ItF (w0:World) (m0 B bd bi bo:Nat) (X:Nat→List Int) (I:Nat→Nat) (n k:Nat) (w:World):Prop where
 nb:B≤n
 low:Below w0.heap.size w0 w
 tab:Tb m0 w
 dp:w.heap[bd]?=some (.cells #[.bool false] 4 (0,0))
 cnt:w.heap[bi]?=some (.cells #[.int .i64 (I k:Int)] 3 (0,0))
 row:∃ v,w.heap[bo]?=some (.cells #[v] 63 (0,0))∧Kd.R (Kd.int .u8) 5 w w0.heap.size (okC w0.heap.size B n bd bi bo) v (X k)
structure zH9 (w0:World) (m0 B bd bi bo:Nat):Prop where
 m:m0≤w0.heap.size
 d1:w0.heap.size≤bd
 d2:bd < B
 i1:w0.heap.size≤bi
 i2:bi < B
 o1:w0.heap.size≤bo
 o2:bo < B
 n1:bd≠bi
 n2:bd≠bo
 n3:bi≠bo
theorem ItF.XM {w0:World} {m0 B bd bi bo:Nat} {X:Nat→List Int} {I:Nat→Nat} (hc:zH9 w0 m0 B bd bi bo):∀ n k w1 w2,ItF w0 m0 B bd bi bo X I n k w1→Chg (fun b=>B≤b∧b < n) w1 w2→ItF w0 m0 B bd bi bo X I n k w2:=by
 intro n k w1 w2 h hg
 have hb:Below w0.heap.size w1 w2:=hg.below h.low.size (fun k hk=>by have:=hc.d1;have:=hc.d2;omega)
 obtain⟨v,h1,h2⟩:=h.row
 exact⟨h.nb,h.low.trans hb,h.tab.below (hb.mono hc.m),hg.heap h.dp (by have:=hc.d2;omega),hg.heap h.cnt (by have:=hc.i2;omega),v,hg.heap h1 (by have:=hc.o2;omega),Kd.wS h2 (fun k ho hk=>hg.block k hk (by unfold okC at ho;omega))⟩
theorem ItF.iter {w0 w:World} {m0 bd bi bo:Nat} {X:Nat→List Int} {I:Nat→Nat} (hc:zH9 w0 m0 w.heap.size bd bi bo) (h:ItF w0 m0 w.heap.size bd bi bo X I w.heap.size 0 w):Iter w.heap.size m0 (ItF w0 m0 w.heap.size bd bi bo X I) w where
 start:=fun n hn=>by
  obtain⟨v,h1,h2⟩:=h.row
  exact⟨hn,h.low,h.tab,h.dp,h.cnt,v,h1,Kd.xG (Kd.jK h2) (fun k hk=>by have:=hk.1;have:=hk.2.2.1;unfold okC at *;omega)⟩
 XM:=ItF.XM hc
 tab:=fun n k w1 h=>h.tab
theorem ItF.same {w0:World} {m0 B bd bi bo:Nat} {X:Nat→List Int} {I:Nat→Nat} (hc:zH9 w0 m0 B bd bi bo) {n k:Nat} {w w2:World} (h:ItF w0 m0 B bd bi bo X I n k w) (hb:Below w.heap.size w w2) (hX:X (k+1)=X k) (hI:I (k+1)=I k) :
  ItF w0 m0 B bd bi bo X I n (k+1) w2∧Chg (fun b=>¬ (B≤b∧b < n)) w w2:=by
 obtain⟨v,h1,h2⟩:=h.row
 have hbl:=hb.mono h.low.size
 exact⟨⟨h.nb,h.low.trans hbl,h.tab.below (hbl.mono hc.m),xF h.dp hb,by rw [hI];exact xF h.cnt hb,v,xF h1 hb,by rw [hX];exact Kd.vS h2 hb⟩,Chg.vL hb⟩
theorem ItF.step {w0:World} {m0 B bd bi bo:Nat} {X:Nat→List Int} {I:Nat→Nat} (hc:zH9 w0 m0 B bd bi bo) {n k:Nat} {w w2:World} {v:Value} (h:ItF w0 m0 B bd bi bo X I n k w) (hg:Chg (fun b=>okC w0.heap.size B n bd bi bo b∨b=bo) w w2)
  (h1:w2.heap[bo]?=some (.cells #[v] 63 (0,0))) (hr:Kd.R (Kd.int .u8) 5 w2 w0.heap.size (okC w0.heap.size B n bd bi bo) v (X (k+1))) (hI:(I (k+1):Int)=(I k:Int)+1) :
  ItF w0 m0 B bd bi bo X I n (k+1) (w2.setCell ⟨bi,0,none⟩ (.int .i64 ((I k:Int)+1)))∧Chg (fun b=>¬ (B≤b∧b < n)) w (w2.setCell ⟨bi,0,none⟩ (.int .i64 ((I k:Int)+1))):=by
 have hd1:=hc.d1
 have hd2:=hc.d2
 have hi1:=hc.i1
 have hi2:=hc.i2
 have ho1:=hc.o1
 have ho2:=hc.o2
 have n1:=hc.n1
 have n2:=hc.n2
 have n3:=hc.n3
 have hgl:Below w0.heap.size w w2:=hg.below h.low.size (fun k hk=>by unfold okC at hk;omega)
 refine⟨⟨h.nb,(h.low.trans hgl).setCell (p:=⟨bi,0,none⟩) hi1 _,h.tab.below ((hgl.mono hc.m).setCell (p:=⟨bi,0,none⟩) (by have:=hc.m;show m0≤bi;omega) _),?_,?_,v,?_,?_⟩,?_⟩
 ·
  exact(heap_setCell_other w2 ⟨bi,0,none⟩ bd _ n1).trans (hg.heap h.dp (by unfold okC;omega))
 ·
  rw [hI]
  exact heap_setCell_same w2 bi 0 _ 3 (.int .i64 ((I k:Int)+1)) (hg.heap h.cnt (by unfold okC;omega))
 ·
  exact(heap_setCell_other w2 ⟨bi,0,none⟩ bo _ (Ne.symm n3)).trans h1
 ·
  exact Kd.vE hr (p:=⟨bi,0,none⟩) (fun k hk=>by unfold okC at hk;exact hk.2.2.1) _
 ·
  exact(hg.mono (fun k hk=>by unfold okC at hk;omega)).setCell ⟨bi,0,none⟩ (by show ¬ (B≤bi∧bi < n);omega) _
theorem X7.below {v:Value} {w w':World} {e:Ending} (h:X7 v w e w'):e = .returned v∧Below w.heap.size w w':=by
 obtain⟨h1,n,rfl⟩:=h
 exact⟨h1,zH (Below.refl _ _) n⟩
theorem zEa {w0:World} {m0 B bd ba bi bo:Nat} {X:Nat→List Int} {I:Nat→Nat} (hc:zH9 w0 m0 B bd bi bo) {n k:Nat} {w:World} (h:ItF w0 m0 B bd bi bo X I n k w) (hn:n≤w.heap.size) (kr str str2:ByteArray) (num num2:Nat) (tk ix ix2:Int)
  {v e wb w2:List Int} (hr:Rng v) (hvl:v.length≤1048576) (hv:v=91 :: (wb ++ (e ++ (w2 ++ [93])))) (hb:xV wb) (hb2:xV w2) (he:e=[]∨zGs e)
  (hX:X (k+1)=if e=[] then X k else (if I k=0 then X k else X k ++ [44]) ++ e) (hI:I (k+1)=if e=[] then I k else I k+1) (hl:(X (k+1)).length≤1048576) (hIk:I k≤1048576) :
  Calls Tryz.prog 60 #[Rv tk kr str num ix,Rv 5 (strOfNums v) str2 num2 ix2, .pointer (some ⟨bd,0,none⟩), .pointer (some ⟨ba,0,none⟩), .pointer (some ⟨bi,0,none⟩), .pointer (some ⟨bo,0,none⟩)] w
   (fun e w2=>e = .returned (.bool true)∧ItF w0 m0 B bd bi bo X I n (k+1) w2∧Chg (fun b=>¬ (B≤b∧b < n)) w w2):=by
 obtain⟨z2,zs,zb0,zb1,hT⟩:=zB6 hr hvl hv hb hb2 he
 have her:Rng e:=by rw [hv] at hr;exact fun z hz=>hr z (by simp [hz])
 have hes:(strOfNums e).size=e.length:=vO e
 have heb:bytesOf (strOfNums e)=e:=vV her
 generalize strOfNums v=raw at z2 zs zb0 zb1 hT ⊢
 have hpos:0 < raw.size:=by omega
 have HO:=Lib.hid (fun W=>uC raw str2 num2 ix2 W hpos zb0)
 have HU:=Lib.hid (fun W=>(zAs raw W z2 zs zb0 zb1).mono (fun e w' h=>h.below))
 have HZ:=Lib.hid (fun W=>(hT W).mono (fun e w' h=>h.below))
 generalize raw.extract 1 (raw.size - 1)=ins at HU HZ
 generalize hgs:strOfNums e=es at hes heb HZ
 clear hT z2 zs zb0 zb1 hr hvl hv hb hb2 he her hgs hpos
 unfold zIa Rv at HO
 have HH:=Lib.hid (And.intro hc (And.intro h (And.intro hn (And.intro hX (And.intro hI (And.intro hl (And.intro hIk (And.intro hes heb))))))))
 clear hc h hn hX hI hl hIk hes heb
 unfold Rv
 go_enter Tryz.func60,Tryz.ntmps60
 go_wp2_with fail
 have hBW:Below w.heap.size w ((w.alloc (Obj.cells #[Value.int IntKind.i64 tk,Value.string kr,Value.string str,Value.float FloatKind.f64 num,Value.int IntKind.i64 ix,Value.slice none 0 0] 57)).alloc (Obj.cells #[Value.int IntKind.i64 5,Value.string raw,Value.string str2,Value.float FloatKind.f64 num2,Value.int IntKind.i64 ix2,Value.slice none 0 0] 57)):=zD (zD (Below.refl _ _) _) _
 have r2:Rs (w.heap.size+1) 5 raw str2 num2 ix2 ((w.alloc (Obj.cells #[Value.int IntKind.i64 tk,Value.string kr,Value.string str,Value.float FloatKind.f64 num,Value.int IntKind.i64 ix,Value.slice none 0 0] 57)).alloc (Obj.cells #[Value.int IntKind.i64 5,Value.string raw,Value.string str2,Value.float FloatKind.f64 num2,Value.int IntKind.i64 ix2,Value.slice none 0 0] 57)):=⟨by have:=vQ (w.alloc (Obj.cells #[Value.int IntKind.i64 tk,Value.string kr,Value.string str,Value.float FloatKind.f64 num,Value.int IntKind.i64 ix,Value.slice none 0 0] 57)) (Obj.cells #[Value.int IntKind.i64 5,Value.string raw,Value.string str2,Value.float FloatKind.f64 num2,Value.int IntKind.i64 ix2,Value.slice none 0 0] 57);rw [show (w.alloc (Obj.cells #[Value.int IntKind.i64 tk,Value.string kr,Value.string str,Value.float FloatKind.f64 num,Value.int IntKind.i64 ix,Value.slice none 0 0] 57)).heap.size=w.heap.size+1 by simp] at this;exact this⟩
 generalize hgw:((w.alloc (Obj.cells #[Value.int IntKind.i64 tk,Value.string kr,Value.string str,Value.float FloatKind.f64 num,Value.int IntKind.i64 ix,Value.slice none 0 0] 57)).alloc (Obj.cells #[Value.int IntKind.i64 5,Value.string raw,Value.string str2,Value.float FloatKind.f64 num2,Value.int IntKind.i64 ix2,Value.slice none 0 0] 57))=W0 at hBW r2 ⊢
 clear hgw
 refine(HO.out W0).mono ?_
 rintro e1 w1 ⟨rfl,hB1⟩
 have r21:=r2.below hB1
 have HB1:=Lib.hid (hBW.trans (hB1.mono hBW.size))
 obtain⟨c20,c21,c22,c23,c24,c25⟩:=r21.cells
 have hd:w1.cell? ⟨bd,0,none⟩=some (.bool false):=zB (xF HH.out.2.1.dp HB1.out) 0 _ rfl
 clear r2 r21 hBW hB1
 go_wp2_with fail
 refine(HU.out w1).mono ?_
 rintro e2 w2 ⟨rfl,hB2⟩
 have HB2:=Lib.hid (HB1.out.trans (hB2.mono HB1.out.size))
 clear hB2 HB1 c20 c21 c22 c23 c24 c25 hd
 go_wp2_with fail
 refine(HZ.out w2).mono ?_
 rintro e3 w3 ⟨rfl,hB3⟩
 have HB3:=Lib.hid (HB2.out.trans (hB3.mono HB2.out.size))
 clear hB3 HB2 HO HU HZ
 obtain⟨hc,h,hn,hX,hI,hl,hIk,hes,heb⟩:=HH.out
 by_cases he0:e=[]
 ·
  have hz:¬ (0:Int) < (es.size:Int):=by rw [hes,he0];simp
  rw [if_pos he0] at hX hI
  have HS:=Lib.hid (h.same hc HB3.out hX hI)
  clear hc h hn hX hI hl hIk hes heb he0 HH
  go_wp2_with fail
  go_ret
  exact⟨rfl,HS.out.1,HS.out.2⟩
 ·
  have hpe:0 < e.length:=List.length_pos_iff.mpr he0
  have hz:(0:Int) < (es.size:Int):=by rw [hes];omega
  rw [if_neg he0] at hX hI
  obtain⟨v0,hv1,hv2⟩:=h.row
  have d1:=hc.d1
  have d2:=hc.d2
  have i1:=hc.i1
  have i2:=hc.i2
  have o1:=hc.o1
  have o2:=hc.o2
  have n1:=hc.n1
  have n2:=hc.n2
  have n3:=hc.n3
  have hlo:=h.low.size
  have hnb:=h.nb
  have hsz3:=HB3.out.size
  have hHL:Below w0.heap.size w0 w3:=h.low.trans (HB3.out.mono hlo)
  have hrow:w3.heap[bo]?=some (.cells #[v0] 63 (0,0)):=xF hv1 HB3.out
  have hR:Kd.R (Kd.int .u8) 5 w3 w0.heap.size (okC w0.heap.size B n bd bi bo) v0 (X k):=Kd.vS hv2 HB3.out
  have hcn:w3.heap[bi]?=some (.cells #[.int .i64 (I k:Int)] 3 (0,0)):=xF h.cnt HB3.out
  have hF:∀ k,w3.heap.size≤k→okC w0.heap.size B n bd bi bo k:=fun k hk=>by unfold okC;omega
  have hlen:(X k).length+1+es.size≤1048577:=by
   rw [hX,List.length_append] at hl
   split at hl
   ·
    omega
   ·
    rw [List.length_append] at hl;simp at hl;omega
  have hch0:Chg (fun b=>okC w0.heap.size B n bd bi bo b∨b=bo) w w3:=Chg.vL HB3.out
  have cI:w3.cell? ⟨bi,0,none⟩=some (.int .i64 (I k:Int)):=zB hcn 0 _ rfl
  have cV:w3.cell? ⟨bo,0,none⟩=some v0:=zB hrow 0 _ rfl
  have fV:w3.frozen? ⟨bo,0,none⟩=false:=zC hrow _
  have HC:=Lib.hid (And.intro hc (And.intro h (And.intro hX (And.intro hI (And.intro heb hpe)))))
  have HN:=Lib.hid (show bd≠bi∧bd≠bo∧bi≠bo∧w0.heap.size≤bo∧w0.heap.size≤bi∧bo < w3.heap.size∧bi < w3.heap.size∧w0.heap.size≤w3.heap.size from ⟨n1,n2,n3,o1,i1,xW hrow,xW hcn,hHL.size⟩)
  have HF:=Lib.hid hF
  have HR:=Lib.hid (And.intro hHL (And.intro hR (And.intro hrow (And.intro hcn hch0))))
  have HQ:=Lib.hid (And.intro hlen hIk)
  clear hc h hn hX hI hl hIk hes heb he0 HH HB3 hpe hv1 hv2 d1 d2 i1 i2 o1 o2 n1 n2 n3 hlo hnb hsz3 hHL hrow hR hcn hF hlen hch0
  by_cases hi0:I k=0
  ·
   have hip:¬ (0:Int) < (I k:Int):=by omega
   go_wp2_with (at_builtin;refine Own.y7 (w0:=w0) w0.heap.size rfl _ _ 63 9 5 rfl Tryz.underlying63 Tryz.underlying9 G.kK v0 (X k) es (okC w0.heap.size B n bd bi bo) rfl rfl HF.out HR.out.2.1 HR.out.1 HN.out.2.2.2.2.2.2.2 (by have:=HQ.out.1;omega) ?_)
   intro v1 w4 hr hb4 hg hat
   have hr2:=HR.out.2.1
   have hbo4:w4.heap[bo]?=some (.cells #[v0] 63 (0,0)):=(hg.block bo HN.out.2.2.2.2.2.1 (fun e=>by have:=hr2.1 bo e.symm;unfold okC at this;omega)).trans HR.out.2.2.1
   have hbi4:w4.heap[bi]?=some (.cells #[.int .i64 (I k:Int)] 3 (0,0)):=(hg.block bi HN.out.2.2.2.2.2.2.1 (fun e=>by have:=hr2.1 bi e.symm;unfold okC at this;omega)).trans HR.out.2.2.2.1
   have hch4:Chg (fun b=>okC w0.heap.size B n bd bi bo b∨b=bo) w w4:=HR.out.2.2.2.2.trans (Chg.grown hg (fun k hk => .inl (hr2.1 k hk)))
   obtain⟨g,cap,hv1,_⟩:=Kd.uG hr (by simp only [List.length_append];have:=HC.out.2.2.2.2.1;have:=HC.out.2.2.2.2.2;rw [HC.out.2.2.2.2.1];omega)
   subst hv1
   generalize hgl:(X k ++ bytesOf es).length=nn at hr ⊢
   have d1:w4.cell? ⟨bo,0,none⟩=some v0:=zB hbo4 0 _ rfl
   have f1:w4.frozen? ⟨bo,0,none⟩=false:=zC hbo4 _
   have hXk:X (k+1)=X k ++ bytesOf es:=by rw [HC.out.2.2.1,if_pos hi0,HC.out.2.2.2.2.1]
   have hr5:Kd.R (Kd.int .u8) 5 (w4.setCell ⟨bo,0,none⟩ (.slice (some ⟨g,0,none⟩) nn cap)) w0.heap.size (okC w0.heap.size B n bd bi bo) (.slice (some ⟨g,0,none⟩) nn cap) (X (k+1)):=by
    rw [hXk]
    exact Kd.vE hr (p:=⟨bo,0,none⟩) (fun k hk=>by unfold okC at hk;exact hk.2.2.2.1) _
   have h5:=heap_setCell_same w4 bo 0 _ 63 (.slice (some ⟨g,0,none⟩) nn cap) hbo4
   have h5i:(w4.setCell ⟨bo,0,none⟩ (.slice (some ⟨g,0,none⟩) nn cap)).heap[bi]?=some (.cells #[.int .i64 (I k:Int)] 3 (0,0)):=(heap_setCell_other w4 ⟨bo,0,none⟩ bi _ HN.out.2.2.1).trans hbi4
   have HS:=Lib.hid (HC.out.2.1.step HC.out.1 (hch4.setCell ⟨bo,0,none⟩ (.inr rfl) _) h5 hr5 (by rw [HC.out.2.2.2.1];simp))
   have cI5:(w4.setCell ⟨bo,0,none⟩ (.slice (some ⟨g,0,none⟩) nn cap)).cell? ⟨bi,0,none⟩=some (.int .i64 (I k:Int)):=zB h5i 0 _ rfl
   have fI5:(w4.setCell ⟨bo,0,none⟩ (.slice (some ⟨g,0,none⟩) nn cap)).frozen? ⟨bi,0,none⟩=false:=zC h5i _
   have HIk:=Lib.hid HQ.out.2
   clear hr hb4 hg hat hr2 hbo4 hbi4 hch4 hgl hXk hr5 h5 h5i cI cV fV hip hi0
   have hik:I k≤1048576:=HIk.out
   go_wp2_with fail
   go_ret
   exact⟨rfl,HS.out.1,HS.out.2⟩
  ·
   have hip:(0:Int) < (I k:Int):=by omega
   go_wp2_with (at_builtin;refine Kd.qE (Kd.int .u8) (w0:=w0) w0.heap.size rfl _ _ 63 5 (.int .u8 0) 1 rfl Tryz.underlying63 G.kK rfl (by decide) (by omega) v0 (X k) 44 [.int .u8 44] (okC w0.heap.size B n bd bi bo) (fun _=>False) rfl rfl rfl (fun _ hk=>hk.elim) HF.out HR.out.2.1 HR.out.1 HN.out.2.2.2.2.2.2.2 (by have:=HQ.out.1;omega) ?_)
   intro v1 w4 hr hb4 hg hat
   have hr2:=HR.out.2.1
   have hbo4:w4.heap[bo]?=some (.cells #[v0] 63 (0,0)):=(hg.block bo HN.out.2.2.2.2.2.1 (fun e=>by have:=hr2.1 bo e.symm;unfold okC at this;omega)).trans HR.out.2.2.1
   have hbi4:w4.heap[bi]?=some (.cells #[.int .i64 (I k:Int)] 3 (0,0)):=(hg.block bi HN.out.2.2.2.2.2.2.1 (fun e=>by have:=hr2.1 bi e.symm;unfold okC at this;omega)).trans HR.out.2.2.2.1
   have hch4:Chg (fun b=>okC w0.heap.size B n bd bi bo b∨b=bo) w w4:=HR.out.2.2.2.2.trans (Chg.grown hg (fun k hk => .inl (hr2.1 k hk)))
   have hsz4:w3.heap.size≤w4.heap.size:=hg.size
   obtain⟨g,cap,hv1,_⟩:=Kd.uG hr (by simp)
   subst hv1
   generalize hgl:(X k ++ [44]).length=nn at hr ⊢
   have d1:w4.cell? ⟨bo,0,none⟩=some v0:=zB hbo4 0 _ rfl
   have f1:w4.frozen? ⟨bo,0,none⟩=false:=zC hbo4 _
   have hr5:Kd.R (Kd.int .u8) 5 (w4.setCell ⟨bo,0,none⟩ (.slice (some ⟨g,0,none⟩) nn cap)) w0.heap.size (okC w0.heap.size B n bd bi bo) (.slice (some ⟨g,0,none⟩) nn cap) (X k ++ [44]) :=
    Kd.vE hr (p:=⟨bo,0,none⟩) (fun k hk=>by unfold okC at hk;exact hk.2.2.2.1) _
   have h5:=heap_setCell_same w4 bo 0 _ 63 (.slice (some ⟨g,0,none⟩) nn cap) hbo4
   have h5i:(w4.setCell ⟨bo,0,none⟩ (.slice (some ⟨g,0,none⟩) nn cap)).heap[bi]?=some (.cells #[.int .i64 (I k:Int)] 3 (0,0)):=(heap_setCell_other w4 ⟨bo,0,none⟩ bi _ HN.out.2.2.1).trans hbi4
   have hb5:Below w0.heap.size w0 (w4.setCell ⟨bo,0,none⟩ (.slice (some ⟨g,0,none⟩) nn cap)):=hb4.setCell (p:=⟨bo,0,none⟩) HN.out.2.2.2.1 _
   have hch5:=hch4.setCell ⟨bo,0,none⟩ (.inr rfl) (.slice (some ⟨g,0,none⟩) nn cap)
   have hsz5:w3.heap.size≤(w4.setCell ⟨bo,0,none⟩ (.slice (some ⟨g,0,none⟩) nn cap)).heap.size:=by simp [World.setCell];exact hsz4
   have d5:(w4.setCell ⟨bo,0,none⟩ (.slice (some ⟨g,0,none⟩) nn cap)).cell? ⟨bo,0,none⟩=some (.slice (some ⟨g,0,none⟩) nn cap):=zB h5 0 _ rfl
   have hX5:(X k ++ [44]).length+es.size≤140737488355328:=by have:=HQ.out.1;simp only [List.length_append,List.length_cons,List.length_nil];omega
   have H5:=Lib.hid (And.intro hr5 (And.intro hb5 (And.intro hch5 (And.intro hsz5 (And.intro h5 (And.intro h5i hX5))))))
   clear hr hb4 hg hat hr2 hbo4 hbi4 hch4 hgl hr5 h5 h5i hb5 hch5 hsz5 hsz4 hX5 cI cV fV hip
   go_wp2_with (at_builtin;refine Own.y7 (w0:=w0) w0.heap.size rfl _ _ 63 9 5 rfl Tryz.underlying63 Tryz.underlying9 G.kK (.slice (some ⟨g,0,none⟩) nn cap) (X k ++ [44]) es (okC w0.heap.size B n bd bi bo) rfl rfl (fun k hk=>HF.out k (Nat.le_trans H5.out.2.2.2.1 hk)) H5.out.1 H5.out.2.1 (Nat.le_trans HN.out.2.2.2.2.2.2.2 H5.out.2.2.2.1) H5.out.2.2.2.2.2.2 ?_)
   intro v2 w6 hr6 hb6 hg6 hat6
   have hr2:=H5.out.1
   have hbo6:w6.heap[bo]?=some (.cells #[(.slice (some ⟨g,0,none⟩) nn cap)] 63 (0,0)):=(hg6.block bo (xW H5.out.2.2.2.2.1) (fun e=>by have:=hr2.1 bo e.symm;unfold okC at this;omega)).trans H5.out.2.2.2.2.1
   have hbi6:w6.heap[bi]?=some (.cells #[.int .i64 (I k:Int)] 3 (0,0)):=(hg6.block bi (xW H5.out.2.2.2.2.2.1) (fun e=>by have:=hr2.1 bi e.symm;unfold okC at this;omega)).trans H5.out.2.2.2.2.2.1
   have hch6:Chg (fun b=>okC w0.heap.size B n bd bi bo b∨b=bo) w w6:=H5.out.2.2.1.trans (Chg.grown hg6 (fun k hk => .inl (hr2.1 k hk)))
   obtain⟨g2,cap2,hv2,_⟩:=Kd.uG hr6 (by simp only [List.length_append,List.length_cons];omega)
   subst hv2
   have hXk:X (k+1)=X k ++ 44 :: bytesOf es:=by rw [HC.out.2.2.1,if_neg hi0,HC.out.2.2.2.2.1];simp
   generalize hgl:(X k ++ 44 :: bytesOf es).length=n2 at hr6 ⊢
   have d6:w6.cell? ⟨bo,0,none⟩=some (.slice (some ⟨g,0,none⟩) nn cap):=zB hbo6 0 _ rfl
   have f6:w6.frozen? ⟨bo,0,none⟩=false:=zC hbo6 _
   have hr7:Kd.R (Kd.int .u8) 5 (w6.setCell ⟨bo,0,none⟩ (.slice (some ⟨g2,0,none⟩) n2 cap2)) w0.heap.size (okC w0.heap.size B n bd bi bo) (.slice (some ⟨g2,0,none⟩) n2 cap2) (X (k+1)):=by
    rw [hXk]
    exact Kd.vE hr6 (p:=⟨bo,0,none⟩) (fun k hk=>by unfold okC at hk;exact hk.2.2.2.1) _
   have h7:=heap_setCell_same w6 bo 0 _ 63 (.slice (some ⟨g2,0,none⟩) n2 cap2) hbo6
   have h7i:(w6.setCell ⟨bo,0,none⟩ (.slice (some ⟨g2,0,none⟩) n2 cap2)).heap[bi]?=some (.cells #[.int .i64 (I k:Int)] 3 (0,0)):=(heap_setCell_other w6 ⟨bo,0,none⟩ bi _ HN.out.2.2.1).trans hbi6
   have HS:=Lib.hid (HC.out.2.1.step HC.out.1 (hch6.setCell ⟨bo,0,none⟩ (.inr rfl) _) h7 hr7 (by rw [HC.out.2.2.2.1];simp))
   have cI7:(w6.setCell ⟨bo,0,none⟩ (.slice (some ⟨g2,0,none⟩) n2 cap2)).cell? ⟨bi,0,none⟩=some (.int .i64 (I k:Int)):=zB h7i 0 _ rfl
   have fI7:(w6.setCell ⟨bo,0,none⟩ (.slice (some ⟨g2,0,none⟩) n2 cap2)).frozen? ⟨bi,0,none⟩=false:=zC h7i _
   have hik:I k≤1048576:=HQ.out.2
   clear hr6 hb6 hg6 hat6 hr2 hbo6 hbi6 hch6 hgl hXk hr7 h7 h7i hi0 d5 d1 f1
   go_wp2_with fail
   go_ret
   exact⟨rfl,HS.out.1,HS.out.2⟩
end Go.Proofs.YtljhmnnhfnmhmaaGreatDoor.M
set_option maxHeartbeats 8000000
set_option maxRecDepth 100000
namespace Go.Proofs.YtljhmnnhfnmhmaaGreatDoor.M
open Go Go.RowKit Go.Lib Go.Proofs.YtljhmnnhfnmhmaaGreatDoorW.PrintWords Go.Proofs.YtljhmnnhfnmhmaaGreatDoorW.PrintLast Go.Proofs.YtljhmnnhfnmhmaaGreatDoorW.PrintMore
attribute [local go_sem] xL
theorem zEv:(⟨#[]⟩:ByteArray).toList.isEmpty=true:=by rw [ByteArray.toList_eq];rfl
theorem KC (v:List Int) {e wb w2:List Int} (hv:v=91 :: (wb ++ (e ++ (w2 ++ [93])))):zGe v:=⟨_, .inl hv⟩
theorem zG2 {l:List (List Int)} {v:List Int} (h:v ∈ l):v.length≤esz l:=by
 induction l with
 | nil=>cases h
 | cons x l ih =>
  rcases List.mem_cons.1 h with rfl|h
  ·
   simp only [esz];omega
  ·
   have:=ih h;simp only [esz];omega
theorem zEc (Es:List (List Int)) (k:Nat) (e:List Int) (h:Es[k]?=some e) :
  (91 :: jn (flt (Es.take (k+1))):List Int)=(if e=[] then 91 :: jn (flt (Es.take k)) else (if (flt (Es.take k)).length=0 then 91 :: jn (flt (Es.take k)) else (91 :: jn (flt (Es.take k))) ++ [44]) ++ e) ∧
  (flt (Es.take (k+1))).length=(if e=[] then (flt (Es.take k)).length else (flt (Es.take k)).length+1):=by
 rw [zEd Es k e h]
 by_cases he:e=[]
 ·
  simp only [if_pos he,and_self]
 ·
  simp only [if_neg he]
  by_cases hl:flt (Es.take k)=[]
  ·
   rw [hl]
   simp [jn,jt]
  ·
   have hl2:¬ (flt (Es.take k)).length=0:=fun h0=>hl (List.length_eq_zero_iff.1 h0)
   rw [if_neg hl2,zCc _ _ hl]
   simp
theorem VG (t:ByteArray) (L Es:List (List Int)) (ns:List G.S25) (m0:Nat) (w0:World) (h:AT2 t L) (hC:kY L Es ns) (hm:m0≤w0.heap.size) (hT:Tb m0 w0) :
  Calls Tryz.prog 31 #[.string t, .string ⟨#[]⟩] w0 (fun e w'=>e = .returned (.string (strOfNums (bx (flt Es))))∧Below w0.heap.size w0 w'):=by
 have hP:=fun w=>YF t w h.pos h.sz h.head
 have hO:=fun w=>uC t ⟨#[]⟩ 0 0 w h.pos h.head
 unfold zGo Rv at hP
 unfold zIa Rv at hO
 have HP:=Lib.hid hP
 have HO:=Lib.hid hO
 have HH:=Lib.hid (And.intro h (And.intro hm (And.intro hT hC)))
 have hne:=zEv
 clear hP hO h hm hT hC
 go_enter Tryz.func31,Tryz.ntmps31
 go_wp2_with fail
 refine(HP.out _).mono ?_
 rintro e w1 ⟨rfl,hB1⟩
 have lB1:Below w0.heap.size w0 w1:=(zD (Below.refl _ _) _).trans (hB1.mono (by simp))
 have ha1:w1.heap[w0.heap.size]?=some (.cells #[.string ⟨#[]⟩] 9 (0,0)):=xF (vQ w0 _) hB1
 have hlt1:=xW ha1
 clear hB1
 have HA:=Lib.hid (And.intro lB1 (And.intro ha1 hlt1))
 clear lB1 ha1 hlt1
 go_wp2_with fail
 refine(HO.out _).mono ?_
 rintro e w2 ⟨rfl,hB2⟩
 have r5:Rs w1.heap.size 5 t ⟨#[]⟩ 0 0 w2:=⟨xF (vQ w1 _) hB2⟩
 have hB12:Below w1.heap.size w1 w2:=(zD (Below.refl _ _) _).trans (hB2.mono (by simp))
 have l2:Below w0.heap.size w0 w2:=HA.out.1.trans (hB12.mono HA.out.1.size)
 have ha2:w2.heap[w0.heap.size]?=some (.cells #[.string ⟨#[]⟩] 9 (0,0)):=xF HA.out.2.1 hB12
 have hlt2:w1.heap.size < w2.heap.size:=xW r5.blk
 have hlt1:=HA.out.2.2
 have cA:(w2.alloc (Obj.cells #[Value.bool false] 4)).cell? ⟨w0.heap.size,0,none⟩=some (.string ⟨#[]⟩):=zB (zF ha2 _) 0 _ rfl
 have hE:w2.heap.size+1+1=((w2.alloc (Obj.cells #[Value.bool false] 4)).alloc (Obj.cells #[Value.slice none 0 0] 63)).heap.size:=by simp
 have hbd:((w2.alloc (Obj.cells #[Value.bool false] 4)).alloc (Obj.cells #[Value.slice none 0 0] 63)).heap[w2.heap.size]?=some (.cells #[.bool false] 4 (0,0)):=zF (vQ w2 _) _
 have hbo:((w2.alloc (Obj.cells #[Value.bool false] 4)).alloc (Obj.cells #[Value.slice none 0 0] 63)).heap[w2.heap.size+1]?=some (.cells #[.slice none 0 0] 63 (0,0)):=by have:=vQ (w2.alloc (Obj.cells #[Value.bool false] 4)) (Obj.cells #[Value.slice none 0 0] 63);rw [show (w2.alloc (Obj.cells #[Value.bool false] 4)).heap.size=w2.heap.size+1 by simp] at this;exact this
 have hLB:Below w0.heap.size w0 ((w2.alloc (Obj.cells #[Value.bool false] 4)).alloc (Obj.cells #[Value.slice none 0 0] 63)):=l2.trans ((zD (zD (Below.refl w2.heap.size w2) _) _).mono l2.size)
 have r5b:Rs w1.heap.size 5 t ⟨#[]⟩ 0 0 ((w2.alloc (Obj.cells #[Value.bool false] 4)).alloc (Obj.cells #[Value.slice none 0 0] 63)):=⟨zF (zF r5.blk _) _⟩
 have HE:=Lib.hid hE
 have HB:=Lib.hid (And.intro hbd (And.intro hbo (And.intro hLB r5b)))
 have HL:=Lib.hid (show w0.heap.size < w1.heap.size∧w1.heap.size < w2.heap.size from ⟨hlt1,hlt2⟩)
 clear hE hbd hbo hLB r5b r5 hB12 l2 ha2 hlt2 hlt1 hB2 HA
 go_wp2_with (at_builtin;rw [HE.out];refine Kd.qE (Kd.int .u8) (w0:=w0) w0.heap.size rfl _ _ 63 5 (.int .u8 0) 1 rfl Tryz.underlying63 G.kK rfl (by decide) (by omega) (.slice none 0 0) [] 91 [.int .u8 91] (fun k=>w0.heap.size≤k∧k≠w2.heap.size∧k≠w2.heap.size+1) (fun _=>False) rfl rfl rfl (fun _ hk=>hk.elim) (fun k hk=>by have:=HL.out;have:=HE.out;omega) (Kd.ZJ _ _ _ _ _) HB.out.2.2.1 (by have:=HL.out;have:=HE.out;omega) (by decide) ?_)
 intro v1 w3 hr hb3 hg hat
 have hown:∀ k:Nat,some k≠(Value.slice none 0 0).ownBlock:=fun k=>by simp [Value.ownBlock]
 have hszB:w2.heap.size+1+1≤w3.heap.size:=by have:=hg.size;have:=HE.out;omega
 have hbd3:w3.heap[w2.heap.size]?=some (.cells #[.bool false] 4 (0,0)):=(hg.block _ (xW HB.out.1) (hown _)).trans HB.out.1
 have hbo3:w3.heap[w2.heap.size+1]?=some (.cells #[.slice none 0 0] 63 (0,0)):=(hg.block _ (xW HB.out.2.1) (hown _)).trans HB.out.2.1
 have r53:Rs w1.heap.size 5 t ⟨#[]⟩ 0 0 w3:=⟨(hg.block _ (xW HB.out.2.2.2.blk) (hown _)).trans HB.out.2.2.2.blk⟩
 obtain⟨g,cap,hv1,_⟩:=Kd.uG hr (by simp)
 have hv1':v1=(.slice (some ⟨g,0,none⟩) 1 cap):=hv1
 clear hv1
 subst hv1'
 have hl:=HL.out
 obtain⟨bo,hbo⟩:∃ b,w2.heap.size+1=b:=⟨_,rfl⟩
 rw [hbo] at hbo3 hr hszB ⊢
 obtain⟨bd,hbd⟩:∃ b,w2.heap.size=b:=⟨_,rfl⟩
 rw [hbd] at hbd3 hr hbo hl ⊢
 obtain⟨b5,hb5⟩:∃ b,w1.heap.size=b:=⟨_,rfl⟩
 rw [hb5] at r53 hl ⊢
 have cO:w3.cell? ⟨bo,0,none⟩=some (.slice none 0 0):=zB hbo3 0 _ rfl
 have fO:w3.frozen? ⟨bo,0,none⟩=false:=zC hbo3 _
 have r54:Rs b5 5 t ⟨#[]⟩ 0 0 ((w3.setCell ⟨bo,0,none⟩ (.slice (some ⟨g,0,none⟩) 1 cap)).alloc (Obj.cells #[Value.int IntKind.i64 0] 3)):=⟨zF ((heap_setCell_other w3 ⟨bo,0,none⟩ b5 _ (by show b5≠bo;omega)).trans r53.blk) _⟩
 obtain⟨c50,c51,c52,c53,c54,c55⟩:=r54.cells
 have hsz5:((w3.setCell ⟨bo,0,none⟩ (.slice (some ⟨g,0,none⟩) 1 cap)).alloc (Obj.cells #[Value.int IntKind.i64 0] 3)).heap.size=w3.heap.size+1:=by simp [World.setCell]
 have hbi5:((w3.setCell ⟨bo,0,none⟩ (.slice (some ⟨g,0,none⟩) 1 cap)).alloc (Obj.cells #[Value.int IntKind.i64 0] 3)).heap[w3.heap.size]?=some (.cells #[.int .i64 0] 3 (0,0)):=by have:=vQ (w3.setCell ⟨bo,0,none⟩ (.slice (some ⟨g,0,none⟩) 1 cap)) (Obj.cells #[Value.int IntKind.i64 0] 3);rw [show (w3.setCell ⟨bo,0,none⟩ (.slice (some ⟨g,0,none⟩) 1 cap)).heap.size=w3.heap.size by simp [World.setCell]] at this;exact this
 have hbd5:((w3.setCell ⟨bo,0,none⟩ (.slice (some ⟨g,0,none⟩) 1 cap)).alloc (Obj.cells #[Value.int IntKind.i64 0] 3)).heap[bd]?=some (.cells #[.bool false] 4 (0,0)):=zF ((heap_setCell_other w3 ⟨bo,0,none⟩ bd _ (by show bd≠bo;omega)).trans hbd3) _
 have hbo5:((w3.setCell ⟨bo,0,none⟩ (.slice (some ⟨g,0,none⟩) 1 cap)).alloc (Obj.cells #[Value.int IntKind.i64 0] 3)).heap[bo]?=some (.cells #[(.slice (some ⟨g,0,none⟩) 1 cap)] 63 (0,0)):=zF (heap_setCell_same w3 bo 0 _ 63 (.slice (some ⟨g,0,none⟩) 1 cap) hbo3) _
 have hlo5:Below w0.heap.size w0 ((w3.setCell ⟨bo,0,none⟩ (.slice (some ⟨g,0,none⟩) 1 cap)).alloc (Obj.cells #[Value.int IntKind.i64 0] 3)):=zD (hb3.setCell (p:=⟨bo,0,none⟩) (by show w0.heap.size≤bo;omega) _) _
 have hr5:Kd.R (Kd.int .u8) 5 ((w3.setCell ⟨bo,0,none⟩ (.slice (some ⟨g,0,none⟩) 1 cap)).alloc (Obj.cells #[Value.int IntKind.i64 0] 3)) w0.heap.size (fun k=>(w0.heap.size≤k∧k≠bd∧k≠bo)∧k < w3.heap.size) (.slice (some ⟨g,0,none⟩) 1 cap) [91]:=by
  refine Kd.xJ ?_ _
  refine Kd.vE (p:=⟨bo,0,none⟩) (Kd.xG (Kd.jK hr) (fun k hk=>⟨hk.1,hk.2.2.1⟩)) (fun k hk=>hk.1.2.2) _
 have HS5:=Lib.hid (And.intro hsz5 (And.intro hbi5 (And.intro hbd5 (And.intro hbo5 (And.intro hlo5 hr5)))))
 have HN:=Lib.hid (show w0.heap.size < b5∧b5 < bd∧bd < bo∧bo < w3.heap.size by omega)
 clear hr hb3 hg hat hown hszB hbd3 hbo3 r53 r54 hsz5 hbi5 hbd5 hbo5 hlo5 hr5 hbo hbd hb5 hl HB HL HE cA
 go_wp2_with fail
 obtain⟨W5,hW5⟩:∃ W,((w3.setCell ⟨bo,0,none⟩ (.slice (some ⟨g,0,none⟩) 1 cap)).alloc (Obj.cells #[Value.int IntKind.i64 0] 3))=W:=⟨_,rfl⟩
 rw [hW5] at HS5 ⊢
 obtain⟨bi,hbi⟩:∃ b,w3.heap.size=b:=⟨_,rfl⟩
 rw [hbi] at HS5 HN ⊢
 clear hW5 hbi c50 c51 c52 c53 c54 c55 cO fO
 obtain⟨hsz5,hbi5,hbd5,hbo5,hlo5,hr5⟩:=HS5.out
 have hn:=HN.out
 have hcap:zH9 w0 m0 W5.heap.size bd bi bo:=⟨HH.out.2.1,by omega,by omega,by omega,by omega,by omega,by omega,by omega,by omega,by omega⟩
 have hfa:=HH.out.1.os.facts
 have hsz1:=HH.out.1.sz
 have hC:=HH.out.2.2.2
 have hfe:=zB7 hC
 have hcl:=hC.len
 have hcnt:=uQ L
 have hst:ItF w0 m0 W5.heap.size bd bi bo (fun k=>91 :: jn (flt (Es.take k))) (fun k=>(flt (Es.take k)).length) W5.heap.size 0 W5 :=
  ⟨Nat.le_refl _,hlo5,HH.out.2.2.1.below (hlo5.mono HH.out.2.1),hbd5,by simpa [flt] using hbi5,_,hbo5,by
   have:=Kd.xG (ok':=okC w0.heap.size W5.heap.size W5.heap.size bd bi bo) hr5 (fun k hk=>by unfold okC;omega)
   simpa [flt,jn] using this⟩
 have hFE:=XI t ⟨#[]⟩ 0 L (ItF w0 m0 W5.heap.size bd bi bo (fun k=>91 :: jn (flt (Es.take k))) (fun k=>(flt (Es.take k)).length)) 60 #[.pointer (some ⟨bd,0,none⟩), .pointer (some ⟨w0.heap.size,0,none⟩), .pointer (some ⟨bi,0,none⟩), .pointer (some ⟨bo,0,none⟩)] m0 W5 HH.out.1.sz HH.out.1.pos HH.out.1.head HH.out.1.os zJa
  (enters_of Tryz.func60 (by kernel_rfl) rfl) (ItF.iter hcap hst) (fun n k w1 v num ix2 ty str2 num2 hkv hVl hty hIt hnw=>by
   obtain⟨e,nd,hes,hco⟩:=hC.get k v hkv
   obtain⟨wb,wb2,hveq,hbl,hbl2⟩:=hco.eq
   obtain rfl:ty=5:=hty.2 (KC v hveq)
   have hmem:=List.mem_of_getElem? hkv
   have hvl:=zG2 hmem
   have hst:=zEc Es k e hes
   have hjl:=kS (flt (Es.take (k+1)))
   have hjt:=Q1 Es (k+1)
   have hct:=VE Es k
   exact zEa hcap hIt hnw ⟨#[]⟩ ⟨#[]⟩ str2 num num2 2 0 ix2 (hfa.2 v hmem).1 (by omega) hveq hbl hbl2 (hco.ex.imp (fun h=>h.1) (fun h=>h.tight)) hst.1 hst.2 zJb (by omega))
 unfold Rv at hFE
 have HFA:=Lib.hid (And.intro hfa (And.intro hfe (And.intro hcl hsz1)))
 have HRG:=Lib.hid (hC.rng (fun v hv=>(hfa.2 v hv).1))
 clear hcap hst hC hfa hsz1 hfe hcl hcnt hsz5 hbi5 hbd5 hbo5 hlo5 hr5 hn
 refine hFE.mono ?_
 rintro e w7 ⟨rfl,n,hIt⟩
 clear hFE
 have hX:(91 :: jn (flt (Es.take L.length)):List Int)=91 :: jn (flt Es):=by rw [List.take_of_length_le (by have:=HFA.out.2.2.1;omega)]
 obtain⟨v7,hv1,hv2⟩:=hIt.row
 have hv3:Kd.R (Kd.int .u8) 5 w7 w0.heap.size (fun k=>w0.heap.size≤k∧k≠bo) v7 (91 :: jn (flt Es)):=by
  have:=Kd.xG (ok':=fun k=>w0.heap.size≤k∧k≠bo) hv2 (fun k hk=>⟨hk.1,hk.2.2.2.1⟩)
  simp only [hX] at this
  exact this
 have hlow:=hIt.low
 have hjl:=kS (flt Es)
 have c7:w7.cell? ⟨bo,0,none⟩=some v7:=zB hv1 0 _ rfl
 have f7:w7.frozen? ⟨bo,0,none⟩=false:=zC hv1 _
 have H7:=Lib.hid (And.intro hv1 (And.intro hv3 (And.intro hlow (xW hv1))))
 have HJ:=Lib.hid (show (91 :: jn (flt Es)).length+1≤140737488355328 by have:=HFA.out;simp only [List.length_cons];omega)
 clear hX hv1 hv2 hv3 hlow hjl hIt
 go_wp2_with (at_builtin;refine Kd.qE (Kd.int .u8) (w0:=w0) w0.heap.size rfl _ _ 63 5 (.int .u8 0) 1 rfl Tryz.underlying63 G.kK rfl (by decide) (by omega) v7 (91 :: jn (flt Es)) 93 [.int .u8 93] (fun k=>w0.heap.size≤k∧k≠bo) (fun _=>False) rfl rfl rfl (fun _ hk=>hk.elim) (fun k hk=>by have:=H7.out.2.2.1.size;have:=H7.out.2.2.2;omega) H7.out.2.1 H7.out.2.2.1 H7.out.2.2.1.size (by have:=HJ.out;omega) ?_)
 intro v8 w8 hr hb8 hg hat
 have hh:=H7.out
 have hbo8:w8.heap[bo]?=some (.cells #[v7] 63 (0,0)):=(hg.block bo hh.2.2.2 (fun e=>by have:=hh.2.1.1 bo e.symm;omega)).trans hh.1
 obtain⟨g8,cap8,hv8,_⟩:=Kd.uG hr (by simp)
 subst hv8
 generalize hgl:(91 :: (jn (flt Es) ++ [93])).length=nn at hr ⊢
 have c8:w8.cell? ⟨bo,0,none⟩=some v7:=zB hbo8 0 _ rfl
 have f8:w8.frozen? ⟨bo,0,none⟩=false:=zC hbo8 _
 have h9:=heap_setCell_same w8 bo 0 _ 63 (.slice (some ⟨g8,0,none⟩) nn cap8) hbo8
 have c9:(w8.setCell ⟨bo,0,none⟩ (.slice (some ⟨g8,0,none⟩) nn cap8)).cell? ⟨bo,0,none⟩=some (.slice (some ⟨g8,0,none⟩) nn cap8):=zB h9 0 _ rfl
 have hr9:Buf w0 (w8.setCell ⟨bo,0,none⟩ (.slice (some ⟨g8,0,none⟩) nn cap8)) (.slice (some ⟨g8,0,none⟩) nn cap8) (91 :: (jn (flt Es) ++ [93])) :=
  Kd.xG (Kd.vE hr (p:=⟨bo,0,none⟩) (fun k hk=>hk.2) _) (fun k hk=>hk.1)
 have hbo0:w0.heap.size≤bo:=by have:=HN.out;omega
 have hb9:Below w0.heap.size w0 (w8.setCell ⟨bo,0,none⟩ (.slice (some ⟨g8,0,none⟩) nn cap8)):=hb8.setCell (p:=⟨bo,0,none⟩) hbo0 _
 have HS:=Lib.hid (fun W (hW:(w8.setCell ⟨bo,0,none⟩ (.slice (some ⟨g8,0,none⟩) nn cap8))=W)=>hW ▸ yX (.slice (some ⟨g8,0,none⟩) nn cap8) (91 :: (jn (flt Es) ++ [93])) w0 _ hr9)
 have HB9:=Lib.hid hb9
 clear hr hb8 hg hat hh hbo8 hgl h9 hr9 hbo0 hb9 c7 f7
 go_wp2_with fail
 refine(HS.out _ rfl).mono ?_
 rintro e w10 ⟨rfl,hB10⟩
 have HB10:=Lib.hid (HB9.out.trans (hB10.mono HB9.out.size))
 clear hB10
 go_wp2_with fail
 go_ret
 exact⟨rfl,HB10.out⟩
end Go.Proofs.YtljhmnnhfnmhmaaGreatDoor.M
set_option maxHeartbeats 8000000
set_option maxRecDepth 100000
namespace Go.Proofs.YtljhmnnhfnmhmaaGreatDoor.M
open Go Go.RowKit Go.Proofs.YtljhmnnhfnmhmaaGreatDoorW.PrintWords Go.Proofs.YtljhmnnhfnmhmaaGreatDoorW.PrintLast Go.Proofs.YtljhmnnhfnmhmaaGreatDoor.G
theorem zJt (t a S:ByteArray) (w:World) (h:Calls Tryz.prog 31 #[.string t, .string a] w (yR S w)):Calls Tryz.prog 21 #[.string t, .string a] w (yR S w):=by
 unfold yR at h
 have H:=Lib.hid h
 clear h;unfold yR
 go_enter Tryz.func21,Tryz.ntmps21
 go_wp2_with fail
 refine H.out.mono ?_
 rintro e w1 ⟨rfl,h1⟩
 go_wp2_with fail
 go_ret
 exact⟨rfl,h1⟩
theorem Q2 (t a S:ByteArray) (w:World) (h:Calls Tryz.prog 31 #[.string t, .string a] w (yR S w)):Calls Tryz.prog 12 #[.string t, .string a] w (yR S w):=by
 have h':=zJt t a S w h
 unfold yR at h'
 have H:=Lib.hid h'
 clear h h';unfold yR
 go_enter Tryz.func12,Tryz.ntmps12
 go_wp2_with fail
 refine H.out.mono ?_
 rintro e w1 ⟨rfl,h1⟩
 go_wp2_with fail
 go_ret
 exact⟨rfl,h1⟩
theorem KB (s:ByteArray) (n:S25) (A2 A3:Option Addr) (c2 c3:Nat) (w:World) (hr:∀ W,Calls Tryz.prog 9 #[.string s] W (uH n W)) (hW:WB n) (k2:n.f2.length≤c2) (k3:n.f3.length≤c3) (j2:Kd.C Kd.string w A2 n.f2.length n.f2) (j3:Kd.C k25 w A3 n.f3.length n.f3) :
  Calls Tryz.prog 11 #[.string s, .agg #[.int .i64 n.f0, .string n.f1, .slice A2 n.f2.length c2, .slice A3 n.f3.length c3]] w (zAv w):=by
 have HR:=Lib.hid hr
 have HS:=Lib.hid hW
 have H3:=Lib.hid (show NBk (w.alloc (Obj.cells #[Value.int IntKind.i64 n.f0,Value.string n.f1,Value.slice A2 n.f2.length c2,Value.slice A3 n.f3.length c3] 25)) w.heap.size n A2 c2 A3 c3 from ⟨by simpa using heap_alloc_new w _,k2,k3,Kd.vZ j2 _,Kd.vZ j3 _⟩)
 clear hr hW k2 k3 j2 j3
 go_enter Tryz.func11,Tryz.ntmps11
 go_wp2_with fail
 refine(HR.out _).mono ?_
 rintro e x1 ⟨v,rfl,⟨P2,p2,P3,p3,rfl,y2,y3⟩,hb⟩
 have hn:NBk (x1.alloc (Obj.cells #[Value.int IntKind.i64 n.f0,Value.string n.f1,Value.slice P2 n.f2.length p2,Value.slice P3 n.f3.length p3] 25)) x1.heap.size n P2 p2 P3 p3:=NBk.new y2 y3
 have h3:NBk (x1.alloc (Obj.cells #[Value.int IntKind.i64 n.f0,Value.string n.f1,Value.slice P2 n.f2.length p2,Value.slice P3 n.f3.length p3] 25)) w.heap.size n A2 c2 A3 c3:=H3.out.below (zD hb _)
 have hl:Below w.heap.size w (x1.alloc (Obj.cells #[Value.int IntKind.i64 n.f0,Value.string n.f1,Value.slice P2 n.f2.length p2,Value.slice P3 n.f3.length p3] 25)):=zD ((zD (Below.refl w.heap.size w) _).trans (hb.mono (by simp))) _
 have HX:=Lib.hid (And.intro hn (And.intro h3 hl))
 obtain⟨q00,q01,q02,q03⟩:=hn.cells
 obtain⟨q10,q11,q12,q13⟩:=h3.cells
 obtain⟨ka,hka⟩:=(KN HS.out).get
 clear hn h3 hl y2 y3 hb
 go_wp2_with fail
 refine(z8.calls ka n.f0 n.f1 _ _ n.f2 _ _ n.f3 n.f0 n.f1 _ _ n.f2 _ _ n.f3 true _ HX.out.1.j2 HX.out.1.k2 HX.out.1.j3 HX.out.1.k3 HX.out.2.1.j2 HX.out.2.1.k2 HX.out.2.1.j3 HX.out.2.1.k3 hka).mono ?_
 rintro e z1 ⟨rfl,hb⟩
 have HZ:=Lib.hid (HX.out.2.2.trans (hb.mono (xB HX.out.2.2)))
 clear hb q00 q01 q02 q03 q10 q11 q12 q13
 go_wp2_with fail
 go_ret
 exact⟨rfl,HZ.out⟩
end Go.Proofs.YtljhmnnhfnmhmaaGreatDoor.M
