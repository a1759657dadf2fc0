/-
Lemmas of this claim; made short by a program of this work.
-/
import Derived.Test.YtljhmnnhfnmhmaaGreatDoorUM2
import Derived.Test.YtljhmnnhfnmhmaaGreatDoorUWWords
import Derived.Laws.StructEq
import Derived.Test.YtljhmnnhfnmhmaaGreatDoorUM3
import Derived.Test.YtljhmnnhfnmhmaaGreatDoorProg
import Derived.Below
import Derived.Deep.Draws
import Derived.Deep.AppendLies
import Derived.Maps.AppendAt
import Derived.OwnWalk
import Derived.Laws.BytesArg
import Derived.Laws.MakeOwn
import Derived.Laws.OwnMore
import Derived.Deep.OwnRows
import Derived.Tactics
import Derived.Lib.ConvBytes
import Derived.Laws.Slices
import Derived.WalkKit
import Derived.KernelRfl
import Derived.RowKit3
import Derived.Deep.LoopGhost
import Derived.Deep.QuietTactic
import Derived.BigQuiet
import Derived.WideLaws
import Derived.Deep.DeepCutAuto
import Derived.Deep.CutBlock
import Derived.Deep.RegionHeld3
import Derived.Laws.Rows
import Derived.Lib.AppendStr
import Derived.ArgAppend
import Derived.Laws.IdiomCopy
import Derived.OrdersHeld
import Derived.Laws.BitsLemmas
import Derived.RowKit
import Derived.Test.YtljhmnnhfnmhmaaGreatDoorUM0
set_option linter.unusedVariables false
set_option linter.unusedSimpArgs false
namespace Go.Proofs.YtljhmnnhfnmhmaaGreatDoorW.PrintLast
open Go.Proofs.YtljhmnnhfnmhmaaGreatDoorW.PrintWords (zA)
def ZN (md:Region.Mode) (o:Oper):List Nat:=(o.after.toList.filter (fun e=>Region.binds md e)).map (fun e=>e.on)
def Y4 (md:Region.Mode) (ops:Array Oper) (i:Nat) (oi:Oper):List Nat:=(List.range ops.size).filter fun j=>!(j == i) && match ops[j]? with
 | some oj=>!(oj.after.any (fun e=>Region.binds md e && e.on == i) || oi.apart ops oj)
 | none=>false
def ZY (md:Region.Mode) (ops:Array Oper):Bool × List (List Nat × List Nat):=(Region.noSelect ops,(List.range ops.size).map fun i=>match ops[i]? with
 | some o=>(ZN md o,Y4 md ops i o)
 | none=>([],[]))
def wJ (T:List (List Nat × List Nat)) (l:List Bool) (i:Nat):Bool:=!l.getD i true && match T[i]? with
 | some r=>r.1.all (fun j=>l.getD j false)
 | none=>false
def YL (T:List (List Nat × List Nat)) (l:List Bool):List Nat:=(List.range T.length).filter (wJ T l)
def zB8 (T:List (List Nat × List Nat)) (l:List Bool) (i:Nat):Bool:=match T[i]? with
 | some r=>r.2.all (fun j=>l.getD j true)
 | none=>false
def JM (T:List (List Nat × List Nat)) (l:List Bool):Bool:=(List.range T.length).all fun j=>!l.getD j false || match T[j]? with
 | some r=>r.1.all (fun k=>l.getD k false)
 | none=>true
def JC (T:List (List Nat × List Nat)) (i:Nat):Nat→Nat→Bool
 | 0,_=>false
 | fuel+1,d=>match T[d]? with
  | some r=>r.1.any fun j=>j == i || JC T i fuel j
  | none=>false
def zEk (T:List (List Nat × List Nat)) (l:List Bool) (ds:List Nat) (i:Nat):Bool:=ds.all fun d=>l.getD d true || JC T i T.length d
section
variable {md:Region.Mode} {ops:Array Oper} {T:Bool × List (List Nat × List Nat)} {l l' li lj lk:Array Bool} {ds:List Nat} {i j k:Nat}
theorem gd (l:Array Bool) (j:Nat) (b:Bool):l.getD j b=l.toList.getD j b:=by simp [Array.getD_eq_getD_getElem?,List.getD_eq_getElem?_getD]
theorem Q8 (o:Oper) (p:Nat→Bool):o.after.all (fun e=>!Region.binds md e || p e.on)=(ZN md o).all p:=by
 unfold ZN
 rw [← Array.all_toList]
 induction o.after.toList with
 | nil=>rfl
 | cons e r ih =>
  rw [List.all_cons,ih,List.filter_cons]
  cases h:Region.binds md e <;> simp
theorem zCp (o:Oper) (p:Nat→Bool):o.after.any (fun e=>Region.binds md e && p e.on)=(ZN md o).any p:=by
 unfold ZN
 rw [← Array.any_toList]
 induction o.after.toList with
 | nil=>rfl
 | cons e r ih =>
  rw [List.any_cons,ih,List.filter_cons]
  cases h:Region.binds md e <;> simp
theorem kN:(ZY md ops).2.length=ops.size:=by simp [ZY]
theorem ZC {o:Oper} (h:ops[i]?=some o):(ZY md ops).2[i]?=some (ZN md o,Y4 md ops i o):=by
 have hi:=(Array.getElem?_eq_some_iff.1 h).1
 unfold ZY
 rw [List.getElem?_map,List.getElem?_range hi,Option.map_some,h]
theorem uZ (h:ops[i]?=none):(ZY md ops).2[i]?=none:=by
 have hi:ops.size≤i:=Array.getElem?_eq_none_iff.1 h
 exact List.getElem?_eq_none (by rw [kN];exact hi)
theorem zAo:wJ (ZY md ops).2 l.toList i=(!l.getD i true && ((ops[i]?).map (·.after.all fun e=>!Region.binds md e || l.getD e.on false)).getD false):=by
 unfold wJ
 rw [gd]
 cases h:ops[i]? with
 | none=>rw [uZ h];rfl
 | some o =>
  rw [ZC h]
  simp only [Option.map_some,Option.getD_some]
  rw [← Q8]
  simp only [gd]
theorem J7:Region.ready md ops l=YL (ZY md ops).2 l.toList:=by
 unfold Region.ready YL
 rw [kN]
 refine List.filter_congr (fun i _=>?_)
 rw [zAo]
theorem zB9:Region.free md ops l i=zB8 (ZY md ops).2 l.toList i:=by
 unfold Region.free zB8
 cases h:ops[i]? with
 | none=>rw [uZ h]
 | some oi =>
  rw [ZC h]
  simp only [Y4]
  rw [List.all_filter]
  congr 1
  funext j
  rw [gd]
  cases hj:ops[j]? with
  | none=>cases (j == i) <;> cases (l.toList.getD j true) <;> simp
  | some oj =>
   cases (j == i) <;> cases (l.toList.getD j true) <;> cases (oj.after.any (fun e=>Region.binds md e && e.on == i) || oi.apart ops oj) <;> simp_all
theorem zBs:Region.XD md ops l=JM (ZY md ops).2 l.toList:=by
 unfold Region.XD JM
 rw [kN]
 congr 1
 funext j
 rw [gd]
 cases h:ops[j]? with
 | none=>rw [uZ h]
 | some o =>
  rw [ZC h]
  simp only
  rw [← Q8]
  simp only [gd]
theorem WS:∀ (fuel d:Nat),Region.kU md ops i fuel d=JC (ZY md ops).2 i fuel d
 | 0,_=>rfl
 | fuel+1,d=>by
  unfold Region.kU JC
  cases h:ops[d]? with
  | none=>rw [uZ h]
  | some o =>
   rw [ZC h]
   simp only
   rw [← zCp]
   congr 1
   funext e
   rw [WS fuel]
theorem zHg:Region.JR md ops l ds i=zEk (ZY md ops).2 l.toList ds i:=by
 unfold Region.JR zEk
 rw [kN]
 congr 1
 funext d
 rw [gd,WS]
theorem XV (h:wJ T.2 l.toList i=true) (hT:ZY md ops=T):(Region.ready md ops l).contains i=true:=by
 subst hT
 rw [J7]
 unfold YL
 rw [List.contains_iff_mem,List.mem_filter,List.mem_range]
 refine⟨?_,h⟩
 unfold wJ at h
 rw [Bool.and_eq_true] at h
 cases hq:(ZY md ops).2[i]? with
 | none=>rw [hq] at h;simp at h
 | some r=>exact(List.getElem?_eq_some_iff.1 hq).1
theorem zC5 (h:(l.toList.set i true == l'.toList)=true):(l.setIfInBounds i true == l')=true:=by
 rw [beq_iff_eq] at h ⊢
 apply Array.ext'
 rw [Array.toList_setIfInBounds]
 exact h
def anyT (T:Bool × List (List Nat × List Nat)) (l l':List Bool) (i:Nat):Bool:=T.1 && zB8 T.2 l i && wJ T.2 l i && (l.set i true == l')
theorem vD (hT:ZY md ops=T) (h:anyT T l.toList l'.toList i=true):anyB md ops l l' i=true:=by
 simp only [anyT,Bool.and_eq_true] at h
 obtain⟨⟨⟨h1,h2⟩,h3⟩,h4⟩:=h
 have h5:=XV h3 hT
 have h6:=zC5 h4
 subst hT
 simp only [anyB,Bool.and_eq_true]
 exact⟨⟨⟨h1,by rw [zB9];exact h2⟩,h5⟩,h6⟩
def zH2 (T:Bool × List (List Nat × List Nat)) (ds:List Nat) (l l':List Bool) (i:Nat):Bool:=T.1 && zB8 T.2 l i && wJ T.2 l i && JM T.2 l && zEk T.2 l ds i && (l.set i true == l')
theorem zH3 (hT:ZY md ops=T) (h:zH2 T ds l.toList l'.toList i=true):zC9 md ops ds l l' i=true:=by
 simp only [zH2,Bool.and_eq_true] at h
 obtain⟨⟨⟨⟨⟨h1,h2⟩,h3⟩,h4⟩,h5⟩,h6⟩:=h
 have h7:=XV h3 hT
 have h8:=zC5 h6
 subst hT
 simp only [zC9,Bool.and_eq_true]
 exact⟨⟨⟨⟨⟨h1,by rw [zB9];exact h2⟩,h7⟩,by rw [zBs];exact h4⟩,by rw [zHg];exact h5⟩,h8⟩
theorem kT (hT:ZY md ops=T) (h:(YL T.2 l.toList == [i] && l.toList.set i true == l'.toList)=true):JD md ops l l' i=true:=by
 simp only [Bool.and_eq_true] at h
 obtain⟨h1,h2⟩:=h
 subst hT
 simp only [JD,Bool.and_eq_true]
 exact⟨by rw [J7];exact h1,zC5 h2⟩
theorem wB (hT:ZY md ops=T) (h:(YL T.2 l.toList == [])=true):(Region.ready md ops l == [])=true:=by
 subst hT
 rw [J7]
 exact h
def upM (B:List Nat) (d:Nat):List Nat→Nat
 | []=>0
 | n :: r=>(2 ^ n ||| (if n < d then B.getD n 0 else 0)) ||| upM B d r
def kP (T:List (List Nat × List Nat)) (B:List Nat):Bool:=(List.range T.length).all fun d=>match T[d]? with
 | some r=>(B.getD d 0 ||| upM B d r.1) == upM B d r.1
 | none=>false
theorem zDf {B:List Nat} {d i:Nat}:∀ {ns:List Nat},(upM B d ns).testBit i=true→∃ n ∈ ns,n=i∨(n < d∧(B.getD n 0).testBit i=true)
 | [],h=>by simp [upM] at h
 | n :: r,h=>by
  unfold upM at h
  rw [Nat.testBit_or,Nat.testBit_or,Bool.or_eq_true,Bool.or_eq_true] at h
  rcases h with (h|h)|h
  ·
   rw [Nat.testBit_two_pow] at h
   exact⟨n,List.mem_cons_self, .inl (by simpa using h)⟩
  ·
   by_cases hn:n < d
   ·
    rw [if_pos hn] at h
    exact⟨n,List.mem_cons_self, .inr ⟨hn,h⟩⟩
   ·
    rw [if_neg hn] at h
    simp at h
  ·
   obtain⟨m,hm,h2⟩:=zDf h
   exact⟨m,List.mem_cons_of_mem _ hm,h2⟩
theorem YK {T:List (List Nat × List Nat)} {B:List Nat} (hB:kP T B=true):∀ (fuel d:Nat),d < fuel→d < T.length→(B.getD d 0).testBit i=true→JC T i fuel d=true
 | 0,d,h,_,_=>by omega
 | fuel+1,d,h,hd,hb=>by
  have h1:=List.all_eq_true.1 hB d (List.mem_range.2 hd)
  cases hr:T[d]? with
  | none=>rw [hr] at h1;simp at h1
  | some r =>
   rw [hr] at h1
   simp only [beq_iff_eq] at h1
   have h2:(upM B d r.1).testBit i=true:=by rw [← h1,Nat.testBit_or,hb,Bool.true_or]
   obtain⟨n,hn,h3⟩:=zDf h2
   unfold JC
   rw [hr]
   simp only
   rw [List.any_eq_true]
   refine⟨n,hn,?_⟩
   rcases h3 with rfl|⟨h4,h5⟩
   ·
    simp
   ·
    rw [YK hB fuel n (by omega) (by omega) h5,Bool.or_true]
def zJ5 (T:List (List Nat × List Nat)) (B:List Nat) (l:List Bool) (ds:List Nat) (i:Nat):Bool:=ds.all fun d=>l.getD d true || (decide (d < T.length) && (B.getD d 0).testBit i)
def zKp (T:Bool × List (List Nat × List Nat)) (B:List Nat) (ds:List Nat) (l l':List Bool) (i:Nat):Bool:=T.1 && zB8 T.2 l i && wJ T.2 l i && JM T.2 l && zJ5 T.2 B l ds i && (l.set i true == l')
theorem vH {B:List Nat} (hT:ZY md ops=T) (hB:kP T.2 B=true) (h:zKp T B ds l.toList l'.toList i=true):zC9 md ops ds l l' i=true:=by
 refine zH3 hT ?_
 simp only [zKp,zH2,Bool.and_eq_true] at h ⊢
 obtain⟨⟨⟨⟨⟨h1,h2⟩,h3⟩,h4⟩,h5⟩,h6⟩:=h
 refine⟨⟨⟨⟨⟨h1,h2⟩,h3⟩,h4⟩,?_⟩,h6⟩
 unfold zJ5 at h5
 unfold zEk
 rw [List.all_eq_true] at h5 ⊢
 intro d hd
 have h7:=h5 d hd
 rw [Bool.or_eq_true,Bool.and_eq_true,decide_eq_true_eq] at h7
 rcases h7 with h7|⟨h8,h9⟩
 ·
  rw [h7,Bool.true_or]
 ·
  rw [YK hB _ d h8 h8 h9,Bool.or_true]
theorem yM {P:Program} {Q:Exit→Act→World→Prop} {S:World→Prop} {n:Nat} {a:Act} {w:World} {B:List Nat} (hT:ZY md ops=T) (hB:kP T.2 B=true) (h:zA (ZY md ops=T)→zA (kP T.2 B=true)→vC P md ops Q S ds n l a w):vC P md ops Q S ds n l a w:=h ⟨hT⟩ ⟨hB⟩
end
def VI:Code→Nat→Option (Array Oper)
 | .region id ops _,k=>if id == k then some ops else none
 | .seq a b,k=>match VI a k with
  | some o=>some o
  | none=>VI b k
 | .cond _ a b,k=>match VI a k with
  | some o=>some o
  | none=>VI b k
 | .block _ c,k=>VI c k
 | .loop c,k=>VI c k
 | .scope c,k=>VI c k
 | .rangeFunc _ _ a b,k=>match VI a k with
  | some o=>some o
  | none=>VI b k
 | _,_=>none
def opsOf (f:Func) (k:Nat):Array Oper:=((f.body.bind fun c=>VI c k)).getD #[]
end Go.Proofs.YtljhmnnhfnmhmaaGreatDoorW.PrintLast
namespace Go.Proofs.YtljhmnnhfnmhmaaGreatDoorW.PrintLast
section
variable {P:Program} {ops:Array Oper} {Q:Exit→Act→World→Prop} {md:Region.Mode} {S:World→Prop} {ds:List Nat} {T:Bool × List (List Nat × List Nat)}
end
end Go.Proofs.YtljhmnnhfnmhmaaGreatDoorW.PrintLast
namespace Go.Proofs.YtljhmnnhfnmhmaaGreatDoorW.PrintWords
open Go.RowKit
namespace Kd
section
variable {α:Type} {d:Kd α} {W:World} {g n:Nat} {S ok:Nat→Prop} {A:Option Addr} {ad:Addr} {xs:List α}
end
end Kd
end Go.Proofs.YtljhmnnhfnmhmaaGreatDoorW.PrintWords
namespace Go.Proofs.YtljhmnnhfnmhmaaGreatDoorW.PrintWords
open Go.RowKit
section
variable {w w' u:World} {m B g:Nat} {o:Obj} {row:Option Nat} {S:Nat→Prop} {a:Addr} {v:Value}
end
namespace Kd
section
variable {α:Type} {d:Kd α} {e base n m:Nat} {ok:Nat→Prop} {w w':World} {v:Value} {A:Option Addr} {xs:List α}
end
end Kd
end Go.Proofs.YtljhmnnhfnmhmaaGreatDoorW.PrintWords
namespace Go.Proofs.YtljhmnnhfnmhmaaGreatDoorW.PrintWords
open Go.RowKit
section
variable {P:Program} {d:Nat} {xs ys:Array Value} {f:Field} {fs:List Field} {a b:Value} {r s:Bool} {w:World}
end
end Go.Proofs.YtljhmnnhfnmhmaaGreatDoorW.PrintWords
namespace Go.Proofs.YtljhmnnhfnmhmaaGreatDoorW.PrintWords
theorem yQ.one {α:Type} {R:α→List Value→Prop} {ps:List α} {cs:List Value} {p:α} {v:Value} (hp:R p [v]) (h:yQ R 1 ps cs):yQ R 1 (p :: ps) (v :: cs):=by
 refine⟨by simp [h.1],fun j q hq=>?_⟩
 cases j with
 | zero =>
  simp only [List.getElem?_cons_zero,Option.some.injEq] at hq
  subst hq
  simpa using hp
 | succ j =>
  simp only [List.getElem?_cons_succ] at hq
  have h1:=h.2 j q hq
  simpa [Nat.mul_one] using h1
end Go.Proofs.YtljhmnnhfnmhmaaGreatDoorW.PrintWords
namespace Go.Proofs.YtljhmnnhfnmhmaaGreatDoorW.PrintLast
section
variable {P:Program} {ops:Array Oper} {Q:Exit→Act→World→Prop} {md:Region.Mode} {T:Bool × List (List Nat × List Nat)} {B:List Nat} {O:List Nat} {b:Nat→Bool} {i j n:Nat}
end
end Go.Proofs.YtljhmnnhfnmhmaaGreatDoorW.PrintLast
namespace Go.Proofs.YtljhmnnhfnmhmaaGreatDoorW.PrintWords
open Go.RowKit
end Go.Proofs.YtljhmnnhfnmhmaaGreatDoorW.PrintWords
namespace Go.Proofs.YtljhmnnhfnmhmaaGreatDoorW.PrintLast
section
variable {ops:Array Oper} {a:Act} {o og:Oper} {g:Nat} {t:Tmp} {u:Bool}
end
end Go.Proofs.YtljhmnnhfnmhmaaGreatDoorW.PrintLast
namespace Go.Proofs.YtljhmnnhfnmhmaaGreatDoorW.PrintWords
open Go.RowKit
section
variable {P:Program} {ops:Array Oper} {rest:List Oper} {o:Oper} {a:Act} {Q:Exit→Act→World→Prop} {W:World}
theorem V5 (hw:Region.wanted o (yielded ops a.tmps)=true) (h:wpList P ops Q ({ o with guard:=none } :: rest) a W):wpList P ops Q (o :: rest) a W:=by
 have h1:Region.wanted { o with guard:=none } (yielded ops a.tmps)=true:=rfl
 unfold wpList at h ⊢
 rw [if_pos h1] at h
 rw [if_pos hw]
 exact h
end
end Go.Proofs.YtljhmnnhfnmhmaaGreatDoorW.PrintWords
namespace Go.Proofs.YtljhmnnhfnmhmaaGreatDoor.Own
open Go Go.RowKit Go.Lib Go.Proofs.YtljhmnnhfnmhmaaGreatDoorW.PrintWords
theorem wR {P:Program} (w:World) (base:Nat) (t u ty e:TypeId) (i:TypeInfo) (ht:P.underlying t=some (.slice e)) (hu:P.underlying u=some .string) (hi:P.info? e=some i) (hz:i.zero=some (.int .u8 0))
  (hsize:i.size=1) (hby:i.bytes=1) (v:Value) (n:Nat) (xs:List Value) (hown:w.ownsRow base e 1 v n xs) (s:ByteArray)
  (h63:n+s.size≤maxLen) (hbytes:n+s.size≤140737488355328) (hbase:base≤w.heap.size) :
  ∃ v' w',(Builtin.append_ #[t,u] ty #[v, .string s]).run P w = .ok v' w'∧w'.ownsRow base e 1 v' (n+s.size) (xs ++ strCells s)∧w.grownBy w' v.ownBlock ∧
   (v'.ownBlock=v.ownBlock∨v'.ownBlock=some w.heap.size):=by
 obtain⟨v',w',hr,h2,h3,h4⟩:=run_append_own_string (P:=P) w base t u ty e i ht hu hi hz hsize hby v n xs hown s h63 hbytes hbase
 refine⟨v',w',hr,h2,h3,?_⟩
 have hsmall:n+s.size≤9223372036854775807:=by simp only [maxLen] at h63;omega
 have hxl:xs.length=n:=by simpa using hown.1
 rcases hown.2 with ⟨rfl,rfl⟩|⟨g,cap,cur,rfl,hbg,hg,hnc,hcm,hcs,htake⟩
 ·
  by_cases hm:s.size=0
  ·
   rw [h4.2 ⟨rfl,hm⟩]
   exact .inl rfl
  ·
   have hr2:=run_append_nil_string (P:=P) w t u ty e i (.int .u8 0) ht hu hi hz s (by omega) (by omega) (by rw [hby];omega)
   rw [hr] at hr2
   injection hr2 with ha _
   exact .inr (by rw [ha];rfl)
 ·
  by_cases hroom:n+s.size≤cap
  ·
   have hcs':cur.size=cap:=by simpa using hcs
   have hr2:=run_append_room_string (P:=P) w t u ty e i ht hu hi hsize g n cap cur hg s hroom (by omega)
   rw [hr] at hr2
   injection hr2 with ha _
   exact .inl (by rw [ha];rfl)
  ·
   have holds:∀ j u,xs[j]?=some u→w.cell? ((⟨g,0,none⟩:Addr).add j)=some u:=hown.cells (g:=g) rfl
   have hr2:=run_append_grow_string (P:=P) w t u ty e i (.int .u8 0) ht hu hi hz ⟨g,0,none⟩ n cap xs (by rw [hsize];simpa using hxl) holds s (by omega) (by omega) (by rw [hby];exact growslice_fits (by omega) (by omega))
   rw [hr] at hr2
   injection hr2 with ha _
   exact .inr (by rw [ha];rfl)
theorem y7 {P:Program} {ops:Array Oper} {rest:List Oper} {o:Oper} {a:Act} {Q:Exit→Act→World→Prop} {w0 W:World} (base:Nat) (hgd:o.guard=none) (s x:Operand) (t u e:TypeId)
  (ho:o.op = .call { callee := .builtin .append,args:=#[s,x],argTypes:=#[t,u] })
  (ht:P.underlying t=some (.slice e)) (hu:P.underlying u=some .string) (hinfo:(P.info? e).map (fun i=>(i.zero,i.size,i.bytes))=some (some (.int .u8 0),1,1))
  (v:Value) (xs:List Int) (y:ByteArray) (ok:Nat→Prop) (hs:a.eval s=v) (hx:a.eval x = .string y) (hF:∀ k,W.heap.size≤k→ok k)
  (HO:Kd.R (Kd.int .u8) e W base ok v xs) (HB:Below base w0 W) (hbase:base≤W.heap.size) (hl:xs.length+y.size≤140737488355328)
  (h:∀ v1 w1,Kd.R (Kd.int .u8) e w1 base ok v1 (xs ++ bytesOf y)→Below base w0 w1→W.grownBy w1 v.ownBlock→(v1.ownBlock=v.ownBlock∨∃ b,v1.ownBlock=some b∧W.heap.size≤b)→wpList P ops Q rest (a.put o.dst v1) w1) :
  wpList P ops Q (o :: rest) a W:=by
 obtain⟨i0,hi,hzz⟩:=Option.map_eq_some_iff.1 hinfo
 simp only [Prod.mk.injEq] at hzz
 obtain⟨hz0,hz1,hz2⟩:=hzz
 have HO1:W.ownsRow base e 1 v xs.length (WQ .u8 xs):=Kd.y9 HO
 refine wpList_plain hgd fun K hK=>?_
 obtain⟨v1,w1,hr,hown,hg,hat⟩:=wR (P:=P) W base t u o.type e i0 ht hu hi hz0 hz1 hz2 v xs.length (WQ .u8 xs) HO1 y (by simp only [maxLen];omega) hl hbase
 unfold Oper.wp execOp
 simp only [ho,resolve,invoke,builtin,Sem.run_bind,Sem.run_pure,Result.andThen_ok,List.map_toArray,List.map_cons,List.map_nil,hs,hx,hr]
 have hl2:(xs ++ bytesOf y).length=xs.length+y.size:=by rw [List.length_append,zW]
 have hc:WQ .u8 (xs ++ bytesOf y)=WQ .u8 xs ++ Lib.strCells y:=by
  rw [KH]
  congr 1
  simp [WQ,bytesOf,Lib.strCells]
 have hat':v1.ownBlock=v.ownBlock∨∃ b,v1.ownBlock=some b∧W.heap.size≤b:=hat.imp id (fun h=>⟨_,h,Nat.le_refl _⟩)
 refine hK _ _ (h v1 w1 ?_ (HB.grown hg hbase (kM HO1)) hg hat')
 refine Kd.KY (h1:=fun _=>rfl) (ok:=ok) (by rw [hl2];show w1.ownsRow base e 1 v1 _ (WQ .u8 (xs ++ bytesOf y));rw [hc];exact hown) (fun k hk=>?_)
 rcases hat' with hq|⟨b,hb,hle⟩
 ·
  exact HO.1 k (hq ▸ hk)
 ·
  rw [hb] at hk
  injection hk with hk
  exact hF k (by omega)
end Go.Proofs.YtljhmnnhfnmhmaaGreatDoor.Own
namespace Go.Proofs.YtljhmnnhfnmhmaaGreatDoor.G
open Go.RowKit Go.Proofs.YtljhmnnhfnmhmaaGreatDoorW.PrintWords Go.Proofs.YtljhmnnhfnmhmaaGreatDoorW.PrintLast Go.Proofs.YtljhmnnhfnmhmaaGreatDoorW.PrintMore
attribute [local go_sem] qG qJ yE yF jT jU qH qK
def errW:Option Int→Value
 | none => .nilIface
 | some c => .iface 0 (.int .i64 c)
theorem QX:errW none = .nilIface:=rfl
theorem QY (c:Int):errW (some c) = .iface 0 (.int .i64 c):=rfl
theorem kK:(Tryz.prog.info? 5).map (fun i=>(i.zero,i.size,i.bytes))=some (some (.int .u8 0),1,1):=by kernel_rfl
theorem info9:(Tryz.prog.info? 9).map (fun i=>(i.zero,i.size,i.bytes))=some (some (.string ⟨#[]⟩),1,16):=by kernel_rfl
theorem zFy:(Tryz.prog.info? 25).map (fun i=>(i.zero,i.size,i.bytes))=some (some (.agg #[(.int .i64 0),(.string ⟨#[]⟩),(.slice none 0 0),(.slice none 0 0)]),4,72):=by kernel_rfl
theorem zFz:(Tryz.prog.info? 38).map (fun i=>(i.zero,i.size,i.bytes))=some (some (.agg #[(.int .i64 0),(.int .i64 0),(.int .i64 0),(.slice none 0 0),(.slice none 0 0)]),5,72):=by kernel_rfl
theorem zJ0:(Tryz.prog.info? 47).map (fun i=>(i.zero,i.size,i.bytes))=some (some (.agg #[(.int .i64 0),(.int .i64 0)]),2,16):=by kernel_rfl
structure S47 where
 f0:Int
 f1:Int
def z47:S47:=⟨(0:Int),(0:Int)⟩
def k47:Kd S47:=Kd.iso (Kd.pair (Kd.int .i64) (Kd.int .i64)) (fun x:S47=>(x.f0,x.f1))
theorem zEh {w:World} {x:S47} {cs:List Value} (h:k47.K w x cs):cs=[.int .i64 x.f0, .int .i64 x.f1]:=by
 obtain⟨_,_,rfl,rfl,rfl⟩:=h
 exact rfl
theorem zHe (w:World) (base:Nat) (ok:Nat→Prop) (x:S47):k47.M w base ok x [.int .i64 x.f0, .int .i64 x.f1]:=⟨[.int .i64 x.f0],[.int .i64 x.f1],rfl,rfl,rfl⟩
def jV (xs:List S47) (i:Int):S47:=xs.getD i.toNat z47
theorem zFn {w:World} {A:Option Addr} {n:Nat} {xs:List S47} (h:Kd.C k47 w A n xs) (i:Int) (h0:0≤i) (h1:i < n):∃ ad ,A=some ad∧w.cell? (ad.add (i.toNat * 2))=some (.int .i64 (jV xs i).f0)∧w.cell? ⟨(ad.add (i.toNat * 2)).block,(ad.add (i.toNat * 2)).off+1,none⟩=some (.int .i64 (jV xs i).f1):=by
 obtain⟨ad,c,e,_,hK,hc0⟩:=Kd.YW h z47 i h0 h1
 have hc:∀ j u,c[j]?=some u→w.cell? (ad.add (i.toNat * 2+j))=some u:=hc0
 obtain rfl:=zEh hK
 exact⟨ad,e,hc 0 _ rfl,Zq4⟩
structure S38 where
 f0:Int
 f1:Int
 f2:Int
 f3:(List S47)
 f4:(List S38)
def z38:S38:=⟨(0:Int),(0:Int),(0:Int),([]:List S47),([]:List S38)⟩
def F38 (d:Kd S38):Kd S38:=Kd.iso (Kd.pair (Kd.int .i64) (Kd.pair (Kd.int .i64) (Kd.pair (Kd.int .i64) (Kd.pair (Kd.slice 47 k47) (Kd.slice 38 d))))) (fun x:S38=>(x.f0,x.f1,x.f2,x.f3,x.f4))
theorem zF5:Kd.YX F38:=Kd.WO _ (Kd.yY (Kd.yG _) (Kd.yY (Kd.yG _) (Kd.yY (Kd.yG _) (Kd.yY (Kd.yG _) (Kd.JA 38 Kd.zCl)))))
theorem sub38:Kd.Sub F38 [38,47]:=Kd.zC8 _ (Kd.kO (Kd.sub_const _ (by decide)) (Kd.kO (Kd.sub_const _ (by decide)) (Kd.kO (Kd.sub_const _ (by decide)) (Kd.kO (Kd.sub_const _ (by decide)) (Kd.YP 38 (by decide) Kd.zGa)))))
theorem sz38:∀ n,(Kd.upto F38 5 [38,47] n).sz=5:=Kd.zDh (fun _=>rfl)
def k38:Kd S38:=Kd.fix F38 5 [38,47] sz38 (Kd.zDg sub38)
theorem zEg {w:World} {x:S38} {cs:List Value} (h:k38.K w x cs):∃ A3 c3 A4 c4,cs=[.int .i64 x.f0, .int .i64 x.f1, .int .i64 x.f2, .slice A3 x.f3.length c3, .slice A4 x.f4.length c4]∧x.f3.length≤c3∧k47.C w A3 x.f3.length x.f3∧x.f4.length≤c4∧k38.C w A4 x.f4.length x.f4:=by
 obtain⟨n,h⟩:=h
 cases n with
 | zero=>exact h.elim
 | succ n =>
  obtain⟨_,_,rfl,rfl,⟨_,_,rfl,rfl,⟨_,_,rfl,rfl,⟨_,_,rfl,⟨A3,c3,rfl,l3,g3⟩,⟨A4,c4,rfl,l4,g4⟩⟩⟩⟩⟩:=h
  exact⟨A3,c3,A4,c4,rfl,l3,g3,l4,Kd.zJv g4⟩
theorem zCf (w:World) (base:Nat) (ok:Nat→Prop) (x:S38) {v3:Value} (g3:k47.R 47 w base ok v3 x.f3) {v4:Value} (g4:k38.R 38 w base ok v4 x.f4):k38.M w base ok x [.int .i64 x.f0, .int .i64 x.f1, .int .i64 x.f2,v3,v4]:=by
 obtain⟨n4,q4⟩:=Kd.V3 zF5 g4
 have r4:=Kd.YR zF5 sz38 (show n4≤n4 by omega) q4
 exact⟨n4+1,⟨[.int .i64 x.f0],[.int .i64 x.f1, .int .i64 x.f2,v3,v4],rfl,rfl,⟨[.int .i64 x.f1],[.int .i64 x.f2,v3,v4],rfl,rfl,⟨[.int .i64 x.f2],[v3,v4],rfl,rfl,⟨[v3],[v4],rfl,⟨v3,rfl,g3⟩,⟨v4,rfl,r4⟩⟩⟩⟩⟩⟩
def jD (xs:List S38) (i:Int):S38:=xs.getD i.toNat z38
theorem zJd {w:World} {A:Option Addr} {n:Nat} {xs:List S38} (h:Kd.C k38 w A n xs) (i:Int) (h0:0≤i) (h1:i < n):∃ ad A3 c3 A4 c4,A=some ad∧w.cell? (ad.add (i.toNat * 5))=some (.int .i64 (jD xs i).f0)∧w.cell? ⟨(ad.add (i.toNat * 5)).block,(ad.add (i.toNat * 5)).off+1,none⟩=some (.int .i64 (jD xs i).f1)∧w.cell? ⟨(ad.add (i.toNat * 5)).block,(ad.add (i.toNat * 5)).off+2,none⟩=some (.int .i64 (jD xs i).f2)∧w.cell? ⟨(ad.add (i.toNat * 5)).block,(ad.add (i.toNat * 5)).off+3,none⟩=some (.slice A3 (jD xs i).f3.length c3)∧w.cell? ⟨(ad.add (i.toNat * 5)).block,(ad.add (i.toNat * 5)).off+4,none⟩=some (.slice A4 (jD xs i).f4.length c4)∧(jD xs i).f3.length≤c3∧k47.C w A3 (jD xs i).f3.length (jD xs i).f3∧(jD xs i).f4.length≤c4∧k38.C w A4 (jD xs i).f4.length (jD xs i).f4:=by
 obtain⟨ad,c,e,_,hK,hc0⟩:=Kd.YW h z38 i h0 h1
 have hc:∀ j u,c[j]?=some u→w.cell? (ad.add (i.toNat * 5+j))=some u:=hc0
 obtain⟨A3,c3,A4,c4,rfl,l3,g3,l4,g4⟩:=zEg hK
 exact⟨ad,A3,c3,A4,c4,e,hc 0 _ rfl,Zq4,Zq5,Zq6,by rw [← uK _ _ 4 (by omega)];exact hc 4 _ rfl,l3,g3,l4,g4⟩
structure S25 where
 f0:Int
 f1:ByteArray
 f2:(List ByteArray)
 f3:(List S25)
def z25:S25:=⟨(0:Int),(⟨#[]⟩:ByteArray),([]:List ByteArray),([]:List S25)⟩
def F25 (d:Kd S25):Kd S25:=Kd.iso (Kd.pair (Kd.int .i64) (Kd.pair Kd.string (Kd.pair (Kd.slice 9 Kd.string) (Kd.slice 25 d)))) (fun x:S25=>(x.f0,x.f1,x.f2,x.f3))
theorem zF4:Kd.YX F25:=Kd.WO _ (Kd.yY (Kd.yG _) (Kd.yY (Kd.yG _) (Kd.yY (Kd.yG _) (Kd.JA 25 Kd.zCl))))
theorem sub25:Kd.Sub F25 [9,25]:=Kd.zC8 _ (Kd.kO (Kd.sub_const _ (by decide)) (Kd.kO (Kd.sub_const _ (by decide)) (Kd.kO (Kd.sub_const _ (by decide)) (Kd.YP 25 (by decide) Kd.zGa))))
theorem sz25:∀ n,(Kd.upto F25 4 [9,25] n).sz=4:=Kd.zDh (fun _=>rfl)
def k25:Kd S25:=Kd.fix F25 4 [9,25] sz25 (Kd.zDg sub25)
theorem zEf {w:World} {x:S25} {cs:List Value} (h:k25.K w x cs):∃ A2 c2 A3 c3,cs=[.int .i64 x.f0, .string x.f1, .slice A2 x.f2.length c2, .slice A3 x.f3.length c3]∧x.f2.length≤c2∧Kd.string.C w A2 x.f2.length x.f2∧x.f3.length≤c3∧k25.C w A3 x.f3.length x.f3:=by
 obtain⟨n,h⟩:=h
 cases n with
 | zero=>exact h.elim
 | succ n =>
  obtain⟨_,_,rfl,rfl,⟨_,_,rfl,rfl,⟨_,_,rfl,⟨A2,c2,rfl,l2,g2⟩,⟨A3,c3,rfl,l3,g3⟩⟩⟩⟩:=h
  exact⟨A2,c2,A3,c3,rfl,l2,g2,l3,Kd.zJv g3⟩
theorem zCe {w:World} {base:Nat} {ok:Nat→Prop} {x:S25} {cs:List Value} (h:k25.M w base ok x cs):∃ v2 v3,cs=[.int .i64 x.f0, .string x.f1,v2,v3]∧Kd.string.R 9 w base ok v2 x.f2∧k25.R 25 w base ok v3 x.f3:=by
 obtain⟨n,h⟩:=h
 cases n with
 | zero=>exact h.elim
 | succ n =>
  obtain⟨_,_,rfl,rfl,⟨_,_,rfl,rfl,⟨_,_,rfl,⟨v2,rfl,g2⟩,⟨v3,rfl,g3⟩⟩⟩⟩:=h
  exact⟨v2,v3,rfl,g2,Kd.fix_R g3⟩
theorem zHd (w:World) (base:Nat) (ok:Nat→Prop) (x:S25) {v2:Value} (g2:Kd.string.R 9 w base ok v2 x.f2) {v3:Value} (g3:k25.R 25 w base ok v3 x.f3):k25.M w base ok x [.int .i64 x.f0, .string x.f1,v2,v3]:=by
 obtain⟨n3,q3⟩:=Kd.V3 zF4 g3
 have r3:=Kd.YR zF4 sz25 (show n3≤n3 by omega) q3
 exact⟨n3+1,⟨[.int .i64 x.f0],[.string x.f1,v2,v3],rfl,rfl,⟨[.string x.f1],[v2,v3],rfl,rfl,⟨[v2],[v3],rfl,⟨v2,rfl,g2⟩,⟨v3,rfl,r3⟩⟩⟩⟩⟩
def xO (xs:List S25) (i:Int):S25:=xs.getD i.toNat z25
theorem VV {w:World} {A:Option Addr} {n:Nat} {xs:List S25} (h:Kd.C k25 w A n xs) (i:Int) (h0:0≤i) (h1:i < n):∃ ad A2 c2 A3 c3,A=some ad∧w.cell? (ad.add (i.toNat * 4))=some (.int .i64 (xO xs i).f0)∧w.cell? ⟨(ad.add (i.toNat * 4)).block,(ad.add (i.toNat * 4)).off+1,none⟩=some (.string (xO xs i).f1)∧w.cell? ⟨(ad.add (i.toNat * 4)).block,(ad.add (i.toNat * 4)).off+2,none⟩=some (.slice A2 (xO xs i).f2.length c2)∧w.cell? ⟨(ad.add (i.toNat * 4)).block,(ad.add (i.toNat * 4)).off+3,none⟩=some (.slice A3 (xO xs i).f3.length c3)∧(xO xs i).f2.length≤c2∧Kd.string.C w A2 (xO xs i).f2.length (xO xs i).f2∧(xO xs i).f3.length≤c3∧k25.C w A3 (xO xs i).f3.length (xO xs i).f3:=by
 obtain⟨ad,c,e,_,hK,hc0⟩:=Kd.YW h z25 i h0 h1
 have hc:∀ j u,c[j]?=some u→w.cell? (ad.add (i.toNat * 4+j))=some u:=hc0
 obtain⟨A2,c2,A3,c3,rfl,l2,g2,l3,g3⟩:=zEf hK
 exact⟨ad,A2,c2,A3,c3,e,hc 0 _ rfl,Zq4,Zq5,Zq6,l2,g2,l3,g3⟩
end Go.Proofs.YtljhmnnhfnmhmaaGreatDoor.G
namespace Go.Proofs.YtljhmnnhfnmhmaaGreatDoor.M
open Go Go.RowKit Go.Lib Go.Proofs.YtljhmnnhfnmhmaaGreatDoorW.PrintWords Go.Proofs.YtljhmnnhfnmhmaaGreatDoorW.PrintLast Go.Proofs.YtljhmnnhfnmhmaaGreatDoorW.PrintMore
def Buf (w0 w:World) (v:Value) (xs:List Int):Prop:=Kd.R (Kd.int .u8) 5 w w0.heap.size (fun k=>w0.heap.size≤k) v xs
theorem Buf.alloc {w0 w:World} {v:Value} {xs:List Int} (h:Buf w0 w v xs) (o:Obj):Buf w0 (w.alloc o) v xs:=by
 unfold Buf at *
 apply Kd.xJ
 exact h
theorem Buf.shape {w0 w:World} {v:Value} {xs:List Int} (h:Buf w0 w v xs) (hp:xs≠[]):∃ g c,v = .slice (some ⟨g,0,none⟩) xs.length c∧w0.heap.size≤g:=by
 have hl:0 < xs.length:=List.length_pos_iff.mpr hp
 obtain⟨g,c,hv,hb,_⟩:=Kd.uG h hl
 exact⟨g,c,hv,hb⟩
theorem kH {ops:Array Oper} {rest:List Oper} {o:Oper} {a:Act} {Q:Exit→Act→World→Prop} {w0 W:World} (hgd:o.guard=none) (s x:Operand)
  (ho:o.op = .call { callee := .builtin .append,args:=#[s,x],argTypes:=#[63,63] })
  (v:Value) (xs:List Int) (p:Int) (hs:a.eval s=v) (hx:a.eval x = .slice (some ⟨W.heap.size,0,none⟩) 1 1)
  (HB:Below w0.heap.size w0 W) (HO:Buf w0 W v xs) (hl:xs.length+1≤140737488355328)
  (h:∀ v1 ys w1,zA (ys.length=xs.length+1)→zA (Buf w0 w1 v1 ys)→zA (Below w0.heap.size w0 w1)→wpList Tryz.prog ops Q rest (a.put o.dst v1) w1) :
  wpList Tryz.prog ops Q (o :: rest) a (W.alloc (.cells #[.int .u8 p] 5)):=by
 refine Kd.qE (Kd.int .u8) (w0:=w0) w0.heap.size hgd s x 63 5 (.int .u8 0) 1 ho Tryz.underlying63 G.kK rfl (by decide) (by omega) v xs p [.int .u8 p] (fun k=>w0.heap.size≤k) (fun _=>False) hs hx rfl (fun _ hk=>hk.elim) (fun k hk=>Nat.le_trans HB.size hk) HO HB HB.size (by omega) ?_
 intro v1 w1 ho1 hb1 _ _
 exact h v1 (xs ++ [p]) w1 ⟨by simp⟩ ⟨ho1⟩ ⟨hb1⟩
theorem JL {ops:Array Oper} {rest:List Oper} {o:Oper} {a:Act} {Q:Exit→Act→World→Prop} {w0 W:World} (hgd:o.guard=none) (y:Operand)
  (ho:o.op = .makeSlice 63 (.const (.int .i64 0)) y) (n:Nat) (hy:a.eval y = .int .i64 (n:Int)) (hn:n≤1048576)
  (HB:Below w0.heap.size w0 W)
  (h:∀ v1 w1,zA (Buf w0 w1 v1 [])→zA (Below w0.heap.size w0 w1)→wpList Tryz.prog ops Q rest (a.put o.dst v1) w1) :
  wpList Tryz.prog ops Q (o :: rest) a W:=by
 obtain⟨i0,hi,hzz⟩:=Option.map_eq_some_iff.1 G.kK
 simp only [Prod.mk.injEq] at hzz
 obtain⟨hz0,hz1,hz2⟩:=hzz
 have hr:=run_make (P:=Tryz.prog) W 63 5 i0 (.int .u8 0) Tryz.underlying63 hi hz0 .i64 .i64 0 (n:Int) (by omega) (by omega) (by rw [hz2];omega) (by omega)
 simp only [Int.toNat_natCast,Int.toNat_zero] at hr
 refine wpList_plain hgd fun K hK=>?_
 unfold Oper.wp execOp
 have h0:a.eval (.const (.int .i64 0)) = .int .i64 0:=rfl
 simp only [ho,Sem.run_bind,Sem.run_pure,Result.andThen_ok,h0,hy,hr]
 refine hK _ _ (h _ _ ⟨⟨fun k hk=>?_,[],⟨rfl, .inr ⟨W.heap.size,n,_,rfl,HB.size,vQ W _,Nat.zero_le _,by simp only [maxLen];omega,?_,rfl⟩⟩,?_⟩⟩ ⟨HB.alloc HB.size _⟩)
 ·
  have:W.heap.size=k:=by simpa [Value.ownBlock] using hk
  have:=HB.size
  omega
 ·
  rw [size_madeCells,hz1];rfl
 ·
  exact⟨rfl,fun j p hj=>by simp at hj⟩
theorem Buf.take {w0 w:World} {A:Option Addr} {n m c:Nat} {xs:List Int} (h:Buf w0 w (.slice A n c) xs) (hm:m≤xs.length):Buf w0 w (.slice A m c) (xs.take m):=Kd.zI8 h hm
theorem zEt (W:World) (cs:Array Value) (e:TypeId) (j:Nat) (v:Value) (h:cs[j]?=some v):(W.alloc (.cells cs e)).cell? ⟨W.heap.size,j,none⟩=some v:=by
 unfold World.cell?
 simp only [vQ]
 exact h
theorem zBo {ops:Array Oper} {rest:List Oper} {o:Oper} {a:Act} {Q:Exit→Act→World→Prop} {w0 W:World} (hgd:o.guard=none) (s x:Operand)
  (ho:o.op = .call { callee := .builtin .append,args:=#[s,x],argTypes:=#[63,63] })
  (v:Value) (xs:List Int) (hs:a.eval s=v) (hx:a.eval x = .slice (some ⟨W.heap.size,0,none⟩) 8 8)
  (HB:Below w0.heap.size w0 W) (HO:Buf w0 W v xs) (hl:xs.length+8≤140737488355328)
  (h:∀ g c n w1,zA (n=xs.length+8)→zA (w0.heap.size≤g)→zA (n≤c)→zA (∃ ys:List Int,ys.length=n∧Buf w0 w1 (.slice (some ⟨g,0,none⟩) n c) ys∧Below w0.heap.size w0 w1)→wpList Tryz.prog ops Q rest (a.put o.dst (.slice (some ⟨g,0,none⟩) n c)) w1) :
  wpList Tryz.prog ops Q (o :: rest) a (W.alloc (.cells #[.int .u8 0, .int .u8 0, .int .u8 0, .int .u8 0, .int .u8 0, .int .u8 0, .int .u8 0, .int .u8 0] 5)):=by
 refine Kd.jW (Kd.int .u8) (Rr:=fun (x:Int) cs=>cs=[.int .u8 x]) (w0:=w0) w0.heap.size hgd s x 63 5 (.int .u8 0) 1 ho Tryz.underlying63 G.kK rfl (by decide) (by omega) v xs [0,0,0,0,0,0,0,0] (some ⟨W.heap.size,0,none⟩) 8 8 (fun k=>w0.heap.size≤k) (fun _=>False) hs hx (HO.alloc _) ?_ ?_ (fun _ hk=>hk.elim) (fun k hk=>Nat.le_trans (HB.alloc HB.size _).size hk) (HB.alloc HB.size _) (HB.alloc HB.size _).size (by omega) ?_
 ·
  refine⟨rfl,by decide,fun _=>⟨⟨W.heap.size,0,none⟩,rfl,fun j p hj=>⟨[.int .u8 p],rfl,rfl,fun i u hi=>?_⟩⟩⟩
  have hi0:i=0:=by
   rcases i with _|i
   ·
    rfl
   ·
    simp at hi
  subst hi0
  have hj8:j=0∨j=1∨j=2∨j=3∨j=4∨j=5∨j=6∨j=7:=by
   have:j < 8:=by
    rcases Nat.lt_or_ge j 8 with h|h
    ·
     exact h
    ·
     rw [List.getElem?_eq_none (by simpa using h)] at hj
     cases hj
   omega
  have hu:u = .int .u8 p:=by simpa using hi.symm
  subst hu
  rcases hj8 with rfl|rfl|rfl|rfl|rfl|rfl|rfl|rfl <;> (simp at hj;subst hj;exact zEt W _ 5 _ _ rfl)
 ·
  intro x cs hc
  exact hc
 ·
  intro v1 w1 ho1 hb1 _ _
  obtain⟨g,c,hv,hg⟩:=Buf.shape ho1 (by simp)
  rw [hv] at ho1 ⊢
  exact h g c _ w1 ⟨by simp⟩ ⟨hg⟩ ⟨(Kd.vX ho1).2.1⟩ ⟨_,rfl,ho1,hb1⟩
end Go.Proofs.YtljhmnnhfnmhmaaGreatDoor.M
