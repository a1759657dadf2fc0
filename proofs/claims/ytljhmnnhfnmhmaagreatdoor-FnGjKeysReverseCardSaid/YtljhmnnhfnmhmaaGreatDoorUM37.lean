/-
Lemmas of this claim; made short by a program of this work.
-/
import Derived.Test.YtljhmnnhfnmhmaaGreatDoorUM24
import Derived.Test.YtljhmnnhfnmhmaaGreatDoorUGx9
import Derived.Test.YtljhmnnhfnmhmaaGreatDoorUGx10
import Derived.Test.YtljhmnnhfnmhmaaGreatDoorUGx11
import Derived.Test.YtljhmnnhfnmhmaaGreatDoorUGx12
import Derived.Test.YtljhmnnhfnmhmaaGreatDoorUM0
import Derived.Test.YtljhmnnhfnmhmaaGreatDoorUM29
set_option linter.unusedVariables false
set_option linter.unusedSimpArgs false
namespace Go.Proofs.YtljhmnnhfnmhmaaGreatDoor.M
open Go Go.RowKit Go.Proofs.YtljhmnnhfnmhmaaGreatDoorW.PrintWords Go.Proofs.YtljhmnnhfnmhmaaGreatDoor.G
section
variable (x:ByteArray) (hx:x.size≤1048576)
include hx
theorem zHs:∀ (m i:Nat),x.size+16≤i+m→i≤x.size+12→∃ b,Ev (fun k=>xR.l0 k x (i:Int)) b:=by
 intro m
 induction m with
 | zero=>intro i h1 h2;omega
 | succ m ih =>
  intro i h1 h2
  by_cases hi:i < x.size
  ·
   have h12:wrap64 ((i:Int)+12)=((i+12:Nat):Int):=by unfold wrap64;omega
   have h6:wrap64 ((i:Int)+6)=((i+6:Nat):Int):=by unfold wrap64;omega
   have h2':wrap64 ((i:Int)+2)=((i+2:Nat):Int):=by unfold wrap64;omega
   have h1':wrap64 ((i:Int)+1)=((i+1:Nat):Int):=by unfold wrap64;omega
   have hp:(i:Int) < (x.size:Int):=by omega
   have hn:(0:Int)≤(i:Int):=by omega
   by_cases h92:bt x (i:Int)=92
   ·
    obtain⟨v,b,he,hb⟩:=QD x hx i (by omega)
    cases b with
    | false =>
     obtain⟨r,hr⟩:=ih (i+2) (by omega) (by omega)
     refine⟨r,Ev.step (he.bind (g:=fun k bt368=>(if bt368.2=true then ((vK.f bt368.1).bind fun t370=>(if t370=true then ((xC.f k x (wrap64 ((i:Int)+6))).bind fun bt371=>(if bt371.2=true then ((vM.f bt371.1).bind fun t373=>(if t373=true then (xR.l0 k x (wrap64 ((i:Int)+12))) else (some false))) else (some false))) else ((vM.f bt368.1).bind fun t374=>(if t374=true then (some false) else (xR.l0 k x (wrap64 ((i:Int)+6))))))) else (xR.l0 k x (wrap64 ((i:Int)+2))))) ?_) (fun k=>?_)⟩
     ·
      simp only [Bool.false_eq_true,if_false]
      rw [h2']
      exact hr
     ·
      rw [xR.l0,if_pos hp,if_pos hn,if_pos h92]
    | true =>
     obtain⟨ha6,_,_⟩:=hb rfl
     obtain⟨hg,hhg⟩:=WK v
     obtain⟨r,hr⟩:∃ r,Ev (fun k=>(if hg=true then ((xC.f k x (wrap64 ((i:Int)+6))).bind fun bt371=>(if bt371.2=true then ((vM.f bt371.1).bind fun t373=>(if t373=true then (xR.l0 k x (wrap64 ((i:Int)+12))) else (some false))) else (some false))) else ((vM.f v).bind fun t374=>(if t374=true then (some false) else (xR.l0 k x (wrap64 ((i:Int)+6))))))) r:=by
      cases hg with
      | true =>
       simp only [if_true]
       rw [h6]
       obtain⟨v2,b2,he2,hb2⟩:=QD x hx (i+6) (by omega)
       cases b2 with
       | false =>
        refine⟨false,he2.bind (g:=fun k bt371=>(if bt371.2=true then ((vM.f bt371.1).bind fun t373=>(if t373=true then (xR.l0 k x (wrap64 ((i:Int)+12))) else (some false))) else (some false))) ?_⟩
        simp only [Bool.false_eq_true,if_false]
        exact Ev.some
       | true =>
        obtain⟨hl,hhl⟩:=zCi v2
        obtain⟨r,hr⟩:=ih (i+12) (by omega) (by have:=(hb2 rfl).1;omega)
        cases hl with
        | false =>
         refine⟨false,he2.bind (g:=fun k bt371=>(if bt371.2=true then ((vM.f bt371.1).bind fun t373=>(if t373=true then (xR.l0 k x (wrap64 ((i:Int)+12))) else (some false))) else (some false))) ?_⟩
         simp only [if_true,hhl,Option.bind_some,Bool.false_eq_true,if_false]
         exact Ev.some
        | true =>
         refine⟨r,he2.bind (g:=fun k bt371=>(if bt371.2=true then ((vM.f bt371.1).bind fun t373=>(if t373=true then (xR.l0 k x (wrap64 ((i:Int)+12))) else (some false))) else (some false))) ?_⟩
         simp only [if_true,hhl,Option.bind_some]
         rw [h12]
         exact hr
      | false =>
       simp only [Bool.false_eq_true,if_false]
       obtain⟨hl,hhl⟩:=zCi v
       obtain⟨r,hr⟩:=ih (i+6) (by omega) (by omega)
       cases hl with
       | true =>
        refine⟨false,?_⟩
        simp only [hhl,Option.bind_some,if_true]
        exact Ev.some
       | false =>
        refine⟨r,?_⟩
        simp only [hhl,Option.bind_some,Bool.false_eq_true,if_false]
        rw [h6]
        exact hr
     refine⟨r,Ev.step (he.bind (g:=fun k bt368=>(if bt368.2=true then ((vK.f bt368.1).bind fun t370=>(if t370=true then ((xC.f k x (wrap64 ((i:Int)+6))).bind fun bt371=>(if bt371.2=true then ((vM.f bt371.1).bind fun t373=>(if t373=true then (xR.l0 k x (wrap64 ((i:Int)+12))) else (some false))) else (some false))) else ((vM.f bt368.1).bind fun t374=>(if t374=true then (some false) else (xR.l0 k x (wrap64 ((i:Int)+6))))))) else (xR.l0 k x (wrap64 ((i:Int)+2))))) ?_) (fun k=>?_)⟩
     ·
      simp only [if_true,hhg,Option.bind_some]
      exact hr
     ·
      rw [xR.l0,if_pos hp,if_pos hn,if_pos h92]
   ·
    obtain⟨r,hr⟩:=ih (i+1) (by omega) (by omega)
    refine⟨r,Ev.step hr (fun k=>?_)⟩
    rw [xR.l0,if_pos hp,if_pos hn,if_neg h92,h1']
  ·
   exact⟨true,Ev.step (g:=fun _=>some true) Ev.some (fun k=>by rw [xR.l0,if_neg (by omega)])⟩
theorem zCw:∃ b,Ev (fun k=>xR.f k x) b:=zHs x hx (x.size+16) 0 (by omega) (by omega)
def ChO (x:ByteArray) (i:Nat) (r:Int × Int × Bool):Prop:=r.2.2=true→∃ n:Nat,r.2.1=(n:Int)∧1≤n∧n≤4∧i+n≤x.size
theorem zJm (i n:Nat) (x9:Int) (hi:i+n < x.size) (hn:n≤3):∀ (m c:Nat) (x7:Int),n+1≤c+m→c≤n+1→∃ r,Ev (fun k=>zU.l0 k x (i:Int) x7 (n:Int) x9 (c:Int)) r∧ChO x i r:=by
 have hno:ChO x i (65533,1,false):=fun h=>by cases h
 have hlast:∀ (c:Nat) (x7:Int),c=n+1→∃ r,Ev (fun k=>zU.l0 k x (i:Int) x7 (n:Int) x9 (c:Int)) r∧ChO x i r:=by
  intro c x7 hc
  have hle:¬ (c:Int)≤(n:Int):=by omega
  by_cases h1:x7 < x9
  ·
   exact⟨_,Ev.step (g:=fun _=>some (65533,1,false)) Ev.some (fun k=>by rw [zU.l0,if_neg hle,if_pos h1]),hno⟩
  by_cases h2:x7 > 1114111
  ·
   exact⟨_,Ev.step (g:=fun _=>some (65533,1,false)) Ev.some (fun k=>by rw [zU.l0,if_neg hle,if_neg h1,if_pos h2]),hno⟩
  obtain⟨hg,hhg⟩:=WK x7
  obtain⟨hl,hhl⟩:=zCi x7
  cases hg with
  | true=>exact⟨_,Ev.step (g:=fun _=>some (65533,1,false)) Ev.some (fun k=>by rw [zU.l0,if_neg hle,if_neg h1,if_neg h2,hhg,Option.bind_some,if_pos rfl]),hno⟩
  | false =>
   cases hl with
   | true=>exact⟨_,Ev.step (g:=fun _=>some (65533,1,false)) Ev.some (fun k=>by rw [zU.l0,if_neg hle,if_neg h1,if_neg h2,hhg,Option.bind_some,if_neg (by simp),hhl,Option.bind_some,if_pos rfl]),hno⟩
   | false =>
    refine⟨(x7,wrap64 ((n:Int)+1),true),Ev.step (g:=fun _=>some (x7,wrap64 ((n:Int)+1),true)) Ev.some (fun k=>by rw [zU.l0,if_neg hle,if_neg h1,if_neg h2,hhg,Option.bind_some,if_neg (by simp),hhl,Option.bind_some,if_neg (by simp)]),fun _=>⟨n+1,?_,by omega,by omega,by omega⟩⟩
    show wrap64 ((n:Int)+1)=((n+1:Nat):Int)
    unfold wrap64;omega
 intro m
 induction m with
 | zero=>intro c x7 h1 h2;exact hlast c x7 (by omega)
 | succ m ih =>
  intro c x7 h1 h2
  by_cases hc:c=n+1
  ·
   exact hlast c x7 hc
  have hle:(c:Int)≤(n:Int):=by omega
  have hp:(0:Int)≤((i+c:Nat):Int):=by omega
  have hq:((i+c:Nat):Int) < (x.size:Int):=by omega
  have hw:wrap64 ((i:Int)+(c:Int))=((i+c:Nat):Int):=by unfold wrap64;omega
  have hw1:wrap64 ((c:Int)+1)=((c+1:Nat):Int):=by unfold wrap64;omega
  by_cases h3:wrap64 (bt x ((i+c:Nat):Int)) < 128
  ·
   exact⟨_,Ev.step (g:=fun _=>some (65533,1,false)) Ev.some (fun k=>by rw [zU.l0,if_pos hle,hw,if_pos hp,if_pos hq,if_pos h3]),hno⟩
  by_cases h4:wrap64 (bt x ((i+c:Nat):Int)) > 191
  ·
   exact⟨_,Ev.step (g:=fun _=>some (65533,1,false)) Ev.some (fun k=>by rw [zU.l0,if_pos hle,hw,if_pos hp,if_pos hq,if_neg h3,if_pos h4]),hno⟩
  obtain⟨r,hr,ho⟩:=ih (c+1) (wrap64 ((wrap64 ((wrap64 (x7 * 64))+(wrap64 (bt x ((i+c:Nat):Int))))) - 128)) (by omega) (by omega)
  refine⟨r,Ev.step hr (fun k=>?_),ho⟩
  rw [zU.l0,if_pos hle,hw,if_pos hp,if_pos hq,if_neg h3,if_neg h4,hw1]
theorem zBq (i n:Nat) (x7 x9:Int) (hi:i < x.size) (hn1:1≤n) (hn:n≤3):∃ r,Ev (fun k=>zU.j2 k x (i:Int) x7 (n:Int) x9) r∧ChO x i r:=by
 have hw:wrap64 ((x.size:Int) - (i:Int))=(x.size:Int) - (i:Int):=by unfold wrap64;omega
 by_cases h:(x.size:Int) - (i:Int)≤(n:Int)
 ·
  exact⟨_,Ev.step (g:=fun _=>some (65533,1,false)) Ev.some (fun k=>by rw [zU.j2,hw,if_pos h]),fun h=>by cases h⟩
 ·
  obtain⟨r,hr,ho⟩:=zJm x hx i n x9 (by omega) hn n 1 x7 (by omega) (by omega)
  exact⟨r,Ev.step hr (fun k=>by rw [zU.j2,hw,if_neg h];rfl),ho⟩
theorem zFr (i:Nat) (x7:Int) (b:Bool) (hi:i < x.size):∃ r,Ev (fun k=>zU.j1 k x (i:Int) x7 b) r∧ChO x i r:=by
 have hno:ChO x i (65533,1,false):=fun h=>by cases h
 cases b with
 | true =>
  obtain⟨r,hr,ho⟩:=zBq x hx i 2 (wrap64 (x7 - 224)) 2048 hi (by omega) (by omega)
  exact⟨r,Ev.step hr (fun k=>by rw [zU.j1,if_pos rfl];rfl),ho⟩
 | false =>
  by_cases h1:240≤x7
  ·
   by_cases h2:x7≤244
   ·
    obtain⟨r,hr,ho⟩:=zBq x hx i 3 (wrap64 (x7 - 240)) 65536 hi (by omega) (by omega)
    exact⟨r,Ev.step hr (fun k=>by rw [zU.j1,if_neg (by simp),if_pos h1,if_pos h2];rfl),ho⟩
   ·
    exact⟨_,Ev.step (g:=fun _=>some (65533,1,false)) Ev.some (fun k=>by rw [zU.j1,if_neg (by simp),if_pos h1,if_neg h2]),hno⟩
  ·
   exact⟨_,Ev.step (g:=fun _=>some (65533,1,false)) Ev.some (fun k=>by rw [zU.j1,if_neg (by simp),if_neg h1]),hno⟩
theorem zFq (i:Nat) (x7:Int) (b:Bool) (hi:i < x.size):∃ r,Ev (fun k=>zU.j0 k x (i:Int) x7 b) r∧ChO x i r:=by
 cases b with
 | true =>
  obtain⟨r,hr,ho⟩:=zBq x hx i 1 (wrap64 (x7 - 192)) 128 hi (by omega) (by omega)
  exact⟨r,Ev.step hr (fun k=>by rw [zU.j0,if_pos rfl];rfl),ho⟩
 | false =>
  by_cases h1:224≤x7
  ·
   obtain⟨r,hr,ho⟩:=zFr x hx i x7 (decide (x7≤239)) hi
   exact⟨r,Ev.step hr (fun k=>by rw [zU.j0,if_neg (by simp),if_pos h1]),ho⟩
  ·
   obtain⟨r,hr,ho⟩:=zFr x hx i x7 false hi
   exact⟨r,Ev.step hr (fun k=>by rw [zU.j0,if_neg (by simp),if_neg h1]),ho⟩
theorem zJl (i:Nat) (hi:i < x.size):∃ r,Ev (fun k=>zU.f k x (i:Int)) r∧ChO x i r:=by
 have hp:(0:Int)≤(i:Int):=by omega
 have hq:(i:Int) < (x.size:Int):=by omega
 by_cases h1:wrap64 (bt x (i:Int)) < 128
 ·
  exact⟨_,Ev.of (fun k=>by rw [zU.f,if_pos hp,if_pos hq,if_pos h1]),fun _=>⟨1,rfl,by omega,by omega,by omega⟩⟩
 by_cases h2:194≤wrap64 (bt x (i:Int))
 ·
  obtain⟨r,hr,ho⟩:=zFq x hx i (wrap64 (bt x (i:Int))) (decide ((wrap64 (bt x (i:Int)))≤223)) hi
  exact⟨r,hr.eq (fun k=>by rw [zU.f,if_pos hp,if_pos hq,if_neg h1,if_pos h2]),ho⟩
 ·
  obtain⟨r,hr,ho⟩:=zFq x hx i (wrap64 (bt x (i:Int))) false hi
  exact⟨r,hr.eq (fun k=>by rw [zU.f,if_pos hp,if_pos hq,if_neg h1,if_neg h2]),ho⟩
theorem zKu:∀ (m i:Nat),x.size+1≤i+m→i≤x.size→∃ b,Ev (fun k=>jA.l0 k x (i:Int)) b:=by
 intro m
 induction m with
 | zero=>intro i h1 h2;omega
 | succ m ih =>
  intro i h1 h2
  by_cases hi:i < x.size
  ·
   have hp:(i:Int) < (x.size:Int):=by omega
   obtain⟨⟨v,c,b⟩,he,ho⟩:=zJl x hx i hi
   cases b with
   | false =>
    refine⟨false,Ev.step (he.bind (g:=fun k bt365=>(if bt365.2.2=true then (jA.l0 k x (wrap64 ((i:Int)+bt365.2.1))) else (some false))) ?_) (fun k=>by rw [jA.l0,if_pos hp])⟩
    simp only [Bool.false_eq_true,if_false]
    exact Ev.some
   | true =>
    obtain⟨n,hc,hn1,hn4,hin⟩:=ho rfl
    simp only at hc
    subst hc
    obtain⟨r,hr⟩:=ih (i+n) (by omega) (by omega)
    have hw:wrap64 ((i:Int)+(n:Int))=((i+n:Nat):Int):=by unfold wrap64;omega
    refine⟨r,Ev.step (he.bind (g:=fun k bt365=>(if bt365.2.2=true then (jA.l0 k x (wrap64 ((i:Int)+bt365.2.1))) else (some false))) ?_) (fun k=>by rw [jA.l0,if_pos hp])⟩
    simp only [if_true]
    rw [hw]
    exact hr
  ·
   exact⟨true,Ev.step (g:=fun _=>some true) Ev.some (fun k=>by rw [jA.l0,if_neg (by omega)])⟩
theorem zKt:∃ b,Ev (fun k=>jA.f k x) b:=zKu x hx (x.size+1) 0 (by omega) (by omega)
end
end Go.Proofs.YtljhmnnhfnmhmaaGreatDoor.M
namespace Go.Proofs.YtljhmnnhfnmhmaaGreatDoor.M
open Go Go.RowKit Go.Proofs.YtljhmnnhfnmhmaaGreatDoorW.PrintWords Go.Proofs.YtljhmnnhfnmhmaaGreatDoor.G
inductive WB:S25→Prop where
 | mk {n:S25}:n.f2.length≤1048576→n.f3.length≤1048576→(∀ m ∈ n.f3,WB m)→WB n
theorem RX.wb {c:Nat} {s:List Int} {us:List ByteArray} {ns:List S25} (h:RX c s us ns):s.length≤1048576→us.length≤s.length∧ns.length≤s.length∧∀ m ∈ ns,WB m:=by
 induction h with
 | word h=>intro hl;rcases h with ⟨_,rfl⟩|⟨_,rfl⟩|⟨_,rfl⟩ <;> exact⟨by simp,by simp,fun m hm=>by rw [List.mem_singleton.1 hm];exact WB.mk (by simp) (by simp) (fun m hm=>by cases hm)⟩
 | num h =>
  intro hl
  have hne:=(RX.num h).ne
  have:1≤List.length _:=List.length_pos_iff.2 hne
  exact⟨by simp,by simpa using this,fun m hm=>by rw [List.mem_singleton.1 hm];exact WB.mk (by simp) (by simp) (fun m hm=>by cases hm)⟩
 | str h h2 =>
  intro hl
  have hne:=(RX.str h h2).ne
  have:1≤List.length _:=List.length_pos_iff.2 hne
  exact⟨by simp,by simpa using this,fun m hm=>by rw [List.mem_singleton.1 hm];exact WB.mk (by simp) (by simp) (fun m hm=>by cases hm)⟩
 | arr0 h=>intro hl;exact⟨by simp,by simp,fun m hm=>by rw [List.mem_singleton.1 hm];exact WB.mk (by simp) (by simp) (fun m hm=>by cases hm)⟩
 | arr hb h ih =>
  intro hl
  simp only [List.length_cons,List.length_append] at hl ⊢
  obtain⟨h1,h2,h3⟩:=ih (by omega)
  exact⟨by simp,by simp,fun m hm=>by rw [List.mem_singleton.1 hm];exact WB.mk (by simp) zA9 h3⟩
 | obj0 h=>intro hl;exact⟨by simp,by simp,fun m hm=>by rw [List.mem_singleton.1 hm];exact WB.mk (by simp) (by simp) (fun m hm=>by cases hm)⟩
 | obj hb h ih =>
  intro hl
  simp only [List.length_cons,List.length_append] at hl ⊢
  obtain⟨h1,h2,h3⟩:=ih (by omega)
  exact⟨by simp,by simp,fun m hm=>by rw [List.mem_singleton.1 hm];exact WB.mk zA9 zA9 h3⟩
 | el1 hv hw ih =>
  intro hl
  simp only [List.length_cons,List.length_append,List.length_nil] at hl ih ⊢
  obtain⟨h1,h2,h3⟩:=ih (by omega)
  exact⟨by omega,by omega,h3⟩
 | el hv hw hw2 hs ih1 ih2 =>
  intro hl
  simp only [List.length_cons,List.length_append,List.length_nil] at hl ih1 ih2 ⊢
  obtain⟨h1,h2,h3⟩:=ih1 (by omega)
  obtain⟨h4,h5,h6⟩:=ih2 (by omega)
  exact⟨by omega,by omega,fun m hm=>by
   rcases List.mem_cons.1 hm with rfl|hm
   ·
    exact h3 _ (List.mem_singleton.2 rfl)
   ·
    exact h6 m hm⟩
 | mb1 hk hu hw1 hw2 hv hw3 ih =>
  intro hl
  simp only [List.length_cons,List.length_append,List.length_nil] at hl ih ⊢
  obtain⟨h1,h2,h3⟩:=ih (by omega)
  exact⟨by omega,by omega,h3⟩
 | mb hk hu hw1 hw2 hv hw3 hw4 hs ih1 ih2 =>
  intro hl
  simp only [List.length_cons,List.length_append,List.length_nil] at hl ih1 ih2 ⊢
  obtain⟨h1,h2,h3⟩:=ih1 (by omega)
  obtain⟨h4,h5,h6⟩:=ih2 (by omega)
  exact⟨by omega,by omega,fun m hm=>by
   rcases List.mem_cons.1 hm with rfl|hm
   ·
    exact h3 _ (List.mem_singleton.2 rfl)
   ·
    exact h6 m hm⟩
theorem rd25 (l:List S25) (i:Nat) (h:i < l.length):xO l (i:Int) ∈ l:=by
 unfold xO
 simp only [Int.toNat_natCast,List.getD,List.getElem?_eq_getElem h,Option.getD_some]
 exact List.getElem_mem h
theorem at_l0 (x:ByteArray) (a0:Int) (a1:ByteArray) (l2:List ByteArray) (l3:List S25) (hl:l2.length≤1048576):∀ i:Nat,i≤l2.length→∃ r,Ev (fun k=>j6.l0 k x ((i:Int) - 1) a0 a1 l2 l3) r:=by
 intro i
 induction i with
 | zero=>intro h;exact⟨-1,Ev.step (g:=fun _=>some (-1)) Ev.some (fun k=>by rw [j6.l0,if_neg (by omega)])⟩
 | succ i ih =>
  intro h
  have he:((i+1:Nat):Int) - 1=(i:Int):=by omega
  rw [he]
  have hp:(i:Int) ≥ 0:=by omega
  have hq:(i:Int) < (l2.length:Int):=by omega
  have hw:wrap64 ((i:Int) - 1)=(i:Int) - 1:=by unfold wrap64;omega
  by_cases hx:(kX ByteArray.empty l2 (i:Int)).toList=x.toList
  ·
   exact⟨(i:Int),Ev.step (g:=fun _=>some (i:Int)) Ev.some (fun k=>by rw [j6.l0,if_pos hp,if_pos hp,if_pos hq,if_pos hx])⟩
  ·
   obtain⟨r,hr⟩:=ih (by omega)
   exact⟨r,Ev.step hr (fun k=>by rw [j6.l0,if_pos hp,if_pos hp,if_pos hq,if_neg hx,hw])⟩
theorem at_ev (a0:Int) (a1:ByteArray) (l2:List ByteArray) (l3:List S25) (x:ByteArray) (hl:l2.length≤1048576):∃ r,Ev (fun k=>j6.f k a0 a1 l2 l3 x) r:=by
 obtain⟨r,hr⟩:=at_l0 x a0 a1 l2 l3 hl l2.length (Nat.le_refl _)
 have hw:wrap64 ((l2.length:Int) - 1)=(l2.length:Int) - 1:=by unfold wrap64;omega
 exact⟨r,hr.eq (fun k=>by rw [j6.f,hw])⟩
theorem zDc {n:S25} (h:WB n):∃ b,Ev (fun k=>xE.f k n.f0 n.f1 n.f2 n.f3) b:=by
 induction h with
 | @mk n h2 h3 hk ih =>
  have l1:∀ m i:Nat,n.f3.length≤i+m→i≤n.f3.length→∃ b,Ev (fun k=>xE.l1 k (i:Int) n.f0 n.f1 n.f2 n.f3) b:=by
   intro m
   induction m with
   | zero=>intro i a1 a2;exact⟨true,Ev.step (g:=fun _=>some true) Ev.some (fun k=>by rw [xE.l1,if_neg (by omega)])⟩
   | succ m ihm =>
    intro i a1 a2
    by_cases hi:i < n.f3.length
    ·
     obtain⟨b,hb⟩:=ih _ (rd25 n.f3 i hi)
     have hp:(i:Int) < (n.f3.length:Int):=by omega
     have hz:(0:Int)≤(i:Int):=by omega
     have hw:wrap64 ((i:Int)+1)=((i+1:Nat):Int):=by unfold wrap64;omega
     cases b with
     | false =>
      refine⟨false,Ev.step (hb.bind (g:=fun k t384=>(if t384=true then (xE.l1 k (wrap64 ((i:Int)+1)) n.f0 n.f1 n.f2 n.f3) else (some false))) ?_) (fun k=>by rw [xE.l1,if_pos hp,if_pos hz])⟩
      simp only [Bool.false_eq_true,if_false]
      exact Ev.some
     | true =>
      obtain⟨b,hr⟩:=ihm (i+1) (by omega) (by omega)
      refine⟨b,Ev.step (hb.bind (g:=fun k t384=>(if t384=true then (xE.l1 k (wrap64 ((i:Int)+1)) n.f0 n.f1 n.f2 n.f3) else (some false))) ?_) (fun k=>by rw [xE.l1,if_pos hp,if_pos hz])⟩
      simp only [if_true]
      rw [hw]
      exact hr
    ·
     exact⟨true,Ev.step (g:=fun _=>some true) Ev.some (fun k=>by rw [xE.l1,if_neg (by omega)])⟩
  have l0:∀ m i:Nat,n.f2.length+1≤i+m→i≤n.f2.length→∃ b,Ev (fun k=>xE.l0 k (i:Int) n.f0 n.f1 n.f2 n.f3) b:=by
   intro m
   induction m with
   | zero=>intro i a1 a2;omega
   | succ m ihm =>
    intro i a1 a2
    by_cases hi:i < n.f2.length
    ·
     obtain⟨r,hb⟩:=at_ev n.f0 n.f1 n.f2 n.f3 (kX ByteArray.empty n.f2 (i:Int)) h2
     have hp:(i:Int) < (n.f2.length:Int):=by omega
     have hz:(0:Int)≤(i:Int):=by omega
     have hw:wrap64 ((i:Int)+1)=((i+1:Nat):Int):=by unfold wrap64;omega
     by_cases he:r=(i:Int)
     ·
      obtain⟨b,hr⟩:=ihm (i+1) (by omega) (by omega)
      refine⟨b,Ev.step (hb.bind (g:=fun k t382=>(if t382=(i:Int) then (xE.l0 k (wrap64 ((i:Int)+1)) n.f0 n.f1 n.f2 n.f3) else (some false))) ?_) (fun k=>by rw [xE.l0,if_pos hp,if_pos hz])⟩
      simp only [if_pos he]
      rw [hw]
      exact hr
     ·
      refine⟨false,Ev.step (hb.bind (g:=fun k t382=>(if t382=(i:Int) then (xE.l0 k (wrap64 ((i:Int)+1)) n.f0 n.f1 n.f2 n.f3) else (some false))) ?_) (fun k=>by rw [xE.l0,if_pos hp,if_pos hz])⟩
      simp only [if_neg he]
      exact Ev.some
    ·
     obtain⟨b,hr⟩:=l1 (n.f3.length) 0 (by omega) (by omega)
     exact⟨b,Ev.step hr (fun k=>by rw [xE.l0,if_neg (by omega)];rfl)⟩
  obtain⟨b,hr⟩:=l0 (n.f2.length+1) 0 (by omega) (by omega)
  exact⟨b,Ev.step hr (fun k=>by rw [xE.f];rfl)⟩
theorem KN {n:S25} (h:WB n):Ev (fun k=>z8.f k n.f0 n.f1 n.f2 n.f3 n.f0 n.f1 n.f2 n.f3) true:=by
 induction h with
 | @mk n h2 h3 hk ih =>
  have l1:∀ m i:Nat,n.f3.length≤i+m→i≤n.f3.length→Ev (fun k=>z8.l1 k (i:Int) n.f0 n.f1 n.f2 n.f3 n.f0 n.f1 n.f2 n.f3) true:=by
   intro m
   induction m with
   | zero=>intro i a1 a2;exact Ev.step (g:=fun _=>some true) Ev.some (fun k=>by rw [z8.l1,if_neg (by omega)])
   | succ m ihm =>
    intro i a1 a2
    by_cases hi:i < n.f3.length
    ·
     have hb:=ih _ (rd25 n.f3 i hi)
     have hp:(i:Int) < (n.f3.length:Int):=by omega
     have hz:(0:Int)≤(i:Int):=by omega
     have hw:wrap64 ((i:Int)+1)=((i+1:Nat):Int):=by unfold wrap64;omega
     refine Ev.step (hb.bind (g:=fun k t392=>(if t392=true then (z8.l1 k (wrap64 ((i:Int)+1)) n.f0 n.f1 n.f2 n.f3 n.f0 n.f1 n.f2 n.f3) else (some false))) ?_) (fun k=>by rw [z8.l1,if_pos hp,if_pos hz,if_pos hp])
     simp only [if_true]
     rw [hw]
     exact ihm (i+1) (by omega) (by omega)
    ·
     exact Ev.step (g:=fun _=>some true) Ev.some (fun k=>by rw [z8.l1,if_neg (by omega)])
  have l0:∀ m i:Nat,n.f2.length+1≤i+m→i≤n.f2.length→Ev (fun k=>z8.l0 k (i:Int) n.f0 n.f1 n.f2 n.f3 n.f0 n.f1 n.f2 n.f3) true:=by
   intro m
   induction m with
   | zero=>intro i a1 a2;omega
   | succ m ihm =>
    intro i a1 a2
    by_cases hi:i < n.f2.length
    ·
     have hp:(i:Int) < (n.f2.length:Int):=by omega
     have hz:(0:Int)≤(i:Int):=by omega
     have hw:wrap64 ((i:Int)+1)=((i+1:Nat):Int):=by unfold wrap64;omega
     exact Ev.step (ihm (i+1) (by omega) (by omega)) (fun k=>by rw [z8.l0,if_pos hp,if_pos hz,if_pos hp,if_pos rfl,hw])
    ·
     exact Ev.step (l1 (n.f3.length) 0 (by omega) (by omega)) (fun k=>by rw [z8.l0,if_neg (by omega)];rfl)
  have hj:Ev (fun k=>z8.j0 k ((n.f3.length:Int) != (n.f3.length:Int)) n.f0 n.f1 n.f2 n.f3 n.f0 n.f1 n.f2 n.f3) true :=
   Ev.step (l0 (n.f2.length+1) 0 (by omega) (by omega)) (fun k=>by rw [z8.j0,if_neg (by simp)];rfl)
  exact Ev.step hj (fun k=>by rw [z8.f,if_pos rfl,if_pos rfl,if_pos rfl])
end Go.Proofs.YtljhmnnhfnmhmaaGreatDoor.M
namespace Go.Proofs.YtljhmnnhfnmhmaaGreatDoor.M
open Go Go.RowKit Go.Proofs.YtljhmnnhfnmhmaaGreatDoorW.PrintWords Go.Proofs.YtljhmnnhfnmhmaaGreatDoor.G
def Vl (v:List Int):Prop:=∃ n,RX 0 v [] [n]
inductive Mb:List Int→List (List Int × List Int)→Prop where
 | last {k w1 w2 v w3:List Int}:Qt k→xV w1→xV w2→Vl v→xV w3→Mb (k ++ (w1 ++ (58 :: (w2 ++ (v ++ (w3 ++ [125])))))) [(k,v)]
 | cons {k w1 w2 v w3 w4 s:List Int} {L:List (List Int × List Int)}:Qt k→xV w1→xV w2→Vl v→xV w3→xV w4→Mb s L→Mb (k ++ (w1 ++ (58 :: (w2 ++ (v ++ (w3 ++ (44 :: (w4 ++ s)))))))) ((k,v) :: L)
inductive El:List Int→List (List Int)→Prop where
 | last {v w:List Int}:Vl v→xV w→El (v ++ (w ++ [93])) [v]
 | cons {v w w2 s:List Int} {L:List (List Int)}:Vl v→xV w→xV w2→El s L→El (v ++ (w ++ (44 :: (w2 ++ s)))) (v :: L)
theorem Mb.ne {s:List Int} {L:List (List Int × List Int)} (h:Mb s L):∃ r,s=34 :: r:=by
 cases h with
 | last h _ _ _ _=>obtain⟨b,rfl,_⟩:=h;exact⟨_,rfl⟩
 | cons h _ _ _ _ _ _=>obtain⟨b,rfl,_⟩:=h;exact⟨_,rfl⟩
def OS (t:ByteArray) (i:Nat) (L:List (List Int × List Int)):Prop :=
 ∃ junk s,Seg (bytesOf t) i t.size (junk ++ s)∧(∀ c ∈ junk,¬ c=34)∧((s=[]∧L=[])∨Mb s L)
def Sep (c:Int):Prop:=c≤32∨c=44∨c=58
theorem OS.end_ {t:ByteArray} {L:List (List Int × List Int)} {i:Nat} (h:OS t i L) (hi:t.size≤i):L=[]:=by
 obtain⟨junk,s,hs,_,h⟩:=h
 rcases h with ⟨_,h⟩|h
 ·
  exact h
 ·
  obtain⟨r,rfl⟩:=h.ne
  have:=hs.at_
  simp at this
  omega
theorem OS.skip {t:ByteArray} {i:Nat} {L:List (List Int × List Int)} (h:OS t i L) (hi:i < t.size) (h34:¬ bn t i=34):OS t (i+1) L:=by
 obtain⟨junk,s,hs,hj,h⟩:=h
 cases junk with
 | nil =>
  rcases h with ⟨rfl,_⟩|h
  ·
   have:=hs.at_;simp at this;omega
  ·
   obtain⟨r,rfl⟩:=h.ne
   exact absurd hs.bn.2.1 h34
 | cons c junk=>exact⟨junk,s,hs.bn.2.2.1,fun x hx=>hj x (by simp [hx]),h⟩
theorem VX {w:List Int} (h:xV w):∀ c ∈ w,Sep c:=fun c hc=>by have:=h c hc;unfold Ws at this;unfold Sep;omega
theorem yW {w:List Int} (h:xV w):∀ c ∈ w,¬ c=34:=fun c hc=>by have:=h c hc;unfold Ws at this;omega
theorem zD1 {t:ByteArray} {p j:Nat} {w r:List Int} {c:Int} (hs:Seg (bytesOf t) p j (w ++ (c :: r))) (hw:xV w) (hc:c=44∨c=93∨c=125):p < t.size∧Fo (bn t p)∧¬ bn t p=34:=by
 cases w with
 | nil =>
  obtain⟨h1,h2,h3,h4⟩:=hs.bn
  unfold Fo
  exact⟨by omega,by omega,by omega⟩
 | cons x w =>
  obtain⟨h1,h2,h3,h4⟩:=hs.bn
  have hx:=hw x (by simp)
  unfold Fo
  rw [h2]
  exact⟨by omega, .inl hx,by unfold Ws at hx;omega⟩
theorem OS.take {t:ByteArray} {i:Nat} {L:List (List Int × List Int)} (h:OS t i L) (hi:i < t.size) (h34:bn t i=34) :
  ∃ k v L' q p2 p3,L=(k,v) :: L'∧Seg (bytesOf t) i q k∧Qt k∧q≤p2∧(∀ p,q≤p→p < p2→Sep (bn t p))∧p2 < p3∧¬ Sep (bn t p2)∧Seg (bytesOf t) p2 p3 v∧Vl v∧p3 < t.size∧Fo (bn t p3)∧OS t (p3+1) L':=by
 obtain⟨junk,s,hs,hj,h⟩:=h
 cases junk with
 | cons c junk=>exact absurd hs.bn.2.1 (fun e=>hj c (by simp) (e.symm.trans h34))
 | nil =>
  rw [List.nil_append] at hs
  rcases h with ⟨rfl,_⟩|h
  ·
   have:=hs.at_;simp at this;omega
  have key:∀ {k w1 w2 v x:List Int},Seg (bytesOf t) i t.size (k ++ (w1 ++ (58 :: (w2 ++ (v ++ x)))))→Qt k→xV w1→xV w2→Vl v →
    ∃ q p2 p3,Seg (bytesOf t) i q k∧q≤p2∧(∀ p,q≤p→p < p2→Sep (bn t p))∧p2 < p3∧¬ Sep (bn t p2)∧Seg (bytesOf t) p2 p3 v∧Seg (bytesOf t) p3 t.size x:=by
   intro k w1 w2 v x hs hk hw1 hw2 hv
   obtain⟨q,s1,s2⟩:=hs.split
   obtain⟨p1,s3,s4⟩:=s2.split
   obtain⟨g5,h58,s5,_⟩:=s4.bn
   obtain⟨p2,s6,s7⟩:=s5.split
   obtain⟨p3,s8,s9⟩:=s7.split
   have a3:=s3.ge
   have a6:=s6.ge
   obtain⟨n,hn⟩:=hv
   obtain⟨c,r,rfl,hc⟩:=hn.head
   obtain⟨b1,b2,b3,b4⟩:=s8.bn
   refine⟨q,p2,p3,s1,by omega,fun p h1 h2=>?_,b1,by rw [b2];unfold Sep;omega,s8,s9⟩
   rcases Nat.lt_or_ge p p1 with h|h
   ·
    exact VX hw1 _ (s3.mem p h1 h)
   ·
    rcases Nat.lt_or_ge p1 p with h'|h'
    ·
     exact VX hw2 _ (s6.mem p (by omega) h2)
    ·
     obtain rfl:p=p1:=by omega
     rw [h58]
     exact .inr (.inr rfl)
  cases h with
  | @last k w1 w2 v w3 hk hw1 hw2 hv hw3 =>
   obtain⟨q,p2,p3,s1,a1,a2,a3,a4,s2,s3⟩:=key hs hk hw1 hw2 hv
   obtain⟨f1,f2,f3⟩:=zD1 s3 hw3 (by simp)
   refine⟨k,v,[],q,p2,p3,rfl,s1,hk,a1,a2,a3,a4,s2,hv,f1,f2,?_⟩
   refine OS.skip (i:=p3) ⟨w3 ++ [125],[],by rw [List.append_nil];exact s3,fun c hc=>?_, .inl ⟨rfl,rfl⟩⟩ f1 f3
   rcases List.mem_append.mp hc with hc|hc
   ·
    exact yW hw3 c hc
   ·
    rw [List.mem_singleton.mp hc];decide
  | @cons k w1 w2 v w3 w4 s L hk hw1 hw2 hv hw3 hw4 hm =>
   obtain⟨q,p2,p3,s1,a1,a2,a3,a4,s2,s3⟩:=key hs hk hw1 hw2 hv
   obtain⟨f1,f2,f3⟩:=zD1 s3 hw3 (by simp)
   refine⟨k,v,L,q,p2,p3,rfl,s1,hk,a1,a2,a3,a4,s2,hv,f1,f2,?_⟩
   refine OS.skip (i:=p3) ⟨w3 ++ (44 :: w4),s,by simpa using s3,fun c hc=>?_, .inr hm⟩ f1 f3
   rcases List.mem_append.mp hc with hc|hc
   ·
    exact yW hw3 c hc
   ·
    rcases List.mem_cons.mp hc with hc|hc
    ·
     rw [hc];decide
    ·
     exact yW hw4 c hc
def AS (t:ByteArray) (i:Nat) (L:List (List Int)):Prop :=
 ∃ junk s,Seg (bytesOf t) i t.size (junk ++ s)∧(∀ c ∈ junk,Ws c∨c=44)∧((L=[]∧s=[93])∨(L=[]∧s=[]∧junk=[])∨El s L)
theorem El.head {s:List Int} {L:List (List Int)} (h:El s L):∃ c r,s=c :: r∧¬ Sep c:=by
 cases h with
 | last h _=>obtain⟨n,hn⟩:=h;obtain⟨c,r,rfl,hc⟩:=hn.head;exact⟨c,_,rfl,by unfold Sep;omega⟩
 | cons h _ _ _=>obtain⟨n,hn⟩:=h;obtain⟨c,r,rfl,hc⟩:=hn.head;exact⟨c,_,rfl,by unfold Sep;omega⟩
theorem AS.end_ {t:ByteArray} {L:List (List Int)} {i:Nat} (h:AS t i L) (hi:t.size≤i):L=[]:=by
 obtain⟨junk,s,hs,_,h⟩:=h
 rcases h with ⟨h,_⟩|⟨h,_⟩|h
 ·
  exact h
 ·
  exact h
 ·
  obtain⟨c,r,rfl,_⟩:=h.head
  have:=hs.at_
  simp at this
  omega
theorem AS.take {t:ByteArray} {i:Nat} {L:List (List Int)} (h:AS t i L) (hi:i < t.size) :
  ∃ p2,i≤p2∧p2 < t.size∧(∀ p,i≤p→p < p2→Sep (bn t p))∧¬ Sep (bn t p2) ∧
   ((L=[]∧bn t p2=93∧p2+1=t.size)∨∃ v L' p3,L=v :: L'∧p2 < p3∧Seg (bytesOf t) p2 p3 v∧Vl v∧p3 < t.size∧Fo (bn t p3)∧AS t (p3+1) L'):=by
 obtain⟨junk,s,hs,hj,h⟩:=h
 obtain⟨p2,s1,s2⟩:=hs.split
 have a1:=s1.ge
 have hsep:∀ p,i≤p→p < p2→Sep (bn t p):=fun p h1 h2=>by
  have:=hj _ (s1.mem p h1 h2)
  unfold Ws at this
  unfold Sep
  omega
 rcases h with ⟨rfl,rfl⟩|⟨rfl,rfl,rfl⟩|h
 ·
  obtain⟨b1,b2,b3,b4⟩:=s2.bn
  have:=s2.at_
  simp at this
  exact⟨p2,a1,b1,hsep,by rw [b2];unfold Sep;omega, .inl ⟨rfl,b2,by omega⟩⟩
 ·
  have:=hs.at_
  simp at this
  omega
 ·
  obtain⟨c,r,he,hc⟩:=h.head
  have hb2:p2 < t.size∧¬ Sep (bn t p2):=by
   rw [he] at s2
   obtain⟨b1,b2,b3,b4⟩:=s2.bn
   exact⟨b1,by rw [b2];exact hc⟩
  refine⟨p2,a1,hb2.1,hsep,hb2.2, .inr ?_⟩
  have hlt:∀ {v x:List Int} {p3:Nat},Vl v→Seg (bytesOf t) p2 p3 v→p2 < p3:=by
   intro v x p3 ⟨n,hn⟩ hs
   obtain⟨c,e,rfl,_⟩:=hn.head
   exact hs.cons.1
  cases h with
  | @last v w hv hw =>
   obtain⟨p3,s3,s4⟩:=s2.split
   obtain⟨f1,f2,f3⟩:=zD1 s4 hw (by simp)
   refine⟨v,[],p3,rfl,hlt (x:=[]) hv s3,s3,hv,f1,f2,?_⟩
   cases w with
   | nil =>
    have h5:=s4.cons.2.2
    have:=s4.at_
    simp at this
    exact⟨[],[],by simpa using h5,fun c hc=>absurd hc (by simp), .inr (.inl ⟨rfl,rfl,rfl⟩)⟩
   | cons x w =>
    have h5:=s4.cons.2.2
    exact⟨w,[93],h5,fun c hc => .inl (hw c (by simp [hc])), .inl ⟨rfl,rfl⟩⟩
  | @cons v w w2 s L hv hw hw2 hm =>
   obtain⟨p3,s3,s4⟩:=s2.split
   obtain⟨f1,f2,f3⟩:=zD1 s4 hw (by simp)
   refine⟨v,L,p3,rfl,hlt (x:=[]) hv s3,s3,hv,f1,f2,?_⟩
   cases w with
   | nil =>
    have h5:=s4.cons.2.2
    exact⟨w2,s,h5,fun c hc => .inl (hw2 c hc), .inr (.inr hm)⟩
   | cons x w =>
    have h5:=s4.cons.2.2
    refine⟨w ++ (44 :: w2),s,by simpa using h5,fun c hc=>?_, .inr (.inr hm)⟩
    rcases List.mem_append.mp hc with hc|hc
    ·
     exact .inl (hw c (by simp [hc]))
    ·
     rcases List.mem_cons.mp hc with hc|hc
     ·
      exact .inr hc
     ·
      exact .inl (hw2 c hc)
end Go.Proofs.YtljhmnnhfnmhmaaGreatDoor.M
namespace Go.Proofs.YtljhmnnhfnmhmaaGreatDoor.M
open Go Go.RowKit Go.Proofs.YtljhmnnhfnmhmaaGreatDoorW.PrintWords Go.Proofs.YtljhmnnhfnmhmaaGreatDoor.G
def jt:List (List Int)→List Int
 | []=>[]
 | x :: l=>44 :: (x ++ jt l)
def jn:List (List Int)→List Int
 | []=>[]
 | x :: l=>x ++ jt l
theorem zHc (l:List (List Int)) (x:List Int):jt (l ++ [x])=jt l ++ 44 :: x:=by
 induction l with
 | nil=>simp [jt]
 | cons y l ih=>simp [jt,ih]
theorem zCc (l:List (List Int)) (x:List Int) (h:l≠[]):jn (l ++ [x])=jn l ++ 44 :: x:=by
 cases l with
 | nil=>exact absurd rfl h
 | cons y l=>simp [jn,zHc]
theorem zJ3 {l:List (List Int)} (h:∀ x ∈ l,Rng x):Rng (jt l):=by
 induction l with
 | nil=>exact Rng.nil
 | cons y l ih=>exact Rng.cons (by decide) ((h y (by simp)).app (ih (fun x hx=>h x (by simp [hx]))))
theorem V8 {l:List (List Int)} (h:∀ x ∈ l,Rng x):Rng (jn l):=by
 cases l with
 | nil=>exact Rng.nil
 | cons y l=>exact(h y (by simp)).app (zJ3 (fun x hx=>h x (by simp [hx])))
theorem JQ (l:List (List Int)) (k:Nat) (x:List Int) (h:l[k]?=some x):jn (l.take (k+1))=(if k=0 then jn (l.take k) else jn (l.take k) ++ [44]) ++ x:=by
 have hk:k < l.length:=(List.getElem?_eq_some_iff.1 h).1
 have e:l.take (k+1)=l.take k ++ [x]:=by rw [List.take_add_one,h];rfl
 rw [e]
 by_cases h0:k=0
 ·
  subst h0;simp [jn,jt]
 ·
  have hne:l.take k≠[]:=by
   intro h1
   have h2:(l.take k).length=k:=by rw [List.length_take];omega
   rw [h1] at h2
   simp at h2
   omega
  rw [if_neg h0,zCc _ _ hne,List.append_assoc]
  rfl
theorem KD (l:List (List Int)):∀ k,(jt (l.take k)).length≤(jt l).length:=by
 induction l with
 | nil=>intro k;simp
 | cons y l ih =>
  intro k
  cases k with
  | zero=>simp [jt]
  | succ k=>simp [jt];exact ih k
theorem yD (l:List (List Int)) (k:Nat):(jn (l.take k)).length≤(jn l).length:=by
 cases l with
 | nil=>simp
 | cons y l =>
  cases k with
  | zero=>simp [jn]
  | succ k=>simp [jn];exact KD l k
structure OT (t:ByteArray) (L:List (List Int × List Int)):Prop where
 sz:t.size≤1048576
 pos:0 < t.size
 head:bn t 0=123
 os:OS t 1 L
structure AT2 (t:ByteArray) (L:List (List Int)):Prop where
 sz:t.size≤1048576
 pos:0 < t.size
 head:bn t 0=91
 os:AS t 1 L
def msz:List (List Int × List Int)→Nat
 | []=>0
 | kv :: L=>kv.1.length+kv.2.length+2+msz L
theorem Mb.facts {s:List Int} {L:List (List Int × List Int)} (h:Mb s L) (hr:Rng s):L≠[]∧msz L≤s.length∧∀ kv ∈ L,Rng kv.1∧Rng kv.2∧Qt kv.1∧Vl kv.2:=by
 induction h with
 | @last k w1 w2 v w3 hk hw1 hw2 hv hw3 =>
  refine⟨by simp,by simp only [msz,List.length_append,List.length_cons,List.length_nil];omega,fun kv hkv=>?_⟩
  rw [List.mem_singleton.mp hkv]
  exact⟨hr.left,fun z hz=>hr z (by simp [hz]),hk,hv⟩
 | @cons k w1 w2 v w3 w4 s L hk hw1 hw2 hv hw3 hw4 hm ih =>
  obtain⟨h1,h2,h3⟩:=ih (fun z hz=>hr z (by simp [hz]))
  refine⟨by simp,by simp only [msz,List.length_append,List.length_cons];omega,fun kv hkv=>?_⟩
  rcases List.mem_cons.mp hkv with hkv|hkv
  ·
   rw [hkv]
   exact⟨hr.left,fun z hz=>hr z (by simp [hz]),hk,hv⟩
  ·
   exact h3 kv hkv
theorem OS.facts {t:ByteArray} {i:Nat} {L:List (List Int × List Int)} (h:OS t i L):msz L+i≤t.size∧∀ kv ∈ L,Rng kv.1∧Rng kv.2∧Qt kv.1∧Vl kv.2:=by
 obtain⟨junk,s,hs,hj,h⟩:=h
 have hl:=hs.at_
 rw [List.length_append] at hl
 rcases h with ⟨rfl,rfl⟩|h
 ·
  exact⟨by simp only [msz];omega,fun kv h=>by cases h⟩
 ·
  obtain⟨h1,h2,h3⟩:=h.facts (J8 hs).right
  exact⟨by omega,h3⟩
def esz:List (List Int)→Nat
 | []=>0
 | v :: L=>v.length+1+esz L
theorem El.facts {s:List Int} {L:List (List Int)} (h:El s L) (hr:Rng s):L≠[]∧esz L≤s.length∧∀ v ∈ L,Rng v∧Vl v:=by
 induction h with
 | @last v w hv hw =>
  refine⟨by simp,by simp only [esz,List.length_append,List.length_cons,List.length_nil];omega,fun x hx=>?_⟩
  rw [List.mem_singleton.mp hx]
  exact⟨hr.left,hv⟩
 | @cons v w w2 s L hv hw hw2 hm ih =>
  obtain⟨h1,h2,h3⟩:=ih (fun z hz=>hr z (by simp [hz]))
  refine⟨by simp,by simp only [esz,List.length_append,List.length_cons];omega,fun x hx=>?_⟩
  rcases List.mem_cons.mp hx with hx|hx
  ·
   rw [hx]
   exact⟨hr.left,hv⟩
  ·
   exact h3 x hx
theorem AS.facts {t:ByteArray} {i:Nat} {L:List (List Int)} (h:AS t i L):esz L+i≤t.size∧∀ v ∈ L,Rng v∧Vl v:=by
 obtain⟨junk,s,hs,hj,h⟩:=h
 have hl:=hs.at_
 rw [List.length_append] at hl
 rcases h with ⟨rfl,rfl⟩|⟨rfl,rfl,rfl⟩|h
 ·
  exact⟨by simp only [esz];simp at hl;omega,fun kv h=>by cases h⟩
 ·
  exact⟨by simp only [esz];simp at hl;omega,fun kv h=>by cases h⟩
 ·
  obtain⟨h1,h2,h3⟩:=h.facts (J8 hs).right
  exact⟨by omega,h3⟩
theorem zJ2 (l:List (List Int)):(jt l).length=esz l:=by
 induction l with
 | nil=>rfl
 | cons y l ih=>simp only [jt,esz,List.length_cons,List.length_append,ih];omega
theorem kS (l:List (List Int)):(jn l).length≤esz l:=by
 cases l with
 | nil=>simp [jn]
 | cons y l=>simp only [jn,esz,List.length_append,zJ2];omega
theorem WH (L:List (List Int × List Int)):esz (L.map Prod.snd)≤msz L:=by
 induction L with
 | nil=>simp [esz,msz]
 | cons y l ih=>simp only [List.map_cons,esz,msz];omega
theorem uQ (L:List (List Int)):L.length≤esz L:=by
 induction L with
 | nil=>simp [esz]
 | cons y l ih=>simp only [List.length_cons,esz];omega
def bx (l:List (List Int)):List Int:=91 :: (jn l ++ [93])
theorem zGy {l:List (List Int)} (h:∀ v ∈ l,Vl v) (hne:l≠[]):El (jn l ++ [93]) l:=by
 induction l with
 | nil=>exact absurd rfl hne
 | cons x l ih =>
  cases l with
  | nil =>
   have:=El.last (v:=x) (w:=[]) (h x (by simp)) xV.nil
   simpa [jn,jt] using this
  | cons y l =>
   have:=El.cons (v:=x) (w:=[]) (w2:=[]) (h x (by simp)) xV.nil xV.nil (ih (fun v hv=>h v (by simp [hv])) (by simp))
   simpa [jn,jt] using this
theorem zJe {l:List (List Int)} (h:∀ v ∈ l,Vl v) (hr:∀ v ∈ l,Rng v) (hs:esz l≤1000000):AT2 (strOfNums (bx l)) l:=by
 have hrg:Rng (bx l):=Rng.cons (by decide) ((V8 hr).app (Rng.cons (by decide) Rng.nil))
 have hb:=vV hrg
 have hz:(strOfNums (bx l)).size=(jn l).length+2:=by rw [vO];simp [bx]
 have hlen:=kS l
 have hw:Seg (bytesOf (strOfNums (bx l))) 0 (strOfNums (bx l)).size (bx l):=by
  have:=Seg.whole (bytesOf (strOfNums (bx l)))
  rw [zW] at this
  rw [hb] at this ⊢
  exact this
 refine⟨by omega,by omega,hw.bn.2.1,[],jn l ++ [93],by simpa using hw.bn.2.2.1,fun c hc=>absurd hc (by simp),?_⟩
 cases l with
 | nil=>exact .inl ⟨rfl,rfl⟩
 | cons x l=>exact .inr (.inr (zGy h (by simp)))
end Go.Proofs.YtljhmnnhfnmhmaaGreatDoor.M
