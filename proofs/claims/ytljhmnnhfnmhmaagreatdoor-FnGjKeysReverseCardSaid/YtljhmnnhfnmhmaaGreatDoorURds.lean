/-
Lemmas of this claim; made short by a program of this work.
-/
import Derived.Test.YtljhmnnhfnmhmaaGreatDoorUM24
import Derived.Test.YtljhmnnhfnmhmaaGreatDoorUGx3
import Derived.Test.YtljhmnnhfnmhmaaGreatDoorUM0
set_option linter.unusedVariables false
set_option linter.unusedSimpArgs false
namespace Go.Proofs.YtljhmnnhfnmhmaaGreatDoor.M
open Go Go.RowKit Go.Proofs.YtljhmnnhfnmhmaaGreatDoorW.PrintWords Go.Proofs.YtljhmnnhfnmhmaaGreatDoor.G
section
variable (t:ByteArray) (ht:t.size≤1048576)
include ht
theorem qC:∀ (m i:Nat),t.size - i≤m→i≤t.size→∃ (j:Nat) (s:List Int),Ev (fun k=>zM.f k t (i:Int)) (t,(j:Int))∧Seg (bytesOf t) i j s∧xV s:=by
 intro m
 induction m with
 | zero =>
  intro i hm hi
  refine⟨i,[],?_,Seg.nil WZ,zIc⟩
  refine Ev.step (g:=fun _=>some (t,(i:Int))) Ev.some (fun k=>?_)
  unfold zM.f zM.l0
  rw [if_neg (by omega)]
 | succ m ih =>
  intro i hm hi
  by_cases h1:i < t.size
  ·
   have hb:=Y1 t i h1
   by_cases h2:Ws ((bytesOf t).getD i 0)
   ·
    obtain⟨j,s,he,hs,hbl⟩:=ih (i+1) (by omega) (by omega)
    refine⟨j,_,?_,(Seg.one (by rw [zW];exact h1)).app hs,?_⟩
    ·
     refine Ev.step he (fun k=>?_)
     show zM.f (k+1) t i=zM.f k t ((i+1:Nat):Int)
     unfold zM.f
     conv=>lhs;unfold zM.l0
     rw [if_pos (by omega),if_pos (by omega),hb]
     have:vR.f ((bytesOf t).getD i 0)=some true:=by
      unfold vR.f
      rcases h2 with h|h|h|h <;> rw [h] <;> rfl
     rw [this,Option.bind_some,if_pos rfl,qV h1 ht]
    ·
     intro c hc
     rcases List.mem_append.mp hc with hc|hc
     ·
      rw [List.mem_singleton.mp hc];exact h2
     ·
      exact hbl c hc
   ·
    refine⟨i,[],?_,Seg.nil WZ,zIc⟩
    refine Ev.step (g:=fun _=>some (t,(i:Int))) Ev.some (fun k=>?_)
    unfold zM.f zM.l0
    rw [if_pos (by omega),if_pos (by omega),hb]
    have:vR.f ((bytesOf t).getD i 0)=some false:=by
     unfold Ws at h2
     unfold vR.f
     rw [if_neg (by omega),if_neg (by omega),if_neg (by omega)]
     have:((bytesOf t).getD i 0 == 13)=false:=beq_eq_false_iff_ne.mpr (by omega)
     rw [this]
    rw [this,Option.bind_some,if_neg (by decide)]
  ·
   refine⟨i,[],?_,Seg.nil WZ,zIc⟩
   refine Ev.step (g:=fun _=>some (t,(i:Int))) Ev.some (fun k=>?_)
   unfold zM.f zM.l0
   rw [if_neg (by omega)]
omit ht in
theorem jO (i:Nat) (hi:i≤t.size):xM.f t (i:Int)=some ((bytesOf t).getD i 0,t,(i:Int)):=by
 unfold xM.f
 by_cases h:i < t.size
 ·
  rw [if_pos (by omega),if_pos (by omega),Y1 t i h]
 ·
  rw [if_neg (by omega)]
  have:(bytesOf t)[i]?=none:=List.getElem?_eq_none (by rw [zW];omega)
  rw [List.getD,this]
  rfl
omit ht in
theorem j7 (i:Nat) (h:(bytesOf t).getD i 0≠0):i < t.size:=by
 rcases Nat.lt_or_ge i t.size with h2|h2
 ·
  exact h2
 ·
  exfalso
  apply h
  have:(bytesOf t)[i]?=none:=List.getElem?_eq_none (by rw [zW];omega)
  rw [List.getD,this]
  rfl
omit ht in
theorem ZZ (i:Nat) (c:Int) (h:(bytesOf t).getD i 0=c) (hc:c≠0):Seg (bytesOf t) i (i+1) [c]:=by
 subst h
 exact Seg.one (by rw [zW];exact j7 t i hc)
theorem y6 (i:Nat) (hi:i≤t.size) (a:Int) (ha:a≠0):(zP.f t (i:Int) a=some (true,t,((i+1:Nat):Int))∧Seg (bytesOf t) i (i+1) [a])∨zP.f t (i:Int) a=some (false,t,(i:Int)):=by
 unfold zP.f
 by_cases h:i < t.size
 ·
  rw [if_pos (by omega),if_pos (by omega),Y1 t i h]
  by_cases h2:(bytesOf t).getD i 0=a
  ·
   rw [if_pos h2,qV h ht]
   exact .inl ⟨rfl,ZZ t i a h2 ha⟩
  ·
   rw [if_neg h2]
   exact .inr rfl
 ·
  rw [if_neg (by omega)]
  exact .inr rfl
theorem KQ (i:Nat) (hi:i≤t.size) (a:Int) (ha:a≠0):(zP.f t (i:Int) a=some (true,t,((i+1:Nat):Int))∧Seg (bytesOf t) i (i+1) [a])∨(zP.f t (i:Int) a=some (false,t,(i:Int))∧¬ (bytesOf t).getD i 0=a):=by
 by_cases h2:(bytesOf t).getD i 0=a
 ·
  rcases y6 t ht i hi a ha with h|h
  ·
   exact .inl h
  ·
   exfalso
   have hlt:=j7 t i (by rw [h2];exact ha)
   unfold zP.f at h
   rw [if_pos (by omega),if_pos (by omega),Y1 t i hlt,if_pos h2] at h
   simp at h
 ·
  rcases y6 t ht i hi a ha with h|h
  ·
   exact absurd h.2.cons.2.1 h2
  ·
   exact .inr ⟨h,h2⟩
theorem zBu (i0:Nat):∀ (m i:Nat),t.size - i≤m→i≤t.size→∃ (j:Nat) (s:List Int),Ev (fun k=>zZ.l0 k (i0:Int) ((bytesOf t).getD i 0) t (i:Int)) (decide ((j:Int) > (i0:Int)),t,(j:Int))∧Seg (bytesOf t) i j s∧Z1 s:=by
 intro m
 induction m with
 | zero =>
  intro i hm hi
  refine⟨i,[],?_,Seg.nil WZ,zIc⟩
  refine Ev.step (g:=fun _=>some (decide ((i:Int) > (i0:Int)),t,(i:Int))) Ev.some (fun k=>?_)
  unfold zZ.l0
  have h0:(bytesOf t).getD i 0=0:=by
   have:(bytesOf t)[i]?=none:=List.getElem?_eq_none (by rw [zW];omega)
   rw [List.getD,this]
   rfl
  rw [h0,if_neg (by decide)]
 | succ m ih =>
  intro i hm hi
  by_cases h1:48≤(bytesOf t).getD i 0∧(bytesOf t).getD i 0≤57
  ·
   have hlt:=j7 t i (by omega)
   obtain⟨j,s,he,hs,hd⟩:=ih (i+1) (by omega) (by omega)
   refine⟨j,_,?_,(Seg.one (by rw [zW];exact hlt)).app hs,?_⟩
   ·
    refine Ev.step he (fun k=>?_)
    conv=>lhs;unfold zZ.l0
    rw [if_pos h1.1,if_pos h1.2,qV hlt ht,jO t (i+1) (by omega),Option.bind_some]
   ·
    intro c hc
    rcases List.mem_append.mp hc with hc|hc
    ·
     rw [List.mem_singleton.mp hc];exact h1
    ·
     exact hd c hc
  ·
   refine⟨i,[],?_,Seg.nil WZ,zIc⟩
   refine Ev.step (g:=fun _=>some (decide ((i:Int) > (i0:Int)),t,(i:Int))) Ev.some (fun k=>?_)
   unfold zZ.l0
   by_cases h2:48≤(bytesOf t).getD i 0
   ·
    rw [if_pos h2,if_neg (by omega)]
   ·
    rw [if_neg h2]
theorem wA (i:Nat) (hi:i≤t.size):∃ (j:Nat) (s:List Int) (b:Bool),Ev (fun k=>zZ.f k t (i:Int)) (b,t,(j:Int))∧Seg (bytesOf t) i j s∧Z1 s∧(b=true→s≠[]):=by
 obtain⟨j,s,he,hs,hd⟩:=zBu t ht i (t.size - i) i (Nat.le_refl _) hi
 refine⟨j,s,decide ((j:Int) > (i:Int)),?_,hs,hd,?_⟩
 ·
  refine he.eq (fun k=>?_)
  unfold zZ.f
  rw [jO t i hi,Option.bind_some]
 ·
  intro hb h0
  have h1:=hs.at_
  have h2:=of_decide_eq_true hb
  subst h0
  simp only [List.length_nil] at h1
  omega
end
section
variable (t:ByteArray) (ht:t.size≤1048576)
include ht
theorem XQ (x:Bool) (i:Nat) (hi:i≤t.size):∃ (j:Nat) (s:List Int) (b:Bool),Ev (fun k=>zN.j2 k x t (i:Int)) (b,t,(j:Int))∧Seg (bytesOf t) i j s∧(b=true→(x=true∧N2 s)∨(x=false∧s=[])):=by
 have hil:i≤(bytesOf t).length:=by rw [zW];exact hi
 cases x with
 | false =>
  refine⟨i,[],true,Ev.step (g:=fun _=>some (true,t,(i:Int))) Ev.some (fun k=>?_),Seg.nil hil,fun _ => .inr ⟨rfl,rfl⟩⟩
  rw [zN.j2,if_neg (by simp)]
 | true =>
  rcases y6 t ht i hi 43 (by decide) with ⟨h,hs⟩|h
  ·
   obtain⟨j,s,b,he,hs2,hd,hne⟩:=wA t ht (i+1) zId
   refine⟨j,_,b,Ev.step (he.bind (g:=fun k bt144=>some (bt144.1,bt144.2.1,bt144.2.2)) Ev.some) (fun k=>?_),hs.app hs2,fun hb => .inl ⟨rfl,[43],s,rfl, .inr (.inl rfl),hd,hne hb⟩⟩
   rw [zN.j2,if_pos rfl,h,Option.bind_some,if_pos rfl]
  ·
   rcases y6 t ht i hi 45 (by decide) with ⟨h2,hs⟩|h2
   ·
    obtain⟨j,s,b,he,hs2,hd,hne⟩:=wA t ht (i+1) zId
    refine⟨j,_,b,Ev.step (he.bind (g:=fun k bt144=>some (bt144.1,bt144.2.1,bt144.2.2)) Ev.some) (fun k=>?_),hs.app hs2,fun hb => .inl ⟨rfl,[45],s,rfl, .inr (.inr rfl),hd,hne hb⟩⟩
    rw [zN.j2,if_pos rfl,h,Option.bind_some,if_neg (by simp),h2,Option.bind_some]
   ·
    obtain⟨j,s,b,he,hs2,hd,hne⟩:=wA t ht i hi
    refine⟨j,_,b,Ev.step (he.bind (g:=fun k bt144=>some (bt144.1,bt144.2.1,bt144.2.2)) Ev.some) (fun k=>?_),hs2,fun hb => .inl ⟨rfl,[],s,rfl, .inl rfl,hd,hne hb⟩⟩
    rw [zN.j2,if_pos rfl,h,Option.bind_some,if_neg (by simp),h2,Option.bind_some]
theorem YA (x:Bool) (i:Nat) (hi:i≤t.size):∃ (j:Nat) (s:List Int) (b:Bool),Ev (fun k=>zN.j1 k x t (i:Int)) (b,t,(j:Int))∧Seg (bytesOf t) i j s∧(b=true→x=false∧N1 s):=by
 have hil:i≤(bytesOf t).length:=by rw [zW];exact hi
 cases x with
 | true =>
  refine⟨i,[],false,Ev.step (g:=fun _=>some (false,t,(i:Int))) Ev.some (fun k=>?_),Seg.nil hil,fun h=>by cases h⟩
  rw [zN.j1,if_pos rfl]
 | false =>
  rcases y6 t ht i hi 101 (by decide) with ⟨h,hs⟩|h
  ·
   obtain⟨j,s,b,he,hs2,hn⟩:=XQ t ht true (i+1) zId
   refine⟨j,_,b,Ev.step he (fun k=>?_),hs.app hs2,fun hb=>⟨rfl, .inr ⟨101,s,rfl, .inl rfl,?_⟩⟩⟩
   ·
    rw [zN.j1,if_neg (by simp),h,Option.bind_some,if_pos rfl]
   ·
    rcases hn hb with ⟨_,h⟩|⟨h,_⟩
    ·
     exact h
    ·
     cases h
  ·
   rcases y6 t ht i hi 69 (by decide) with ⟨h2,hs⟩|h2
   ·
    obtain⟨j,s,b,he,hs2,hn⟩:=XQ t ht true (i+1) zId
    refine⟨j,_,b,Ev.step he (fun k=>?_),hs.app hs2,fun hb=>⟨rfl, .inr ⟨69,s,rfl, .inr rfl,?_⟩⟩⟩
    ·
     rw [zN.j1,if_neg (by simp),h,Option.bind_some,if_neg (by simp),h2,Option.bind_some]
    ·
     rcases hn hb with ⟨_,h⟩|⟨h,_⟩
     ·
      exact h
     ·
      cases h
   ·
    obtain⟨j,s,b,he,hs2,hn⟩:=XQ t ht false i hi
    refine⟨j,_,b,Ev.step he (fun k=>?_),hs2,fun hb=>⟨rfl, .inl ?_⟩⟩
    ·
     rw [zN.j1,if_neg (by simp),h,Option.bind_some,if_neg (by simp),h2,Option.bind_some]
    ·
     rcases hn hb with ⟨h,_⟩|⟨_,h⟩
     ·
      cases h
     ·
      exact h
theorem Q9 (x:Bool) (i:Nat) (hi:i≤t.size):∃ (j:Nat) (s:List Int) (b:Bool),Ev (fun k=>zN.j0 k x t (i:Int)) (b,t,(j:Int))∧Seg (bytesOf t) i j s∧(b=true→x=false∧N0 s):=by
 have hil:i≤(bytesOf t).length:=by rw [zW];exact hi
 cases x with
 | true =>
  refine⟨i,[],false,Ev.step (g:=fun _=>some (false,t,(i:Int))) Ev.some (fun k=>?_),Seg.nil hil,fun h=>by cases h⟩
  rw [zN.j0,if_pos rfl]
 | false =>
  rcases y6 t ht i hi 46 (by decide) with ⟨h,hs⟩|h
  ·
   obtain⟨j,s,b,he,hs2,hd,hne⟩:=wA t ht (i+1) zId
   obtain⟨j2,s2,b2,he2,hs3,hn⟩:=YA t ht (!b) j (by have:=hs2.le;rw [zW] at this;exact this)
   refine⟨j2,_,b2,Ev.step (he.bind (g:=fun k bt132=>zN.j1 k (!bt132.1) bt132.2.1 bt132.2.2) he2) (fun k=>?_),(hs.app hs2).app hs3,fun hb=>⟨rfl, .inl ⟨s,s2,by simp,hd,hne ?_,(hn hb).2⟩⟩⟩
   ·
    rw [zN.j0,if_neg (by simp),h,Option.bind_some,if_pos rfl]
   ·
    have:=(hn hb).1
    simpa using this
  ·
   obtain⟨j,s,b,he,hs2,hn⟩:=YA t ht false i hi
   refine⟨j,_,b,Ev.step he (fun k=>?_),hs2,fun hb=>⟨rfl, .inr (hn hb).2⟩⟩
   rw [zN.j0,if_neg (by simp),h,Option.bind_some,if_neg (by simp)]
theorem zCs (i:Nat) (hi:i≤t.size):∃ (j:Nat) (s:List Int) (b:Bool),Ev (fun k=>zN.f k t (i:Int)) (b,t,(j:Int))∧Seg (bytesOf t) i j s∧(b=true→Nm s):=by
 obtain⟨i1,s1,b1,h1,hs1,hn1⟩:∃ (i1:Nat) (s1:List Int) (b1:Bool),zP.f t (i:Int) 45=some (b1,t,(i1:Int))∧Seg (bytesOf t) i i1 s1∧(s1=[]∨s1=[45]):=by
  rcases y6 t ht i hi 45 (by decide) with ⟨h,hs⟩|h
  ·
   exact⟨_,_,_,h,hs, .inr rfl⟩
  ·
   exact⟨_,_,_,h,Seg.nil WZ, .inl rfl⟩
 have hi1:i1≤t.size:=by have:=hs1.le;rw [zW] at this;exact this
 rcases KQ t ht i1 hi1 48 (by decide) with ⟨h,hs⟩|⟨h,hnz⟩
 ·
  obtain⟨j,s,b,he,hs2,hn⟩:=Q9 t ht false (i1+1) zId
  refine⟨j,_,b,he.eq (fun k=>?_),(hs1.app hs).app hs2,fun hb=>⟨s1,[48],s,by simp,hn1, .inl rfl,(hn hb).2⟩⟩
  rw [zN.f,h1,Option.bind_some,h,Option.bind_some,if_pos rfl]
 ·
  obtain⟨j,s,b,he,hs2,hd,hne⟩:=wA t ht i1 hi1
  obtain⟨j2,s2,b2,he2,hs3,hn⟩:=Q9 t ht (!b) j (by have:=hs2.le;rw [zW] at this;exact this)
  refine⟨j2,_,b2,(he.bind (g:=fun k bt126=>zN.j0 k (!bt126.1) bt126.2.1 bt126.2.2) he2).eq (fun k=>?_),(hs1.app hs2).app hs3,fun hb=>⟨s1,s,s2,by simp,hn1, .inr ⟨hd,?_⟩,(hn hb).2⟩⟩
  ·
   rw [zN.f,h1,Option.bind_some,h,Option.bind_some,if_neg (by simp)]
  ·
   have h4:=hne (by have:=(hn hb).1;simpa using this)
   cases s with
   | nil=>exact absurd rfl h4
   | cons c e=>exact⟨c,e,rfl,by rw [← hs2.cons.2.1];exact hnz⟩
theorem YT (i:Nat) (hi:i≤t.size) (a:ByteArray) (ha:a.size≤16):(vA.f t (i:Int) a=some (true,t,((i+a.size:Nat):Int))∧Seg (bytesOf t) i (i+a.size) (bytesOf a))∨vA.f t (i:Int) a=some (false,t,(i:Int)):=by
 have w1:wrap64 ((t.size:Int) - (i:Int))=(t.size:Int) - (i:Int):=by unfold wrap64;omega
 have w2:wrap64 ((i:Int)+(a.size:Int))=((i+a.size:Nat):Int):=by unfold wrap64;omega
 unfold vA.f
 rw [w1,w2]
 by_cases h:(t.size:Int) - (i:Int) < (a.size:Int)
 ·
  rw [if_pos h]
  exact .inr rfl
 ·
  rw [if_neg h,if_pos (by omega),if_pos (by omega),if_pos (by omega)]
  by_cases h2:(t.extract (i:Int).toNat ((i+a.size:Nat):Int).toNat).toList=a.toList
  ·
   rw [if_pos h2]
   refine .inl ⟨rfl,?_,by rw [zW],by rw [zW];omega⟩
   rw [ByteArray.toList_eq,ByteArray.toList_eq,Int.toNat_natCast,Int.toNat_natCast] at h2
   have h3:(bytesOf t).drop i=((bytesOf t).drop i).take a.size ++ ((bytesOf t).drop i).drop a.size:=(List.take_append_drop _ _).symm
   rw [h3,List.drop_drop]
   congr 1
   rw [bytesOf,bytesOf,← h2]
   simp [ByteArray.data_extract,List.map_drop,List.map_take,List.drop_take]
  ·
   rw [if_neg h2]
   exact .inr rfl
end
def zIy (s:List Int):Prop:=∀ c ∈ s,Hx c
def zDp (s:List Int):Prop:=(∃ c,s=[c]∧Shc c)∨∃ h,s=117 :: h∧zIy h∧h.length=4
theorem zDp.sb {s l:List Int} (h:zDp s) (hl:Sb l):Sb (92 :: (s ++ l)):=by
 rcases h with ⟨c,rfl,hc⟩|⟨h,rfl,hh,h4⟩
 ·
  exact .short hc hl
 ·
  match h,h4,hh with
  | [a,b,c,d],_,hh=>exact .uni (hh a (by simp)) (hh b (by simp)) (hh c (by simp)) (hh d (by simp)) hl
section
variable (t:ByteArray) (ht:t.size≤1048576)
include ht
theorem zB2:∀ (m n i:Nat),n+m=4→i≤t.size→∃ (j:Nat) (s:List Int) (b:Bool),Ev (fun k=>zK.l0 k (n:Int) t (i:Int)) (b,t,(j:Int))∧Seg (bytesOf t) i j s∧(b=true→zIy s∧s.length=m):=by
 intro m
 induction m with
 | zero =>
  intro n i hn hi
  refine⟨i,[],true,Ev.step (g:=fun _=>some (true,t,(i:Int))) Ev.some (fun k=>?_),Seg.nil WZ,fun _=>⟨zIc,rfl⟩⟩
  rw [zK.l0,if_neg (by omega)]
 | succ m ih =>
  intro n i hn hi
  obtain⟨v,b,he,hb⟩:=zFv ((bytesOf t).getD i 0)
  cases b with
  | false =>
   refine⟨i,[],false,Ev.step (he.bind (g:=fun k bt109=>if bt109.2=true then (zK.l0 k (wrap64 ((n:Int)+1)) t (wrap64 ((i:Int)+1))) else (some (false,t,(i:Int)))) ?_) (fun k=>?_),Seg.nil WZ,fun h=>by cases h⟩
   ·
    simp only [Bool.false_eq_true,if_false]
    exact Ev.some
   ·
    rw [zK.l0,if_pos (by omega),jO t i hi,Option.bind_some]
  | true =>
   have hx:=hb rfl
   have hlt:=j7 t i (by unfold Hx at hx;omega)
   obtain⟨j,s,b2,he2,hs,hh⟩:=ih (n+1) (i+1) (by omega) (by omega)
   refine⟨j,_,b2,Ev.step (he.bind (g:=fun k bt109=>if bt109.2=true then (zK.l0 k (wrap64 ((n:Int)+1)) t (wrap64 ((i:Int)+1))) else (some (false,t,(i:Int)))) ?_) (fun k=>?_),(Seg.one (by rw [zW];exact hlt)).app hs,fun h=>?_⟩
   ·
    simp only [if_true]
    rw [qV hlt ht,qV (n:=4) (by omega) (by omega)]
    exact he2
   ·
    rw [zK.l0,if_pos (by omega),jO t i hi,Option.bind_some]
   ·
    refine⟨?_,by rw [List.length_append,(hh h).2];simp;omega⟩
    intro c hc
    rcases List.mem_append.mp hc with hc|hc
    ·
     rw [List.mem_singleton.mp hc];exact hx
    ·
     exact(hh h).1 c hc
theorem zB1 (i:Nat) (hi:i≤t.size) (x:Bool) (hx:x=true→Shc ((bytesOf t).getD i 0)):∃ (j:Nat) (s:List Int) (b:Bool),Ev (fun k=>zK.j0 k ((bytesOf t).getD i 0) x t (i:Int)) (b,t,(j:Int))∧Seg (bytesOf t) i j s∧(b=true→zDp s):=by
 by_cases h1:x=true
 ·
  have hlt:=j7 t i (by have:=hx h1;unfold Shc at this;omega)
  refine⟨i+1,_,true,Ev.step (g:=fun _=>some (true,t,((i+1:Nat):Int))) Ev.some (fun k=>?_),Seg.one (by rw [zW];exact hlt),fun _ => .inl ⟨_,rfl,hx h1⟩⟩
  rw [zK.j0,if_pos h1,qV hlt ht]
 ·
  by_cases h2:(bytesOf t).getD i 0=117
  ·
   have hlt:=j7 t i (by omega)
   obtain⟨j,s,b,he,hs,hh⟩:=zB2 t ht 4 0 (i+1) (by omega) (by omega)
   refine⟨j,_,b,Ev.step he (fun k=>?_),(Seg.one (by rw [zW];exact hlt)).app hs,fun h=>?_⟩
   ·
    rw [zK.j0,if_neg h1,if_pos h2,qV hlt ht]
    rfl
   ·
    rw [h2]
    exact .inr ⟨s,rfl,(hh h).1,(hh h).2⟩
  ·
   refine⟨i,[],false,Ev.step (g:=fun _=>some (false,t,(i:Int))) Ev.some (fun k=>?_),Seg.nil WZ,fun h=>by cases h⟩
   rw [zK.j0,if_neg h1,if_neg h2]
theorem zB0 (i:Nat) (hi:i≤t.size):∃ (j:Nat) (s:List Int) (b:Bool),Ev (fun k=>zK.f k t (i:Int)) (b,t,(j:Int))∧Seg (bytesOf t) i j s∧(b=true→zDp s):=by
 obtain⟨x,hx,hf⟩:∃ x:Bool,(x=true→Shc ((bytesOf t).getD i 0))∧∀ k,zK.f k t (i:Int)=zK.j0 k ((bytesOf t).getD i 0) x t (i:Int):=by
  have hb:∀ (c z:Int),(z == c)=true→z=c:=fun c z h=>beq_iff_eq.mp h
  by_cases h1:(bytesOf t).getD i 0=34
  ·
   exact⟨((bytesOf t).getD i 0 == 34),fun h=>by unfold Shc;omega,fun k=>by rw [zK.f,jO t i hi,Option.bind_some,if_pos h1]⟩
  by_cases h2:(bytesOf t).getD i 0=92
  ·
   exact⟨((bytesOf t).getD i 0 == 92),fun h=>by unfold Shc;omega,fun k=>by rw [zK.f,jO t i hi,Option.bind_some,if_neg h1,if_pos h2]⟩
  by_cases h3:(bytesOf t).getD i 0=47
  ·
   exact⟨((bytesOf t).getD i 0 == 47),fun h=>by unfold Shc;omega,fun k=>by rw [zK.f,jO t i hi,Option.bind_some,if_neg h1,if_neg h2,if_pos h3]⟩
  by_cases h4:(bytesOf t).getD i 0=98
  ·
   exact⟨((bytesOf t).getD i 0 == 98),fun h=>by unfold Shc;omega,fun k=>by rw [zK.f,jO t i hi,Option.bind_some,if_neg h1,if_neg h2,if_neg h3,if_pos h4]⟩
  by_cases h5:(bytesOf t).getD i 0=102
  ·
   exact⟨((bytesOf t).getD i 0 == 102),fun h=>by unfold Shc;omega,fun k=>by rw [zK.f,jO t i hi,Option.bind_some,if_neg h1,if_neg h2,if_neg h3,if_neg h4,if_pos h5]⟩
  by_cases h6:(bytesOf t).getD i 0=110
  ·
   exact⟨((bytesOf t).getD i 0 == 110),fun h=>by unfold Shc;omega,fun k=>by rw [zK.f,jO t i hi,Option.bind_some,if_neg h1,if_neg h2,if_neg h3,if_neg h4,if_neg h5,if_pos h6]⟩
  by_cases h7:(bytesOf t).getD i 0=114
  ·
   exact⟨((bytesOf t).getD i 0 == 114),fun h=>by unfold Shc;omega,fun k=>by rw [zK.f,jO t i hi,Option.bind_some,if_neg h1,if_neg h2,if_neg h3,if_neg h4,if_neg h5,if_neg h6,if_pos h7]⟩
  exact⟨((bytesOf t).getD i 0 == 116),fun h=>by have:=hb _ _ h;unfold Shc;omega,fun k=>by rw [zK.f,jO t i hi,Option.bind_some,if_neg h1,if_neg h2,if_neg h3,if_neg h4,if_neg h5,if_neg h6,if_neg h7]⟩
 obtain⟨j,s,b,he,hs,hh⟩:=zB1 t ht i hi x hx
 exact⟨j,s,b,he.eq hf,hs,hh⟩
theorem zCy:∀ (m i:Nat),t.size - i≤m→i≤t.size→∃ (j:Nat) (s:List Int) (b:Bool),Ev (fun k=>zV.l0 k t (i:Int)) (b,t,(j:Int))∧Seg (bytesOf t) i j s∧(b=true→Sb s):=by
 intro m
 induction m with
 | zero =>
  intro i hm hi
  refine⟨i,[],false,Ev.step (g:=fun _=>some (false,t,(i:Int))) Ev.some (fun k=>?_),Seg.nil WZ,fun h=>by cases h⟩
  rw [zV.l0,if_neg (by omega)]
 | succ m ih =>
  intro i hm hi
  by_cases h1:i < t.size
  case neg =>
   refine⟨i,[],false,Ev.step (g:=fun _=>some (false,t,(i:Int))) Ev.some (fun k=>?_),Seg.nil WZ,fun h=>by cases h⟩
   rw [zV.l0,if_neg (by omega)]
  have hb:=Y1 t i h1
  have hone:=Seg.one (l:=bytesOf t) (i:=i) (by rw [zW];exact h1)
  have hw:=qV h1 ht
  by_cases h2:(bytesOf t).getD i 0=34
  ·
   refine⟨i+1,_,true,Ev.step (g:=fun _=>some (true,t,((i+1:Nat):Int))) Ev.some (fun k=>?_),hone,fun _=>by rw [h2];exact .fin⟩
   rw [zV.l0,if_pos (by omega),if_pos (by omega),hb,if_pos h2,hw]
  by_cases h3:(bytesOf t).getD i 0 < 32
  ·
   refine⟨i+1,_,false,Ev.step (g:=fun _=>some (false,t,((i+1:Nat):Int))) Ev.some (fun k=>?_),hone,fun h=>by cases h⟩
   rw [zV.l0,if_pos (by omega),if_pos (by omega),hb,if_neg h2,if_pos h3,hw]
  by_cases h4:(bytesOf t).getD i 0=92
  ·
   obtain⟨j,s,b,he,hs,hh⟩:=zB0 t ht (i+1) (by omega)
   have hj:j≤t.size:=by have:=hs.le;rw [zW] at this;exact this
   have hge:=hs.ge
   cases b with
   | false =>
    refine⟨j,_,false,Ev.step (he.bind (g:=fun k bt111=>if bt111.1=true then (zV.l0 k bt111.2.1 bt111.2.2) else (some (false,bt111.2.1,bt111.2.2))) ?_) (fun k=>?_),hone.app hs,fun h=>by cases h⟩
    ·
     simp only [Bool.false_eq_true,if_false]
     exact Ev.some
    ·
     rw [zV.l0,if_pos (by omega),if_pos (by omega),hb,if_neg h2,if_neg h3,if_pos h4,hw]
   | true =>
    obtain⟨j2,s2,b2,he2,hs2,hh2⟩:=ih j (by omega) hj
    refine⟨j2,_,b2,Ev.step (he.bind (g:=fun k bt111=>if bt111.1=true then (zV.l0 k bt111.2.1 bt111.2.2) else (some (false,bt111.2.1,bt111.2.2))) ?_) (fun k=>?_),(hone.app hs).app hs2,fun h=>?_⟩
    ·
     simp only [if_true]
     exact he2
    ·
     rw [zV.l0,if_pos (by omega),if_pos (by omega),hb,if_neg h2,if_neg h3,if_pos h4,hw]
    ·
     rw [h4]
     exact(hh rfl).sb (hh2 h)
  ·
   obtain⟨j,s,b,he,hs,hh⟩:=ih (i+1) (by omega) (by omega)
   refine⟨j,_,b,Ev.step he (fun k=>?_),hone.app hs,fun h=>?_⟩
   ·
    rw [zV.l0,if_pos (by omega),if_pos (by omega),hb,if_neg h2,if_neg h3,if_neg h4,hw]
   ·
    exact .plain (by omega) h2 h4 (hh h)
theorem YJ (i:Nat) (h:(bytesOf t).getD i 0=34):∃ (j:Nat) (s:List Int) (b:Bool),Ev (fun k=>zV.f k t (i:Int)) (b,t,(j:Int))∧Seg (bytesOf t) i j s∧i < j∧(b=true→Qt s):=by
 have hlt:=j7 t i (by rw [h];decide)
 obtain⟨j,s,b,he,hs,hh⟩:=zCy t ht (t.size - (i+1)) (i+1) (Nat.le_refl _) (by omega)
 have hge:=hs.ge
 refine⟨j,_,b,he.eq (fun k=>?_),(ZZ t i 34 h (by decide)).app hs,by omega,fun hb=>?_⟩
 ·
  rw [zV.f,qV hlt ht]
 ·
  exact⟨s,rfl,hh hb⟩
end
def JJ (t:ByteArray) (f:Nat→Option (Int × Int × Int × List S47 × List S38 × Bool × ByteArray × Int)) (i:Nat):Prop :=
 ∃ (r1 r2 r3:Int) (r4:List S47) (r5:List S38) (b:Bool) (j:Nat) (s:List Int),Ev f (r1,r2,r3,r4,r5,b,t,(j:Int))∧Seg (bytesOf t) i j s∧(b=true→i < j∧∃ n:S25,RX 0 s [] [n])
theorem JJ.step {t:ByteArray} {f g:Nat→Option (Int × Int × Int × List S47 × List S38 × Bool × ByteArray × Int)} {i:Nat} (h:JJ t g i) (hs:∀ k,f (k+1)=g k):JJ t f i:=by
 obtain⟨r1,r2,r3,r4,r5,b,j,s,he,h2⟩:=h
 exact⟨r1,r2,r3,r4,r5,b,j,s,he.step hs,h2⟩
section
variable (t:ByteArray) (ht:t.size≤1048576)
include ht
omit ht in
theorem xQ {i j:Nat} {s:List Int} (h:Seg (bytesOf t) i j s):j≤t.size:=by have:=h.le;rw [zW] at this;exact this
theorem QE (i:Nat) (hi:i≤t.size) (x:Bool) (hx:x=true→((bytesOf t).getD i 0=45∨(48≤(bytesOf t).getD i 0∧(bytesOf t).getD i 0≤57))) (y0 y1 y2:Int):JJ t (fun k=>zO.j0 k true x t (i:Int) y0 y1 y2) i:=by
 by_cases h1:x=true
 ·
  obtain⟨j,s,b,he,hs,hn⟩:=zCs t ht i hi
  refine⟨3,y1,j,[],[],b,j,s,Ev.step (he.bind (g:=fun k bt254=>some (3,y1,bt254.2.2,([]:List (S47)),([]:List (S38)),bt254.1,bt254.2.1,bt254.2.2)) Ev.some) (fun k=>?_),hs,fun hb=>?_⟩
  ·
   rw [zO.j0,if_pos h1]
  ·
   have ha:=hs.at_
   have hl:=List.length_pos_iff.mpr (RX.num (hn hb)).ne
   exact⟨by omega,_, .num (hn hb)⟩
 ·
  rcases YT t ht i hi ⟨#[110,117,108,108]⟩ (by decide) with ⟨h,hs⟩|h
  ·
   refine⟨0,y1,_,[],[],true,i+4,_,Ev.step (g:=fun _=>some (0,y1,((i+4:Nat):Int),([]:List (S47)),([]:List (S38)),true,t,((i+4:Nat):Int))) Ev.some (fun k=>?_),hs,fun _=>⟨by omega,_, .word (.inl ⟨rfl,rfl⟩)⟩⟩
   rw [zO.j0,if_neg h1,h,Option.bind_some,if_pos rfl]
   rfl
  ·
   rcases YT t ht i hi ⟨#[102,97,108,115,101]⟩ (by decide) with ⟨h2,hs⟩|h2
   ·
    refine⟨1,y1,_,[],[],true,i+5,_,Ev.step (g:=fun _=>some (1,y1,((i+5:Nat):Int),([]:List (S47)),([]:List (S38)),true,t,((i+5:Nat):Int))) Ev.some (fun k=>?_),hs,fun _=>⟨by omega,_, .word (.inr (.inl ⟨rfl,rfl⟩))⟩⟩
    rw [zO.j0,if_neg h1,h,Option.bind_some,if_neg (by simp),h2,Option.bind_some,if_pos rfl]
    rfl
   ·
    rcases YT t ht i hi ⟨#[116,114,117,101]⟩ (by decide) with ⟨h3,hs⟩|h3
    ·
     refine⟨2,y1,_,[],[],true,i+4,_,Ev.step (g:=fun _=>some (2,y1,((i+4:Nat):Int),([]:List (S47)),([]:List (S38)),true,t,((i+4:Nat):Int))) Ev.some (fun k=>?_),hs,fun _=>⟨by omega,_, .word (.inr (.inr ⟨rfl,rfl⟩))⟩⟩
     rw [zO.j0,if_neg h1,h,Option.bind_some,if_neg (by simp),h2,Option.bind_some,if_neg (by simp),h3,Option.bind_some,if_pos rfl]
     rfl
    ·
     refine⟨y0,y1,_,[],[],false,i,[],Ev.step (g:=fun _=>some (y0,y1,(i:Int),([]:List (S47)),([]:List (S38)),false,t,(i:Int))) Ev.some (fun k=>?_),Seg.nil WZ,fun h=>by cases h⟩
     rw [zO.j0,if_neg h1,h,Option.bind_some,if_neg (by simp),h2,Option.bind_some,if_neg (by simp),h3,Option.bind_some,if_neg (by simp)]
def WW (i:Nat):Prop:=∀ (x5:List S47) (x6:List S38),x5.length≤i→x6.length≤i→∃ (r1:List S47) (r2:List S38) (b:Bool) (j:Nat) (s:List Int),Ev (fun k=>zL.l0 k x5 x6 t (i:Int)) (r1,r2,b,t,(j:Int))∧Seg (bytesOf t) i j s ∧
 (b=true→∃ us ns,RX 2 s us ns)
def zIu (i:Nat):Prop:=∀ (x4:List S38),x4.length≤i→∃ (r1:List S38) (b:Bool) (j:Nat) (s:List Int),Ev (fun k=>zS.l0 k x4 t (i:Int)) (r1,b,t,(j:Int))∧Seg (bytesOf t) i j s ∧
 (b=true→∃ ns,RX 1 s [] ns)
theorem zAi (i:Nat) (h:(bytesOf t).getD i 0=123) (ih:∀ j,i < j→j≤t.size→WW t j):∃ (r1:List S47) (r2:List S38) (b:Bool) (j:Nat) (s:List Int),Ev (fun k=>zL.f k t (i:Int)) (r1,r2,b,t,(j:Int))∧Seg (bytesOf t) i j s ∧
  (b=true→i < j∧∃ n:S25,RX 0 s [] [n]):=by
 have hlt:=j7 t i (by rw [h];decide)
 have h1:=ZZ t i 123 h (by decide)
 obtain⟨j,s,he,hs,hbl⟩:=qC t ht (t.size - (i+1)) (i+1) (Nat.le_refl _) (by omega)
 have hj:=xQ t hs
 have hge:=hs.ge
 rcases y6 t ht j hj 125 (by decide) with ⟨h2,hs2⟩|h2
 ·
  refine⟨[],[],true,j+1,_,Ev.step (he.bind (g:=fun k bt153=>(zP.f bt153.1 bt153.2 125).bind fun bt155=>(if bt155.1=true then (some (([]:List (S47)),([]:List (S38)),true,bt155.2.1,bt155.2.2)) else (zL.l0 k ([]:List (S47)) ([]:List (S38)) bt155.2.1 bt155.2.2))) (Ev.some.eq (fun k=>by rw [h2,Option.bind_some,if_pos rfl]))) (fun k=>?_),(h1.app hs).app hs2,fun _=>⟨by omega,_, .obj0 hbl⟩⟩
  ·
   rw [zL.f,qV hlt ht]
 ·
  obtain⟨r1,r2,b,j2,s2,he2,hs2,hb⟩:=ih j (by omega) hj [] [] (by simp) (by simp)
  have hge2:=hs2.ge
  refine⟨r1,r2,b,j2,_,Ev.step (he.bind (g:=fun k bt153=>(zP.f bt153.1 bt153.2 125).bind fun bt155=>(if bt155.1=true then (some (([]:List (S47)),([]:List (S38)),true,bt155.2.1,bt155.2.2)) else (zL.l0 k ([]:List (S47)) ([]:List (S38)) bt155.2.1 bt155.2.2))) (he2.eq (fun k=>by rw [h2,Option.bind_some,if_neg (by simp)]))) (fun k=>?_),(h1.app hs).app hs2,fun hbt=>⟨by omega,?_⟩⟩
  ·
   rw [zL.f,qV hlt ht]
  ·
   obtain⟨us,ns,hr⟩:=hb hbt
   exact⟨_,by simpa using RX.obj hbl hr⟩
theorem Y7 (i:Nat) (h:(bytesOf t).getD i 0=91) (ih:∀ j,i < j→j≤t.size→zIu t j):∃ (r1:List S38) (b:Bool) (j:Nat) (s:List Int),Ev (fun k=>zS.f k t (i:Int)) (r1,b,t,(j:Int))∧Seg (bytesOf t) i j s ∧
  (b=true→i < j∧∃ n:S25,RX 0 s [] [n]):=by
 have hlt:=j7 t i (by rw [h];decide)
 have h1:=ZZ t i 91 h (by decide)
 obtain⟨j,s,he,hs,hbl⟩:=qC t ht (t.size - (i+1)) (i+1) (Nat.le_refl _) (by omega)
 have hj:=xQ t hs
 have hge:=hs.ge
 rcases y6 t ht j hj 93 (by decide) with ⟨h2,hs2⟩|h2
 ·
  refine⟨[],true,j+1,_,Ev.step (he.bind (g:=fun k bt200=>(zP.f bt200.1 bt200.2 93).bind fun bt202=>(if bt202.1=true then (some (([]:List (S38)),true,bt202.2.1,bt202.2.2)) else (zS.l0 k ([]:List (S38)) bt202.2.1 bt202.2.2))) (Ev.some.eq (fun k=>by rw [h2,Option.bind_some,if_pos rfl]))) (fun k=>?_),(h1.app hs).app hs2,fun _=>⟨by omega,_, .arr0 hbl⟩⟩
  ·
   rw [zS.f,qV hlt ht]
 ·
  obtain⟨r1,b,j2,s2,he2,hs2,hb⟩:=ih j (by omega) hj [] (by simp)
  have hge2:=hs2.ge
  refine⟨r1,b,j2,_,Ev.step (he.bind (g:=fun k bt200=>(zP.f bt200.1 bt200.2 93).bind fun bt202=>(if bt202.1=true then (some (([]:List (S38)),true,bt202.2.1,bt202.2.2)) else (zS.l0 k ([]:List (S38)) bt202.2.1 bt202.2.2))) (he2.eq (fun k=>by rw [h2,Option.bind_some,if_neg (by simp)]))) (fun k=>?_),(h1.app hs).app hs2,fun hbt=>⟨by omega,?_⟩⟩
  ·
   rw [zS.f,qV hlt ht]
  ·
   obtain⟨ns,hr⟩:=hb hbt
   exact⟨_,by simpa using RX.arr hbl hr⟩
theorem WV (i:Nat) (hi:i≤t.size) (ihM:∀ j,i < j→j≤t.size→WW t j) (ihE:∀ j,i < j→j≤t.size→zIu t j):JJ t (fun k=>zO.f k t (i:Int)) i:=by
 have hh:=jO t i hi
 by_cases h1:(bytesOf t).getD i 0=123
 ·
  obtain⟨r1,r2,b,j,s,he,hs,hb⟩:=zAi t ht i h1 ihM
  refine⟨6,i,j,r1,r2,b,j,s,Ev.step (he.bind (g:=fun k bt236=>some (6,(i:Int),bt236.2.2.2.2,bt236.1,bt236.2.1,bt236.2.2.1,bt236.2.2.2.1,bt236.2.2.2.2)) Ev.some) (fun k=>?_),hs,hb⟩
  rw [zO.f,hh,Option.bind_some,if_pos h1]
 by_cases h2:(bytesOf t).getD i 0=91
 ·
  obtain⟨r1,b,j,s,he,hs,hb⟩:=Y7 t ht i h2 ihE
  refine⟨5,i,j,[],r1,b,j,s,Ev.step (he.bind (g:=fun k bt245=>some (5,(i:Int),bt245.2.2.2,([]:List (S47)),bt245.1,bt245.2.1,bt245.2.2.1,bt245.2.2.2)) Ev.some) (fun k=>?_),hs,hb⟩
  rw [zO.f,hh,Option.bind_some,if_neg h1,if_pos h2]
 by_cases h3:(bytesOf t).getD i 0=34
 ·
  obtain⟨j,s,b,he,hs,hlt,hb⟩:=YJ t ht i h3
  refine⟨4,i,j,[],[],b,j,s,Ev.step (he.bind (g:=fun k bt251=>some (4,(i:Int),bt251.2.2,([]:List (S47)),([]:List (S38)),bt251.1,bt251.2.1,bt251.2.2)) Ev.some) (fun k=>?_),hs,fun hbt=>⟨hlt,zH8 t ht hs (hb hbt)⟩⟩
  rw [zO.f,hh,Option.bind_some,if_neg h1,if_neg h2,if_pos h3]
 by_cases h4:(bytesOf t).getD i 0=45
 ·
  exact(QE t ht i hi true (fun _ => .inl h4) 0 i 0).step (fun k=>by rw [zO.f,hh,Option.bind_some,if_neg h1,if_neg h2,if_neg h3,if_pos h4])
 by_cases h5:48≤(bytesOf t).getD i 0
 ·
  exact(QE t ht i hi (decide ((bytesOf t).getD i 0≤57)) (fun h => .inr ⟨h5,of_decide_eq_true h⟩) 0 i 0).step (fun k=>by rw [zO.f,hh,Option.bind_some,if_neg h1,if_neg h2,if_neg h3,if_neg h4,if_pos h5])
 ·
  exact(QE t ht i hi false (fun h=>by cases h) 0 i 0).step (fun k=>by rw [zO.f,hh,Option.bind_some,if_neg h1,if_neg h2,if_neg h3,if_neg h4,if_neg h5])
end
section
variable (t:ByteArray) (ht:t.size≤1048576)
include ht
theorem zJ9 (p:Nat) (hp:p≤t.size) (hpos:0 < p) (x5:List S47) (x6:List S38) (h5:x5.length < p) (h6:x6.length < p) (x7:Int)
  (ihV:∀ j,p < j→j≤t.size→JJ t (fun k=>zO.f k t (j:Int)) j) (ihM:∀ j,p≤j→j≤t.size→WW t j) :
  ∃ (r1:List S47) (r2:List S38) (b:Bool) (j:Nat) (s:List Int),Ev (fun k=>zL.j1 k x5 x6 x7 false t (p:Int)) (r1,r2,b,t,(j:Int))∧Seg (bytesOf t) p j s ∧
   (b=true→∀ (key:List Int) (u:ByteArray),Qt key→Unq key u→∃ us ns,RX 2 (key ++ s) us ns):=by
 obtain⟨y,hy⟩:∃ q:List S47,q=x5 ++ [(⟨x7,(p:Int)⟩:S47)]:=⟨_,rfl⟩
 have hyl:y.length≤p:=by rw [hy,List.length_append,List.length_singleton];omega
 obtain⟨p1,w1,⟨K1,e1⟩,s1,b1⟩:=qC t ht (t.size - p) p (Nat.le_refl _) hp
 dsimp only at e1
 have hp1:=xQ t s1
 have g1:=s1.ge
 rcases y6 t ht p1 hp1 58 (by decide) with ⟨t2,s2⟩|t2
 case inr =>
  refine⟨[],[],false,p1,_,⟨K1+1,fun k hk=>by
   obtain⟨m,rfl⟩:∃ m,k=m+1:=⟨k - 1,by omega⟩
   show zL.j1 (m+1) x5 x6 x7 false t (p:Int)=_
   rw [zL.j1,if_neg (by simp),if_pos (by omega),Option.bind_some,← hy,e1 m (by omega),Option.bind_some,t2,Option.bind_some,if_neg (by simp)]⟩,s1,fun h=>by cases h⟩
 obtain⟨p3,w3,⟨K3,e3⟩,s3,b3⟩:=qC t ht (t.size - (p1+1)) (p1+1) (Nat.le_refl _) (xQ t s2)
 dsimp only at e3
 have hp3:=xQ t s3
 have g3:=s3.ge
 obtain⟨v1,v2,v3,v4,v5,vb,p4,sv,⟨K4,e4⟩,s4,hv⟩:=ihV p3 (by omega) hp3
 dsimp only at e4
 have hp4:=xQ t s4
 have g4:=s4.ge
 cases vb with
 | false =>
  refine⟨[],[],false,p4,_,⟨K1+K3+K4+1,fun k hk=>by
   obtain⟨m,rfl⟩:∃ m,k=m+1:=⟨k - 1,by omega⟩
   show zL.j1 (m+1) x5 x6 x7 false t (p:Int)=_
   rw [zL.j1,if_neg (by simp),if_pos (by omega),Option.bind_some,← hy,e1 m (by omega),Option.bind_some,t2,Option.bind_some,if_pos rfl,e3 m (by omega),Option.bind_some,e4 m (by omega),Option.bind_some,if_neg (by simp)]⟩,((s1.app s2).app s3).app s4,fun h=>by cases h⟩
 | true =>
 obtain⟨hlt4,c,hcok⟩:=hv rfl
 obtain⟨z,hz⟩:∃ q:List S38,q=x6 ++ [(⟨v1,v2,v3,v4,v5⟩:S38)]:=⟨_,rfl⟩
 have hzl:z.length≤p:=by rw [hz,List.length_append,List.length_singleton];omega
 obtain⟨p5,w5,⟨K5,e5⟩,s5,b5⟩:=qC t ht (t.size - p4) p4 (Nat.le_refl _) hp4
 dsimp only at e5
 have hp5:=xQ t s5
 have g5:=s5.ge
 have S5:=(((s1.app s2).app s3).app s4).app s5
 rcases y6 t ht p5 hp5 125 (by decide) with ⟨t6,s6⟩|t6
 ·
  refine⟨y,z,true,p5+1,_,⟨K1+K3+K4+K5+1,fun k hk=>by
   obtain⟨m,rfl⟩:∃ m,k=m+1:=⟨k - 1,by omega⟩
   show zL.j1 (m+1) x5 x6 x7 false t (p:Int)=_
   rw [zL.j1,if_neg (by simp),if_pos (by omega),Option.bind_some,← hy,e1 m (by omega),Option.bind_some,t2,Option.bind_some,if_pos rfl,e3 m (by omega),Option.bind_some,e4 m (by omega),Option.bind_some,if_pos rfl,if_pos (by omega),Option.bind_some,← hz,e5 m (by omega),Option.bind_some,t6,Option.bind_some,if_pos rfl]⟩,S5.app s6,fun _ key u hkey hu=>⟨_,_,by simpa using RX.mb1 hkey hu b1 b3 hcok b5⟩⟩
 rcases y6 t ht p5 hp5 44 (by decide) with ⟨t7,s7⟩|t7
 ·
  obtain⟨p8,w8,⟨K8,e8⟩,s8,b8⟩:=qC t ht (t.size - (p5+1)) (p5+1) (Nat.le_refl _) (xQ t s7)
  dsimp only at e8
  have hp8:=xQ t s8
  have g8:=s8.ge
  obtain⟨r1,r2,rb,p9,s9,⟨K9,e9⟩,S9,h9⟩:=ihM p8 (by omega) hp8 y z (by omega) (by omega)
  dsimp only at e9
  refine⟨r1,r2,rb,p9,_,⟨K1+K3+K4+K5+K8+K9+1,fun k hk=>by
   obtain⟨m,rfl⟩:∃ m,k=m+1:=⟨k - 1,by omega⟩
   show zL.j1 (m+1) x5 x6 x7 false t (p:Int)=_
   rw [zL.j1,if_neg (by simp),if_pos (by omega),Option.bind_some,← hy,e1 m (by omega),Option.bind_some,t2,Option.bind_some,if_pos rfl,e3 m (by omega),Option.bind_some,e4 m (by omega),Option.bind_some,if_pos rfl,if_pos (by omega),Option.bind_some,← hz,e5 m (by omega),Option.bind_some,t6,Option.bind_some,if_neg (by simp),t7,Option.bind_some,if_pos rfl,e8 m (by omega),Option.bind_some,e9 m (by omega)]⟩,((S5.app s7).app s8).app S9,fun hb key u hkey hu=>?_⟩
  obtain⟨us,ns,hr⟩:=h9 hb
  exact⟨_,_,by simpa using RX.mb hkey hu b1 b3 hcok b5 b8 hr⟩
 ·
  refine⟨[],[],false,p5,_,⟨K1+K3+K4+K5+1,fun k hk=>by
   obtain⟨m,rfl⟩:∃ m,k=m+1:=⟨k - 1,by omega⟩
   show zL.j1 (m+1) x5 x6 x7 false t (p:Int)=_
   rw [zL.j1,if_neg (by simp),if_pos (by omega),Option.bind_some,← hy,e1 m (by omega),Option.bind_some,t2,Option.bind_some,if_pos rfl,e3 m (by omega),Option.bind_some,e4 m (by omega),Option.bind_some,if_pos rfl,if_pos (by omega),Option.bind_some,← hz,e5 m (by omega),Option.bind_some,t6,Option.bind_some,if_neg (by simp),t7,Option.bind_some,if_neg (by simp)]⟩,S5,fun h=>by cases h⟩
theorem zF3 (i:Nat) (hi:i≤t.size) (ihV:∀ j,i < j→j≤t.size→JJ t (fun k=>zO.f k t (j:Int)) j) (ihM:∀ j,i < j→j≤t.size→WW t j):WW t i:=by
 intro x5 x6 h5 h6
 have hh:=jO t i hi
 by_cases h1:(bytesOf t).getD i 0=34
 ·
  obtain⟨p,s,b,e,sg,hlt,hb⟩:=YJ t ht i h1
  have hp:=xQ t sg
  have hst:∀ k,zL.l0 (k+1) x5 x6 t (i:Int)=(zV.f k t (i:Int)).bind fun bt161=>zL.j1 k x5 x6 (i:Int) (!bt161.1) bt161.2.1 bt161.2.2:=fun k=>by
   rw [zL.l0,hh,Option.bind_some,if_pos h1]
  cases b with
  | false =>
   refine⟨[],[],false,p,_,Ev.step (e.bind ?_) hst,sg,fun h=>by cases h⟩
   exact Ev.step (g:=fun _=>some (([]:List (S47)),([]:List (S38)),false,t,(p:Int))) Ev.some (fun k=>by
    show zL.j1 (k+1) x5 x6 (i:Int) true t (p:Int)=_
    rw [zL.j1,if_pos rfl])
  | true =>
   obtain⟨r1,r2,b2,p2,s2,e2,sg2,hh2⟩:=zJ9 t ht p hp (by omega) x5 x6 (by omega) (by omega) (i:Int) (fun j hj=>ihV j (by omega)) (fun j hj=>ihM j (by omega))
   exact⟨r1,r2,b2,p2,_,Ev.step (e.bind e2) hst,sg.app sg2,fun hbt=>by
    obtain⟨u,hu⟩:=zDe t ht sg (hb rfl)
    exact hh2 hbt s u (hb rfl) hu⟩
 ·
  refine⟨[],[],false,i,[],Ev.step (g:=fun k=>zL.j1 k x5 x6 (i:Int) true t (i:Int)) ?_ (fun k=>?_),Seg.nil WZ,fun h=>by cases h⟩
  ·
   exact Ev.step (g:=fun _=>some (([]:List (S47)),([]:List (S38)),false,t,(i:Int))) Ev.some (fun k=>by rw [zL.j1,if_pos rfl])
  ·
   rw [zL.l0,hh,Option.bind_some,if_neg h1]
theorem zJu (i:Nat) (hi:i≤t.size) (hV:JJ t (fun k=>zO.f k t (i:Int)) i) (ihE:∀ j,i < j→j≤t.size→zIu t j):zIu t i:=by
 intro x4 h4
 obtain⟨v1,v2,v3,v4,v5,vb,p4,sv,⟨K4,e4⟩,s4,hv⟩:=hV
 dsimp only at e4
 have hp4:=xQ t s4
 cases vb with
 | false =>
  refine⟨[],false,p4,_,⟨K4+1,fun k hk=>by
   obtain⟨m,rfl⟩:∃ m,k=m+1:=⟨k - 1,by omega⟩
   show zS.l0 (m+1) x4 t (i:Int)=_
   rw [zS.l0,e4 m (by omega),Option.bind_some,if_neg (by simp)]⟩,s4,fun h=>by cases h⟩
 | true =>
 obtain⟨hlt4,c,hcok⟩:=hv rfl
 obtain⟨z,hz⟩:∃ q:List S38,q=x4 ++ [(⟨v1,v2,v3,v4,v5⟩:S38)]:=⟨_,rfl⟩
 have hzl:z.length≤i+1:=by rw [hz,List.length_append,List.length_singleton];omega
 obtain⟨p5,w5,⟨K5,e5⟩,s5,b5⟩:=qC t ht (t.size - p4) p4 (Nat.le_refl _) hp4
 dsimp only at e5
 have hp5:=xQ t s5
 have g5:=s5.ge
 have S5:=s4.app s5
 rcases y6 t ht p5 hp5 93 (by decide) with ⟨t6,s6⟩|t6
 ·
  refine⟨z,true,p5+1,_,⟨K4+K5+1,fun k hk=>by
   obtain⟨m,rfl⟩:∃ m,k=m+1:=⟨k - 1,by omega⟩
   show zS.l0 (m+1) x4 t (i:Int)=_
   rw [zS.l0,e4 m (by omega),Option.bind_some,if_pos rfl,if_pos (by omega),Option.bind_some,← hz,e5 m (by omega),Option.bind_some,t6,Option.bind_some,if_pos rfl]⟩,S5.app s6,fun _=>⟨_,by simpa using RX.el1 hcok b5⟩⟩
 rcases y6 t ht p5 hp5 44 (by decide) with ⟨t7,s7⟩|t7
 ·
  obtain⟨p8,w8,⟨K8,e8⟩,s8,b8⟩:=qC t ht (t.size - (p5+1)) (p5+1) (Nat.le_refl _) (xQ t s7)
  dsimp only at e8
  have hp8:=xQ t s8
  have g8:=s8.ge
  obtain⟨r1,rb,p9,s9,⟨K9,e9⟩,S9,h9⟩:=ihE p8 (by omega) hp8 z (by omega)
  dsimp only at e9
  refine⟨r1,rb,p9,_,⟨K4+K5+K8+K9+1,fun k hk=>by
   obtain⟨m,rfl⟩:∃ m,k=m+1:=⟨k - 1,by omega⟩
   show zS.l0 (m+1) x4 t (i:Int)=_
   rw [zS.l0,e4 m (by omega),Option.bind_some,if_pos rfl,if_pos (by omega),Option.bind_some,← hz,e5 m (by omega),Option.bind_some,t6,Option.bind_some,if_neg (by simp),t7,Option.bind_some,if_pos rfl,e8 m (by omega),Option.bind_some,e9 m (by omega)]⟩,((S5.app s7).app s8).app S9,fun hb=>?_⟩
  obtain⟨ns,hr⟩:=h9 hb
  exact⟨_,by simpa using RX.el hcok b5 b8 hr⟩
 ·
  refine⟨[],false,p5,_,⟨K4+K5+1,fun k hk=>by
   obtain⟨m,rfl⟩:∃ m,k=m+1:=⟨k - 1,by omega⟩
   show zS.l0 (m+1) x4 t (i:Int)=_
   rw [zS.l0,e4 m (by omega),Option.bind_some,if_pos rfl,if_pos (by omega),Option.bind_some,← hz,e5 m (by omega),Option.bind_some,t6,Option.bind_some,if_neg (by simp),t7,Option.bind_some,if_neg (by simp)]⟩,S5,fun h=>by cases h⟩
theorem zE1:∀ (m i:Nat),t.size - i≤m→i≤t.size→JJ t (fun k=>zO.f k t (i:Int)) i∧WW t i∧zIu t i:=by
 intro m
 induction m with
 | zero =>
  intro i hm hi
  have hV:=WV t ht i hi (fun j h1 h2=>by omega) (fun j h1 h2=>by omega)
  exact⟨hV,zF3 t ht i hi (fun j h1 h2=>by omega) (fun j h1 h2=>by omega),zJu t ht i hi hV (fun j h1 h2=>by omega)⟩
 | succ m ih =>
  intro i hm hi
  have hV:=WV t ht i hi (fun j h1 h2=>(ih j (by omega) h2).2.1) (fun j h1 h2=>(ih j (by omega) h2).2.2)
  exact⟨hV,zF3 t ht i hi (fun j h1 h2=>(ih j (by omega) h2).1) (fun j h1 h2=>(ih j (by omega) h2).2.1),zJu t ht i hi hV (fun j h1 h2=>(ih j (by omega) h2).2.2)⟩
end
end Go.Proofs.YtljhmnnhfnmhmaaGreatDoor.M
