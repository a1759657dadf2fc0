/-
Lemmas of this claim; made short by a program of this work.
-/
import Derived.Test.YtljhmnnhfnmhmaaGreatDoorURds
import Derived.Test.YtljhmnnhfnmhmaaGreatDoorUM0
set_option linter.unusedVariables false
set_option linter.unusedSimpArgs false
namespace Go.Proofs.YtljhmnnhfnmhmaaGreatDoor.M
open Go Go.RowKit Go.Proofs.YtljhmnnhfnmhmaaGreatDoorW.PrintWords Go.Proofs.YtljhmnnhfnmhmaaGreatDoor.G
def hd (t:ByteArray) (i:Nat):Int:=(bytesOf t).getD i 0
def NF (c:Int):Prop:=¬ (48≤c∧c≤57)∧¬ c=46∧¬ c=101∧¬ c=69
theorem hexc (c:Int) (h:Hx c):∃ v,Ev (fun k=>zY.f k c) (v,true):=by
 rcases h with h|h|h
 ·
  refine⟨(c - 48) % 256,Ev.step (g:=fun _=>some ((c - 48) % 256,true)) Ev.some (fun k=>?_)⟩
  rw [zY.f,if_pos h.1,zY.j0,if_pos (by simp;exact h.2)]
 ·
  refine⟨((c - 97) % 256)+10,Ev.step (g:=fun k=>zY.j1 k c (decide (c≤102))) (Ev.step (g:=fun _=>some (((c - 97) % 256)+10,true)) Ev.some (fun k=>?_)) (fun k=>?_)⟩
  ·
   rw [zY.j1,if_pos (by simp;exact h.2)]
  ·
   rw [zY.f,if_pos (by omega),zY.j0,if_neg Zq0,if_pos h.1]
 ·
  refine⟨((c - 65) % 256)+10,Ev.step (g:=fun k=>zY.j1 k c false) (Ev.step (g:=fun _=>some (((c - 65) % 256)+10,true)) Ev.some (fun k=>?_)) (fun k=>?_)⟩
  ·
   rw [zY.j1,if_neg (by simp),if_pos h.1,if_pos h.2]
  ·
   rw [zY.f,if_pos (by omega),zY.j0,if_neg Zq0,if_neg (by omega)]
section
variable (t:ByteArray) (ht:t.size≤1048576)
include ht
theorem jY (i:Nat) (a:Int) (ha:a≠0) (h:(bytesOf t).getD i 0=a):zP.f t (i:Int) a=some (true,t,((i+1:Nat):Int)):=by
 have hlt:=j7 t i (by rw [h];exact ha)
 rcases KQ t ht i (by omega) a ha with h1|h1
 ·
  exact h1.1
 ·
  exact absurd h h1.2
theorem yJ (i:Nat) (hi:i≤t.size) (a:Int) (ha:a≠0) (h:¬ (bytesOf t).getD i 0=a):zP.f t (i:Int) a=some (false,t,(i:Int)):=by
 rcases KQ t ht i hi a ha with h1|h1
 ·
  exact absurd h1.2.cons.2.1 h
 ·
  exact h1.1
theorem jP:∀ (w:List Int) (i j:Nat),Seg (bytesOf t) i j w→xV w→¬ Ws ((bytesOf t).getD j 0)→Ev (fun k=>zM.f k t (i:Int)) (t,(j:Int)):=by
 intro w
 induction w with
 | nil =>
  intro i j hs hb hn
  have h1:=hs.at_
  have hl:=xQ t hs
  simp only [List.length_nil,Nat.add_zero] at h1
  subst h1
  obtain⟨p,s,he,hs2,hb2⟩:=qC t ht (t.size - j) j (Nat.le_refl _) hl
  cases s with
  | nil=>have:=hs2.at_;simp only [List.length_nil,Nat.add_zero] at this;subst this;exact he
  | cons c s=>exact absurd (hb2 c (by simp)) (by rw [← hs2.cons.2.1];exact hn)
 | cons c w ih =>
  intro i j hs hb hn
  obtain⟨h1,h2,h3⟩:=hs.cons
  have hlt:i < t.size:=by have:=xQ t hs;omega
  refine Ev.step (ih (i+1) j h3 (fun x hx=>hb x (by simp [hx])) hn) (fun k=>?_)
  have hc:=hb c (by simp)
  unfold zM.f
  conv=>lhs;unfold zM.l0
  rw [if_pos (by omega),if_pos (by omega),Y1 t i hlt,h2]
  have:vR.f c=some true:=by
   unfold vR.f
   rcases hc with h|h|h|h <;> rw [h] <;> rfl
  rw [this,Option.bind_some,if_pos rfl,qV hlt ht]
theorem JN (i j:Nat) (d:List Int) (hs:Seg (bytesOf t) i j d) (hd:Z1 d) (hn:¬ (48≤(bytesOf t).getD j 0∧(bytesOf t).getD j 0≤57)) (hne:d≠[]):Ev (fun k=>zZ.f k t (i:Int)) (true,t,(j:Int)):=by
 have hi:i≤t.size:=by have:=xQ t hs;have:=hs.ge;omega
 have key:∀ (d:List Int) (p:Nat),Seg (bytesOf t) p j d→Z1 d→Ev (fun k=>zZ.l0 k (i:Int) ((bytesOf t).getD p 0) t (p:Int)) (decide ((j:Int) > (i:Int)),t,(j:Int)):=by
  intro d
  induction d with
  | nil =>
   intro p hs hd
   have h1:=hs.at_
   simp only [List.length_nil,Nat.add_zero] at h1
   subst h1
   refine Ev.step (g:=fun _=>some (decide ((j:Int) > (i:Int)),t,(j:Int))) Ev.some (fun k=>?_)
   unfold zZ.l0
   by_cases h2:48≤(bytesOf t).getD j 0
   ·
    rw [if_pos h2,if_neg (by omega)]
   ·
    rw [if_neg h2]
  | cons c d ih =>
   intro p hs hd
   obtain⟨h1,h2,h3⟩:=hs.cons
   have hc:=hd c (by simp)
   have hlt:p < t.size:=by have:=xQ t hs;omega
   refine Ev.step (ih (p+1) h3 (fun x hx=>hd x (by simp [hx]))) (fun k=>?_)
   conv=>lhs;unfold zZ.l0
   rw [h2,if_pos hc.1,if_pos hc.2,qV hlt ht,jO t (p+1) (by omega),Option.bind_some]
 have hlt:i < j:=by have:=hs.at_;have:=List.length_pos_iff.mpr hne;omega
 have h:=key d i hs hd
 rw [show decide ((j:Int) > (i:Int))=true from decide_eq_true (by omega)] at h
 refine h.eq (fun k=>?_)
 unfold zZ.f
 rw [jO t i hi,Option.bind_some]
theorem j2_c (i j:Nat) (s:List Int) (hs:Seg (bytesOf t) i j s) (h:N2 s) (hn:NF ((bytesOf t).getD j 0)):Ev (fun k=>zN.j2 k true t (i:Int)) (true,t,(j:Int)):=by
 obtain⟨g,d,rfl,hg,hd,hne⟩:=h
 obtain⟨m,s1,s2⟩:=hs.split
 have hi:i≤t.size:=by have:=xQ t hs;have:=hs.ge;omega
 have he:=JN t ht m j d s2 hd hn.1 hne
 rcases hg with rfl|rfl|rfl
 ·
  have h1:=s1.at_
  simp only [List.length_nil,Nat.add_zero] at h1
  subst h1
  cases d with
  | nil=>exact absurd rfl hne
  | cons c d =>
   have hc:=hd c (by simp)
   have h2:=s2.cons.2.1
   refine Ev.step (he.bind (g:=fun k bt144=>some (bt144.1,bt144.2.1,bt144.2.2)) Ev.some) (fun k=>?_)
   rw [zN.j2,if_pos rfl,yJ t ht m hi 43 (by decide) (by omega),Option.bind_some,if_neg (by simp),yJ t ht m hi 45 (by decide) (by omega),Option.bind_some]
 ·
  have h1:=s1.at_
  simp only [List.length_cons,List.length_nil] at h1
  subst h1
  refine Ev.step (he.bind (g:=fun k bt144=>some (bt144.1,bt144.2.1,bt144.2.2)) Ev.some) (fun k=>?_)
  rw [zN.j2,if_pos rfl,jY t ht i 43 (by decide) s1.cons.2.1,Option.bind_some,if_pos rfl]
 ·
  have h1:=s1.at_
  simp only [List.length_cons,List.length_nil] at h1
  subst h1
  refine Ev.step (he.bind (g:=fun k bt144=>some (bt144.1,bt144.2.1,bt144.2.2)) Ev.some) (fun k=>?_)
  rw [zN.j2,if_pos rfl,yJ t ht i hi 43 (by decide) (by rw [s1.cons.2.1];decide),Option.bind_some,if_neg (by simp),jY t ht i 45 (by decide) s1.cons.2.1,Option.bind_some]
theorem j1_c (i j:Nat) (s:List Int) (hs:Seg (bytesOf t) i j s) (h:N1 s) (hn:NF ((bytesOf t).getD j 0)):Ev (fun k=>zN.j1 k false t (i:Int)) (true,t,(j:Int)):=by
 have hi:i≤t.size:=by have:=xQ t hs;have:=hs.ge;omega
 rcases h with rfl|⟨c,r,rfl,hc,h2⟩
 ·
  have h1:=hs.at_
  simp only [List.length_nil,Nat.add_zero] at h1
  subst h1
  refine Ev.step (g:=fun k=>zN.j2 k false t (j:Int)) (Ev.step (g:=fun _=>some (true,t,(j:Int))) Ev.some (fun k=>?_)) (fun k=>?_)
  ·
   rw [zN.j2,if_neg (by simp)]
  ·
   rw [zN.j1,if_neg (by simp),yJ t ht j hi 101 (by decide) hn.2.2.1,Option.bind_some,if_neg (by simp),yJ t ht j hi 69 (by decide) hn.2.2.2,Option.bind_some]
 ·
  obtain⟨h3,h4,h5⟩:=hs.cons
  have he:=j2_c t ht (i+1) j r h5 h2 hn
  refine Ev.step he (fun k=>?_)
  rcases hc with rfl|rfl
  ·
   rw [zN.j1,if_neg (by simp),jY t ht i 101 (by decide) h4,Option.bind_some,if_pos rfl]
  ·
   rw [zN.j1,if_neg (by simp),yJ t ht i hi 101 (by decide) (by rw [h4];decide),Option.bind_some,if_neg (by simp),jY t ht i 69 (by decide) h4,Option.bind_some]
omit ht in
theorem N1.hd {i j:Nat} {s:List Int} (hs:Seg (bytesOf t) i j s) (h:N1 s) (hn:NF ((bytesOf t).getD j 0)):¬ (48≤(bytesOf t).getD i 0∧(bytesOf t).getD i 0≤57)∧¬ (bytesOf t).getD i 0=46:=by
 rcases h with rfl|⟨c,r,rfl,hc,h2⟩
 ·
  have h1:=hs.at_
  simp only [List.length_nil,Nat.add_zero] at h1
  subst h1
  exact⟨hn.1,hn.2.1⟩
 ·
  have:=hs.cons.2.1
  omega
omit ht in
theorem N0.hd {i j:Nat} {s:List Int} (hs:Seg (bytesOf t) i j s) (h:N0 s) (hn:NF ((bytesOf t).getD j 0)):¬ (48≤(bytesOf t).getD i 0∧(bytesOf t).getD i 0≤57):=by
 rcases h with ⟨d,r,rfl,_⟩|h
 ·
  have:=hs.cons.2.1
  omega
 ·
  exact(N1.hd t hs h hn).1
theorem j0_c (i j:Nat) (s:List Int) (hs:Seg (bytesOf t) i j s) (h:N0 s) (hn:NF ((bytesOf t).getD j 0)):Ev (fun k=>zN.j0 k false t (i:Int)) (true,t,(j:Int)):=by
 have hi:i≤t.size:=by have:=xQ t hs;have:=hs.ge;omega
 rcases h with ⟨d,r,rfl,hd,hne,h1⟩|h1
 ·
  obtain⟨h3,h4,h5⟩:=hs.cons
  obtain⟨m,s1,s2⟩:=h5.split
  have he:=JN t ht (i+1) m d s1 hd (N1.hd t s2 h1 hn).1 hne
  have he2:=j1_c t ht m j r s2 h1 hn
  refine Ev.step (he.bind (g:=fun k (bt132:Bool × ByteArray × Int)=>zN.j1 k (!bt132.1) bt132.2.1 bt132.2.2) he2) (fun k=>?_)
  rw [zN.j0,if_neg (by simp),jY t ht i 46 (by decide) h4,Option.bind_some,if_pos rfl]
 ·
  have he:=j1_c t ht i j s hs h1 hn
  refine Ev.step he (fun k=>?_)
  rw [zN.j0,if_neg (by simp),yJ t ht i hi 46 (by decide) (N1.hd t hs h1 hn).2,Option.bind_some,if_neg (by simp)]
theorem zEw (i j:Nat) (s:List Int) (hs:Seg (bytesOf t) i j s) (h:Nm s) (hn:NF ((bytesOf t).getD j 0)):Ev (fun k=>zN.f k t (i:Int)) (true,t,(j:Int)):=by
 obtain⟨g,d,r,rfl,hg,hd,h0⟩:=h
 have hi:i≤t.size:=by have:=xQ t hs;have:=hs.ge;omega
 obtain⟨m,s1,s2⟩:=hs.split
 obtain⟨m2,s3,s4⟩:=s2.split
 have hm:m≤t.size:=by have:=xQ t s2;have:=s2.ge;omega
 have hdh:48≤(bytesOf t).getD m 0∧(bytesOf t).getD m 0≤57:=by
  rcases hd with rfl|⟨hd,c,e,rfl,_⟩
  ·
   rw [s3.cons.2.1];omega
  ·
   rw [s3.cons.2.1];exact hd c (by simp)
 have h1:∃ b,zP.f t (i:Int) 45=some (b,t,(m:Int)):=by
  rcases hg with rfl|rfl
  ·
   have:=s1.at_
   simp only [List.length_nil,Nat.add_zero] at this
   subst this
   exact⟨false,yJ t ht m hm 45 (by decide) (by omega)⟩
  ·
   have:=s1.at_
   simp only [List.length_cons,List.length_nil] at this
   subst this
   exact⟨true,jY t ht i 45 (by decide) s1.cons.2.1⟩
 obtain⟨b,h1⟩:=h1
 have he:=j0_c t ht m2 j r s4 h0 hn
 rcases hd with rfl|⟨hd,c,e,rfl,hc⟩
 ·
  have:=s3.at_
  simp only [List.length_cons,List.length_nil] at this
  subst this
  refine he.eq (fun k=>?_)
  rw [zN.f,h1,Option.bind_some,jY t ht m 48 (by decide) s3.cons.2.1,Option.bind_some,if_pos rfl]
 ·
  have hdg:=JN t ht m m2 (c :: e) s3 hd (N0.hd t s4 h0 hn) (by simp)
  refine(hdg.bind (g:=fun k (bt126:Bool × ByteArray × Int)=>zN.j0 k (!bt126.1) bt126.2.1 bt126.2.2) he).eq (fun k=>?_)
  rw [zN.f,h1,Option.bind_some,yJ t ht m hm 48 (by decide) (by rw [s3.cons.2.1];exact hc),Option.bind_some,if_neg (by simp)]
theorem QF (i j:Nat) (a:ByteArray) (ha:a.size≤16) (hs:Seg (bytesOf t) i j (bytesOf a)):vA.f t (i:Int) a=some (true,t,(j:Int)):=by
 have hj:=hs.at_
 have hl:=xQ t hs
 rw [zW] at hj
 rcases YT t ht i (by omega) a ha with h|h
 ·
  rw [h.1,hj]
 ·
  exfalso
  have w1:wrap64 ((t.size:Int) - (i:Int))=(t.size:Int) - (i:Int):=by unfold wrap64;omega
  have w2:wrap64 ((i:Int)+(a.size:Int))=((i+a.size:Nat):Int):=by unfold wrap64;omega
  unfold vA.f at h
  rw [w1,w2,if_neg (by omega),if_pos (by omega),if_pos (by omega),if_pos (by omega)] at h
  have h2:(t.extract (i:Int).toNat ((i+a.size:Nat):Int).toNat)=a:=by
   apply XB
   rw [Int.toNat_natCast,Int.toNat_natCast,qY,hs.eq,show i+a.size - i=(bytesOf a).length by rw [zW];omega,List.take_left']
   rfl
  rw [h2,if_pos rfl] at h
  simp at h
theorem KT (i:Nat) (hi:i≤t.size) (a:ByteArray) (ha:a.size≤16) (c:Int) (r:List Int) (hc:bytesOf a=c :: r) (h:¬ (bytesOf t).getD i 0=c):vA.f t (i:Int) a=some (false,t,(i:Int)):=by
 rcases YT t ht i hi a ha with h1|h1
 ·
  have:=h1.2
  rw [hc] at this
  exact absurd this.cons.2.1 h
 ·
  exact h1
theorem zBz (i:Nat) (hc:Shc ((bytesOf t).getD i 0)):Ev (fun k=>zK.f k t (i:Int)) (true,t,((i+1:Nat):Int)):=by
 have hlt:=j7 t i (by unfold Shc at hc;omega)
 have hj:∀ k x,zK.j0 (k+1) x true t (i:Int)=some (true,t,((i+1:Nat):Int)):=fun k x=>by rw [zK.j0,if_pos rfl,qV hlt ht]
 refine Ev.step (g:=fun _=>some (true,t,((i+1:Nat):Int))) Ev.some (fun k=>?_)
 rw [zK.f,jO t i (by omega),Option.bind_some]
 dsimp only
 rcases hc with h|h|h|h|h|h|h|h <;> rw [h]
 ·
  rw [if_neg (by decide),if_pos rfl];exact hj k _
 ·
  rw [if_neg (by decide),if_neg (by decide),if_pos rfl];exact hj k _
 ·
  rw [if_neg (by decide),if_neg (by decide),if_neg (by decide),if_pos rfl];exact hj k _
 ·
  rw [if_neg (by decide),if_neg (by decide),if_neg (by decide),if_neg (by decide),if_pos rfl];exact hj k _
 ·
  rw [if_neg (by decide),if_neg (by decide),if_neg (by decide),if_neg (by decide),if_neg (by decide),if_pos rfl];exact hj k _
 ·
  rw [if_neg (by decide),if_neg (by decide),if_neg (by decide),if_neg (by decide),if_neg (by decide),if_neg (by decide),if_pos rfl];exact hj k _
 ·
  rw [if_neg (by decide),if_neg (by decide),if_neg (by decide),if_neg (by decide),if_neg (by decide),if_neg (by decide),if_neg (by decide)];exact hj k _
 ·
  rw [if_pos rfl];exact hj k _
theorem zG0 (i:Nat) (hc:(bytesOf t).getD i 0=117) (hx:∀ m,m < 4→Hx ((bytesOf t).getD (i+1+m) 0)):Ev (fun k=>zK.f k t (i:Int)) (true,t,((i+5:Nat):Int)):=by
 have hlt:=j7 t i (by omega)
 have h5:i+5≤t.size:=by
  have:=j7 t (i+1+3) (by have:=hx 3 (by omega);unfold Hx at this;omega)
  omega
 have key:∀ (m n:Nat),n+m=4→Ev (fun k=>zK.l0 k (n:Int) t ((i+1+n:Nat):Int)) (true,t,((i+5:Nat):Int)):=by
  intro m
  induction m with
  | zero =>
   intro n hn
   obtain rfl:n=4:=by omega
   refine Ev.step (g:=fun _=>some (true,t,((i+5:Nat):Int))) Ev.some (fun k=>?_)
   rw [zK.l0,if_neg (by omega)]
  | succ m ih =>
   intro n hn
   obtain⟨v,he⟩:=hexc _ (hx n (by omega))
   have hw:wrap64 (((i+1+n:Nat):Int)+1)=((i+1+(n+1):Nat):Int):=by unfold wrap64;omega
   have hw2:wrap64 ((n:Int)+1)=((n+1:Nat):Int):=by unfold wrap64;omega
   refine Ev.step (he.bind (g:=fun k bt109=>if bt109.2=true then (zK.l0 k (wrap64 ((n:Int)+1)) t (wrap64 (((i+1+n:Nat):Int)+1))) else (some (false,t,((i+1+n:Nat):Int)))) ?_) (fun k=>?_)
   ·
    simp only [if_true]
    rw [hw,hw2]
    exact ih (n+1) (by omega)
   ·
    rw [zK.l0,if_pos (by omega),jO t (i+1+n) (by omega),Option.bind_some]
 refine Ev.step (g:=fun k=>zK.l0 k ((0:Nat):Int) t ((i+1+0:Nat):Int)) (key 4 0 rfl) (fun k=>?_)
 rw [zK.f,jO t i (by omega),Option.bind_some]
 dsimp only
 rw [hc,if_neg (by decide),if_neg (by decide),if_neg (by decide),if_neg (by decide),if_neg (by decide),if_neg (by decide),if_neg (by decide),zK.j0,if_neg (by decide),if_pos rfl,qV hlt ht]
 rfl
theorem sb_c (l:List Int) (hl:Sb l):∀ (i j:Nat),Seg (bytesOf t) i j l→Ev (fun k=>zV.l0 k t (i:Int)) (true,t,(j:Int)):=by
 induction hl with
 | fin =>
  intro i j hs
  obtain⟨h1,h2,h3⟩:=hs.cons
  have hj:=hs.at_
  simp only [List.length_cons,List.length_nil] at hj
  subst hj
  have hlt:=j7 t i (by omega)
  refine Ev.step (g:=fun _=>some (true,t,((i+1:Nat):Int))) Ev.some (fun k=>?_)
  rw [zV.l0,if_pos (by omega),if_pos (by omega),Y1 t i hlt,if_pos h2,qV hlt ht]
 | @plain c l h32 h34 h92 hl ih =>
  intro i j hs
  obtain⟨h1,h2,h3⟩:=hs.cons
  have hlt:i < t.size:=by have:=xQ t hs;omega
  refine Ev.step (ih (i+1) j h3) (fun k=>?_)
  rw [zV.l0,if_pos (by omega),if_pos (by omega),Y1 t i hlt,h2,if_neg h34,if_neg (by omega),if_neg h92,qV hlt ht]
 | @short c l hc hl ih =>
  intro i j hs
  obtain⟨h1,h2,h3⟩:=hs.cons
  obtain⟨h4,h5,h6⟩:=h3.cons
  have hlt:i < t.size:=by have:=xQ t hs;omega
  have he:=zBz t ht (i+1) (by rw [h5];exact hc)
  refine Ev.step (he.bind (g:=fun k bt111=>if bt111.1=true then (zV.l0 k bt111.2.1 bt111.2.2) else (some (false,bt111.2.1,bt111.2.2))) ?_) (fun k=>?_)
  ·
   simp only [if_true]
   exact ih (i+1+1) j h6
  ·
   rw [zV.l0,if_pos (by omega),if_pos (by omega),Y1 t i hlt,h2,if_neg (by decide),if_neg (by decide),if_pos rfl,qV hlt ht]
 | @uni a b c d l ha hb hc hd hl ih =>
  intro i j hs
  obtain⟨h1,h2,h3⟩:=hs.cons
  obtain⟨h4,h5,h6⟩:=h3.cons
  obtain⟨g1,a1,s1⟩:=h6.cons
  obtain⟨g2,a2,s2⟩:=s1.cons
  obtain⟨g3,a3,s3⟩:=s2.cons
  obtain⟨g4,a4,s4⟩:=s3.cons
  have hlt:i < t.size:=by have:=xQ t hs;omega
  have he:=zG0 t ht (i+1) h5 (fun m hm=>by
   have hm:m=0∨m=1∨m=2∨m=3:=by omega
   rcases hm with rfl|rfl|rfl|rfl
   ·
    rw [show i+1+1+0=i+1+1 by omega,a1];exact ha
   ·
    rw [a2];exact hb
   ·
    rw [show i+1+1+2=i+1+1+1+1 by omega,a3];exact hc
   ·
    rw [show i+1+1+3=i+1+1+1+1+1 by omega,a4];exact hd)
  refine Ev.step (he.bind (g:=fun k bt111=>if bt111.1=true then (zV.l0 k bt111.2.1 bt111.2.2) else (some (false,bt111.2.1,bt111.2.2))) ?_) (fun k=>?_)
  ·
   simp only [if_true]
   exact ih (i+1+1+1+1+1+1) j s4
  ·
   rw [zV.l0,if_pos (by omega),if_pos (by omega),Y1 t i hlt,h2,if_neg (by decide),if_neg (by decide),if_pos rfl,qV hlt ht]
theorem J4 (i j:Nat) (s:List Int) (hs:Seg (bytesOf t) i j s) (h:Qt s):Ev (fun k=>zV.f k t (i:Int)) (true,t,(j:Int)):=by
 obtain⟨b,rfl,hb⟩:=h
 obtain⟨h1,h2,h3⟩:=hs.cons
 have hlt:i < t.size:=by have:=xQ t hs;omega
 refine(sb_c t ht b hb (i+1) j h3).eq (fun k=>?_)
 rw [zV.f,qV hlt ht]
end
end Go.Proofs.YtljhmnnhfnmhmaaGreatDoor.M
namespace Go.Proofs.YtljhmnnhfnmhmaaGreatDoor.M
open Go Go.RowKit Go.Proofs.YtljhmnnhfnmhmaaGreatDoorW.PrintWords Go.Proofs.YtljhmnnhfnmhmaaGreatDoor.G
def uI (t:ByteArray) (p:S38) (n:S25):Prop:=Ev (fun k=>xA.f k t p.f0 p.f1 p.f2 p.f3 p.f4) (n.f0,n.f1,n.f2,n.f3)
def KZ (t:ByteArray) (y:S47) (u:ByteArray):Prop:=0≤y.f0∧y.f0≤y.f1∧y.f1≤(t.size:Int)∧Ev (fun k=>xD.f k (t.extract y.f0.toNat y.f1.toNat)) u
inductive Al2 {α β:Type} (P:α→β→Prop):List α→List β→Prop where
 | nil:Al2 P [] []
 | cons {a:α} {b:β} {l:List α} {m:List β}:P a b→Al2 P l m→Al2 P (a :: l) (b :: m)
theorem Al2.len {α β:Type} {P:α→β→Prop} {l:List α} {m:List β} (h:Al2 P l m):l.length=m.length:=by
 induction h with
 | nil=>rfl
 | cons _ _ ih=>simp [ih]
theorem eta25 (n:S25):(⟨n.f0,n.f1,n.f2,n.f3⟩:S25)=n:=by cases n;rfl
theorem zD8 (n:S38):(⟨n.f0,n.f1,n.f2,n.f3,n.f4⟩:S38)=n:=by cases n;rfl
section
variable (t:ByteArray) (kind b e:Int) (f0:Int) (f1:ByteArray)
theorem zH6 (ys:List S47) (f2:List ByteArray) (zs:List S38) (hz:zs.length≤1048576):∀ (rest:List S38) (ns:List S25),Al2 (uI t) rest ns→∀ (pre:List S38) (acc:List S25),zs=pre ++ rest→acc.length=pre.length →
  Ev (fun k=>xA.l1 k t (pre.length:Int) kind b e ys zs f0 f1 f2 acc) (f0,f1,f2,acc ++ ns):=by
 intro rest ns h
 induction h with
 | nil =>
  intro pre acc hp ha
  rw [List.append_nil] at hp
  refine Ev.step (g:=fun _=>some (f0,f1,f2,acc ++ [])) Ev.some (fun k=>?_)
  rw [xA.l1,if_neg (by rw [hp];omega),List.append_nil]
 | @cons a n l m hn hl ih =>
  intro pre acc hp ha
  have hlen:zs.length=pre.length+(l.length+1):=by rw [hp];simp
  have hrd:jD zs (pre.length:Int)=a:=by
   unfold jD
   rw [Int.toNat_natCast,hp]
   simp
  have hw:wrap64 ((pre.length:Int)+1)=(((pre ++ [a]).length:Nat):Int):=by simp only [List.length_append,List.length_cons,List.length_nil];unfold wrap64;omega
  obtain⟨K1,e1⟩:=hn
  obtain⟨K2,e2⟩:=ih (pre ++ [a]) (acc ++ [n]) (by rw [hp];simp) (by simp [ha])
  dsimp only at e1 e2
  refine⟨K1+K2+1,fun k hk=>?_⟩
  obtain⟨f,rfl⟩:∃ f,k=f+1:=⟨k - 1,by omega⟩
  show xA.l1 (f+1) t (pre.length:Int) kind b e ys zs f0 f1 f2 acc=_
  rw [xA.l1,if_pos (by omega),if_pos (by omega),hrd,e1 f (by omega),Option.bind_some,if_pos (by omega),hw]
  have:=e2 f (by omega)
  rw [List.append_assoc] at this
  dsimp only
  rw [eta25]
  exact this
theorem zH5 (zs:List S38) (ns:List S25) (hz:zs.length≤1048576) (hzn:Al2 (uI t) zs ns) (ys:List S47) (hy:ys.length≤1048576):∀ (rest:List S47) (us:List ByteArray),Al2 (KZ t) rest us→∀ (pre:List S47) (acc:List ByteArray),ys=pre ++ rest→acc.length=pre.length →
  Ev (fun k=>xA.l0 k t (pre.length:Int) kind b e ys zs f0 f1 acc) (f0,f1,acc ++ us,ns):=by
 intro rest us h
 induction h with
 | nil =>
  intro pre acc hp ha
  rw [List.append_nil] at hp
  have h1:=zH6 t kind b e f0 f1 ys acc zs hz zs ns hzn [] [] rfl rfl
  rw [List.append_nil]
  refine Ev.step h1 (fun k=>?_)
  rw [xA.l0,if_neg (by rw [hp];omega)]
  rfl
 | @cons a u l m hn hl ih =>
  intro pre acc hp ha
  have hlen:ys.length=pre.length+(l.length+1):=by rw [hp];simp
  have hrd:jV ys (pre.length:Int)=a:=by
   unfold jV
   rw [Int.toNat_natCast,hp]
   simp
  have hw:wrap64 ((pre.length:Int)+1)=(((pre ++ [a]).length:Nat):Int):=by simp only [List.length_append,List.length_cons,List.length_nil];unfold wrap64;omega
  obtain⟨h1,h2,h3,K1,e1⟩:=hn
  obtain⟨K2,e2⟩:=ih (pre ++ [a]) (acc ++ [u]) (by rw [hp];simp) (by simp [ha])
  dsimp only at e1 e2
  refine⟨K1+K2+1,fun k hk=>?_⟩
  obtain⟨f,rfl⟩:∃ f,k=f+1:=⟨k - 1,by omega⟩
  show xA.l0 (f+1) t (pre.length:Int) kind b e ys zs f0 f1 acc=_
  rw [xA.l0,if_pos (by omega),if_pos (by omega),hrd,if_pos h1,if_pos h2,if_pos h3,e1 f (by omega),Option.bind_some,if_pos (by omega),hw]
  have:=e2 f (by omega)
  rw [List.append_assoc] at this
  exact this
theorem KR (zs:List S38) (ns:List S25) (hz:zs.length≤1048576) (hzn:Al2 (uI t) zs ns) (ys:List S47) (hy:ys.length≤1048576) (us:List ByteArray) (hyu:Al2 (KZ t) ys us) :
  Ev (fun k=>xA.j0 k t kind b e ys zs f0 f1) (f0,f1,us,ns):=by
 refine Ev.step (zH5 t kind b e f0 f1 zs ns hz hzn ys hy ys us hyu [] [] rfl rfl) (fun k=>?_)
 rw [xA.j0]
 rfl
end
theorem ZE (t:ByteArray) (kind b e:Int) (h3:kind≠3) (h4:kind≠4) (zs:List S38) (ns:List S25) (hz:zs.length≤1048576) (hzn:Al2 (uI t) zs ns) (ys:List S47) (hy:ys.length≤1048576) (us:List ByteArray) (hyu:Al2 (KZ t) ys us) :
  uI t ⟨kind,b,e,ys,zs⟩ ⟨kind,j4,us,ns⟩:=by
 refine Ev.step (KR t kind b e kind j4 zs ns hz hzn ys hy us hyu) (fun k=>?_)
 dsimp only
 rw [xA.f,if_neg h3,if_neg h4]
 rfl
theorem wL {t:ByteArray} {i j:Nat} {s:List Int} (h:Seg (bytesOf t) i j s):t.extract i j=strOfNums s:=by
 have hr:=J8 h
 apply XB
 rw [vV hr,qY,h.eq,show j - i=s.length by have:=h.at_;omega,List.take_left']
 rfl
theorem RX.len {c:Nat} {s:List Int} {us:List ByteArray} {ns:List S25} (h:RX c s us ns):us.length≤s.length∧ns.length≤s.length:=by
 have hne:=h.ne
 have hp:=List.length_pos_iff.mpr hne
 clear hne
 induction h with
 | word h=>simp only [List.length_nil,List.length_cons];omega
 | num h=>simp only [List.length_nil,List.length_cons];omega
 | str h _=>simp only [List.length_nil,List.length_cons];omega
 | arr0 _=>simp
 | arr _ _ _=>simp
 | obj0 _=>simp
 | obj _ _ _=>simp
 | el1 _ _ _=>simp only [List.length_cons,List.length_append,List.length_nil];omega
 | el h1 _ _ h2 _ ih =>
  have:=ih (List.length_pos_iff.mpr h2.ne)
  simp only [List.length_cons,List.length_append,List.length_nil] at this ⊢
  omega
 | mb1 _ _ _ _ _ _ _=>simp only [List.length_cons,List.length_append,List.length_nil];omega
 | mb _ _ _ _ _ _ _ h2 _ ih =>
  have:=ih (List.length_pos_iff.mpr h2.ne)
  simp only [List.length_cons,List.length_append,List.length_nil] at this ⊢
  omega
theorem RX.zJy {s:List Int} {us:List ByteArray} {ns:List S25} (h:RX 1 s us ns):∃ c r,s=c :: r∧¬ Ws c∧¬ c=93:=by
 cases h with
 | el1 h _=>obtain⟨c,r,rfl,h⟩:=h.head;exact⟨c,_,rfl,by unfold Ws;omega,by omega⟩
 | el h _ _ _=>obtain⟨c,r,rfl,h⟩:=h.head;exact⟨c,_,rfl,by unfold Ws;omega,by omega⟩
theorem RX.zJz {s:List Int} {us:List ByteArray} {ns:List S25} (h:RX 2 s us ns):∃ r,s=34 :: r:=by
 cases h with
 | mb1 h _ _ _ _ _=>obtain⟨b,rfl,_⟩:=h;exact⟨_,rfl⟩
 | mb h _ _ _ _ _ _ _=>obtain⟨b,rfl,_⟩:=h;exact⟨_,rfl⟩
theorem uU {l:List Int} {m j:Nat} {w r:List Int} {c:Int} (hs:Seg l m j (w ++ c :: r)) (hw:xV w) (hc:c=44∨c=93∨c=125):NF (l.getD m 0)∧(Ws (l.getD m 0)∨l.getD m 0=c):=by
 cases w with
 | nil=>have:=hs.cons.2.1;unfold NF;exact⟨by omega, .inr this⟩
 | cons x w =>
  have h:=hs.cons.2.1
  have hx:=hw x (by simp)
  rw [h]
  exact⟨by unfold NF;unfold Ws at hx;omega, .inl hx⟩
section
variable (t:ByteArray) (ht:t.size≤1048576)
include ht
def CV (s:List Int) (n:S25):Prop:=∀ i j,Seg (bytesOf t) i j s→NF ((bytesOf t).getD j 0)→∃ p:S38,Ev (fun k=>zO.f k t (i:Int)) (p.f0,p.f1,p.f2,p.f3,p.f4,true,t,(j:Int))∧uI t p n
def CE (s:List Int) (ns:List S25):Prop:=∀ i j,Seg (bytesOf t) i j s→∀ x4:List S38,x4.length≤i→∃ zs:List S38,Ev (fun k=>zS.l0 k x4 t (i:Int)) (x4 ++ zs,true,t,(j:Int))∧Al2 (uI t) zs ns
def CM (s:List Int) (us:List ByteArray) (ns:List S25):Prop:=∀ i j,Seg (bytesOf t) i j s→∀ (x5:List S47) (x6:List S38),x5.length≤i→x6.length≤i→∃ (ys:List S47) (zs:List S38),Ev (fun k=>zL.l0 k x5 x6 t (i:Int)) (x5 ++ ys,x6 ++ zs,true,t,(j:Int))∧Al2 (KZ t) ys us∧Al2 (uI t) zs ns
theorem zJo {s:List Int} {u:ByteArray} (h:Qt s) (hu:Unq s u):CV t s ⟨4,u,[],[]⟩:=by
 intro i j hs hn
 have hi:i≤t.size:=by have:=xQ t hs;have:=hs.ge;omega
 have he:=J4 t ht i j s hs h
 refine⟨⟨4,i,j,[],[]⟩,Ev.step (he.bind (g:=fun k bt251=>some (4,(i:Int),bt251.2.2,([]:List (S47)),([]:List (S38)),bt251.1,bt251.2.1,bt251.2.2)) Ev.some) (fun k=>?_),?_⟩
 ·
  obtain⟨b,rfl,_⟩:=h
  have h1:=hs.cons.2.1
  rw [zO.f,jO t i hi,Option.bind_some,if_neg zA9,if_neg zA9,if_pos h1]
 ·
  obtain⟨K1,e1⟩:=hu
  obtain⟨K2,e2⟩:=KR t 4 i j 4 u [] [] (by simp) .nil [] (by simp) [] .nil
  dsimp only at e1 e2
  refine⟨K1+K2+1,fun k hk=>?_⟩
  obtain⟨f,rfl⟩:∃ f,k=f+1:=⟨k - 1,by omega⟩
  show xA.f (f+1) t 4 (i:Int) (j:Int) [] []=_
  have hge:=hs.ge
  have hsz:=xQ t hs
  rw [xA.f,if_neg (by decide),if_pos rfl,if_pos (by omega),if_pos (by omega),if_pos (by omega),Int.toNat_natCast,Int.toNat_natCast,wL hs,e1 f (by omega),Option.bind_some]
  exact e2 f (by omega)
theorem zJn {s:List Int} (h:Nm s):CV t s ⟨3,strOfNums s,[],[]⟩:=by
 intro i j hs hn
 have hi:i≤t.size:=by have:=xQ t hs;have:=hs.ge;omega
 have he:=zEw t ht i j s hs h hn
 have hge:=hs.ge
 have hsz:=xQ t hs
 refine⟨⟨3,i,j,[],[]⟩,?_,?_⟩
 ·
  have hj0:Ev (fun k=>zO.j0 k true true t (i:Int) 0 (i:Int) 0) (3,(i:Int),(j:Int),([]:List (S47)),([]:List (S38)),true,t,(j:Int)):=by
   refine Ev.step (he.bind (g:=fun k bt254=>some (3,(i:Int),bt254.2.2,([]:List (S47)),([]:List (S38)),bt254.1,bt254.2.1,bt254.2.2)) Ev.some) (fun k=>?_)
   rw [zO.j0,if_pos rfl]
  obtain⟨c,r,rfl,hc⟩:=h.head
  have h1:=hs.cons.2.1
  refine Ev.step hj0 (fun k=>?_)
  rw [zO.f,jO t i hi,Option.bind_some]
  dsimp only
  rw [h1,if_neg (by omega),if_neg (by omega),if_neg (by omega)]
  rcases hc with hc|hc
  ·
   rw [if_pos hc]
  ·
   rw [if_neg (by omega),if_pos hc.1,decide_eq_true hc.2]
 ·
  refine Ev.step (KR t 3 i j 3 (strOfNums s) [] [] (by simp) .nil [] (by simp) [] .nil) (fun k=>?_)
  dsimp only
  rw [xA.f,if_pos rfl,if_pos (by omega),if_pos (by omega),if_pos (by omega),Int.toNat_natCast,Int.toNat_natCast,wL hs]
theorem zGx {k0:Int} {s:List Int} (h:Wd k0 s):CV t s ⟨k0,j4,[],[]⟩:=by
 intro i j hs hn
 have hi:i≤t.size:=by have:=xQ t hs;have:=hs.ge;omega
 refine⟨⟨k0,i,j,[],[]⟩,?_,ZE t k0 i j (by rcases h with ⟨h,_⟩|⟨h,_⟩|⟨h,_⟩ <;> omega) (by rcases h with ⟨h,_⟩|⟨h,_⟩|⟨h,_⟩ <;> omega) [] [] (by simp) .nil [] (by simp) [] .nil⟩
 have hj0:Ev (fun k=>zO.j0 k true false t (i:Int) 0 (i:Int) 0) (k0,(i:Int),(j:Int),([]:List (S47)),([]:List (S38)),true,t,(j:Int)):=by
  refine Ev.step (g:=fun _=>some (k0,(i:Int),(j:Int),([]:List (S47)),([]:List (S38)),true,t,(j:Int))) Ev.some (fun k=>?_)
  rcases h with ⟨rfl,rfl⟩|⟨rfl,rfl⟩|⟨rfl,rfl⟩
  ·
   rw [zO.j0,if_neg (by simp),QF t ht i j ⟨#[110,117,108,108]⟩ (by decide) hs,Option.bind_some,if_pos rfl]
  ·
   rw [zO.j0,if_neg (by simp),KT t ht i hi ⟨#[110,117,108,108]⟩ (by decide) 110 [117,108,108] rfl (by rw [hs.cons.2.1];decide),Option.bind_some,if_neg (by simp),QF t ht i j ⟨#[102,97,108,115,101]⟩ (by decide) hs,Option.bind_some,if_pos rfl]
  ·
   rw [zO.j0,if_neg (by simp),KT t ht i hi ⟨#[110,117,108,108]⟩ (by decide) 110 [117,108,108] rfl (by rw [hs.cons.2.1];decide),Option.bind_some,if_neg (by simp),KT t ht i hi ⟨#[102,97,108,115,101]⟩ (by decide) 102 [97,108,115,101] rfl (by rw [hs.cons.2.1];decide),Option.bind_some,if_neg (by simp),QF t ht i j ⟨#[116,114,117,101]⟩ (by decide) hs,Option.bind_some,if_pos rfl]
 have h1:(bytesOf t).getD i 0=110∨(bytesOf t).getD i 0=102∨(bytesOf t).getD i 0=116:=by
  rcases h with ⟨rfl,rfl⟩|⟨rfl,rfl⟩|⟨rfl,rfl⟩ <;> rw [hs.cons.2.1] <;> simp
 refine Ev.step hj0 (fun k=>?_)
 rw [zO.f,jO t i hi,Option.bind_some]
 dsimp only
 rw [if_neg (by omega),if_neg (by omega),if_neg (by omega),if_neg (by omega),if_pos (by omega),decide_eq_false (by omega)]
theorem zFt {w r:List Int} {us:List ByteArray} {ns:List S25} (hw:xV w) (hx:(r=[125]∧us=[]∧ns=[])∨(RX 2 r us ns∧CM t r us ns)):CV t (123 :: (w ++ r)) ⟨6,j4,us,ns⟩:=by
 intro i j hs hn
 have hi:i≤t.size:=by have:=xQ t hs;have:=hs.ge;omega
 obtain⟨h1,h2,h3⟩:=hs.cons
 obtain⟨p,s1,s2⟩:=h3.split
 have hlt:i < t.size:=by have:=xQ t hs;omega
 have hp:p≤t.size:=xQ t s1
 have hge:=s1.ge
 rcases hx with ⟨rfl,rfl,rfl⟩|⟨hr,hm⟩
 ·
  have hj:=s2.at_
  simp only [List.length_cons,List.length_nil] at hj
  subst hj
  have h125:=s2.cons.2.1
  obtain⟨K1,e1⟩:=jP t ht w (i+1) p s1 hw (by rw [h125];unfold Ws;decide)
  dsimp only at e1
  refine⟨⟨6,i,(p+1:Nat),[],[]⟩,⟨K1+2,fun k hk=>?_⟩,ZE t 6 i _ (by decide) (by decide) [] [] (by simp) .nil [] (by simp) [] .nil⟩
  obtain⟨f,rfl⟩:∃ f,k=f+2:=⟨k - 2,by omega⟩
  show zO.f (f+2) t (i:Int)=_
  rw [zO.f,jO t i hi,Option.bind_some,if_pos h2,zL.f,qV hlt ht,e1 f (by omega),Option.bind_some,jY t ht p 125 (by decide) h125,Option.bind_some,if_pos rfl]
  rfl
 ·
  obtain⟨r',hr'⟩:=hr.zJz
  have h34:(bytesOf t).getD p 0=34:=by rw [hr'] at s2;exact s2.cons.2.1
  obtain⟨K1,e1⟩:=jP t ht w (i+1) p s1 hw (by rw [h34];unfold Ws;decide)
  dsimp only at e1
  obtain⟨ys,zs,⟨K2,e2⟩,hy,hz⟩:=hm p j s2 [] [] (by simp) (by simp)
  dsimp only at e2
  have hll:=hr.len
  have hsz:=s2.at_
  have hsj:=xQ t s2
  have hyl:=hy.len
  have hzl:=hz.len
  refine⟨⟨6,i,j,ys,zs⟩,⟨K1+K2+2,fun k hk=>?_⟩,ZE t 6 i j (by decide) (by decide) zs ns (by omega) hz ys (by omega) us hy⟩
  obtain⟨f,rfl⟩:∃ f,k=f+2:=⟨k - 2,by omega⟩
  show zO.f (f+2) t (i:Int)=_
  rw [zO.f,jO t i hi,Option.bind_some,if_pos h2,zL.f,qV hlt ht,e1 f (by omega),Option.bind_some,yJ t ht p hp 125 (by decide) (by omega),Option.bind_some,if_neg (by simp),e2 f (by omega)]
  rfl
theorem zFs {w r:List Int} {ns:List S25} (hw:xV w) (hx:(r=[93]∧ns=[])∨(RX 1 r [] ns∧CE t r ns)):CV t (91 :: (w ++ r)) ⟨5,j4,[],ns⟩:=by
 intro i j hs hn
 have hi:i≤t.size:=by have:=xQ t hs;have:=hs.ge;omega
 obtain⟨h1,h2,h3⟩:=hs.cons
 obtain⟨p,s1,s2⟩:=h3.split
 have hlt:i < t.size:=by have:=xQ t hs;omega
 have hp:p≤t.size:=xQ t s1
 have hge:=s1.ge
 have h123:¬ (bytesOf t).getD i 0=123:=by omega
 rcases hx with ⟨rfl,rfl⟩|⟨hr,hm⟩
 ·
  have hj:=s2.at_
  simp only [List.length_cons,List.length_nil] at hj
  subst hj
  have h125:=s2.cons.2.1
  obtain⟨K1,e1⟩:=jP t ht w (i+1) p s1 hw (by rw [h125];unfold Ws;decide)
  dsimp only at e1
  refine⟨⟨5,i,(p+1:Nat),[],[]⟩,⟨K1+2,fun k hk=>?_⟩,ZE t 5 i _ (by decide) (by decide) [] [] (by simp) .nil [] (by simp) [] .nil⟩
  obtain⟨f,rfl⟩:∃ f,k=f+2:=⟨k - 2,by omega⟩
  show zO.f (f+2) t (i:Int)=_
  rw [zO.f,jO t i hi,Option.bind_some,if_neg h123,if_pos h2,zS.f,qV hlt ht,e1 f (by omega),Option.bind_some,jY t ht p 93 (by decide) h125,Option.bind_some,if_pos rfl]
  rfl
 ·
  obtain⟨c,r',hr',hcw,hc93⟩:=hr.zJy
  have hpc:(bytesOf t).getD p 0=c:=by rw [hr'] at s2;exact s2.cons.2.1
  obtain⟨K1,e1⟩:=jP t ht w (i+1) p s1 hw (by rw [hpc];exact hcw)
  dsimp only at e1
  obtain⟨zs,⟨K2,e2⟩,hz⟩:=hm p j s2 [] (by simp)
  dsimp only at e2
  have hll:=hr.len
  have hsz:=s2.at_
  have hsj:=xQ t s2
  have hzl:=hz.len
  refine⟨⟨5,i,j,[],zs⟩,⟨K1+K2+2,fun k hk=>?_⟩,ZE t 5 i j (by decide) (by decide) zs ns (by omega) hz [] (by simp) [] .nil⟩
  obtain⟨f,rfl⟩:∃ f,k=f+2:=⟨k - 2,by omega⟩
  show zO.f (f+2) t (i:Int)=_
  rw [zO.f,jO t i hi,Option.bind_some,if_neg h123,if_pos h2,zS.f,qV hlt ht,e1 f (by omega),Option.bind_some,yJ t ht p hp 93 (by decide) (by rw [hpc];exact hc93),Option.bind_some,if_neg (by simp),e2 f (by omega)]
  rfl
omit ht in
theorem yZ (c:Int) (h:c=44∨c=58∨c=93∨c=125∨c=34):¬ Ws c:=by unfold Ws;omega
omit ht in
theorem uB {s:List Int} {us:List ByteArray} {ns:List S25} (h:RX 0 s us ns) {i j:Nat} {r:List Int} (hs:Seg (bytesOf t) i j (s ++ r)):¬ Ws ((bytesOf t).getD i 0):=by
 obtain⟨c,e,rfl,hc⟩:=h.head
 have:=hs.cons.2.1
 unfold Ws
 omega
theorem comp {c:Nat} {s:List Int} {us:List ByteArray} {ns:List S25} (h:RX c s us ns) :
  (c=0→∀ n,ns=[n]→CV t s n)∧(c=1→CE t s ns)∧(c=2→CM t s us ns):=by
 induction h with
 | word h=>exact⟨fun _ n hn=>(by cases hn;exact zGx t ht h),fun h=>absurd h (by decide),fun h=>absurd h (by decide)⟩
 | num h=>exact⟨fun _ n hn=>(by cases hn;exact zJn t ht h),fun h=>absurd h (by decide),fun h=>absurd h (by decide)⟩
 | str h hu=>exact⟨fun _ n hn=>(by cases hn;exact zJo t ht h hu),fun h=>absurd h (by decide),fun h=>absurd h (by decide)⟩
 | arr0 hw=>exact⟨fun _ n hn=>(by cases hn;exact zFs t ht hw (.inl ⟨rfl,rfl⟩)),fun h=>absurd h (by decide),fun h=>absurd h (by decide)⟩
 | arr hw hr ih=>exact⟨fun _ n hn=>(by cases hn;exact zFs t ht hw (.inr ⟨hr,ih.2.1 rfl⟩)),fun h=>absurd h (by decide),fun h=>absurd h (by decide)⟩
 | obj0 hw=>exact⟨fun _ n hn=>(by cases hn;exact zFt t ht hw (.inl ⟨rfl,rfl,rfl⟩)),fun h=>absurd h (by decide),fun h=>absurd h (by decide)⟩
 | obj hw hr ih=>exact⟨fun _ n hn=>(by cases hn;exact zFt t ht hw (.inr ⟨hr,ih.2.2 rfl⟩)),fun h=>absurd h (by decide),fun h=>absurd h (by decide)⟩
 | @el1 v w n hv hw ih =>
  refine⟨fun h=>absurd h (by decide),fun _=>?_,fun h=>absurd h (by decide)⟩
  intro i j hs x4 h4
  obtain⟨p,s1,s2⟩:=hs.split
  obtain⟨q,s3,s4⟩:=s2.split
  have hj:=s4.at_
  simp only [List.length_cons,List.length_nil] at hj
  subst hj
  obtain⟨pl,⟨K1,e1⟩,htr⟩:=ih.1 rfl n rfl i p s1 (uU s2 hw (by simp)).1
  obtain⟨K2,e2⟩:=jP t ht w p q s3 hw (by rw [s4.cons.2.1];exact yZ _ (by simp))
  dsimp only at e1 e2
  have hi:i≤t.size:=by have:=xQ t hs;have:=hs.ge;omega
  refine⟨[pl],⟨K1+K2+1,fun k hk=>?_⟩, .cons htr .nil⟩
  obtain⟨f,rfl⟩:∃ f,k=f+1:=⟨k - 1,by omega⟩
  show zS.l0 (f+1) x4 t (i:Int)=_
  rw [zS.l0,e1 f (by omega),Option.bind_some,if_pos rfl,if_pos (by omega),Option.bind_some,e2 f (by omega),Option.bind_some,jY t ht q 93 (by decide) s4.cons.2.1,Option.bind_some,if_pos rfl]
  dsimp only
  rw [zD8]
 | @el v w w2 s n ns hv hw hw2 hr ih ih2 =>
  refine⟨fun h=>absurd h (by decide),fun _=>?_,fun h=>absurd h (by decide)⟩
  intro i j hs x4 h4
  obtain⟨p,s1,s2⟩:=hs.split
  obtain⟨q,s3,s4⟩:=s2.split
  obtain⟨g5,h44,s5⟩:=s4.cons
  obtain⟨q2,s6,s7⟩:=s5.split
  obtain⟨pl,⟨K1,e1⟩,htr⟩:=ih.1 rfl n rfl i p s1 (uU s2 hw (by simp)).1
  obtain⟨K2,e2⟩:=jP t ht w p q s3 hw (by rw [h44];exact yZ _ (by simp))
  obtain⟨c,r',hr',hcw,_⟩:=hr.zJy
  have hpc:(bytesOf t).getD q2 0=c:=by rw [hr'] at s7;exact s7.cons.2.1
  obtain⟨K3,e3⟩:=jP t ht w2 (q+1) q2 s6 hw2 (by rw [hpc];exact hcw)
  have hi:i≤t.size:=by have:=xQ t hs;have:=hs.ge;omega
  have hq:q≤t.size:=by have:=xQ t s3;omega
  have hg1:=s1.ge
  have hg3:=s3.ge
  have hg6:=s6.ge
  obtain⟨zs,⟨K4,e4⟩,hz⟩:=ih2.2.1 rfl q2 j s7 (x4 ++ [pl]) Zq0
  dsimp only at e1 e2 e3 e4
  refine⟨pl :: zs,⟨K1+K2+K3+K4+1,fun k hk=>?_⟩, .cons htr hz⟩
  obtain⟨f,rfl⟩:∃ f,k=f+1:=⟨k - 1,by omega⟩
  show zS.l0 (f+1) x4 t (i:Int)=_
  rw [zS.l0,e1 f (by omega),Option.bind_some,if_pos rfl,if_pos (by omega),Option.bind_some,e2 f (by omega),Option.bind_some,yJ t ht q hq 93 (by decide) (by rw [h44];decide),Option.bind_some,if_neg (by simp),jY t ht q 44 (by decide) h44,Option.bind_some,if_pos rfl,e3 f (by omega),Option.bind_some]
  have:=e4 f (by omega)
  rw [List.append_assoc] at this
  dsimp only
  rw [zD8]
  exact this
 | @mb1 kk w1 w2 v w3 u n hk hu hw1 hw2 hv hw3 ih =>
  refine⟨fun h=>absurd h (by decide),fun h=>absurd h (by decide),fun _=>?_⟩
  intro i j hs x5 x6 h5 h6
  obtain⟨p,s1,s2⟩:=hs.split
  obtain⟨p1,s3,s4⟩:=s2.split
  obtain⟨g5,h58,s5⟩:=s4.cons
  obtain⟨p3,s6,s7⟩:=s5.split
  obtain⟨p4,s8,s9⟩:=s7.split
  obtain⟨p5,s10,s11⟩:=s9.split
  have hj:=s11.at_
  simp only [List.length_cons,List.length_nil] at hj
  subst hj
  have h125:=s11.cons.2.1
  have hsz:=xQ t hs
  have a1:=s1.ge
  have a3:=s3.ge
  have a6:=s6.ge
  have a8:=s8.ge
  have a10:=s10.ge
  obtain⟨K1,e1⟩:=J4 t ht i p kk s1 hk
  obtain⟨K2,e2⟩:=jP t ht w1 p p1 s3 hw1 (by rw [h58];exact yZ _ (by simp))
  obtain⟨K3,e3⟩:=jP t ht w2 (p1+1) p3 s6 hw2 (uB t hv s7)
  obtain⟨pl,⟨K4,e4⟩,htr⟩:=ih.1 rfl n rfl p3 p4 s8 (uU s9 hw3 (by simp)).1
  obtain⟨K5,e5⟩:=jP t ht w3 p4 p5 s10 hw3 (by rw [h125];exact yZ _ (by simp))
  dsimp only at e1 e2 e3 e4 e5
  have h34:(bytesOf t).getD i 0=34:=by obtain⟨b,rfl,_⟩:=hk;exact s1.cons.2.1
  refine⟨[⟨i,p⟩],[pl],⟨K1+K2+K3+K4+K5+2,fun k hk=>?_⟩, .cons ⟨zA9,zA9,zA9,by dsimp only;rw [Int.toNat_natCast,Int.toNat_natCast,wL s1];exact hu⟩ .nil, .cons htr .nil⟩
  obtain⟨f,rfl⟩:∃ f,k=f+2:=⟨k - 2,by omega⟩
  show zL.l0 (f+2) x5 x6 t (i:Int)=_
  rw [zL.l0,jO t i (by omega),Option.bind_some,if_pos h34,e1 (f+1) (by omega),Option.bind_some,zL.j1,if_neg (by simp),if_pos (by omega),Option.bind_some,e2 f (by omega),Option.bind_some,jY t ht p1 58 (by decide) h58,Option.bind_some,if_pos rfl,e3 f (by omega),Option.bind_some,e4 f (by omega),Option.bind_some,if_pos rfl,if_pos (by omega),Option.bind_some,e5 f (by omega),Option.bind_some,jY t ht p5 125 (by decide) h125,Option.bind_some,if_pos rfl]
  dsimp only
  rw [zD8]
 | @mb kk w1 w2 v w3 w4 s u n us ns hk hu hw1 hw2 hv hw3 hw4 hr ih ih2 =>
  refine⟨fun h=>absurd h (by decide),fun h=>absurd h (by decide),fun _=>?_⟩
  intro i j hs x5 x6 h5 h6
  obtain⟨p,s1,s2⟩:=hs.split
  obtain⟨p1,s3,s4⟩:=s2.split
  obtain⟨g5,h58,s5⟩:=s4.cons
  obtain⟨p3,s6,s7⟩:=s5.split
  obtain⟨p4,s8,s9⟩:=s7.split
  obtain⟨p5,s10,s11⟩:=s9.split
  obtain⟨g11,h44,s12⟩:=s11.cons
  obtain⟨p8,s13,s14⟩:=s12.split
  have hsz:=xQ t hs
  have a1:=s1.ge
  have a3:=s3.ge
  have a6:=s6.ge
  have a8:=s8.ge
  have a10:=s10.ge
  have a13:=s13.ge
  have a14:=s14.ge
  have ap:=s1.at_
  obtain⟨K1,e1⟩:=J4 t ht i p kk s1 hk
  obtain⟨K2,e2⟩:=jP t ht w1 p p1 s3 hw1 (by rw [h58];exact yZ _ (by simp))
  obtain⟨K3,e3⟩:=jP t ht w2 (p1+1) p3 s6 hw2 (uB t hv s7)
  obtain⟨pl,⟨K4,e4⟩,htr⟩:=ih.1 rfl n rfl p3 p4 s8 (uU s9 hw3 (by simp)).1
  obtain⟨K5,e5⟩:=jP t ht w3 p4 p5 s10 hw3 (by rw [h44];exact yZ _ (by simp))
  obtain⟨r',hr'⟩:=hr.zJz
  have h34b:(bytesOf t).getD p8 0=34:=by rw [hr'] at s14;exact s14.cons.2.1
  obtain⟨K6,e6⟩:=jP t ht w4 (p5+1) p8 s13 hw4 (by rw [h34b];exact yZ _ (by simp))
  obtain⟨ys,zs,⟨K7,e7⟩,hy,hz⟩:=ih2.2.2 rfl p8 j s14 (x5 ++ [⟨i,p⟩]) (x6 ++ [pl]) Zq0 Zq0
  dsimp only at e1 e2 e3 e4 e5 e6 e7
  have h34:(bytesOf t).getD i 0=34:=by obtain⟨b,rfl,_⟩:=hk;exact s1.cons.2.1
  refine⟨⟨i,p⟩ :: ys,pl :: zs,⟨K1+K2+K3+K4+K5+K6+K7+2,fun k hk=>?_⟩, .cons ⟨zA9,zA9,zA9,by dsimp only;rw [Int.toNat_natCast,Int.toNat_natCast,wL s1];exact hu⟩ hy, .cons htr hz⟩
  obtain⟨f,rfl⟩:∃ f,k=f+2:=⟨k - 2,by omega⟩
  show zL.l0 (f+2) x5 x6 t (i:Int)=_
  rw [zL.l0,jO t i (by omega),Option.bind_some,if_pos h34,e1 (f+1) (by omega),Option.bind_some,zL.j1,if_neg (by simp),if_pos (by omega),Option.bind_some,e2 f (by omega),Option.bind_some,jY t ht p1 58 (by decide) h58,Option.bind_some,if_pos rfl,e3 f (by omega),Option.bind_some,e4 f (by omega),Option.bind_some,if_pos rfl,if_pos (by omega),Option.bind_some,e5 f (by omega),Option.bind_some,yJ t ht p5 (by omega) 125 (by decide) (by rw [h44];decide),Option.bind_some,if_neg (by simp),jY t ht p5 44 (by decide) h44,Option.bind_some,if_pos rfl,e6 f (by omega),Option.bind_some]
  have:=e7 f (by omega)
  rw [List.append_assoc,List.append_assoc] at this
  dsimp only
  rw [zD8]
  exact this
end
end Go.Proofs.YtljhmnnhfnmhmaaGreatDoor.M
