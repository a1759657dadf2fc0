/-
Lemmas of this claim; made short by a program of this work.
-/
import Derived.Test.YtljhmnnhfnmhmaaGreatDoorUM28
import Derived.Test.YtljhmnnhfnmhmaaGreatDoorUM9
import Derived.Test.YtljhmnnhfnmhmaaGreatDoorUM3
import Derived.Test.YtljhmnnhfnmhmaaGreatDoorUM0
import Derived.Test.YtljhmnnhfnmhmaaGreatDoorUGj3b
import Derived.Test.YtljhmnnhfnmhmaaGreatDoorUM18
import Derived.Test.YtljhmnnhfnmhmaaGreatDoorUGj5
import Derived.Test.YtljhmnnhfnmhmaaGreatDoorRows
import Derived.LaidMore
import Derived.LaidLaws
import Derived.OpenShut
import Derived.ChangeSame
import Derived.Deep.Strs
import Derived.Lib.LaidTab
import Derived.MakeChecks
set_option linter.unusedVariables false
set_option linter.unusedSimpArgs false
namespace Go.Proofs.YtljhmnnhfnmhmaaGreatDoor.M
open Go Go.RowKit Go.Proofs.YtljhmnnhfnmhmaaGreatDoorW.PrintWords Go.Proofs.YtljhmnnhfnmhmaaGreatDoor.G
theorem zBm (t:ByteArray) (n:Nat):bn t n=(bytesOf t).getD n 0:=by
 have h:=zAm t (n:Int)
 unfold rd at h
 rw [Int.toNat_natCast] at h
 exact h.symm
theorem Seg.bn {t:ByteArray} {i j:Nat} {c:Int} {s:List Int} (h:Seg (bytesOf t) i j (c :: s)):i < j∧bn t i=c∧Seg (bytesOf t) (i+1) j s∧j≤t.size:=by
 obtain⟨h1,h2,h3⟩:=h.cons
 exact⟨h1,by rw [zBm];exact h2,h3,xQ t h⟩
theorem Seg.mem {t:ByteArray} {i j:Nat} {s:List Int} (h:Seg (bytesOf t) i j s) (p:Nat) (h1:i≤p) (h2:p < j):M.bn t p ∈ s:=by
 obtain⟨h3,h4⟩:=h.here p h1 h2
 rw [zBm,h3,List.getD_eq_getElem?_getD,List.getElem?_eq_getElem h4]
 exact List.getElem_mem h4
theorem KS {c:Int} (h:¬ c=34∧¬ c=40∧¬ c=91∧¬ c=123∧¬ c=41∧¬ c=93∧¬ c=125):vc c=0:=by
 unfold vc
 rw [if_neg h.1,if_neg (by omega),if_neg (by omega)]
theorem jQ (t:ByteArray):∀ (s:List Int),(∀ c ∈ s,vc c=0)→∀ i j,Seg (bytesOf t) i j s→∀ d e,Sq t j d e→Sq t i d e:=by
 intro s
 induction s with
 | nil =>
  intro hc i j hs d e h
  have:=hs.at_
  simp only [List.length_nil,Nat.add_zero] at this
  subst this
  exact h
 | cons c s ih =>
  intro hc i j hs d e h
  obtain⟨h1,h2,h3,h4⟩:=hs.bn
  exact .plain (by omega) (by rw [h2];exact hc c (by simp)) (ih (fun x hx=>hc x (by simp [hx])) (i+1) j h3 d e h)
theorem ZG {w:List Int} (h:xV w):∀ c ∈ w,vc c=0:=fun c hc=>KS (by have:=h c hc;unfold Ws at this;omega)
theorem qZ (t:ByteArray) {s p:Nat} (h:s≤p):uO t s (p+1 - s)=(bn t p == 92 && !(uO t s (p - s))):=by
 rw [show p+1 - s=(p - s)+1 by omega,uO,show s+(p - s)=p by omega]
theorem sb_in (t:ByteArray) (s0:Nat) {l:List Int} (h:Sb l):∀ (p j:Nat),Seg (bytesOf t) p j l→s0≤p→uO t s0 (p - s0)=false →
  ∃ q,j=q+1∧p≤q∧bn t q=34∧uO t s0 (q - s0)=false∧∀ n:Nat,p≤s0+n→s0+n < q→bn t (s0+n)=34→uO t s0 n=true:=by
 induction h with
 | fin =>
  intro p j hs hp he
  obtain⟨h1,h2,h3,h4⟩:=hs.bn
  have:=hs.at_
  simp only [List.length_cons,List.length_nil] at this
  exact⟨p,by omega,Nat.le_refl _,h2,he,fun n h1 h2=>by omega⟩
 | @plain c l h32 h34 h92 hl ih =>
  intro p j hs hp he
  obtain⟨h1,h2,h3,h4⟩:=hs.bn
  have he1:uO t s0 (p+1 - s0)=false:=by rw [qZ t hp,h2,beq_eq_false_iff_ne.mpr h92];rfl
  obtain⟨q,hj,hq,h34q,hesc,hin⟩:=ih (p+1) j h3 (by omega) he1
  refine⟨q,hj,by omega,h34q,hesc,fun n g1 g2 g3=>?_⟩
  rcases Nat.lt_or_ge p (s0+n) with g|g
  ·
   exact hin n (by omega) g2 g3
  ·
   have e:s0+n=p:=by omega
   rw [e,h2] at g3
   exact absurd g3 h34
 | @short c l hc hl ih =>
  intro p j hs hp he
  obtain⟨h1,h2,h3,h4⟩:=hs.bn
  obtain⟨g1,g2,g3,g4⟩:=h3.bn
  have he1:uO t s0 (p+1 - s0)=true:=by rw [qZ t hp,h2,he];rfl
  have he2:uO t s0 (p+1+1 - s0)=false:=by rw [qZ t (by omega),he1];simp
  obtain⟨q,hj,hq,h34q,hesc,hin⟩:=ih (p+1+1) j g3 (by omega) he2
  refine⟨q,hj,by omega,h34q,hesc,fun n k1 k2 k3=>?_⟩
  rcases Nat.lt_or_ge (p+1) (s0+n) with g|g
  ·
   exact hin n (by omega) k2 k3
  ·
   rcases Nat.lt_or_ge p (s0+n) with g5|g5
   ·
    have e:n=p+1 - s0:=by omega
    rw [e];exact he1
   ·
    have e:s0+n=p:=by omega
    rw [e,h2] at k3
    exact absurd k3 (by decide)
 | @uni a b c d l ha hb hc hd hl ih =>
  intro p j hs hp he
  obtain⟨h1,h2,h3,h4⟩:=hs.bn
  obtain⟨g1,g2,g3,g4⟩:=h3.bn
  obtain⟨a1,a2,a3,a4⟩:=g3.bn
  obtain⟨b1,b2,b3,b4⟩:=a3.bn
  obtain⟨c1,c2,c3,c4⟩:=b3.bn
  obtain⟨d1,d2,d3,d4⟩:=c3.bn
  have he1:uO t s0 (p+1 - s0)=true:=by rw [qZ t hp,h2,he];rfl
  have he2:uO t s0 (p+1+1 - s0)=false:=by rw [qZ t (by omega),he1];simp
  have hx:∀ {z:Int},Hx z→(z == 92)=false∧¬ z=34:=fun h=>by unfold Hx at h;exact⟨beq_eq_false_iff_ne.mpr (by omega),by omega⟩
  have he3:uO t s0 (p+1+1+1 - s0)=false:=by rw [qZ t (by omega),a2,(hx ha).1];rfl
  have he4:uO t s0 (p+1+1+1+1 - s0)=false:=by rw [qZ t (by omega),b2,(hx hb).1];rfl
  have he5:uO t s0 (p+1+1+1+1+1 - s0)=false:=by rw [qZ t (by omega),c2,(hx hc).1];rfl
  have he6:uO t s0 (p+1+1+1+1+1+1 - s0)=false:=by rw [qZ t (by omega),d2,(hx hd).1];rfl
  obtain⟨q,hj,hq,h34q,hesc,hin⟩:=ih _ j d3 (by omega) he6
  refine⟨q,hj,by omega,h34q,hesc,fun n k1 k2 k3=>?_⟩
  rcases Nat.lt_or_ge (p+5) (s0+n) with g|g
  ·
   exact hin n (by omega) k2 k3
  ·
   have hcs:s0+n=p∨s0+n=p+1∨s0+n=p+1+1∨s0+n=p+1+1+1∨s0+n=p+1+1+1+1∨s0+n=p+1+1+1+1+1:=by omega
   rcases hcs with e|e|e|e|e|e <;> rw [e] at k3
   ·
    rw [h2] at k3;exact absurd k3 (by decide)
   ·
    rw [g2] at k3;exact absurd k3 (by decide)
   ·
    rw [a2] at k3;exact absurd k3 (hx ha).2
   ·
    rw [b2] at k3;exact absurd k3 (hx hb).2
   ·
    rw [c2] at k3;exact absurd k3 (hx hc).2
   ·
    rw [d2] at k3;exact absurd k3 (hx hd).2
theorem zC7 {t:ByteArray} {i j:Nat} {s:List Int} (hs:Seg (bytesOf t) i j s) (h:Qt s):∃ q,j=q+1∧i < q∧WY t (i+1) q:=by
 obtain⟨b,rfl,hb⟩:=h
 obtain⟨h1,h2,h3,h4⟩:=hs.bn
 obtain⟨q,hj,hq,h34,he,hin⟩:=sb_in t (i+1) hb (i+1) j h3 (Nat.le_refl _) (by rw [Nat.sub_self];rfl)
 exact⟨q,hj,by omega,⟨by omega,hq,by omega,by simpa using h2,h34,he,fun n g1 g2=>hin n (by omega) g1 g2⟩⟩
theorem qF {x:List Int} {p:Nat} {c:Int} {l:List Int} (h:x.drop p ++ [34]=c :: l) (hl:l≠[]):p < x.length∧x.getD p 0=c∧x.drop (p+1) ++ [34]=l:=by
 cases hd:x.drop p with
 | nil=>rw [hd] at h;simp at h;exact absurd h.2 hl
 | cons y r =>
  rw [hd,List.cons_append] at h
  injection h with h1 h2
  obtain⟨g1,g2,g3⟩:=drop_cons hd
  exact⟨g1,by rw [g3,h1],by rw [g2];exact h2⟩
theorem Sb.ne {l:List Int} (h:Sb l):l≠[]:=by cases h <;> simp
theorem zKl (x:ByteArray) {l:List Int} (h:Sb l):∀ p,p≤x.size→(bytesOf x).drop p ++ [34]=l→Esc x p:=by
 induction h with
 | fin =>
  intro p hp he
  have:(bytesOf x).drop p=[]:=by simpa using he
  have h2:(bytesOf x).length≤p:=by simpa using this
  rw [zW] at h2
  obtain rfl:p=x.size:=by omega
  exact .nil
 | @plain c l h32 h34 h92 hl ih =>
  intro p hp he
  obtain⟨h1,h2,h3⟩:=qF he hl.ne
  rw [zW] at h1
  rw [← zBm] at h2
  exact .plain h1 (by omega) (by omega) (ih (p+1) (by omega) h3)
 | @short c l hc hl ih =>
  intro p hp he
  obtain⟨h1,h2,h3⟩:=qF he (by simp)
  obtain⟨g1,g2,g3⟩:=qF h3 hl.ne
  rw [zW] at h1 g1
  rw [← zBm] at h2 g2
  exact .short g1 h2 (by rw [g2];exact hc) (ih (p+2) (by omega) g3)
 | @uni a b c d l ha hb hc hd hl ih =>
  intro p hp he
  obtain⟨h1,h2,h3⟩:=qF he (by simp)
  obtain⟨g1,g2,g3⟩:=qF h3 (by simp)
  obtain⟨a1,a2,a3⟩:=qF g3 (by simp)
  obtain⟨b1,b2,b3⟩:=qF a3 (by simp)
  obtain⟨c1,c2,c3⟩:=qF b3 (by simp)
  obtain⟨d1,d2,d3⟩:=qF c3 hl.ne
  rw [zW] at h1 d1
  rw [← zBm] at h2 g2 a2 b2 c2 d2
  refine .uni (by omega) h2 g2 (fun j hj=>?_) (ih (p+6) (by omega) d3)
  have hm:j=0∨j=1∨j=2∨j=3:=by omega
  rcases hm with rfl|rfl|rfl|rfl
  ·
   rw [show p+2+0=p+1+1 by omega,a2];exact ha
  ·
   rw [show p+2+1=p+1+1+1 by omega,b2];exact hb
  ·
   rw [show p+2+2=p+1+1+1+1 by omega,c2];exact hc
  ·
   rw [show p+2+3=p+1+1+1+1+1 by omega,d2];exact hd
theorem zC6 {t:ByteArray} {i q:Nat} {s:List Int} (hs:Seg (bytesOf t) i (q+1) s) (h:Qt s):Esc (t.extract (i+1) q) 0:=by
 obtain⟨b,rfl,hb⟩:=h
 obtain⟨h1,h2,h3,h4⟩:=hs.bn
 obtain⟨body,rfl⟩:=hb.body
 refine zKl _ hb 0 (Nat.zero_le _) ?_
 have hl:=h3.at_
 simp only [List.length_append,List.length_cons,List.length_nil] at hl
 rw [qY,h3.eq,List.drop_zero,show q - (i+1)=body.length by omega,List.append_assoc,List.take_left']
 rfl
theorem Y6 {d:List Int} (h:Z1 d):∀ c ∈ d,qN c:=fun c hc=>by have:=h c hc;unfold qN;omega
theorem n2_ch {s:List Int} (h:N2 s):∀ c ∈ s,qN c:=by
 obtain⟨g,d,rfl,hg,hd,_⟩:=h
 intro c hc
 rcases List.mem_append.mp hc with hc|hc
 ·
  rcases hg with rfl|rfl|rfl
  ·
   cases hc
  ·
   rw [List.mem_singleton.mp hc];simp [qN]
  ·
   rw [List.mem_singleton.mp hc];simp [qN]
 ·
  exact Y6 hd c hc
theorem zKb {s:List Int} (h:N1 s):∀ c ∈ s,qN c:=by
 rcases h with rfl|⟨x,r,rfl,hx,h⟩
 ·
  intro c hc;cases hc
 ·
  intro c hc
  rcases List.mem_cons.mp hc with hc|hc
  ·
   subst hc;unfold qN;omega
  ·
   exact n2_ch h c hc
theorem n0_ch {s:List Int} (h:N0 s):∀ c ∈ s,qN c:=by
 rcases h with ⟨d,r,rfl,hd,_,h⟩|h
 ·
  intro c hc
  rcases List.mem_cons.mp hc with hc|hc
  ·
   subst hc;unfold qN;omega
  ·
   rcases List.mem_append.mp hc with hc|hc
   ·
    exact Y6 hd c hc
   ·
    exact zKb h c hc
 ·
  exact zKb h
theorem zKd {s:List Int} (h:Nm s):∀ c ∈ s,qN c:=by
 obtain⟨g,d,r,rfl,hg,hd,h⟩:=h
 intro c hc
 rcases List.mem_append.mp hc with hc|hc
 ·
  rcases hg with rfl|rfl
  ·
   cases hc
  ·
   rw [List.mem_singleton.mp hc];simp [qN]
 ·
  rcases List.mem_append.mp hc with hc|hc
  ·
   rcases hd with rfl|⟨hd,_⟩
   ·
    rw [List.mem_singleton.mp hc];simp [qN]
   ·
    exact Y6 hd c hc
  ·
   exact n0_ch h c hc
theorem zKg {c:Int} (h:qN c):vc c=0:=KS (by unfold qN at h;omega)
theorem zHt {t:ByteArray} {i j:Nat} {s:List Int} (hs:Seg (bytesOf t) i j s) (h:Qt s) {d e:Nat} (hq:Sq t j d e):Sq t i d e:=by
 obtain⟨q,rfl,_,hi⟩:=zC7 hs h
 exact .str hi hq
theorem WU (t:ByteArray) {i j:Nat} {c:Int} {r:List Int} (hs:Seg (bytesOf t) i j (c :: r)) (hc:vc c=0) {d e:Nat} (h:Sq t (i+1) d e):Sq t i d e:=by
 obtain⟨h1,h2,h3,h4⟩:=hs.bn
 exact .plain (by omega) (by rw [h2];exact hc) h
theorem Z0 (t:ByteArray) {i j:Nat} {c:Int} (hs:Seg (bytesOf t) i j [c]) (hc:c=93∨c=125):Sq t i 1 j∧∀ d e,Sq t j d e→Sq t i (d+1) e:=by
 obtain⟨h1,h2,h3,h4⟩:=hs.bn
 have hj:=hs.at_
 simp only [List.length_cons,List.length_nil] at hj
 subst hj
 have hv:vc (bn t i)=1:=by rw [h2];rcases hc with rfl|rfl <;> rfl
 exact⟨.last (by omega) hv,fun d e h => .cls (by omega) hv h.pos h⟩
def yP (t:ByteArray) (i j:Nat):Prop:=Sq t i 1 j∧∀ d e,Sq t j d e→Sq t i (d+1) e
theorem yP.pre {t:ByteArray} {i p j:Nat} (h:yP t p j) (hp:∀ d e,Sq t p d e→Sq t i d e):yP t i j:=⟨hp _ _ h.1,fun d e g=>hp _ _ (h.2 d e g)⟩
theorem yP.box {t:ByteArray} {i j:Nat} {c:Int} {r:List Int} (hs:Seg (bytesOf t) i j (c :: r)) (hc:c=91∨c=123) (h:yP t (i+1) j):∀ d e,Sq t j d e→Sq t i d e:=by
 obtain⟨h1,h2,h3,h4⟩:=hs.bn
 intro d e g
 refine .opn (by omega) (by rw [h2];rcases hc with rfl|rfl <;> rfl) g.pos (h.2 d e g)
theorem rx_sq (t:ByteArray) {c:Nat} {s:List Int} {us:List ByteArray} {ns:List S25} (h:RX c s us ns):∀ i j,Seg (bytesOf t) i j s →
  (c=0→∀ d e,Sq t j d e→Sq t i d e)∧(¬ c=0→yP t i j)∧(∀ x r,c=0→s=x :: r→(x=91∨x=123)→yP t (i+1) j):=by
 induction h with
 | word h =>
  intro i j hs
  refine⟨fun _=>jQ t _ (fun c hc=>KS ?_) i j hs,fun h=>absurd rfl h,fun x r _ he hx=>?_⟩
  ·
   rcases h with ⟨_,rfl⟩|⟨_,rfl⟩|⟨_,rfl⟩ <;> simp at hc <;> omega
  ·
   rcases h with ⟨_,rfl⟩|⟨_,rfl⟩|⟨_,rfl⟩ <;> simp at he <;> omega
 | num h =>
  intro i j hs
  refine⟨fun _=>jQ t _ (fun c hc=>zKg (zKd h c hc)) i j hs,fun h=>absurd rfl h,fun x r _ he hx=>?_⟩
  obtain⟨y,e,hy,hh⟩:=h.head
  rw [hy] at he
  simp at he
  omega
 | str h _ =>
  intro i j hs
  refine⟨fun _ d e=>zHt hs h,fun h=>absurd rfl h,fun x r _ he hx=>?_⟩
  obtain⟨b,hb,_⟩:=h
  rw [hb] at he
  simp at he
  omega
 | @arr0 w hw =>
  intro i j hs
  obtain⟨p,s1,s2⟩:=hs.cons.2.2.split
  have hb:yP t (i+1) j:=yP.pre (Z0 t s2 (.inl rfl)) (jQ t _ (ZG hw) _ _ s1)
  exact⟨fun _=>hb.box hs (.inl rfl),fun h=>absurd rfl h,fun _ _ _ _ _=>hb⟩
 | @arr w s ns hw hr ih =>
  intro i j hs
  obtain⟨p,s1,s2⟩:=hs.cons.2.2.split
  have hb:yP t (i+1) j:=((ih p j s2).2.1 (by decide)).pre (jQ t _ (ZG hw) _ _ s1)
  exact⟨fun _=>hb.box hs (.inl rfl),fun h=>absurd rfl h,fun _ _ _ _ _=>hb⟩
 | @obj0 w hw =>
  intro i j hs
  obtain⟨p,s1,s2⟩:=hs.cons.2.2.split
  have hb:yP t (i+1) j:=yP.pre (Z0 t s2 (.inr rfl)) (jQ t _ (ZG hw) _ _ s1)
  exact⟨fun _=>hb.box hs (.inr rfl),fun h=>absurd rfl h,fun _ _ _ _ _=>hb⟩
 | @obj w s ks ns hw hr ih =>
  intro i j hs
  obtain⟨p,s1,s2⟩:=hs.cons.2.2.split
  have hb:yP t (i+1) j:=((ih p j s2).2.1 (by decide)).pre (jQ t _ (ZG hw) _ _ s1)
  exact⟨fun _=>hb.box hs (.inr rfl),fun h=>absurd rfl h,fun _ _ _ _ _=>hb⟩
 | @el1 v w n hv hw ih =>
  intro i j hs
  obtain⟨p,s1,s2⟩:=hs.split
  obtain⟨q,s3,s4⟩:=s2.split
  refine⟨fun h=>absurd h (by decide),fun _=>?_,fun _ _ h=>absurd h (by decide)⟩
  exact(yP.pre (Z0 t s4 (.inl rfl)) (jQ t _ (ZG hw) _ _ s3)).pre ((ih i p s1).1 rfl)
 | @el v w w2 s n ns hv hw hw2 hr ih ih2 =>
  intro i j hs
  obtain⟨p,s1,s2⟩:=hs.split
  obtain⟨q,s3,s4⟩:=s2.split
  obtain⟨q2,s6,s7⟩:=s4.cons.2.2.split
  refine⟨fun h=>absurd h (by decide),fun _=>?_,fun _ _ h=>absurd h (by decide)⟩
  refine(yP.pre ?_ (jQ t _ (ZG hw) _ _ s3)).pre ((ih i p s1).1 rfl)
  exact(((ih2 q2 j s7).2.1 (by decide)).pre (jQ t _ (ZG hw2) _ _ s6)).pre (fun d e=>WU t s4 rfl)
 | @mb1 k w1 w2 v w3 u n hk hu hw1 hw2 hv hw3 ih =>
  intro i j hs
  obtain⟨p,s1,s2⟩:=hs.split
  obtain⟨p1,s3,s4⟩:=s2.split
  obtain⟨p3,s6,s7⟩:=s4.cons.2.2.split
  obtain⟨p4,s8,s9⟩:=s7.split
  obtain⟨p5,s10,s11⟩:=s9.split
  refine⟨fun h=>absurd h (by decide),fun _=>?_,fun _ _ h=>absurd h (by decide)⟩
  exact(((((yP.pre (Z0 t s11 (.inr rfl)) (jQ t _ (ZG hw3) _ _ s10)).pre ((ih p3 p4 s8).1 rfl)).pre (jQ t _ (ZG hw2) _ _ s6)).pre (fun d e=>WU t s4 rfl)).pre (jQ t _ (ZG hw1) _ _ s3)).pre (fun d e=>zHt s1 hk)
 | @mb k w1 w2 v w3 w4 s u n us ns hk hu hw1 hw2 hv hw3 hw4 hr ih ih2 =>
  intro i j hs
  obtain⟨p,s1,s2⟩:=hs.split
  obtain⟨p1,s3,s4⟩:=s2.split
  obtain⟨p3,s6,s7⟩:=s4.cons.2.2.split
  obtain⟨p4,s8,s9⟩:=s7.split
  obtain⟨p5,s10,s11⟩:=s9.split
  obtain⟨p8,s13,s14⟩:=s11.cons.2.2.split
  refine⟨fun h=>absurd h (by decide),fun _=>?_,fun _ _ h=>absurd h (by decide)⟩
  exact(((((((((ih2 p8 j s14).2.1 (by decide)).pre (jQ t _ (ZG hw4) _ _ s13)).pre (fun d e=>WU t s11 rfl)).pre (jQ t _ (ZG hw3) _ _ s10)).pre ((ih p3 p4 s8).1 rfl)).pre (jQ t _ (ZG hw2) _ _ s6)).pre (fun d e=>WU t s4 rfl)).pre (jQ t _ (ZG hw1) _ _ s3)).pre (fun d e=>zHt s1 hk)
end Go.Proofs.YtljhmnnhfnmhmaaGreatDoor.M
set_option maxHeartbeats 4000000
set_option maxRecDepth 100000
namespace Go.Proofs.YtljhmnnhfnmhmaaGreatDoor.M
open Go Go.RowKit Go.Proofs.YtljhmnnhfnmhmaaGreatDoorW.PrintWords Go.Proofs.YtljhmnnhfnmhmaaGreatDoor.G
attribute [local go_sem] xL
def AnyN (j:Nat) (w:World) (e:Ending) (w':World):Prop:=∃ (ty:Int) (raw str:ByteArray) (num:Nat) (idx:Int),
 e = .returned (.tuple #[.int .i64 (j:Int), .agg #[.int .i64 ty, .string raw, .string str, .float .f64 num, .int .i64 idx, .slice none 0 0], .bool false])∧Below w.heap.size w w'
def PNk (i:Nat) (a1:Value):Prop:=∃ k:Nat,a1 = .int .i64 (k:Int)∧i≤k∧k≤i+1
theorem JY (t:ByteArray) (i:Nat) (w:World) (ht:t.size≤1048576) (h0:bn t i=93) (hi:i+1=t.size) :
  Calls Tryz.prog 69 #[.string t, .int .i64 (i:Int), .bool true] w (AnyN t.size w):=by
 have hb:=vP t
 have hil:i < t.size:=by omega
 have HI:=Lib.hid hi
 go_enter Tryz.func69,Tryz.ntmps69
 go_wp2_with fail
 obtain⟨W0,hW0⟩:∃ W0,(w.alloc (Obj.cells #[Value.int IntKind.i64 0,Value.string ⟨#[]⟩,Value.string ⟨#[]⟩,Value.float FloatKind.f64 0,Value.int IntKind.i64 0,Value.slice none 0 0] 57)).alloc (Obj.cells #[Value.int IntKind.i64 0,Value.string ⟨#[]⟩,Value.string ⟨#[]⟩,Value.float FloatKind.f64 0,Value.int IntKind.i64 0,Value.slice none 0 0] 57)=W0:=⟨_,rfl⟩
 have r7:Rs w.heap.size 0 ⟨#[]⟩ ⟨#[]⟩ 0 0 W0:=⟨Zq2⟩
 have r9:Rs (w.heap.size+1) 0 ⟨#[]⟩ ⟨#[]⟩ 0 0 W0:=⟨Zq3⟩
 have hB0:Below w.heap.size w W0:=by rw [← hW0];exact zD (zD (Below.refl _ _) _) _
 rw [hW0]
 clear hW0
 obtain⟨b9,h9⟩:∃ b9,w.heap.size+1=b9:=⟨_,rfl⟩
 rw [h9] at r9 ⊢
 obtain⟨b7,h7⟩:∃ b7,w.heap.size=b7:=⟨_,rfl⟩
 have hne:¬ b7=b9:=by omega
 have hne':¬ b9=b7:=by omega
 rw [h7] at r7 ⊢
 have H7:Hid (w.heap.size≤b7):=Lib.hid (by omega)
 have H9:Hid (w.heap.size≤b9):=Lib.hid (by omega)
 have HB:=Lib.hid hB0
 have HR7:=Lib.hid r7
 have HR9:=Lib.hid r9
 clear h7 h9 hB0
 obtain⟨c70,c71,c72,c73,c74,c75⟩:=r7.cells
 obtain⟨f70,f71,f72,f73,f74,f75⟩:=r7.qP
 obtain⟨c90,c91,c92,c93,c94,c95⟩:=r9.cells
 obtain⟨f90,f91,f92,f93,f94,f95⟩:=r9.qP
 clear r7 r9
 go_loop [1] (fun a1=>PNk i a1) (fun a1=>i+2 - (intOf a1).toNat)
 case atStart=>exact⟨i,rfl,by omega,by omega⟩
 case round =>
  obtain⟨k,rfl,hk1,hk2⟩:=hrel
  by_cases hk:k=i
  ·
   subst hk
   go_wp2_with fail
   go_round
   case rel=>exact⟨k+1,by go_num,by omega,by omega⟩
   case measure=>first|(simp [intOf];done)|(simp [intOf];omega)
  ·
   obtain rfl:k=i+1:=by omega
   have hz:¬ ((i+1:Nat):Int) < (t.size:Int):=by omega
   have hz2:((i+1:Nat):Int)=(t.size:Int):=by omega
   rw [hz2] at hz ⊢
   clear hz2 hi hil hk1 hk2 hk h0
   go_wp2_with fail
   have hrefl:True:=trivial
   go_region
   go_wp2_with fail
   refine bodyPost_ret (jX _ _ b7 _ _ _ _ _ _ _ rfl rfl rfl (((((((HR7.out.j8 0).jF (⟨#[]⟩)).qD (⟨#[]⟩)).qO (0)).j5 (0)).yH).drew)) rfl ?_
   exact⟨0,_,_,_,_,rfl,zJ ((((((HB.out.setCell H7.out _).setCell H7.out _).setCell H7.out _).setCell H7.out _).setCell H7.out _).setCell H7.out _)⟩
def Tb (n:Nat) (w:World):Prop:=VT w∧∃ b o c bp op cp bt ot ct,PfT n b o c bp op cp bt ot ct w
theorem Tb.below {n:Nat} {w w':World} (h:Tb n w) (hb:Below n w w'):Tb n w':=by
 obtain⟨hv,b,o,c,bp,op,cp,bt,ot,ct,hp⟩:=h
 have l:=hp.all.l13
 exact⟨fun x hx=>(hb.cell (p:=⟨0,x,none⟩) (by show 0 < n;omega)).trans (hv x hx),b,o,c,bp,op,cp,bt,ot,ct,hp.below hb⟩
def Fo (c:Int):Prop:=Ws c∨c=44∨c=93∨c=125
theorem vD (t:ByteArray) (ht:t.size≤1048576) {s:List Int} {n:S25} (h:RX 0 s [] [n]) {i j:Nat} (hs:Seg (bytesOf t) i j s) (hj:j < t.size) (hf:Fo (bn t j)) (m:Nat) (w:World) (hm:m≤w.heap.size) (hT:Tb m w) :
  Calls Tryz.prog 69 #[.string t, .int .i64 (i:Int), .bool true] w (zDo t i j w):=by
 have hsq:=rx_sq t h i j hs
 have hmem:=fun p h1 h2=>hs.mem p h1 h2
 have hat:bn t j < 97∨122 < bn t j:=by unfold Fo Ws at hf;omega
 cases h with
 | word h =>
  have hw:∀ p:Nat,i < p→p < j→97≤bn t p∧bn t p≤122:=by
   intro p h1 h2
   have:=hmem p (by omega) h2
   rcases h with ⟨_,rfl⟩|⟨_,rfl⟩|⟨_,rfl⟩ <;> simp at this <;> omega
  rcases h with ⟨_,rfl⟩|⟨_,rfl⟩|⟨_,rfl⟩
  ·
   obtain⟨h1,h2,h3,h4⟩:=hs.bn
   obtain⟨h5,h6,h7,h8⟩:=h3.bn
   exact JZ t i j w ht h5 hj h2 h6 hw hat
  ·
   obtain⟨h1,h2,h3,h4⟩:=hs.bn
   obtain⟨h5,h6,h7,h8⟩:=h3.bn
   exact VJ t i j w ht h5 hj h2 hw hat
  ·
   obtain⟨h1,h2,h3,h4⟩:=hs.bn
   obtain⟨h5,h6,h7,h8⟩:=h3.bn
   exact J1 t i j w ht h5 hj h2 hw hat
 | num h =>
  obtain⟨hv,b,o,c,bp,op,cp,bt,ot,ct,hp⟩:=hT
  obtain⟨x,r,he,hx⟩:=h.head
  have hc:bn t i=x:=by rw [he] at hs;exact hs.bn.2.1
  have hl:i < j:=by rw [he] at hs;exact hs.cons.1
  exact YD t i j w b o c bp op cp bt ot ct ht hl hj (fun p h1 h2=>zKd h _ (hmem p h1 h2)) (by rw [hc];exact hx) (by unfold Fo Ws at hf;unfold Brk;omega) (hp.up hm)
 | str h hu =>
  obtain⟨q,rfl,hq,hin⟩:=zC7 hs h
  exact YE t i q w ht hin (zC6 hs h)
 | arr0 hw=>exact wV t i j w ht hT.1 hs.bn.2.1 (hsq.2.2 _ _ rfl rfl (.inl rfl)).1
 | arr hw _=>exact wV t i j w ht hT.1 hs.bn.2.1 (hsq.2.2 _ _ rfl rfl (.inl rfl)).1
 | obj0 hw=>exact wG t i j w ht hT.1 hs.bn.2.1 (hsq.2.2 _ _ rfl rfl (.inr rfl)).1
 | obj hw _=>exact wG t i j w ht hT.1 hs.bn.2.1 (hsq.2.2 _ _ rfl rfl (.inr rfl)).1
end Go.Proofs.YtljhmnnhfnmhmaaGreatDoor.M
set_option maxRecDepth 100000
namespace Go.Proofs.YtljhmnnhfnmhmaaGreatDoor.M
open Go Go.RowKit Go.ChangeShapes Go.WideShapes
theorem wE {P:Program} {W:World} {l:List (String × DataW Unit)} (h:laidMet P l W) {n:String} {d:DataW Unit} (hm:(n,d) ∈ l) {g:Nat} {t:TypeId} (hg:P.globalNamed n=some g) (ht:(P.globals[g]?).map (·.type)=some t) :
  ∃ (cs:List Value) (fuel:Nat) (p:List MemPlace),(∀ i:Nat,W.cell? ⟨g,i,none⟩=cs[i]?)∧DataW.trod (fun _=>()) P W 0 (fun _=>true) false fuel t cs=some (d,p):=by
 obtain⟨ps,hV,hx⟩:=h
 clear hx
 induction l generalizing ps with
 | nil=>cases hm
 | cons x r ih =>
  obtain⟨n1,d1⟩:=x
  obtain⟨g1,t1,cs,fuel,p,q,h1,h2,h3,h4,h5,_⟩:=hV
  rcases List.mem_cons.1 hm with hm|hm
  ·
   obtain⟨rfl,rfl⟩:=Prod.mk.inj hm
   obtain rfl:=Option.some.inj (hg.symm.trans h1)
   obtain rfl:=Option.some.inj (ht.symm.trans h2)
   exact⟨cs.toList,fuel,p,fun i=>by rw [World.var?_cell h1 h3 i];simp,h4⟩
  ·
   exact ih hm q h5
theorem QQ {W:World} {a:Addr} {n:Nat} {cs:List Value} (h:W.cells? 0 a n=some cs):cs.length=n∧∀ j:Nat,j < n→W.cell? (a.add j)=cs[j]?:=by
 unfold World.cells? at h
 rw [if_pos (Nat.zero_le _)] at h
 exact⟨by simpa using mapM_some_length h,fun j hj=>mapM_some_get h j j (by simp [hj])⟩
theorem zBp {W:World} {a:Addr} {v:Value} (h:W.cell? a=some v):a.spot=none:=by
 unfold World.cell? at h
 split at h
 ·
  split at h
  ·
   cases h
  ·
   rename_i hs
   cases hk:a.spot with
   | none=>rfl
   | some _=>rw [hk] at hs;exact absurd rfl hs
 ·
  cases h
theorem add2 (b o i j:Nat):((⟨b,o,none⟩:Addr).add i).add j=⟨b,o+i+j,none⟩:=by
 unfold Addr.add
 by_cases h0:i=0 <;> by_cases h1:j=0 <;> simp [h0,h1]
theorem J9 {P:Program} {W:World} {t e:TypeId} {fuel:Nat} {cs:List Value} {ds:List (DataW Unit)} {p:List MemPlace} (ht:P.underlying t=some (.slice e)) (hz:0 < P.cellsOf e) (hd:0 < ds.length)
  (h:DataW.trod (fun _=>()) P W 0 (fun _=>true) false fuel t cs=some (.slice ds [],p)) :
  ∃ b o cap:Nat,cs=[.slice (some ⟨b,o,none⟩) ds.length cap]∧∀ (i:Nat) (d:DataW Unit),ds[i]?=some d→∃ (n:Nat) (q:List MemPlace) (c1:List Value),(∀ j:Nat,j < P.cellsOf e→W.cell? ⟨b,o+i * P.cellsOf e+j,none⟩=c1[j]?) ∧
   DataW.trod (fun _=>()) P W 0 (fun _=>true) false n e c1=some (d,q):=by
 rcases DataW.trod_slice ht h with ⟨_,hx⟩|⟨a,len,cap,elems,rest,n,_,hcs,hx,_,hl,_,hlen,hel,_⟩
 ·
  simp at hx
 ·
  simp only [Prod.mk.injEq,DataW.slice.injEq] at hx
  obtain⟨⟨rfl,_⟩,_⟩:=hx
  have el:(elems.map (·.1)).length=len:=by simpa using hlen
  rw [el] at hd
  have key:∀ i:Nat,i < len→∃ c1 x,W.cells? 0 (a.add (i * P.cellsOf e)) (P.cellsOf e)=some c1∧elems[i]?=some x∧DataW.trod (fun _=>()) P W 0 (fun _=>true) false n e c1=some x:=by
   intro i hi
   have hE:=hel i hi
   have hx:elems[i]?=some (elems[i]'(by omega)):=List.getElem?_eq_getElem (by omega)
   rw [hx] at hE
   obtain⟨c1,h1,h2⟩:=Option.bind_eq_some_iff.1 hE
   exact⟨c1,_,h1,hx,h2⟩
  have hsp:a.spot=none:=by
   obtain⟨c1,x,h1,_,_⟩:=key 0 hd
   obtain⟨hl1,hc⟩:=QQ h1
   have h0:=hc 0 hz
   rw [List.getElem?_eq_getElem (by omega)] at h0
   have h0':W.cell? a=some (c1[0]'(by omega)):=by simpa [Addr.add] using h0
   exact zBp h0'
  obtain⟨b,o,s⟩:=a
  simp only at hsp
  subst hsp
  refine⟨b,o,cap,by rw [el];exact hcs,fun i d hd=>?_⟩
  rw [List.getElem?_map] at hd
  have hi:i < len:=by
   rcases Nat.lt_or_ge i len with h|h
   ·
    exact h
   ·
    rw [List.getElem?_eq_none (by omega)] at hd;cases hd
  obtain⟨c1,x,h1,h2,h3⟩:=key i hi
  obtain⟨_,hc⟩:=QQ h1
  rw [h2] at hd
  simp only [Option.map_some,Option.some.injEq] at hd
  exact⟨n,x.2,c1,fun j hj=>by rw [← hc j hj,add2],by rw [h3,← hd]⟩
def JR:List Nat→Bool
 | []=>true
 | [s]=>s != 0
 | _ :: s :: l=>JR (s :: l)
theorem WL:∀ {l:List Nat},JR l=true→Dec.kQ l
 | [],_=>trivial
 | [s],h=>by simpa [JR,Dec.kQ] using h
 | _ :: s :: l,h=>WL (l:=s :: l) h
def digitsOf (s:List UInt8):List Nat:=s.map (fun b=>b.toNat - 48)
def rowB (k δ:Nat) (s:List UInt8):Bool :=
 decide (1≤δ) && decide (10 ^ (δ - 1)≤2 ^ k) && decide (2 ^ k < 10 ^ δ) && decide ((digitsOf s).length+δ=k+1) && decide (Dec.val (digitsOf s)=5 ^ k) && (digitsOf s).all (fun d=>decide (d < 10)) && JR (digitsOf s) && s.all (fun b=>decide (48≤b.toNat)) && decide (δ≤20) && decide (s.length≤100)
theorem zHy:(List.range 61).all (fun k=>k == 0 || (match Go.Pinned.cheatRows[k]? with|some x=>rowB k x.1 x.2|none=>false))=true:=by kernel_rfl
theorem zHx {k δ:Nat} {s:List UInt8} (h:rowB k δ s=true):Dec.zGr k δ (digitsOf s)∧zA7 ⟨s.toArray⟩ (digitsOf s)∧δ≤20∧s.length≤100:=by
 unfold rowB at h
 simp only [Bool.and_eq_true,decide_eq_true_eq,List.all_eq_true] at h
 obtain⟨⟨⟨⟨⟨⟨⟨⟨⟨h1,h2⟩,h3⟩,h4⟩,h5⟩,h6⟩,h7⟩,h8⟩,h9⟩,h10⟩:=h
 refine⟨⟨h1,h2,h3,h4,h5,h6,WL h7⟩,⟨by simp [digitsOf,ByteArray.size],fun j hj=>?_⟩,h9,h10⟩
 have hjl:j < s.length:=by simpa [digitsOf] using hj
 have hb:=vP ⟨s.toArray⟩ j (by simpa [ByteArray.size] using hjl)
 rw [← hb]
 have hm:=h8 s[j] (List.getElem_mem hjl)
 have:(⟨s.toArray⟩:ByteArray)[j]'(by simpa [ByteArray.size] using hjl)=s[j]:=by
  show s.toArray[j]=_
  simp
 rw [this]
 simp only [digitsOf,List.getElem_map]
 omega
theorem c203:Tryz.prog.cellsOf 203=2:=by kernel_rfl
theorem c197:Tryz.prog.cellsOf 197=2:=by kernel_rfl
theorem c108:Tryz.prog.cellsOf 108=1:=by kernel_rfl
theorem c111:Tryz.prog.cellsOf 111=1:=by kernel_rfl
theorem c3:Tryz.prog.cellsOf 3=1:=by kernel_rfl
theorem c5:Tryz.prog.cellsOf 5=1:=by kernel_rfl
theorem c9:Tryz.prog.cellsOf 9=1:=by kernel_rfl
theorem c54:Tryz.prog.cellsOf 54=1:=by kernel_rfl
theorem c113:Tryz.prog.cellsOf 113=256:=by kernel_rfl
theorem JT {α:Type} {l:List α} {f:α→DataW Unit} {i:Nat} {x:α} (h:l[i]?=some x):(l.map f)[i]?=some (f x):=by rw [List.getElem?_map,h];rfl
theorem KP {cs:List Value} {i:Nat} {v:Value} (h:(cs.drop i).take 1=[v]):cs[i]?=some v:=by
 have h2:=congrArg (fun l=>l[0]?) h
 simp only [List.getElem?_take,List.getElem?_drop,List.getElem?_cons_zero] at h2
 simpa using h2
theorem zAr {P:Program} {W:World} {k:FloatKind} {t:TypeId} {n:Nat} {cs:List Value} {x:DataW Unit × List MemPlace} (ht:P.underlying t=some (.float k)) (h:DataW.trod (fun _=>()) P W 0 (fun _=>true) false n t cs=some x):∃ b,cs=[.float k b]∧x=(.lit (.float k b),[]):=by
 cases n with
 | zero=>simp [DataW.trod] at h
 | succ n =>
  unfold DataW.trod at h
  rw [ht] at h
  split at h <;> simp_all
def zIr:List Nat:=[4607182418800017408,4621819117588971520,4636737291354636288,4652007308841189376,4666723172467343360,4681608360884174848,4696837146684686336,4711630319722168320,4726483295884279808,4741671816366391296,4756540486875873280,4771362005757984768,4786511204640096256,4801453603149578240,4816244402031689728,4831355200913801216,4846369599423283200,4861130398305394688,4876203697187506176,4891288408196988160,4906019910204099648,4921056587992461136,4936209963552724370]
def zG9 (v:Nat):Bool:=match Ieee.double.read v with
 | .number _ m _=>m != 0
 | _=>false
theorem zEe {v:Nat} (h:zG9 v=true):Good v:=by
 unfold zG9 at h
 split at h
 ·
  rename_i s m i hx
  exact⟨s,m,i,by simpa using h,hx⟩
 ·
  cases h
theorem zB4:zIr.all zG9=true:=by kernel_rfl
theorem zHa (j x:Nat) (h:zIr[j]?=some x):Good x:=zEe (List.all_eq_true.mp zB4 x (List.mem_of_getElem? h))
section
variable {l:List (String × DataW Unit)} {W:World} (h:laidMet Tryz.prog l W)
include h
theorem zKa (hm:("pub-tetrapla/pub/gjson.vchars",Rows.laid_pub_tetrapla_pub_gjson_vchars) ∈ l):VT W:=by
 obtain⟨cs,n,p,hc,hd⟩:=wE h hm (g:=0) (t:=113) (by kernel_rfl) (by kernel_rfl)
 have hz:(Rows.laid_pub_tetrapla_pub_gjson_vchars:DataW Unit)=Lib.tabData .u8 ((List.range 256).map fun (c:Nat)=>vc (c:Int)):=by kernel_rfl
 rw [hz] at hd
 have hcs:=Lib.cells_of_tab Tryz.underlying113 Tryz.underlying5 c5 c113 hd
 intro c hlt
 rw [hc c,hcs]
 simp [hlt]
theorem zHl (hm:("internal/strconv.optimize",Rows.laid_internal_strconv_optimize) ∈ l):W.cell? ⟨3,0,none⟩=some (.bool true):=by
 obtain⟨cs,n,p,hc,hd⟩:=wE h hm (g:=3) (t:=4) (by kernel_rfl) (by kernel_rfl)
 obtain⟨b,rfl,e⟩:=DataW.trod_bool Tryz.underlying4 hd
 rw [hc 0]
 have:(DataW.lit (.bool true):DataW Unit) = .lit (.bool b):=congrArg Prod.fst e
 cases this
 rfl
theorem zCk {nm:String} {d:DataW Unit} {name:String} (g:Nat) (hm:(nm, .iface name d) ∈ l) (hg:Tryz.prog.globalNamed nm=some g) (ht:(Tryz.prog.globals[g]?).map (·.type)=some 69):∃ ev,W.cell? ⟨g,0,none⟩=some ev∧(ev = .nilIface∨∃ te pe,ev = .iface te pe):=by
 obtain⟨cs,n,p,hc,hd⟩:=wE h hm hg ht
 obtain⟨n',u,v,rfl,_,_⟩:=iface_of_trod Tryz.underlying69 hd
 exact⟨_,hc 0, .inr ⟨u,v,rfl⟩⟩
theorem zEq (hm:("internal/strconv.float64info",Rows.laid_internal_strconv_float64info) ∈ l):W.cell? ⟨8,0,none⟩=some (.int .u64 52)∧W.cell? ⟨8,1,none⟩=some (.int .u64 11)∧W.cell? ⟨8,2,none⟩=some (.int .i64 (-1023)):=by
 obtain⟨cs,n,p,hc,hd⟩:=wE h hm (g:=8) (t:=180) (by kernel_rfl) (by kernel_rfl)
 obtain⟨y0,y1,y2,m,e,hl,h0,h1,h2⟩:=Go.Deep.trod_struct3 Tryz.underlying180 hd
 have h0':=h0
 obtain⟨k0,e0,f0,_⟩:=DataW.trod_int Tryz.underlying111 h0
 obtain⟨k1,e1,f1,_⟩:=DataW.trod_int Tryz.underlying111 h1
 obtain⟨k2,e2,f2,_⟩:=DataW.trod_int Tryz.underlying3 h2
 have he:=congrArg Prod.fst e
 rw [f0,f1,f2] at he
 have he2:(DataW.agg [.lit (.int .u64 52), .lit (.int .u64 11), .lit (.int .i64 (-1023))]:DataW Unit) = .agg [.lit (.int .u64 k0), .lit (.int .u64 k1), .lit (.int .i64 k2)]:=he
 simp only [DataW.agg.injEq,List.cons.injEq,DataW.lit.injEq,Lit.int.injEq,true_and,and_true] at he2
 obtain⟨rfl,rfl,rfl⟩:=he2
 have g0:(cs.drop 0).take 1=[.int .u64 52]:=by rw [← e0,c111]
 have g1:(cs.drop 1).take 1=[.int .u64 11]:=by rw [← e1,c111]
 have g2:(cs.drop 2).take 1=[.int .i64 (-1023)]:=by rw [← e2,c3]
 exact⟨(hc 0).trans (KP g0),(hc 1).trans (KP g1),(hc 2).trans (KP g2)⟩
theorem zHn (hm:∃ d,("internal/strconv.pow10Tab",d) ∈ l):Z2 W:=by
 obtain⟨d,hm⟩:=hm
 obtain⟨cs,n,p,hc,hd⟩:=wE h hm (g:=9) (t:=198) (by kernel_rfl) (by kernel_rfl)
 obtain⟨xs,m,rfl,_,hl,hn,hel⟩:=DataW.trod_array Tryz.underlying198 hd
 intro j hj
 have hi:j / 2 < 696:=by omega
 have hE:=hel (j / 2) hi
 rw [List.getElem?_eq_getElem (by omega),c197] at hE
 obtain⟨y0,y1,m2,e,hl2,h0,h1⟩:=trod_struct2 Tryz.underlying197 hE
 obtain⟨k0,e0,_,_⟩:=DataW.trod_int Tryz.underlying108 h0
 obtain⟨k1,e1,_,_⟩:=DataW.trod_int Tryz.underlying108 h1
 have g0:(((cs.drop (j / 2 * 2)).take 2).drop 0).take 1=[.int .u64 k0]:=by rw [← e0,c108]
 have g1:(((cs.drop (j / 2 * 2)).take 2).drop 1).take 1=[.int .u64 k1]:=by rw [← e1,c108]
 rcases Nat.mod_two_eq_zero_or_one j with h2|h2
 ·
  refine⟨k0,(hc j).trans ?_⟩
  have:=KP g0
  rw [List.getElem?_take,List.getElem?_drop] at this
  simpa [show j / 2 * 2+0=j by omega] using this
 ·
  refine⟨k1,(hc j).trans ?_⟩
  have:=KP g1
  rw [List.getElem?_take,List.getElem?_drop] at this
  simpa [show j / 2 * 2+1=j by omega] using this
theorem zEr (hm:("internal/strconv.powtab",Rows.laid_internal_strconv_powtab) ∈ l):∃ b o c:Nat,W.cell? ⟨12,0,none⟩=some (.slice (some ⟨b,o,none⟩) 9 c)∧∀ j:Nat,j < 9→∃ v:Nat,1≤v∧v≤27∧W.cell? ⟨b,o+j,none⟩=some (.int .i64 (v:Int)):=by
 obtain⟨cs,n,p,hc,hd⟩:=wE h hm (g:=12) (t:=55) (by kernel_rfl) (by kernel_rfl)
 have hz:(Rows.laid_internal_strconv_powtab:DataW Unit) = .slice (([1,3,6,9,13,16,19,23,26]:List Nat).map fun (x:Nat) => .lit (.int .i64 (x:Int))) []:=by kernel_rfl
 rw [hz] at hd
 obtain⟨b,o,c,rfl,hel⟩:=J9 Tryz.underlying55 (by rw [c3];decide) (by simp) hd
 refine⟨b,o,c,(hc 0).trans rfl,fun j hj=>?_⟩
 obtain⟨x,hx⟩:∃ x,([1,3,6,9,13,16,19,23,26]:List Nat)[j]?=some x:=⟨_,List.getElem?_eq_getElem (by simpa using hj)⟩
 have hx2:1≤x∧x≤27:=by
  have:=List.mem_of_getElem? hx
  simp only [List.mem_cons,List.not_mem_nil,or_false] at this
  omega
 obtain⟨n1,q,c1,h1,h2⟩:=hel j _ (JT hx)
 obtain⟨k0,rfl,e0,_⟩:=DataW.trod_int Tryz.underlying3 h2
 simp only [Prod.mk.injEq,DataW.lit.injEq,Lit.int.injEq,true_and] at e0
 have:=h1 0 (by rw [c3];decide)
 rw [c3] at this
 exact⟨x,hx2.1,hx2.2,by rw [e0.1];simpa using this⟩
theorem zHm (hm:("internal/strconv.float64pow10",Rows.laid_internal_strconv_float64pow10) ∈ l):∃ b o c:Nat,P10 b o c W:=by
 obtain⟨cs,n,p,hc,hd⟩:=wE h hm (g:=13) (t:=212) (by kernel_rfl) (by kernel_rfl)
 have hz:(Rows.laid_internal_strconv_float64pow10:DataW Unit) = .slice (zIr.map fun (x:Nat) => .lit (.float .f64 x)) []:=by kernel_rfl
 rw [hz] at hd
 obtain⟨b,o,c,rfl,hel⟩:=J9 Tryz.underlying212 (by rw [c54];decide) (by simp [zIr]) hd
 refine⟨b,o,c,(hc 0).trans rfl,fun j hj=>?_⟩
 obtain⟨x,hx⟩:∃ x,zIr[j]?=some x:=⟨_,List.getElem?_eq_getElem (by simpa [zIr] using hj)⟩
 obtain⟨n1,q,c1,h1,h2⟩:=hel j _ (JT hx)
 obtain⟨k0,rfl,e0⟩:=zAr Tryz.underlying54 h2
 simp only [Prod.mk.injEq,DataW.lit.injEq,Lit.float.injEq,true_and] at e0
 have:=h1 0 (by rw [c54];decide)
 rw [c54] at this
 exact⟨x,by rw [e0.1];simpa using this,zHa j x hx⟩
theorem zAj (hm:("internal/strconv.leftcheats",Go.Pinned.leftcheats) ∈ l):∃ b o c:Nat,KU b o c W:=by
 obtain⟨cs,n,p,hc,hd⟩:=wE h hm (g:=10) (t:=204) (by kernel_rfl) (by kernel_rfl)
 have hlen:(Go.Pinned.cheatRows.map fun (x:Nat × List UInt8)=>(DataW.agg [.lit (.int .i64 x.1), .lit (.string x.2)]:DataW Unit)).length=61:=by kernel_rfl
 obtain⟨b,o,c,rfl,hel⟩:=J9 (ds:=Go.Pinned.cheatRows.map fun (x:Nat × List UInt8)=>(DataW.agg [.lit (.int .i64 x.1), .lit (.string x.2)]:DataW Unit)) Tryz.underlying204 (by rw [c203];decide) (by rw [hlen];decide) hd
 rw [hlen] at hc
 refine⟨b,o,c,(hc 0).trans rfl,fun k k1 k60=>?_⟩
 have hr:=List.all_eq_true.mp zHy k (List.mem_range.mpr (by omega))
 have hk0:(k == 0)=false:=beq_eq_false_iff_ne.mpr (by omega)
 rw [hk0,Bool.false_or] at hr
 split at hr
 ·
  rename_i x hx
  obtain⟨r1,r2,r3,r4⟩:=zHx hr
  obtain⟨n1,q,c1,h1,h2⟩:=hel k _ (JT hx)
  obtain⟨y0,y1,m2,e,hl2,g0,g1⟩:=trod_struct2 Tryz.underlying203 h2
  obtain⟨k0,e0,f0,_⟩:=DataW.trod_int Tryz.underlying3 g0
  obtain⟨s,e1,f1,_⟩:=DataW.trod_string Tryz.underlying9 g1
  have he:=congrArg Prod.fst e
  rw [f0,f1] at he
  simp only [DataW.agg.injEq,List.cons.injEq,DataW.lit.injEq,Lit.int.injEq,Lit.string.injEq,true_and,and_true] at he
  have hs:s=⟨x.2.toArray⟩:=by
   cases s
   simp only [ByteArray.mk.injEq]
   have:=he.2
   simp only at this
   rw [this]
  have t0:(c1.drop 0).take 1=[.int .i64 k0]:=by rw [← e0,c3]
  have t1:(c1.drop 1).take 1=[.string s]:=by rw [← e1,c9]
  have d0:=h1 0 (by rw [c203];decide)
  have d1:=h1 1 (by rw [c203];decide)
  rw [c203] at d0 d1
  refine⟨x.1,s,digitsOf x.2,?_,?_,by rw [hs];exact r2,r1,r3,by rw [hs];simpa [ByteArray.size] using r4⟩
  ·
   rw [he.1]
   exact d0.trans (KP t0)
  ·
   exact d1.trans (KP t1)
 ·
  cases hr
theorem zKq (hv:("pub-tetrapla/pub/gjson.vchars",Rows.laid_pub_tetrapla_pub_gjson_vchars) ∈ l) (ho:("internal/strconv.optimize",Rows.laid_internal_strconv_optimize) ∈ l) (he:("strconv.ErrSyntax",Rows.laid_strconv_ErrSyntax) ∈ l) (hr:("strconv.ErrRange",Rows.laid_strconv_ErrRange) ∈ l)
  (hi:("internal/strconv.float64info",Rows.laid_internal_strconv_float64info) ∈ l) (hp:("internal/strconv.pow10Tab",Rows.laid_internal_strconv_pow10Tab) ∈ l) (ht:("internal/strconv.powtab",Rows.laid_internal_strconv_powtab) ∈ l) (hf:("internal/strconv.float64pow10",Rows.laid_internal_strconv_float64pow10) ∈ l) (hc:("internal/strconv.leftcheats",Rows.laid_internal_strconv_leftcheats) ∈ l):Tb W.heap.size W:=by
 obtain⟨i0,i1,i2⟩:=zEq h hi
 obtain⟨bp,op,cp,pw,pv⟩:=zEr h ht
 obtain⟨bt,ot,ct,p10⟩:=zHm h hf
 obtain⟨b,o,c,ch⟩:=zAj h hc
 have l13:=World.block_lt_of_cell? _ _ p10.1
 obtain⟨δ,s,ll,q1,_⟩:=ch.2 1 (by decide) (by decide)
 obtain⟨v0,_,_,q2⟩:=pv 0 (by decide)
 obtain⟨v1,q3,_⟩:=p10.2 0 (by decide)
 have l1:=World.block_lt_of_cell? _ _ q1
 have l2:=World.block_lt_of_cell? _ _ q2
 have l3:=World.block_lt_of_cell? _ _ q3
 have l12:=World.block_lt_of_cell? _ _ pw
 exact⟨zKa h hv,b,o,c,bp,op,cp,bt,ot,ct,⟨⟨zHl h ho,⟨i0,i1,i2,pw,pv,ch,l1,l2,l12⟩,p10,zHn h ⟨_,hp⟩,l3,l13⟩,zCk h 4 he (by kernel_rfl) (by kernel_rfl),zCk h 5 hr (by kernel_rfl) (by kernel_rfl)⟩⟩
end
end Go.Proofs.YtljhmnnhfnmhmaaGreatDoor.M
