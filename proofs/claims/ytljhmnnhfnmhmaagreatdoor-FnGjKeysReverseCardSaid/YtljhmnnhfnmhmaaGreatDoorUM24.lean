/-
Lemmas of this claim; made short by a program of this work.
-/
import Derived.Test.YtljhmnnhfnmhmaaGreatDoorUGx8
import Derived.Test.YtljhmnnhfnmhmaaGreatDoorUM0
set_option linter.unusedVariables false
set_option linter.unusedSimpArgs false
namespace Go.Proofs.YtljhmnnhfnmhmaaGreatDoor.M
open Go Go.RowKit Go.Proofs.YtljhmnnhfnmhmaaGreatDoorW.PrintWords Go.Proofs.YtljhmnnhfnmhmaaGreatDoor.G
def Ev {α:Type} (f:Nat→Option α) (r:α):Prop:=∃ K,∀ k,K≤k→f k=some r
theorem Ev.of {α:Type} {f:Nat→Option α} {r:α} (h:∀ k,f k=some r):Ev f r:=⟨0,fun k _=>h k⟩
theorem Ev.step {α:Type} {f g:Nat→Option α} {r:α} (h:Ev g r) (hs:∀ k,f (k+1)=g k):Ev f r:=by
 obtain⟨K,hK⟩:=h
 refine⟨K+1,fun k hk=>?_⟩
 obtain⟨m,rfl⟩:∃ m,k=m+1:=⟨k - 1,by omega⟩
 rw [hs]
 exact hK m (by omega)
theorem Ev.eq {α:Type} {f g:Nat→Option α} {r:α} (h:Ev g r) (hs:∀ k,f k=g k):Ev f r:=by
 obtain⟨K,hK⟩:=h
 exact⟨K,fun k hk=>(hs k).trans (hK k hk)⟩
theorem Ev.bind {α β:Type} {f:Nat→Option α} {g:Nat→α→Option β} {r:α} {s:β} (h:Ev f r) (h2:Ev (fun k=>g k r) s):Ev (fun k=>(f k).bind (g k)) s:=by
 obtain⟨K,hK⟩:=h
 obtain⟨K2,hK2⟩:=h2
 refine⟨max K K2,fun k hk=>?_⟩
 show (f k).bind (g k)=some s
 rw [hK k (by omega),Option.bind_some]
 exact hK2 k (by omega)
theorem Ev.some {α:Type} {r:α}:Ev (fun _=>Option.some r) r:=⟨0,fun _ _=>rfl⟩
theorem Ev.get {α:Type} {f:Nat→Option α} {r:α} (h:Ev f r):∃ k,f k=Option.some r:=by
 obtain⟨K,hK⟩:=h
 exact⟨K,hK K (Nat.le_refl _)⟩
theorem Ev.uniq {α:Type} {f:Nat→Option α} {r s:α} (h:Ev f r) (h2:Ev f s):r=s:=by
 obtain⟨K,hK⟩:=h
 obtain⟨K2,hK2⟩:=h2
 have:=(hK (max K K2) (by omega)).symm.trans (hK2 (max K K2) (by omega))
 exact Option.some.inj this
def Ws (c:Int):Prop:=c=32∨c=9∨c=10∨c=13
def xV (l:List Int):Prop:=∀ c ∈ l,Ws c
theorem xV.nil:xV []:=fun c h=>by cases h
def Rng (l:List Int):Prop:=∀ z ∈ l,0≤z∧z < 256
theorem Rng.nil:Rng []:=by intro z hz;cases hz
theorem Rng.app {a b:List Int} (ha:Rng a) (hb:Rng b):Rng (a ++ b):=by
 intro z hz
 rcases List.mem_append.mp hz with h|h
 ·
  exact ha z h
 ·
  exact hb z h
theorem Rng.cons {z:Int} {a:List Int} (hz:0≤z∧z < 256) (ha:Rng a):Rng (z :: a):=by
 intro x hx
 rcases List.mem_cons.mp hx with h|h
 ·
  rw [h];exact hz
 ·
  exact ha x h
theorem Rng.left {a b:List Int} (h:Rng (a ++ b)):Rng a:=fun z hz=>h z (by simp [hz])
theorem Rng.right {a b:List Int} (h:Rng (a ++ b)):Rng b:=fun z hz=>h z (by simp [hz])
theorem Y2 (t:ByteArray):Rng (bytesOf t):=by
 intro z hz
 obtain⟨b,_,rfl⟩:=List.mem_map.mp hz
 have:=b.toNat_lt
 omega
theorem vV {zs:List Int} (h:Rng zs):bytesOf (strOfNums zs)=zs:=by
 unfold bytesOf strOfNums
 simp only [List.map_map]
 conv=>rhs;rw [← List.map_id zs]
 refine List.map_congr_left (fun z hz=>?_)
 have:=h z hz
 simp
 omega
theorem map_inj {a b:List UInt8} (h:a.map (fun x=>(x.toNat:Int))=b.map (fun x=>(x.toNat:Int))):a=b:=by
 induction a generalizing b with
 | nil =>
  cases b with
  | nil=>rfl
  | cons y b=>cases h
 | cons x a ih =>
  cases b with
  | nil=>cases h
  | cons y b =>
   simp only [List.map_cons,List.cons.injEq] at h
   rw [ih h.2,UInt8.toNat_inj.mp (by omega:x.toNat=y.toNat)]
theorem XB {a b:ByteArray} (h:bytesOf a=bytesOf b):a=b:=by
 have h2:a.data.toList=b.data.toList:=map_inj h
 cases a
 cases b
 congr 1
 exact Array.toList_inj.mp h2
structure Seg (l:List Int) (i j:Nat) (s:List Int):Prop where
 eq:l.drop i=s ++ l.drop j
 at_:j=i+s.length
 le:j≤l.length
theorem Seg.nil {l:List Int} {i:Nat} (h:i≤l.length):Seg l i i []:=⟨rfl,by simp,h⟩
theorem Seg.app {l:List Int} {i j k:Nat} {s s2:List Int} (h:Seg l i j s) (h2:Seg l j k s2):Seg l i k (s ++ s2) :=
 ⟨by rw [h.eq,h2.eq,List.append_assoc],by rw [h2.at_,h.at_,List.length_append,Nat.add_assoc],h2.le⟩
theorem Seg.one {l:List Int} {i:Nat} (h:i < l.length):Seg l i (i+1) [l.getD i 0] :=
 ⟨by rw [List.drop_eq_getElem_cons h];simp [List.getD,h],by simp,h⟩
theorem Seg.ge {l:List Int} {i j:Nat} {s:List Int} (h:Seg l i j s):i≤j:=by have:=h.at_;omega
theorem drop_cons {l:List Int} {i:Nat} {z:Int} {r:List Int} (h:l.drop i=z :: r):i < l.length∧l.drop (i+1)=r∧l.getD i 0=z:=by
 have hi:i < l.length:=by
  rcases Nat.lt_or_ge i l.length with hi|hi
  ·
   exact hi
  ·
   rw [List.drop_eq_nil_of_le hi] at h;cases h
 rw [List.drop_eq_getElem_cons hi] at h
 injection h with h1 h2
 exact⟨hi,h2,by simp [List.getD,hi,h1]⟩
theorem zD4 {l:List Int} {i:Nat} {a r:List Int} (h:l.drop i=a ++ r):l.drop (i+a.length)=r:=by
 rw [← List.drop_drop,h,List.drop_left']
 rfl
theorem Seg.split {l:List Int} {i j:Nat} {a b:List Int} (h:Seg l i j (a ++ b)):∃ m,Seg l i m a∧Seg l m j b:=by
 have hl:=h.at_
 have hle:=h.le
 rw [List.length_append] at hl
 have e:=h.eq
 rw [List.append_assoc] at e
 have e2:=zD4 e
 refine⟨i+a.length,⟨?_,rfl,by omega⟩,⟨?_,by omega,hle⟩⟩
 ·
  rw [e2];exact e
 ·
  rw [e2]
theorem Seg.cons {l:List Int} {i j:Nat} {c:Int} {b:List Int} (h:Seg l i j (c :: b)):i < j∧l.getD i 0=c∧Seg l (i+1) j b:=by
 have hl:=h.at_
 simp only [List.length_cons] at hl
 have e:=drop_cons h.eq
 refine⟨by omega,e.2.2,⟨e.2.1,by omega,h.le⟩⟩
theorem Seg.whole (l:List Int):Seg l 0 l.length l:=⟨by simp,by simp,Nat.le_refl _⟩
theorem Seg.here {l:List Int} {i j:Nat} {s:List Int} (h:Seg l i j s) (m:Nat) (h1:i≤m) (h2:m < j):l.getD m 0=s.getD (m - i) 0∧m - i < s.length:=by
 have hl:=h.at_
 have hk:m - i < s.length:=by omega
 refine⟨?_,hk⟩
 have e:(l.drop i).getD (m - i) 0=(s ++ l.drop j).getD (m - i) 0:=by rw [h.eq]
 simp only [List.getD_eq_getElem?_getD,List.getElem?_drop,List.getElem?_append_left hk] at e
 rw [show i+(m - i)=m by omega] at e
 simpa [List.getD_eq_getElem?_getD] using e
def Hx (c:Int):Prop:=(48≤c∧c≤57)∨(97≤c∧c≤102)∨(65≤c∧c≤70)
def Shc (c:Int):Prop:=c=92∨c=47∨c=98∨c=102∨c=110∨c=114∨c=116∨c=34
inductive Sb:List Int→Prop where
 | fin:Sb [34]
 | plain {c:Int} {l:List Int}:32≤c→¬ c=34→¬ c=92→Sb l→Sb (c :: l)
 | short {c:Int} {l:List Int}:Shc c→Sb l→Sb (92 :: c :: l)
 | uni {a b c d:Int} {l:List Int}:Hx a→Hx b→Hx c→Hx d→Sb l→Sb (92 :: 117 :: a :: b :: c :: d :: l)
def Qt (s:List Int):Prop:=∃ b,s=34 :: b∧Sb b
def Z1 (s:List Int):Prop:=∀ c ∈ s,48≤c∧c≤57
def N2 (s:List Int):Prop:=∃ g d,s=g ++ d∧(g=[]∨g=[43]∨g=[45])∧Z1 d∧d≠[]
def N1 (s:List Int):Prop:=s=[]∨∃ c r,s=c :: r∧(c=101∨c=69)∧N2 r
def N0 (s:List Int):Prop:=(∃ d r,s=46 :: (d ++ r)∧Z1 d∧d≠[]∧N1 r)∨N1 s
def Nm (s:List Int):Prop:=∃ g d r,s=g ++ (d ++ r)∧(g=[]∨g=[45])∧(d=[48]∨(Z1 d∧∃ c e,d=c :: e∧¬ c=48))∧N0 r
def Wd (k:Int) (s:List Int):Prop:=(k=0∧s=[110,117,108,108])∨(k=1∧s=[102,97,108,115,101])∨(k=2∧s=[116,114,117,101])
def Unq (s:List Int) (u:ByteArray):Prop:=Ev (fun k=>xD.f k (strOfNums s)) u
def j4:ByteArray:=⟨#[]⟩
inductive RX:Nat→List Int→List ByteArray→List S25→Prop where
 | word {k:Int} {s:List Int}:Wd k s→RX 0 s [] [⟨k,j4,[],[]⟩]
 | num {s:List Int}:Nm s→RX 0 s [] [⟨3,strOfNums s,[],[]⟩]
 | str {s:List Int} {u:ByteArray}:Qt s→Unq s u→RX 0 s [] [⟨4,u,[],[]⟩]
 | arr0 {w:List Int}:xV w→RX 0 (91 :: (w ++ [93])) [] [⟨5,j4,[],[]⟩]
 | arr {w s:List Int} {ns:List S25}:xV w→RX 1 s [] ns→RX 0 (91 :: (w ++ s)) [] [⟨5,j4,[],ns⟩]
 | obj0 {w:List Int}:xV w→RX 0 (123 :: (w ++ [125])) [] [⟨6,j4,[],[]⟩]
 | obj {w s:List Int} {ks:List ByteArray} {ns:List S25}:xV w→RX 2 s ks ns→RX 0 (123 :: (w ++ s)) [] [⟨6,j4,ks,ns⟩]
 | el1 {v w:List Int} {n:S25}:RX 0 v [] [n]→xV w→RX 1 (v ++ (w ++ [93])) [] [n]
 | el {v w w2 s:List Int} {n:S25} {ns:List S25}:RX 0 v [] [n]→xV w→xV w2→RX 1 s [] ns→RX 1 (v ++ (w ++ (44 :: (w2 ++ s)))) [] (n :: ns)
 | mb1 {k w1 w2 v w3:List Int} {u:ByteArray} {n:S25}:Qt k→Unq k u→xV w1→xV w2→RX 0 v [] [n]→xV w3→RX 2 (k ++ (w1 ++ (58 :: (w2 ++ (v ++ (w3 ++ [125])))))) [u] [n]
 | mb {k w1 w2 v w3 w4 s:List Int} {u:ByteArray} {n:S25} {us:List ByteArray} {ns:List S25}:Qt k→Unq k u→xV w1→xV w2→RX 0 v [] [n]→xV w3→xV w4→RX 2 s us ns →
   RX 2 (k ++ (w1 ++ (58 :: (w2 ++ (v ++ (w3 ++ (44 :: (w4 ++ s)))))))) (u :: us) (n :: ns)
theorem RX.ne {c:Nat} {s:List Int} {ks:List ByteArray} {ns:List S25} (h:RX c s ks ns):s≠[]:=by
 cases h with
 | word h=>rcases h with ⟨_,rfl⟩|⟨_,rfl⟩|⟨_,rfl⟩ <;> simp
 | num h =>
  obtain⟨g,d,r,rfl,hg,hd,_⟩:=h
  rcases hd with rfl|⟨_,c,e,rfl,_⟩ <;> simp
 | str h _=>obtain⟨b,rfl,_⟩:=h;simp
 | arr0 _=>simp
 | arr _ _=>simp
 | obj0 _=>simp
 | obj _ _=>simp
 | el1 _ _=>simp
 | el _ _ _ _=>simp
 | mb1 _ _ _ _ _ _=>simp
 | mb _ _ _ _ _ _ _ _=>simp
theorem Nm.head {s:List Int} (h:Nm s):∃ c r,s=c :: r∧(c=45∨(48≤c∧c≤57)):=by
 obtain⟨g,d,r,rfl,hg,hd,_⟩:=h
 rcases hg with rfl|rfl
 ·
  rcases hd with rfl|⟨hd,c,e,rfl,_⟩
  ·
   exact⟨48,_,rfl,by omega⟩
  ·
   exact⟨c,_,rfl, .inr (hd c (by simp))⟩
 ·
  exact⟨45,_,rfl, .inl rfl⟩
theorem RX.head {s:List Int} {ks:List ByteArray} {ns:List S25} (h:RX 0 s ks ns):∃ c r,s=c :: r∧(c=34∨c=45∨(48≤c∧c≤57)∨c=116∨c=102∨c=110∨c=123∨c=91):=by
 cases h with
 | word h=>rcases h with ⟨_,rfl⟩|⟨_,rfl⟩|⟨_,rfl⟩ <;> exact⟨_,_,rfl,by omega⟩
 | num h=>obtain⟨c,r,rfl,h⟩:=h.head;exact⟨c,r,rfl,by omega⟩
 | str h _=>obtain⟨b,rfl,_⟩:=h;exact⟨_,_,rfl,by omega⟩
 | arr0 _=>exact⟨_,_,rfl,by omega⟩
 | arr _ _=>exact⟨_,_,rfl,by omega⟩
 | obj0 _=>exact⟨_,_,rfl,by omega⟩
 | obj _ _=>exact⟨_,_,rfl,by omega⟩
end Go.Proofs.YtljhmnnhfnmhmaaGreatDoor.M
set_option maxHeartbeats 4000000
namespace Go.Proofs.YtljhmnnhfnmhmaaGreatDoor.M
open Go Go.RowKit Go.Proofs.YtljhmnnhfnmhmaaGreatDoorW.PrintWords Go.Proofs.YtljhmnnhfnmhmaaGreatDoor.G
theorem Y1 (t:ByteArray) (i:Nat) (h:i < t.size):bt t (i:Int)=(bytesOf t).getD i 0:=by
 have h2:=j9 t (i:Int) (by simpa using h)
 have hl:i < t.data.toList.length:=by simpa using h
 rw [← h2,bytesOf]
 simp only [List.getD,List.getElem?_map,List.getElem?_eq_getElem hl,Option.map_some,Option.getD_some]
 simp
 rfl
theorem qV {i n:Nat} (h:i < n) (hn:n≤1048576):wrap64 ((i:Int)+1)=((i+1:Nat):Int):=by
 unfold wrap64
 omega
theorem zFx (c:Int) (x:Bool) (hx:x=true→97≤c∧c≤102):∃ (v:Int) (b:Bool),Ev (fun k=>zY.j1 k c x) (v,b)∧(b=true→Hx c):=by
 by_cases h1:x=true
 ·
  exact⟨_,true,Ev.step (g:=fun _=>some (((c - 97) % 256)+10,true)) Ev.some (fun k=>by rw [zY.j1,if_pos h1]),fun _ => .inr (.inl (hx h1))⟩
 ·
  by_cases h2:65≤c
  ·
   by_cases h3:c≤70
   ·
    exact⟨_,true,Ev.step (g:=fun _=>some (((c - 65) % 256)+10,true)) Ev.some (fun k=>by rw [zY.j1,if_neg h1,if_pos h2,if_pos h3]),fun _ => .inr (.inr ⟨h2,h3⟩)⟩
   ·
    exact⟨0,false,Ev.step (g:=fun _=>some (0,false)) Ev.some (fun k=>by rw [zY.j1,if_neg h1,if_pos h2,if_neg h3]),fun h=>by cases h⟩
  ·
   exact⟨0,false,Ev.step (g:=fun _=>some (0,false)) Ev.some (fun k=>by rw [zY.j1,if_neg h1,if_neg h2]),fun h=>by cases h⟩
theorem zFw (c:Int) (x:Bool) (hx:x=true→48≤c∧c≤57):∃ (v:Int) (b:Bool),Ev (fun k=>zY.j0 k c x) (v,b)∧(b=true→Hx c):=by
 by_cases h1:x=true
 ·
  exact⟨_,true,Ev.step (g:=fun _=>some ((c - 48) % 256,true)) Ev.some (fun k=>by rw [zY.j0,if_pos h1]),fun _ => .inl (hx h1)⟩
 ·
  by_cases h2:97≤c
  ·
   obtain⟨v,b,he,hb⟩:=zFx c (decide (c≤102)) (fun h=>⟨h2,of_decide_eq_true h⟩)
   exact⟨v,b,Ev.step he (fun k=>by rw [zY.j0,if_neg h1,if_pos h2]),hb⟩
  ·
   obtain⟨v,b,he,hb⟩:=zFx c false (fun h=>by cases h)
   exact⟨v,b,Ev.step he (fun k=>by rw [zY.j0,if_neg h1,if_neg h2]),hb⟩
theorem zFv (c:Int):∃ (v:Int) (b:Bool),Ev (fun k=>zY.f k c) (v,b)∧(b=true→Hx c):=by
 by_cases h:48≤c
 ·
  obtain⟨v,b,he,hb⟩:=zFw c (decide (c≤57)) (fun h2=>⟨h,of_decide_eq_true h2⟩)
  exact⟨v,b,he.eq (fun k=>by rw [zY.f,if_pos h]),hb⟩
 ·
  obtain⟨v,b,he,hb⟩:=zFw c false (fun h=>by cases h)
  exact⟨v,b,he.eq (fun k=>by rw [zY.f,if_neg h]),hb⟩
theorem WK (c:Int):∃ b,vK.f c=some b:=by
 unfold vK.f
 by_cases h:55296≤c
 ·
  exact⟨_,by rw [if_pos h]⟩
 ·
  exact⟨_,by rw [if_neg h]⟩
theorem zCi (c:Int):∃ b,vM.f c=some b:=by
 unfold vM.f
 by_cases h:56320≤c
 ·
  exact⟨_,by rw [if_pos h]⟩
 ·
  exact⟨_,by rw [if_neg h]⟩
theorem zH1 (c:Int):∃ b,yI.f c=some b:=by
 unfold yI.f
 by_cases h1:c=98
 ·
  exact⟨_,by rw [if_pos h1]⟩
 by_cases h2:c=102
 ·
  exact⟨_,by rw [if_neg h1,if_pos h2]⟩
 by_cases h3:c=110
 ·
  exact⟨_,by rw [if_neg h1,if_neg h2,if_pos h3]⟩
 by_cases h4:c=114
 ·
  exact⟨_,by rw [if_neg h1,if_neg h2,if_neg h3,if_pos h4]⟩
 by_cases h5:c=116
 ·
  exact⟨_,by rw [if_neg h1,if_neg h2,if_neg h3,if_neg h4,if_pos h5]⟩
 ·
  exact⟨_,by rw [if_neg h1,if_neg h2,if_neg h3,if_neg h4,if_neg h5]⟩
theorem zBg (l:List Int) (c:Int) (x:Bool) (hl:l.length≤1099511627776):∃ r,Ev (fun k=>xH.j0 k l c x) r∧r.length≤l.length+4:=by
 have h:∃ r:List Int,(∀ k,xH.j0 (k+1) l c x=some r)∧r.length≤l.length+4:=by
  cases x with
  | true =>
   refine⟨l ++ [239,191,189],fun k=>?_,?_⟩
   ·
    rw [xH.j0,if_pos rfl,Option.bind_some,if_pos Zq41]
   ·
    simp
  | false =>
   by_cases h:c < 65536
   ·
    refine⟨l ++ [(wrap64 (224+(wrap64 (Int.tdiv c 4096)))) % 256,(wrap64 (128+(Int.tmod (wrap64 (Int.tdiv c 64)) 64))) % 256,(wrap64 (128+(Int.tmod c 64))) % 256],fun k=>?_,?_⟩
    ·
     rw [xH.j0,if_neg (by simp),if_pos h,Option.bind_some,if_pos Zq41]
    ·
     simp
   ·
    refine⟨l ++ [(wrap64 (240+(wrap64 (Int.tdiv c 262144)))) % 256,(wrap64 (128+(Int.tmod (wrap64 (Int.tdiv c 4096)) 64))) % 256,(wrap64 (128+(Int.tmod (wrap64 (Int.tdiv c 64)) 64))) % 256,(wrap64 (128+(Int.tmod c 64))) % 256],fun k=>?_,?_⟩
    ·
     rw [xH.j0,if_neg (by simp),if_neg h,Option.bind_some,if_pos Zq41]
    ·
     simp
 obtain⟨r,h1,h2⟩:=h
 exact⟨r,Ev.step Ev.some h1,h2⟩
theorem zBf (l:List Int) (c:Int) (hl:l.length≤1099511627776):∃ r,Ev (fun k=>xH.f k l c) r∧r.length≤l.length+4:=by
 by_cases h1:c < 128
 ·
  exact⟨_,Ev.of (fun k=>by rw [xH.f,if_pos h1,if_pos (by omega)]),by simp⟩
 by_cases h2:c < 2048
 ·
  refine⟨_,Ev.of (fun k=>by rw [xH.f,if_neg h1,if_pos h2,Option.bind_some,if_pos Zq41]),by simp⟩
 obtain⟨b,hb⟩:=WK c
 cases b with
 | true =>
  obtain⟨r,hr,hl⟩:=zBg l c true hl
  exact⟨r,hr.eq (fun k=>by rw [xH.f,if_neg h1,if_neg h2,hb,Option.bind_some,if_pos rfl]),hl⟩
 | false =>
  obtain⟨b2,hb2⟩:=zCi c
  obtain⟨r,hr,hl⟩:=zBg l c b2 hl
  exact⟨r,hr.eq (fun k=>by rw [xH.f,if_neg h1,if_neg h2,hb,Option.bind_some,if_neg (by simp),hb2,Option.bind_some]),hl⟩
section
variable (x:ByteArray) (hx:x.size≤1048576)
include hx
theorem zH7 (a:Nat) (ha:a+6≤x.size):∀ (m n:Nat) (v:Int),n+m=a+6→∃ (r:Int) (b:Bool),Ev (fun k=>xC.l0 k x (a:Int) v (n:Int)) (r,b):=by
 intro m
 induction m with
 | zero =>
  intro n v hn
  exact⟨v,true,Ev.step (g:=fun _=>some (v,true)) Ev.some (fun k=>by rw [xC.l0,if_neg zDm])⟩
 | succ m ih =>
  intro n v hn
  obtain⟨d,b,he,hb⟩:=zFv (bt x (n:Int))
  have hw:wrap64 ((n:Int)+1)=((n+1:Nat):Int):=qV (n:=x.size) (by omega) hx
  cases b with
  | false =>
   refine⟨0,false,Ev.step (he.bind (g:=fun k bt284=>if bt284.2=true then (xC.l0 k x a (wrap64 ((wrap64 (v * 16))+bt284.1)) (wrap64 ((n:Int)+1))) else (some (0,false))) ?_) (fun k=>?_)⟩
   ·
    simp only [Bool.false_eq_true,if_false]
    exact Ev.some
   ·
    rw [xC.l0,if_pos zDm,if_pos (by omega),if_pos (by omega)]
  | true =>
   obtain⟨r,b2,he2⟩:=ih (n+1) (wrap64 ((wrap64 (v * 16))+d)) (by omega)
   refine⟨r,b2,Ev.step (he.bind (g:=fun k bt284=>if bt284.2=true then (xC.l0 k x a (wrap64 ((wrap64 (v * 16))+bt284.1)) (wrap64 ((n:Int)+1))) else (some (0,false))) ?_) (fun k=>?_)⟩
   ·
    simp only [if_true]
    rw [hw]
    exact he2
   ·
    rw [xC.l0,if_pos zDm,if_pos (by omega),if_pos (by omega)]
theorem QD (a:Nat) (ha:a≤x.size):∃ (r:Int) (b:Bool),Ev (fun k=>xC.f k x (a:Int)) (r,b)∧(b=true→a+6≤x.size∧(bytesOf x).getD a 0=92∧(bytesOf x).getD (a+1) 0=117):=by
 have hj:∀ k,xC.j0 (k+1) x (a:Int) true=some (0,false):=fun k=>by rw [xC.j0,if_pos rfl]
 by_cases h1:x.size < a+6
 ·
  exact⟨0,false,Ev.step (g:=fun _=>some (0,false)) Ev.some (fun k=>by
   show xC.f (k+1) x (a:Int)=_
   rw [xC.f,if_pos zDm,hj]),fun h=>by cases h⟩
 have hb0:=Y1 x a (by omega)
 have hb1:=Y1 x (a+1) (by omega)
 have hw:wrap64 ((a:Int)+1)=((a+1:Nat):Int):=qV (n:=x.size) (by omega) hx
 by_cases h2:(bytesOf x).getD a 0=92
 ·
  by_cases h3:(bytesOf x).getD (a+1) 0=117
  ·
   obtain⟨r,b,he⟩:=zH7 x hx a (by omega) 4 (a+2) 0 (by omega)
   refine⟨r,b,Ev.eq (g:=fun k=>xC.j0 k x (a:Int) false) (Ev.step he (fun k=>?_)) (fun k=>?_),fun _=>⟨by omega,h2,h3⟩⟩
   ·
    rw [xC.j0,if_neg (by simp)]
    congr 1
    unfold wrap64;omega
   ·
    rw [xC.f,if_neg zDm,if_pos (by omega),if_pos (by omega),hb0,if_pos h2,hw,if_pos (by omega),if_pos (by omega),hb1,h3]
    rfl
  ·
   refine⟨0,false,Ev.step (g:=fun _=>some (0,false)) Ev.some (fun k=>?_),fun h=>by cases h⟩
   show xC.f (k+1) x (a:Int)=_
   rw [xC.f,if_neg zDm,if_pos (by omega),if_pos (by omega),hb0,if_pos h2,hw,if_pos (by omega),if_pos (by omega),hb1,bne_iff_ne.mpr h3,hj]
 ·
  refine⟨0,false,Ev.step (g:=fun _=>some (0,false)) Ev.some (fun k=>?_),fun h=>by cases h⟩
  show xC.f (k+1) x (a:Int)=_
  rw [xC.f,if_neg zDm,if_pos (by omega),if_pos (by omega),hb0,if_neg h2,hj]
omit hx in
theorem QW (p:Nat) (h:p < x.size):(bytesOf x).drop p=(bytesOf x).getD p 0 :: (bytesOf x).drop (p+1):=by
 have hl:p < (bytesOf x).length:=by rw [zW];exact h
 rw [List.drop_eq_getElem_cons hl]
 simp [List.getD,hl]
omit hx in
theorem zC4 (p:Nat) (h1:p < x.size) (h92:(bytesOf x).getD p 0=92) (hs:Sb ((bytesOf x).drop p ++ [34])) :
  p+1 < x.size∧Sb ((bytesOf x).drop (p+2) ++ [34])∧((bytesOf x).getD (p+1) 0=117→p+6≤x.size∧Sb ((bytesOf x).drop (p+6) ++ [34])):=by
 rw [QW x p h1,h92] at hs
 have hlen:((bytesOf x).drop (p+1) ++ [34]).length=x.size - (p+1)+1:=by simp [zW]
 generalize hl:(bytesOf x).drop (p+1) ++ [34]=l at hlen
 rw [List.cons_append,hl] at hs
 have key:∀ (n:Nat) (a r:List Int),a.length=n→l=a ++ r→r≠[]→r=(bytesOf x).drop (p+1+n) ++ [34]∧p+1+n≤x.size:=by
  intro n a r hn hr hne
  have hr1:0 < r.length:=List.length_pos_iff.mpr hne
  have hll:l.length=n+r.length:=by rw [hr,List.length_append,hn]
  refine⟨?_,by omega⟩
  have:l.drop n=r:=by rw [hr,← hn,List.drop_left'];rfl
  rw [← this,← hl,List.drop_append_of_le_length (by simp [zW];omega),List.drop_drop]
 have hat:∀ (n:Nat) (c:Int),n+1 < l.length→l[n]?=some c→(bytesOf x).getD (p+1+n) 0=c:=by
  intro n c hn hc
  rw [← hl,List.getElem?_append_left (by simp [zW];omega),List.getElem?_drop] at hc
  simp [List.getD,hc]
 have hsb:∀ r,Sb r→r≠[]:=by
  intro r hr
  cases hr <;> simp
 cases hs with
 | plain _ _ h _=>exact absurd rfl h
 | @short c r hc hr =>
  obtain⟨e,hle⟩:=key 1 [c] r rfl rfl (hsb r hr)
  have:=hat 0 c (by have:=List.length_pos_iff.mpr (hsb r hr);simp;omega) (by simp)
  refine⟨by omega,by rw [show p+2=p+1+1 by omega,← e];exact hr,fun h117=>?_⟩
  rw [show p+1+0=p+1 by omega] at this
  rw [this] at h117
  unfold Shc at hc
  omega
 | @uni a b c d r ha hb hc hd hr =>
  obtain⟨e,hle⟩:=key 5 [117,a,b,c,d] r rfl rfl (hsb r hr)
  obtain⟨e1,_⟩:=key 1 [117] (a :: b :: c :: d :: r) rfl rfl (by simp)
  have hp:∀ {z:Int} {l:List Int},Hx z→Sb l→Sb (z :: l):=fun h hl => .plain (by unfold Hx at h;omega) (by unfold Hx at h;omega) (by unfold Hx at h;omega) hl
  exact⟨by omega,by rw [show p+2=p+1+1 by omega,← e1];exact hp ha (hp hb (hp hc (hp hd hr))),fun _=>⟨by omega,by rw [show p+6=p+1+5 by omega,← e];exact hr⟩⟩
theorem zKs:∀ (m p:Nat),x.size - p≤m→p≤x.size→Sb ((bytesOf x).drop p ++ [34])→∀ x3:List Int,x3.length≤4 * p→∃ u,Ev (fun k=>xD.l0 k x3 x (p:Int)) u:=by
 intro m
 induction m using Nat.strongRecOn with
 | ind m ih =>
  intro p hm hp hs x3 h3
  by_cases h1:p < x.size
  case neg =>
   exact⟨_,Ev.step Ev.some (fun k=>by rw [xD.l0,if_neg (by omega)])⟩
  have hb:=Y1 x p h1
  by_cases h92:(bytesOf x).getD p 0=92
  ·
   obtain⟨v,b,⟨K1,e1⟩,hbt⟩:=QD x hx p hp
   dsimp only at e1
   have hlt:=zC4 x p h1 h92 hs
   cases b with
   | false =>
    have hlt1:p+1 < x.size:=hlt.1
    have hw1:∀ _:Unit,wrap64 ((p:Int)+1)=((p+1:Nat):Int):=fun _=>(qV (n:=x.size) h1 hx)
    have hw2:∀ _:Unit,wrap64 ((p:Int)+2)=((p+2:Nat):Int):=fun _=>zDm
    obtain⟨c,hc⟩:=zH1 (bt x ((p+1:Nat):Int))
    have hsb:=hlt.2.1
    obtain⟨u,⟨K2,e2⟩⟩:=ih (m - 1) (by omega) (p+2) (by omega) (by omega) hsb (x3 ++ [c]) Zq0
    dsimp only at e2
    exact⟨u,K1+K2+1,fun k hk=>by
     obtain⟨f,rfl⟩:∃ f,k=f+1:=⟨k - 1,by omega⟩
     show xD.l0 (f+1) x3 x (p:Int)=_
     rw [xD.l0,if_pos (by omega),if_pos (by omega),hb,if_pos h92,e1 f (by omega),Option.bind_some,if_neg (by simp),hw1 (),if_pos (by omega),if_pos (by omega),hc,Option.bind_some,if_pos (by omega),hw2 (),e2 f (by omega)]⟩
   | true =>
    obtain⟨h6,_,h117⟩:=hbt rfl
    have hsb:=(hlt.2.2 h117).2
    have hw6:∀ _:Unit,wrap64 ((p:Int)+6)=((p+6:Nat):Int):=fun _=>zDm
    obtain⟨v2,b2,⟨K2,e2⟩,hbt2⟩:=QD x hx (p+6) (by omega)
    dsimp only at e2
    obtain⟨r,⟨K3,e3⟩,hr⟩:=zBf x3 v (by omega)
    dsimp only at e3
    obtain⟨u,⟨K4,e4⟩⟩:=ih (m - 1) (by omega) (p+6) (by omega) (by omega) hsb r (by omega)
    dsimp only at e4
    cases b2 with
    | false =>
     exact⟨u,K1+K2+K3+K4+1,fun k hk=>by
      obtain⟨f,rfl⟩:∃ f,k=f+1:=⟨k - 1,by omega⟩
      show xD.l0 (f+1) x3 x (p:Int)=_
      rw [xD.l0,if_pos (by omega),if_pos (by omega),hb,if_pos h92,e1 f (by omega),Option.bind_some,if_pos rfl,hw6 (),e2 f (by omega),Option.bind_some,if_neg (by simp),e3 f (by omega),Option.bind_some,e4 f (by omega)]⟩
    | true =>
     obtain⟨bh,hbh⟩:=WK v
     cases bh with
     | false =>
      exact⟨u,K1+K2+K3+K4+1,fun k hk=>by
       obtain⟨f,rfl⟩:∃ f,k=f+1:=⟨k - 1,by omega⟩
       show xD.l0 (f+1) x3 x (p:Int)=_
       rw [xD.l0,if_pos (by omega),if_pos (by omega),hb,if_pos h92,e1 f (by omega),Option.bind_some,if_pos rfl,hw6 (),e2 f (by omega),Option.bind_some,if_pos rfl,hbh,Option.bind_some,if_neg (by simp),e3 f (by omega),Option.bind_some,e4 f (by omega)]⟩
     | true =>
      obtain⟨bl,hbl⟩:=zCi v2
      cases bl with
      | false =>
       exact⟨u,K1+K2+K3+K4+1,fun k hk=>by
        obtain⟨f,rfl⟩:∃ f,k=f+1:=⟨k - 1,by omega⟩
        show xD.l0 (f+1) x3 x (p:Int)=_
        rw [xD.l0,if_pos (by omega),if_pos (by omega),hb,if_pos h92,e1 f (by omega),Option.bind_some,if_pos rfl,hw6 (),e2 f (by omega),Option.bind_some,if_pos rfl,hbh,Option.bind_some,if_pos rfl,hbl,Option.bind_some,if_neg (by simp),e3 f (by omega),Option.bind_some,e4 f (by omega)]⟩
      | true =>
       obtain⟨h12,h92b,h117b⟩:=hbt2 rfl
       have hsb2:Sb ((bytesOf x).drop (p+12) ++ [34]):=((zC4 x (p+6) (by omega) h92b hsb).2.2 h117b).2
       have hw12:∀ _:Unit,wrap64 (((p+6:Nat):Int)+6)=((p+12:Nat):Int):=fun _=>zDm
       obtain⟨z,hz⟩:∃ z,∀ _:Unit,wrap64 ((wrap64 (65536+(wrap64 ((wrap64 (v - 55296)) * 1024))))+(wrap64 (v2 - 56320)))=z:=⟨_,fun _=>rfl⟩
       obtain⟨r2,⟨K5,e5⟩,hr2⟩:=zBf x3 z (by omega)
       dsimp only at e5
       obtain⟨u2,⟨K6,e6⟩⟩:=ih (m - 1) (by omega) (p+12) (by omega) (by omega) hsb2 r2 (by omega)
       dsimp only at e6
       exact⟨u2,K1+K2+K5+K6+1,fun k hk=>by
        obtain⟨f,rfl⟩:∃ f,k=f+1:=⟨k - 1,by omega⟩
        show xD.l0 (f+1) x3 x (p:Int)=_
        rw [xD.l0,if_pos (by omega),if_pos (by omega),hb,if_pos h92,e1 f (by omega),Option.bind_some,if_pos rfl,hw6 (),e2 f (by omega),Option.bind_some,if_pos rfl,hbh,Option.bind_some,if_pos rfl,hbl,Option.bind_some,if_pos rfl,hz (),e5 f (by omega),Option.bind_some,hw12 (),e6 f (by omega)]⟩
  ·
   have hsb:Sb ((bytesOf x).drop (p+1) ++ [34]):=by
    rw [QW x p h1,List.cons_append] at hs
    generalize (bytesOf x).getD p 0=c at hs h92
    generalize hl:(bytesOf x).drop (p+1) ++ [34]=l at hs
    cases hs with
    | fin=>simp at hl
    | plain _ _ _ h=>exact h
    | short _ _=>exact absurd rfl h92
    | uni _ _ _ _ _=>exact absurd rfl h92
   have hw1:∀ _:Unit,wrap64 ((p:Int)+1)=((p+1:Nat):Int):=fun _=>(qV (n:=x.size) h1 hx)
   obtain⟨u,⟨K2,e2⟩⟩:=ih (m - 1) (by omega) (p+1) (by omega) (by omega) hsb (x3 ++ [bt x (p:Int)]) Zq0
   dsimp only at e2
   exact⟨u,K2+1,fun k hk=>by
    obtain⟨f,rfl⟩:∃ f,k=f+1:=⟨k - 1,by omega⟩
    show xD.l0 (f+1) x3 x (p:Int)=_
    rw [xD.l0,if_pos (by omega),if_pos (by omega),if_neg (by rw [hb];exact h92),if_pos (by omega),hw1 (),e2 f (by omega)]⟩
end
theorem Sb.body {l:List Int} (h:Sb l):∃ b,l=b ++ [34]:=by
 induction h with
 | fin=>exact⟨[],rfl⟩
 | @plain c l _ _ _ _ ih=>obtain⟨b,rfl⟩:=ih;exact⟨c :: b,rfl⟩
 | @short c l _ _ ih=>obtain⟨b,rfl⟩:=ih;exact⟨92 :: c :: b,rfl⟩
 | @uni a b c d l _ _ _ _ _ ih=>obtain⟨e,rfl⟩:=ih;exact⟨92 :: 117 :: a :: b :: c :: d :: e,rfl⟩
theorem qY (t:ByteArray) (i j:Nat):bytesOf (t.extract i j)=((bytesOf t).drop i).take (j - i):=by
 unfold bytesOf
 simp [ByteArray.data_extract,List.map_drop,List.map_take,List.drop_take]
theorem vO (l:List Int):(strOfNums l).size=l.length:=by
 unfold strOfNums
 simp [ByteArray.size]
theorem zGb {s:List Int} (hq:Qt s) (hr:Rng s) (hl:s.length≤1048576):∃ u,Unq s u:=by
 obtain⟨b,rfl,hb⟩:=hq
 obtain⟨body,rfl⟩:=hb.body
 have hz:(strOfNums (34 :: (body ++ [34]))).size=body.length+2:=by rw [vO];simp
 have hbk:=vV hr
 have hw:wrap64 (((body.length+2:Nat):Int) - 1)=((body.length+1:Nat):Int):=by simp only [List.length_cons,List.length_append,List.length_nil] at hl;unfold wrap64;omega
 obtain⟨x,hx⟩:∃ x,x=(strOfNums (34 :: (body ++ [34]))).extract 1 (body.length+1):=⟨_,rfl⟩
 have hxb:bytesOf x=body:=by rw [hx,qY,hbk];simp
 have hxs:x.size=body.length:=by rw [← zW,hxb]
 obtain⟨u,K,e⟩:=zKs x (by simp at hl;omega) x.size 0 (by omega) (by omega) (by simpa [hxb] using hb) [] (by simp)
 dsimp only at e
 refine⟨u,K,fun k hk=>?_⟩
 show xD.f k (strOfNums (34 :: (body ++ [34])))=_
 rw [xD.f,hz,hw,if_pos (by omega),if_pos (by omega),Int.toNat_natCast,← hx]
 exact e k hk
theorem J8 {t:ByteArray} {i j:Nat} {s:List Int} (hs:Seg (bytesOf t) i j s):Rng s:=by
 have:=Y2 t
 intro z hz
 refine this z (List.mem_of_mem_drop (i:=i) ?_)
 rw [hs.eq]
 simp [hz]
theorem zDe (t:ByteArray) (ht:t.size≤1048576) {i j:Nat} {s:List Int} (hs:Seg (bytesOf t) i j s) (hq:Qt s):∃ u,Unq s u :=
 zGb hq (J8 hs) (by have:=hs.at_;have:=hs.le;rw [zW] at this;omega)
theorem zH8 (t:ByteArray) (ht:t.size≤1048576) {i j:Nat} {s:List Int} (hs:Seg (bytesOf t) i j s) (hq:Qt s):∃ n:S25,RX 0 s [] [n]:=by
 obtain⟨u,hu⟩:=zDe t ht hs hq
 exact⟨_, .str hq hu⟩
end Go.Proofs.YtljhmnnhfnmhmaaGreatDoor.M
