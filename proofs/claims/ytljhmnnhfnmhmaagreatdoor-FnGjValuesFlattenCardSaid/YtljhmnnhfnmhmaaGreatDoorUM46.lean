/-
Lemmas of this claim; made short by a program of this work.
-/
import Derived.Test.YtljhmnnhfnmhmaaGreatDoorUM38
import Derived.Test.YtljhmnnhfnmhmaaGreatDoorUM0
import Derived.Test.YtljhmnnhfnmhmaaGreatDoorUM3
set_option linter.unusedVariables false
set_option linter.unusedSimpArgs false
namespace Go.Proofs.YtljhmnnhfnmhmaaGreatDoor.M
open Go Go.RowKit Go.Proofs.YtljhmnnhfnmhmaaGreatDoorW.PrintWords Go.Proofs.YtljhmnnhfnmhmaaGreatDoor.G
def Vis (c:Int):Prop:=33≤c∧c≤126
def X6 (s:List Int):Prop:=∃ r d,s=r ++ [d]∧Vis d
theorem X6.app {b:List Int} (h:X6 b) (a:List Int):X6 (a ++ b):=by
 obtain⟨r,d,rfl,hd⟩:=h
 exact⟨a ++ r,d,by simp,hd⟩
theorem X6.cons {b:List Int} (h:X6 b) (c:Int):X6 (c :: b):=h.app [c]
theorem X6.one {c:Int} (h:Vis c):X6 [c]:=⟨[],c,rfl,h⟩
theorem Sb.zA0 {s:List Int} (h:Sb s):X6 s:=by
 induction h with
 | fin=>exact .one zDy
 | plain _ _ _ _ ih=>exact ih.cons _
 | short _ _ ih=>exact(ih.cons _).cons _
 | uni _ _ _ _ _ ih=>exact(((((ih.cons _).cons _).cons _).cons _).cons _).cons _
theorem Z1.zA0 {d:List Int} (h:Z1 d) (hne:d≠[]):X6 d :=
 ⟨d.dropLast,d.getLast hne,(List.dropLast_concat_getLast hne).symm,by have:=h _ (List.getLast_mem hne);unfold Vis;omega⟩
theorem N1.zA0 {a r:List Int} (h:N1 r) (ha:X6 a):X6 (a ++ r):=by
 rcases h with rfl|⟨c,e,rfl,_,g,d,rfl,_,hd,hne⟩
 ·
  simpa using ha
 ·
  exact(((hd.zA0 hne).app g).cons c).app a
theorem Nm.zA0 {s:List Int} (h:Nm s):X6 s:=by
 obtain⟨g,d,r,rfl,hg,hd,hr⟩:=h
 have hD:X6 d:=by
  rcases hd with rfl|⟨hd,c,e,rfl,_⟩
  ·
   exact .one zDy
  ·
   exact hd.zA0 (by simp)
 refine X6.app ?_ g
 rcases hr with ⟨d2,r2,rfl,hd2,hne,h1⟩|h1
 ·
  exact((N1.zA0 h1 (hd2.zA0 hne)).cons 46).app d
 ·
  exact N1.zA0 h1 hD
theorem RX.zA0 {c:Nat} {s:List Int} {ks:List ByteArray} {ns:List S25} (h:RX c s ks ns):X6 s:=by
 induction h with
 | word h =>
  rcases h with ⟨_,rfl⟩|⟨_,rfl⟩|⟨_,rfl⟩
  ·
   exact⟨[110,117,108],108,rfl,zDy⟩
  ·
   exact⟨[102,97,108,115],101,rfl,zDy⟩
  ·
   exact⟨[116,114,117],101,rfl,zDy⟩
 | num h=>exact h.zA0
 | str h _=>obtain⟨b,rfl,hb⟩:=h;exact hb.zA0.cons _
 | arr0 _=>exact((X6.one zDy).app _).cons _
 | arr _ _ ih=>exact(ih.app _).cons _
 | obj0 _=>exact((X6.one zDy).app _).cons _
 | obj _ _ ih=>exact(ih.app _).cons _
 | el1 _ _ _=>exact((X6.one zDy).app _).app _
 | el _ _ _ _ _ ih=>exact(((ih.app _).cons _).app _).app _
 | mb1 _ _ _ _ _ _ _=>exact((((((X6.one zDy).app _).app _).app _).cons _).app _).app _
 | mb _ _ _ _ _ _ _ _ _ ih=>exact((((((((ih.app _).cons _).app _).app _).app _).cons _).app _).app _)
structure zGs (e:List Int):Prop where
 head:∃ c r,e=c :: r∧Vis c
 last:X6 e
inductive EX:List Int→List S25→Prop where
 | one {v:List Int} {n:S25}:RX 0 v [] [n]→EX v [n]
 | cons {v w w2 e:List Int} {n:S25} {ns:List S25}:RX 0 v [] [n]→xV w→xV w2→EX e ns→EX (v ++ (w ++ (44 :: (w2 ++ e)))) (n :: ns)
theorem RX.core {c:Nat} {s:List Int} {ks:List ByteArray} {ns:List S25} (h:RX c s ks ns):c=1→∃ e w,s=e ++ (w ++ [93])∧xV w∧EX e ns:=by
 induction h with
 | el1 hv hw _=>intro _;exact⟨_,_,rfl,hw, .one hv⟩
 | el hv hw hw2 hs _ ih =>
  intro _
  obtain⟨e,w',he,hb,hx⟩:=ih rfl
  exact⟨_,w',by rw [he];simp,hb, .cons hv hw hw2 hx⟩
 | _=>intro h;exact absurd h (by decide)
theorem EX.close {e w:List Int} {ns:List S25} (h:EX e ns) (hw:xV w):RX 1 (e ++ (w ++ [93])) [] ns:=by
 induction h with
 | one hv=>exact .el1 hv hw
 | cons hv h1 h2 _ ih=>have:=RX.el hv h1 h2 ih;simpa using this
theorem EX.join {e e2:List Int} {ns ns2:List S25} (h:EX e ns) (h2:EX e2 ns2):EX (e ++ 44 :: e2) (ns ++ ns2):=by
 induction h with
 | one hv=>have:=EX.cons hv xV.nil xV.nil h2;simpa using this
 | cons hv a b _ ih=>have:=EX.cons hv a b ih;simpa using this
theorem WJ {s:List Int} {n:S25} (h:RX 0 s [] [n]):∃ c r,s=c :: r∧Vis c:=by
 obtain⟨c,r,rfl,hc⟩:=h.head
 exact⟨c,r,rfl,by unfold Vis;omega⟩
theorem EX.tight {e:List Int} {ns:List S25} (h:EX e ns):zGs e:=by
 induction h with
 | one hv=>exact⟨WJ hv,hv.zA0⟩
 | cons hv a b _ ih =>
  obtain⟨c,r,rfl,hc⟩:=WJ hv
  exact⟨⟨c,_,rfl,hc⟩,(((ih.last.app _).cons _).app _).app _⟩
theorem EX.ne {e:List Int} {ns:List S25} (h:EX e ns):e≠[]:=by
 obtain⟨c,r,rfl,_⟩:=h.tight.head
 simp
structure Core (v e:List Int) (n:S25):Prop where
 eq:∃ w w2,v=91 :: (w ++ (e ++ (w2 ++ [93])))∧xV w∧xV w2
 ex:(e=[]∧n.f3=[])∨EX e n.f3
theorem RX.zGw {v:List Int} {n:S25} (h:RX 0 v [] [n]) (h5:n.f0=5):∃ e,Core v e n:=by
 cases h with
 | word h=>rcases h with ⟨rfl,_⟩|⟨rfl,_⟩|⟨rfl,_⟩ <;> exact absurd h5 (by decide)
 | num h=>exact absurd h5 (by decide:¬ (3:Int)=5)
 | str _ _=>exact absurd h5 (by decide:¬ (4:Int)=5)
 | arr0 hw=>exact⟨[],⟨_,[],by simp,hw,xV.nil⟩, .inl ⟨rfl,rfl⟩⟩
 | arr hw h =>
  obtain⟨e,w2,rfl,hw2,hx⟩:=h.core rfl
  exact⟨e,⟨_,w2,rfl,hw,hw2⟩, .inr hx⟩
 | obj0 _=>exact absurd h5 (by decide:¬ (6:Int)=5)
 | obj _ _=>exact absurd h5 (by decide:¬ (6:Int)=5)
inductive Nds:List (List Int)→List S25→Prop where
 | nil:Nds [] []
 | cons {v:List Int} {n:S25} {l:List (List Int)} {ns:List S25}:RX 0 v [] [n]→Nds l ns→Nds (v :: l) (n :: ns)
inductive kY:List (List Int)→List (List Int)→List S25→Prop where
 | nil:kY [] [] []
 | cons {v e:List Int} {n:S25} {l es:List (List Int)} {ns:List S25}:Core v e n→kY l es ns→kY (v :: l) (e :: es) (n :: ns)
theorem Nds.cores {l:List (List Int)} {ns:List S25} (h:Nds l ns) (h5:∀ n ∈ ns,n.f0=5):∃ es,kY l es ns:=by
 induction h with
 | nil=>exact⟨[], .nil⟩
 | cons hv _ ih =>
  obtain⟨es,hes⟩:=ih (fun n hn=>h5 n (by simp [hn]))
  obtain⟨e,he⟩:=hv.zGw (h5 _ (by simp))
  exact⟨e :: es, .cons he hes⟩
theorem kY.get {l es:List (List Int)} {ns:List S25} (h:kY l es ns):∀ (k:Nat) (v:List Int),l[k]?=some v→∃ e n,es[k]?=some e∧Core v e n:=by
 induction h with
 | nil=>intro k v hv;simp at hv
 | cons hc _ ih =>
  intro k v hv
  cases k with
  | zero =>
   simp only [List.getElem?_cons_zero,Option.some.injEq] at hv
   subst hv
   exact⟨_,_,rfl,hc⟩
  | succ k =>
   simp only [List.getElem?_cons_succ] at hv ⊢
   exact ih k v hv
theorem kY.len {l es:List (List Int)} {ns:List S25} (h:kY l es ns):es.length=l.length:=by
 induction h with
 | nil=>rfl
 | cons _ _ ih=>simp [ih]
def flt:List (List Int)→List (List Int)
 | []=>[]
 | e :: l=>if e=[] then flt l else e :: flt l
theorem zEb (l:List (List Int)) (e:List Int):flt (l ++ [e])=if e=[] then flt l else flt l ++ [e]:=by
 induction l with
 | nil=>simp [flt]
 | cons x l ih =>
  rw [List.cons_append]
  by_cases hx:x=[]
  ·
   simp only [flt,if_pos hx,ih]
  ·
   by_cases he:e=[]
   ·
    simp only [flt,if_neg hx,ih,if_pos he]
   ·
    simp only [flt,if_neg hx,ih,if_neg he,List.cons_append]
theorem zEd (l:List (List Int)) (k:Nat) (e:List Int) (h:l[k]?=some e):flt (l.take (k+1))=if e=[] then flt (l.take k) else flt (l.take k) ++ [e]:=by
 have he:l.take (k+1)=l.take k ++ [e]:=by rw [List.take_add_one,h];rfl
 rw [he,zEb]
theorem zG8 {l:List (List Int)} {e:List Int} (h:e ∈ flt l):e ∈ l:=by
 induction l with
 | nil=>exact h
 | cons x l ih =>
  by_cases hx:x=[]
  ·
   simp only [flt,if_pos hx] at h;exact List.mem_cons_of_mem _ (ih h)
  ·
   simp only [flt,if_neg hx] at h
   rcases List.mem_cons.1 h with h|h
   ·
    exact h ▸ List.mem_cons_self
   ·
    exact List.mem_cons_of_mem _ (ih h)
theorem jt_jn {l:List (List Int)} (h:l≠[]):jt l=44 :: jn l:=by
 cases l with
 | nil=>exact absurd rfl h
 | cons x l=>rfl
theorem zB7 {l es:List (List Int)} {ns:List S25} (h:kY l es ns):esz (flt es)≤esz l:=by
 induction h with
 | nil=>simp [flt,esz]
 | @cons v e n l es ns hc _ ih =>
  obtain⟨w,w2,rfl,_,_⟩:=hc.eq
  by_cases he:e=[]
  ·
   simp only [flt,if_pos he,esz];omega
  ·
   simp only [flt,if_neg he,esz,List.length_cons,List.length_append];omega
theorem VE (l:List (List Int)) (k:Nat):(flt (l.take k)).length≤l.length:=by
 induction l generalizing k with
 | nil=>simp [flt]
 | cons x l ih =>
  cases k with
  | zero=>simp [flt]
  | succ k =>
   have:=ih k
   simp only [List.take_succ_cons,flt]
   split
   ·
    simp only [List.length_cons];omega
   ·
    simp only [List.length_cons];omega
theorem Q1 (l:List (List Int)) (k:Nat):esz (flt (l.take k))≤esz (flt l):=by
 induction l generalizing k with
 | nil=>simp [flt]
 | cons x l ih =>
  cases k with
  | zero=>simp [flt,esz]
  | succ k =>
   have:=ih k
   simp only [List.take_succ_cons,flt]
   split
   ·
    exact this
   ·
    simp only [esz];omega
theorem Core.rng {v e:List Int} {n:S25} (h:Core v e n) (hr:Rng v):Rng e:=by
 obtain⟨w,w2,rfl,_,_⟩:=h.eq
 exact fun z hz=>hr z (by simp [hz])
theorem kY.rng {l es:List (List Int)} {ns:List S25} (h:kY l es ns) (hr:∀ v ∈ l,Rng v):∀ e ∈ es,Rng e:=by
 induction h with
 | nil=>intro e he;cases he
 | cons hc _ ih =>
  intro e he
  rcases List.mem_cons.1 he with he|he
  ·
   rw [he];exact hc.rng (hr _ (by simp))
  ·
   exact ih (fun v hv=>hr v (by simp [hv])) e he
def jG (ns:List S25):List S25:=ns.flatMap (fun n=>n.f3)
theorem kY.ex {l es:List (List Int)} {ns:List S25} (h:kY l es ns):(flt es=[]∧jG ns=[])∨EX (jn (flt es)) (jG ns):=by
 induction h with
 | nil=>exact .inl ⟨rfl,rfl⟩
 | @cons v e n l es ns hc _ ih =>
  have hk:jG (n :: ns)=n.f3 ++ jG ns:=by simp [jG]
  rw [hk]
  rcases hc.ex with ⟨he,h3⟩|hx
  ·
   simp only [flt,if_pos he,h3,List.nil_append]
   exact ih
  ·
   have he:=hx.ne
   simp only [flt,if_neg he]
   right
   rcases ih with ⟨h1,h2⟩|h
   ·
    rw [h1,h2,List.append_nil]
    simpa [jn,jt] using hx
   ·
    have hne:flt es≠[]:=by
     intro h0
     have:=h.ne
     rw [h0] at this
     exact this rfl
    have:=hx.join h
    rw [← jt_jn hne] at this
    exact this
theorem kY.rx {l es:List (List Int)} {ns:List S25} (h:kY l es ns):RX 0 (bx (flt es)) [] [⟨5,j4,[],jG ns⟩]:=by
 rcases h.ex with ⟨h1,h2⟩|hx
 ·
  rw [h1,h2]
  simpa [bx,jn] using RX.arr0 xV.nil
 ·
  have:=RX.arr xV.nil (hx.close xV.nil)
  simpa [bx] using this
theorem zB5 {l es:List (List Int)} {ns:List S25} (h:kY l es ns) (hr:∀ v ∈ l,Rng v) (hs:esz l≤1000000):PlY (strOfNums (bx (flt es))) ⟨5,j4,[],jG ns⟩∧WB (⟨5,j4,[],jG ns⟩:S25):=by
 have hn:=h.rx
 have he:=h.rng hr
 have hrg:Rng (bx (flt es)):=Rng.cons (by decide) ((V8 (fun x hx=>he x (zG8 hx))).app (Rng.cons (by decide) Rng.nil))
 have hb:=vV hrg
 have hz:(bx (flt es)).length=(jn (flt es)).length+2:=by simp [bx]
 have hz2:(strOfNums (bx (flt es))).size=(bx (flt es)).length:=vO _
 have hlen2:=kS (flt es)
 have hsz:=zB7 h
 exact⟨JB (strOfNums (bx (flt es))) (by omega) hb hn,(hn.wb (by omega)).2.2 _ (by simp)⟩
theorem RX.zJ8 {c:Nat} {s:List Int} {us:List ByteArray} {ns:List S25} (h:RX c s us ns):c=2→∃ L,Mb s L∧L.length=us.length∧Nds (L.map Prod.snd) ns:=by
 induction h with
 | mb1 hk hu hw1 hw2 hv hw3 _=>intro _;exact⟨_,Mb.last hk hw1 hw2 ⟨_,hv⟩ hw3,rfl, .cons hv .nil⟩
 | mb hk hu hw1 hw2 hv hw3 hw4 hs _ ih =>
  intro _
  obtain⟨L,h1,h2,h3⟩:=ih rfl
  exact⟨_,Mb.cons hk hw1 hw2 ⟨_,hv⟩ hw3 hw4 h1,by simp [h2], .cons hv h3⟩
 | _=>intro h;exact absurd h (by decide)
theorem RX.zHq {s:List Int} {n:S25} (h:RX 0 s [] [n]) (h6:n.f0=6):∃ w r L,s=123 :: (w ++ r)∧xV w∧((r=[125]∧L=[])∨Mb r L)∧Nds (L.map Prod.snd) n.f3:=by
 cases h with
 | word h=>rcases h with ⟨rfl,_⟩|⟨rfl,_⟩|⟨rfl,_⟩ <;> exact absurd h6 (by decide)
 | num h=>exact absurd h6 (by decide:¬ (3:Int)=6)
 | str _ _=>exact absurd h6 (by decide:¬ (4:Int)=6)
 | arr0 _=>exact absurd h6 (by decide:¬ (5:Int)=6)
 | arr _ _=>exact absurd h6 (by decide:¬ (5:Int)=6)
 | obj0 hw=>exact⟨_,_,[],rfl,hw, .inl ⟨rfl,rfl⟩, .nil⟩
 | obj hw h =>
  obtain⟨L,h1,h2,h3⟩:=h.zJ8 rfl
  exact⟨_,_,L,rfl,hw, .inr h1,h3⟩
theorem zKi {t:ByteArray} {s:List Int} {n:S25} (ht:t.size≤1048576) (he:bytesOf t=s) (hx:RX 0 s [] [n]) (h6:n.f0=6):∃ L,OT t L∧Nds (L.map Prod.snd) n.f3:=by
 obtain⟨w,r,L,rfl,hw,hr,hL⟩:=hx.zHq h6
 have hlen:=zW t
 have hs:Seg (bytesOf t) 0 t.size (123 :: (w ++ r)):=by rw [← hlen,← he];exact Seg.whole _
 have hpos:0 < t.size:=by rw [← hlen,he];simp
 refine⟨L,⟨ht,hpos,hs.bn.2.1,?_⟩,hL⟩
 rcases hr with ⟨rfl,rfl⟩|hr
 ·
  exact⟨w ++ [125],[],by simpa using hs.bn.2.2.1,fun c hc=>by
   rcases List.mem_append.1 hc with hc|hc
   ·
    exact yW hw c hc
   ·
    rw [List.mem_singleton.1 hc];decide, .inl ⟨rfl,rfl⟩⟩
 ·
  exact⟨w,r,by simpa using hs.bn.2.2.1,fun c hc=>yW hw c hc, .inr hr⟩
end Go.Proofs.YtljhmnnhfnmhmaaGreatDoor.M
set_option maxHeartbeats 2000000
set_option maxRecDepth 100000
namespace Go.Proofs.YtljhmnnhfnmhmaaGreatDoor.M
open Go Go.RowKit Go.Proofs.YtljhmnnhfnmhmaaGreatDoorW.PrintWords
def X7 (v:Value) (w:World) (e:Ending) (w':World):Prop:=e = .returned v∧∃ n:Nat,w'=w.drewN n
theorem JVt {s:ByteArray} (h:0 < s.size):s.toList.isEmpty=false:=by
 rw [ByteArray.toList_eq]
 cases hl:s.data.toList with
 | nil =>
  have:s.size=0:=by rw [show s.size=s.data.toList.length by simp,hl];rfl
  omega
 | cons _ _=>rfl
theorem YO (c:Int) (w:World) (h:c=32∨c=9∨c=10∨c=13):Calls Tryz.prog 79 #[.int .i32 c] w (X7 (.bool true) w):=by
 rcases h with rfl|rfl|rfl|rfl
 all_goals
  go_enter Tryz.func79,Tryz.ntmps79
  go_wp2_with fail
  go_ret
  exact⟨rfl,0,rfl⟩
theorem WT (c:Int) (w:World) (h:33≤c∧c≤126):Calls Tryz.prog 79 #[.int .i32 c] w (X7 (.bool false) w):=by
 have h1:(c == 9)=false:=beq_eq_false_iff_ne.mpr (by omega)
 have h2:(c == 10)=false:=beq_eq_false_iff_ne.mpr (by omega)
 have h3:(c == 11)=false:=beq_eq_false_iff_ne.mpr (by omega)
 have h4:(c == 12)=false:=beq_eq_false_iff_ne.mpr (by omega)
 have h5:(c == 13)=false:=beq_eq_false_iff_ne.mpr (by omega)
 have h6:(c == 32)=false:=beq_eq_false_iff_ne.mpr (by omega)
 have h7:(c == 133)=false:=beq_eq_false_iff_ne.mpr (by omega)
 have h8:(c == 160)=false:=beq_eq_false_iff_ne.mpr (by omega)
 have h9:(c == 5760)=false:=beq_eq_false_iff_ne.mpr (by omega)
 have h10:(c == 8232)=false:=beq_eq_false_iff_ne.mpr (by omega)
 have h11:(c == 8233)=false:=beq_eq_false_iff_ne.mpr (by omega)
 have h12:(c == 8239)=false:=beq_eq_false_iff_ne.mpr (by omega)
 have h13:(c == 8287)=false:=beq_eq_false_iff_ne.mpr (by omega)
 have h14:(c == 12288)=false:=beq_eq_false_iff_ne.mpr (by omega)
 have h15:¬ 8192≤c:=by omega
 clear h
 go_enter Tryz.func79,Tryz.ntmps79
 go_wp2_with fail
 go_ret
 exact⟨rfl,0,rfl⟩
theorem QV (s:ByteArray) (w:World) (h:0 < s.size) (h0:bn s 0 < 128):Calls Tryz.prog 78 #[.string s] w (X7 (.tuple #[.int .i32 (bn s 0), .int .i64 1]) w):=by
 have hb:=vP s
 have hne:=JVt h
 have hr:=qR s 0
 go_enter Tryz.func78,Tryz.ntmps78
 go_wp2_with fail
 go_ret2
 exact⟨rfl,0,rfl⟩
theorem WD (s:ByteArray) (w:World) (h:0 < s.size) (hs:s.size≤1048576) (h0:bn s (s.size - 1) < 128):Calls Tryz.prog 80 #[.string s] w (X7 (.tuple #[.int .i32 (bn s (s.size - 1)), .int .i64 1]) w):=by
 have hb:=vP s
 have hr:=qR s (s.size - 1)
 have hp1:wrap64 ((s.size:Int) - 1)=((s.size - 1:Nat):Int):=by unfold wrap64;omega
 have hp2:s.size - 1 < s.size:=by omega
 have hz:((s.size:Int) == 0)=false:=beq_eq_false_iff_ne.mpr (by omega)
 go_enter Tryz.func80,Tryz.ntmps80
 go_wp2_with fail
 go_ret2
 exact⟨rfl,0,rfl⟩
theorem zCa (s:ByteArray) (w:World) (h:0 < s.size) (hs:s.size≤1048576) (h0:32 < bn s 0) (h1:32 < bn s (s.size - 1)):Calls Tryz.prog 77 #[.string s] w (X7 (.string s) w):=by
 have hb:=vP s
 have hp1:wrap64 ((s.size:Int) - 1)=((s.size - 1:Nat):Int):=by unfold wrap64;omega
 have hp2:s.size - 1 < s.size:=by omega
 have hg:(0:Int) < (s.size:Int):=by omega
 have hn0:¬ bn s 0≤32:=by omega
 have hn1:¬ bn s (s.size - 1)≤32:=by omega
 go_enter Tryz.func77,Tryz.ntmps77
 go_wp2_with fail
 refine wO (fun _ _ _ _=>False) ?_ (fun n l a w h=>h.elim)
 go_wp2_with fail
 rename_i K1 hK1
 refine wp_label (hK1 _ _ ?_)
 go_wp2_with fail
 rename_i K2 hK2
 refine wp_label (hK2 _ _ ?_)
 go_wp2_with fail
 go_ret
 exact⟨rfl,0,rfl⟩
theorem zE9 (t:ByteArray) (a b:Nat) (x y:Int) (hx:x=a) (hy:y=b) (h1:a≤b) (h2:b≤t.size) (w:World):(Instr.slice 9 (.string t) (some (.int .i64 x)) (some (.int .i64 y)) none).run Tryz.prog w = .ok (.string (t.extract a b)) w:=by
 rw [← run_sliceAt_string w 9 _ _ _ _ Tryz.underlying9]
 exact y5 t a b x y hx hy h1 h2 w
theorem zFa (t:ByteArray) (a:Nat) (x:Int) (hx:x=a) (h1:a≤t.size) (w:World):(Instr.slice 9 (.string t) (some (.int .i64 x)) none none).run Tryz.prog w = .ok (.string (t.extract a t.size)) w:=by
 subst hx
 have:=run_slice_string_l (P:=Tryz.prog) w 9 t Tryz.underlying9 .i64 (a:Int) (by omega) (by omega)
 simpa using this
theorem zFb (t:ByteArray) (b:Nat) (y:Int) (hy:y=b) (h1:b≤t.size) (w:World):(Instr.slice 9 (.string t) none (some (.int .i64 y)) none).run Tryz.prog w = .ok (.string (t.extract 0 b)) w:=by
 subst hy
 have:=run_slice_string_h (P:=Tryz.prog) w 9 t Tryz.underlying9 .i64 (b:Int) (by omega) (by omega)
 simpa using this
theorem zAs (s:ByteArray) (w:World) (h:2≤s.size) (hs:s.size≤1048576) (h0:bn s 0=91) (h1:bn s (s.size - 1)=93):Calls Tryz.prog 61 #[.string s] w (X7 (.string (s.extract 1 (s.size - 1))) w):=by
 have hb:=vP s
 have hp1:wrap64 ((s.size:Int) - 1)=((s.size - 1:Nat):Int):=by unfold wrap64;omega
 have hg:(2:Int)≤(s.size:Int):=by omega
 have hpos:0 < s.size:=by omega
 have hsl:=zE9 s 1 (s.size - 1) 1 ((s.size:Int) - 1) rfl (by omega) (by omega) (by omega)
 have HT:=Lib.hid (fun W=>zCa s W hpos hs (by omega) (by omega))
 clear h1
 go_enter Tryz.func61,Tryz.ntmps61
 go_wp2_with fail
 refine(HT.out _).mono ?_
 rintro e w1 ⟨rfl,n,rfl⟩
 go_wp2_with fail
 go_ret
 exact⟨rfl,_,by first|rfl|(simp;done)⟩
theorem KA (t:ByteArray) (a b i j:Nat) (h:a+j≤b):(t.extract a b).extract i j=t.extract (a+i) (a+j):=by
 apply ByteArray.ext
 simp only [ByteArray.data_extract,Array.extract_extract]
 congr 1
 omega
theorem uR (t:ByteArray) (a b:Nat) (h1:a≤b) (h2:b≤t.size):(t.extract a b).size=b - a:=by rw [ByteArray.size_extract];omega
theorem zB3 (t:ByteArray) (a b j:Nat) (h:a+j < b) (hb:b≤t.size):bn (t.extract a b) j=bn t (a+j):=by
 have hz:(t.extract a b).size=b - a:=by rw [ByteArray.size_extract];omega
 rw [← vP (t.extract a b) j (by omega),← vP t (a+j) (by omega)]
 rw [ByteArray.getElem_extract]
def ZA (t:ByteArray) (i:Nat) (a0:Value) (w wx:World):Prop:=∃ a n:Nat,a0 = .string (t.extract a t.size)∧a≤i∧wx=w.drewN n
def ZB (t:ByteArray) (i j:Nat) (a0:Value) (w wx:World):Prop:=∃ b n:Nat,a0 = .string (t.extract i b)∧j≤b∧b≤t.size∧wx=w.drewN n
def szOf:Value→Nat
 | .string s=>s.size
 | _=>0
def Wsp (c:Int):Prop:=c=32∨c=9∨c=10∨c=13
theorem JF (t:ByteArray) (i j:Nat) (w:World) (ht:t.size≤1048576) (hij:i≤j) (hj:j≤t.size) (h1:∀ p:Nat,p < i→Wsp (bn t p)) (h2:∀ p:Nat,j≤p→p < t.size→Wsp (bn t p))
  (h3:(i=t.size∧j=t.size)∨(i < j∧(33≤bn t i∧bn t i≤126)∧(33≤bn t (j - 1)∧bn t (j - 1)≤126))) :
  Calls Tryz.prog 62 #[.string t] w (X7 (.string (t.extract i j)) w):=by
 have hx:t.extract 0 t.size=t:=by
  apply ByteArray.ext
  rw [ByteArray.data_extract]
  exact Array.extract_size
 have H1:=Lib.hid h1
 have H2:=Lib.hid h2
 have H3:=Lib.hid h3
 clear h1 h2 h3
 go_enter Tryz.func62,Tryz.ntmps62
 go_wp2_with fail
 go_loopw [0] (fun a0 wx=>ZA t i a0 w wx) (fun a0 _=>szOf a0)
 case atStart=>exact⟨0,0,by rw [hx],by omega,rfl⟩
 case round =>
  obtain⟨a,n,rfl,ha,rfl⟩:=hrel
  obtain⟨s,hs⟩:∃ s,t.extract a t.size=s:=⟨_,rfl⟩
  have hz:=uR t a t.size (by omega) (Nat.le_refl _)
  rw [hs] at hz ⊢
  have HZ:=Lib.hid hz
  have hsm:s.size≤1048576:=by omega
  have HSX:=Lib.hid hs
  clear hs hz
  by_cases hal:a < t.size
  ·
   have hpos:0 < s.size:=by have:=HZ.out;omega
   have HB0:=Lib.hid (show bn s 0=bn t a by rw [← HSX.out];exact zB3 t a t.size 0 (by omega) (Nat.le_refl _))
   have hgt:(0:Int) < (s.size:Int):=by omega
   by_cases hai:a < i
   ·
    have HD:=Lib.hid (fun W=>QV s W hpos (by have:=H1.out a hai;rw [HB0.out];unfold Wsp at this;omega))
    have HS:=Lib.hid (fun W=>YO (bn s 0) W (by rw [HB0.out];exact H1.out a hai))
    have hsx:s.extract 1 s.size=t.extract (a+1) t.size:=by
     rw [HZ.out,← HSX.out,KA _ _ _ _ _ (by omega),show a+(t.size - a)=t.size by omega]
    have hsl:=zFa s 1 1 rfl (by omega)
    have HX:=Lib.hid hsx
    clear hsx
    go_wp2_with fail
    refine(HD.out _).mono ?_
    rintro e w1 ⟨rfl,n1,rfl⟩
    go_wp2_with fail
    refine(HS.out _).mono ?_
    rintro e w2 ⟨rfl,n2,rfl⟩
    go_wp2_with fail
    go_roundw
    case rel=>exact⟨a+1,_,by rw [HX.out],by omega,rfl⟩
    case measure=>simp only [szOf];rw [HX.out,uR _ _ _ (by omega) (by omega),HZ.out];omega
   ·
    obtain rfl:a=i:=by omega
    have hv:33≤bn s 0∧bn s 0≤126:=by
     rw [HB0.out]
     rcases H3.out with ⟨h,_⟩|⟨_,h,_⟩
     ·
      omega
     ·
      exact h
    have HD:=Lib.hid (fun W=>QV s W hpos (by omega))
    have HS:=Lib.hid (fun W=>WT (bn s 0) W hv)
    clear hv
    go_wp2_with fail
    refine(HD.out _).mono ?_
    rintro e w1 ⟨rfl,n1,rfl⟩
    go_wp2_with fail
    refine(HS.out _).mono ?_
    rintro e w2 ⟨rfl,n2,rfl⟩
    go_wp2_with fail
    have HS2:=Lib.hid (show s.size=t.size - a from HZ.out)
    rcases H3.out with ⟨h,_⟩|⟨h31,_,h33⟩
    ·
     exact absurd h (by omega)
    have H33:=Lib.hid h33
    have H31:=Lib.hid h31
    clear h33 h31
    go_loopw [0] (fun a0 wx=>ZB t a j a0 w wx) (fun a0 _=>szOf a0)
    case atStart=>exact⟨t.size,_,by rw [HSX.out],hj,Nat.le_refl _,rfl⟩
    case round =>
     clear hal hpos hgt hsm HD HS HB0 HSX HZ HS2 n1
     obtain⟨b,m,rfl,hjb,hbt,rfl⟩:=hrel
     obtain⟨r,hr⟩:∃ r,t.extract a b=r:=⟨_,rfl⟩
     have h31:=H31.out
     have HRZ:=Lib.hid (show r.size=b - a by rw [← hr];exact uR t a b (by omega) hbt)
     rw [hr]
     have HRX:=Lib.hid hr
     have hpos:0 < r.size:=by have:=HRZ.out;omega
     have hgt:(0:Int) < (r.size:Int):=by omega
     have hsm:r.size≤1048576:=by have:=HRZ.out;omega
     have HB0:=Lib.hid (show bn r (r.size - 1)=bn t (b - 1) by rw [← HRX.out,zB3 t a b _ (by rw [HRX.out,HRZ.out];omega) hbt,HRX.out,HRZ.out,show a+(b - a - 1)=b - 1 by omega])
     clear hr h31
     by_cases hjl:j < b
     ·
      have HD:=Lib.hid (fun W=>WD r W hpos hsm (by have:=H2.out (b - 1) (by omega) (by omega);rw [HB0.out];unfold Wsp at this;omega))
      have HS:=Lib.hid (fun W=>YO (bn r (r.size - 1)) W (by rw [HB0.out];exact H2.out (b - 1) (by omega) (by omega)))
      have hsx:r.extract 0 (r.size - 1)=t.extract a (b - 1):=by
       have:=H31.out
       rw [HRZ.out,← HRX.out,KA _ _ _ _ _ (by omega),show a+0=a by omega,show a+(b - a - 1)=b - 1 by omega]
      have hsl:=zFb r (r.size - 1) ((r.size:Int) - 1) (by omega) (by omega)
      have HX:=Lib.hid hsx
      have hw1:wrap64 ((r.size:Int) - 1)=(r.size:Int) - 1:=by unfold wrap64;omega
      clear hsx
      go_wp2_with fail
      refine(HD.out _).mono ?_
      rintro e w1 ⟨rfl,n1,rfl⟩
      go_wp2_with fail
      refine(HS.out _).mono ?_
      rintro e w2 ⟨rfl,n2,rfl⟩
      go_wp2_with fail
      go_roundw
      case rel=>exact⟨b - 1,_,by rw [HX.out],by omega,by omega,rfl⟩
      case measure=>have:=H31.out;simp only [szOf];rw [HX.out,uR _ _ _ (by omega) (by omega),HRZ.out];omega
     ·
      obtain rfl:b=j:=by omega
      have hv:33≤bn r (r.size - 1)∧bn r (r.size - 1)≤126:=by rw [HB0.out];exact H33.out
      have HD:=Lib.hid (fun W=>WD r W hpos hsm (by omega))
      have HS:=Lib.hid (fun W=>WT (bn r (r.size - 1)) W hv)
      clear hv
      go_wp2_with fail
      refine(HD.out _).mono ?_
      rintro e w1 ⟨rfl,n1,rfl⟩
      go_wp2_with fail
      refine(HS.out _).mono ?_
      rintro e w2 ⟨rfl,n2,rfl⟩
      go_wp2_with fail
      go_ret
      exact⟨by rw [HRX.out];rfl,_,rfl⟩
  ·
   have hi:i=t.size∧j=t.size:=by
    rcases H3.out with h|⟨h,_,_⟩
    ·
     exact h
    ·
     omega
   have hz0:s.size=0:=by have:=HZ.out;omega
   have hse:s=⟨#[]⟩:=ByteArray.ext (Array.eq_empty_of_size_eq_zero hz0)
   have HE:=Lib.hid (show t.extract i j=⟨#[]⟩ by rw [hi.1,hi.2,← hse,← HSX.out,show a=t.size by omega])
   have hzi:¬ (0:Int) < (s.size:Int):=by omega
   have HSE:=Lib.hid hse
   clear hse hz0
   go_wp2_with fail
   refine wp_loop_rounds 1 ?_
   rw [rounds_succ]
   go_wp2_with fail
   go_ret
   exact⟨by rw [HE.out,HSE.out];rfl,_,rfl⟩
end Go.Proofs.YtljhmnnhfnmhmaaGreatDoor.M
namespace Go.Proofs.YtljhmnnhfnmhmaaGreatDoor.M
open Go Go.RowKit Go.Proofs.YtljhmnnhfnmhmaaGreatDoorW.PrintWords Go.Proofs.YtljhmnnhfnmhmaaGreatDoor.G
theorem zB6 {v e wb w2:List Int} (hr:Rng v) (hvl:v.length≤1048576) (hv:v=91 :: (wb ++ (e ++ (w2 ++ [93])))) (hb:xV wb) (hb2:xV w2) (he:e=[]∨zGs e) :
  2≤(strOfNums v).size∧(strOfNums v).size≤1048576∧bn (strOfNums v) 0=91∧bn (strOfNums v) ((strOfNums v).size - 1)=93∧∀ W,Calls Tryz.prog 62 #[.string ((strOfNums v).extract 1 ((strOfNums v).size - 1))] W (X7 (.string (strOfNums e)) W):=by
 have hz:(strOfNums v).size=v.length:=vO v
 have hl2:v.length=wb.length+e.length+w2.length+2:=by rw [hv];simp only [List.length_cons,List.length_append,List.length_nil];omega
 have hw:Seg (bytesOf (strOfNums v)) 0 (strOfNums v).size v:=by
  have h0:=Seg.whole (bytesOf (strOfNums v))
  rw [zW] at h0
  rw [vV hr] at h0 ⊢
  exact h0
 obtain⟨t,ht⟩:∃ t,strOfNums v=t:=⟨_,rfl⟩
 rw [ht] at hz hw ⊢
 rw [hv] at hw
 obtain⟨_,c0,hw1,_⟩:=hw.bn
 obtain⟨m1,s1,hw2⟩:=hw1.split
 obtain⟨m2,s2,hw3⟩:=hw2.split
 obtain⟨m3,s3,hw4⟩:=hw3.split
 obtain⟨_,c3,hw5,_⟩:=hw4.bn
 have a1:=s1.at_
 have a2:=s2.at_
 have a3:=s3.at_
 have a4:=hw4.at_
 simp only [List.length_cons,List.length_nil] at a4
 have hm3:t.size - 1=m3:=by omega
 refine⟨by omega,by omega,c0,by rw [hm3];exact c3,fun W=>?_⟩
 rw [hm3]
 have hsz:(t.extract 1 m3).size=m3 - 1:=uR t 1 m3 (by omega) (by omega)
 have hbn:∀ p:Nat,p < m3 - 1→bn (t.extract 1 m3) p=bn t (1+p):=fun p hp=>zB3 t 1 m3 p (by omega) (by omega)
 rcases he with rfl|he
 ·
  simp only [List.length_nil] at a2
  have:=JF (t.extract 1 m3) (m3 - 1) (m3 - 1) W (by omega) (Nat.le_refl _) (by omega) (fun p hp=>by
   rw [hbn p hp]
   rcases Nat.lt_or_ge (1+p) m1 with h|h
   ·
    exact hb _ (s1.mem (1+p) (by omega) h)
   ·
    exact hb2 _ (s3.mem (1+p) (by omega) (by omega))) (fun p h1 h2=>by omega) (.inl ⟨hsz.symm,hsz.symm⟩)
  have hx:(t.extract 1 m3).extract (m3 - 1) (m3 - 1)=strOfNums []:=by
   apply ByteArray.ext
   simp [ByteArray.data_extract,strOfNums]
  rw [hx] at this
  exact this
 ·
  obtain⟨c,r,e1,hc⟩:=he.head
  obtain⟨r2,d,e2,hd⟩:=he.last
  have hpos:0 < e.length:=by rw [e1];simp
  have hx:(t.extract 1 m3).extract (m1 - 1) (m2 - 1)=strOfNums e:=by
   rw [KA _ _ _ _ _ (by omega),show 1+(m1 - 1)=m1 by omega,show 1+(m2 - 1)=m2 by omega]
   exact wL s2
  have h1:bn t m1=c:=by
   rw [e1] at s2
   exact s2.bn.2.1
  have h2:bn t (m2 - 1)=d:=by
   rw [e2] at s2
   obtain⟨m4,_,s5⟩:=s2.split
   have a5:=s5.at_
   simp only [List.length_cons,List.length_nil] at a5
   rw [show m2 - 1=m4 by omega]
   exact s5.bn.2.1
  have:=JF (t.extract 1 m3) (m1 - 1) (m2 - 1) W (by omega) (by omega) (by omega) (fun p hp=>by
   rw [hbn p (by omega)]
   exact hb _ (s1.mem (1+p) (by omega) (by omega))) (fun p h1 h2=>by
   rw [hbn p (by omega)]
   exact hb2 _ (s3.mem (1+p) (by omega) (by omega))) (.inr ⟨by omega,by rw [hbn _ (by omega),show 1+(m1 - 1)=m1 by omega,h1];exact hc,by rw [hbn _ (by omega),show 1+(m2 - 1 - 1)=m2 - 1 by omega,h2];exact hd⟩)
  rw [hx] at this
  exact this
end Go.Proofs.YtljhmnnhfnmhmaaGreatDoor.M
