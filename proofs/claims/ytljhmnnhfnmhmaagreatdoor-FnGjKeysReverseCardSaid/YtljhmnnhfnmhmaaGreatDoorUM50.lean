/-
Lemmas of this claim; made short by a program of this work.
-/
import Derived.Test.YtljhmnnhfnmhmaaGreatDoorUM37
import Derived.Test.YtljhmnnhfnmhmaaGreatDoorUM0
import Derived.Test.YtljhmnnhfnmhmaaGreatDoorUM38
import Derived.Test.YtljhmnnhfnmhmaaGreatDoorUGj3
import Derived.Test.YtljhmnnhfnmhmaaGreatDoorUM7
import Derived.Test.YtljhmnnhfnmhmaaGreatDoorUM24
import Derived.Lib.Builder
import Derived.Lib.UnsafeStr
import Derived.Shelf.Strings.Builder1
import Derived.Test.YtljhmnnhfnmhmaaGreatDoorUM41
set_option linter.unusedVariables false
set_option linter.unusedSimpArgs false
set_option linter.unnecessarySimpa false
namespace Go.Proofs.YtljhmnnhfnmhmaaGreatDoor.M
open Go Go.RowKit Go.Proofs.YtljhmnnhfnmhmaaGreatDoorW.PrintWords Go.Proofs.YtljhmnnhfnmhmaaGreatDoor.G
theorem WG (L:List (List Int × List Int)):esz (L.map Prod.fst)≤msz L:=by
 induction L with
 | nil=>simp [esz,msz]
 | cons y l ih=>simp only [List.map_cons,esz,msz];omega
theorem zG1 (a b:List (List Int)):esz (a ++ b)=esz a+esz b:=by
 induction a with
 | nil=>simp [esz]
 | cons x a ih=>simp only [List.cons_append,esz,ih];omega
theorem Y9 (l:List (List Int)):esz l.reverse=esz l:=by
 induction l with
 | nil=>rfl
 | cons x l ih=>rw [List.reverse_cons,zG1,ih];simp only [esz];omega
def pr (kv:List Int × List Int):List Int:=kv.1 ++ 58 :: kv.2
def ox (L:List (List Int × List Int)):List Int:=123 :: (jn (L.map pr) ++ [125])
theorem zFu (L:List (List Int × List Int)):esz (L.map pr)≤msz L:=by
 induction L with
 | nil=>simp [esz,msz]
 | cons y l ih=>simp only [List.map_cons,esz,msz,pr,List.length_append,List.length_cons];omega
theorem zCm (L:List (List Int × List Int)):L.length≤msz L:=by
 induction L with
 | nil=>simp [msz]
 | cons y l ih=>simp only [List.length_cons,msz];omega
theorem zHo (a b:List (List Int × List Int)):msz (a ++ b)=msz a+msz b:=by
 induction a with
 | nil=>simp [msz]
 | cons x a ih=>simp only [List.cons_append,msz,ih];omega
theorem zCn (l:List (List Int × List Int)):msz l.reverse=msz l:=by
 induction l with
 | nil=>rfl
 | cons x l ih=>rw [List.reverse_cons,zHo,ih];simp only [msz];omega
theorem zKk {kv:List Int × List Int} (h1:Rng kv.1) (h2:Rng kv.2):Rng (pr kv):=h1.app (Rng.cons (by decide) h2)
theorem zHk {L:List (List Int × List Int)} (h:∀ kv ∈ L,Qt kv.1∧Vl kv.2) (hne:L≠[]):Mb (jn (L.map pr) ++ [125]) L:=by
 induction L with
 | nil=>exact absurd rfl hne
 | cons x l ih =>
  have hx:=h x (by simp)
  cases l with
  | nil =>
   have:=Mb.last (k:=x.1) (w1:=[]) (w2:=[]) (v:=x.2) (w3:=[]) hx.1 xV.nil xV.nil hx.2 xV.nil
   simpa [jn,jt,pr] using this
  | cons y l =>
   have:=Mb.cons (k:=x.1) (w1:=[]) (w2:=[]) (v:=x.2) (w3:=[]) (w4:=[]) hx.1 xV.nil xV.nil hx.2 xV.nil xV.nil (ih (fun v hv=>h v (by simp [hv])) (by simp))
   simpa [jn,jt,pr] using this
theorem ot_ox {L:List (List Int × List Int)} (h:∀ kv ∈ L,Rng kv.1∧Rng kv.2∧Qt kv.1∧Vl kv.2) (hs:msz L≤1000000):OT (strOfNums (ox L)) L:=by
 have hrg:Rng (ox L):=Rng.cons (by decide) ((V8 (fun x hx=>by obtain⟨kv,hkv,rfl⟩:=List.mem_map.mp hx;exact zKk (h kv hkv).1 (h kv hkv).2.1)).app (Rng.cons (by decide) Rng.nil))
 have hb:=vV hrg
 have hz:(strOfNums (ox L)).size=(jn (L.map pr)).length+2:=by rw [vO];simp [ox]
 have hlen:=kS (L.map pr)
 have hle2:=zFu L
 have hw:Seg (bytesOf (strOfNums (ox L))) 0 (strOfNums (ox L)).size (ox L):=by
  have:=Seg.whole (bytesOf (strOfNums (ox L)))
  rw [zW] at this
  rw [hb] at this ⊢
  exact this
 refine⟨by omega,by omega,hw.bn.2.1,?_⟩
 cases L with
 | nil=>exact⟨[125],[],by simpa [ox,jn] using hw.bn.2.2.1,fun c hc=>by rw [List.mem_singleton.mp hc];decide, .inl ⟨rfl,rfl⟩⟩
 | cons x l=>exact⟨[],jn ((x :: l).map pr) ++ [125],by simpa using hw.bn.2.2.1,fun c hc=>absurd hc (by simp), .inr (zHk (fun kv hkv=>(h kv hkv).2.2) (by simp))⟩
end Go.Proofs.YtljhmnnhfnmhmaaGreatDoor.M
namespace Go.Proofs.YtljhmnnhfnmhmaaGreatDoor.M
open Go Go.RowKit Go.Proofs.YtljhmnnhfnmhmaaGreatDoorW.PrintWords Go.Proofs.YtljhmnnhfnmhmaaGreatDoor.G
theorem RX.mb_of {c:Nat} {s:List Int} {us:List ByteArray} {ns:List S25} (h:RX c s us ns):c=2→∃ L,Mb s L∧L.length=us.length∧L.length=ns.length:=by
 induction h with
 | mb1 hk hu hw1 hw2 hv hw3 _=>intro _;exact⟨_,Mb.last hk hw1 hw2 ⟨_,hv⟩ hw3,rfl,rfl⟩
 | mb hk hu hw1 hw2 hv hw3 hw4 hs _ ih =>
  intro _
  obtain⟨L,h1,h2,h3⟩:=ih rfl
  exact⟨_,Mb.cons hk hw1 hw2 ⟨_,hv⟩ hw3 hw4 h1,by simp [h2],by simp [h3]⟩
 | _=>intro h;exact absurd h (by decide)
theorem RX.zKh {s:List Int} {n:S25} (h:RX 0 s [] [n]) (h6:n.f0=6):∃ w r L,s=123 :: (w ++ r)∧xV w∧((r=[125]∧L=[])∨Mb r L)∧L.length=n.f2.length:=by
 cases h with
 | word h=>rcases h with ⟨rfl,_⟩|⟨rfl,_⟩|⟨rfl,_⟩ <;> exact absurd h6 (by decide)
 | num h=>exact absurd h6 (by decide:¬ (3:Int)=6)
 | str _ _=>exact absurd h6 (by decide:¬ (4:Int)=6)
 | arr0 _=>exact absurd h6 (by decide:¬ (5:Int)=6)
 | arr _ _=>exact absurd h6 (by decide:¬ (5:Int)=6)
 | obj0 hw=>exact⟨_,_,[],rfl,hw, .inl ⟨rfl,rfl⟩,rfl⟩
 | obj hw h =>
  obtain⟨L,h1,h2,_⟩:=h.mb_of rfl
  exact⟨_,_,L,rfl,hw, .inr h1,h2⟩
theorem ot_of {t:ByteArray} {s:List Int} {n:S25} (ht:t.size≤1048576) (he:bytesOf t=s) (hx:RX 0 s [] [n]) (h6:n.f0=6):∃ L,OT t L∧L.length=n.f2.length:=by
 obtain⟨w,r,L,rfl,hw,hr,hL⟩:=hx.zKh h6
 have hlen:=zW t
 have hs:Seg (bytesOf t) 0 t.size (123 :: (w ++ r)):=by rw [← hlen,← he];exact Seg.whole _
 have hpos:0 < t.size:=by rw [← hlen,he];simp
 refine⟨L,⟨ht,hpos,hs.bn.2.1,?_⟩,hL⟩
 rcases hr with ⟨rfl,rfl⟩|hr
 ·
  exact⟨w ++ [125],[],by simpa using hs.bn.2.2.1,fun c hc=>by
   rcases List.mem_append.1 hc with hc|hc
   ·
    exact yW hw c hc
   ·
    rw [List.mem_singleton.1 hc];decide, .inl ⟨rfl,rfl⟩⟩
 ·
  exact⟨w,r,by simpa using hs.bn.2.2.1,fun c hc=>yW hw c hc, .inr hr⟩
theorem zHz:∀ (l:List (List Int)),(∀ v ∈ l,Vl v)→l≠[]→∃ ns,RX 1 (jn l ++ [93]) [] ns∧ns.length=l.length:=by
 intro l
 induction l with
 | nil=>intro _ h;exact absurd rfl h
 | cons x l ih =>
  intro h _
  obtain⟨n,hn⟩:=h x (by simp)
  cases l with
  | nil =>
   have:=RX.el1 hn xV.nil
   exact⟨[n],by simpa [jn,jt] using this,rfl⟩
  | cons y l =>
   obtain⟨ns,h1,h2⟩:=ih (fun v hv=>h v (by simp [hv])) (by simp)
   have:=RX.el hn xV.nil xV.nil h1
   exact⟨n :: ns,by simpa [jn,jt] using this,by simp [h2]⟩
theorem rx_bx (l:List (List Int)) (h:∀ v ∈ l,Vl v):∃ n,RX 0 (bx l) [] [n]∧n.f3.length=l.length:=by
 cases l with
 | nil=>exact⟨⟨5,j4,[],[]⟩,by simpa [bx,jn] using RX.arr0 xV.nil,rfl⟩
 | cons x l =>
  obtain⟨ns,h1,h2⟩:=zHz (x :: l) h (by simp)
  exact⟨⟨5,j4,[],ns⟩,by simpa [bx] using RX.arr xV.nil h1,h2⟩
theorem qt_vl {s:List Int} (h:Qt s) (hr:Rng s) (hl:s.length≤1048576):Vl s:=by
 obtain⟨u,hu⟩:=zGb h hr hl
 exact⟨_,RX.str h hu⟩
theorem zGv (l:List (List Int)) (h:∀ v ∈ l,Vl v) (hr:∀ v ∈ l,Rng v) (hs:esz l≤1000000):∃ n:S25,PlY (strOfNums (bx l)) n∧WB n∧n.f3.length=l.length:=by
 obtain⟨n,hn,hlen⟩:=rx_bx l h
 have hrg:Rng (bx l):=Rng.cons (by decide) ((V8 hr).app (Rng.cons (by decide) Rng.nil))
 have hb:=vV hrg
 have hz:(bx l).length=(jn l).length+2:=by simp [bx]
 have hz2:(strOfNums (bx l)).size=(bx l).length:=vO _
 have hlen2:=kS l
 exact⟨n,JB (strOfNums (bx l)) (by omega) hb hn,(hn.wb (by omega)).2.2 n (by simp),hlen⟩
end Go.Proofs.YtljhmnnhfnmhmaaGreatDoor.M
set_option maxHeartbeats 4000000
set_option maxRecDepth 100000
namespace Go.Proofs.YtljhmnnhfnmhmaaGreatDoor.M
open Go Go.RowKit Go.Proofs.YtljhmnnhfnmhmaaGreatDoorW.PrintWords
attribute [local go_sem] xL
theorem ZR (raw str:ByteArray) (num:Nat) (idx:Int) (w:World) (hz:0 < raw.size) (h0:bn raw 0=123):Calls Tryz.prog 41 #[Rv 5 raw str num idx] w (zIa true w):=by
 have hb:=vP raw
 unfold Rv
 go_enter Tryz.func41,Tryz.ntmps41
 go_wp2
 go_ret
 exact⟨rfl,zD (Below.refl _ _) _⟩
end Go.Proofs.YtljhmnnhfnmhmaaGreatDoor.M
namespace Go.Proofs.YtljhmnnhfnmhmaaGreatDoor.M
open Go Go.RowKit Go.Proofs.YtljhmnnhfnmhmaaGreatDoorW.PrintWords Go.Proofs.YtljhmnnhfnmhmaaGreatDoorW.PrintLast Go.Proofs.YtljhmnnhfnmhmaaGreatDoorW.PrintMore
theorem Chg.alloc {S:Nat→Prop} {a b:World} (h:Chg S a b) (o:Obj):Chg S a (b.alloc o):=h.trans (.vL (zD (Below.refl _ _) o))
end Go.Proofs.YtljhmnnhfnmhmaaGreatDoor.M
namespace Go.Proofs.YtljhmnnhfnmhmaaGreatDoor.M
open Go Go.RowKit Go.Proofs.YtljhmnnhfnmhmaaGreatDoorW.PrintWords
def KV (x:ByteArray) (cs:List Value):Prop:=∃ (ty:Int) (str:ByteArray) (num:Nat) (idx:Int),cs=[.int .i64 ty, .string x, .string str, .float .f64 num, .int .i64 idx, .slice none 0 0]
def kRs:Kd ByteArray where
 sz:=6
 E:=[]
 K:=fun _ x cs=>KV x cs
 M:=fun _ _ _ x cs=>KV x cs
 K_len:=by
  rintro w x cs ⟨ty,str,num,idx,rfl⟩
  rfl
 K_one:=by
  rintro w x cs ⟨ty,str,num,idx,rfl⟩ u hu
  simp only [List.mem_cons,List.not_mem_nil,or_false] at hu
  rcases hu with rfl|rfl|rfl|rfl|rfl|rfl <;> rfl
 K_below:=fun _ h=>h
 K_of_M:=fun h=>h
 M_mono:=fun _ h=>h
 M_bound:=fun h=>h
 M_move:=fun _ h=>h
 M_lower:=fun _ h=>h
theorem zF0:(Tryz.prog.info? 57).map (fun i=>(i.zero,i.size,i.bytes))=some (some (.agg #[.int .i64 0, .string ⟨#[]⟩, .string ⟨#[]⟩, .float .f64 0, .int .i64 0, .slice none 0 0]),6,80):=by kernel_rfl
theorem zGu {w:World} {A:Option Addr} {n:Nat} {xs:List ByteArray} (h:Kd.C kRs w A n xs) (i:Nat) (h1:i < n):∃ ad,A=some ad∧w.cell? ⟨(ad.add (i * 6)).block,(ad.add (i * 6)).off+1,none⟩=some (.string (xs.getD i ⟨#[]⟩)):=by
 obtain⟨ad,c,e,_,hK,hc0⟩:=Kd.YW h ⟨#[]⟩ (i:Int) (by omega) (by omega)
 have hc:∀ j u,c[j]?=some u→w.cell? (ad.add (i * 6+j))=some u:=hc0
 obtain⟨ty,str,num,idx,rfl⟩:=hK
 exact⟨ad,e,Zq4⟩
structure ItR (w0:World) (m0 B bv:Nat) (X:Nat→List ByteArray) (n k:Nat) (w:World):Prop where
 nb:B≤n
 low:Below w0.heap.size w0 w
 tab:Tb m0 w
 row:∃ v,w.heap[bv]?=some (.cells #[v] 60 (0,0))∧Kd.R kRs 57 w w0.heap.size (okC w0.heap.size B n bv bv bv) v (X k)
structure zGg (w0:World) (m0 B bv:Nat):Prop where
 m:m0≤w0.heap.size
 b1:w0.heap.size≤bv
 b2:bv < B
theorem ItR.XM {w0:World} {m0 B bv:Nat} {X:Nat→List ByteArray} (hc:zGg w0 m0 B bv):∀ n k w1 w2,ItR w0 m0 B bv X n k w1→Chg (fun b=>B≤b∧b < n) w1 w2→ItR w0 m0 B bv X n k w2:=by
 intro n k w1 w2 h hg
 have hb:Below w0.heap.size w1 w2:=hg.below h.low.size (fun k hk=>by have:=hc.b1;have:=hc.b2;omega)
 obtain⟨v,h1,h2⟩:=h.row
 exact⟨h.nb,h.low.trans hb,h.tab.below (hb.mono hc.m),v,hg.heap h1 (by have:=hc.b2;omega),Kd.wS h2 (fun k ho hk=>hg.block k hk (by unfold okC at ho;omega))⟩
theorem ItR.iter {w0 w:World} {m0 bv:Nat} {X:Nat→List ByteArray} (hc:zGg w0 m0 w.heap.size bv) (h:ItR w0 m0 w.heap.size bv X w.heap.size 0 w):Iter w.heap.size m0 (ItR w0 m0 w.heap.size bv X) w where
 start:=fun n hn=>by
  obtain⟨v,h1,h2⟩:=h.row
  exact⟨hn,h.low,h.tab,v,h1,Kd.xG (Kd.jK h2) (fun k hk=>by have:=hk.1;have:=hk.2.2.1;unfold okC at *;omega)⟩
 XM:=ItR.XM hc
 tab:=fun n k w1 h=>h.tab
theorem ItR.step {w0:World} {m0 B bv:Nat} {X:Nat→List ByteArray} (hc:zGg w0 m0 B bv) {n k:Nat} {w w2:World} {v v':Value} (h:ItR w0 m0 B bv X n k w) (hn:n≤w.heap.size) (hg:Chg (okC w0.heap.size B n bv bv bv) w w2)
  (h1:w2.heap[bv]?=some (.cells #[v] 60 (0,0))) (hr:Kd.R kRs 57 w2 w0.heap.size (okC w0.heap.size B n bv bv bv) v' (X (k+1))) :
  ItR w0 m0 B bv X n (k+1) (w2.setCell ⟨bv,0,none⟩ v')∧Chg (fun b=>¬ (B≤b∧b < n)) w (w2.setCell ⟨bv,0,none⟩ v'):=by
 have hb1:=hc.b1
 have hb2:=hc.b2
 have hgl:Below w0.heap.size w w2:=hg.below h.low.size (fun k hk=>by unfold okC at hk;omega)
 refine⟨⟨h.nb,(h.low.trans hgl).setCell (p:=⟨bv,0,none⟩) hb1 _,h.tab.below ((hgl.mono hc.m).setCell (p:=⟨bv,0,none⟩) (by have:=hc.m;show m0≤bv;omega) _),v',heap_setCell_same w2 bv 0 _ 60 v' h1,Kd.vE hr (p:=⟨bv,0,none⟩) (fun k hk=>by unfold okC at hk;exact hk.2.1) _⟩,?_⟩
 exact(hg.mono (fun k hk=>by unfold okC at hk;omega)).setCell ⟨bv,0,none⟩ (by show ¬ (B≤bv∧bv < n);omega) _
end Go.Proofs.YtljhmnnhfnmhmaaGreatDoor.M
set_option maxHeartbeats 8000000
set_option maxRecDepth 100000
namespace Go.Proofs.YtljhmnnhfnmhmaaGreatDoor.M
open Go Go.RowKit Go.Proofs.YtljhmnnhfnmhmaaGreatDoorW.PrintWords
attribute [local go_sem] xL
theorem zE5 {w0:World} {m0 B bv:Nat} {X:Nat→List ByteArray} (hc:zGg w0 m0 B bv) {n k:Nat} {w:World} (h:ItR w0 m0 B bv X n k w) (hn:n≤w.heap.size) (kr vr str str2:ByteArray) (num num2:Nat) (tk ix ix2 ty:Int)
  (hX:X (k+1)=X k ++ [vr]) (hl:((X k).length+1) * 80≤140737488355328) :
  Calls Tryz.prog 39 #[Rv tk kr str num ix,Rv ty vr str2 num2 ix2, .pointer (some ⟨bv,0,none⟩)] w
   (fun e w2=>e = .returned (.bool true)∧ItR w0 m0 B bv X n (k+1) w2∧Chg (fun b=>¬ (B≤b∧b < n)) w w2):=by
 obtain⟨v,hv1,hv2⟩:=h.row
 have hbv:=xW hv1
 have hlo:=h.low.size
 have hBW:Below w.heap.size w ((w.alloc (Obj.cells #[Value.int IntKind.i64 tk,Value.string kr,Value.string str,Value.float FloatKind.f64 num,Value.int IntKind.i64 ix,Value.slice none 0 0] 57)).alloc (Obj.cells #[Value.int IntKind.i64 ty,Value.string vr,Value.string str2,Value.float FloatKind.f64 num2,Value.int IntKind.i64 ix2,Value.slice none 0 0] 57)):=zD (zD (Below.refl _ _) _) _
 have r1:Rs w.heap.size tk kr str num ix ((w.alloc (Obj.cells #[Value.int IntKind.i64 tk,Value.string kr,Value.string str,Value.float FloatKind.f64 num,Value.int IntKind.i64 ix,Value.slice none 0 0] 57)).alloc (Obj.cells #[Value.int IntKind.i64 ty,Value.string vr,Value.string str2,Value.float FloatKind.f64 num2,Value.int IntKind.i64 ix2,Value.slice none 0 0] 57)):=⟨xF (vQ w _) (zD (Below.refl _ _) _)⟩
 have r2:Rs (w.heap.size+1) ty vr str2 num2 ix2 ((w.alloc (Obj.cells #[Value.int IntKind.i64 tk,Value.string kr,Value.string str,Value.float FloatKind.f64 num,Value.int IntKind.i64 ix,Value.slice none 0 0] 57)).alloc (Obj.cells #[Value.int IntKind.i64 ty,Value.string vr,Value.string str2,Value.float FloatKind.f64 num2,Value.int IntKind.i64 ix2,Value.slice none 0 0] 57)):=⟨Zq78⟩
 have hsz:((w.alloc (Obj.cells #[Value.int IntKind.i64 tk,Value.string kr,Value.string str,Value.float FloatKind.f64 num,Value.int IntKind.i64 ix,Value.slice none 0 0] 57)).alloc (Obj.cells #[Value.int IntKind.i64 ty,Value.string vr,Value.string str2,Value.float FloatKind.f64 num2,Value.int IntKind.i64 ix2,Value.slice none 0 0] 57)).heap.size=w.heap.size+2:=by simp
 have hv0:((w.alloc (Obj.cells #[Value.int IntKind.i64 tk,Value.string kr,Value.string str,Value.float FloatKind.f64 num,Value.int IntKind.i64 ix,Value.slice none 0 0] 57)).alloc (Obj.cells #[Value.int IntKind.i64 ty,Value.string vr,Value.string str2,Value.float FloatKind.f64 num2,Value.int IntKind.i64 ix2,Value.slice none 0 0] 57)).heap[bv]?=some (.cells #[v] 60 (0,0)):=xF hv1 hBW
 have hR0:Kd.R kRs 57 ((w.alloc (Obj.cells #[Value.int IntKind.i64 tk,Value.string kr,Value.string str,Value.float FloatKind.f64 num,Value.int IntKind.i64 ix,Value.slice none 0 0] 57)).alloc (Obj.cells #[Value.int IntKind.i64 ty,Value.string vr,Value.string str2,Value.float FloatKind.f64 num2,Value.int IntKind.i64 ix2,Value.slice none 0 0] 57)) w0.heap.size (okC w0.heap.size B n bv bv bv) v (X k):=Kd.vS hv2 hBW
 have cV:((w.alloc (Obj.cells #[Value.int IntKind.i64 tk,Value.string kr,Value.string str,Value.float FloatKind.f64 num,Value.int IntKind.i64 ix,Value.slice none 0 0] 57)).alloc (Obj.cells #[Value.int IntKind.i64 ty,Value.string vr,Value.string str2,Value.float FloatKind.f64 num2,Value.int IntKind.i64 ix2,Value.slice none 0 0] 57)).cell? ⟨bv,0,none⟩=some v:=zB hv0 0 _ rfl
 obtain⟨c10,c11,c12,c13,c14,c15⟩:=r1.cells
 obtain⟨c20,c21,c22,c23,c24,c25⟩:=r2.cells
 have HH:=Lib.hid (And.intro hc (And.intro h (And.intro hn hX)))
 have HB:=Lib.hid (And.intro hBW (And.intro hv0 (And.intro hR0 hsz)))
 have HN:=Lib.hid (And.intro hbv (And.intro hlo hl))
 have HE:=Lib.hid (show w.heap.size+1+1=((w.alloc (Obj.cells #[Value.int IntKind.i64 tk,Value.string kr,Value.string str,Value.float FloatKind.f64 num,Value.int IntKind.i64 ix,Value.slice none 0 0] 57)).alloc (Obj.cells #[Value.int IntKind.i64 ty,Value.string vr,Value.string str2,Value.float FloatKind.f64 num2,Value.int IntKind.i64 ix2,Value.slice none 0 0] 57)).heap.size by rw [hsz])
 have HLW:=Lib.hid (hBW.mono hlo)
 have hbase:w0.heap.size≤((w.alloc (Obj.cells #[Value.int IntKind.i64 tk,Value.string kr,Value.string str,Value.float FloatKind.f64 num,Value.int IntKind.i64 ix,Value.slice none 0 0] 57)).alloc (Obj.cells #[Value.int IntKind.i64 ty,Value.string vr,Value.string str2,Value.float FloatKind.f64 num2,Value.int IntKind.i64 ix2,Value.slice none 0 0] 57)).heap.size:=by rw [hsz];omega
 have HOK:=Lib.hid (fun k (hk:((w.alloc (Obj.cells #[Value.int IntKind.i64 tk,Value.string kr,Value.string str,Value.float FloatKind.f64 num,Value.int IntKind.i64 ix,Value.slice none 0 0] 57)).alloc (Obj.cells #[Value.int IntKind.i64 ty,Value.string vr,Value.string str2,Value.float FloatKind.f64 num2,Value.int IntKind.i64 ix2,Value.slice none 0 0] 57)).heap.size≤k)=>(show okC w0.heap.size B n bv bv bv k by rw [hsz] at hk;unfold okC;omega))
 clear hc h hX hBW r1 r2 hsz hv0 hR0 hbv hlo hn hl hv1 hv2
 unfold Rv
 go_enter Tryz.func39,Tryz.ntmps39
 go_wp2_with (at_builtin;rw [HE.out];refine Kd.qE kRs (w0:=w) w0.heap.size rfl _ _ 60 57 (.agg #[.int .i64 0, .string ⟨#[]⟩, .string ⟨#[]⟩, .float .f64 0, .int .i64 0, .slice none 0 0]) 80 rfl Tryz.underlying60 zF0 rfl (by decide) (by omega) v (X k) vr [.int .i64 ty, .string vr, .string str2, .float .f64 num2, .int .i64 ix2, .slice none 0 0] (okC w0.heap.size B n bv bv bv) (fun _=>False) rfl rfl ⟨ty,str2,num2,ix2,rfl⟩ (fun _ hk=>hk.elim) HOK.out HB.out.2.2.1 HLW.out hbase HN.out.2.2 ?_)
 intro v1 w2 hr hb2 hg hat
 have hc:=HH.out.1
 have hnn:=HN.out
 have hg2:w2.heap[bv]?=some (.cells #[v] 60 (0,0)):=(hg.block bv (by rw [HB.out.2.2.2];omega) (fun e=>by have:=HB.out.2.2.1.1 bv e.symm;unfold okC at this;omega)).trans (HB.out.2.1)
 have hch:Chg (okC w0.heap.size B n bv bv bv) w w2:=(Chg.vL HB.out.1).trans (Chg.grown hg (fun k hk=>HB.out.2.2.1.1 k hk))
 rw [← HH.out.2.2.2] at hr
 have HS:=Lib.hid (HH.out.2.1.step hc HH.out.2.2.1 hch hg2 hr)
 have hlen:0 < (X (k+1)).length:=by rw [HH.out.2.2.2];simp
 obtain⟨g,cap,hv1,_⟩:=Kd.uG hr hlen
 subst hv1
 generalize (X (k+1)).length=nn at HS ⊢
 have d1:w2.cell? ⟨bv,0,none⟩=some v:=zB hg2 0 _ rfl
 have f1:w2.frozen? ⟨bv,0,none⟩=false:=zC hg2 _
 clear hr hg hat hb2 hg2 hch hlen hnn hc cV c10 c11 c12 c13 c14 c15 c20 c21 c22 c23 c24 c25
 go_wp2_with fail
 go_ret
 exact⟨rfl,HS.out.1,HS.out.2⟩
theorem World.uD (w:World) (o:Obj):(w.alloc o).heap.size=w.heap.size+1:=by simp
theorem X9 {B:Nat} {a w:World} (h:Below B a w) (hB:B≤w.heap.size) (o:Obj):Below B a (w.alloc o):=h.trans ((zD (Below.refl _ _) o).mono hB)
theorem zE8 (W:World) (tk:Int) (kr str:ByteArray) (num:Nat) (ix ty:Int) (vr str2:ByteArray) (num2:Nat) (ix2:Int) :
  jE KV 6 (W.alloc (.cells #[.int .i64 tk, .string kr, .string str, .float .f64 num, .int .i64 ix, .slice none 0 0, .int .i64 ty, .string vr, .string str2, .float .f64 num2, .int .i64 ix2, .slice none 0 0] 57)) (some ⟨W.heap.size,0,none⟩) 2 [kr,vr]:=by
 have hb:=vQ W (.cells #[.int .i64 tk, .string kr, .string str, .float .f64 num, .int .i64 ix, .slice none 0 0, .int .i64 ty, .string vr, .string str2, .float .f64 num2, .int .i64 ix2, .slice none 0 0] 57)
 have hcell:∀ (j:Nat) (u:Value),(#[.int .i64 tk, .string kr, .string str, .float .f64 num, .int .i64 ix, .slice none 0 0, .int .i64 ty, .string vr, .string str2, .float .f64 num2, .int .i64 ix2, .slice none 0 0]:Array Value)[j]?=some u→(W.alloc (.cells #[.int .i64 tk, .string kr, .string str, .float .f64 num, .int .i64 ix, .slice none 0 0, .int .i64 ty, .string vr, .string str2, .float .f64 num2, .int .i64 ix2, .slice none 0 0] 57)).cell? ⟨W.heap.size,j,none⟩=some u:=fun j u hu=>zB hb j u hu
 refine⟨rfl,by decide,fun _=>⟨⟨W.heap.size,0,none⟩,rfl,fun j p hj=>?_⟩⟩
 rcases j with _|_|j
 ·
  obtain rfl:kr=p:=by simpa using hj
  refine⟨[.int .i64 tk, .string kr, .string str, .float .f64 num, .int .i64 ix, .slice none 0 0],rfl,⟨_,_,_,_,rfl⟩,fun i u hi=>?_⟩
  have hi6:i < 6:=(List.getElem?_eq_some_iff.1 hi).1
  rw [show (⟨W.heap.size,0,none⟩:Addr).add (0 * 6+i)=⟨W.heap.size,i,none⟩ by simp [Addr.add] <;> omega]
  refine hcell _ _ ?_
  rcases i with _|_|_|_|_|_|i <;> first|(simpa using hi)|omega
 ·
  obtain rfl:vr=p:=by simpa using hj
  refine⟨[.int .i64 ty, .string vr, .string str2, .float .f64 num2, .int .i64 ix2, .slice none 0 0],rfl,⟨_,_,_,_,rfl⟩,fun i u hi=>?_⟩
  have hi6:i < 6:=(List.getElem?_eq_some_iff.1 hi).1
  rw [show (⟨W.heap.size,0,none⟩:Addr).add ((0+1) * 6+i)=⟨W.heap.size,6+i,none⟩ by simp [Addr.add] <;> omega]
  refine hcell _ _ ?_
  rcases i with _|_|_|_|_|_|i <;> first|(simpa using hi)|omega
 ·
  simp at hj
theorem zE6 {w0:World} {m0 B bv:Nat} {X:Nat→List ByteArray} (hc:zGg w0 m0 B bv) {n k:Nat} {w:World} (h:ItR w0 m0 B bv X n k w) (hn:n≤w.heap.size) (kr vr str str2:ByteArray) (num num2:Nat) (tk ix ix2 ty:Int)
  (hX:X (k+1)=X k ++ [kr,vr]) (hl:((X k).length+2) * 80≤140737488355328) :
  Calls Tryz.prog 42 #[Rv tk kr str num ix,Rv ty vr str2 num2 ix2, .pointer (some ⟨bv,0,none⟩)] w
   (fun e w2=>e = .returned (.bool true)∧ItR w0 m0 B bv X n (k+1) w2∧Chg (fun b=>¬ (B≤b∧b < n)) w w2):=by
 obtain⟨v,hv1,hv2⟩:=h.row
 have hbv:=xW hv1
 have hlo:=h.low.size
 have hBW:Below w.heap.size w ((w.alloc (Obj.cells #[Value.int IntKind.i64 tk,Value.string kr,Value.string str,Value.float FloatKind.f64 num,Value.int IntKind.i64 ix,Value.slice none 0 0] 57)).alloc (Obj.cells #[Value.int IntKind.i64 ty,Value.string vr,Value.string str2,Value.float FloatKind.f64 num2,Value.int IntKind.i64 ix2,Value.slice none 0 0] 57)):=zD (zD (Below.refl _ _) _) _
 have r1:Rs w.heap.size tk kr str num ix ((w.alloc (Obj.cells #[Value.int IntKind.i64 tk,Value.string kr,Value.string str,Value.float FloatKind.f64 num,Value.int IntKind.i64 ix,Value.slice none 0 0] 57)).alloc (Obj.cells #[Value.int IntKind.i64 ty,Value.string vr,Value.string str2,Value.float FloatKind.f64 num2,Value.int IntKind.i64 ix2,Value.slice none 0 0] 57)):=⟨xF (vQ w _) (zD (Below.refl _ _) _)⟩
 have r2:Rs (w.heap.size+1) ty vr str2 num2 ix2 ((w.alloc (Obj.cells #[Value.int IntKind.i64 tk,Value.string kr,Value.string str,Value.float FloatKind.f64 num,Value.int IntKind.i64 ix,Value.slice none 0 0] 57)).alloc (Obj.cells #[Value.int IntKind.i64 ty,Value.string vr,Value.string str2,Value.float FloatKind.f64 num2,Value.int IntKind.i64 ix2,Value.slice none 0 0] 57)):=⟨Zq78⟩
 have hsz:((w.alloc (Obj.cells #[Value.int IntKind.i64 tk,Value.string kr,Value.string str,Value.float FloatKind.f64 num,Value.int IntKind.i64 ix,Value.slice none 0 0] 57)).alloc (Obj.cells #[Value.int IntKind.i64 ty,Value.string vr,Value.string str2,Value.float FloatKind.f64 num2,Value.int IntKind.i64 ix2,Value.slice none 0 0] 57)).heap.size=w.heap.size+2:=by simp
 have hv0:((w.alloc (Obj.cells #[Value.int IntKind.i64 tk,Value.string kr,Value.string str,Value.float FloatKind.f64 num,Value.int IntKind.i64 ix,Value.slice none 0 0] 57)).alloc (Obj.cells #[Value.int IntKind.i64 ty,Value.string vr,Value.string str2,Value.float FloatKind.f64 num2,Value.int IntKind.i64 ix2,Value.slice none 0 0] 57)).heap[bv]?=some (.cells #[v] 60 (0,0)):=xF hv1 hBW
 have hR0:Kd.R kRs 57 ((w.alloc (Obj.cells #[Value.int IntKind.i64 tk,Value.string kr,Value.string str,Value.float FloatKind.f64 num,Value.int IntKind.i64 ix,Value.slice none 0 0] 57)).alloc (Obj.cells #[Value.int IntKind.i64 ty,Value.string vr,Value.string str2,Value.float FloatKind.f64 num2,Value.int IntKind.i64 ix2,Value.slice none 0 0] 57)) w0.heap.size (okC w0.heap.size B n bv bv bv) v (X k):=Kd.vS hv2 hBW
 have cV:((w.alloc (Obj.cells #[Value.int IntKind.i64 tk,Value.string kr,Value.string str,Value.float FloatKind.f64 num,Value.int IntKind.i64 ix,Value.slice none 0 0] 57)).alloc (Obj.cells #[Value.int IntKind.i64 ty,Value.string vr,Value.string str2,Value.float FloatKind.f64 num2,Value.int IntKind.i64 ix2,Value.slice none 0 0] 57)).cell? ⟨bv,0,none⟩=some v:=zB hv0 0 _ rfl
 obtain⟨c10,c11,c12,c13,c14,c15⟩:=r1.cells
 obtain⟨c20,c21,c22,c23,c24,c25⟩:=r2.cells
 have HH:=Lib.hid (And.intro hc (And.intro h (And.intro hn hX)))
 have HB:=Lib.hid (And.intro hBW (And.intro hv0 (And.intro hR0 hsz)))
 have HN:=Lib.hid (And.intro hbv (And.intro hlo hl))
 have HE:=Lib.hid (show w.heap.size+1+1=((w.alloc (Obj.cells #[Value.int IntKind.i64 tk,Value.string kr,Value.string str,Value.float FloatKind.f64 num,Value.int IntKind.i64 ix,Value.slice none 0 0] 57)).alloc (Obj.cells #[Value.int IntKind.i64 ty,Value.string vr,Value.string str2,Value.float FloatKind.f64 num2,Value.int IntKind.i64 ix2,Value.slice none 0 0] 57)).heap.size by rw [hsz])
 have HLW:=Lib.hid (hBW.mono hlo)
 have hbase:w0.heap.size≤((w.alloc (Obj.cells #[Value.int IntKind.i64 tk,Value.string kr,Value.string str,Value.float FloatKind.f64 num,Value.int IntKind.i64 ix,Value.slice none 0 0] 57)).alloc (Obj.cells #[Value.int IntKind.i64 ty,Value.string vr,Value.string str2,Value.float FloatKind.f64 num2,Value.int IntKind.i64 ix2,Value.slice none 0 0] 57)).heap.size:=by rw [hsz];omega
 have HOK:=Lib.hid (fun k (hk:((w.alloc (Obj.cells #[Value.int IntKind.i64 tk,Value.string kr,Value.string str,Value.float FloatKind.f64 num,Value.int IntKind.i64 ix,Value.slice none 0 0] 57)).alloc (Obj.cells #[Value.int IntKind.i64 ty,Value.string vr,Value.string str2,Value.float FloatKind.f64 num2,Value.int IntKind.i64 ix2,Value.slice none 0 0] 57)).heap.size≤k)=>(show okC w0.heap.size B n bv bv bv k by rw [hsz] at hk;unfold okC;omega))
 clear hc h hX hBW r1 r2 hsz hv0 hR0 hbv hlo hn hl hv1 hv2
 unfold Rv
 go_enter Tryz.func42,Tryz.ntmps42
 go_wp2_with (at_builtin;rw [HE.out];refine Kd.jW kRs (Rr:=KV) (w0:=w) w0.heap.size rfl _ _ 60 57 (.agg #[.int .i64 0, .string ⟨#[]⟩, .string ⟨#[]⟩, .float .f64 0, .int .i64 0, .slice none 0 0]) 80 rfl Tryz.underlying60 zF0 rfl (by decide) (by omega) v (X k) [kr,vr] (some ⟨((w.alloc (Obj.cells #[Value.int IntKind.i64 tk,Value.string kr,Value.string str,Value.float FloatKind.f64 num,Value.int IntKind.i64 ix,Value.slice none 0 0] 57)).alloc (Obj.cells #[Value.int IntKind.i64 ty,Value.string vr,Value.string str2,Value.float FloatKind.f64 num2,Value.int IntKind.i64 ix2,Value.slice none 0 0] 57)).heap.size,0,none⟩) 2 2 (okC w0.heap.size B n bv bv bv) (fun _=>False) rfl rfl (Kd.xJ HB.out.2.2.1 _) (zE8 ((w.alloc (Obj.cells #[Value.int IntKind.i64 tk,Value.string kr,Value.string str,Value.float FloatKind.f64 num,Value.int IntKind.i64 ix,Value.slice none 0 0] 57)).alloc (Obj.cells #[Value.int IntKind.i64 ty,Value.string vr,Value.string str2,Value.float FloatKind.f64 num2,Value.int IntKind.i64 ix2,Value.slice none 0 0] 57)) tk kr str num ix ty vr str2 num2 ix2) (fun _ _ h=>h) (fun _ hk=>hk.elim) (fun k hk=>HOK.out k (by rw [World.uD] at hk;omega)) (X9 HLW.out hbase _) (by rw [World.uD];omega) HN.out.2.2 ?_)
 intro v1 w2 hr hb2 hg hat
 have hc:=HH.out.1
 have hnn:=HN.out
 have hg2:w2.heap[bv]?=some (.cells #[v] 60 (0,0)):=(hg.block bv (by rw [World.uD,HB.out.2.2.2];omega) (fun e=>by have:=HB.out.2.2.1.1 bv e.symm;unfold okC at this;omega)).trans ((xF HB.out.2.1 (zD (Below.refl _ _) _)))
 have hch:Chg (okC w0.heap.size B n bv bv bv) w w2:=((Chg.vL HB.out.1).alloc _).trans (Chg.grown hg (fun k hk=>HB.out.2.2.1.1 k hk))
 rw [← HH.out.2.2.2] at hr
 have HS:=Lib.hid (HH.out.2.1.step hc HH.out.2.2.1 hch hg2 hr)
 have hlen:0 < (X (k+1)).length:=by rw [HH.out.2.2.2];simp
 obtain⟨g,cap,hv1,_⟩:=Kd.uG hr hlen
 subst hv1
 generalize (X (k+1)).length=nn at HS ⊢
 have d1:w2.cell? ⟨bv,0,none⟩=some v:=zB hg2 0 _ rfl
 have f1:w2.frozen? ⟨bv,0,none⟩=false:=zC hg2 _
 clear hr hg hat hb2 hg2 hch hlen hnn hc cV c10 c11 c12 c13 c14 c15 c20 c21 c22 c23 c24 c25
 go_wp2_with fail
 go_ret
 exact⟨rfl,HS.out.1,HS.out.2⟩
end Go.Proofs.YtljhmnnhfnmhmaaGreatDoor.M
namespace Go.Proofs.YtljhmnnhfnmhmaaGreatDoor.M
open Go Go.RowKit Go.Lib Go.Proofs.YtljhmnnhfnmhmaaGreatDoorW.PrintWords Go.Proofs.YtljhmnnhfnmhmaaGreatDoorW.PrintLast Go.Proofs.YtljhmnnhfnmhmaaGreatDoorW.PrintMore
theorem k5 {ops:Array Oper} {rest:List Oper} {o:Oper} {a:Act} {Q:Exit→Act→World→Prop} {w0 W:World} (hgd:o.guard=none) (s x:Operand)
  (ho:o.op = .call { callee := .builtin .append,args:=#[s,x],argTypes:=#[63,63] })
  (v:Value) (xs:List Int) (p:Int) (hs:a.eval s=v) (hx:a.eval x = .slice (some ⟨W.heap.size,0,none⟩) 1 1)
  (HB:Below w0.heap.size w0 W) (HO:Buf w0 W v xs) (hl:xs.length+1≤140737488355328)
  (h:∀ v1 w1,zA (Buf w0 w1 v1 (xs ++ [p]))→zA (Below w0.heap.size w0 w1)→wpList Tryz.prog ops Q rest (a.put o.dst v1) w1) :
  wpList Tryz.prog ops Q (o :: rest) a (W.alloc (.cells #[.int .u8 p] 5)):=by
 refine Kd.qE (Kd.int .u8) (w0:=w0) w0.heap.size hgd s x 63 5 (.int .u8 0) 1 ho Tryz.underlying63 G.kK rfl (by decide) (by omega) v xs p [.int .u8 p] (fun k=>w0.heap.size≤k) (fun _=>False) hs hx rfl (fun _ hk=>hk.elim) (fun k hk=>Nat.le_trans HB.size hk) HO HB HB.size (by omega) ?_
 intro v1 w1 ho1 hb1 _ _
 exact h v1 w1 ⟨ho1⟩ ⟨hb1⟩
theorem ZL {ops:Array Oper} {rest:List Oper} {o:Oper} {a:Act} {Q:Exit→Act→World→Prop} {w0 W:World} (hgd:o.guard=none) (s x:Operand)
  (ho:o.op = .call { callee := .builtin .append,args:=#[s,x],argTypes:=#[63,9] })
  (v:Value) (xs:List Int) (y:ByteArray) (hs:a.eval s=v) (hx:a.eval x = .string y)
  (HB:Below w0.heap.size w0 W) (HO:Buf w0 W v xs) (hl:xs.length+y.size≤140737488355328)
  (h:∀ v1 w1,zA (Buf w0 w1 v1 (xs ++ bytesOf y))→zA (Below w0.heap.size w0 w1)→wpList Tryz.prog ops Q rest (a.put o.dst v1) w1) :
  wpList Tryz.prog ops Q (o :: rest) a W:=by
 refine Own.y7 (w0:=w0) w0.heap.size hgd s x 63 9 5 ho Tryz.underlying63 Tryz.underlying9 G.kK v xs y (fun k=>w0.heap.size≤k) hs hx (fun k hk=>Nat.le_trans HB.size hk) HO HB HB.size hl ?_
 intro v1 w1 ho1 hb1 _ _
 exact h v1 w1 ⟨ho1⟩ ⟨hb1⟩
end Go.Proofs.YtljhmnnhfnmhmaaGreatDoor.M
set_option maxHeartbeats 8000000
set_option maxRecDepth 100000
namespace Go.Proofs.YtljhmnnhfnmhmaaGreatDoor.M
open Go Go.RowKit Go.Proofs.YtljhmnnhfnmhmaaGreatDoorW.PrintWords
attribute [local go_sem] xL
theorem zEi {w0:World} {m0 B bo bb bi:Nat} {X:Nat→List Int} (hc:zGf w0 m0 B bo bb bi) {n k:Nat} {w:World} (h:ItB w0 m0 B bo bb bi (.cells #[.bool true] 4 (0,0)) X n k w) (hn:n≤w.heap.size) (kr vr str str2:ByteArray) (num num2:Nat) (tk ix ix2 ty:Int)
  (hX:X (k+1)=(if k=0 then X k else X k ++ [44]) ++ bytesOf kr) (hl:(X (k+1)).length≤1099511627776) (hk:k≤1099511627776) :
  Calls Tryz.prog 45 #[Rv tk kr str num ix,Rv ty vr str2 num2 ix2, .pointer (some ⟨bi,0,none⟩), .pointer (some ⟨bb,0,none⟩), .pointer (some ⟨bo,0,none⟩)] w
   (fun e w2=>e = .returned (.bool true)∧ItB w0 m0 B bo bb bi (.cells #[.bool true] 4 (0,0)) X n (k+1) w2∧Chg (fun b=>¬ (B≤b∧b < n)) w w2):=by
 have hBn:=h.nb
 have hbi:=xW h.cnt
 have hbo:=xW h.obj
 have hbb:=h.bld.lt
 have hlo:=h.low.size
 have cI:((w.alloc (Obj.cells #[Value.int IntKind.i64 tk,Value.string kr,Value.string str,Value.float FloatKind.f64 num,Value.int IntKind.i64 ix,Value.slice none 0 0] 57)).alloc (Obj.cells #[Value.int IntKind.i64 ty,Value.string vr,Value.string str2,Value.float FloatKind.f64 num2,Value.int IntKind.i64 ix2,Value.slice none 0 0] 57)).cell? ⟨bi,0,none⟩=some (.int .i64 (k:Int)):=zB (xF h.cnt (zD (zD (Below.refl _ _) _) _)) 0 _ rfl
 have hBW:Below w.heap.size w ((w.alloc (Obj.cells #[Value.int IntKind.i64 tk,Value.string kr,Value.string str,Value.float FloatKind.f64 num,Value.int IntKind.i64 ix,Value.slice none 0 0] 57)).alloc (Obj.cells #[Value.int IntKind.i64 ty,Value.string vr,Value.string str2,Value.float FloatKind.f64 num2,Value.int IntKind.i64 ix2,Value.slice none 0 0] 57)):=zD (zD (Below.refl _ _) _) _
 have r1:Rs w.heap.size tk kr str num ix ((w.alloc (Obj.cells #[Value.int IntKind.i64 tk,Value.string kr,Value.string str,Value.float FloatKind.f64 num,Value.int IntKind.i64 ix,Value.slice none 0 0] 57)).alloc (Obj.cells #[Value.int IntKind.i64 ty,Value.string vr,Value.string str2,Value.float FloatKind.f64 num2,Value.int IntKind.i64 ix2,Value.slice none 0 0] 57)):=⟨xF (vQ w _) (zD (Below.refl _ _) _)⟩
 have r2:Rs (w.heap.size+1) ty vr str2 num2 ix2 ((w.alloc (Obj.cells #[Value.int IntKind.i64 tk,Value.string kr,Value.string str,Value.float FloatKind.f64 num,Value.int IntKind.i64 ix,Value.slice none 0 0] 57)).alloc (Obj.cells #[Value.int IntKind.i64 ty,Value.string vr,Value.string str2,Value.float FloatKind.f64 num2,Value.int IntKind.i64 ix2,Value.slice none 0 0] 57)):=⟨Zq78⟩
 have hsz:((w.alloc (Obj.cells #[Value.int IntKind.i64 tk,Value.string kr,Value.string str,Value.float FloatKind.f64 num,Value.int IntKind.i64 ix,Value.slice none 0 0] 57)).alloc (Obj.cells #[Value.int IntKind.i64 ty,Value.string vr,Value.string str2,Value.float FloatKind.f64 num2,Value.int IntKind.i64 ix2,Value.slice none 0 0] 57)).heap.size=w.heap.size+2:=by simp
 have HH:=Lib.hid (And.intro hc (And.intro h (And.intro hn hBn)))
 have HX:=Lib.hid (And.intro hX hl)
 have HB:=Lib.hid (And.intro hBW (And.intro r1 (And.intro r2 hsz)))
 have HN:=Lib.hid (And.intro hbi (And.intro hbo (And.intro hbb hlo)))
 clear hc h hX hl hBW r1 r2 hsz hbi hbo hbb hlo hn hBn
 unfold Rv
 go_enter Tryz.func45,Tryz.ntmps45
 go_upto_if 9 with fail
 have hBW:=HB.out.1
 have r1:=HB.out.2.1
 have r2:=HB.out.2.2.1
 have hsz:=HB.out.2.2.2
 clear HB
 generalize hgw:((w.alloc (Obj.cells #[Value.int IntKind.i64 tk,Value.string kr,Value.string str,Value.float FloatKind.f64 num,Value.int IntKind.i64 ix,Value.slice none 0 0] 57)).alloc (Obj.cells #[Value.int IntKind.i64 ty,Value.string vr,Value.string str2,Value.float FloatKind.f64 num2,Value.int IntKind.i64 ix2,Value.slice none 0 0] 57))=W0 at cI hBW r1 r2 hsz ⊢
 clear hgw
 obtain⟨x2,hx2⟩:∃ x,w.heap.size+1=x:=⟨_,rfl⟩
 obtain⟨x1,hx1⟩:∃ x,w.heap.size=x:=⟨_,rfl⟩
 rw [hx2] at r2 ⊢
 rw [hx1] at r1 ⊢
 have hx12:¬ x1=x2:=by omega
 have HXX:=Lib.hid (show w.heap.size≤x1∧w.heap.size≤x2 by omega)
 have hI:=HH.out.2.1
 have hcc:=HH.out.1
 have hok:∀ k,okC w0.heap.size B n bo bb bi k→w0.heap.size≤k∧k≠bo∧k≠bb∧k≠bi∧(k < B∨n≤k):=fun k hk=>hk
 have hbld:Bld bb w0.heap.size (fun k=>okC w0.heap.size B n bo bb bi k∧k≠x1∧k≠x2) (X k) W0:=((hI.bld.bound).chg (Chg.vL (S:=fun _=>False) hBW) (fun h=>h) (fun _ _ h=>h)).mono (fun k hk=>⟨hk.1,by omega,by omega⟩)
 have hko:∀ k,(okC w0.heap.size B n bo bb bi k∧k≠x1∧k≠x2)→w0.heap.size≤k∧k≠bb:=fun k hk=>⟨hk.1.1,hk.1.2.2.1⟩
 have hkf:∀ k,W0.heap.size≤k→(okC w0.heap.size B n bo bb bi k∧k≠x1∧k≠x2):=fun k hk=>by
  have:=HN.out
  have:=HH.out.2.2
  unfold okC
  omega
 have hbb1:=hcc.bb1
 have hgB:Chg (fun _=>False) w W0:=Chg.vL hBW
 have hO0:W0.heap[bo]?=some (.cells #[.bool true] 4 (0,0)):=xF hI.obj hBW
 have hI0:W0.heap[bi]?=some (.cells #[.int .i64 (k:Int)] 3 (0,0)):=xF hI.cnt hBW
 have HR:=Lib.hid (And.intro r1 (And.intro r2 (And.intro hgB (And.intro hO0 hI0))))
 have HF:=Lib.hid (And.intro hko (And.intro hkf hbb1))
 have HBL:=Lib.hid hbld
 clear r1 r2 hgB hO0 hI0 hko hkf hbb1 hbld hok hcc hI hBW hsz hx1 hx2
 by_cases hk0:k=0
 ·
  subst hk0
  have hz:X 1=X 0 ++ bytesOf kr:=by have:=HX.out.1;simpa using this
  have hlen:(X 0).length+(kr).size≤1099511627776:=by have:=HX.out.2;rw [hz,List.length_append,zW] at this;exact this
  have HW:=Lib.hid (fun W hB hF=>yA bb w0.heap.size (fun k=>okC w0.heap.size B n bo bb bi k∧k≠x1∧k≠x2) (X 0) kr W hB HF.out.1 hF HF.out.2.2 (by omega))
  have HZ:=Lib.hid (And.intro hz hlen)
  clear hz hlen
  have hR1:=HR.out.1
  have hR2:=HR.out.2.1
  obtain⟨c10,c11,c12,c13,c14,c15⟩:=hR1.cells
  obtain⟨c20,c21,c22,c23,c24,c25⟩:=hR2.cells
  have cO:W0.cell? ⟨bo,0,none⟩=some (.bool true):=zB HR.out.2.2.2.1 0 _ rfl
  clear hR1 hR2
  go_wp2_with fail
  refine(HW.out W0 HBL.out HF.out.2.1).mono ?_
  rintro e w3 ⟨rfl,hb3,hg3⟩
  rw [← HZ.out.1] at hb3
  have hg:=HR.out.2.2.1.mono (S':=fun k=>BS bb (okC w0.heap.size B n bo bb bi) k) (fun k h=>h.elim)
  have hg4:=hg.trans (hg3.mono (S':=fun k=>BS bb (okC w0.heap.size B n bo bb bi) k) (fun k hk=>hk.imp id (fun h=>h.1)))
  have cnt3:=hg3.heap HR.out.2.2.2.2 zIp
  have cI3:w3.cell? ⟨bi,0,none⟩=some (.int .i64 (0:Nat)):=zB cnt3 0 _ rfl
  have fI3:w3.frozen? ⟨bi,0,none⟩=false:=zC cnt3 _
  have HS:=Lib.hid (HH.out.2.1.step HH.out.1 HH.out.2.2.1 hg4 (hb3.mono (fun k hk=>hk.1)))
  clear hb3 hg3 hg hg4 cnt3
  go_wp2_with fail
  go_ret
  exact⟨rfl,by simpa using HS.out.1,by simpa using HS.out.2⟩
 ·
  have hz:X (k+1)=(X k ++ [44]) ++ bytesOf kr:=by have:=HX.out.1;rw [if_neg hk0] at this;exact this
  have hlen:(X k ++ [44]).length+(kr).size≤1099511627776:=by have:=HX.out.2;rw [hz,List.length_append,zW] at this;exact this
  have hlen1:(X k).length+1≤1099511627776:=by rw [List.length_append] at hlen;simp at hlen;omega
  have HW1:=Lib.hid (fun W hB hF=>qL bb w0.heap.size (fun k=>okC w0.heap.size B n bo bb bi k∧k≠x1∧k≠x2) (X k) 44 W hB HF.out.1 hF HF.out.2.2 (by omega))
  have HW:=Lib.hid (fun W hB hF=>yA bb w0.heap.size (fun k=>okC w0.heap.size B n bo bb bi k∧k≠x1∧k≠x2) (X k ++ [44]) kr W hB HF.out.1 hF HF.out.2.2 (by omega))
  have HZ:=Lib.hid (And.intro hz hlen)
  clear hz hlen hlen1
  have hkp:(0:Int) < (k:Int):=by omega
  go_wp2_with fail
  refine(HW1.out W0 HBL.out HF.out.2.1).mono ?_
  rintro e w2 ⟨rfl,hb2,hg2⟩
  have hR1:Rs x1 tk kr str num ix w2:=⟨hg2.heap HR.out.1.blk Zq80⟩
  have hR2:Rs x2 ty vr str2 num2 ix2 w2:=⟨hg2.heap HR.out.2.1.blk Zq80⟩
  have hO2:=hg2.heap HR.out.2.2.2.1 (by have:=HH.out.1.n2;unfold BS okC;omega)
  have hI2:=hg2.heap HR.out.2.2.2.2 zIp
  obtain⟨c10,c11,c12,c13,c14,c15⟩:=hR1.cells
  obtain⟨c20,c21,c22,c23,c24,c25⟩:=hR2.cells
  have cO:w2.cell? ⟨bo,0,none⟩=some (.bool true):=zB hO2 0 _ rfl
  have HG2:=Lib.hid (And.intro hb2 (And.intro hg2 hI2))
  clear hR1 hR2 hO2 hI2 hb2 hg2
  go_wp2_with fail
  refine(HW.out w2 HG2.out.1 (fun k hk=>HF.out.2.1 k (Nat.le_trans HG2.out.2.1.size hk))).mono ?_
  rintro e w3 ⟨rfl,hb3,hg3⟩
  rw [← HZ.out.1] at hb3
  have hg:=HR.out.2.2.1.mono (S':=fun k=>BS bb (okC w0.heap.size B n bo bb bi) k) (fun k h=>h.elim)
  have hg4:=(hg.trans (HG2.out.2.1.mono (S':=fun k=>BS bb (okC w0.heap.size B n bo bb bi) k) (fun k hk=>hk.imp id (fun h=>h.1)))).trans (hg3.mono (S':=fun k=>BS bb (okC w0.heap.size B n bo bb bi) k) (fun k hk=>hk.imp id (fun h=>h.1)))
  have cnt3:=hg3.heap HG2.out.2.2 zIp
  have cI3:w3.cell? ⟨bi,0,none⟩=some (.int .i64 (k:Int)):=zB cnt3 0 _ rfl
  have fI3:w3.frozen? ⟨bi,0,none⟩=false:=zC cnt3 _
  have HS:=Lib.hid (HH.out.2.1.step HH.out.1 HH.out.2.2.1 hg4 (hb3.mono (fun k hk=>hk.1)))
  clear hb3 hg3 hg hg4 cnt3
  go_wp2_with fail
  go_ret
  exact⟨rfl,by simpa using HS.out.1,by simpa using HS.out.2⟩
end Go.Proofs.YtljhmnnhfnmhmaaGreatDoor.M
