/-
Lemmas of this claim; made short by a program of this work.
-/
import Derived.Test.YtljhmnnhfnmhmaaGreatDoorUM2
import Derived.Test.YtljhmnnhfnmhmaaGreatDoorUWWords
import Derived.Test.YtljhmnnhfnmhmaaGreatDoorUM0
import Derived.WalkMore
import Derived.Deep.LoopGhost
import Derived.Deep.DeepCutAuto
import Derived.Deep.CutBlock
import Derived.ScopeJumps
import Derived.WalkKit
import Derived.Lib.Hide
set_option linter.unusedVariables false
set_option linter.unusedSimpArgs false
namespace Go.Proofs.YtljhmnnhfnmhmaaGreatDoorW.PrintWords
open Go.RowKit
namespace Kd
section
variable {α:Type} {d:Kd α} {e base n cap g:Nat} {ok ok' okp:Nat→Prop} {w w1 W:World} {v v1:Value} {xs ys:List α}
theorem WX {rows news:List (List Value)} (h0:∀ k,v.ownBlock=some k→ok k) (hl:rows.length=xs.length) (hf:∀ (j:Nat) (x:α) (c:List Value),xs[j]?=some x→rows[j]?=some c→FK d W (fun k=>ok k∧some k≠v.ownBlock) x c)
  (hl2:news.length=ys.length) (hf2:∀ (j:Nat) (x:α) (c:List Value),ys[j]?=some x→news[j]?=some c→FK d W okp x c) (hokp:∀ k,okp k→ok k∧some k≠v.ownBlock) (hfresh:∀ k,W.heap.size≤k→ok k)
  (hR:(raw d.sz).R e w1 base (fun _=>True) v1 (rows ++ news)) (hg:W.grownBy w1 v.ownBlock) (hat:v1.ownBlock=v.ownBlock∨∃ b,v1.ownBlock=some b∧W.heap.size≤b):N d e w1 base ok v1 (xs ++ ys):=by
 have hne:∀ k,some k≠v.ownBlock→k < W.heap.size→some k≠v1.ownBlock:=by
  intro k hk hlt
  rcases hat with hat|⟨b,hb,hle⟩
  ·
   rw [hat];exact hk
  ·
   rw [hb]
   intro he
   injection he with he
   omega
 have step:∀ {x:α} {c:List Value} {o:Nat→Prop},FK d W o x c→(∀ k,o k→ok k∧some k≠v.ownBlock)→FK d w1 (fun k=>ok k∧some k≠v1.ownBlock) x c:=by
  intro x c o hq ho
  exact zGh (zA2 (zDq hq) (fun k hk hlt=>hg.block k hlt (ho k hk.1).2)) (fun k hk=>⟨(ho k hk.1).1,hne k (ho k hk.1).2 hk.2⟩)
 refine⟨fun k hk=>?_,rows ++ news,by rw [List.length_append,List.length_append,hl,hl2],zCz hR,fun j x c hx hc=>?_⟩
 ·
  rcases hat with hat|⟨b,hb,hle⟩
  ·
   exact h0 k (hat ▸ hk)
  ·
   rw [hb] at hk
   injection hk with hk
   exact hfresh k (by omega)
 ·
  rcases Nat.lt_or_ge j xs.length with hlt|hge
  ·
   rw [List.getElem?_append_left hlt] at hx
   rw [List.getElem?_append_left (by omega)] at hc
   exact step (hf j x c hx hc) (fun _ hk=>hk)
  ·
   rw [List.getElem?_append_right hge] at hx
   rw [List.getElem?_append_right (by omega),hl] at hc
   exact step (hf2 _ x c hx hc) hokp
theorem zC1 {Rr:α→List Value→Prop} {sz m:Nat} {A:Option Addr} (h:jE Rr sz W A m ys) (hR:∀ x c,Rr x c→c.length=sz∧∀ u ∈ c,u.oneCell'=true) :
  ∃ news:List (List Value),news.length=ys.length∧jE (fun x cs=>cs=x∧cs.length=sz∧∀ u ∈ cs,u.oneCell'=true) sz W A m news∧∀ (j:Nat) (x:α) (c:List Value),ys[j]?=some x→news[j]?=some c→Rr x c:=by
 rcases Nat.eq_zero_or_pos m with h0|hp
 ·
  have hy:ys=[]:=List.eq_nil_of_length_eq_zero (h.1.trans h0)
  subst hy
  exact⟨[],rfl,⟨h0 ▸ rfl,h.2.1,fun hp=>by omega⟩,fun j x c hx=>by simp at hx⟩
 ·
  obtain⟨ad,rfl,_⟩:=h.2.2 hp
  obtain⟨inner,hr,hc⟩:=jE.zF1 h
  refine⟨chunks sz ys.length inner,jM _ _ _,⟨by rw [jM];exact h.1,h.2.1,fun _=>⟨ad,rfl,fun j p hj=>?_⟩⟩,fun j x c hx hcc=>?_⟩
  ·
   have hjl:j < ys.length:=by have:=(List.getElem?_eq_some_iff.1 hj).1;rwa [jM] at this
   have hpe:=wP hj
   have hq:=hR _ _ (hr.2 j _ (List.getElem?_eq_getElem hjl))
   rw [← hpe] at hq
   refine⟨p,hq.1,⟨rfl,hq⟩,fun i u hu=>?_⟩
   have hu2:inner[j * sz+i]?=some u:=by
    rw [hpe,List.getElem?_take] at hu
    split at hu
    ·
     rw [List.getElem?_drop] at hu
     exact hu
    ·
     cases hu
   exact hc _ u hu2
  ·
   rw [wP hcc]
   exact hr.2 j x hx
end
section
variable {P:Program} {ops:Array Oper} {rest:List Oper} {o:Oper} {a:Act} {Q:Exit→Act→World→Prop} {Kc:Act→World→Prop} {α:Type}
theorem JG (d:Kd α) {w0 W:World} (base:Nat) (hgd:o.guard=none) (s x:Operand) (t e:TypeId) (z:Value) (bytes:Nat)
  (ho:o.op = .call { callee := .builtin .append,args:=#[s,x],argTypes:=#[t,t] })
  (ht:P.underlying t=some (.slice e)) (hinfo:(P.info? e).map (fun i=>(i.zero,i.size,i.bytes))=some (some z,d.sz,bytes)) (hz:z.cells.size=d.sz) (hs0:0 < d.sz) (hb0:0 < bytes)
  (v:Value) (xs ys:List α) (A:Option Addr) (m c:Nat) (ok okp:Nat→Prop) (hs:a.eval s=v) (hx:a.eval x = .slice A m c)
  (HO:N d e W base ok v xs) (HR:F d W okp A m ys) (hokp:∀ k,okp k→ok k∧some k≠v.ownBlock) (hfresh:∀ k,W.heap.size≤k→ok k)
  (HB:Below base w0 W) (hbase:base≤W.heap.size) (hl:(xs.length+m) * bytes≤140737488355328)
  (h:∀ v1 w1,N d e w1 base ok v1 (xs ++ ys)→Below base w0 w1→W.grownBy w1 v.ownBlock→(v1.ownBlock=v.ownBlock∨∃ b,v1.ownBlock=some b∧W.heap.size≤b)→wpList P ops Q rest (a.put o.dst v1) w1) :
  wpList P ops Q (o :: rest) a W:=by
 obtain⟨h0,rows,hlr,hR,hf⟩:=HO
 obtain⟨news,hnl,hnr,hnf⟩:=zC1 (zIx HR) (fun y c hk=>⟨d.K_len (zA1 hk),d.K_one (zA1 hk)⟩)
 refine jW (raw d.sz) base hgd s x t e z bytes ho ht hinfo hz hs0 hb0 v rows news A m c (fun _=>True) (fun _=>False) hs hx (zHu hR) hnr (fun _ _ hk=>hk) (fun _ hk=>hk.elim) (fun _ _=>trivial) HB hbase (by rw [hlr];exact hl) ?_
 intro v1 w1 hr hb hg hat
 exact h v1 w1 (WX h0 hlr hf hnl hnf hokp hfresh hr hg hat) hb hg hat
end
end Kd
end Go.Proofs.YtljhmnnhfnmhmaaGreatDoorW.PrintWords
namespace Go.Proofs.YtljhmnnhfnmhmaaGreatDoorW.PrintMore
open Go.RowKit Go.Proofs.YtljhmnnhfnmhmaaGreatDoorW.PrintWords
namespace Kd
open Go.Proofs.YtljhmnnhfnmhmaaGreatDoorW.PrintWords.Kd
end Kd
namespace Kd
open Go.Proofs.YtljhmnnhfnmhmaaGreatDoorW.PrintWords.Kd
section
variable {α:Type} {d:Kd α} {e base g N:Nat} {ok:Nat→Prop} {W w1:World} {u v:Value} {xs:List α}
theorem R_old (hu:d.R e W base ok u xs) (hb:Below W.heap.size W w1):d.R e w1 base (fun k=>ok k∧k < W.heap.size) u xs :=
 xG (vS (jK hu) hb) (fun _ h=>⟨h.1,h.2.2.1⟩)
theorem VS (hu:d.R e W base (fun k=>ok k∧k≠g) u xs) (hk:zQ W w1 g none):d.R e w1 base (fun k=>ok k∧k < W.heap.size) u xs :=
 xG (jL (jK hu) hk (fun _ h=>h.1.2)) (fun _ h=>⟨h.1.1,h.2.2.1⟩)
theorem kR (h:d.R e w1 base (fun k=>ok k∧k < N) u xs) (hbase:∀ k,v.ownBlock=some k→N≤k):d.R e w1 base (fun k=>(ok k∧some k≠v.ownBlock)∧k < N) u xs :=
 xG h (fun k hk=>⟨⟨hk.1,fun e=>Nat.lt_irrefl _ (Nat.lt_of_lt_of_le hk.2 (hbase k e.symm))⟩,hk.2⟩)
end
end Kd
theorem qG (k k':IntKind) (x y:Int):Builtin.max2 (.int k x) (.int k' y)=pure (.int k (if x < y then y else x)):=by simp only [Builtin.max2,gt_iff_lt]
theorem qJ (k k':IntKind) (x y:Int):Builtin.min2 (.int k x) (.int k' y)=pure (.int k (if y < x then y else x)):=by simp only [Builtin.min2]
theorem yE (ats:Array TypeId) (ty:TypeId) (a b:Value):Builtin.max_ ats ty #[a,b]=(Builtin.max2 a b >>= fun s=>pure s):=by simp only [Builtin.max_,List.foldlM_cons,List.foldlM_nil]
theorem yF (ats:Array TypeId) (ty:TypeId) (a b:Value):Builtin.min_ ats ty #[a,b]=(Builtin.min2 a b >>= fun s=>pure s):=by simp only [Builtin.min_,List.foldlM_cons,List.foldlM_nil]
theorem jT (ats:Array TypeId) (ty:TypeId) (a b c:Value):Builtin.max_ ats ty #[a,b,c]=(Builtin.max2 a b >>= fun s=>Builtin.max2 s c >>= fun s=>pure s):=by simp only [Builtin.max_,List.foldlM_cons,List.foldlM_nil]
theorem jU (ats:Array TypeId) (ty:TypeId) (a b c:Value):Builtin.min_ ats ty #[a,b,c]=(Builtin.min2 a b >>= fun s=>Builtin.min2 s c >>= fun s=>pure s):=by simp only [Builtin.min_,List.foldlM_cons,List.foldlM_nil]
theorem qH (ats:Array TypeId) (ty:TypeId) (a b c d:Value):Builtin.max_ ats ty #[a,b,c,d]=(Builtin.max2 a b >>= fun s=>Builtin.max2 s c >>= fun s=>Builtin.max2 s d >>= fun s=>pure s):=by simp only [Builtin.max_,List.foldlM_cons,List.foldlM_nil]
theorem qK (ats:Array TypeId) (ty:TypeId) (a b c d:Value):Builtin.min_ ats ty #[a,b,c,d]=(Builtin.min2 a b >>= fun s=>Builtin.min2 s c >>= fun s=>Builtin.min2 s d >>= fun s=>pure s):=by simp only [Builtin.min_,List.foldlM_cons,List.foldlM_nil]
end Go.Proofs.YtljhmnnhfnmhmaaGreatDoorW.PrintMore
namespace Go.Proofs.YtljhmnnhfnmhmaaGreatDoorW.PrintWords
open Go.RowKit
section
variable {P:Program} {ops:Array Oper} {rest:List Oper} {o:Oper} {a:Act} {Q:Exit→Act→World→Prop} {W:World}
theorem zR {f:FuncId} {aS:Array Operand} {ts:Array TypeId} (_ho:o.op = .call { callee := .value (.func f),args:=aS,argTypes:=ts }) (h:wpList P ops Q (o :: rest) a W):wpList P ops Q (o :: rest) a W:=h
theorem xI {b:Builtin} {xs:Array Operand} {ts:Array TypeId} (_ho:o.op = .call { callee := .builtin b,args:=xs,argTypes:=ts }) (h:wpList P ops Q (o :: rest) a W):wpList P ops Q (o :: rest) a W:=h
end
def mn (a b:Int):Int:=if b < a then b else a
theorem zAg (w:World) (n:Nat):w.drewN n=w.drewN n:=rfl
namespace Kd
section
variable {α:Type} {d:Kd α} {e base:Nat} {ok:Nat→Prop} {W w1:World} {v:Value} {xs:List α}
end
section
variable {α:Type} {d:Kd α} {e base g n cap:Nat} {ok oki okp:Nat→Prop} {W:World} {xs:List α} {i:Int} {c:List Value}
end
section
variable {α:Type} {d:Kd α} {e base b b' g N:Nat} {ok ok1:Nat→Prop} {W W2 w1:World} {u v:Value} {xs ys:List α} {S:Nat→Prop}
end
end Kd
end Go.Proofs.YtljhmnnhfnmhmaaGreatDoorW.PrintWords
namespace Go.Proofs.YtljhmnnhfnmhmaaGreatDoorW.PrintWords
open Go.RowKit
namespace Kd
def V {α:Type} (d:Kd α) (_e:Nat) (W:World) (_base:Nat) (ok:Nat→Prop) (v:Value) (xs:List α):Prop:=∃ A c,v = .slice A xs.length c∧xs.length≤c∧F d W ok A xs.length xs
section
variable {α β:Type} {d:Kd α} {e base base' n m c g N' lo hi:Nat} {ok ok' S:Nat→Prop} {w W w1:World} {A:Option Addr} {ad:Addr} {u v v1:Value} {xs:List α}
theorem V_nil (d:Kd α) (e:Nat) (W:World) (base:Nat) (ok:Nat→Prop):V d e W base ok (.slice none 0 0) []:=⟨none,0,rfl,Nat.le_refl _,F_nil d W ok⟩
theorem KX {M:Nat→Prop} (h:d.R e w1 W.heap.size ok v xs) (hle:w.heap.size≤W.heap.size) (hM:∀ k,w.heap.size≤k→M k):d.R e w1 W.heap.size (fun k=>M k∧ok k) v xs:=xG (jK h) (fun k hk=>⟨hM k (Nat.le_trans hle hk.2.1),hk.1⟩)
end
end Kd
end Go.Proofs.YtljhmnnhfnmhmaaGreatDoorW.PrintWords
namespace Go.Proofs.YtljhmnnhfnmhmaaGreatDoor.M
open Go Go.RowKit Go.Proofs.YtljhmnnhfnmhmaaGreatDoorW.PrintWords
def qN (c:Int):Prop:=c=43∨c=45∨c=46∨(48≤c∧c≤57)∨c=69∨c=101
def bn (s:ByteArray) (n:Nat):Int:=bt s n
theorem vP (s:ByteArray):∀ (n:Nat) (h:n < s.size),(((s[n]'h).toNat:Nat):Int)=bn s n:=fun n h=>j9 s (n:Int) (by simpa using h)
theorem qR (s:ByteArray) (n:Nat):0≤bn s n∧bn s n≤255:=zD2 s n
def kZ (s:ByteArray):Prop:=∀ j:Nat,j < s.size→qN (bn s j)
theorem kZ.at_ {s:ByteArray} (h:kZ s) (j:Nat) (hj:j < s.size):qN (bn s j):=h j hj
theorem XT (s t:ByteArray) (ht:0 < t.size) (ht0:105≤bn t 0) (hs:s.size≤maxLen) (h:kZ s) (w:World):Calls Tryz.prog 168 #[.string s, .string t] w (fun e w'=>e = .returned (.int .i64 0)∧w'=w):=by
 unfold maxLen at hs
 have hb:=vP s
 have hb2:=vP t
 by_cases h0:s.size=0
 ·
  obtain rfl:s=ByteArray.empty:=ByteArray.ext (Array.eq_empty_of_size_eq_zero h0)
  clear h h0 hb hs
  have hm:min (t.size:Int) 0=0:=by omega
  go_enter Tryz.func168,Tryz.ntmps168
  go_wp2
  refine wp_loop_rounds 1 ?_
  rw [rounds_succ]
  go_wp2
  go_ret
  exact⟨rfl,rfl⟩
 ·
  have hc:qN (bn s 0):=h 0 (by omega)
  have hn:¬ bn s 0=bn t 0:=by unfold qN at hc;omega
  have hpos:0 < s.size:=by omega
  clear h
  by_cases hE:bn s 0=69
  ·
   have hn3:((101:Int) != bn t 0)=true:=bne_iff_ne.mpr (by omega)
   clear hc hn h0
   go_enter Tryz.func168,Tryz.ntmps168
   go_wp2
   refine wp_loop_rounds 1 ?_
   rw [rounds_succ]
   go_wp2
   go_ret
   exact⟨rfl,rfl⟩
  ·
   have hn3:(bn s 0 != bn t 0)=true:=bne_iff_ne.mpr hn
   have hE2:¬ (65≤bn s 0∧bn s 0≤90):=by unfold qN at hc;omega
   by_cases h65:65≤bn s 0
   ·
    have h90:¬ bn s 0≤90:=by omega
    clear hc hn h0 hE hE2
    go_enter Tryz.func168,Tryz.ntmps168
    go_wp2
    refine wp_loop_rounds 1 ?_
    rw [rounds_succ]
    go_wp2
    go_ret
    exact⟨rfl,rfl⟩
   ·
    clear hc hn h0 hE hE2
    go_enter Tryz.func168,Tryz.ntmps168
    go_wp2
    refine wp_loop_rounds 1 ?_
    rw [rounds_succ]
    go_wp2
    go_ret
    exact⟨rfl,rfl⟩
theorem Y0 (s:ByteArray) (k j:Nat) (h:k+j < s.size):bn (s.extract k s.size) j=bn s (k+j):=by
 rw [← vP s (k+j) h,← vP (s.extract k s.size) j Zq0]
 simp [ByteArray.getElem_extract]
theorem kZ.drop1 {s:ByteArray} (h:kZ s):kZ (s.extract 1 s.size):=by
 intro j hj
 have:j < s.size - 1:=by simpa using hj
 rw [Y0 s 1 j (by omega)]
 exact h (1+j) (by omega)
def infT:ByteArray:=⟨#[105,110,102,105,110,105,116,121]⟩
theorem KO (s:ByteArray) (hs:s.size≤maxLen) (h:kZ s) (w:World):Calls Tryz.prog 149 #[.string s] w (fun e w'=>e = .returned (.tuple #[.float .f64 0, .int .i64 0, .bool false])∧w'=w):=by
 have hb:=vP s
 by_cases h0:s.size=0
 ·
  clear hs
  go_enter Tryz.func149,Tryz.ntmps149
  go_wp2
  go_ret3
  exact⟨rfl,rfl⟩
 ·
  have hc:qN (bn s 0):=h 0 (by omega)
  have hpos:0 < s.size:=by omega
  unfold qN at hc
  have n1:(bn s 0 == 105)=false:=beq_eq_false_iff_ne.mpr (by omega)
  have n2:(bn s 0 == 73)=false:=beq_eq_false_iff_ne.mpr (by omega)
  have n3:(bn s 0 == 110)=false:=beq_eq_false_iff_ne.mpr (by omega)
  have n4:(bn s 0 == 78)=false:=beq_eq_false_iff_ne.mpr (by omega)
  have HD:=Lib.hid h.drop1
  clear h
  have hl:(s.extract 1 s.size).size≤maxLen:=by simp;omega
  have HL:=Lib.hid hl
  clear hl
  unfold maxLen at hs
  by_cases hp:bn s 0=43
  ·
   clear hc n1 n2 n3 n4 h0
   go_enter Tryz.func149,Tryz.ntmps149
   go_wp2_with (go_at_call 168;refine(XT _ infT (by decide) (by decide) HL.out HD.out _).mono ?_;rintro e w' ⟨rfl,rfl⟩)
   go_ret3
   exact⟨rfl,rfl⟩
  ·
   by_cases hp2:bn s 0=45
   ·
    clear hc n1 n2 n3 n4 h0
    go_enter Tryz.func149,Tryz.ntmps149
    go_wp2_with (go_at_call 168;refine(XT _ infT (by decide) (by decide) HL.out HD.out _).mono ?_;rintro e w' ⟨rfl,rfl⟩)
    go_ret3
    exact⟨rfl,rfl⟩
   ·
    have n5:(bn s 0 == 43)=false:=beq_eq_false_iff_ne.mpr hp
    have n6:(bn s 0 == 45)=false:=beq_eq_false_iff_ne.mpr hp2
    clear hc h0 hp hp2
    go_enter Tryz.func149,Tryz.ntmps149
    go_wp2
    go_ret3
    exact⟨rfl,rfl⟩
end Go.Proofs.YtljhmnnhfnmhmaaGreatDoor.M
namespace Go.Proofs.YtljhmnnhfnmhmaaGreatDoor.M
open Go Go.RowKit Go.Proofs.YtljhmnnhfnmhmaaGreatDoorW.PrintWords
def uO (t:ByteArray) (s:Nat):Nat→Bool
 | 0=>false
 | n+1=>bn t (s+n) == 92 && !(uO t s n)
structure WY (t:ByteArray) (s q:Nat):Prop where
 lt:q < t.size
 le:s≤q
 pos:1≤s
 opn:bn t (s - 1)=34
 cls:bn t q=34
 noesc:uO t s (q - s)=false
 inner:∀ n:Nat,s+n < q→bn t (s+n)=34→uO t s n=true
theorem Y8 (t:ByteArray) (s:Nat):∀ (r j n:Nat),j+1+r=s+n→(∀ p:Nat,j < p→p < s+n→bn t p=92)→(j+1=s∨(¬ bn t j=92∧s≤j))→uO t s n=(r % 2 == 1):=by
 intro r
 induction r with
 | zero =>
  intro j n h1 h2 h3
  rcases h3 with h3|⟨h3,h4⟩
  ·
   obtain rfl:n=0:=by omega
   rfl
  ·
   obtain⟨m,rfl⟩:∃ m,n=m+1:=⟨n - 1,by omega⟩
   have e:s+m=j:=by omega
   rw [uO,e,beq_eq_false_iff_ne.mpr h3]
   rfl
 | succ r ih =>
  intro j n h1 h2 h3
  obtain⟨m,rfl⟩:∃ m,n=m+1:=⟨n - 1,by omega⟩
  have e:=ih j m (by omega) (fun p hp hq=>h2 p hp (by omega)) h3
  have hb:=h2 (s+m) (by omega) (by omega)
  rw [uO,hb,e]
  rcases Nat.mod_two_eq_zero_or_one r with h|h
  ·
   have:(r+1) % 2=1:=by omega
   simp [h,this]
  ·
   have:(r+1) % 2=0:=by omega
   simp [h,this]
theorem QZ (t:ByteArray) (s k j c:Nat) (hs:1≤s) (ho:bn t (s - 1)=34) (hk:s < k) (hj:j+c+2=k) (hr:∀ p:Nat,j < p→p < k→bn t p=92) (he:j=0∨¬ bn t j=92):uO t s (k - s)=(c % 2 == 0):=by
 have hjs:s≤j+1:=by
  rcases Nat.lt_or_ge j (s - 1) with h|h
  ·
   have:=hr (s - 1) h (by omega)
   omega
  ·
   omega
 have h3:j+1=s∨(¬ bn t j=92∧s≤j):=by
  rcases Nat.lt_or_ge (j+1) (s+1) with h|h
  ·
   exact .inl (by omega)
  ·
   refine .inr ⟨?_,by omega⟩
   rcases he with he|he
   ·
    omega
   ·
    exact he
 have:=Y8 t s (c+1) j (k - s) (by omega) (fun p h1 h2=>hr p h1 (by omega)) h3
 rw [this]
 rcases Nat.mod_two_eq_zero_or_one c with h|h
 ·
  have:(c+1) % 2=1:=by omega
  simp [h,this]
 ·
  have:(c+1) % 2=0:=by omega
  simp [h,this]
theorem uP (t:ByteArray) (s k:Nat) (hk:s < k) (h:¬ bn t (k - 1)=92):uO t s (k - s)=false:=by
 obtain⟨m,hm⟩:∃ m,k - s=m+1:=⟨k - s - 1,by omega⟩
 rw [hm,uO,show s+m=k - 1 by omega,beq_eq_false_iff_ne.mpr h]
 rfl
end Go.Proofs.YtljhmnnhfnmhmaaGreatDoor.M
namespace Go.Proofs.YtljhmnnhfnmhmaaGreatDoor.M
open Go Go.RowKit Go.Proofs.YtljhmnnhfnmhmaaGreatDoorW.PrintWords
def vc (c:Int):Int:=if c=34 then 2 else if c=40∨c=91∨c=123 then 3 else if c=41∨c=93∨c=125 then 1 else 0
inductive Sq (t:ByteArray):Nat→Nat→Nat→Prop where
 | plain {p d e:Nat}:p < t.size→vc (bn t p)=0→Sq t (p+1) d e→Sq t p d e
 | str {p q d e:Nat}:WY t (p+1) q→Sq t (q+1) d e→Sq t p d e
 | opn {p d e:Nat}:p < t.size→vc (bn t p)=3→1≤d→Sq t (p+1) (d+1) e→Sq t p d e
 | cls {p d e:Nat}:p < t.size→vc (bn t p)=1→1≤d→Sq t (p+1) d e→Sq t p (d+1) e
 | last {p:Nat}:p < t.size→vc (bn t p)=1→Sq t p 1 (p+1)
theorem zFe (c:Int):vc c=0∨vc c=1∨vc c=2∨vc c=3:=by
 unfold vc
 repeat' split
 all_goals omega
theorem Sq.lt {t:ByteArray} {p d e:Nat} (h:Sq t p d e):p < t.size:=by
 cases h with
 | plain h _ _=>exact h
 | str h _=>have:=h.lt;have:=h.le;omega
 | opn h _ _ _=>exact h
 | cls h _ _ _=>exact h
 | last h _=>exact h
theorem Sq.pos {t:ByteArray} {p d e:Nat} (h:Sq t p d e):1≤d:=by
 induction h with
 | plain _ _ _ ih=>exact ih
 | str _ _ ih=>exact ih
 | opn _ _ h _ _=>exact h
 | cls _ _ _ _ _=>omega
 | last _ _=>omega
theorem Sq.ge {t:ByteArray} {p d e:Nat} (h:Sq t p d e):p < e∧e≤t.size:=by
 induction h with
 | plain _ _ _ ih=>omega
 | str h _ ih=>have:=h.le;omega
 | opn _ _ _ _ ih=>omega
 | cls _ _ _ _ ih=>omega
 | last _ _=>omega
theorem Sq.zero {t:ByteArray} {p d e:Nat} (h:Sq t p d e) (hc:vc (bn t p)=0):Sq t (p+1) d e:=by
 cases h with
 | plain _ _ h=>exact h
 | str h _=>have:=h.opn;rw [show p+1 - 1=p by omega] at this;rw [this] at hc;cases hc
 | opn _ h _ _=>omega
 | cls _ h _ _=>omega
 | last _ h=>omega
theorem Sq.two {t:ByteArray} {p d e:Nat} (h:Sq t p d e) (hc:vc (bn t p)=2):∃ q,WY t (p+1) q∧Sq t (q+1) d e:=by
 cases h with
 | plain _ h _=>omega
 | str h h2=>exact⟨_,h,h2⟩
 | opn _ h _ _=>omega
 | cls _ h _ _=>omega
 | last _ h=>omega
theorem Sq.three {t:ByteArray} {p d e:Nat} (h:Sq t p d e) (hc:vc (bn t p)=3):Sq t (p+1) (d+1) e:=by
 cases h with
 | plain _ h _=>omega
 | str h _=>have:=h.opn;rw [show p+1 - 1=p by omega] at this;rw [this] at hc;cases hc
 | opn _ _ _ h=>exact h
 | cls _ h _ _=>omega
 | last _ h=>omega
theorem Sq.one {t:ByteArray} {p d e:Nat} (h:Sq t p d e) (hc:vc (bn t p)=1):(d=1∧e=p+1)∨(2≤d∧Sq t (p+1) (d - 1) e):=by
 cases h with
 | plain _ h _=>omega
 | str h _=>have:=h.opn;rw [show p+1 - 1=p by omega] at this;rw [this] at hc;cases hc
 | opn _ h _ _=>omega
 | cls _ _ h1 h2=>exact .inr ⟨by omega,by simpa using h2⟩
 | last _ _=>exact .inl ⟨rfl,rfl⟩
end Go.Proofs.YtljhmnnhfnmhmaaGreatDoor.M
set_option maxHeartbeats 4000000
set_option maxRecDepth 100000
namespace Go.Proofs.YtljhmnnhfnmhmaaGreatDoor.M
open Go Go.RowKit Go.Proofs.YtljhmnnhfnmhmaaGreatDoorW.PrintWords
def PS (t:ByteArray) (a q:Nat) (w:World) (e:Ending) (w':World):Prop:=∃ (v:Bool) (n:Nat),e = .returned (.tuple #[.int .i64 ((q:Int)+1), .string (t.extract a (q+1)), .bool v, .bool true])∧w'=w.drewN n
theorem y5 (t:ByteArray) (a b:Nat) (x y:Int) (hx:x=a) (hy:y=b) (h1:a≤b) (h2:b≤t.size) (w:World):(Instr.sliceAt 9 (.string t) (some (.int .i64 x)) (some (.int .i64 y)) none).run Tryz.prog w = .ok (.string (t.extract a b)) w:=by
 subst hx hy
 rw [run_sliceAt_string w 9 _ _ _ _ Tryz.underlying9]
 have:=run_slice_string (P:=Tryz.prog) w 9 t .i64 .i64 (a:Int) (b:Int) Tryz.underlying9 (by omega) (by omega) (by omega)
 simpa using this
def PS1 (t:ByteArray) (s q:Nat) (a1:Value):Prop:=∃ k:Nat,a1 = .int .i64 (k:Int)∧s≤k∧k≤q∧∀ p:Nat,s≤p→p < k→¬ bn t p=92
def PS2 (s q:Nat) (a1:Value):Prop:=∃ k:Nat,a1 = .int .i64 (k:Int)∧s < k∧k≤q
def PS3 (t:ByteArray) (k:Nat) (a9 a10:Value):Prop:=∃ j c:Nat,a9 = .int .i64 (c:Int)∧a10 = .int .i64 (j:Int)∧j+c+2=k∧∀ p:Nat,j < p→p < k→bn t p=92
def PS3x (t:ByteArray) (s k:Nat) (a9:Value):Prop:=∃ c:Nat,a9 = .int .i64 (c:Int)∧c≤k∧uO t s (k - s)=(c % 2 == 0)
theorem zD7 {t:ByteArray} {s k:Nat} (h:∀ p:Nat,s≤p→p < k→¬ bn t p=92) (hk:s≤k):uO t s (k - s)=false:=by
 rcases Nat.eq_zero_or_pos (k - s) with h0|h0
 ·
  rw [h0];rfl
 ·
  exact uP t s k (by omega) (h (k - 1) (by omega) (by omega))
theorem wI (t:ByteArray) (a q:Nat) (w:World) (ht:t.size≤1048576) (h:WY t (a+1) q):Calls Tryz.prog 67 #[.string t, .int .i64 ((a:Int)+1)] w (PS t a q w):=by
 have hb:=vP t
 have hq:=h.lt
 have hs:=h.le
 have HX:=Lib.hid h
 clear h
 go_enter Tryz.func67,Tryz.ntmps67
 go_wp2_with fail
 go_loop [1] (fun a1=>PS1 t (a+1) q a1) (fun a1=>q+1 - (intOf a1).toNat)
 case atStart=>exact⟨a+1,by go_num,by omega,by omega,by omega⟩
 case round =>
  obtain⟨k,rfl,hk1,hk2,hno⟩:=hrel
  have hkl:k < t.size:=by omega
  by_cases h34:bn t k=34
  ·
   have hkq:k=q:=by
    rcases Nat.lt_or_ge k q with h|h
    ·
     have h1:=HX.out.inner (k - (a+1)) (by omega) (by rw [show a+1+(k - (a+1))=k by omega];exact h34)
     rw [zD7 hno hk1] at h1
     cases h1
    ·
     omega
   subst hkq
   clear hno
   have hw2:IntKind.i64.wrap ((k:Int)+1)=(k:Int)+1:=IntWalk.i64_in _ (by omega)
   have hw3:IntKind.i64.wrap ((a:Int)+1 - 1)=(a:Int):=by rw [IntWalk.i64_in ((a:Int)+1 - 1) (by omega)];omega
   have hsl:=y5 t a (k+1) (a:Int) ((k:Int)+1) rfl (by omega) (by omega) (by omega)
   as_aux_lemma =>
    go_wp2_with fail
    go_quiet (fail)
    go_wp2_with fail
    exact bodyPost_ret (v := .tuple #[.int .i64 ((k:Int)+1), .string (t.extract a (k+1)), .bool false, .bool true]) (by simp [results,Tryz.results67,go_sem]) rfl ⟨_,_,rfl,rfl⟩
  ·
   have hkq:k < q:=by
    rcases Nat.lt_or_ge k q with h|h
    ·
     exact h
    ·
     obtain rfl:k=q:=by omega
     exact absurd HX.out.cls h34
   by_cases h92:bn t k=92
   ·
    clear hno
    have hs0:WY t (a+1) q:=HX.out
    go_upto_block 2 with fail
    go_cut [1] (fun a1 wx=>False)
    case first =>
     go_wp2_with fail
     go_loop [1] (fun a1=>PS2 (a+1) q a1) (fun a1=>q+1 - (intOf a1).toNat)
     case atStart=>exact⟨k+1,by go_num,by omega,by omega⟩
     case round =>
      clear h34 h92 hkq hkl hk1 hk2
      obtain⟨k,rfl,hk1,hk2⟩:=hrel
      have hkl:k < t.size:=by omega
      by_cases hgt:92 < bn t k
      ·
       have hkq:k < q:=by
        rcases Nat.lt_or_ge k q with h|h
        ·
         exact h
        ·
         obtain rfl:k=q:=by omega
         have:=HX.out.cls;omega
       clear hs0
       as_aux_lemma =>
        go_wp2_with fail
        go_round
        case rel=>exact⟨k+1,by go_num,by omega,by omega⟩
        case measure=>first|(simp [intOf];done)|(simp [intOf];omega)
      ·
       by_cases h34:bn t k=34
       ·
        have hE:uO t (a+1) (k - (a+1))=decide (k < q):=by
         by_cases hkq:k < q
         ·
          have:=hs0.inner (k - (a+1)) (by omega) (by rw [show a+1+(k - (a+1))=k by omega];exact h34)
          rw [this];simp [hkq]
         ·
          obtain rfl:k=q:=by omega
          rw [hs0.noesc];simp
        have hop:=hs0.opn
        have hk1':(1:Int)≤k:=by omega
        have hk2':(2:Int)≤k:=by omega
        have hk3':((k:Int) - 1).toNat=k - 1:=by omega
        have hk4':k - 1 < t.size:=by omega
        have HE:=Lib.hid (And.intro hE hop)
        clear hs0 hE hop
        have hsl:=y5 t a (k+1) (a:Int) ((k:Int)+1) rfl (by omega) (by omega) (by omega)
        have hw2:IntKind.i64.wrap ((k:Int)+1)=(k:Int)+1:=IntWalk.i64_in _ (by omega)
        have hw3:IntKind.i64.wrap ((a:Int)+1 - 1)=(a:Int):=by rw [IntWalk.i64_in ((a:Int)+1 - 1) (by omega)];omega
        by_cases h92:bn t (k - 1)=92
        ·
         have H92:=Lib.hid h92
         go_upto_block 4 with fail
         go_cut [9,10] (fun a9 a10 wx=>PS3x t (a+1) k a9∧w=wx)
         case first =>
          go_wp2_with fail
          go_loop [9,10] (fun a9 a10=>PS3 t k a9 a10) (fun _ a10=>(intOf a10).toNat)
          case atStart=>exact⟨k - 2,0,rfl,by congr 1;omega,by omega,fun p h1 h2=>by obtain rfl:p=k - 1:=(by omega);exact H92.out⟩
          case round =>
           obtain⟨j,c,rfl,rfl,hjc,hr⟩:=hrel
           have hcl:c≤k:=by omega
           have HR:=Lib.hid (And.intro hjc hr)
           clear hjc hr
           rcases j with _|j
           ·
            as_aux_lemma =>
             go_wp2_with fail
             go_meet
             have hc:=QZ t (a+1) k 0 c (by omega) (by simpa using HE.out.2) (by omega) HR.out.1 HR.out.2 (.inl rfl)
             exact⟨⟨c,rfl,by omega,hc⟩,rfl⟩
           ·
            have hjl:j+1 < t.size:=by have:=HR.out.1;omega
            by_cases hj:bn t (j+1)=92
            ·
             have HJ:=Lib.hid hj
             as_aux_lemma =>
              go_wp2_with fail
              go_round
              case rel=>exact⟨j,c+1,Zq1,Zq1,by have:=HR.out.1;omega,fun p h1 h2=>by
               rcases Nat.lt_or_ge (j+1) p with h|h
               ·
                exact HR.out.2 p h h2
               ·
                obtain rfl:p=j+1:=(by omega)
                exact HJ.out⟩
              case measure=>first|(simp [intOf];done)|(simp [intOf];omega)
            ·
             have hjb:(bn t (j+1) != 92)=true:=bne_iff_ne.mpr hj
             as_aux_lemma =>
              go_wp2_with fail
              go_meet
              have hc:=QZ t (a+1) k (j+1) c (by omega) (by simpa using HE.out.2) (by omega) HR.out.1 HR.out.2 (.inr hj)
              exact⟨⟨c,rfl,by omega,hc⟩,rfl⟩
         case rest =>
          obtain⟨⟨c,rfl,hcl,hc⟩,rfl⟩:=hcut
          have hE:=HE.out.1
          by_cases hkq:k < q
          ·
           rw [decide_eq_true hkq] at hE
           rw [hE] at hc
           have hc2:(c:Int).tmod 2=0:=by
            have:=beq_iff_eq.mp hc.symm
            rw [Int.tmod_eq_emod_of_nonneg (by omega)]
            omega
           have hc3:((c:Int) % 2 == 0)=true:=by
            have:=beq_iff_eq.mp hc.symm
            exact beq_iff_eq.mpr (by omega)
           clear hE hc
           as_aux_lemma =>
            go_wp2_with fail
            go_round
            case rel=>exact⟨k+1,by go_num,by omega,by omega⟩
            case measure=>first|(simp [intOf];done)|(simp [intOf];omega)
          ·
           obtain rfl:k=q:=by omega
           rw [decide_eq_false hkq] at hE
           rw [hE] at hc
           have hc2:(c:Int).tmod 2=1:=by
            have:=beq_eq_false_iff_ne.mp hc.symm
            rw [Int.tmod_eq_emod_of_nonneg (by omega)]
            omega
           have hc3:((c:Int) % 2 == 0)=false:=by
            have:=beq_eq_false_iff_ne.mp hc.symm
            exact beq_eq_false_iff_ne.mpr (by omega)
           clear hE hc
           as_aux_lemma =>
            go_wp2_with fail
            go_quiet (fail)
            go_wp2_with fail
            exact bodyPost_ret (v := .tuple #[.int .i64 ((k:Int)+1), .string (t.extract a (k+1)), .bool true, .bool true]) (by simp [results,Tryz.results67,go_sem]) rfl ⟨_,_,rfl,rfl⟩
        ·
         have hkq:k=q:=by
          have h1:=uP t (a+1) k (by omega) h92
          rw [HE.out.1] at h1
          have:=of_decide_eq_false h1
          omega
         subst hkq
         have h92b:(bn t (k - 1) == 92)=false:=beq_eq_false_iff_ne.mpr h92
         clear h92
         as_aux_lemma =>
          go_wp2_with fail
          go_quiet (fail)
          go_wp2_with fail
          exact bodyPost_ret (v := .tuple #[.int .i64 ((k:Int)+1), .string (t.extract a (k+1)), .bool true, .bool true]) (by simp [results,Tryz.results67,go_sem]) rfl ⟨_,_,rfl,rfl⟩
       ·
        have hkq:k < q:=by
         rcases Nat.lt_or_ge k q with h|h
         ·
          exact h
         ·
          obtain rfl:k=q:=by omega
          exact absurd HX.out.cls h34
        have h34b:(bn t k == 34)=false:=beq_eq_false_iff_ne.mpr h34
        clear hs0 h34
        as_aux_lemma =>
         go_wp2_with fail
         go_round
         case rel=>exact⟨k+1,by go_num,by omega,by omega⟩
         case measure=>first|(simp [intOf];done)|(simp [intOf];omega)
    case rest =>
     exact hcut.elim
   ·
    by_cases hgt:92 < bn t k
    ·
     have HNO:=Lib.hid hno
     clear hno h34
     as_aux_lemma =>
      go_wp2_with fail
      go_round
      case rel=>exact⟨k+1,by go_num,by omega,by omega,fun p h1 h2=>by
       rcases Nat.lt_or_ge p k with h|h
       ·
        exact HNO.out p h1 h
       ·
        obtain rfl:p=k:=by omega
        exact h92⟩
      case measure=>first|(simp [intOf];done)|(simp [intOf];omega)
    ·
     have HNO:=Lib.hid hno
     have h34b:(bn t k == 34)=false:=beq_eq_false_iff_ne.mpr h34
     have h92b:(bn t k == 92)=false:=beq_eq_false_iff_ne.mpr h92
     clear hno h34
     as_aux_lemma =>
      go_wp2_with fail
      go_round
      case rel=>exact⟨k+1,by go_num,by omega,by omega,fun p h1 h2=>by
       rcases Nat.lt_or_ge p k with h|h
       ·
        exact HNO.out p h1 h
       ·
        obtain rfl:p=k:=by omega
        exact h92⟩
      case measure=>first|(simp [intOf];done)|(simp [intOf];omega)
end Go.Proofs.YtljhmnnhfnmhmaaGreatDoor.M
set_option maxHeartbeats 2000000
set_option maxRecDepth 100000
namespace Go.Proofs.YtljhmnnhfnmhmaaGreatDoor.M
open Go Go.RowKit Go.Proofs.YtljhmnnhfnmhmaaGreatDoorW.PrintWords
def Tok (t:ByteArray) (i j:Nat) (w:World) (e:Ending) (w':World):Prop:=∃ n:Nat,e = .returned (.tuple #[.int .i64 (j:Int), .string (t.extract i j)])∧w'=w.drewN n
def Brk (c:Int):Prop:=c≤32∨c=44∨c=93∨c=125
def PN (i j:Nat) (a1:Value):Prop:=∃ k:Nat,a1 = .int .i64 (k:Int)∧i < k∧k≤j
theorem XR (t:ByteArray) (i j:Nat) (w:World) (ht:t.size≤1048576) (hij:i < j) (hj:j < t.size) (hin:∀ p:Nat,i < p→p < j→¬ Brk (bn t p)) (hat:Brk (bn t j)) :
  Calls Tryz.prog 88 #[.string t, .int .i64 (i:Int)] w (Tok t i j w):=by
 have hb:=vP t
 have HI:=Lib.hid hin
 clear hin
 go_enter Tryz.func88,Tryz.ntmps88
 go_wp2_with fail
 go_loop [1] (fun a1=>PN i j a1) (fun a1=>j+1 - (intOf a1).toNat)
 case atStart=>exact⟨i+1,by go_num,by omega,by omega⟩
 case round =>
  obtain⟨k,rfl,hk1,hk2⟩:=hrel
  have hkl:k < t.size:=by omega
  by_cases hkj:k < j
  ·
   have hn:=HI.out k hk1 hkj
   unfold Brk at hn
   have h1:¬ bn t k≤32:=by omega
   have h2:(bn t k == 44)=false:=beq_eq_false_iff_ne.mpr (by omega)
   have h3:(bn t k == 93)=false:=beq_eq_false_iff_ne.mpr (by omega)
   have h4:(bn t k == 125)=false:=beq_eq_false_iff_ne.mpr (by omega)
   clear hn
   as_aux_lemma =>
    go_wp2_with fail
    go_round
    case rel=>exact⟨k+1,by go_num,by omega,by omega⟩
    case measure=>first|(simp [intOf];done)|(simp [intOf];omega)
  ·
   obtain rfl:k=j:=by omega
   have hsl:=y5 t i k (i:Int) (k:Int) rfl rfl (by omega) (by omega)
   unfold Brk at hat
   by_cases h32:bn t k≤32
   ·
    clear hat
    as_aux_lemma =>
     go_wp2_with fail
     go_quiet (fail)
     go_wp2_with fail
     go_ret2
     exact⟨_,rfl,rfl⟩
   ·
    have hat:bn t k=44∨bn t k=93∨bn t k=125:=by omega
    rcases hat with hat|hat|hat
    all_goals
     as_aux_lemma =>
      go_wp2_with fail
      go_quiet (fail)
      go_wp2_with fail
      go_ret2
      exact⟨_,rfl,rfl⟩
theorem yO (t:ByteArray) (i j:Nat) (w:World) (ht:t.size≤1048576) (hij:i < j) (hj:j < t.size) (hin:∀ p:Nat,i < p→p < j→97≤bn t p∧bn t p≤122) (hat:bn t j < 97∨122 < bn t j) :
  Calls Tryz.prog 87 #[.string t, .int .i64 (i:Int)] w (Tok t i j w):=by
 have hb:=vP t
 have HI:=Lib.hid hin
 clear hin
 go_enter Tryz.func87,Tryz.ntmps87
 go_wp2_with fail
 go_loop [1] (fun a1=>PN i j a1) (fun a1=>j+1 - (intOf a1).toNat)
 case atStart=>exact⟨i+1,by go_num,by omega,by omega⟩
 case round =>
  obtain⟨k,rfl,hk1,hk2⟩:=hrel
  have hkl:k < t.size:=by omega
  by_cases hkj:k < j
  ·
   obtain⟨h1,h2⟩:=HI.out k hk1 hkj
   have h1':¬ bn t k < 97:=by omega
   have h2':¬ 122 < bn t k:=by omega
   as_aux_lemma =>
    go_wp2_with fail
    go_round
    case rel=>exact⟨k+1,by go_num,by omega,by omega⟩
    case measure=>first|(simp [intOf];done)|(simp [intOf];omega)
  ·
   obtain rfl:k=j:=by omega
   have hsl:=y5 t i k (i:Int) (k:Int) rfl rfl (by omega) (by omega)
   by_cases h97:bn t k < 97
   ·
    clear hat
    as_aux_lemma =>
     go_wp2_with fail
     go_quiet (fail)
     go_wp2_with fail
     go_ret2
     exact⟨_,rfl,rfl⟩
   ·
    have hat:122 < bn t k:=by omega
    as_aux_lemma =>
     go_wp2_with fail
     go_quiet (fail)
     go_wp2_with fail
     go_ret2
     exact⟨_,rfl,rfl⟩
end Go.Proofs.YtljhmnnhfnmhmaaGreatDoor.M
namespace Go.Proofs.YtljhmnnhfnmhmaaGreatDoor.M
open Go
def ZI (J:Nat→Act→World→Prop) (Q:Exit→Act→World→Prop):Exit→Act→World→Prop
 | .goto l,a,w=>J l a w
 | e,a,w=>Q e a w
def Reach (P:Program) (c:Code) (Q:Exit→Act→World→Prop):Nat→Nat→Act→World→Prop
 | 0,_,_,_=>False
 | n+1,l,a,w=>∃ rest,findLabel c l=some rest∧rest.wp P (ZI (Reach P c Q n) Q) a w
theorem VP {P:Program} {c:Code} {a:Act} {w:World} {Q:Exit→Act→World→Prop} (first:c.wp P (ZI (fun l a' w'=>∃ n,Reach P c Q n l a' w') Q) a w):(Code.scope c).wp P Q a w:=by
 intro b k cs
 have key:∀ n l rest a w,findLabel c l=some rest→Reach P c Q n l a w→∃ e a' w',Q e a' w'∧Arrives P (lone (b.at a (.code rest :: .inScope c :: k)) cs w) b k cs e a' w':=by
  intro n
  induction n with
  | zero=>intro l rest a w _ hJ;exact hJ.elim
  | succ n ih =>
   intro l rest a w hf hJ
   obtain⟨rest',hf',hw⟩:=hJ
   rw [hf] at hf'
   cases hf'
   obtain⟨e,a₁,w₁,hq,harr⟩:=hw b (.inScope c :: k) cs
   cases e with
   | normal=>exact⟨.normal,a₁,w₁,hq,Steps.trans harr (.one step_inScope)⟩
   | exit id=>exact⟨.exit id,a₁,w₁,hq,fun k' hk=>harr k' (by simp [exitTo,hk])⟩
   | goto l' =>
    have hq':Reach P c Q n l' a₁ w₁:=hq
    cases n with
    | zero=>exact hq'.elim
    | succ n =>
     obtain⟨rest₂,hf₂,_⟩:=id hq'
     have hg:gotoIn l' (.inScope c :: k)=some (.code rest₂ :: .inScope c :: k):=by simp [gotoIn,hf₂]
     obtain⟨e₂,a₂,w₂,hq₂,harr₂⟩:=ih l' rest₂ a₁ w₁ hf₂ hq'
     exact⟨e₂,a₂,w₂,hq₂, .of_steps (harr _ hg) harr₂⟩
   | ret=>exact⟨_,a₁,w₁,hq,harr⟩
   | panic ch=>exact⟨_,a₁,w₁,hq,harr⟩
   | outgrown=>exact⟨_,a₁,w₁,hq,harr⟩
 obtain⟨e,a₁,w₁,hq,harr⟩:=first b (.inScope c :: k) cs
 cases e with
 | normal=>exact⟨.normal,a₁,w₁,hq, .head step_scope (Steps.trans harr (.one step_inScope))⟩
 | exit id=>exact⟨.exit id,a₁,w₁,hq,fun k' hk => .head step_scope (harr k' (by simp [exitTo,hk]))⟩
 | goto l' =>
  obtain⟨n,hJ⟩:∃ n,Reach P c Q n l' a₁ w₁:=hq
  cases n with
  | zero=>exact hJ.elim
  | succ n =>
   obtain⟨rest,hf,_⟩:=id hJ
   have hg:gotoIn l' (.inScope c :: k)=some (.code rest :: .inScope c :: k):=by simp [gotoIn,hf]
   obtain⟨e₂,a₂,w₂,hq₂,harr₂⟩:=key _ l' rest a₁ w₁ hf hJ
   exact⟨e₂,a₂,w₂,hq₂, .of_steps (.head step_scope (harr _ hg)) harr₂⟩
 | ret=>exact⟨_,a₁,w₁,hq, .of_steps (.one step_scope) harr⟩
 | panic ch=>exact⟨_,a₁,w₁,hq, .of_steps (.one step_scope) harr⟩
 | outgrown=>exact⟨_,a₁,w₁,hq, .of_steps (.one step_scope) harr⟩
theorem y4 {P:Program} {c rest:Code} {a:Act} {w:World} {Q:Exit→Act→World→Prop} {l:Nat} (n:Nat) (hf:findLabel c l=some rest) (h:rest.wp P (ZI (Reach P c Q n) Q) a w):Reach P c Q (n+1) l a w:=⟨rest,hf,h⟩
theorem zCd {J:Nat→Act→World→Prop} {Q:Exit→Act→World→Prop} {a:Act} {w:World} (h:Q .ret a w):ZI J Q .ret a w:=h
theorem qU {J:Nat→Act→World→Prop} {Q:Exit→Act→World→Prop} {a:Act} {w:World} (h:Q .normal a w):ZI J Q .normal a w:=h
theorem ZM {J:Nat→Act→World→Prop} {Q:Exit→Act→World→Prop} {a:Act} {w:World} {i:Nat} (h:Q (.exit i) a w):ZI J Q (.exit i) a w:=h
end Go.Proofs.YtljhmnnhfnmhmaaGreatDoor.M
namespace Go.Proofs.YtljhmnnhfnmhmaaGreatDoor.M
open Go
theorem wO {P:Program} {c:Code} {a:Act} {w:World} {Q:Exit→Act→World→Prop} (J:Nat→Nat→Act→World→Prop)
  (first:c.wp P (ZI (fun l a' w'=>∃ n,J n l a' w') Q) a w)
  (pass:∀ n l a w,J n l a w→∃ rest,findLabel c l=some rest∧rest.wp P (ZI (fun l' a' w'=>∃ n',n' < n∧J n' l' a' w') Q) a w):(Code.scope c).wp P Q a w:=by
 intro b k cs
 have key:∀ n l a w,J n l a w→∃ rest,findLabel c l=some rest∧∃ e a' w',Q e a' w'∧Arrives P (lone (b.at a (.code rest :: .inScope c :: k)) cs w) b k cs e a' w':=by
  intro n
  induction n using Nat.strongRecOn with
  | _ n ih =>
   intro l a w hJ
   obtain⟨rest,hf,hw⟩:=pass n l a w hJ
   refine⟨rest,hf,?_⟩
   obtain⟨e,a₁,w₁,hq,harr⟩:=hw b (.inScope c :: k) cs
   cases e with
   | normal=>exact⟨.normal,a₁,w₁,hq,Steps.trans harr (.one step_inScope)⟩
   | exit id=>exact⟨.exit id,a₁,w₁,hq,fun k' hk=>harr k' (by simp [exitTo,hk])⟩
   | goto l' =>
    obtain⟨n',hn,hJ'⟩:∃ n',n' < n∧J n' l' a₁ w₁:=hq
    obtain⟨rest₂,hf₂,e₂,a₂,w₂,hq₂,harr₂⟩:=ih n' hn l' a₁ w₁ hJ'
    have hg:gotoIn l' (.inScope c :: k)=some (.code rest₂ :: .inScope c :: k):=by simp [gotoIn,hf₂]
    exact⟨e₂,a₂,w₂,hq₂, .of_steps (harr _ hg) harr₂⟩
   | ret=>exact⟨_,a₁,w₁,hq,harr⟩
   | panic ch=>exact⟨_,a₁,w₁,hq,harr⟩
   | outgrown=>exact⟨_,a₁,w₁,hq,harr⟩
 obtain⟨e,a₁,w₁,hq,harr⟩:=first b (.inScope c :: k) cs
 cases e with
 | normal=>exact⟨.normal,a₁,w₁,hq, .head step_scope (Steps.trans harr (.one step_inScope))⟩
 | exit id=>exact⟨.exit id,a₁,w₁,hq,fun k' hk => .head step_scope (harr k' (by simp [exitTo,hk]))⟩
 | goto l' =>
  obtain⟨n',hJ'⟩:∃ n',J n' l' a₁ w₁:=hq
  obtain⟨rest₂,hf₂,e₂,a₂,w₂,hq₂,harr₂⟩:=key n' l' a₁ w₁ hJ'
  have hg:gotoIn l' (.inScope c :: k)=some (.code rest₂ :: .inScope c :: k):=by simp [gotoIn,hf₂]
  exact⟨e₂,a₂,w₂,hq₂, .of_steps (.head step_scope (harr _ hg)) harr₂⟩
 | ret=>exact⟨_,a₁,w₁,hq, .of_steps (.one step_scope) harr⟩
 | panic ch=>exact⟨_,a₁,w₁,hq, .of_steps (.one step_scope) harr⟩
 | outgrown=>exact⟨_,a₁,w₁,hq, .of_steps (.one step_scope) harr⟩
theorem wX {P:Program} {c:Code} {a:Act} {w:World} {Q:Exit→Act→World→Prop} (J:Nat→Nat→Act→World→Prop)
  (pass:∀ n,RowKit.Hid (∀ n' l a w rest,n' < n→J n' l a w→findLabel c l=some (.seq .skip rest)→rest.wp P (ZI (fun l' a' w'=>∃ n',n' < n∧J n' l' a' w') Q) a w)→∀ l a w,J n l a w→∃ rest,findLabel c l=some (.seq .skip rest)∧rest.wp P (ZI (fun l' a' w'=>∃ n',n' < n∧J n' l' a' w') Q) a w)
  (first:RowKit.Hid (∀ n l a w rest,J n l a w→findLabel c l=some (.seq .skip rest)→rest.wp P (ZI (fun l a' w'=>∃ n,J n l a' w') Q) a w)→c.wp P (ZI (fun l a' w'=>∃ n,J n l a' w') Q) a w):(Code.scope c).wp P Q a w:=by
 have all:∀ n l a w,J n l a w→∃ rest,findLabel c l=some (.seq .skip rest)∧rest.wp P (ZI (fun l' a' w'=>∃ n',n' < n∧J n' l' a' w') Q) a w:=by
  intro n
  induction n using Nat.strongRecOn with
  | _ n ih =>
   refine pass n (Lib.hid ?_)
   intro n' l a w rest hn hJ hf
   obtain⟨rest',hf',hw⟩:=ih n' hn l a w hJ
   rw [hf] at hf'
   cases hf'
   refine wp_mono hw ?_
   intro e a w h
   cases e with
   | goto l'=>obtain⟨m,h1,h2⟩:∃ m,m < n'∧J m l' a w:=h;exact(⟨m,by omega,h2⟩:∃ m,m < n∧J m l' a w)
   | normal=>exact h
   | exit id=>exact h
   | ret=>exact h
   | panic ch=>exact h
   | outgrown=>exact h
 refine wO J (first (Lib.hid ?_)) (fun n l a w hJ=>by obtain⟨rest,h1,h2⟩:=all n l a w hJ;exact⟨_,h1,wp_seq (wp_skip h2)⟩)
 intro n l a w rest hJ hf
 obtain⟨rest',hf',hw⟩:=all n l a w hJ
 rw [hf] at hf'
 cases hf'
 refine wp_mono hw ?_
 intro e a w h
 cases e with
 | goto l'=>obtain⟨m,h1,h2⟩:∃ m,m < n∧J m l' a w:=h;exact(⟨m,h2⟩:∃ m,J m l' a w)
 | normal=>exact h
 | exit id=>exact h
 | ret=>exact h
 | panic ch=>exact h
 | outgrown=>exact h
end Go.Proofs.YtljhmnnhfnmhmaaGreatDoor.M
