/-
Lemmas of this claim; made short by a program of this work.
-/
import Derived.Test.YtljhmnnhfnmhmaaGreatDoorUM3
import Derived.Test.YtljhmnnhfnmhmaaGreatDoorUM0
import Derived.WalkMore
import Derived.Deep.LoopGhost
import Derived.Deep.DeepCutAuto
import Derived.Deep.CutBlock
set_option linter.unusedVariables false
set_option linter.unusedSimpArgs false
namespace Go.Proofs.YtljhmnnhfnmhmaaGreatDoor.M
open Go Go.RowKit Go.Proofs.YtljhmnnhfnmhmaaGreatDoorW.PrintWords
def Hex (c:Int):Prop:=(48≤c∧c≤57)∨(97≤c∧c≤102)∨(65≤c∧c≤70)
def zA6 (c:Int):Prop:=c=92∨c=47∨c=98∨c=102∨c=110∨c=114∨c=116∨c=34
inductive Esc (s:ByteArray):Nat→Prop where
 | nil:Esc s s.size
 | plain {p:Nat}:p < s.size→32≤bn s p→¬ bn s p=92→Esc s (p+1)→Esc s p
 | short {p:Nat}:p+1 < s.size→bn s p=92→zA6 (bn s (p+1))→Esc s (p+2)→Esc s p
 | uni {p:Nat}:p+5 < s.size→bn s p=92→bn s (p+1)=117→(∀ j:Nat,j < 4→Hex (bn s (p+2+j)))→Esc s (p+6)→Esc s p
theorem Esc.le {s:ByteArray} {p:Nat} (h:Esc s p):p≤s.size:=by
 cases h <;> omega
theorem Esc.cases {s:ByteArray} {p:Nat} (h:Esc s p) (hp:p < s.size) :
  (32≤bn s p∧¬ bn s p=92∧Esc s (p+1))∨(p+1 < s.size∧bn s p=92∧zA6 (bn s (p+1))∧Esc s (p+2)) ∨
  (p+5 < s.size∧bn s p=92∧bn s (p+1)=117∧(∀ j:Nat,j < 4→Hex (bn s (p+2+j)))∧Esc s (p+6)):=by
 cases h with
 | nil=>omega
 | plain h1 h2 h3 h4=>exact .inl ⟨h2,h3,h4⟩
 | short h1 h2 h3 h4=>exact .inr (.inl ⟨h1,h2,h3,h4⟩)
 | uni h1 h2 h3 h4 h5=>exact .inr (.inr ⟨h1,h2,h3,h4,h5⟩)
end Go.Proofs.YtljhmnnhfnmhmaaGreatDoor.M
set_option maxHeartbeats 1000000
namespace Go.Proofs.YtljhmnnhfnmhmaaGreatDoor.M
open Go Go.RowKit
def NN (x:Nat):Prop:=x % 2 ^ 63≤9218868437227405312
theorem WC:Ieee.double.signWeight=2 ^ 63:=by decide +kernel
theorem Y5:Ieee.double.infRung=9218868437227405312:=by decide +kernel
theorem KG (neg:Bool) {r:Nat} (h:r≤9218868437227405312):NN (Ieee.double.word neg r):=by
 unfold NN Ieee.Format.word
 rw [WC]
 cases neg
 ·
  rw [if_neg (by decide)]
  omega
 ·
  rw [if_pos rfl]
  omega
theorem uV (s:Bool) (m:Nat) (i:Int):NN (Ieee.double.write (.number s m i)):=by
 show NN (Ieee.double.nearest s m i)
 unfold Ieee.Format.nearest
 split
 ·
  exact KG s (by omega)
 ·
  refine KG s ?_
  rw [Y5]
  exact Nat.min_le_right _ _
theorem zCq (s:Bool):NN (Ieee.double.write (.infinity s)):=KG s (by rw [Y5];exact Nat.le_refl _)
theorem KF {x:Nat} (h:NN x):(∃ s m i,Ieee.double.read x = .number s m i)∨∃ s,Ieee.double.read x = .infinity s:=by
 unfold Ieee.Format.read
 unfold NN at h
 rw [WC,Y5]
 simp only
 split
 ·
  exact .inl ⟨_,_,_,rfl⟩
 ·
  split
  ·
   exact .inl ⟨_,_,_,rfl⟩
  ·
   rw [if_pos (by omega)]
   exact .inr ⟨_,rfl⟩
theorem zKf {x:Nat} (h:NN x):NN (Op.negFloat .f64 x):=by
 have e:Op.negFloat .f64 x=x ^^^ 2 ^ 63:=rfl
 rw [e]
 unfold NN at *
 rw [Nat.xor_mod_two_pow,Nat.mod_self,Nat.xor_zero]
 exact h
theorem zEu (n:Int):NN (floatOfInt .f64 n):=uV _ _ _
def Good (v:Nat):Prop:=∃ s m i,m≠0∧Ieee.double.read v = .number s m i
theorem zCr {x v:Nat} (h:NN x) (hv:Good v):∃ r,floatBits .mul .f64 x v=some r∧NN r:=by
 obtain⟨t,n,j,hn,hv⟩:=hv
 rcases KF h with ⟨s,m,i,hx⟩|⟨s,hx⟩
 ·
  exact⟨_,by show (((Ieee.double.read x).product (Ieee.double.read v)).map Ieee.double.write)=_;rw [hx,hv];rfl,uV _ _ _⟩
 ·
  refine⟨_,?_,zCq (s ^^ t)⟩
  show (((Ieee.double.read x).product (Ieee.double.read v)).map Ieee.double.write)=_
  rw [hx,hv]
  show Option.map _ (if n=0 then none else some (Ieee.Datum.infinity (s ^^ t)))=_
  rw [if_neg hn]
  rfl
theorem zKe {x v:Nat} (h:NN x) (hv:Good v):∃ r,floatBits .quo .f64 x v=some r∧NN r:=by
 obtain⟨t,n,j,hn,hv⟩:=hv
 rcases KF h with ⟨s,m,i,hx⟩|⟨s,hx⟩
 ·
  refine⟨Ieee.double.write (.number (s ^^ t) (2 * ((m <<< (Ieee.double.fractionBits+2+n.log2 - m.log2)) / n)+((m <<< (Ieee.double.fractionBits+2+n.log2 - m.log2)) % n != 0).toNat) (i - j - (Ieee.double.fractionBits+2+n.log2 - m.log2:Nat) - 1)),?_,uV _ _ _⟩
  show (((Ieee.double.read x).quotient (Ieee.double.fractionBits+2) (Ieee.double.read v)).map Ieee.double.write)=_
  rw [hx,hv]
  show Option.map _ (if n=0 then _ else _)=_
  rw [if_neg hn]
  rfl
 ·
  exact⟨_,by show (((Ieee.double.read x).quotient (Ieee.double.fractionBits+2) (Ieee.double.read v)).map Ieee.double.write)=_;rw [hx,hv];rfl,zCq (s ^^ t)⟩
def P10 (b o c:Nat) (w:World):Prop:=w.cell? ⟨13,0,none⟩=some (.slice (some ⟨b,o,none⟩) 23 c)∧∀ j:Nat,j < 23→∃ v:Nat,w.cell? ⟨b,o+j,none⟩=some (.float .f64 v)∧Good v
def FB (w:World) (e:Ending) (w':World):Prop:=∃ (f:Nat) (b:Bool),e = .returned (.tuple #[.float .f64 f, .bool b])∧w'=w
theorem XA (m x:Int) (neg:Bool) (b o c:Nat) (w:World) (hP:P10 b o c w) (h52:w.cell? ⟨8,0,none⟩=some (.int .u64 52)) (hm0:0≤m) (hx0:-400≤x) (hx1:x≤400) :
  Calls Tryz.prog 160 #[.int .u64 m, .int .i64 x, .bool neg] w (FB w):=by
 obtain⟨hs,hc⟩:=hP
 obtain⟨f,hf⟩:∃ f,f=floatOfInt .f64 m:=⟨_,rfl⟩
 have hn:NN f:=by rw [hf];exact zEu m
 have hcv:∀ w,(convert 108 54 (.int .u64 m)).run Tryz.prog w = .ok (.float .f64 f) w:=fun w=>by rw [hf];exact run_convert_int_float w 108 54 .u64 .f64 m (by kernel_rfl) Tryz.underlying54
 clear hf
 have HC:=Lib.hid hc
 clear hc
 obtain⟨g,hg⟩:∃ g,g=(if neg then Op.negFloat .f64 f else f):=⟨_,rfl⟩
 have hgn:NN g:=by rw [hg];split;exact zKf hn;exact hn
 have hneg:neg=true→∀ w,(Op.unary .neg (.float .f64 f)).run Tryz.prog w = .ok (.float .f64 g) w:=fun h w=>by rw [hg,if_pos h];rfl
 have hpos:neg=false→f=g:=fun h=>by rw [hg,if_neg (by rw [h];decide)]
 have HN:=Lib.hid hgn
 clear hg hgn hn
 cases neg
 all_goals first|(obtain rfl:=hpos rfl;clear hpos hneg)|(replace hneg:=hneg rfl;clear hpos)
 all_goals
  by_cases h0:x=0
  ·
   subst h0
   clear hs
   go_enter Tryz.func160,Tryz.ntmps160
   go_wp2
   all_goals go_ret2;exact⟨_,_,rfl,rfl⟩
  ·
   by_cases h1:0 < x
   ·
    by_cases h2:x≤22
    ·
     obtain⟨v,hv,hvg⟩:=HC.out x.toNat (by omega)
     obtain⟨r,hr,_⟩:=zCr HN.out hvg
     have hmul:=fun w=>run_float_arith (P:=Tryz.prog) w .mul 54 .f64 _ v r hr
     clear hvg hr
     go_enter Tryz.func160,Tryz.ntmps160
     go_wp2
     all_goals go_ret2;exact⟨_,_,rfl,rfl⟩
    ·
     by_cases h3:x≤37
     ·
      obtain⟨v,hv,hvg⟩:=HC.out (x - 22).toNat (by omega)
      obtain⟨u,hu,hug⟩:=HC.out 22 (by omega)
      obtain⟨r,hr,hrn⟩:=zCr HN.out hvg
      obtain⟨q,hq,_⟩:=zCr hrn hug
      have hmul:=fun w=>run_float_arith (P:=Tryz.prog) w .mul 54 .f64 _ v r hr
      have hmul2:=fun w=>run_float_arith (P:=Tryz.prog) w .mul 54 .f64 _ u q hq
      clear hvg hr hug hq hrn
      go_enter Tryz.func160,Tryz.ntmps160
      go_wp2
      all_goals go_ret2;exact⟨_,_,rfl,rfl⟩
     ·
      clear hs
      go_enter Tryz.func160,Tryz.ntmps160
      go_wp2
      all_goals go_ret2;exact⟨_,_,rfl,rfl⟩
   ·
    by_cases h2:-22≤x
    ·
     obtain⟨v,hv,hvg⟩:=HC.out (-x).toNat (by omega)
     obtain⟨r,hr,_⟩:=zKe HN.out hvg
     have hmul:=fun w=>run_float_arith (P:=Tryz.prog) w .quo 54 .f64 _ v r hr
     clear hvg hr
     go_enter Tryz.func160,Tryz.ntmps160
     go_wp2
     all_goals go_ret2;exact⟨_,_,rfl,rfl⟩
    ·
     clear hs
     go_enter Tryz.func160,Tryz.ntmps160
     go_wp2
     all_goals go_ret2;exact⟨_,_,rfl,rfl⟩
end Go.Proofs.YtljhmnnhfnmhmaaGreatDoor.M
set_option maxHeartbeats 1000000
namespace Go.Proofs.YtljhmnnhfnmhmaaGreatDoor.M
open Go Go.RowKit Go.Proofs.YtljhmnnhfnmhmaaGreatDoorW.PrintWords
structure Dc (g:Nat) (f:Nat→Int) (nd dp:Int) (neg tr:Bool) (w:World):Prop where
 d:∀ j:Nat,j < 800→w.cell? ⟨g,j,none⟩=some (.int .u8 (f j))
 nd:w.cell? ⟨g,800,none⟩=some (.int .i64 nd)
 dp:w.cell? ⟨g,801,none⟩=some (.int .i64 dp)
 neg:w.cell? ⟨g,802,none⟩=some (.bool neg)
 tr:w.cell? ⟨g,803,none⟩=some (.bool tr)
 fz:∀ j:Nat,j < 804→w.frozen? ⟨g,j,none⟩=false
theorem Dc.drewN {g:Nat} {f:Nat→Int} {nd dp:Int} {neg tr:Bool} {w:World} (h:Dc g f nd dp neg tr w) (n:Nat):Dc g f nd dp neg tr (w.drewN n) :=
 ⟨h.d,h.nd,h.dp,h.neg,h.tr,h.fz⟩
theorem k6 (w:World) (g j:Nat) (v u:Value) (h:w.cell? ⟨g,j,none⟩=some u):(w.setCell ⟨g,j,none⟩ v).cell? ⟨g,j,none⟩=some v:=World.cell?_setCell_same w _ v h
theorem vI (w:World) (g i j:Nat) (v:Value) (h:i≠j):(w.setCell ⟨g,i,none⟩ v).cell? ⟨g,j,none⟩=w.cell? ⟨g,j,none⟩:=by
 apply World.cell?_setCell_other
 simp [h]
section
variable {g:Nat} {f:Nat→Int} {nd dp:Int} {neg tr:Bool} {w:World}
theorem Dc.YN (h:Dc g f nd dp neg tr w) (i:Nat) (hi:i < 800) (v:Int):Dc g (fun j=>if j=i then v else f j) nd dp neg tr (w.setCell ⟨g,i,none⟩ (.int .u8 v)) :=
 ⟨fun j hj=>by
   by_cases e:j=i
   ·
    subst e;rw [k6 w g j _ _ (h.d j hj),if_pos rfl]
   ·
    rw [vI w g i j _ (Ne.symm e),if_neg e];exact h.d j hj,
  by rw [vI w g i 800 _ (by omega)];exact h.nd,by rw [vI w g i 801 _ (by omega)];exact h.dp,by rw [vI w g i 802 _ (by omega)];exact h.neg,by rw [vI w g i 803 _ (by omega)];exact h.tr,
  fun j hj=>by simp only [World.frozen?_setCell];exact h.fz j hj⟩
theorem Dc.wM (h:Dc g f nd dp neg tr w) (v:Int):Dc g f v dp neg tr (w.setCell ⟨g,800,none⟩ (.int .i64 v)) :=
 ⟨fun j hj=>by rw [vI w g 800 j _ (by omega)];exact h.d j hj,k6 w g 800 _ _ h.nd,by rw [vI w g 800 801 _ (by omega)];exact h.dp,by rw [vI w g 800 802 _ (by omega)];exact h.neg,by rw [vI w g 800 803 _ (by omega)];exact h.tr,
  fun j hj=>by simp only [World.frozen?_setCell];exact h.fz j hj⟩
theorem Dc.ZT (h:Dc g f nd dp neg tr w) (v:Int):Dc g f nd v neg tr (w.setCell ⟨g,801,none⟩ (.int .i64 v)) :=
 ⟨fun j hj=>by rw [vI w g 801 j _ (by omega)];exact h.d j hj,by rw [vI w g 801 800 _ (by omega)];exact h.nd,k6 w g 801 _ _ h.dp,by rw [vI w g 801 802 _ (by omega)];exact h.neg,by rw [vI w g 801 803 _ (by omega)];exact h.tr,
  fun j hj=>by simp only [World.frozen?_setCell];exact h.fz j hj⟩
theorem Dc.XX (h:Dc g f nd dp neg tr w) (v:Bool):Dc g f nd dp v tr (w.setCell ⟨g,802,none⟩ (.bool v)) :=
 ⟨fun j hj=>by rw [vI w g 802 j _ (by omega)];exact h.d j hj,by rw [vI w g 802 800 _ (by omega)];exact h.nd,by rw [vI w g 802 801 _ (by omega)];exact h.dp,k6 w g 802 _ _ h.neg,by rw [vI w g 802 803 _ (by omega)];exact h.tr,
  fun j hj=>by simp only [World.frozen?_setCell];exact h.fz j hj⟩
theorem Dc.ZD (h:Dc g f nd dp neg tr w) (v:Bool):Dc g f nd dp neg v (w.setCell ⟨g,803,none⟩ (.bool v)) :=
 ⟨fun j hj=>by rw [vI w g 803 j _ (by omega)];exact h.d j hj,by rw [vI w g 803 800 _ (by omega)];exact h.nd,by rw [vI w g 803 801 _ (by omega)];exact h.dp,by rw [vI w g 803 802 _ (by omega)];exact h.neg,k6 w g 803 _ _ h.tr,
  fun j hj=>by simp only [World.frozen?_setCell];exact h.fz j hj⟩
end
def Dg (f:Nat→Int) (nd:Nat):Prop:=1≤nd∧nd≤800∧49≤f 0∧∀ j:Nat,j < nd→48≤f j∧f j≤57
def TR (g:Nat) (f:Nat→Int) (nd:Nat) (dp:Int) (neg tr:Bool) (w:World) (e:Ending) (w':World):Prop :=
 e = .returned (.tuple #[])∧∃ nd':Nat,1≤nd'∧nd'≤nd∧Dc g f nd' dp neg tr w'∧Below g w w'
theorem QA (g:Nat) (f:Nat→Int) (nd:Nat) (dp:Int) (neg tr:Bool) (w:World) (hD:Dc g f nd dp neg tr w) (hf:Dg f nd) :
  Calls Tryz.prog 142 #[.pointer (some ⟨g,0,none⟩)] w (TR g f nd dp neg tr w):=by
 obtain⟨h1,h2,h49,hdg⟩:=hf
 have HD:=Lib.hid hD
 have HF:=Lib.hid hdg
 clear hD hdg
 go_enter Tryz.func142,Tryz.ntmps142
 go_wp2
 go_loopg [] nd (fun k wr=>1≤k∧k≤nd∧Dc g f k dp neg tr wr∧Below g w wr)
 case atStart=>exact⟨h1,Nat.le_refl _,HD.out,Below.refl _ _⟩
 case round =>
  obtain⟨hk1,hk2,hDc,hB⟩:=hrel
  have c800:=hDc.nd
  have c801:=hDc.dp
  have f800:=hDc.fz 800 (by omega)
  have cd:=hDc.d (gk - 1) (by omega)
  have HDc:=Lib.hid hDc
  have HB:=Lib.hid hB
  clear hDc hB
  obtain⟨x,hx⟩:∃ x,x=f (gk - 1):=⟨_,rfl⟩
  rw [← hx] at cd
  have HX:=Lib.hid hx
  clear hx
  have hp:0 < gk:=hk1
  have hp1:(1:Int)≤gk:=by omega
  have hp2:((gk:Int) - 1).toNat=gk - 1:=by omega
  by_cases h48:x=48
  ·
   have hk3:2≤gk:=by
    rcases Nat.lt_or_ge gk 2 with h|h
    ·
     exfalso
     obtain rfl:gk=1:=by omega
     have:=HX.out
     simp at this
     omega
    ·
     exact h
   subst h48
   go_wp2_with fail
   go_quiet (fail)
   go_wp2
   go_roundg (gk - 1)
   case measure=>omega
   case rel =>
    have e:((gk:Int) - 1)=((gk - 1:Nat):Int):=by omega
    refine⟨by omega,by omega,?_,?_⟩
    ·
     first|(rw [e];exact((HDc.out.wM _).drewN _))|(rw [e];exact((HDc.out.drewN _).wM _))
    ·
     first|exact below_drewN (HB.out.setCell (by simp) _) _|exact(below_drewN HB.out _).setCell (by simp) _
  ·
   have hxb:(x == 48)=false:=beq_eq_false_iff_ne.mpr h48
   clear h48
   go_wp2_with fail
   go_quiet (fail)
   go_wp2
   go_end0
   first|exact⟨rfl,gk,hk1,hk2,HDc.out.drewN _,below_drewN HB.out _⟩
end Go.Proofs.YtljhmnnhfnmhmaaGreatDoor.M
set_option maxHeartbeats 4000000
set_option maxRecDepth 100000
namespace Go.Proofs.YtljhmnnhfnmhmaaGreatDoor.M
open Go Go.RowKit Go.Proofs.YtljhmnnhfnmhmaaGreatDoorW.PrintWords
theorem zF7 (K:Nat) (h1:1≤K) (h2:K≤60):(2:Int)≤2 ^ K∧(2:Int) ^ K≤1152921504606846976:=by
 have a:(2:Nat) ^ 1≤2 ^ K:=Nat.pow_le_pow_right (by omega) h1
 have b:(2:Nat) ^ K≤2 ^ 60:=Nat.pow_le_pow_right (by omega) h2
 have e:(2:Int) ^ K=((2 ^ K:Nat):Int):=by simp
 rw [e]
 omega
def R1 (f:Nat→Int) (nd:Nat) (P:Int) (a4 a6:Value):Prop:=∃ (r:Nat) (n:Int),a4 = .int .i64 (r:Int)∧a6 = .int .u64 n∧r≤nd∧0≤n∧n < 10 * P∧(r=0→n=0)∧(r=1→n=f 0 - 48)∧(1≤r→1≤n)
def R1x (f:Nat→Int) (P:Int) (a4 a6:Value):Prop:=∃ (r:Nat) (n:Int),a4 = .int .i64 (r:Int)∧a6 = .int .u64 n∧1≤r∧r≤820∧P≤n∧n < 10 * P∧(r=1→n=f 0 - 48)
def RI (nd:Nat) (P:Int) (a4 a6:Value):Prop:=∃ (a:Nat) (n:Int),a4 = .int .i64 ((nd+a:Nat):Int)∧a6 = .int .u64 n∧1≤n∧n < 10 * P∧(10:Int) ^ a≤n∧(a=0→n < P)
theorem zEz (a:Nat) (n:Int) (h:(10:Int) ^ a≤n) (h2:n < 11529215046068469760):a≤19:=by
 rcases Nat.lt_or_ge 19 a with h3|h3
 ·
  exfalso
  have b:(10:Nat) ^ 20≤10 ^ a:=Nat.pow_le_pow_right (by omega) h3
  have e:(10:Int) ^ a=((10 ^ a:Nat):Int):=by simp
  rw [e] at h
  omega
 ·
  exact h3
theorem VZ {n P:Int} (h0:0≤n) (h:n < P):(n / P == 0)=true:=beq_iff_eq.mpr (Int.ediv_eq_zero_of_lt h0 h)
theorem WE {n P:Int} (hP:0 < P) (h:P≤n):(n / P == 0)=false:=by
 have:1≤n / P:=(Int.le_ediv_iff_mul_le hP).mpr (by omega)
 exact beq_eq_false_iff_ne.mpr (by omega)
theorem Q7 (m:Int) (K:Nat) (h0:0≤m) (h1:m < 18446744073709551616) (hK:K≤60):bits .and .u64 m (2 ^ K - 1)=m % 2 ^ K :=
 bits_mask .u64 64 (by decide) (fun n a b=>by
  have:IntKind.u64.wrap n=n % 18446744073709551616:=by simp [IntKind.wrap,IntKind.bits,IntKind.signed]
  rw [this];omega) K (by omega) m h0 (by omega)
theorem zBx {m P:Int} (hP:0 < P) (h0:0≤m) (h:m < 10 * P):0≤m / P∧m / P≤9:=by
 have a:0≤m / P:=Int.ediv_nonneg h0 (by omega)
 have b:m / P < 10:=(Int.ediv_lt_iff_lt_mul hP).mpr h
 omega
def R2 (g:Nat) (f:Nat→Int) (nd r:Nat) (n P dp:Int) (neg tr:Bool) (w:World) (a4 a5 a6:Value) (wr:World):Prop:=∃ (q a:Nat) (m:Int) (f':Nat→Int),
 a4 = .int .i64 (q:Int)∧a5 = .int .i64 (a:Int)∧a6 = .int .u64 m∧q=r+a∧(q≤nd∨a=0)∧0≤m∧m < 10 * P∧Dc g f' nd dp neg tr wr∧Below g w wr ∧
 (∀ j:Nat,j < a→48≤f' j∧f' j≤57)∧(∀ j:Nat,a≤j→f' j=f j)∧(1≤a→f' 0=48+n / P)∧(a=0→m=n)
theorem zD5 {m:Int} {j K:Nat} (h:(2:Int) ^ j ∣ m) (hj:j≤K):(2:Int) ^ (j+1) ∣ (m % 2 ^ K) * 10:=by
 have h1:(2:Int) ^ j ∣ 2 ^ K:=⟨2 ^ (K - j),by rw [← Int.pow_add];congr 1;omega⟩
 have h2:(2:Int) ^ j ∣ m % 2 ^ K:=by
  rw [Int.emod_def]
  exact Int.dvd_sub h (Int.dvd_mul_of_dvd_left h1)
 obtain⟨c,hc⟩:=h2
 exact⟨c * 5,by rw [hc,Int.pow_succ,show (10:Int)=2 * 5 from rfl];ac_rfl⟩
def R3 (g:Nat) (nd:Int) (K:Nat) (n dp:Int) (neg:Bool) (w:World) (k:Nat) (a5 a6:Value) (wr:World):Prop:=∃ (a j:Nat) (m:Int) (f':Nat→Int) (tr:Bool),
 a5 = .int .i64 (a:Int)∧a6 = .int .u64 m∧a≤800∧0≤m∧m < 10 * 2 ^ K∧Dc g f' nd dp neg tr wr∧Below g w wr ∧
 (∀ j:Nat,j < a→48≤f' j∧f' j≤57)∧(1≤a→f' 0=48+n / 2 ^ K)∧(a=0→m=n)∧j+k=K+1∧(2:Int) ^ j ∣ m∧(k=0→m=0)
def SR (g:Nat) (f:Nat→Int) (dp:Int) (neg:Bool) (w:World) (e:Ending) (w':World):Prop :=
 e = .returned (.tuple #[])∧∃ (f':Nat→Int) (nd':Nat) (dp':Int) (tr':Bool),Dc g f' nd' dp' neg tr' w'∧Dg f' nd'∧Below g w w'∧dp - 820≤dp'∧(dp' < dp∨(dp'=dp∧f' 0 < f 0))
theorem wW (g:Nat) (f:Nat→Int) (nd:Nat) (dp:Int) (neg tr:Bool) (K:Nat) (w:World) (hD:Dc g f nd dp neg tr w) (hf:Dg f nd) (hK1:1≤K) (hK2:K≤60) (hd0:-1000000000≤dp) (hd1:dp≤1000000000) :
  Calls Tryz.prog 144 #[.pointer (some ⟨g,0,none⟩), .int .u64 (K:Int)] w (SR g f dp neg w):=by
 obtain⟨h1,h2,h49,hdg⟩:=hf
 obtain⟨p1,p2⟩:=zF7 K hK1 hK2
 have c800:=hD.nd
 have c801:=hD.dp
 have f801:=hD.fz 801 (by omega)
 have HD:=Lib.hid hD
 have HF:=Lib.hid hdg
 clear hD hdg
 go_enter Tryz.func144,Tryz.ntmps144
 go_upto_block 0 with fail
 go_cut [4,6] (fun a4 a6 wx=>R1x f (2 ^ K) a4 a6∧w=wx)
 case first =>
  go_wp2_with fail
  go_loop [4,6] (fun a4 a6=>R1 f nd (2 ^ K) a4 a6) (fun a4 _=>nd - (intOf a4).toNat)
  case atStart=>exact⟨0,0,rfl,rfl,by omega,by omega,by omega,by omega,by omega,by omega⟩
  case round =>
   obtain⟨r,n,rfl,rfl,hr,hn0,hn1,hr0,hr1,hr2⟩:=hrel
   by_cases hq:n < 2 ^ K
   ·
    have hqb:=VZ hn0 hq
    by_cases hrl:r < nd
    ·
     obtain⟨hc0,hc1⟩:=HF.out r hrl
     have cd:=HD.out.d r (by omega)
     obtain⟨x,hx⟩:∃ x,x=f r:=⟨_,rfl⟩
     rw [← hx] at cd hc0 hc1
     have HX:=Lib.hid hx
     have HR:=Lib.hid (And.intro hr0 (And.intro hr1 hr2))
     clear hx hr0 hr1 hr2
     as_aux_lemma =>
      go_wp2_with fail
      go_round
      case rel =>
       have hx:=HX.out
       obtain⟨hr0,hr1,hr2⟩:=HR.out
       refine⟨r+1,n * 10+x - 48,by go_num,rfl,by omega,by omega,by omega,by omega,fun h=>?_,fun _=>?_⟩
       ·
        have:r=0:=by omega
        subst this
        rw [hx,hr0 rfl]
        omega
       ·
        rcases Nat.eq_zero_or_pos r with h|h
        ·
         subst h;omega
        ·
         have:=hr2 h;omega
      case measure=>simp [intOf];omega
    ·
     obtain rfl:r=nd:=by omega
     have hn1':=hr2 h1
     have hnb:(n == 0)=false:=beq_eq_false_iff_ne.mpr (by omega)
     clear hr0 hr1 hr2
     as_aux_lemma =>
      go_wp2_with fail
      go_loop [4,6] (fun a4 a6=>RI r (2 ^ K) a4 a6) (fun _ a6=>(11529215046068469760 - intOf a6).toNat)
      case atStart=>exact⟨0,n,rfl,rfl,by omega,by omega,by simpa using hn1',fun _=>hq⟩
      case round =>
       obtain⟨a,m,rfl,rfl,hm0,hm1,hm2,hm3⟩:=hrel
       have ha:=zEz a m hm2 (by omega)
       have HM:=Lib.hid (And.intro hm2 hm3)
       clear hm2 hm3
       by_cases hq2:m < 2 ^ K
       ·
        have hqb2:=VZ (by omega) hq2
        go_wp2_with fail
        go_round
        case rel=>exact⟨a+1,m * 10,by go_num,rfl,by omega,by omega,by rw [Int.pow_succ];have:=HM.out.1;omega,by omega⟩
        case measure=>simp [intOf];omega
       ·
        have hqb2:=WE (by omega) (show (2:Int) ^ K≤m by omega)
        go_wp2_with fail
        go_meet
        have hm3:=HM.out.2
        exact⟨⟨r+a,m,rfl,rfl,by omega,by omega,by omega,by omega,fun h=>by omega⟩,rfl⟩
   ·
    have hqb:=WE (by omega) (show (2:Int) ^ K≤n by omega)
    as_aux_lemma =>
     go_wp2_with fail
     go_meet
     exact⟨⟨r,n,rfl,rfl,by omega,by omega,by omega,by omega,fun h=>hr1 h⟩,rfl⟩
 case rest =>
  obtain⟨⟨r,n,rfl,rfl,hr1,hr2,hn0,hn1,hrn⟩,rfl⟩:=hcut
  have HR:=Lib.hid hrn
  clear hrn
  go_upto_block 4 with fail
  go_cut [4,5,6] (fun a4 a5 a6 wx=>R2 g f nd r n (2 ^ K) (dp - (r - 1)) neg tr w a4 a5 a6 wx)
  case first =>
   go_wp2_with fail
   go_loopw [4,5,6] (fun a4 a5 a6 wr=>R2 g f nd r n (2 ^ K) (dp - (r - 1)) neg tr w a4 a5 a6 wr) (fun a4 _ _ _=>nd - (intOf a4).toNat)
   case atStart=>exact⟨r,0,n,f,rfl,rfl,rfl,by omega,by omega,by omega,by omega,HD.out.ZT _,(Below.refl _ _).setCell (by simp) _,by omega,fun _ _=>rfl,by omega,fun _=>rfl⟩
   case round =>
    obtain⟨q,a,m,f',rfl,rfl,rfl,hqa,hqn,hm0,hm1,hDr,hBr,hj1,hj2,hj3,hj4⟩:=hrel
    have HQ:=Lib.hid hqa
    have hqr:a < q∧q≤r+a:=by omega
    obtain⟨hqr1,hqr2⟩:=hqr
    clear hqa
    have c800:=hDr.nd
    have HDr:=Lib.hid hDr
    have HR:=Lib.hid (And.intro hBr (And.intro hj1 (And.intro hj2 (And.intro hj3 hj4))))
    by_cases hql:q < nd
    ·
     have cq:=hDr.d q (by omega)
     rw [hj2 q (by omega)] at cq
     obtain⟨hc0,hc1⟩:=HF.out q hql
     have ca:=hDr.d a (by omega)
     have fa:=hDr.fz a (by omega)
     have hne:¬ 800=a:=by omega
     obtain⟨hg0,hg1⟩:=zBx (by omega) hm0 hm1
     have hb:=Q7 m K hm0 (by omega) hK2
     have hm2:=Int.emod_nonneg m (show (2:Int) ^ K≠0 by omega)
     have hm3:=Int.emod_lt_of_pos m (show (0:Int) < 2 ^ K by omega)
     obtain⟨x,hx⟩:∃ x,x=f q:=⟨_,rfl⟩
     rw [← hx] at cq hc0 hc1
     clear hx hDr hBr hj1 hj2 hj3 hj4 c801 f801
     obtain⟨dg,hdg⟩:∃ dg,m / 2 ^ K=dg:=⟨_,rfl⟩
     obtain⟨md,hmd⟩:∃ md,m % 2 ^ K=md:=⟨_,rfl⟩
     rw [hdg] at hg0 hg1
     rw [hmd] at hb hm2 hm3
     have HG:=Lib.hid hdg
     clear hmd
     as_aux_lemma =>
      go_wp2_with fail
      go_roundw
      case rel =>
       obtain⟨hBr,hj1,hj2,hj3,hj4⟩:=HR.out
       refine⟨q+1,a+1,md * 10+x - 48,_,by go_num,by go_num,rfl,by have:=HQ.out;omega, .inl (by omega),by omega,by omega,HDr.out.YN a (by omega) _,hBr.setCell (by simp) _,?_,?_,?_,by omega⟩
       ·
        intro j hj
        by_cases e:j=a
        ·
         simp only [if_pos e];omega
        ·
         simp only [if_neg e];exact hj1 j (by omega)
       ·
        intro j hj
        simp only [if_neg (show ¬ j=a by omega)]
        exact hj2 j (by omega)
       ·
        intro _
        by_cases e:0=a
        ·
         simp only [if_pos e]
         rw [← hj4 e.symm,HG.out,Int.add_comm]
        ·
         simp only [if_neg e]
         exact hj3 (by omega)
      case measure=>simp [intOf];omega
    ·
     clear hDr hBr hj1 hj2 hj3 hj4
     as_aux_lemma =>
      go_wp2_with fail
      go_meet
      obtain⟨hBr,hj1,hj2,hj3,hj4⟩:=HR.out
      exact⟨q,a,m,f',rfl,rfl,rfl,HQ.out,hqn,hm0,hm1,HDr.out,hBr,hj1,hj2,hj3,hj4⟩
  case rest =>
   obtain⟨q,a,m,f',rfl,rfl,rfl,hqa,hqn,hm0,hm1,hDr,hBr,hj1,hj2,hj3,hj4⟩:=hcut
   clear c800 c801 f801
   have ha:a≤800:=by omega
   have HDr:=Lib.hid hDr
   have HBr:=Lib.hid hBr
   have HJ:=Lib.hid (And.intro hj1 (And.intro hj3 hj4))
   clear hqa hqn hDr hBr hj1 hj2 hj3 hj4
   go_upto_block 6 with fail
   go_cut [5,6] (fun a5 a6 wx=>∃ k,R3 g nd K n (dp - (r - 1)) neg w k a5 a6 wx∧a6 = .int .u64 0)
   case first =>
    go_wp2_with fail
    go_loopg [5,6] (K+1) (fun k a5 a6 wr=>R3 g nd K n (dp - (r - 1)) neg w k a5 a6 wr)
    case atStart =>
     obtain⟨hj1,hj3,hj4⟩:=HJ.out
     exact⟨a,0,m,f',tr,rfl,rfl,ha,hm0,hm1,HDr.out,HBr.out,hj1,hj3,hj4,by omega,by simp,by omega⟩
    case round =>
     obtain⟨a,j,m,f',tr',rfl,rfl,ha,hm0,hm1,hDr,hBr,hj1,hj3,hj4,hjk,hdv,hk0⟩:=hrel
     by_cases hmp:0 < m
     ·
      have hgk:1≤gk:=by
       rcases Nat.eq_zero_or_pos gk with h|h
       ·
        have:=hk0 h;omega
       ·
        exact h
      obtain⟨hg0,hg1⟩:=zBx (by omega) hm0 hm1
      have hb:=Q7 m K hm0 (by omega) hK2
      have hm2:=Int.emod_nonneg m (show (2:Int) ^ K≠0 by omega)
      have hm3:=Int.emod_lt_of_pos m (show (0:Int) < 2 ^ K by omega)
      have hdn:=zD5 hdv (show j≤K by omega)
      have hmz:j=K→m % 2 ^ K=0:=fun e=>Int.emod_eq_zero_of_dvd (e ▸ hdv)
      obtain⟨dg,hdg⟩:∃ dg,m / 2 ^ K=dg:=⟨_,rfl⟩
      obtain⟨md,hmd⟩:∃ md,m % 2 ^ K=md:=⟨_,rfl⟩
      rw [hdg] at hg0 hg1
      rw [hmd] at hb hm2 hm3 hdn hmz
      have HG:=Lib.hid hdg
      have HDr:=Lib.hid hDr
      have HR:=Lib.hid (And.intro hBr (And.intro hj1 (And.intro hj3 (And.intro hj4 (And.intro hjk (And.intro hdn hmz))))))
      by_cases h8:a < 800
      ·
       have ca:=hDr.d a h8
       have fa:=hDr.fz a (by omega)
       clear hmd hDr hBr hj1 hj3 hj4 hjk hdv hk0 hdn hmz
       as_aux_lemma =>
        go_wp2_with fail
        go_roundg (gk - 1)
        case measure=>omega
        case rel =>
         obtain⟨hBr,hj1,hj3,hj4,hjk,hdn,hmz⟩:=HR.out
         refine⟨a+1,j+1,md * 10,_,tr',by go_num,rfl,by omega,by omega,by omega,HDr.out.YN a h8 _,hBr.setCell (by simp) _,?_,?_,by omega,by omega,hdn,fun h=>by rw [hmz (by omega)];rfl⟩
         ·
          intro i hi
          by_cases e:i=a
          ·
           simp only [if_pos e];omega
          ·
           simp only [if_neg e];exact hj1 i (by omega)
         ·
          intro _
          by_cases e:0=a
          ·
           simp only [if_pos e]
           rw [← hj4 e.symm,HG.out,Int.add_comm]
          ·
           simp only [if_neg e]
           exact hj3 (by omega)
      ·
       have c803:=hDr.tr
       have f803:=hDr.fz 803 (by omega)
       clear hmd hDr hBr hj1 hj3 hj4 hjk hdv hk0 hdn hmz
       as_aux_lemma =>
        go_wp2_with fail
        all_goals
         go_roundg (gk - 1)
         case measure=>omega
         case rel =>
          obtain⟨hBr,hj1,hj3,hj4,hjk,hdn,hmz⟩:=HR.out
          first
           | exact⟨a,j+1,md * 10,f',true,rfl,rfl,by omega,by omega,by omega,HDr.out.ZD _,hBr.setCell (by simp) _,hj1,hj3,by omega,by omega,hdn,fun h=>by rw [hmz (by omega)];rfl⟩
           | exact⟨a,j+1,md * 10,f',tr',rfl,rfl,by omega,by omega,by omega,HDr.out,hBr,hj1,hj3,by omega,by omega,hdn,fun h=>by rw [hmz (by omega)];rfl⟩
     ·
      obtain rfl:m=0:=by omega
      have HDr:=Lib.hid hDr
      have HR:=Lib.hid (And.intro hBr (And.intro hj1 (And.intro hj3 (And.intro hj4 (And.intro hjk (And.intro hdv hk0))))))
      clear hDr hBr hj1 hj3 hj4 hjk hdv hk0
      as_aux_lemma =>
       go_wp2_with fail
       go_meet
       obtain⟨hBr,hj1,hj3,hj4,hjk,hdv,hk0⟩:=HR.out
       exact⟨gk,⟨a,j,0,f',tr',rfl,rfl,ha,by omega,by omega,HDr.out,hBr,hj1,hj3,hj4,hjk,hdv,fun _=>rfl⟩,rfl⟩
   case rest =>
    obtain⟨k,⟨a,j,m,f',tr',rfl,he,ha8,hm0,hm1,hDr,hBr,hj1,hj3,hj4,hjk,hdv,hk0⟩,rfl⟩:=hcut
    injection he with _ he
    subst he
    have ha1:1≤a:=by
     rcases Nat.eq_zero_or_pos a with h|h
     ·
      have:=hj4 h;omega
     ·
      exact h
    have hq1:1≤n / 2 ^ K:=(Int.le_ediv_iff_mul_le (by omega)).mpr (by omega)
    have hf0:=hj3 ha1
    have hDg:Dg f' a:=⟨ha1,ha8,by omega,hj1⟩
    have hfin:dp - 820≤dp - (r - 1)∧(dp - ((r:Int) - 1) < dp∨(dp - ((r:Int) - 1)=dp∧f' 0 < f 0)):=by
     refine⟨by omega,?_⟩
     rcases Nat.lt_or_ge 1 r with h|h
     ·
      exact .inl (by omega)
     ·
      obtain rfl:r=1:=by omega
      refine .inr ⟨by omega,?_⟩
      have hn:=HR.out rfl
      have:n / 2 ^ K < n:=Int.ediv_lt_self_of_pos_of_ne_one (by omega) (by omega)
      omega
    have c800:=hDr.nd
    have f800:=hDr.fz 800 (by omega)
    have HDr:=Lib.hid (hDr.wM (a:Int))
    have HB:=Lib.hid (hBr.setCell (p:=⟨g,800,none⟩) (Nat.le_refl _) (.int .i64 (a:Int)))
    have HG:=Lib.hid hDg
    have HFIN:=Lib.hid hfin
    clear hDr hBr hj1 hj3 hj4 hjk hdv hk0 hf0 hDg hfin hq1
    go_wp2_with (go_at_call 142;refine(QA g f' a _ neg tr' _ HDr.out HG.out).mono ?_;rintro e w' ⟨rfl,nd',hn1,hn2,hD2,hB2⟩;have HD2:=Lib.hid hD2;have HB2:=Lib.hid hB2;clear hD2 hB2)
    go_end0
    obtain⟨g1,g2,g3,g4⟩:=HG.out
    exact⟨rfl,f',nd',_,tr',HD2.out,⟨hn1,by omega,g3,fun j hj=>g4 j (by omega)⟩,HB.out.trans HB2.out,HFIN.out.1,HFIN.out.2⟩
end Go.Proofs.YtljhmnnhfnmhmaaGreatDoor.M
namespace Go.Proofs.YtljhmnnhfnmhmaaGreatDoor.Dec
def val:List Nat→Nat
 | []=>0
 | d :: ds=>d * 10 ^ ds.length+val ds
def Z1 (l:List Nat):Prop:=∀ d ∈ l,d < 10
theorem Z1.cons {d:Nat} {l:List Nat} (h:Z1 (d :: l)):d < 10∧Z1 l:=⟨h d (List.mem_cons_self ..),fun x hx=>h x (List.mem_cons_of_mem _ hx)⟩
theorem YS:∀ {l:List Nat},Z1 l→val l < 10 ^ l.length
 | [],_=>by simp [val]
 | d :: l,h=>by
  have h1:=YS h.cons.2
  have h2:=h.cons.1
  simp only [val,List.length_cons,Nat.pow_succ]
  have:d * 10 ^ l.length≤9 * 10 ^ l.length:=Nat.mul_le_mul_right _ (by omega)
  omega
def carry (k:Nat):List Nat→Nat
 | []=>0
 | d :: ds=>(carry k ds+d * 2 ^ k) / 10
theorem XC (k:Nat):∀ l:List Nat,carry k l=val l * 2 ^ k / 10 ^ l.length
 | []=>by simp [carry,val]
 | d :: l=>by
  have hp:0 < 10 ^ l.length:=Nat.pow_pos (by omega)
  rw [carry,XC k l,val,List.length_cons,Nat.pow_succ,← Nat.div_div_eq_div_mul,Nat.add_mul,Nat.add_comm (d * 10 ^ l.length * 2 ^ k),
   show d * 10 ^ l.length * 2 ^ k=d * 2 ^ k * 10 ^ l.length by ac_rfl,Nat.add_mul_div_right _ _ hp]
theorem zD3 (k:Nat) {l:List Nat} (h:Z1 l):carry k l < 2 ^ k:=by
 rw [XC]
 have hp:0 < 10 ^ l.length:=Nat.pow_pos (by omega)
 rw [Nat.div_lt_iff_lt_mul hp,Nat.mul_comm (2 ^ k)]
 exact Nat.mul_lt_mul_of_pos_right (YS h) (Nat.pow_pos (by omega))
def wQ:List Nat→List Nat→Bool
 | _,[]=>false
 | [],_ :: _=>true
 | d :: ds,s :: ss=>if d=s then wQ ds ss else decide (d < s)
def kQ:List Nat→Prop
 | []=>True
 | [s]=>s≠0
 | _ :: s :: l=>kQ (s :: l)
theorem kQ.tail {s:Nat} {l:List Nat} (h:kQ (s :: l)):kQ l:=by
 cases l with
 | nil=>trivial
 | cons t l=>exact h
theorem kQ.pos:∀ {s:Nat} {l:List Nat},kQ (s :: l)→0 < val (s :: l)
 | s,[],h=>by simp only [kQ] at h;simp only [val,List.length_nil,Nat.pow_zero];omega
 | s,t :: l,h=>by
  have:=kQ.pos (s:=t) (l:=l) h
  rw [val];omega
theorem WN:∀ (b s:List Nat),Z1 b→Z1 s→kQ s→(wQ b s=true ↔ val b * 10 ^ s.length < val s * 10 ^ b.length)
 | b,[],hb,hs,hl=>by cases b <;> simp [wQ,val]
 | [],s :: ss,hb,hs,hl=>by
  have:=hl.pos
  simp only [wQ,List.length_nil,Nat.pow_zero,true_iff]
  rw [show val []=0 from rfl];omega
 | d :: b,s :: ss,hb,hs,hl=>by
  have ih:=WN b ss hb.cons.2 hs.cons.2 hl.tail
  have h1:=YS hb.cons.2
  have h2:=YS hs.cons.2
  have hB:0 < 10 ^ b.length:=Nat.pow_pos (by omega)
  have hS:0 < 10 ^ ss.length:=Nat.pow_pos (by omega)
  rw [wQ]
  simp only [val,List.length_cons,Nat.pow_succ]
  generalize hBB:10 ^ b.length=B at *
  generalize hSS:10 ^ ss.length=S at *
  generalize hx:val b=x at *
  generalize hy:val ss=y at *
  have e1:(d * B+x) * (S * 10)=10 * (d * (B * S)+x * S):=by rw [Nat.add_mul,Nat.mul_add];congr 1 <;> ac_rfl
  have e2:(s * S+y) * (B * 10)=10 * (s * (B * S)+y * B):=by rw [Nat.add_mul,Nat.mul_add];congr 1 <;> ac_rfl
  rw [e1,e2]
  have h3:x * S < B * S:=Nat.mul_lt_mul_of_pos_right h1 hS
  have h4:y * B < B * S:=by rw [Nat.mul_comm B S];exact Nat.mul_lt_mul_of_pos_right h2 hB
  by_cases hd:d=s
  ·
   subst hd
   rw [if_pos rfl,ih]
   omega
  ·
   rw [if_neg hd]
   by_cases hlt:d < s
   ·
    have:(d+1) * (B * S)≤s * (B * S):=Nat.mul_le_mul_right _ hlt
    rw [Nat.add_mul] at this
    simp only [hlt,decide_true,true_iff]
    omega
   ·
    have:(s+1) * (B * S)≤d * (B * S):=Nat.mul_le_mul_right _ (by omega)
    rw [Nat.add_mul] at this
    simp only [hlt,decide_false]
    constructor
    ·
     intro h;cases h
    ·
     intro h;omega
def zGr (k δ:Nat) (c:List Nat):Prop:=1≤δ∧10 ^ (δ - 1)≤2 ^ k∧2 ^ k < 10 ^ δ∧c.length+δ=k+1∧val c=5 ^ k∧Z1 c∧kQ c
theorem QO {k δ:Nat} {c l:List Nat} (hr:zGr k δ c) (hl:Z1 l) (hn:l≠[]) (h0:l.headD 0≠0) :
  (wQ l c=true→carry k l < 10 ^ (δ - 1)∧(δ - 1=0∨10 ^ (δ - 1 - 1)≤carry k l))∧(wQ l c=false→carry k l < 10 ^ δ∧10 ^ (δ - 1)≤carry k l):=by
 obtain⟨h1,hlo,hhi,hlen,hval,hcd,hcl⟩:=hr
 have hless:=WN l c hl hcd hcl
 have hX:=YS hl
 have hX0:10 ^ (l.length - 1)≤val l:=by
  cases l with
  | nil=>exact absurd rfl hn
  | cons d l =>
   simp only [List.headD_cons] at h0
   simp only [val,List.length_cons,Nat.add_sub_cancel]
   have:1 * 10 ^ l.length≤d * 10 ^ l.length:=Nat.mul_le_mul_right _ (by omega)
   omega
 have hpos:0 < l.length:=by cases l with
  | nil=>exact absurd rfl hn
  | cons d l=>simp
 have hP:0 < 10 ^ l.length:=Nat.pow_pos (by omega)
 have hC:0 < 10 ^ c.length:=Nat.pow_pos (by omega)
 have h2k:0 < 2 ^ k:=Nat.pow_pos (by omega)
 rw [XC]
 have key:10 ^ (δ - 1) * 10 ^ c.length=2 ^ k * 5 ^ k:=by
  rw [← Nat.pow_add,show δ - 1+c.length=k by omega,← Nat.mul_pow]
 refine⟨fun h=>⟨?_,?_⟩,fun h=>⟨?_,?_⟩⟩
 ·
  have h3:=hless.mp h
  rw [hval] at h3
  rw [Nat.div_lt_iff_lt_mul hP]
  have h4:val l * 10 ^ c.length * 2 ^ k < 5 ^ k * 10 ^ l.length * 2 ^ k:=Nat.mul_lt_mul_of_pos_right h3 h2k
  have h5:5 ^ k * 10 ^ l.length * 2 ^ k=10 ^ (δ - 1) * 10 ^ l.length * 10 ^ c.length:=by
   rw [show 10 ^ (δ - 1) * 10 ^ l.length * 10 ^ c.length=(10 ^ (δ - 1) * 10 ^ c.length) * 10 ^ l.length by ac_rfl,key];ac_rfl
  rw [h5,show val l * 10 ^ c.length * 2 ^ k=val l * 2 ^ k * 10 ^ c.length by ac_rfl] at h4
  exact Nat.lt_of_mul_lt_mul_right h4
 ·
  by_cases hd:δ - 1=0
  ·
   exact .inl hd
  ·
   refine .inr ?_
   rw [Nat.le_div_iff_mul_le hP]
   have e:10 ^ (δ - 1 - 1) * 10 ^ l.length=10 ^ (l.length - 1) * 10 ^ (δ - 1):=by
    rw [← Nat.pow_add,← Nat.pow_add];congr 1;omega
   rw [e]
   exact Nat.mul_le_mul hX0 hlo
 ·
  rw [Nat.div_lt_iff_lt_mul hP]
  calc val l * 2 ^ k < 10 ^ l.length * 2 ^ k:=Nat.mul_lt_mul_of_pos_right hX h2k
   _≤10 ^ l.length * 10 ^ δ:=Nat.mul_le_mul_left _ (Nat.le_of_lt hhi)
   _=10 ^ δ * 10 ^ l.length:=Nat.mul_comm _ _
 ·
  have h3:¬ val l * 10 ^ c.length < val c * 10 ^ l.length:=fun hh=>by rw [hless.mpr hh] at h;cases h
  rw [hval] at h3
  rw [Nat.le_div_iff_mul_le hP]
  have h4:5 ^ k * 10 ^ l.length * 2 ^ k≤val l * 10 ^ c.length * 2 ^ k:=Nat.mul_le_mul_right _ (by omega)
  have h5:5 ^ k * 10 ^ l.length * 2 ^ k=10 ^ (δ - 1) * 10 ^ l.length * 10 ^ c.length:=by
   rw [show 10 ^ (δ - 1) * 10 ^ l.length * 10 ^ c.length=(10 ^ (δ - 1) * 10 ^ c.length) * 10 ^ l.length by ac_rfl,key];ac_rfl
  rw [h5,show val l * 10 ^ c.length * 2 ^ k=val l * 2 ^ k * 10 ^ c.length by ac_rfl] at h4
  exact Nat.le_of_mul_le_mul_right h4 hC
end Go.Proofs.YtljhmnnhfnmhmaaGreatDoor.Dec
set_option maxHeartbeats 1000000
set_option maxRecDepth 100000
namespace Go.Proofs.YtljhmnnhfnmhmaaGreatDoor.M
open Go Go.RowKit Go.Proofs.YtljhmnnhfnmhmaaGreatDoorW.PrintWords
def X5 (f:Nat→Int) (nd:Nat):List Nat:=(List.range nd).map fun j=>(f j - 48).toNat
theorem kJ (f:Nat→Int) (nd:Nat):(X5 f nd).length=nd:=by simp [X5]
theorem XF (f:Nat→Int) (nd i:Nat) (h:i < nd):(X5 f nd).drop i=(f i - 48).toNat :: (X5 f nd).drop (i+1):=by
 rw [List.drop_eq_getElem_cons (by rw [kJ];exact h)]
 simp [X5]
def zA7 (s:ByteArray) (c:List Nat):Prop:=s.size=c.length∧∀ j:Nat,∀ h:j < c.length,bn s j=48+(c[j]:Int)
def PL (b:Bool) (w:World) (e:Ending) (w':World):Prop:=e = .returned (.bool b)∧∃ n,w'=w.drewN n
def PRel (f:Nat→Int) (nd:Nat) (c:List Nat) (w:World) (a5:Value) (wr:World):Prop:=∃ i n:Nat,a5 = .int .i64 (i:Int)∧wr=w.drewN n∧i≤nd∧i≤c.length∧Dec.wQ ((X5 f nd).drop i) (c.drop i)=Dec.wQ (X5 f nd) c
theorem Q6 {l c:List Nat} {i:Nat} {x z:Int} {y:Nat} {L:Bool} (h1:l.drop i=(x - 48).toNat :: l.drop (i+1)) (h2:c.drop i=y :: c.drop (i+1)) (hL:Dec.wQ (l.drop i) (c.drop i)=L) (hz:z=48+(y:Int)) (hx:48≤x) :
  (x=z→Dec.wQ (l.drop (i+1)) (c.drop (i+1))=L)∧(¬ x=z→decide (x < z)=L):=by
 rw [h1,h2,Dec.wQ] at hL
 constructor
 ·
  intro h
  rwa [if_pos (by omega)] at hL
 ·
  intro h
  rw [if_neg (by omega)] at hL
  rw [← hL]
  simp only [decide_eq_decide]
  omega
theorem zEo {l c:List Nat} {i:Nat} {L:Bool} (h1:l.length≤i) (h2:i < c.length) (hL:Dec.wQ (l.drop i) (c.drop i)=L):true=L:=by
 rw [← hL,List.drop_eq_nil_of_le h1,List.drop_eq_getElem_cons h2]
 rfl
theorem zEn {l c:List Nat} {i:Nat} {L:Bool} (h2:c.length≤i) (hL:Dec.wQ (l.drop i) (c.drop i)=L):false=L:=by
 rw [← hL,List.drop_eq_nil_of_le h2]
 cases l.drop i <;> rfl
theorem KJ (g:Nat) (f:Nat→Int) (nd:Nat) (s:ByteArray) (c:List Nat) (w:World) (hd:∀ j:Nat,j < nd→w.cell? ⟨g,j,none⟩=some (.int .u8 (f j))) (hnd:nd≤800) (hf:∀ j:Nat,j < nd→48≤f j∧f j≤57)
  (hs:zA7 s c) (hsl:s.size≤100):Calls Tryz.prog 166 #[.slice (some ⟨g,0,none⟩) nd 800, .string s] w (PL (Dec.wQ (X5 f nd) c) w):=by
 obtain⟨hsz,hsp⟩:=hs
 have hb:=vP s
 have HD:=Lib.hid hd
 have HF:=Lib.hid hf
 have HS:=Lib.hid hsp
 have hz1:s.size≤c.length:=by omega
 have hz2:c.length≤s.size:=by omega
 clear hd hf hsp hsz
 go_enter Tryz.func166,Tryz.ntmps166
 go_wp2_with fail
 go_loopw [5] (fun a5 wr=>PRel f nd c w a5 wr) (fun a5 _=>s.size - (intOf a5).toNat)
 case atStart=>exact⟨0,0,rfl,rfl,by omega,by omega,by simp⟩
 case round =>
  obtain⟨i,n,rfl,rfl,hi,hic,hL⟩:=hrel
  have HL:=Lib.hid hL
  clear hL
  by_cases hil:i < s.size
  ·
   have hcd:c.drop i=c[i]'(by omega) :: c.drop (i+1):=List.drop_eq_getElem_cons (by omega)
   have hbi:=HS.out i (by omega)
   have HC:=Lib.hid hcd
   clear hcd
   by_cases hin:i < nd
   ·
    have cd:=HD.out i hin
    obtain⟨hf0,hf1⟩:=HF.out i hin
    have HDD:=Lib.hid (XF f nd i hin)
    obtain⟨x,hx⟩:∃ x,x=f i:=⟨_,rfl⟩
    obtain⟨y,hy⟩:∃ y,y=c[i]'(by omega):=⟨_,rfl⟩
    obtain⟨z,hz⟩:∃ z,z=bn s i:=⟨_,rfl⟩
    rw [← hy] at hbi
    rw [← hx] at cd hf0 hf1
    have HX:=Lib.hid (And.intro hx (And.intro hy (And.intro hz hbi)))
    clear hx hy hz hbi
    by_cases he:x=bn s i
    ·
     have hne:(x != bn s i)=false:=by rw [he];simp
     have HE:=Lib.hid he
     clear he
     as_aux_lemma =>
      go_wp2_with fail
      go_quiet (fail)
      go_wp2_with fail
      go_roundw
      case rel =>
       obtain⟨hx,hy,hz,hbi⟩:=HX.out
       have:=(Q6 (z:=bn s i) (by rw [hx];exact HDD.out) (by rw [hy];exact HC.out) HL.out hbi hf0).1 HE.out
       exact⟨i+1,_,by go_num,rfl,by omega,by omega,this⟩
      case measure=>simp [intOf];omega
    ·
     have hne:(x != bn s i)=true:=bne_iff_ne.mpr he
     have HE:=Lib.hid he
     clear he
     as_aux_lemma =>
      go_wp2_with fail
      go_quiet (fail)
      go_wp2_with fail
      go_quiet (fail)
      go_wp2_with fail
      go_ret
      obtain⟨hx,hy,hz,hbi⟩:=HX.out
      have h2:=(Q6 (z:=bn s i) (by rw [hx];exact HDD.out) (by rw [hy];exact HC.out) HL.out hbi hf0).2 HE.out
      exact⟨by rw [← h2];rfl,_,by rw [World.drewN_drewN,World.drewN_drewN]⟩
   ·
    as_aux_lemma =>
     go_wp2_with fail
     go_ret
     have h2:=zEo (by rw [kJ];omega) (by omega) HL.out
     exact⟨by rw [← h2];rfl,_,rfl⟩
  ·
   as_aux_lemma =>
    go_wp2_with fail
    go_ret
    have h2:=zEn (by omega) HL.out
    exact⟨by rw [← h2];rfl,_,rfl⟩
end Go.Proofs.YtljhmnnhfnmhmaaGreatDoor.M
