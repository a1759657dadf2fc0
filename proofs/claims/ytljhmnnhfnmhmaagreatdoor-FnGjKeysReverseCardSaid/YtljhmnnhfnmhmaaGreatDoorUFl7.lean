/-
Lemmas of this claim; made short by a program of this work.
-/
import Derived.Test.YtljhmnnhfnmhmaaGreatDoorUM9
import Derived.Test.YtljhmnnhfnmhmaaGreatDoorUM0
set_option linter.unusedVariables false
set_option linter.unusedSimpArgs false
set_option maxHeartbeats 4000000
set_option maxRecDepth 100000
namespace Go.Proofs.YtljhmnnhfnmhmaaGreatDoor.M
open Go Go.RowKit Go.Proofs.YtljhmnnhfnmhmaaGreatDoorW.PrintWords
def KU (b o c:Nat) (w:World):Prop:=w.cell? ⟨10,0,none⟩=some (.slice (some ⟨b,o,none⟩) 61 c) ∧
 ∀ k:Nat,1≤k→k≤60→∃ (δ:Nat) (s:ByteArray) (l:List Nat),w.cell? ⟨b,o+k * 2,none⟩=some (.int .i64 (δ:Int))∧w.cell? ⟨b,o+k * 2+1,none⟩=some (.string s)∧zA7 s l∧Dec.zGr k δ l∧δ≤20∧s.size≤100
theorem zAp (g nd:Nat) (h:nd≤800) (w:World):(Instr.sliceAt 141 (.pointer (some ⟨g,0,none⟩)) (some (.int .i64 0)) (some (.int .i64 (nd:Int))) none).run Tryz.prog w = .ok (.slice (some ⟨g,0,none⟩) nd 800) w:=by
 have hl:Tryz.prog.arrayLen 141=800:=by kernel_rfl
 have hz:∀ w,(sizeOf (Tryz.prog.elem 141)).run Tryz.prog w = .ok 1 w:=fun w=>by kernel_rfl
 rw [run_sliceAt_array_lh w 141 ⟨g,0,none⟩ (by kernel_rfl) .i64 .i64 0 (nd:Int) (by omega) (by omega) (by rw [hl];omega),hz,hl]
 simp [slicedAt,Result.andThen,Addr.add]
def L1 (g:Nat) (f:Nat→Int) (nd Δ K:Nat) (dp:Int) (neg:Bool) (w:World) (a5 a6 a7:Value) (wr:World):Prop:=∃ (i:Nat) (r v m:Int) (f':Nat→Int) (tr:Bool),
 a5 = .int .i64 r∧a6 = .int .i64 v∧a7 = .int .u64 m∧r=(i:Int) - 1∧v=(i:Int)+Δ∧i≤nd∧m=(Dec.carry K ((X5 f nd).drop i):Int)∧Dc g f' nd dp neg tr wr∧Below g w wr ∧
 (∀ j:Nat,j < i→f' j=f j)∧(∀ j:Nat,i+Δ≤j→j < nd+Δ→j < 800→48≤f' j∧f' j≤57)∧(Δ=0→i < nd→f' i=48+(((Dec.carry K ((X5 f nd).drop (i+1)):Int)+(f i - 48) * 2 ^ K)) % 10)
def L2 (g:Nat) (f:Nat→Int) (nd Δ:Nat) (dp:Int) (neg:Bool) (w:World) (a6 a7:Value) (wr:World):Prop:=∃ (v:Nat) (m:Int) (f':Nat→Int) (tr:Bool),
 a6 = .int .i64 (v:Int)∧a7 = .int .u64 m∧v≤Δ∧0≤m∧m < 1152921504606846976∧m < 10 ^ v∧(v=0∨(10:Int) ^ (v - 1)≤m)∧Dc g f' nd dp neg tr wr∧Below g w wr ∧
 (∀ j:Nat,v≤j→j < nd+Δ→j < 800→48≤f' j∧f' j≤57)∧(v=0→49≤f' 0∧(Δ=0→f 0 < f' 0))
theorem zBv {f:Nat→Int} {nd:Nat} (h:∀ j:Nat,j < nd→48≤f j∧f j≤57):Dec.Z1 (X5 f nd):=by
 intro d hd
 simp only [X5,List.mem_map,List.mem_range] at hd
 obtain⟨j,hj,rfl⟩:=hd
 have:=h j hj
 omega
theorem zBw {l:List Nat} (h:Dec.Z1 l) (n:Nat):Dec.Z1 (l.drop n):=fun d hd=>h d (List.mem_of_mem_drop hd)
theorem VY (f:Nat→Int) (nd K i:Nat) (hi:i < nd) (h:48≤f i):(Dec.carry K ((X5 f nd).drop i):Int)=((Dec.carry K ((X5 f nd).drop (i+1)):Int)+(f i - 48) * 2 ^ K) / 10:=by
 rw [XF f nd i hi,Dec.carry]
 have e:(((f i - 48).toNat:Nat):Int)=f i - 48:=Int.toNat_of_nonneg (by omega)
 rw [← e]
 simp
theorem QP {f:Nat→Int} {nd:Nat} (h:∀ j:Nat,j < nd→48≤f j∧f j≤57) (K n:Nat):(Dec.carry K ((X5 f nd).drop n):Int) < 2 ^ K:=by
 have:=Dec.zD3 K (zBw (zBv h) n)
 have e:(2:Int) ^ K=((2 ^ K:Nat):Int):=by simp
 rw [e]
 omega
theorem zF9 (x:Int) (K:Nat) (h0:48≤x) (h1:x≤57):0≤(x - 48) * 2 ^ K∧(x - 48) * 2 ^ K≤9 * 2 ^ K:=by
 have hp:(0:Int) < 2 ^ K:=Int.pow_pos (by omega)
 exact⟨Int.mul_nonneg (by omega) (by omega),Int.mul_le_mul_of_nonneg_right (by omega) (by omega)⟩
def SL (g:Nat) (f:Nat→Int) (dp:Int) (neg:Bool) (w:World) (e:Ending) (w':World):Prop :=
 e = .returned (.tuple #[])∧∃ (f':Nat→Int) (nd':Nat) (dp':Int) (tr':Bool),Dc g f' nd' dp' neg tr' w'∧Dg f' nd'∧Below g w w'∧dp'≤dp+20∧(dp < dp'∨(dp'=dp∧f 0 < f' 0))
theorem JS (g:Nat) (f:Nat→Int) (nd:Nat) (dp:Int) (neg tr:Bool) (K:Nat) (b o c:Nat) (w:World) (hD:Dc g f nd dp neg tr w) (hf:Dg f nd) (hK1:1≤K) (hK2:K≤60) (hd0:-1000000000≤dp) (hd1:dp≤1000000000)
  (hC:KU b o c w) (hbg:b < g) (h10:10 < g) :
  Calls Tryz.prog 143 #[.pointer (some ⟨g,0,none⟩), .int .u64 (K:Int)] w (SL g f dp neg w):=by
 obtain⟨h1,h2,h49,hdg⟩:=hf
 obtain⟨hcs,hcr⟩:=hC
 obtain⟨δ,s,l,ht0,ht1,hsp,hrow,hδ,hss⟩:=hcr K hK1 hK2
 clear hcr
 have c800:=hD.nd
 have HD:=Lib.hid hD
 have HF:=Lib.hid hdg
 have HS:=Lib.hid (And.intro hsp hrow)
 clear hD hdg hsp hrow
 go_enter Tryz.func143,Tryz.ntmps143
 have hsl:=zAp g nd h2
 go_wp2_with fail
 go_quiet ((go_at_call 166;exact Calls.quiet_of (KJ g f nd s l _ (fun j hj=>HD.out.d j (by omega)) h2 HF.out HS.out.1 hss)))
 go_upto_if 30 with fail
 obtain⟨L,hL⟩:∃ L,L=Dec.wQ (X5 f nd) l:=⟨_,rfl⟩
 rw [← hL]
 have hne:X5 f nd≠[]:=by intro h;have:=kJ f nd;rw [h] at this;simp at this;omega
 have hhd:(X5 f nd).headD 0≠0:=by
  have:=XF f nd 0 (by omega)
  rw [List.drop_zero] at this
  rw [this]
  simp only [List.headD_cons]
  omega
 have hcd:=Dec.QO HS.out.2 (zBv HF.out) hne hhd
 have hδ1:1≤δ:=HS.out.2.1
 have HCD:∃ Δ:Nat,Δ≤20∧(L=true→(Δ:Int)=δ - 1)∧(L=false→Δ=δ)∧Dec.carry K (X5 f nd) < 10 ^ Δ∧(Δ=0∨10 ^ (Δ - 1)≤Dec.carry K (X5 f nd)):=by
  cases L
  ·
   obtain⟨a,b⟩:=hcd.2 hL.symm
   exact⟨δ,hδ,by simp,by simp,a, .inr b⟩
  ·
   obtain⟨a,b⟩:=hcd.1 hL.symm
   exact⟨δ - 1,by omega,fun _=>by omega,by simp,a,b⟩
 obtain⟨Δ,hΔ,hΔ1,hΔ2,hc1,hc2⟩:=HCD
 have HCC:=Lib.hid (And.intro hc1 hc2)
 have HLL:=Lib.hid hL
 clear hcd hne hhd hc1 hc2 hL
 go_cut [4] (fun a4 wx=>a4 = .int .i64 (Δ:Int)∧Below g w wx∧∃ n,wx=w.drewN n)
 case first =>
  as_aux_lemma =>
   cases L
   ·
    have:=hΔ2 rfl
    subst this
    clear hΔ1 hΔ2
    go_wp2_with fail
    go_meet
    exact⟨rfl,below_drewN (Below.refl _ _) _,_,rfl⟩
   ·
    have h5:=hΔ1 rfl
    clear hΔ1 hΔ2
    go_wp2_with fail
    go_meet
    exact⟨by rw [h5],below_drewN (Below.refl _ _) _,_,rfl⟩
 case rest =>
  obtain⟨rfl,_,n,rfl⟩:=hcut
  clear hΔ1 hΔ2 HLL HS
  obtain⟨p1,p2⟩:=zF7 K hK1 hK2
  go_upto_block 0 with fail
  go_cut [5,6,7] (fun a5 a6 a7 wx=>L1 g f nd Δ K dp neg w a5 a6 a7 wx∧a5 = .int .i64 (-1))
  case first =>
   go_wp2_with fail
   go_loopw [5,6,7] (fun a5 a6 a7 wr=>L1 g f nd Δ K dp neg w a5 a6 a7 wr) (fun a5 _ _ _=>(intOf a5+1).toNat)
   case atStart=>exact⟨nd,nd - 1,nd+Δ,0,f,tr,rfl,rfl,rfl,rfl,rfl,by omega,by rw [List.drop_eq_nil_of_le (by rw [kJ];omega)];rfl,HD.out.drewN _,below_drewN (Below.refl _ _) _,fun _ _=>rfl,by omega,by omega⟩
   case round =>
    obtain⟨i,r,v,m,f',tr',rfl,rfl,rfl,hr,hv,hi,hm,hDr,hBr,hj1,hj2,hj3⟩:=hrel
    rcases i with _|i
    ·
     obtain rfl:r = -1:=by omega
     have HR:=Lib.hid (And.intro hv (And.intro hm (And.intro hDr (And.intro hBr (And.intro hj1 (And.intro hj2 hj3))))))
     clear hr hv hm hDr hBr hj1 hj2 hj3
     as_aux_lemma =>
      go_wp2_with fail
      go_meet
      obtain⟨hv,hm,hDr,hBr,hj1,hj2,hj3⟩:=HR.out
      exact⟨⟨0,-1,v,m,f',tr',rfl,rfl,rfl,by omega,hv,hi,hm,hDr,hBr,hj1,hj2,hj3⟩,rfl⟩
    ·
     obtain⟨u,hu⟩:∃ u:Nat,u=i+Δ:=⟨_,rfl⟩
     obtain rfl:r=(i:Int):=by omega
     obtain rfl:v=(u:Int)+1:=by omega
     have hu820:u≤820:=by omega
     have ci:=hDr.d i (by omega)
     rw [hj1 i (by omega)] at ci
     obtain⟨hx0,hx1⟩:=HF.out i (by omega)
     have hcs:=VY f nd K i (by omega) hx0
     have hm0:0≤m:=by omega
     have hm1:m < 2 ^ K:=by rw [hm];exact QP HF.out K _
     obtain⟨hy0,hy1⟩:=zF9 (f i) K hx0 hx1
     obtain⟨x,hx⟩:∃ x,f i=x:=⟨_,rfl⟩
     rw [hx] at ci hx0 hx1 hcs hy0 hy1
     obtain⟨y,hy⟩:∃ y,(x - 48) * 2 ^ K=y:=⟨_,rfl⟩
     rw [hy] at hcs hy0 hy1
     rw [← hm] at hcs
     obtain⟨z,hz⟩:∃ z,m+y=z:=⟨_,rfl⟩
     rw [hz] at hcs
     have hz0:0≤z:=by omega
     have hz1:z < 10 * 2 ^ K:=by omega
     have hdm:=Int.mul_ediv_add_emod z 10
     have hq0:0≤z / 10:=by omega
     have hq1:10 * (z / 10)≤z:=by omega
     have hre:z - 10 * (z / 10)=z % 10:=by omega
     have HDr:=Lib.hid hDr
     have HR:=Lib.hid (And.intro hm (And.intro hBr (And.intro hj1 (And.intro hj2 (And.intro hj3 (And.intro hcs (And.intro hx (And.intro hy (And.intro hz hu)))))))))
     obtain⟨ρ,hρ⟩:∃ ρ,z % 10=ρ:=⟨_,rfl⟩
     have hρ0:0≤ρ:=by omega
     have hρ1:ρ≤9:=by omega
     rw [hρ] at hre
     have HP:=Lib.hid hρ
     clear hm hBr hj1 hj2 hj3 hcs hx hu hdm hr hv hρ
     by_cases h8:u < 800
     ·
      have cu:=hDr.d u h8
      have fu:=hDr.fz u (by omega)
      clear hDr
      as_aux_lemma =>
       go_wp2_with fail
       go_roundw
       case rel =>
        obtain⟨hm,hBr,hj1,hj2,hj3,hcs,hx,hy,hz,hu⟩:=HR.out
        refine⟨i,(i:Int) - 1,u,z / 10,_,tr',rfl,rfl,rfl,rfl,by omega,by omega,by rw [hcs],HDr.out.YN u h8 _,hBr.setCell (by simp) _,?_,?_,?_⟩
        ·
         intro j hj
         simp only [if_neg (show ¬ j=u by omega)]
         exact hj1 j (by omega)
        ·
         intro j h1 h2 h3
         by_cases e:j=u
         ·
          simp only [if_pos e];omega
         ·
          simp only [if_neg e];exact hj2 j (by omega) h2 h3
        ·
         intro h1 h2
         have e:i=u:=by omega
         simp only [if_pos e]
         rw [← hm,hx,hy,hz,HP.out,Int.add_comm]
       case measure=>first|(simp [intOf];done)|(simp [intOf];omega)
     ·
      have c803:=hDr.tr
      have f803:=hDr.fz 803 (by omega)
      clear hDr
      as_aux_lemma =>
       go_wp2_with fail
       all_goals
        go_roundw
        case rel =>
         obtain⟨hm,hBr,hj1,hj2,hj3,hcs,hx,hy,hz,hu⟩:=HR.out
         have hj2':∀ j:Nat,i+Δ≤j→j < nd+Δ→j < 800→48≤f' j∧f' j≤57:=fun j h1 h2 h3=>hj2 j (by omega) h2 h3
         first
          | exact⟨i,(i:Int) - 1,u,z / 10,f',true,rfl,rfl,rfl,rfl,by omega,by omega,by rw [hcs],HDr.out.ZD _,hBr.setCell (by simp) _,fun j hj=>hj1 j (by omega),hj2',by omega⟩
          | exact⟨i,(i:Int) - 1,u,z / 10,f',tr',rfl,rfl,rfl,rfl,by omega,by omega,by rw [hcs],HDr.out,hBr,fun j hj=>hj1 j (by omega),hj2',by omega⟩
        case measure=>first|(simp [intOf];done)|(simp [intOf];omega)
  case rest =>
   obtain⟨⟨i,r,v,m,f',tr',rfl,rfl,rfl,hr,hv,hi,hm,hDr,hBr,hj1,hj2,hj3⟩,he⟩:=hcut
   injection he with _ he
   obtain rfl:i=0:=by omega
   obtain rfl:v=(Δ:Int):=by omega
   rw [List.drop_zero] at hm
   have hcl:=QP HF.out K 0
   rw [List.drop_zero,← hm] at hcl
   have hm0:0≤m:=by omega
   obtain⟨hc1,hc2⟩:=HCC.out
   have e10:∀ q:Nat,((10 ^ q:Nat):Int)=(10:Int) ^ q:=fun q=>by simp
   have hmΔ:m < 10 ^ Δ:=by rw [← e10,hm];exact Int.ofNat_lt.mpr hc1
   have hmΔ2:Δ=0∨(10:Int) ^ (Δ - 1)≤m:=hc2.imp id (fun h=>by rw [← e10,hm];exact Int.ofNat_le.mpr h)
   have hF0:Δ=0→49≤f' 0∧(Δ=0→f 0 < f' 0):=by
    intro h
    have h3:=hj3 h (by omega)
    have hx:=HF.out 0 (by omega)
    have hcs:=VY f nd K 0 (by omega) hx.1
    rw [List.drop_zero,← hm] at hcs
    subst h
    have hm00:m=0:=by omega
    obtain⟨hy0,hy1⟩:=zF9 (f 0) K hx.1 hx.2
    have hy2:(f 0 - 48) * 2≤(f 0 - 48) * 2 ^ K:=Int.mul_le_mul_of_nonneg_left p1 (by omega)
    have hcp:=Int.natCast_nonneg (Dec.carry K ((X5 f nd).drop (0+1)))
    generalize (Dec.carry K ((X5 f nd).drop (0+1)):Int)=q at hcs h3 hcp
    generalize (f 0 - 48) * 2 ^ K=y at *
    have:q+y < 10:=by omega
    have h4:f' 0=48+(q+y):=by rw [h3];omega
    exact⟨by omega,fun _=>by omega⟩
   have hj2':∀ j:Nat,Δ≤j→j < nd+Δ→j < 800→48≤f' j∧f' j≤57:=fun j h1 h2 h3=>hj2 j (by omega) h2 h3
   have HS:=Lib.hid (show L2 g f nd Δ dp neg w (.int .i64 (Δ:Int)) (.int .u64 m) wc from ⟨Δ,m,f',tr',rfl,rfl,Nat.le_refl _,hm0,by omega,hmΔ,hmΔ2,hDr,hBr,hj2',hF0⟩)
   clear hcl hc1 hc2 hmΔ hmΔ2 hF0 hj2' hm hDr hBr hj1 hj2 hj3 e10 hr hv he
   go_upto_block 2 with fail
   go_cut [6,7] (fun a6 a7 wx=>L2 g f nd Δ dp neg w a6 a7 wx∧a7 = .int .u64 0)
   case first =>
    go_wp2_with fail
    go_loopw [6,7] (fun a6 a7 wr=>L2 g f nd Δ dp neg w a6 a7 wr) (fun a6 _ _=>(intOf a6).toNat)
    case atStart=>exact HS.out
    case round =>
     obtain⟨v,m,f',tr',rfl,rfl,hv,hm0,hm1,hmv,hmv2,hDr,hBr,hj1,hj2⟩:=hrel
     by_cases hmp:0 < m
     ·
      rcases v with _|u
      ·
       exfalso
       simp at hmv
       omega
      ·
       have hu820:u≤820:=by omega
       have hdm:=Int.mul_ediv_add_emod m 10
       have hq0:0≤m / 10:=by omega
       have hq1:10 * (m / 10)≤m:=by omega
       have hre:m - 10 * (m / 10)=m % 10:=by omega
       have hnx:m / 10 < 10 ^ u:=by rw [Int.pow_succ] at hmv;omega
       have hnx2:u=0∨(10:Int) ^ (u - 1)≤m / 10:=by
        rcases u with _|u
        ·
         exact .inl rfl
        ·
         rcases hmv2 with h|h
         ·
          omega
         ·
          simp only [Nat.add_sub_cancel] at h
          rw [Int.pow_succ] at h
          simp only [Nat.add_sub_cancel]
          exact .inr (by omega)
       have hm9:u=0→m % 10=m:=by
        rintro rfl
        simp at hmv
        omega
       obtain⟨ρ,hρ⟩:∃ ρ,m % 10=ρ:=⟨_,rfl⟩
       have hρ0:0≤ρ:=by omega
       have hρ1:ρ≤9:=by omega
       rw [hρ] at hre hm9
       have HDr:=Lib.hid hDr
       have HR:=Lib.hid (And.intro hBr (And.intro hj1 (And.intro hj2 (And.intro hnx (And.intro hnx2 hm9)))))
       clear hBr hj1 hj2 hnx hnx2 hm9 hρ hdm hmv hmv2
       by_cases h8:u < 800
       ·
        have cu:=hDr.d u h8
        have fu:=hDr.fz u (by omega)
        clear hDr
        as_aux_lemma =>
         go_wp2_with fail
         go_roundw
         case rel =>
          obtain⟨hBr,hj1,hj2,hnx,hnx2,hm9⟩:=HR.out
          refine⟨u,m / 10,_,tr',rfl,rfl,by omega,hq0,by omega,hnx,hnx2,HDr.out.YN u h8 _,hBr.setCell (by simp) _,?_,?_⟩
          ·
           intro j h1 h2 h3
           by_cases e:j=u
           ·
            simp only [if_pos e];omega
           ·
            simp only [if_neg e];exact hj1 j (by omega) h2 h3
          ·
           intro h
           subst h
           simp only [if_pos]
           have:=hm9 rfl
           exact⟨by omega,fun h=>by omega⟩
         case measure=>first|(simp [intOf];done)|(simp [intOf];omega)
       ·
        have c803:=hDr.tr
        have f803:=hDr.fz 803 (by omega)
        clear hDr
        as_aux_lemma =>
         go_wp2_with fail
         all_goals
          go_roundw
          case rel =>
           obtain⟨hBr,hj1,hj2,hnx,hnx2,hm9⟩:=HR.out
           have hj1':∀ j:Nat,u≤j→j < nd+Δ→j < 800→48≤f' j∧f' j≤57:=fun j h1 h2 h3=>by omega
           first
            | exact⟨u,m / 10,f',true,rfl,rfl,by omega,hq0,by omega,hnx,hnx2,HDr.out.ZD _,hBr.setCell (by simp) _,hj1',by omega⟩
            | exact⟨u,m / 10,f',tr',rfl,rfl,by omega,hq0,by omega,hnx,hnx2,HDr.out,hBr,hj1',by omega⟩
          case measure=>first|(simp [intOf];done)|(simp [intOf];omega)
     ·
      obtain rfl:m=0:=by omega
      have HR:=Lib.hid (And.intro hmv (And.intro hmv2 (And.intro hDr (And.intro hBr (And.intro hj1 hj2)))))
      clear hmv hmv2 hDr hBr hj1 hj2
      as_aux_lemma =>
       go_wp2_with fail
       go_meet
       obtain⟨hmv,hmv2,hDr,hBr,hj1,hj2⟩:=HR.out
       exact⟨⟨v,0,f',tr',rfl,rfl,hv,by omega,by omega,hmv,hmv2,hDr,hBr,hj1,hj2⟩,rfl⟩
   case rest =>
    obtain⟨⟨v,m,f',tr',rfl,rfl,hv,hm0,hm1,hmv,hmv2,hDr,hBr,hj1,hj2⟩,he⟩:=hcut
    injection he with _ he
    subst he
    obtain rfl:v=0:=by
     rcases hmv2 with h|h
     ·
      exact h
     ·
      have:(0:Int) < 10 ^ (v - 1):=Int.pow_pos (by omega)
      omega
    obtain⟨h49',hlt⟩:=hj2 rfl
    obtain⟨N,hN⟩:∃ N:Nat,N=min (nd+Δ) 800:=⟨_,rfl⟩
    have hDg:Dg f' N:=⟨by omega,by omega,h49',fun j hj=>hj1 j (by omega) (by omega) (by omega)⟩
    have hfin:dp+Δ≤dp+20∧(dp < dp+(Δ:Int)∨(dp+(Δ:Int)=dp∧f 0 < f' 0)):=by
     refine⟨by omega,?_⟩
     rcases Nat.eq_zero_or_pos Δ with h|h
     ·
      exact .inr ⟨by omega,hlt h⟩
     ·
      exact .inl (by omega)
    have c800:=hDr.nd
    have f800:=hDr.fz 800 (by omega)
    have c801:=hDr.dp
    have f801:=hDr.fz 801 (by omega)
    have HDr:=Lib.hid hDr
    have HB:=Lib.hid hBr
    have HG:=Lib.hid hDg
    have HFIN:=Lib.hid hfin
    clear hDr hBr hj1 hj2 h49' hlt hDg hfin hmv hmv2
    by_cases h8:800≤nd+Δ
    ·
     obtain rfl:N=800:=by omega
     clear hN
     as_aux_lemma =>
      go_wp2_with (go_at_call 142;refine(QA g f' 800 _ neg tr' _ (by first|exact((HDr.out.wM _).wM _).ZT _|exact(HDr.out.wM _).ZT _) HG.out).mono ?_;rintro e w' ⟨rfl,nd',hn1,hn2,hD2,hB2⟩;have HD2:=Lib.hid hD2;have HB2:=Lib.hid hB2;clear hD2 hB2)
      go_end0
      obtain⟨g1,g2,g3,g4⟩:=HG.out
      exact⟨rfl,f',nd',_,tr',HD2.out,⟨hn1,by omega,g3,fun j hj=>g4 j (by omega)⟩,(by first|exact(((HB.out.setCell (by simp) _).setCell (by simp) _).setCell (by simp) _).trans HB2.out|exact((HB.out.setCell (by simp) _).setCell (by simp) _).trans HB2.out),HFIN.out.1,HFIN.out.2⟩
    ·
     obtain rfl:N=nd+Δ:=by omega
     clear hN
     as_aux_lemma =>
      go_wp2_with (go_at_call 142;refine(QA g f' (nd+Δ) _ neg tr' _ (by exact(HDr.out.wM _).ZT _) HG.out).mono ?_;rintro e w' ⟨rfl,nd',hn1,hn2,hD2,hB2⟩;have HD2:=Lib.hid hD2;have HB2:=Lib.hid hB2;clear hD2 hB2)
      go_end0
      obtain⟨g1,g2,g3,g4⟩:=HG.out
      exact⟨rfl,f',nd',_,tr',HD2.out,⟨hn1,by omega,g3,fun j hj=>g4 j (by omega)⟩,((HB.out.setCell (by simp) _).setCell (by simp) _).trans HB2.out,HFIN.out.1,HFIN.out.2⟩
end Go.Proofs.YtljhmnnhfnmhmaaGreatDoor.M
