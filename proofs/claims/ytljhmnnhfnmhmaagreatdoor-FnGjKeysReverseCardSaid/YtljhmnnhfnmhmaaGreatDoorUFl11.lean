/-
Lemmas of this claim; made short by a program of this work.
-/
import Derived.Test.YtljhmnnhfnmhmaaGreatDoorUM9
import Derived.Test.YtljhmnnhfnmhmaaGreatDoorUFl9
import Derived.Test.YtljhmnnhfnmhmaaGreatDoorUFl10
import Derived.Test.YtljhmnnhfnmhmaaGreatDoorUM0
set_option linter.unusedVariables false
set_option linter.unusedSimpArgs false
set_option maxHeartbeats 4000000
set_option maxRecDepth 100000
namespace Go.Proofs.YtljhmnnhfnmhmaaGreatDoor.M
open Go Go.RowKit Go.Proofs.YtljhmnnhfnmhmaaGreatDoorW.PrintWords
structure zDl (n b o c bp op cp bt ot ct:Nat) (w:World):Prop where
 opt:w.cell? ⟨3,0,none⟩=some (.bool true)
 ft:FT n b o c bp op cp w
 p10:P10 bt ot ct w
 pow:Z2 w
 lt:bt < n
 l13:13 < n
theorem zDl.below {n b o c bp op cp bt ot ct:Nat} {w w':World} (h:zDl n b o c bp op cp bt ot ct w) (hb:Below n w w'):zDl n b o c bp op cp bt ot ct w':=by
 have k:∀ (x y:Nat),x < n→w'.cell? ⟨x,y,none⟩=w.cell? ⟨x,y,none⟩:=fun x y hx=>hb.cell (p:=⟨x,y,none⟩) hx
 have l:=h.l13
 refine⟨(k 3 0 (by omega)).trans h.opt,h.ft.below hb,⟨(k 13 0 l).trans h.p10.1,fun j hj=>?_⟩,fun j hj=>?_,h.lt,h.l13⟩
 ·
  obtain⟨v,h1,h2⟩:=h.p10.2 j hj
  exact⟨v,(k bt _ h.lt).trans h1,h2⟩
 ·
  obtain⟨v,h1⟩:=h.pow j hj
  exact⟨v,(k 9 _ (by omega)).trans h1⟩
theorem FT.grow {n n' b o c bp op cp:Nat} {w:World} (h:FT n b o c bp op cp w) (hn:n≤n'):FT n' b o c bp op cp w :=
 ⟨h.i0,h.i1,h.i2,h.pw,h.pv,h.ch,Nat.lt_of_lt_of_le h.lb hn,Nat.lt_of_lt_of_le h.lp hn,Nat.lt_of_lt_of_le h.l12 hn⟩
def isZ (v:Option Value):Bool:=match v with|some (.int .u8 0)=>true|_=>false
theorem zJ1 {v:Option Value} (h:isZ v=true):v=some (.int .u8 0):=by
 unfold isZ at h
 split at h
 ·
  rfl
 ·
  cases h
theorem zDk:(List.range 800).all (fun j=>isZ Tryz.zeroCells143[j]?)=true:=by kernel_rfl
theorem zFf (j:Nat) (hj:j < 800):Tryz.zeroCells143[j]?=some (.int .u8 0):=zJ1 (List.all_eq_true.mp zDk j (List.mem_range.mpr hj))
theorem ZH:Tryz.zeroCells143[800]?=some (.int .i64 0)∧Tryz.zeroCells143[801]?=some (.int .i64 0)∧Tryz.zeroCells143[802]?=some (.bool false)∧Tryz.zeroCells143[803]?=some (.bool false):=⟨by kernel_rfl,by kernel_rfl,by kernel_rfl,by kernel_rfl⟩
theorem zJp (w:World):Dc w.heap.size (fun _=>0) 0 0 false false (w.alloc (Obj.cells Tryz.zeroCells143 143)):=by
 have hb:=heap_alloc_new w (Obj.cells Tryz.zeroCells143 143)
 exact⟨fun j hj=>(zB hb j).trans (zFf j hj),(zB hb 800).trans ZH.1,(zB hb 801).trans ZH.2.1,(zB hb 802).trans ZH.2.2.1,(zB hb 803).trans ZH.2.2.2,fun j _=>zC hb j⟩
theorem zBn (s:ByteArray) (n j:Nat) (h:j < (s.extract 0 n).size):bn (s.extract 0 n) j=bn s j:=by
 have h2:j < s.size:=by simp at h;omega
 rw [← vP s j h2,← vP (s.extract 0 n) j h]
 simp [ByteArray.getElem_extract]
theorem kZ.take {s:ByteArray} (h:kZ s) (n:Nat):kZ (s.extract 0 n):=by
 intro j hj
 rw [zBn s n j hj]
 exact h j (by simp at hj;omega)
def ErrV (v:Value):Prop:=v = .nilIface∨v = .iface 117 (.int .i64 1)∨v = .iface 117 (.int .i64 2)
theorem zGn.errV {v:Value} (h:zGn v):ErrV v:=h.imp id .inl
def AT (w:World) (e:Ending) (w':World):Prop:=∃ (f:Nat) (n:Int) (v:Value),ErrV v∧e = .returned (.tuple #[.float .f64 f, .int .i64 n,v])∧Below w.heap.size w w'
theorem W8 (s:ByteArray) (b o c bp op cp bt ot ct:Nat) (w:World) (hs:s.size≤1048576) (h:kZ s) (hT:zDl w.heap.size b o c bp op cp bt ot ct w):Calls Tryz.prog 125 #[.string s] w (AT w):=by
 have hf:=wK
 have copt:=hT.opt
 have HT:=Lib.hid hT
 have HX:=Lib.hid h
 have HS:=Lib.hid hs
 clear hT h hs
 go_enter Tryz.func125,Tryz.ntmps125
 go_wp2_with fail
 refine(KO s (by have:=HS.out;simp only [maxLen];omega) HX.out w).mono ?_
 rintro e w' ⟨rfl,rfl⟩
 go_wp2_with fail
 refine(J5 s HS.out HX.out w').mono ?_
 rintro e w' ⟨m,x,neg,trunc,n,ok,rfl,hm0,hm1,hx0,hx1,hn0,hn1,rfl⟩
 cases ok
 ·
  as_aux_lemma =>
   go_wp2_with fail
   go_ret3
   exact⟨_,_,_, .inr (.inr rfl),rfl,Below.refl _ _⟩
 ·
  go_upto_if 69 with (go_at_call 158;refine(ZK _ _).mono ?_;rintro e w' ⟨rfl,rfl⟩)
  by_cases hmz:m=0
  ·
   subst hmz
   as_aux_lemma =>
    go_wp2_with fail
    go_ret3
    exact⟨_,_,_, .inl rfl,rfl,Below.refl _ _⟩
  ·
   have hmb:(m == 0)=false:=beq_eq_false_iff_ne.mpr hmz
   clear hmz
   by_cases h310:310 < x
   ·
    as_aux_lemma =>
     go_wp2_with fail
     go_ret3
     exact⟨_,_,_, .inr (.inl rfl),rfl,Below.refl _ _⟩
   ·
    by_cases h345:x < -345
    ·
     as_aux_lemma =>
      go_wp2_with fail
      go_ret3
      exact⟨_,_,_, .inl rfl,rfl,Below.refl _ _⟩
    ·
     go_upto_if 88 with fail
     generalize IntKind.u64.wrap (b2i neg * 9223372036854775808)=sg
     cases trunc
     ·
      as_aux_lemma =>
       go_wp2_with fail
       refine(XA m x neg bt ot ct _ HT.out.p10 HT.out.ft.i0 hm0 (by omega) (by omega)).mono ?_
       rintro e w' ⟨f,bb,rfl,rfl⟩
       cases bb
       ·
        go_wp2_with fail
        refine(yN m x sg _ HT.out.pow hm0 hm1 (by omega) (by omega) (by have:=HT.out.l13;omega)).mono ?_
        rintro e w' ⟨f,v,hv,rfl,hB⟩
        have HV:=Lib.hid (And.intro hv hB)
        clear hv hB
        go_wp2_with fail
        go_ret3
        exact⟨_,_,_,HV.out.1.errV,rfl,HV.out.2⟩
       ·
        go_wp2_with fail
        go_ret3
        exact⟨_,_,_, .inl rfl,rfl,Below.refl _ _⟩
     ·
      go_wp2_with fail
      refine(yN m x sg _ HT.out.pow hm0 hm1 (by omega) (by omega) (by have:=HT.out.l13;omega)).mono ?_
      rintro e w1 ⟨f,v,hv,rfl,hB⟩
      have hsz:13 < w1.heap.size:=by have:=HT.out.l13;have:=hB.size;omega
      have HT1:=Lib.hid (HT.out.below hB)
      have HV:=Lib.hid (And.intro hv hB)
      clear hv hB
      go_wp2_with fail
      refine(yN _ x sg _ HT1.out.pow (kG _).1 (kG _).2 (by omega) (by omega) (by omega)).mono ?_
      rintro e w2 ⟨f2,v2,hv2,rfl,hB2⟩
      have hBB:=HV.out.2.trans (hB2.mono (by have:=HV.out.2.size;omega))
      have HT2:=Lib.hid (HT.out.below hBB)
      have HV2:=Lib.hid (And.intro HV.out.1 hBB)
      clear HT1 HV hB2 hBB hv2
      go_wp2_with fail
      ·
       go_ret3
       exact⟨_,_,_,HV2.out.1.errV,rfl,HV2.out.2⟩
      ·
       have hD:=zJp w2
       have hsl:(s.extract 0 n.toNat).size≤1048576:=by have:=HS.out;simp;omega
       refine(zH0 w2.heap.size _ 0 false false _ _ hD hsl (HX.out.take _)).mono ?_
       rintro e w3 ⟨okb,rfl,f',nd',dp',neg',tr',hD3,hz3,hB3⟩
       have hB23:Below w2.heap.size w2 w3:=((Below.refl _ _).alloc (Nat.le_refl _) _).trans hB3
       have hB13:=HV2.out.2.trans (hB23.mono (by have:=HV2.out.2.size;omega))
       have hsz2:=HV2.out.2.size
       have hFT:=(HT.out.below hB13).ft.grow hsz2
       have HD3:=Lib.hid (And.intro hD3 (And.intro hz3.dg (And.intro hFT hB13)))
       clear hD hD3 hz3 hB3 hB23 hB13 hFT hsl hsz2
       cases okb
       ·
        as_aux_lemma =>
         go_wp2_with fail
         go_ret3
         exact⟨_,_,_, .inr (.inr rfl),rfl,HD3.out.2.2.2⟩
       ·
        as_aux_lemma =>
         go_wp2_with fail
         refine(JP w2.heap.size f' nd' dp' neg' tr' b o c bp op cp w3 HD3.out.1 HD3.out.2.1 HD3.out.2.2.1).mono ?_
         rintro e w4 ⟨nn,ov,rfl,hB4⟩
         have HB4:=Lib.hid (HD3.out.2.2.2.trans (hB4.mono HV2.out.2.size))
         clear hB4
         cases ov
         ·
          go_wp2_with fail
          go_ret3
          exact⟨_,_,_, .inl rfl,rfl,HB4.out⟩
         ·
          go_wp2_with fail
          go_ret3
          exact⟨_,_,_, .inr (.inl rfl),rfl,HB4.out⟩
end Go.Proofs.YtljhmnnhfnmhmaaGreatDoor.M
