/-
Lemmas of this claim; made short by a program of this work.
-/
import Derived.Test.YtljhmnnhfnmhmaaGreatDoorUM3
import Derived.Deep.DeepCutAuto
import Derived.Deep.CutBlock
import Derived.Test.YtljhmnnhfnmhmaaGreatDoorUM0
set_option linter.unusedVariables false
set_option linter.unusedSimpArgs false
set_option maxHeartbeats 4000000
set_option maxRecDepth 100000
namespace Go.Proofs.YtljhmnnhfnmhmaaGreatDoor.M
open Go Go.RowKit Go.Proofs.YtljhmnnhfnmhmaaGreatDoorW.PrintWords
def low (c:Int):Int:=bif c == 69 then 101 else c
theorem wF (c:Int) (h:qN c) (w:World):Calls Tryz.prog 126 #[.int .u8 c] w (fun e w'=>e = .returned (.int .u8 (low c))∧w'=w):=by
 have e:bits .or .u8 c 32=low c:=by
  have:c=43∨c=45∨c=46∨c=48∨c=49∨c=50∨c=51∨c=52∨c=53∨c=54∨c=55∨c=56∨c=57∨c=69∨c=101:=by unfold qN at h;omega
  rcases this with rfl|rfl|rfl|rfl|rfl|rfl|rfl|rfl|rfl|rfl|rfl|rfl|rfl|rfl|rfl <;> decide +kernel
 have E:=Lib.hid e
 clear e h
 go_enter Tryz.func126,Tryz.ntmps126
 go_wp2
 go_ret
 exact⟨by show Ending.returned (Value.int IntKind.u8 (bits BinOp.or IntKind.u8 c 32))=_;rw [E.out],rfl⟩
theorem zJ7 (c:Int) (h:qN c):(low c == 120)=false:=by
 unfold qN at h
 unfold low
 by_cases h1:c=69
 ·
  subst h1;rfl
 ·
  rw [show (c == 69)=false from beq_eq_false_iff_ne.mpr h1]
  exact beq_eq_false_iff_ne.mpr Zq0
def RF (s:ByteArray) (w:World) (e:Ending) (w':World):Prop:=∃ (m x:Int) (neg trunc:Bool) (n:Int) (ok:Bool),
 e = .returned (.tuple #[.int .u64 m, .int .i64 x, .bool neg, .bool trunc, .bool false, .int .i64 n, .bool ok])∧0≤m∧m < 18446744073709551616∧-4194304≤x∧x≤4194304∧0≤n∧n≤s.size∧w'=w
theorem zJ6 (c:Int):low c=101 ↔ (c=69∨c=101):=by
 unfold low
 by_cases h1:c=69
 ·
  subst h1;simp
 ·
  rw [show (c == 69)=false from beq_eq_false_iff_ne.mpr h1]
  simp only [cond_false]
  omega
theorem kG (n:Int):0≤IntKind.u64.wrap n∧IntKind.u64.wrap n < 18446744073709551616:=by
 have:IntKind.u64.wrap n=n % 18446744073709551616:=by simp [IntKind.wrap,IntKind.bits,IntKind.signed]
 rw [this]
 omega
def RL (s:ByteArray) (a2 a5 a7 a9 a13 a14 a15 a16 a17:Value):Prop:=∃ (m:Int) (tr sd sg:Bool) (i nd nm:Nat) (dp:Int),
 a2 = .int .u64 m∧a5 = .bool tr∧a7 = .int .i64 i∧a9 = .bool false∧a13 = .bool sd∧a14 = .bool sg∧a15 = .int .i64 nd∧a16 = .int .i64 nm∧a17 = .int .i64 dp ∧
 0≤m∧m < 18446744073709551616∧i≤s.size∧nd≤i∧nm≤19∧-(i:Int)≤dp∧dp≤i
def RE (s:ByteArray) (a7 a9 a20:Value):Prop:=∃ (k:Nat) (e:Int),a7 = .int .i64 (k:Int)∧a9 = .bool false∧a20 = .int .i64 e∧k≤s.size∧0≤e∧e≤110000
theorem J5 (s:ByteArray) (hs:s.size≤1048576) (h:kZ s) (w:World):Calls Tryz.prog 150 #[.string s] w (RF s w):=by
 have hb:=vP s
 have HX:=Lib.hid h
 clear h
 by_cases hpos:0 < s.size
 ·
  have hne:¬ s=ByteArray.empty:=by rintro rfl;simp at hpos
  have hne2:((s.size:Int)≤0)=False:=by simp;omega
  go_enter Tryz.func150,Tryz.ntmps150
  go_wp2_with fail
  go_step3
  go_upto_block 0 with fail
  go_cut [4,7] (fun a b wx=>∃ (neg:Bool) (i:Nat),a = .bool neg∧b = .int .i64 (i:Int)∧i≤1∧w=wx)
  case first =>
   as_aux_lemma =>
    go_wp2_with fail
    all_goals go_meet
    ·
     exact⟨false,1,rfl,rfl,by omega,rfl⟩
    ·
     exact⟨true,1,rfl,rfl,by omega,rfl⟩
    ·
     exact⟨false,0,rfl,rfl,by omega,rfl⟩
  case rest =>
   obtain⟨neg,i,rfl,rfl,hi,rfl⟩:=hcut
   go_upto_region 12 with fail
   go_cut [54] (fun a wx=>a = .bool false∧w=wx)
   case first =>
    as_aux_lemma =>
     by_cases h2:(i:Int)+2 < s.size
     ·
      by_cases h3:bn s i=48
      ·
       have hl:=zJ7 _ (HX.out.at_ (i+1) (by omega))
       go_wp2_with (go_at_call 126;(with_reducible refine(wF _ (HX.out.at_ _ (by omega)) _).mono ?_);rintro e w' ⟨rfl,rfl⟩)
       go_meet
       exact⟨rfl,rfl⟩
      ·
       go_wp2_with fail
       go_meet
       exact⟨rfl,rfl⟩
     ·
      go_wp2_with fail
      go_meet
      exact⟨rfl,rfl⟩
   case rest =>
    obtain⟨rfl,rfl⟩:=hcut
    go_upto_block 1 with fail
    go_step3
    go_upto_block 1 with fail
    go_cut [2,5,7,9,13,14,15,16,17] (fun a2 a5 a7 a9 a13 a14 a15 a16 a17 wx=>RL s a2 a5 a7 a9 a13 a14 a15 a16 a17∧w=wx)
    case first =>
     go_wp2_with fail
     go_loop [2,5,7,9,13,14,15,16,17] (fun a2 a5 a7 a9 a13 a14 a15 a16 a17=>RL s a2 a5 a7 a9 a13 a14 a15 a16 a17) (fun _ _ a7 _ _ _ _ _ _=>s.size - (intOf a7).toNat)
     case atStart=>exact⟨0,false,false,false,i,0,0,0,rfl,rfl,rfl,rfl,rfl,rfl,rfl,rfl,rfl,by omega,by omega,by omega,by omega,by omega,by omega,by omega⟩
     case round =>
      obtain⟨m,tr,sd,sg,i,nd,nm,dp,rfl,rfl,rfl,rfl,rfl,rfl,rfl,rfl,rfl,hm0,hm1,hi2,hnd,hnm,hd0,hd1⟩:=hrel
      by_cases hlt:i < s.size
      ·
       have hc:qN (bn s i):=HX.out.at_ i hlt
       unfold qN at hc
       by_cases h46:bn s i=46
       ·
        clear hc
        cases sd
        ·
         as_aux_lemma =>
          go_wp2_with fail
          go_round
          case rel=>exact⟨m,tr,true,sg,i+1,nd,nm,nd,rfl,rfl,by go_num,rfl,rfl,rfl,rfl,rfl,rfl,by omega,by omega,by omega,by omega,by omega,by omega,by omega⟩
          case measure=>simp [intOf];omega
        ·
         as_aux_lemma =>
          go_wp2_with fail
          go_meet
          exact⟨⟨m,tr,true,sg,i,nd,nm,dp,rfl,rfl,rfl,rfl,rfl,rfl,rfl,rfl,rfl,by omega,by omega,by omega,by omega,by omega,by omega,by omega⟩,rfl⟩
       ·
        by_cases hdg:48≤bn s i∧bn s i≤57
        ·
         obtain⟨hg0,hg1⟩:=hdg
         have hn95:(bn s i == 95)=false:=beq_eq_false_iff_ne.mpr (by omega)
         have hn46:(bn s i == 46)=false:=beq_eq_false_iff_ne.mpr (by omega)
         clear hc h46
         by_cases hz:bn s i=48
         ·
          by_cases hz2:nd=0
          ·
           as_aux_lemma =>
            subst hz2
            go_wp2_with fail
            go_round
            case rel=>exact⟨m,tr,sd,true,i+1,0,nm,dp - 1,rfl,rfl,by go_num,rfl,rfl,rfl,rfl,rfl,by go_num,by omega,by omega,by omega,by omega,by omega,by omega,by omega⟩
            case measure=>simp [intOf];omega
          ·
           have hz3:((nd:Int) == 0)=false:=beq_eq_false_iff_ne.mpr (by omega)
           by_cases hnm2:nm < 19
           ·
            as_aux_lemma =>
             go_wp2_with fail
             go_round
             case rel=>exact⟨_,tr,sd,true,i+1,nd+1,nm+1,dp,rfl,rfl,by go_num,rfl,rfl,rfl,by go_num,by go_num,rfl,(kG _).1,(kG _).2,by omega,by omega,by omega,by omega,by omega⟩
             case measure=>simp [intOf];omega
           ·
            as_aux_lemma =>
             go_wp2_with fail
             go_round
             case rel=>exact⟨m,tr,sd,true,i+1,nd+1,nm,dp,rfl,rfl,by go_num,rfl,rfl,rfl,by go_num,rfl,rfl,by omega,by omega,by omega,by omega,by omega,by omega,by omega⟩
             case measure=>simp [intOf];omega
         ·
          have hz3:(bn s i == 48)=false:=beq_eq_false_iff_ne.mpr hz
          have hz4:(bn s i != 48)=true:=bne_iff_ne.mpr hz
          by_cases hnm2:nm < 19
          ·
           as_aux_lemma =>
            go_wp2_with fail
            go_round
            case rel=>exact⟨_,tr,sd,true,i+1,nd+1,nm+1,dp,rfl,rfl,by go_num,rfl,rfl,rfl,by go_num,by go_num,rfl,(kG _).1,(kG _).2,by omega,by omega,by omega,by omega,by omega⟩
            case measure=>simp [intOf];omega
          ·
           as_aux_lemma =>
            go_wp2_with fail
            go_round
            case rel=>exact⟨m,true,sd,true,i+1,nd+1,nm,dp,rfl,rfl,by go_num,rfl,rfl,rfl,by go_num,rfl,rfl,by omega,by omega,by omega,by omega,by omega,by omega,by omega⟩
            case measure=>simp [intOf];omega
        ·
         have hc4:bn s i=43∨bn s i=45∨bn s i=69∨bn s i=101:=by omega
         clear hc h46 hdg
         rcases hc4 with hc4|hc4|hc4|hc4
         all_goals
          go_wp2_with fail
          go_meet
          exact⟨⟨m,tr,sd,sg,i,nd,nm,dp,rfl,rfl,rfl,rfl,rfl,rfl,rfl,rfl,rfl,by omega,by omega,by omega,by omega,by omega,by omega,by omega⟩,rfl⟩
      ·
       as_aux_lemma =>
        go_wp2_with fail
        go_meet
        exact⟨⟨m,tr,sd,sg,i,nd,nm,dp,rfl,rfl,rfl,rfl,rfl,rfl,rfl,rfl,rfl,by omega,by omega,by omega,by omega,by omega,by omega,by omega⟩,rfl⟩
    case rest =>
     obtain⟨⟨m,tr,sd,sg,i,nd,nm,dp,rfl,rfl,rfl,rfl,rfl,rfl,rfl,rfl,rfl,hm0,hm1,hi2,hnd,hnm,hd0,hd1⟩,rfl⟩:=hcut
     cases sg
     ·
      as_aux_lemma =>
       go_wp2_with fail
       (try rw [Exit.noGoto_ret])
       exact bodyPost_ret (v := .tuple #[.int .u64 m, .int .i64 0, .bool neg, .bool tr, .bool false, .int .i64 (i:Int), .bool false]) zAw rfl ⟨m,0,neg,tr,i,false,rfl,by omega,by omega,by omega,by omega,by omega,by omega,rfl⟩
     ·
      go_upto_if 142 with fail
      go_cut [17] (fun a17 wx=>∃ dp:Int,a17 = .int .i64 dp∧-(i:Int)≤dp∧dp≤i∧w=wx)
      case first =>
       as_aux_lemma =>
        cases sd
        all_goals
         go_wp2_with fail
         go_meet
        ·
         exact⟨nd,rfl,by omega,by omega,rfl⟩
        ·
         exact⟨dp,rfl,by omega,by omega,rfl⟩
      case rest =>
       obtain⟨dp,rfl,hd0,hd1,rfl⟩:=hcut
       go_upto_region 57 with fail
       by_cases hlt:i < s.size
       ·
        have hc:=HX.out.at_ i hlt
        have hE:low (bn s i)=101 ↔ (bn s i=69∨bn s i=101):=zJ6 _
        by_cases he:bn s i=69∨bn s i=101
        ·
         have hl:(low (bn s i) == 101)=true:=beq_iff_eq.mpr (hE.mpr he)
         clear hE he hc
         go_cut [161] (fun a wx=>a = .bool true∧w=wx)
         case first =>
          as_aux_lemma =>
           go_wp2_with (go_at_call 126;(with_reducible refine(wF _ (HX.out.at_ _ (by omega)) _).mono ?_);rintro e w' ⟨rfl,rfl⟩)
           go_meet
           exact⟨rfl,rfl⟩
         case rest =>
          obtain⟨rfl,rfl⟩:=hcut
          by_cases hl1:i+1 < s.size
          ·
           go_upto_block 4 with fail
           go_cut [7,19] (fun a b wx=>∃ (i2:Nat) (es:Int),a = .int .i64 (i2:Int)∧b = .int .i64 es∧i+1≤i2∧i2≤i+2∧-1≤es∧es≤1∧w=wx)
           case first =>
            as_aux_lemma =>
             go_wp2_with fail
             all_goals go_meet
             ·
              exact⟨i+2,1,by go_num,rfl,by omega,by omega,by omega,by omega,rfl⟩
             ·
              exact⟨i+2,-1,by go_num,rfl,by omega,by omega,by omega,by omega,rfl⟩
             ·
              exact⟨i+1,1,by go_num,rfl,by omega,by omega,by omega,by omega,rfl⟩
           case rest =>
            obtain⟨j,es,rfl,rfl,hj0,hj1,he0,he1,rfl⟩:=hcut
            by_cases hjl:j < s.size
            ·
             by_cases hdg:48≤bn s j∧bn s j≤57
             ·
              obtain⟨hg0,hg1⟩:=hdg
              have z1:decide (s.size≤j)=false:=decide_eq_false (by omega)
              have z2:decide (bn s j < 48)=false:=decide_eq_false (by omega)
              have z3:decide (57 < bn s j)=false:=decide_eq_false (by omega)
              go_upto_block 5 with fail
              go_cut [7,9,20] (fun a7 a9 a20 wx=>RE s a7 a9 a20∧w=wx)
              case first =>
               go_wp2_with fail
               go_loop [7,9,20] (fun a7 a9 a20=>RE s a7 a9 a20) (fun a7 _ _=>s.size - (intOf a7).toNat)
               case atStart=>exact⟨j,0,rfl,rfl,rfl,by omega,by omega,by omega⟩
               case round =>
                obtain⟨k,e,rfl,rfl,rfl,hk,hx0,hx1⟩:=hrel
                by_cases hkl:k < s.size
                ·
                 have hc:=HX.out.at_ k hkl
                 unfold qN at hc
                 have hn95:(bn s k == 95)=false:=beq_eq_false_iff_ne.mpr (by omega)
                 clear hc
                 by_cases hk0:48≤bn s k
                 ·
                  by_cases hk1:bn s k≤57
                  ·
                   by_cases hel:e < 10000
                   ·
                    as_aux_lemma =>
                     go_wp2_with fail
                     go_round
                     case rel=>exact⟨k+1,e * 10+bn s k - 48,by go_num,rfl,rfl,by omega,by omega,by omega⟩
                     case measure=>simp [intOf];omega
                   ·
                    as_aux_lemma =>
                     go_wp2_with fail
                     go_round
                     case rel=>exact⟨k+1,e,by go_num,rfl,rfl,by omega,by omega,by omega⟩
                     case measure=>simp [intOf];omega
                  ·
                   as_aux_lemma =>
                    go_wp2_with fail
                    go_meet
                    exact⟨⟨k,e,rfl,rfl,rfl,by omega,by omega,by omega⟩,rfl⟩
                 ·
                  as_aux_lemma =>
                   go_wp2_with fail
                   go_meet
                   exact⟨⟨k,e,rfl,rfl,rfl,by omega,by omega,by omega⟩,rfl⟩
                ·
                 as_aux_lemma =>
                  go_wp2_with fail
                  go_meet
                  exact⟨⟨k,e,rfl,rfl,rfl,by omega,by omega,by omega⟩,rfl⟩
              case rest =>
               obtain⟨⟨k,e,rfl,rfl,rfl,hk,hx0,hx1⟩,rfl⟩:=hcut
               have hes:e * es = -e∨e * es=0∨e * es=e:=by
                have:es = -1∨es=0∨es=1:=by omega
                rcases this with rfl|rfl|rfl <;> simp
               obtain⟨q,hq⟩:∃ q,e * es=q:=⟨_,rfl⟩
               have hq0:-110000≤q:=by omega
               have hq1:q≤110000:=by omega
               clear hes
               as_aux_lemma =>
                go_wp2_with fail
                all_goals (try rw [Exit.noGoto_ret])
                ·
                 exact bodyPost_ret (v := .tuple #[.int .u64 m, .int .i64 (dp+q - nm), .bool neg, .bool tr, .bool false, .int .i64 (k:Int), .bool true]) zAw rfl ⟨m,dp+q - nm,neg,tr,k,true,rfl,by omega,by omega,by omega,by omega,by omega,by omega,rfl⟩
                ·
                 exact bodyPost_ret (v := .tuple #[.int .u64 m, .int .i64 0, .bool neg, .bool tr, .bool false, .int .i64 (k:Int), .bool true]) zAw rfl ⟨m,0,neg,tr,k,true,rfl,by omega,by omega,by omega,by omega,by omega,by omega,rfl⟩
             ·
              by_cases hlo:bn s j < 48
              ·
               as_aux_lemma =>
                go_wp2_with fail
                (try rw [Exit.noGoto_ret])
                exact bodyPost_ret (v := .tuple #[.int .u64 m, .int .i64 0, .bool neg, .bool tr, .bool false, .int .i64 (j:Int), .bool false]) zAw rfl ⟨m,0,neg,tr,j,false,rfl,by omega,by omega,by omega,by omega,by omega,by omega,rfl⟩
              ·
               have hhi:57 < bn s j:=by omega
               clear hdg
               as_aux_lemma =>
                go_wp2_with fail
                (try rw [Exit.noGoto_ret])
                exact bodyPost_ret (v := .tuple #[.int .u64 m, .int .i64 0, .bool neg, .bool tr, .bool false, .int .i64 (j:Int), .bool false]) zAw rfl ⟨m,0,neg,tr,j,false,rfl,by omega,by omega,by omega,by omega,by omega,by omega,rfl⟩
            ·
             as_aux_lemma =>
              go_wp2_with fail
              (try rw [Exit.noGoto_ret])
              exact bodyPost_ret (v := .tuple #[.int .u64 m, .int .i64 0, .bool neg, .bool tr, .bool false, .int .i64 (j:Int), .bool false]) zAw rfl ⟨m,0,neg,tr,j,false,rfl,by omega,by omega,by omega,by omega,by omega,by omega,rfl⟩
          ·
           as_aux_lemma =>
            go_wp2_with fail
            (try rw [Exit.noGoto_ret])
            exact bodyPost_ret (v := .tuple #[.int .u64 m, .int .i64 0, .bool neg, .bool tr, .bool false, .int .i64 ((i:Int)+1), .bool false]) zAw rfl ⟨m,0,neg,tr,_,false,rfl,by omega,by omega,by omega,by omega,by omega,by omega,rfl⟩
        ·
         have hl:(low (bn s i) == 101)=false:=beq_eq_false_iff_ne.mpr (fun h=>he (hE.mp h))
         clear hE he hc
         as_aux_lemma =>
          go_wp2_with (go_at_call 126;(with_reducible refine(wF _ (HX.out.at_ _ (by omega)) _).mono ?_);rintro e w' ⟨rfl,rfl⟩)
          all_goals (try rw [Exit.noGoto_ret])
          ·
           exact bodyPost_ret (v := .tuple #[.int .u64 m, .int .i64 (dp - nm), .bool neg, .bool tr, .bool false, .int .i64 (i:Int), .bool true]) zAw rfl ⟨m,dp - nm,neg,tr,i,true,rfl,by omega,by omega,by omega,by omega,by omega,by omega,rfl⟩
          ·
           exact bodyPost_ret (v := .tuple #[.int .u64 m, .int .i64 0, .bool neg, .bool tr, .bool false, .int .i64 (i:Int), .bool true]) zAw rfl ⟨m,0,neg,tr,i,true,rfl,by omega,by omega,by omega,by omega,by omega,by omega,rfl⟩
       ·
        as_aux_lemma =>
         go_wp2_with fail
         all_goals (try rw [Exit.noGoto_ret])
         ·
          exact bodyPost_ret (v := .tuple #[.int .u64 m, .int .i64 (dp - nm), .bool neg, .bool tr, .bool false, .int .i64 (i:Int), .bool true]) zAw rfl ⟨m,dp - nm,neg,tr,i,true,rfl,by omega,by omega,by omega,by omega,by omega,by omega,rfl⟩
         ·
          exact bodyPost_ret (v := .tuple #[.int .u64 m, .int .i64 0, .bool neg, .bool tr, .bool false, .int .i64 (i:Int), .bool true]) zAw rfl ⟨m,0,neg,tr,i,true,rfl,by omega,by omega,by omega,by omega,by omega,by omega,rfl⟩
 ·
  have he:s=ByteArray.empty:=ByteArray.ext (Array.eq_empty_of_size_eq_zero (by show s.size=0;omega))
  subst he
  as_aux_lemma =>
   clear hb HX hpos hs
   go_enter Tryz.func150,Tryz.ntmps150
   go_wp2
   go_step3
   go_wp2
   (try rw [Exit.noGoto_ret])
   exact bodyPost_ret (v := .tuple #[.int .u64 0, .int .i64 0, .bool false, .bool false, .bool false, .int .i64 0, .bool false]) zAw rfl ⟨0,0,false,false,0,false,rfl,by omega,by omega,by omega,by omega,by omega,by omega,rfl⟩
end Go.Proofs.YtljhmnnhfnmhmaaGreatDoor.M
