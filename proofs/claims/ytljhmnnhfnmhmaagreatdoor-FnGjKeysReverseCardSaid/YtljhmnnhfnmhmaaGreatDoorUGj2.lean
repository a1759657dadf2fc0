/-
Lemmas of this claim; made short by a program of this work.
-/
import Derived.Test.YtljhmnnhfnmhmaaGreatDoorUM3
import Derived.Test.YtljhmnnhfnmhmaaGreatDoorUM0
set_option linter.unusedVariables false
set_option linter.unusedSimpArgs false
set_option maxHeartbeats 4000000
set_option maxRecDepth 100000
namespace Go.Proofs.YtljhmnnhfnmhmaaGreatDoor.M
open Go Go.RowKit Go.Proofs.YtljhmnnhfnmhmaaGreatDoorW.PrintWords
def VT (w:World):Prop:=∀ c:Nat,c < 256→w.cell? ⟨0,c,none⟩=some (.int .u8 (vc (c:Int)))
theorem VT.at_ {w:World} (h:VT w) (t:ByteArray) (k:Nat):w.cell? ⟨0,(bn t k).toNat,none⟩=some (.int .u8 (vc (bn t k))):=by
 have hr:=qR t k
 have:=h (bn t k).toNat (by omega)
 rw [this,Int.toNat_of_nonneg hr.1]
theorem zBl (t:ByteArray) (a b j:Nat) (h:a+j < b) (hb:b≤t.size):bn (t.extract a b) j=bn t (a+j):=by
 have hz:(t.extract a b).size=b - a:=by rw [ByteArray.size_extract];omega
 rw [← vP (t.extract a b) j (by omega),← vP t (a+j) (by omega)]
 rw [ByteArray.getElem_extract]
def QS (t:ByteArray) (e:Nat) (a1 a7:Value):Prop:=∃ p d:Nat,a1 = .int .i64 (p:Int)∧a7 = .int .i64 (d:Int)∧d≤p∧Sq t p d e
def QC (t:ByteArray) (e d p0:Nat) (a1:Value):Prop:=∃ p:Nat,a1 = .int .i64 (p:Int)∧Sq t p d e∧p0≤p
def QL (t:ByteArray) (e:Nat) (l d p0:Nat) (a1 a7 a8:Value):Prop:=∃ p:Nat,l=0∧a1 = .int .i64 (p:Int)∧a7 = .int .i64 (d:Int)∧a8 = .int .u8 (vc (bn t p))∧¬ vc (bn t p)=0∧Sq t p d e∧p0≤p
def QT (t:ByteArray) (s q n l:Nat) (a1:Value):Prop:=∃ p:Nat,a1 = .int .i64 (p:Int)∧s≤p∧p≤q∧((l=2∧n=3 * (q - p)+3)∨(l=1∧n=3 * (q - p)+2∧bn t p=34)∨(l=3∧n=3 * (q - p)+1))
def QU (t:ByteArray) (s q p0:Nat) (a1:Value):Prop:=∃ p:Nat,a1 = .int .i64 (p:Int)∧s≤p∧p≤q∧p0≤p
def QB (t:ByteArray) (s k:Nat) (a12 a13:Value):Prop:=∃ j c:Nat,a12 = .int .i64 (c:Int)∧a13 = .int .i64 (j:Int)∧s≤j+1∧j+c+2=k∧∀ p:Nat,j < p→p < k→bn t p=92
def QBx (t:ByteArray) (s k:Nat) (a12:Value):Prop:=∃ c:Nat,a12 = .int .i64 (c:Int)∧c≤k∧uO t s (k - s)=(c % 2 == 0)
theorem WR (c:Nat):((c+1) % 2 == 1)=(c % 2 == 0):=by
 rcases Nat.mod_two_eq_zero_or_one c with h|h
 ·
  have:(c+1) % 2=1:=by omega
  simp [h,this]
 ·
  have:(c+1) % 2=0:=by omega
  simp [h,this]
theorem wH (t:ByteArray) (i e:Nat) (w:World) (ht:t.size≤1048576) (hv:VT w) (h:Sq t (i+1) 1 e):Calls Tryz.prog 86 #[.string t, .int .i64 (i:Int)] w (Tok t i e w):=by
 have hb:=vP t
 have hil:=h.lt
 have hel:=h.ge
 have HX:=Lib.hid h
 have HV:=Lib.hid hv
 clear h hv
 go_enter Tryz.func86,Tryz.ntmps86
 go_wp2_with fail
 go_loop [1,7] (fun a1 a7=>QS t e a1 a7) (fun a1 _=>t.size - (intOf a1).toNat)
 case atStart=>exact⟨i+1,1,by go_num,rfl,by omega,HX.out⟩
 case round =>
  obtain⟨p,d,rfl,rfl,hdp,hq⟩:=hrel
  have hpl:=hq.lt
  have HQ:=Lib.hid hq
  have hd1:=hq.pos
  clear hq
  go_wp2_with fail
  obtain⟨J,HJ⟩:∃ J:Nat→Nat→Go.Act→Go.World→Prop,Go.RowKit.Hid (J=fun n' l' a' w'=>∃ (u1 u4 u5 u7 u8 u9 u10 u11 u12 u13 u21 u22 u23 u24 u25 u26 u27 u28 u29 u30 u31 u32 u33 u34 u35 u36 u37 u38 u39 u40 u41 u42 u43 u44 u45 u46 u47 u48 u49 u50 u51 u52 u53 u54 u55 u56 u57 u58 u59 u60 u61 u62 u63 u64 u65 u66 u67 u68 u69 u70 u71 u72 u73 u74 u75 u76 u77 u78 u79 u80 u81 u82 u83 u84 u85 u86 u87 u88 u89 u90 u91 u92 u93 u94 u95 u96 u97 u98 u99 u100 u101 u102 u103 u104 u105 u106 u107 u108 u109 u110 u111 u112 u113 u114 u115 u116 u117 u118 u119 u120 u121 u122 u123 u124 u125 u126 u127 u128 u129 u130 u131 u132 u133 u134 u135 u136 u137 u138 u139 u140 u141 u142 u143 u144 u145 u146 u147 u148 u149 u150 u151 u152 u153 u154 u155 u156 u157 u158 u159 u160 u161 u162 u163 u164 u165 u166 u167 u168 u169 u170 u171 u172 u173 u174 u175 u176 u177 u178 u179 u180 u181 u182 u183 u184 u185 u186 u187 u188 u189 u190 u191 u192 u193 u194 u195 u196 u197 u198 u199 u200 u201 u202 u203 u204 u205 u206 u207 u208 u209 u210 u211 u212 u213 u214 u215 u216 u217 u218 u219 u220 u221 u222 u223 u224 u225:Go.Value),(QL t e l' d p u1 u7 u8∧w=w')∧a'={ tmps:=#[.string t,u1,undef,undef,u4,u5, .int .i64 ↑i,u7,u8,u9,u10,u11,u12,u13, .int .i64 ↑i, .int .i64 ↑i, .int .i64 (↑i+1), .int .i64 ↑p, .string t, .int .i64 ↑t.size, .bool true,u21,u22,u23,u24,u25,u26,u27,u28,u29,u30,u31,u32,u33,u34,u35,u36,u37,u38,u39,u40,u41,u42,u43,u44,u45,u46,u47,u48,u49,u50,u51,u52,u53,u54,u55,u56,u57,u58,u59,u60,u61,u62,u63,u64,u65,u66,u67,u68,u69,u70,u71,u72,u73,u74,u75,u76,u77,u78,u79,u80,u81,u82,u83,u84,u85,u86,u87,u88,u89,u90,u91,u92,u93,u94,u95,u96,u97,u98,u99,u100,u101,u102,u103,u104,u105,u106,u107,u108,u109,u110,u111,u112,u113,u114,u115,u116,u117,u118,u119,u120,u121,u122,u123,u124,u125,u126,u127,u128,u129,u130,u131,u132,u133,u134,u135,u136,u137,u138,u139,u140,u141,u142,u143,u144,u145,u146,u147,u148,u149,u150,u151,u152,u153,u154,u155,u156,u157,u158,u159,u160,u161,u162,u163,u164,u165,u166,u167,u168,u169,u170,u171,u172,u173,u174,u175,u176,u177,u178,u179,u180,u181,u182,u183,u184,u185,u186,u187,u188,u189,u190,u191,u192,u193,u194,u195,u196,u197,u198,u199,u200,u201,u202,u203,u204,u205,u206,u207,u208,u209,u210,u211,u212,u213,u214,u215,u216,u217,u218,u219,u220,u221,u222,u223,u224,u225,undef,undef,undef,undef],defers:=[] }):=⟨_,Go.Lib.hid rfl⟩
  refine wX J ?pass ?first
  case first =>
   intro HF
   go_wp2_with fail
   go_loop [1] (fun a1=>QC t e d p a1) (fun a1=>t.size - (intOf a1).toNat)
   case atStart=>exact⟨p,rfl,HQ.out,by omega⟩
   case round =>
    clear HQ hpl hd1
    obtain⟨p',rfl,hq,hpp⟩:=hrel
    have hpl:=hq.lt
    by_cases hch:(p':Int) < (t.size:Int) - 8
    ·
     obtain⟨js,hjs⟩:∃ js,t.extract p' (p'+8)=js:=⟨_,rfl⟩
     have hsl:=y5 t p' (p'+8) (p':Int) ((p':Int)+8) rfl (by omega) (by omega) (by omega)
     rw [hjs] at hsl
     have hjz:js.size=8:=by rw [← hjs,ByteArray.size_extract];omega
     have hw8:IntKind.i64.wrap ((p':Int)+8)=(p':Int)+8:=IntWalk.i64_in _ (by omega)
     have hjb:=vP js
     have HC:=Lib.hid (fun (j:Nat) (hj:j < 8)=>hjs ▸ zBl t p' (p'+8) j (by omega) (by omega))
     have HQ:=Lib.hid hq
     clear hq hjs
     have hj0:bn js 0=bn t p':=HC.out 0 (by omega)
     have hr0:=qR t (p')
     have hv0:=HV.out.at_ t (p')
     by_cases hz0:vc (bn t (p'))=0
     rotate_left
     ·
      have hzb:(vc (bn t (p')) != 0)=true:=bne_iff_ne.mpr hz0
      clear HC
      as_aux_lemma =>
       go_wp2_with fail
       go_step3
       refine⟨0,?_⟩
       rw [HJ.out]
       (repeat apply Exists.intro)
       refine⟨?rel,rfl⟩
       case rel=>exact⟨⟨p',rfl,Zq1,rfl,rfl,hz0,HQ.out,by omega⟩,rfl⟩
     have HQ:=Lib.hid (HQ.out.zero hz0)
     have hj1:=HC.out 1 (by omega)
     have hr1:=qR t (p'+1)
     have hv1:=HV.out.at_ t (p'+1)
     have hi1:IntKind.i64.wrap ((p':Int)+1)=(p':Int)+1:=IntWalk.i64_in _ (by omega)
     by_cases hz1:vc (bn t (p'+1))=0
     rotate_left
     ·
      have hzb:(vc (bn t (p'+1)) != 0)=true:=bne_iff_ne.mpr hz1
      clear HC
      as_aux_lemma =>
       go_wp2_with fail
       go_step3
       refine⟨0,?_⟩
       rw [HJ.out]
       (repeat apply Exists.intro)
       refine⟨?rel,rfl⟩
       case rel=>exact⟨⟨p'+1,rfl,Zq1,rfl,rfl,hz1,HQ.out,by omega⟩,rfl⟩
     have HQ:=Lib.hid (HQ.out.zero hz1)
     have hj2:=HC.out 2 (by omega)
     have hr2:=qR t (p'+2)
     have hv2:=HV.out.at_ t (p'+2)
     have hi2:IntKind.i64.wrap ((p':Int)+2)=(p':Int)+2:=IntWalk.i64_in _ (by omega)
     by_cases hz2:vc (bn t (p'+2))=0
     rotate_left
     ·
      have hzb:(vc (bn t (p'+2)) != 0)=true:=bne_iff_ne.mpr hz2
      clear HC
      as_aux_lemma =>
       go_wp2_with fail
       go_step3
       refine⟨0,?_⟩
       rw [HJ.out]
       (repeat apply Exists.intro)
       refine⟨?rel,rfl⟩
       case rel=>exact⟨⟨p'+2,rfl,Zq1,rfl,rfl,hz2,HQ.out,by omega⟩,rfl⟩
     have HQ:=Lib.hid (HQ.out.zero hz2)
     have hj3:=HC.out 3 (by omega)
     have hr3:=qR t (p'+3)
     have hv3:=HV.out.at_ t (p'+3)
     have hi3:IntKind.i64.wrap ((p':Int)+3)=(p':Int)+3:=IntWalk.i64_in _ (by omega)
     by_cases hz3:vc (bn t (p'+3))=0
     rotate_left
     ·
      have hzb:(vc (bn t (p'+3)) != 0)=true:=bne_iff_ne.mpr hz3
      clear HC
      as_aux_lemma =>
       go_wp2_with fail
       go_step3
       refine⟨0,?_⟩
       rw [HJ.out]
       (repeat apply Exists.intro)
       refine⟨?rel,rfl⟩
       case rel=>exact⟨⟨p'+3,rfl,Zq1,rfl,rfl,hz3,HQ.out,by omega⟩,rfl⟩
     have HQ:=Lib.hid (HQ.out.zero hz3)
     have hj4:=HC.out 4 (by omega)
     have hr4:=qR t (p'+4)
     have hv4:=HV.out.at_ t (p'+4)
     have hi4:IntKind.i64.wrap ((p':Int)+4)=(p':Int)+4:=IntWalk.i64_in _ (by omega)
     by_cases hz4:vc (bn t (p'+4))=0
     rotate_left
     ·
      have hzb:(vc (bn t (p'+4)) != 0)=true:=bne_iff_ne.mpr hz4
      clear HC
      as_aux_lemma =>
       go_wp2_with fail
       go_step3
       refine⟨0,?_⟩
       rw [HJ.out]
       (repeat apply Exists.intro)
       refine⟨?rel,rfl⟩
       case rel=>exact⟨⟨p'+4,rfl,Zq1,rfl,rfl,hz4,HQ.out,by omega⟩,rfl⟩
     have HQ:=Lib.hid (HQ.out.zero hz4)
     have hj5:=HC.out 5 (by omega)
     have hr5:=qR t (p'+5)
     have hv5:=HV.out.at_ t (p'+5)
     have hi5:IntKind.i64.wrap ((p':Int)+5)=(p':Int)+5:=IntWalk.i64_in _ (by omega)
     by_cases hz5:vc (bn t (p'+5))=0
     rotate_left
     ·
      have hzb:(vc (bn t (p'+5)) != 0)=true:=bne_iff_ne.mpr hz5
      clear HC
      as_aux_lemma =>
       go_wp2_with fail
       go_step3
       refine⟨0,?_⟩
       rw [HJ.out]
       (repeat apply Exists.intro)
       refine⟨?rel,rfl⟩
       case rel=>exact⟨⟨p'+5,rfl,Zq1,rfl,rfl,hz5,HQ.out,by omega⟩,rfl⟩
     have HQ:=Lib.hid (HQ.out.zero hz5)
     have hj6:=HC.out 6 (by omega)
     have hr6:=qR t (p'+6)
     have hv6:=HV.out.at_ t (p'+6)
     have hi6:IntKind.i64.wrap ((p':Int)+6)=(p':Int)+6:=IntWalk.i64_in _ (by omega)
     by_cases hz6:vc (bn t (p'+6))=0
     rotate_left
     ·
      have hzb:(vc (bn t (p'+6)) != 0)=true:=bne_iff_ne.mpr hz6
      clear HC
      as_aux_lemma =>
       go_wp2_with fail
       go_step3
       refine⟨0,?_⟩
       rw [HJ.out]
       (repeat apply Exists.intro)
       refine⟨?rel,rfl⟩
       case rel=>exact⟨⟨p'+6,rfl,Zq1,rfl,rfl,hz6,HQ.out,by omega⟩,rfl⟩
     have HQ:=Lib.hid (HQ.out.zero hz6)
     have hj7:=HC.out 7 (by omega)
     have hr7:=qR t (p'+7)
     have hv7:=HV.out.at_ t (p'+7)
     have hi7:IntKind.i64.wrap ((p':Int)+7)=(p':Int)+7:=IntWalk.i64_in _ (by omega)
     by_cases hz7:vc (bn t (p'+7))=0
     rotate_left
     ·
      have hzb:(vc (bn t (p'+7)) != 0)=true:=bne_iff_ne.mpr hz7
      clear HC
      as_aux_lemma =>
       go_wp2_with fail
       go_step3
       refine⟨0,?_⟩
       rw [HJ.out]
       (repeat apply Exists.intro)
       refine⟨?rel,rfl⟩
       case rel=>exact⟨⟨p'+7,rfl,Zq1,rfl,rfl,hz7,HQ.out,by omega⟩,rfl⟩
     have HQ:=Lib.hid (HQ.out.zero hz7)
     clear HC
     as_aux_lemma =>
      go_wp2_with fail
      go_round
      case rel=>exact⟨p'+8,by go_num,HQ.out,by omega⟩
      case measure=>first|(simp [intOf];done)|(simp [intOf];omega)
    ·
     have hr:=qR t p'
     have hv0:=HV.out.at_ t p'
     by_cases hz:vc (bn t p')=0
     ·
      have HQ:=Lib.hid (hq.zero hz)
      clear hq
      as_aux_lemma =>
       go_wp2_with fail
       refine ZM ?_
       go_wp2_with fail
       go_round
       case rel=>exact⟨p'+1,d,by go_num,rfl,by omega,HQ.out⟩
       case measure=>first|(simp [intOf];done)|(simp [intOf];omega)
     ·
      have hzb:(vc (bn t p') == 0)=false:=beq_eq_false_iff_ne.mpr hz
      have HQ:=Lib.hid hq
      clear hq
      as_aux_lemma =>
       go_wp2_with fail
       rename_i K1 hK1
       refine wp_label (hK1 _ _ ?_)
       refine HF.out 0 0 _ _ _ ?_ (by rfl)
       rw [HJ.out]
       (repeat apply Exists.intro)
       refine⟨?rel,rfl⟩
       case rel=>exact⟨⟨p',rfl,rfl,rfl,rfl,hz,HQ.out,by omega⟩,rfl⟩
  case pass =>
   intro nj HF lj _ wj hinv
   rw [HJ.out] at hinv
   obtain⟨u1,u4,u5,u7,u8,u9,hinv⟩:=hinv
   obtain⟨u10,u11,u12,u13,u21,u22,hinv⟩:=hinv
   obtain⟨u23,u24,u25,u26,u27,u28,hinv⟩:=hinv
   obtain⟨u29,u30,u31,u32,u33,u34,hinv⟩:=hinv
   obtain⟨u35,u36,u37,u38,u39,u40,hinv⟩:=hinv
   obtain⟨u41,u42,u43,u44,u45,u46,hinv⟩:=hinv
   obtain⟨u47,u48,u49,u50,u51,u52,hinv⟩:=hinv
   obtain⟨u53,u54,u55,u56,u57,u58,hinv⟩:=hinv
   obtain⟨u59,u60,u61,u62,u63,u64,hinv⟩:=hinv
   obtain⟨u65,u66,u67,u68,u69,u70,hinv⟩:=hinv
   obtain⟨u71,u72,u73,u74,u75,u76,hinv⟩:=hinv
   obtain⟨u77,u78,u79,u80,u81,u82,hinv⟩:=hinv
   obtain⟨u83,u84,u85,u86,u87,u88,hinv⟩:=hinv
   obtain⟨u89,u90,u91,u92,u93,u94,hinv⟩:=hinv
   obtain⟨u95,u96,u97,u98,u99,u100,hinv⟩:=hinv
   obtain⟨u101,u102,u103,u104,u105,u106,hinv⟩:=hinv
   obtain⟨u107,u108,u109,u110,u111,u112,hinv⟩:=hinv
   obtain⟨u113,u114,u115,u116,u117,u118,hinv⟩:=hinv
   obtain⟨u119,u120,u121,u122,u123,u124,hinv⟩:=hinv
   obtain⟨u125,u126,u127,u128,u129,u130,hinv⟩:=hinv
   obtain⟨u131,u132,u133,u134,u135,u136,hinv⟩:=hinv
   obtain⟨u137,u138,u139,u140,u141,u142,hinv⟩:=hinv
   obtain⟨u143,u144,u145,u146,u147,u148,hinv⟩:=hinv
   obtain⟨u149,u150,u151,u152,u153,u154,hinv⟩:=hinv
   obtain⟨u155,u156,u157,u158,u159,u160,hinv⟩:=hinv
   obtain⟨u161,u162,u163,u164,u165,u166,hinv⟩:=hinv
   obtain⟨u167,u168,u169,u170,u171,u172,hinv⟩:=hinv
   obtain⟨u173,u174,u175,u176,u177,u178,hinv⟩:=hinv
   obtain⟨u179,u180,u181,u182,u183,u184,hinv⟩:=hinv
   obtain⟨u185,u186,u187,u188,u189,u190,hinv⟩:=hinv
   obtain⟨u191,u192,u193,u194,u195,u196,hinv⟩:=hinv
   obtain⟨u197,u198,u199,u200,u201,u202,hinv⟩:=hinv
   obtain⟨u203,u204,u205,u206,u207,u208,hinv⟩:=hinv
   obtain⟨u209,u210,u211,u212,u213,u214,hinv⟩:=hinv
   obtain⟨u215,u216,u217,u218,u219,u220,hinv⟩:=hinv
   obtain⟨u221,u222,u223,u224,u225,hinv⟩:=hinv
   obtain⟨hjmp,ha⟩:=hinv
   subst ha
   try dsimp only
   clear HQ HF
   obtain⟨⟨p',rfl,rfl,rfl,rfl,hz,hq,hpp⟩,rfl⟩:=hjmp
   refine⟨_,by rfl,?_⟩
   have hpl':=hq.lt
   by_cases h2:vc (bn t p')=2
   ·
    obtain⟨q,hs,hq2⟩:=hq.two h2
    have HS:=Lib.hid hs
    have HQ:=Lib.hid hq2
    have hql:=hs.lt
    have hqs:=hs.le
    have hd1:=hq2.pos
    clear hs hq2 hz hq
    go_wp2_with fail
    clear h2
    obtain⟨J,HJ⟩:∃ J:Nat→Nat→Go.Act→Go.World→Prop,Go.RowKit.Hid (J=fun n' l' a' w'=>∃ (u1 u10 u11 u12 u13 u108 u109 u110 u111 u112 u113 u114 u115 u116 u117 u118 u119 u120 u121 u122 u123 u124 u125 u126 u127 u128 u129 u130 u131 u132 u133 u134 u135 u136 u137 u138 u139 u140 u141 u142 u143 u144 u145 u146 u147 u148 u149 u150 u151 u152 u153 u154 u155 u156 u157 u158 u159 u160 u161 u162 u163 u164 u165 u166 u167 u168 u169 u170 u171 u172 u173 u174 u175 u176 u177 u178 u179 u180 u181 u182 u183 u184 u185 u186 u187 u188 u189 u190 u191 u192 u193 u194 u195 u196 u197 u198 u199 u200 u201 u202 u203 u204 u205 u206 u207 u208 u209:Go.Value),(QT t (p'+1) q n' l' u1∧u10 = .int .i64 (↑p'+1)∧w=w')∧a'={ tmps:=#[.string t,u1,undef,undef,u4,u5, .int .i64 ↑i, .int .i64 ↑d, .int .u8 (vc (bn t p')),u9,u10,u11,u12,u13, .int .i64 ↑i, .int .i64 ↑i, .int .i64 (↑i+1), .int .i64 ↑p, .string t, .int .i64 ↑t.size, .bool true,u21,u22,u23,u24,u25,u26,u27,u28,u29,u30,u31,u32,u33,u34,u35,u36,u37,u38,u39,u40,u41,u42,u43,u44,u45,u46,u47,u48,u49,u50,u51,u52,u53,u54,u55,u56,u57,u58,u59,u60,u61,u62,u63,u64,u65,u66,u67,u68,u69,u70,u71,u72,u73,u74,u75,u76,u77,u78,u79,u80,u81,u82,u83,u84,u85,u86,u87,u88,u89,u90,u91,u92,u93,u94,u95,u96,u97,u98,u99,u100,u101,u102,u103,u104,u105, .int .u8 (vc (bn t p')), .bool true,u108,u109,u110,u111,u112,u113,u114,u115,u116,u117,u118,u119,u120,u121,u122,u123,u124,u125,u126,u127,u128,u129,u130,u131,u132,u133,u134,u135,u136,u137,u138,u139,u140,u141,u142,u143,u144,u145,u146,u147,u148,u149,u150,u151,u152,u153,u154,u155,u156,u157,u158,u159,u160,u161,u162,u163,u164,u165,u166,u167,u168,u169,u170,u171,u172,u173,u174,u175,u176,u177,u178,u179,u180,u181,u182,u183,u184,u185,u186,u187,u188,u189,u190,u191,u192,u193,u194,u195,u196,u197,u198,u199,u200,u201,u202,u203,u204,u205,u206,u207,u208,u209,u210,u211,u212,u213,u214,u215,u216,u217,u218,u219,u220,u221,u222,u223,u224,u225,undef,undef,undef,undef],defers:=[] }):=⟨_,Go.Lib.hid rfl⟩
    refine wX J ?pass ?first
    case first =>
     intro HF
     go_wp2_with fail
     rename_i K1 hK1
     refine wp_label (hK1 _ _ ?_)
     refine HF.out (3 * (q - (p'+1))+3) 2 _ _ _ ?_ (by rfl)
     rw [HJ.out]
     (repeat apply Exists.intro)
     refine⟨?rel,rfl⟩
     case rel=>exact⟨⟨p'+1,by go_num,by omega,by omega, .inl ⟨rfl,rfl⟩⟩,by go_num,rfl⟩
    case pass =>
     intro nj HF lj _ wj hinv
     rw [HJ.out] at hinv
     iterate 107 obtain⟨_,hinv⟩:=hinv
     obtain⟨hjmp,ha⟩:=hinv
     subst ha
     try dsimp only
     obtain⟨⟨p2,rfl,hp1,hp2,hl⟩,rfl,rfl⟩:=hjmp
     rcases hl with ⟨rfl,rfl⟩|⟨rfl,rfl,h34⟩|⟨rfl,rfl⟩
     ·
      refine⟨_,by rfl,?_⟩
      go_wp2_with fail
      go_loop [1] (fun a1=>QU t (p'+1) q p2 a1) (fun a1=>t.size - (intOf a1).toNat)
      case atStart=>exact⟨p2,rfl,hp1,hp2,by omega⟩
      case round =>
       clear HF hp1 hp2
       obtain⟨p3,rfl,hp1,hp2,hpp3⟩:=hrel
       have hpl3:p3 < t.size:=by omega
       have h34q:=HS.out.cls
       by_cases hch:(p3:Int) < (t.size:Int) - 8
       ·
        obtain⟨js,hjs⟩:∃ js,t.extract p3 (p3+8)=js:=⟨_,rfl⟩
        have hsl:=y5 t p3 (p3+8) (p3:Int) ((p3:Int)+8) rfl (by omega) (by omega) (by omega)
        rw [hjs] at hsl
        have hjz:js.size=8:=by rw [← hjs,ByteArray.size_extract];omega
        have hw8:IntKind.i64.wrap ((p3:Int)+8)=(p3:Int)+8:=IntWalk.i64_in _ (by omega)
        have hjb:=vP js
        have HC:=Lib.hid (fun (j:Nat) (hj:j < 8)=>hjs ▸ zBl t p3 (p3+8) j (by omega) (by omega))
        have HQQ:=Lib.hid h34q
        clear hjs h34q
        have hj0:bn js 0=bn t p3:=HC.out 0 (by omega)
        by_cases hz0:bn t (p3)=34
        ·
         clear HC
         as_aux_lemma =>
          go_wp2_with fail
          go_step3
          refine⟨(3 * (q - (p3))+2),?less,?_⟩
          rotate_left
          rw [HJ.out]
          (repeat apply Exists.intro)
          refine⟨?rel,rfl⟩
          case less=>omega
          case rel=>exact⟨⟨p3,Zq1,by omega,by omega, .inr (.inl ⟨rfl,rfl,hz0⟩)⟩,rfl,rfl⟩
        have hzb0:(bn t (p3) == 34)=false:=beq_eq_false_iff_ne.mpr hz0
        have hq0:p3 < q:=by
         rcases Nat.lt_or_ge (p3) q with h|h
         ·
          exact h
         ·
          exact absurd (by rw [show p3=q by omega];exact HQQ.out) hz0
        clear hz0
        have hj1:=HC.out 1 (by omega)
        have hi1:IntKind.i64.wrap ((p3:Int)+1)=(p3:Int)+1:=IntWalk.i64_in _ (by omega)
        by_cases hz1:bn t (p3+1)=34
        ·
         clear HC
         as_aux_lemma =>
          go_wp2_with fail
          go_step3
          refine⟨(3 * (q - (p3+1))+2),?less,?_⟩
          rotate_left
          rw [HJ.out]
          (repeat apply Exists.intro)
          refine⟨?rel,rfl⟩
          case less=>omega
          case rel=>exact⟨⟨p3+1,Zq1,by omega,by omega, .inr (.inl ⟨rfl,rfl,hz1⟩)⟩,rfl,rfl⟩
        have hzb1:(bn t (p3+1) == 34)=false:=beq_eq_false_iff_ne.mpr hz1
        have hq1:p3+1 < q:=by
         rcases Nat.lt_or_ge (p3+1) q with h|h
         ·
          exact h
         ·
          exact absurd (by rw [show p3+1=q by omega];exact HQQ.out) hz1
        clear hz1
        have hj2:=HC.out 2 (by omega)
        have hi2:IntKind.i64.wrap ((p3:Int)+2)=(p3:Int)+2:=IntWalk.i64_in _ (by omega)
        by_cases hz2:bn t (p3+2)=34
        ·
         clear HC
         as_aux_lemma =>
          go_wp2_with fail
          go_step3
          refine⟨(3 * (q - (p3+2))+2),?less,?_⟩
          rotate_left
          rw [HJ.out]
          (repeat apply Exists.intro)
          refine⟨?rel,rfl⟩
          case less=>omega
          case rel=>exact⟨⟨p3+2,Zq1,by omega,by omega, .inr (.inl ⟨rfl,rfl,hz2⟩)⟩,rfl,rfl⟩
        have hzb2:(bn t (p3+2) == 34)=false:=beq_eq_false_iff_ne.mpr hz2
        have hq2:p3+2 < q:=by
         rcases Nat.lt_or_ge (p3+2) q with h|h
         ·
          exact h
         ·
          exact absurd (by rw [show p3+2=q by omega];exact HQQ.out) hz2
        clear hz2
        have hj3:=HC.out 3 (by omega)
        have hi3:IntKind.i64.wrap ((p3:Int)+3)=(p3:Int)+3:=IntWalk.i64_in _ (by omega)
        by_cases hz3:bn t (p3+3)=34
        ·
         clear HC
         as_aux_lemma =>
          go_wp2_with fail
          go_step3
          refine⟨(3 * (q - (p3+3))+2),?less,?_⟩
          rotate_left
          rw [HJ.out]
          (repeat apply Exists.intro)
          refine⟨?rel,rfl⟩
          case less=>omega
          case rel=>exact⟨⟨p3+3,Zq1,by omega,by omega, .inr (.inl ⟨rfl,rfl,hz3⟩)⟩,rfl,rfl⟩
        have hzb3:(bn t (p3+3) == 34)=false:=beq_eq_false_iff_ne.mpr hz3
        have hq3:p3+3 < q:=by
         rcases Nat.lt_or_ge (p3+3) q with h|h
         ·
          exact h
         ·
          exact absurd (by rw [show p3+3=q by omega];exact HQQ.out) hz3
        clear hz3
        have hj4:=HC.out 4 (by omega)
        have hi4:IntKind.i64.wrap ((p3:Int)+4)=(p3:Int)+4:=IntWalk.i64_in _ (by omega)
        by_cases hz4:bn t (p3+4)=34
        ·
         clear HC
         as_aux_lemma =>
          go_wp2_with fail
          go_step3
          refine⟨(3 * (q - (p3+4))+2),?less,?_⟩
          rotate_left
          rw [HJ.out]
          (repeat apply Exists.intro)
          refine⟨?rel,rfl⟩
          case less=>omega
          case rel=>exact⟨⟨p3+4,Zq1,by omega,by omega, .inr (.inl ⟨rfl,rfl,hz4⟩)⟩,rfl,rfl⟩
        have hzb4:(bn t (p3+4) == 34)=false:=beq_eq_false_iff_ne.mpr hz4
        have hq4:p3+4 < q:=by
         rcases Nat.lt_or_ge (p3+4) q with h|h
         ·
          exact h
         ·
          exact absurd (by rw [show p3+4=q by omega];exact HQQ.out) hz4
        clear hz4
        have hj5:=HC.out 5 (by omega)
        have hi5:IntKind.i64.wrap ((p3:Int)+5)=(p3:Int)+5:=IntWalk.i64_in _ (by omega)
        by_cases hz5:bn t (p3+5)=34
        ·
         clear HC
         as_aux_lemma =>
          go_wp2_with fail
          go_step3
          refine⟨(3 * (q - (p3+5))+2),?less,?_⟩
          rotate_left
          rw [HJ.out]
          (repeat apply Exists.intro)
          refine⟨?rel,rfl⟩
          case less=>omega
          case rel=>exact⟨⟨p3+5,Zq1,by omega,by omega, .inr (.inl ⟨rfl,rfl,hz5⟩)⟩,rfl,rfl⟩
        have hzb5:(bn t (p3+5) == 34)=false:=beq_eq_false_iff_ne.mpr hz5
        have hq5:p3+5 < q:=by
         rcases Nat.lt_or_ge (p3+5) q with h|h
         ·
          exact h
         ·
          exact absurd (by rw [show p3+5=q by omega];exact HQQ.out) hz5
        clear hz5
        have hj6:=HC.out 6 (by omega)
        have hi6:IntKind.i64.wrap ((p3:Int)+6)=(p3:Int)+6:=IntWalk.i64_in _ (by omega)
        by_cases hz6:bn t (p3+6)=34
        ·
         clear HC
         as_aux_lemma =>
          go_wp2_with fail
          go_step3
          refine⟨(3 * (q - (p3+6))+2),?less,?_⟩
          rotate_left
          rw [HJ.out]
          (repeat apply Exists.intro)
          refine⟨?rel,rfl⟩
          case less=>omega
          case rel=>exact⟨⟨p3+6,Zq1,by omega,by omega, .inr (.inl ⟨rfl,rfl,hz6⟩)⟩,rfl,rfl⟩
        have hzb6:(bn t (p3+6) == 34)=false:=beq_eq_false_iff_ne.mpr hz6
        have hq6:p3+6 < q:=by
         rcases Nat.lt_or_ge (p3+6) q with h|h
         ·
          exact h
         ·
          exact absurd (by rw [show p3+6=q by omega];exact HQQ.out) hz6
        clear hz6
        have hj7:=HC.out 7 (by omega)
        have hi7:IntKind.i64.wrap ((p3:Int)+7)=(p3:Int)+7:=IntWalk.i64_in _ (by omega)
        by_cases hz7:bn t (p3+7)=34
        ·
         clear HC
         as_aux_lemma =>
          go_wp2_with fail
          go_step3
          refine⟨(3 * (q - (p3+7))+2),?less,?_⟩
          rotate_left
          rw [HJ.out]
          (repeat apply Exists.intro)
          refine⟨?rel,rfl⟩
          case less=>omega
          case rel=>exact⟨⟨p3+7,Zq1,by omega,by omega, .inr (.inl ⟨rfl,rfl,hz7⟩)⟩,rfl,rfl⟩
        have hzb7:(bn t (p3+7) == 34)=false:=beq_eq_false_iff_ne.mpr hz7
        have hq7:p3+7 < q:=by
         rcases Nat.lt_or_ge (p3+7) q with h|h
         ·
          exact h
         ·
          exact absurd (by rw [show p3+7=q by omega];exact HQQ.out) hz7
        clear hz7
        clear HC
        as_aux_lemma =>
         go_wp2_with fail
         go_round
         case rel=>exact⟨p3+8,by go_num,by omega,by omega,by omega⟩
         case measure=>first|(simp [intOf];done)|(simp [intOf];omega)
       ·
        clear h34q
        as_aux_lemma =>
         go_wp2_with fail
         go_step3
         refine⟨(3 * (q - p3)+1),?less,?_⟩
         rotate_left
         rw [HJ.out]
         (repeat apply Exists.intro)
         refine⟨?rel,rfl⟩
         case less=>omega
         case rel=>exact⟨⟨p3,rfl,by omega,by omega, .inr (.inr ⟨rfl,rfl⟩)⟩,rfl,rfl⟩
     ·
      refine⟨_,by rfl,?_⟩
      have hk1':(1:Int)≤p2:=by omega
      have hk3':((p2:Int) - 1).toNat=p2 - 1:=by omega
      have hk4':p2 - 1 < t.size:=by omega
      by_cases h92:bn t (p2 - 1)=92
      ·
       as_aux_lemma =>
        go_wp2_with fail
        rename_i K1 hK1
        refine wp_label (hK1 _ _ ?_)
        refine HF.out (3 * (q - p2)+1) 3 _ _ _ ?less ?_ (by rfl)
        rotate_left
        rw [HJ.out]
        (repeat apply Exists.intro)
        refine⟨?rel,rfl⟩
        case less=>omega
        case rel=>exact⟨⟨p2,rfl,by omega,by omega, .inr (.inr ⟨rfl,rfl⟩)⟩,rfl,rfl⟩
      ·
       have hpq:p2=q:=by
        rcases Nat.lt_or_ge p2 q with h|h
        ·
         have h1:=HS.out.inner (p2 - (p'+1)) (by omega) (by rw [show p'+1+(p2 - (p'+1))=p2 by omega];exact h34)
         rcases Nat.lt_or_ge (p'+1) p2 with h3|h3
         ·
          rw [uP t (p'+1) p2 h3 h92] at h1;cases h1
         ·
          rw [show p2 - (p'+1)=0 by omega] at h1;cases h1
        ·
         omega
       subst hpq
       have h92b:(bn t (p2 - 1) != 92)=true:=bne_iff_ne.mpr h92
       clear h92 HF
       as_aux_lemma =>
        go_wp2_with fail
        refine ZM ?_
        go_wp2_with fail
        refine ZM ?_
        go_wp2_with fail
        go_round
        case rel=>exact⟨p2+1,d,by go_num,rfl,by omega,HQ.out⟩
        case measure=>first|(simp [intOf];done)|(simp [intOf];omega)
     ·
      refine⟨_,by rfl,?_⟩
      clear HF
      go_wp2_with fail
      go_loop [1] (fun a1=>QU t (p'+1) q p2 a1) (fun a1=>t.size - (intOf a1).toNat)
      case atStart=>exact⟨p2,rfl,hp1,hp2,by omega⟩
      case round =>
       clear hp1 hp2
       obtain⟨p3,rfl,hp1,hp2,hpp3⟩:=hrel
       have hpl3:p3 < t.size:=by omega
       by_cases hgt:92 < bn t p3
       ·
        have hpq:p3 < q:=by
         rcases Nat.lt_or_ge p3 q with h|h
         ·
          exact h
         ·
          obtain rfl:p3=q:=by omega
          have:=HS.out.cls;omega
        as_aux_lemma =>
         go_wp2_with fail
         go_round
         case rel=>exact⟨p3+1,by go_num,by omega,by omega,by omega⟩
         case measure=>first|(simp [intOf];done)|(simp [intOf];omega)
       ·
        by_cases h34:bn t p3=34
        ·
         have hk1':(1:Int)≤p3:=by omega
         have hk3':((p3:Int) - 1).toNat=p3 - 1:=by omega
         have hk4':p3 - 1 < t.size:=by omega
         by_cases h92:bn t (p3 - 1)=92
         ·
          have hks:p'+2≤p3:=by
           rcases Nat.lt_or_ge p3 (p'+2) with h|h
           ·
            have:=HS.out.opn
            rw [show p3 - 1=p'+1 - 1 by omega] at h92
            omega
           ·
            exact h
          have H92:=Lib.hid h92
          have hE:uO t (p'+1) (p3 - (p'+1))=decide (p3 < q):=by
           by_cases hkq:p3 < q
           ·
            have:=HS.out.inner (p3 - (p'+1)) (by omega) (by rw [show p'+1+(p3 - (p'+1))=p3 by omega];exact h34)
            rw [this];simp [hkq]
           ·
            obtain rfl:p3=q:=by omega
            rw [HS.out.noesc];simp
          have HE:=Lib.hid hE
          have hws:IntKind.i64.wrap ((p':Int)+1 - 1)=(p':Int):=by rw [IntWalk.i64_in ((p':Int)+1 - 1) (by omega)];omega
          clear hE
          go_upto_block 8 with fail
          go_cut [12,13] (fun a12 a13 wx=>QBx t (p'+1) p3 a12∧w=wx)
          case first =>
           go_wp2_with fail
           go_loop [12,13] (fun a12 a13=>QB t (p'+1) p3 a12 a13) (fun _ a13=>(intOf a13).toNat)
           case atStart=>exact⟨p3 - 2,0,rfl,by congr 1;omega,by omega,by omega,fun p h1 h2=>by obtain rfl:p=p3 - 1:=(by omega);exact H92.out⟩
           case round =>
            clear h92
            obtain⟨j,c,rfl,rfl,hjs,hjc,hr⟩:=hrel
            have hcl:c≤p3:=by omega
            have HR:=Lib.hid (And.intro hjc hr)
            clear hjc hr
            have hjl:j < t.size:=by have:=HR.out.1;omega
            by_cases hjp:p' < j
            ·
             by_cases hj:bn t j=92
             ·
              have HJ9:=Lib.hid hj
              as_aux_lemma =>
               go_wp2_with fail
               go_round
               case rel=>exact⟨j - 1,c+1,Zq1,by congr 1;omega,by omega,by have:=HR.out.1;omega,fun p h1 h2=>by
                rcases Nat.lt_or_ge j p with h|h
                ·
                 exact HR.out.2 p h h2
                ·
                 obtain rfl:p=j:=(by omega)
                 exact HJ9.out⟩
               case measure=>first|(simp [intOf];done)|(simp [intOf];omega)
             ·
              have hjb:(bn t j != 92)=true:=bne_iff_ne.mpr hj
              as_aux_lemma =>
               go_wp2_with fail
               go_meet
               case rel =>
                have hc:=Y8 t (p'+1) (c+1) j (p3 - (p'+1)) (by have:=HR.out.1;omega) (fun p h1 h2=>HR.out.2 p h1 (by omega)) (.inr ⟨hj,by omega⟩)
                exact⟨⟨c,rfl,by omega,by rw [hc];exact WR c⟩,rfl⟩
            ·
             as_aux_lemma =>
              go_wp2_with fail
              go_meet
              case rel =>
               have hc:=Y8 t (p'+1) (c+1) j (p3 - (p'+1)) (by have:=HR.out.1;omega) (fun p h1 h2=>HR.out.2 p h1 (by omega)) (.inl (by omega))
               exact⟨⟨c,rfl,by omega,by rw [hc];exact WR c⟩,rfl⟩
          case rest =>
           clear h92
           obtain⟨⟨c,rfl,hcl,hc⟩,rfl⟩:=hcut
           have hE:=HE.out
           by_cases hkq:p3 < q
           ·
            rw [decide_eq_true hkq] at hE
            rw [hE] at hc
            have hc2:(c:Int).tmod 2=0:=by
             have:=beq_iff_eq.mp hc.symm
             rw [Int.tmod_eq_emod_of_nonneg (by omega)]
             omega
            have hc3:((c:Int) % 2 == 0)=true:=by
             have:=beq_iff_eq.mp hc.symm
             exact beq_iff_eq.mpr (by omega)
            clear hE hc
            as_aux_lemma =>
             go_wp2_with fail
             go_step3
             refine⟨(3 * (q - (p3+1))+3),?less,?_⟩
             rotate_left
             rw [HJ.out]
             (repeat apply Exists.intro)
             refine⟨?rel,rfl⟩
             case less=>omega
             case rel=>exact⟨⟨p3+1,Zq1,by omega,by omega, .inl ⟨rfl,rfl⟩⟩,rfl,rfl⟩
           ·
            obtain rfl:p3=q:=by omega
            rw [decide_eq_false hkq] at hE
            rw [hE] at hc
            have hc2:(c:Int).tmod 2=1:=by
             have:=beq_eq_false_iff_ne.mp hc.symm
             rw [Int.tmod_eq_emod_of_nonneg (by omega)]
             omega
            have hc3:((c:Int) % 2 == 0)=false:=by
             have:=beq_eq_false_iff_ne.mp hc.symm
             exact beq_eq_false_iff_ne.mpr (by omega)
            clear hE hc
            as_aux_lemma =>
             go_wp2_with fail
             refine qU ?_
             go_wp2_with fail
             refine qU ?_
             go_wp2_with fail
             go_round
             case rel=>exact⟨p3+1,d,by go_num,rfl,by omega,HQ.out⟩
             case measure=>first|(simp [intOf];done)|(simp [intOf];omega)
         ·
          have hpq:p3=q:=by
           rcases Nat.lt_or_ge p3 q with h|h
           ·
            have h1:=HS.out.inner (p3 - (p'+1)) (by omega) (by rw [show p'+1+(p3 - (p'+1))=p3 by omega];exact h34)
            rcases Nat.lt_or_ge (p'+1) p3 with h3|h3
            ·
             rw [uP t (p'+1) p3 h3 h92] at h1;cases h1
            ·
             rw [show p3 - (p'+1)=0 by omega] at h1;cases h1
           ·
            omega
          subst hpq
          have h92b:(bn t (p3 - 1) == 92)=false:=beq_eq_false_iff_ne.mpr h92
          clear h92
          as_aux_lemma =>
           go_wp2_with fail
           refine qU ?_
           go_wp2_with fail
           refine qU ?_
           go_wp2_with fail
           go_round
           case rel=>exact⟨p3+1,d,by go_num,rfl,by omega,HQ.out⟩
           case measure=>first|(simp [intOf];done)|(simp [intOf];omega)
        ·
         have hpq:p3 < q:=by
          rcases Nat.lt_or_ge p3 q with h|h
          ·
           exact h
          ·
           obtain rfl:p3=q:=by omega
           exact absurd HS.out.cls h34
         have h34b:(bn t p3 != 34)=true:=bne_iff_ne.mpr h34
         clear h34
         as_aux_lemma =>
          go_wp2_with fail
          go_round
          case rel=>exact⟨p3+1,by go_num,by omega,by omega,by omega⟩
          case measure=>first|(simp [intOf];done)|(simp [intOf];omega)
   ·
    by_cases h3:vc (bn t p')=3
    ·
     have hq3:=hq.three h3
     have HQ:=Lib.hid hq3
     have hdp':d≤p':=by omega
     clear hq hz h2
     as_aux_lemma =>
      go_wp2_with fail
      refine qU ?_
      go_wp2_with fail
      go_round
      case rel=>exact⟨p'+1,d+1,by go_num,Zq1,by omega,HQ.out⟩
      case measure=>first|(simp [intOf];done)|(simp [intOf];omega)
    ·
     have h1:vc (bn t p')=1:=by have:=zFe (bn t p');omega
     rcases hq.one h1 with ⟨rfl,rfl⟩|⟨hd2,hq1⟩
     ·
      have hsl:=y5 t i (p'+1) (i:Int) ((p':Int)+1) rfl (by omega) (by omega) (by omega)
      have hwp:IntKind.i64.wrap ((p':Int)+1)=(p':Int)+1:=IntWalk.i64_in _ (by omega)
      clear hq hz h2 h3
      as_aux_lemma =>
       go_wp2_with fail
       go_quiet (fail)
       go_wp2_with fail
       refine zCd ?_
       go_ret2
       exact⟨_,rfl,rfl⟩
     ·
      have HQ:=Lib.hid hq1
      have hdd:¬ (d:Int) + -1=0:=by omega
      clear hq hz h2 h3
      as_aux_lemma =>
       go_wp2_with fail
       refine qU ?_
       go_wp2_with fail
       go_round
       case rel=>exact⟨p'+1,d - 1,by go_num,by congr 1;omega,by omega,HQ.out⟩
       case measure=>first|(simp [intOf];done)|(simp [intOf];omega)
end Go.Proofs.YtljhmnnhfnmhmaaGreatDoor.M
