/-
Lemmas of this claim; made short by a program of this work.
-/
import Derived.Test.YtljhmnnhfnmhmaaGreatDoorUEn
import Derived.Test.YtljhmnnhfnmhmaaGreatDoorUM9
import Derived.Test.YtljhmnnhfnmhmaaGreatDoorUM3
import Derived.Test.YtljhmnnhfnmhmaaGreatDoorUFl11
import Derived.Sort.AtCall
import Derived.Test.YtljhmnnhfnmhmaaGreatDoorUM0
set_option linter.unusedVariables false
set_option linter.unusedSimpArgs false
set_option maxHeartbeats 4000000
set_option maxRecDepth 100000
namespace Go.Proofs.YtljhmnnhfnmhmaaGreatDoor.M
open Go Go.RowKit Go.Lib Go.Proofs.YtljhmnnhfnmhmaaGreatDoorW.PrintWords
def lw (c:Int):Int:=if c≤70 then c+32 else c
theorem zCj (c:Int) (h:(97≤c∧c≤102)∨(65≤c∧c≤70)) (w:World):Calls Tryz.prog 126 #[.int .u8 c] w (fun e w'=>e = .returned (.int .u8 (lw c))∧w'=w):=by
 obtain⟨n,rfl⟩:=Int.eq_ofNat_of_zero_le (show 0≤c by omega)
 have hh:n=97∨n=98∨n=99∨n=100∨n=101∨n=102∨n=65∨n=66∨n=67∨n=68∨n=69∨n=70:=by omega
 clear h
 rcases hh with rfl|rfl|rfl|rfl|rfl|rfl|rfl|rfl|rfl|rfl|rfl|rfl
 all_goals
  go_enter Tryz.func126,Tryz.ntmps126
  go_wp2
  go_ret
  exact⟨rfl,rfl⟩
theorem zEp {c:Int} (h:(97≤c∧c≤102)∨(65≤c∧c≤70)):97≤lw c∧lw c≤102:=by
 unfold lw
 split <;> omega
theorem JV (s:ByteArray) (h:0 < s.size):s.toList.isEmpty=false:=by
 rw [ByteArray.toList_eq]
 cases hl:s.data.toList with
 | nil=>exact absurd (show s.size=0 by rw [← ByteArray.size_data,← Array.length_toList,hl];rfl) (by omega)
 | cons _ _=>rfl
def zGj (s:ByteArray):Prop:=∀ j:Nat,j < s.size→Hex (bn s j)
def UiP (w:World) (e:Ending) (w':World):Prop:=∃ n:Int,e = .returned (.tuple #[.int .u64 n, .nilIface])∧0≤n∧n < 65536∧Below w.heap.size w w'
def UiL (s:ByteArray) (a13 a101:Value):Prop:=∃ (j:Nat) (n:Int),a13 = .int .u64 n∧a101 = .int .i64 (j:Int)∧j≤s.size∧0≤n∧n < 16 ^ j
theorem J2 (s:ByteArray) (w:World) (hs:s.size≤4) (hp:0 < s.size) (h:zGj s):Calls Tryz.prog 105 #[.string s, .int .i64 16, .int .i64 64] w (UiP w):=by
 have hb:=vP s
 have HX:=Lib.hid h
 have hcv:=Lib.run_convert_string_bytes (P:=Tryz.prog) w 9 63 5 s (u := .string) Tryz.underlying9 Tryz.underlying63 Tryz.underlying5
 have hB:∀ j,j < s.size→(Lib.bytesWorld w 5 s).cell? ⟨w.heap.size,j,none⟩=some (.int .u8 (bn s j)):=fun j hj=>by
  rw [Lib.bytesWorld_cell w 5 s j hj,← vP s j hj]
  have hl:j < s.data.toList.length:=by rw [Array.length_toList];exact hj
  rw [List.getD_eq_getElem?_getD,List.getElem?_eq_getElem hl]
  rfl
 have hbel:Below w.heap.size w (Lib.bytesWorld w 5 s):=Y3 (Below.refl _ _) (Nat.le_refl _) 5 s
 obtain⟨W1,hW1⟩:∃ W1,W1=Lib.bytesWorld w 5 s:=⟨_,rfl⟩
 rw [← hW1] at hcv hB hbel
 have HBel:=Lib.hid hbel
 have HB:=Lib.hid hB
 have hne:s.toList.isEmpty=false:=JV s hp
 have hmv:IntKind.u64.wrap (IntKind.u64.wrap 18446744073709551616 - 1)=18446744073709551615:=by
  rw [IntKind.wrap_u64,IntKind.wrap_u64]
  decide
 clear h hW1 hB hbel
 go_enter Tryz.func105,Tryz.ntmps105
 go_wp2_with fail
 go_loop [12,13,101] (fun a12 a13 a101=>a12 = .bool false∧UiL s a13 a101) (fun _ _ a101=>s.size - (RowKit.intOf a101).toNat)
 case atStart=>exact⟨rfl,0,0,rfl,rfl,by omega,by omega,by omega⟩
 case round =>
  obtain⟨rfl,j,n,rfl,rfl,hj,hn0,hn⟩:=hrel
  have hn4:n < 65536:=by
   have:(16:Int) ^ j≤16 ^ 4:=by
    have:=Nat.pow_le_pow_right (n:=16) (by omega) (show j≤4 by omega)
    exact_mod_cast this
   omega
  by_cases hjs:j < s.size
  ·
   have hc:=HB.out j hjs
   have hx:=HX.out j hjs
   have hn3:n < 4096:=by
    have:(16:Int) ^ j≤16 ^ 3:=by
     have:=Nat.pow_le_pow_right (n:=16) (by omega) (show j≤3 by omega)
     exact_mod_cast this
    omega
   have HN:=Lib.hid hn
   clear hn
   by_cases hd:48≤bn s j∧bn s j≤57
   ·
    obtain⟨hd1,hd2⟩:=hd
    have h95:(bn s j == 95)=false:=beq_eq_false_iff_ne.mpr (by omega)
    as_aux_lemma =>
     go_wp2_with fail
     exact⟨⟨rfl,j+1,_,rfl,rfl,by omega,by omega,by have:=HN.out;rw [Int.pow_succ];omega⟩,by simp only [RowKit.intOf];omega⟩
   ·
    have hl:(97≤bn s j∧bn s j≤102)∨(65≤bn s j∧bn s j≤70):=by rcases hx with h|h;exact absurd h hd;exact h
    have hL:=zCj (bn s j) hl
    have hr:=zEp hl
    as_aux_lemma =>
     go_wp2_with (go_at_call 126;refine(hL _).mono ?_;rintro e w' ⟨rfl,rfl⟩)
     exact⟨⟨rfl,j+1,_,rfl,rfl,by omega,by omega,by have:=HN.out;rw [Int.pow_succ];omega⟩,by simp only [RowKit.intOf];omega⟩
  ·
   clear hn
   as_aux_lemma =>
    go_wp2_with fail
    go_ret2
    exact⟨_,rfl,hn0,hn4,HBel.out⟩
def RiP (w:World) (e:Ending) (w':World):Prop:=∃ v:Int,e = .returned (.int .i32 v)∧Below w.heap.size w w'
theorem ZX (s:ByteArray) (w:World) (hs:s.size≤4) (hp:0 < s.size) (h:zGj s):Calls Tryz.prog 96 #[.string s, .int .i64 16, .int .i64 64] w (UiP w):=by
 have HX:=Lib.hid (J2 s w hs hp h)
 clear h
 go_enter Tryz.func96,Tryz.ntmps96
 go_wp2_with fail
 refine HX.out.mono ?_
 rintro e w1 ⟨n,rfl,h0,h1,hb⟩
 have HB:=Lib.hid hb
 clear hb
 go_wp2_with fail
 go_ret2
 exact⟨_,rfl,h0,h1,HB.out⟩
theorem JE (s:ByteArray) (w:World) (hs:4≤s.size) (hz:s.size≤1048576) (h:∀ j:Nat,j < 4→Hex (bn s j)):Calls Tryz.prog 82 #[.string s] w (RiP w):=by
 have hsl:=y5 s 0 4 0 4 rfl rfl (by omega) (by omega)
 obtain⟨js,hjs⟩:∃ js,s.extract 0 4=js:=⟨_,rfl⟩
 have hjz:js.size=4:=by rw [← hjs,ByteArray.size_extract];omega
 have hx:zGj js:=fun j hj=>by rw [← hjs,zBn _ _ _ (by rw [hjs];exact hj)];exact h j (by omega)
 have HX:=Lib.hid (ZX js w (by omega) (by omega) hx)
 rw [hjs] at hsl
 clear h hx
 go_enter Tryz.func82,Tryz.ntmps82
 go_wp2_with fail
 refine HX.out.mono ?_
 rintro e w1 ⟨n,rfl,h0,h1,hb⟩
 have HB:=Lib.hid hb
 clear hb
 go_wp2_with fail
 go_ret
 exact⟨_,rfl,HB.out⟩
end Go.Proofs.YtljhmnnhfnmhmaaGreatDoor.M
