/-
Lemmas of this claim; made short by a program of this work.
-/
import Derived.Test.YtljhmnnhfnmhmaaGreatDoorUM7
import Derived.Test.YtljhmnnhfnmhmaaGreatDoorUM0
set_option linter.unusedVariables false
set_option linter.unusedSimpArgs false
set_option maxHeartbeats 4000000
namespace Go.Proofs.YtljhmnnhfnmhmaaGreatDoor.M
open Go Go.RowKit Go.Lib Go.Proofs.YtljhmnnhfnmhmaaGreatDoorW.PrintWords
def BoP (w:World) (e:Ending) (w':World):Prop:=∃ v:Bool,e = .returned (.bool v)∧w'=w
def RuP (w:World) (e:Ending) (w':World):Prop:=∃ v:Int,e = .returned (.int .i32 v)∧w'=w
theorem XL (r:Int) (w:World):Calls Tryz.prog 83 #[.int .i32 r] w (BoP w):=by
 go_enter Tryz.func83,Tryz.ntmps83
 go_wp2
 all_goals
  go_ret
  exact⟨_,rfl,rfl⟩
theorem VB (r s:Int) (w:World):Calls Tryz.prog 84 #[.int .i32 r, .int .i32 s] w (RuP w):=by
 go_enter Tryz.func84,Tryz.ntmps84
 go_wp2
 all_goals
  go_ret
  exact⟨_,rfl,rfl⟩
structure Spot (w0 w:World) (g n c:Nat) (xs:List Int) (o:Nat):Prop where
 cell:∃ v,w.cell? ⟨g,o,none⟩=some v
 qP:w.frozen? ⟨g,o,none⟩=false
 put:∀ x,Buf w0 (w.setCell ⟨g,o,none⟩ (.int .u8 x)) (.slice (some ⟨g,0,none⟩) n c) (xs.set o x)
 bel:∀ x,Below w0.heap.size w0 w→w0.heap.size≤g→Below w0.heap.size w0 (w.setCell ⟨g,o,none⟩ (.int .u8 x))
theorem Buf.spot {w0 w:World} {g n c:Nat} {xs:List Int} (h:Buf w0 w (.slice (some ⟨g,0,none⟩) n c) xs) (o:Nat) (ho:o < n):Spot w0 w g n c xs o:=by
 have h1:=Kd.zGp (0:Int) h (o:Int) (by omega) (by omega)
 simp only [Int.toNat_natCast] at h1
 refine⟨⟨_,h1.1⟩,h1.2,fun x=>?_,fun x hb hg=>?_⟩
 ·
  have:=(Kd.zFi h (o:Int) x).1
  simp only [Int.toNat_natCast] at this
  exact this
 ·
  have:=(Kd.zFi h (o:Int) x).2
  simp only [Int.toNat_natCast] at this
  exact hb.grown this hb.size (fun k hk=>by injection hk with hk;omega)
def BB (w0:World) (g n c L:Nat) (w:World):Prop:=∃ ys:List Int,ys.length=L∧Buf w0 w (.slice (some ⟨g,0,none⟩) n c) ys∧Below w0.heap.size w0 w
theorem BB.set {w0 w:World} {g n c L o:Nat} (hg:w0.heap.size≤g) (ho:o < n) (x:Int) (h:BB w0 g n c L w):BB w0 g n c L (w.setCell ⟨g,o,none⟩ (.int .u8 x)):=by
 obtain⟨ys,h1,h2,h3⟩:=h
 have s:=h2.spot o ho
 exact⟨ys.set o x,by simp [h1],s.put x,s.bel x h3 hg⟩
def EnP (w0:World) (g n c L:Nat) (e:Ending) (w':World):Prop:=∃ k:Int,e = .returned (.int .i64 k)∧1≤k∧k≤4∧BB w0 g n c L w'
theorem uN (w0 w:World) (g o n c cc L:Nat) (r:Int) (hB:BB w0 g n c L w) (hn:o+8≤n) (hg:w0.heap.size≤g) :
  Calls Tryz.prog 97 #[.slice (some ⟨g,o,none⟩) 8 cc, .int .i32 r] w (EnP w0 g n c L):=by
 have HB:=Lib.hid hB
 obtain⟨ys,hyl,hB,hb⟩:=hB
 have s0:=hB.spot o (by omega)
 have s1:=hB.spot (o+1) (by omega)
 have s2:=hB.spot (o+2) (by omega)
 have s3:=hB.spot (o+3) (by omega)
 have f0:=s0.qP
 have f1:=s1.qP
 have f2:=s2.qP
 have f3:=s3.qP
 obtain⟨v0,c0⟩:=s0.cell
 obtain⟨v1,c1⟩:=s1.cell
 obtain⟨v2,c2⟩:=s2.cell
 obtain⟨v3,c3⟩:=s3.cell
 clear hB hb s0 s1 s2 s3
 go_enter Tryz.func97,Tryz.ntmps97
 go_wp2_with fail
 all_goals
  go_ret
  exact⟨_,rfl,by decide,by decide,by repeat (first|exact HB.out|(refine BB.set hg (by omega) _ ?_))⟩
theorem VC (w0 w:World) (g o n c cc L:Nat) (r:Int) (hB:BB w0 g n c L w) (hn:o+8≤n) (hg:w0.heap.size≤g) :
  Calls Tryz.prog 85 #[.slice (some ⟨g,o,none⟩) 8 cc, .int .i32 r] w (EnP w0 g n c L):=by
 have HB:=Lib.hid hB
 have HE:=Lib.hid (uN w0 w g o n c cc L r hB hn hg)
 obtain⟨ys,hyl,hB,hb⟩:=hB
 have s0:=hB.spot o (by omega)
 have f0:=s0.qP
 obtain⟨v0,c0⟩:=s0.cell
 clear hB hb s0
 go_enter Tryz.func85,Tryz.ntmps85
 go_wp2_with fail
 ·
  go_ret
  exact⟨_,rfl,by decide,by decide,BB.set hg (by omega) _ HB.out⟩
 ·
  refine HE.out.mono ?_
  rintro e w1 ⟨k,rfl,hk1,hk2,hb⟩
  have HK:=Lib.hid (And.intro hk1 (And.intro hk2 hb))
  clear hk1 hk2 hb
  go_wp2_with fail
  go_ret
  exact⟨_,rfl,HK.out.1,HK.out.2.1,HK.out.2.2⟩
end Go.Proofs.YtljhmnnhfnmhmaaGreatDoor.M
