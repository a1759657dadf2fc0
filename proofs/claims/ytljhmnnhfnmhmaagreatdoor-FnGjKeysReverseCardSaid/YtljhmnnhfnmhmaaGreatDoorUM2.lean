/-
Lemmas of this claim; made short by a program of this work.
-/
import Derived.OrdersHeld
import Derived.Deep.RegionHeld3
import Derived.Laws.BitsLemmas
import Derived.RowKit
import Derived.Test.YtljhmnnhfnmhmaaGreatDoorUWWords
set_option linter.unusedVariables false
set_option linter.unusedSimpArgs false
namespace Go.Proofs.YtljhmnnhfnmhmaaGreatDoorW.PrintLast
section
variable {P:Program} {ops:Array Oper} {Q:Exit→Act→World→Prop} {md:Region.Mode} {S:World→Prop} {ds:List Nat}
def Region.kU (md:Region.Mode) (ops:Array Oper) (i:Nat):Nat→Nat→Bool
 | 0,_=>false
 | fuel+1,d=>match ops[d]? with
  | some o=>o.after.any fun e=>Region.binds md e && (e.on == i || Region.kU md ops i fuel e.on)
  | none=>false
def Region.XD (md:Region.Mode) (ops:Array Oper) (listed:Array Bool):Bool :=
 (List.range ops.size).all fun j=>!listed.getD j false || match ops[j]? with
  | some o=>o.after.all fun e=>!Region.binds md e || listed.getD e.on false
  | none=>true
def Region.JR (md:Region.Mode) (ops:Array Oper) (listed:Array Bool) (ds:List Nat) (i:Nat):Bool :=
 ds.all fun d=>listed.getD d true || Region.kU md ops i ops.size d
def qA (md:Region.Mode) (ops:Array Oper) (listed:Array Bool):Prop :=
 ∀ j oj,ops[j]?=some oj→listed.getD j false=true→∀ e ∈ oj.after,Region.binds md e=true→listed.getD e.on false=true
theorem Region.QR {listed:Array Bool} (h:Region.XD md ops listed=true):qA md ops listed:=by
 intro j oj hj hl e he hb
 have hlt:j < ops.size:=(Array.getElem?_eq_some_iff.1 hj).1
 have h1:=List.all_eq_true.1 h j (List.mem_range.2 hlt)
 simp only [hl,hj,Bool.not_true,Bool.false_or] at h1
 have h2:=Array.all_eq_true_iff_forall_mem.1 h1 e he
 simpa [hb] using h2
theorem qA.set {listed:Array Bool} {i:Nat} (h:qA md ops listed) (hi:i ∈ Region.ready md ops listed):qA md ops (listed.setIfInBounds i true):=by
 obtain⟨_,oi,hoi,hall⟩:=mem_ready.1 hi
 intro j oj hj hl e he hb
 by_cases hij:i=j
 ·
  subst hij
  have:oj=oi:=Option.some.inj (hj.symm.trans hoi)
  subst this
  exact getD_set_true (hall e he hb)
 ·
  rw [getD_set_ne false hij] at hl
  exact getD_set_true (h j oj hj hl e he hb)
theorem Region.ZS {listed:Array Bool} {i:Nat} (hc:qA md ops listed):∀ (fuel d:Nat),Region.kU md ops i fuel d=true→listed.getD d false=true→listed.getD i false=true
 | 0,_,h,_=>by simp [Region.kU] at h
 | fuel+1,d,h,hl=>by
  unfold Region.kU at h
  cases ho:ops[d]? with
  | none=>rw [ho] at h;simp at h
  | some o =>
   rw [ho] at h
   obtain⟨e,he,h1⟩:=Array.any_eq_true'.1 h
   simp only [Bool.and_eq_true,Bool.or_eq_true,beq_iff_eq] at h1
   have hle:=hc d o ho hl e he h1.1
   rcases h1.2 with h2|h2
   ·
    rw [← h2];exact hle
   ·
    exact Region.ZS hc fuel e.on h2 hle
theorem Region.XU {listed:Array Bool} {i d fuel:Nat} (hc:qA md ops listed) (hr:Region.kU md ops i fuel d=true) (hun:listed.getD i true=false):d ∉ Region.ready md ops listed:=by
 intro hd
 obtain⟨_,o,ho,hall⟩:=mem_ready.1 hd
 have hi:listed.getD i false=true:=by
  cases fuel with
  | zero=>simp [Region.kU] at hr
  | succ n =>
   unfold Region.kU at hr
   rw [ho] at hr
   obtain⟨e,he,h1⟩:=Array.any_eq_true'.1 hr
   simp only [Bool.and_eq_true,Bool.or_eq_true,beq_iff_eq] at h1
   have hle:=hall e he h1.1
   rcases h1.2 with h2|h2
   ·
    rw [← h2];exact hle
   ·
    exact Region.ZS hc n e.on h2 hle
 rcases Nat.lt_or_ge i listed.size with h'|h'
 ·
  simp [h'] at hun hi
  rw [hun] at hi
  cases hi
 ·
  simp [Array.getElem?_eq_none h'] at hun
def vC (P:Program) (md:Region.Mode) (ops:Array Oper) (Q:Exit→Act→World→Prop) (S:World→Prop) (ds:List Nat):Nat→Array Bool→Act→World→Prop
 | 0,listed,a,w=>Region.ready md ops listed=[]∧Q .normal a w
 | fuel+1,listed,a,w =>
  (Region.ready md ops listed=[]→Q .normal a w) ∧
  ∀ i ∈ Region.ready md ops listed,wpOp P ops Q i (fun a' w'=>(i ∉ ds→S w→S w')∧vC P md ops Q S ds fuel (listed.setIfInBounds i true) a' w') a w
theorem ZF:∀ (fuel:Nat) (listed:Array Bool) (a:Act) (w:World),vC P md ops Q S ds fuel listed a w→wpAny P md ops Q fuel listed a w
 | 0,_,_,_,h=>h
 | fuel+1,_,_,_,h=>⟨h.1,fun i hi=>wpOp_mono (fun a' w' h'=>ZF fuel _ a' w' h'.2) (h.2 i hi)⟩
theorem X0 {i:Nat} {oi:Oper} {v:Value} (hi:ops[i]?=some oi) (hsel:∀ (j:Nat) (o:Oper) cs b,ops[j]?=some o→o.op ≠ .select cs b)
  (hQ:∀ c a w,Q (.panic c) (a.put oi.dst v) w→Q (.panic c) a w) (n:Nat) :
  ∀ (fuel:Nat) (listed:Array Bool) (a:Act) (w:World),
   (∀ j oj,ops[j]?=some oj→j≠i→listed.getD j true=false→(∀ e ∈ oj.after,Region.binds md e=true→e.on≠i)→oi.apart ops oj=true) →
   qA md ops listed→(∀ d ∈ ds,listed.getD d true=false→Region.kU md ops i n d=true) →
   i ∈ Region.ready md ops listed→YieldsIf P ops S oi v a→S w →
   vC P md ops Q S ds fuel (listed.setIfInBounds i true) (a.put oi.dst v) w→vC P md ops Q S ds (fuel+1) listed a w:=by
 intro fuel
 induction fuel with
 | zero =>
  intro listed a w _ _ _ hr hy hS H
  refine⟨fun h=>(by rw [h] at hr;cases hr),fun j hj=>?_⟩
  by_cases hji:j=i
  ·
   subst hji;exact hy.wpOp hi hS ⟨fun _ h=>h,H⟩
  ·
   have:=ready_mono hj hji
   rw [H.1] at this
   cases this
 | succ fuel ih =>
  intro listed a w hfree hc hd hr hy hS H
  refine⟨fun h=>(by rw [h] at hr;cases hr),fun j hj=>?_⟩
  by_cases hji:j=i
  ·
   subst hji;exact hy.wpOp hi hS ⟨fun _ h=>h,H⟩
  ·
   have h1:=H.2 j (ready_mono hj hji)
   obtain⟨hjun,oj,hoj,hall⟩:=mem_ready.1 hj
   have hiun:=(mem_ready.1 hr).1
   have hnot:∀ e ∈ oj.after,Region.binds md e=true→e.on≠i:=fun e he hb heq=>by
    have h1:=hall e he hb
    rw [heq] at h1
    rcases Nat.lt_or_ge i listed.size with h'|h'
    ·
     simp [h'] at hiun h1;rw [hiun] at h1;cases h1
    ·
     simp [Array.getElem?_eq_none h'] at h1
   have hjd:j ∉ ds:=fun hm=>Region.XU hc (hd j hm hjun) hiun hj
   have h2:=wpOp_putIf hoj (hfree j oj hoj hji hjun hnot) (fun cs b=>hsel i oi cs b hi) (fun cs b=>hsel j oj cs b hoj) hQ hy h1
   have hfree':∀ k ok,ops[k]?=some ok→k≠i→(listed.setIfInBounds j true).getD k true=false →
     (∀ e ∈ ok.after,Region.binds md e=true→e.on≠i)→oi.apart ops ok=true:=fun k ok hk hki hun hno=>by
    refine hfree k ok hk hki ?_ hno
    by_cases hjk:j=k
    ·
     subst hjk;exact hjun
    ·
     rw [getD_set_ne true hjk] at hun;exact hun
   have hd':∀ d ∈ ds,(listed.setIfInBounds j true).getD d true=false→Region.kU md ops i n d=true:=fun d hm hun=>by
    refine hd d hm ?_
    by_cases hjk:j=d
    ·
     subst hjk;exact hjun
    ·
     rw [getD_set_ne true hjk] at hun;exact hun
   refine wpOp_mono (fun a' w' h3=>⟨h3.2.1,ih (listed.setIfInBounds j true) a' w' hfree' (hc.set hj) hd' (ready_mono hr (Ne.symm hji)) h3.1 (h3.2.1 hjd hS) ?_⟩) h2
   rw [Array.setIfInBounds_comm _ _ hji]
   exact h3.2.2
theorem QH {i:Nat} {oi:Oper} {v:Value} (hi:ops[i]?=some oi) (hsel:∀ (j:Nat) (o:Oper) cs b,ops[j]?=some o→o.op ≠ .select cs b)
  (hQ:∀ c a w,Q (.panic c) (a.put oi.dst v) w→Q (.panic c) a w) :
  ∀ (fuel:Nat) (listed:Array Bool) (a:Act) (w:World),
   (∀ j oj,ops[j]?=some oj→j≠i→listed.getD j true=false→(∀ e ∈ oj.after,Region.binds md e=true→e.on≠i)→oi.apart ops oj=true) →
   i ∈ Region.ready md ops listed→Yields P ops oi v a →
   vC P md ops Q S ds fuel (listed.setIfInBounds i true) (a.put oi.dst v) w→vC P md ops Q S ds (fuel+1) listed a w:=by
 intro fuel
 induction fuel with
 | zero =>
  intro listed a w _ hr hy H
  refine⟨fun h=>(by rw [h] at hr;cases hr),fun j hj=>?_⟩
  by_cases hji:j=i
  ·
   subst hji;exact(hy.yieldsIf (S:=fun _=>True)).wpOp hi trivial ⟨fun _ h=>h,H⟩
  ·
   have:=ready_mono hj hji
   rw [H.1] at this
   cases this
 | succ fuel ih =>
  intro listed a w hfree hr hy H
  refine⟨fun h=>(by rw [h] at hr;cases hr),fun j hj=>?_⟩
  by_cases hji:j=i
  ·
   subst hji;exact(hy.yieldsIf (S:=fun _=>True)).wpOp hi trivial ⟨fun _ h=>h,H⟩
  ·
   have h1:=H.2 j (ready_mono hj hji)
   obtain⟨hjun,oj,hoj,hall⟩:=mem_ready.1 hj
   have hiun:=(mem_ready.1 hr).1
   have hnot:∀ e ∈ oj.after,Region.binds md e=true→e.on≠i:=fun e he hb heq=>by
    have h1:=hall e he hb
    rw [heq] at h1
    rcases Nat.lt_or_ge i listed.size with h'|h'
    ·
     simp [h'] at hiun h1;rw [hiun] at h1;cases h1
    ·
     simp [Array.getElem?_eq_none h'] at h1
   have h2:=wpOp_put hoj (hfree j oj hoj hji hjun hnot) (fun cs b=>hsel i oi cs b hi) (fun cs b=>hsel j oj cs b hoj) hQ hy h1
   have hfree':∀ k ok,ops[k]?=some ok→k≠i→(listed.setIfInBounds j true).getD k true=false →
     (∀ e ∈ ok.after,Region.binds md e=true→e.on≠i)→oi.apart ops ok=true:=fun k ok hk hki hun hno=>by
    refine hfree k ok hk hki ?_ hno
    by_cases hjk:j=k
    ·
     subst hjk;exact hjun
    ·
     rw [getD_set_ne true hjk] at hun;exact hun
   refine wpOp_mono (fun a' w' h3=>⟨h3.2.1,ih (listed.setIfInBounds j true) a' w' hfree' (ready_mono hr (Ne.symm hji)) h3.1 ?_⟩) h2
   rw [Array.setIfInBounds_comm _ _ hji]
   exact h3.2.2
theorem VN {i:Nat} {oi:Oper} {v:Value} {fuel:Nat} {listed:Array Bool} {a:Act} {w:World} (hi:ops[i]?=some oi)
  (hs:Region.noSelect ops=true) (hf:Region.free md ops listed i=true) (hr:(Region.ready md ops listed).contains i=true)
  (hc:Region.XD md ops listed=true) (hl:Region.JR md ops listed ds i=true)
  (hQ:∀ c a w,Q (.panic c) (a.put oi.dst v) w→Q (.panic c) a w) (hy:YieldsIf P ops S oi v a) (hS:S w)
  (h:vC P md ops Q S ds fuel (listed.setIfInBounds i true) (a.put oi.dst v) w):vC P md ops Q S ds (fuel+1) listed a w :=
 X0 hi (Region.noSelect_spec hs) hQ ops.size fuel listed a w (Region.free_spec hi hf) (Region.QR hc)
  (fun d hm hun=>by have:=List.all_eq_true.1 hl d hm;rw [hun] at this;simpa using this) (by simpa using hr) hy hS h
theorem QG {rs:List Nat} {fuel:Nat} {listed:Array Bool} {a:Act} {w:World} (hr:Region.ready md ops listed=rs) (hne:rs≠[])
  (h:∀ i ∈ rs,wpOp P ops Q i (fun a' w'=>(i ∉ ds→S w→S w')∧vC P md ops Q S ds fuel (listed.setIfInBounds i true) a' w') a w):vC P md ops Q S ds (fuel+1) listed a w :=
 ⟨fun h0=>absurd (hr ▸ h0) hne,hr ▸ h⟩
theorem VM {listed:Array Bool} {a:Act} {w:World} (hr:Region.ready md ops listed=[]) (h:Q .normal a w) :
  ∀ fuel,vC P md ops Q S ds fuel listed a w
 | 0=>⟨hr,h⟩
 | _+1=>⟨fun _=>h,by rw [hr];simp⟩
theorem VO {id:Nat} {a:Act} {w:World} (hm:P.follows .mixedOrders=true)
  (h:vC P .any ops Q S ds ops.size (Array.replicate ops.size false) a { w with drawn:=w.drawn+1 }):(Code.region id ops true).wp P Q a w :=
 wp_region_any hm (ZF _ _ _ _ h)
end
section
variable {P:Program} {ops:Array Oper} {Q:Exit→Act→World→Prop} {md:Region.Mode} {S:World→Prop} {ds:List Nat}
def jR (P:Program) (md:Region.Mode) (ops:Array Oper) (Q:Exit→Act→World→Prop) (S:World→Prop) (ds:List Nat) (fuel:Nat) (listed:Array Bool) (a:Act) (w:World) (rs:List Nat):Prop :=
 ∀ i ∈ rs,wpOp P ops Q i (fun a' w'=>(i ∉ ds→S w→S w')∧vC P md ops Q S ds fuel (listed.setIfInBounds i true) a' w') a w
theorem jR.nil {fuel:Nat} {listed:Array Bool} {a:Act} {w:World}:jR P md ops Q S ds fuel listed a w []:=fun _ h=>by cases h
theorem jR.cons {fuel:Nat} {listed:Array Bool} {a:Act} {w:World} {i:Nat} {o:Oper} {rs:List Nat} (ho:ops[i]?=some o) (hd:i ∉ ds)
  (h:∀ K':Act→World→Prop,Shut (∀ a w,S w→(S w→vC P md ops Q S ds fuel (listed.setIfInBounds i true) a w)→K' a w)→if Region.wanted o (yielded ops a.tmps)=true then Oper.wp P o a w K' Q else K' (a.put o.dst undef) w)
  (hs:jR P md ops Q S ds fuel listed a w rs):jR P md ops Q S ds fuel listed a w (i :: rs):=fun j hj=>by
 rcases List.mem_cons.1 hj with rfl|hj
 ·
  exact wpOp_step ho (fun K' hK=>h K' (fun a w hS hW=>hK a w ⟨fun _ _=>hS,hW hS⟩))
 ·
  exact hs j hj
theorem jR.zBt {fuel:Nat} {listed:Array Bool} {a:Act} {w:World} {i:Nat} {o:Oper} {rs:List Nat} (ho:ops[i]?=some o) (hd:i ∈ ds)
  (h:∀ K':Act→World→Prop,Shut (∀ a w,vC P md ops Q S ds fuel (listed.setIfInBounds i true) a w→K' a w)→if Region.wanted o (yielded ops a.tmps)=true then Oper.wp P o a w K' Q else K' (a.put o.dst undef) w)
  (hs:jR P md ops Q S ds fuel listed a w rs):jR P md ops Q S ds fuel listed a w (i :: rs):=fun j hj=>by
 rcases List.mem_cons.1 hj with rfl|hj
 ·
  exact wpOp_step ho (fun K' hK=>h K' (fun a w hW=>hK a w ⟨fun hn=>absurd hd hn,hW⟩))
 ·
  exact hs j hj
theorem wN {rs:List Nat} {fuel:Nat} {listed:Array Bool} {a:Act} {w:World} (hr:Region.ready md ops listed=rs) (hne:rs≠[])
  (h:jR P md ops Q S ds fuel listed a w rs):vC P md ops Q S ds (fuel+1) listed a w:=QG hr hne h
theorem kV {id n:Nat} {a:Act} {w:World} (l:Array Bool) (hm:P.follows .mixedOrders=true) (hn:ops.size=n) (hl:Array.replicate n false=l) (hS:S w.drew)
  (h:S w.drew→vC P .any ops Q S ds n l a w.drew):(Code.region id ops true).wp P Q a w:=by
 subst hn
 subst hl
 exact VO hm (h hS)
def zC9 (md:Region.Mode) (ops:Array Oper) (ds:List Nat) (l l':Array Bool) (i:Nat):Bool :=
 Region.noSelect ops && Region.free md ops l i && (Region.ready md ops l).contains i && Region.XD md ops l && Region.JR md ops l ds i && (l.setIfInBounds i true == l')
theorem jZ {i:Nat} {N:Option Tmp} {oi:Oper} {v:Value} {fuel:Nat} {l:Array Bool} {a:Act} {w:World} (l':Array Bool) (hi:ops[i]?=some oi) (hN:oi.dst=N) (hc:zC9 md ops ds l l' i=true)
  (hQ:∀ c a w,Q (.panic c) (a.put oi.dst v) w→Q (.panic c) a w) (hy:YieldsIf P ops S oi v a) (hS:S w) {a':Act} (ha:a.put N v=a')
  (h:vC P md ops Q S ds fuel l' a' w):vC P md ops Q S ds (fuel+1) l a w:=by
 subst ha
 subst hN
 simp only [zC9,Bool.and_eq_true,beq_iff_eq] at hc
 obtain⟨⟨⟨⟨⟨h1,h2⟩,h3⟩,h4⟩,h5⟩,h6⟩:=hc
 subst h6
 exact VN hi h1 h2 h3 h4 h5 hQ hy hS h
def anyB (md:Region.Mode) (ops:Array Oper) (l l':Array Bool) (i:Nat):Bool :=
 Region.noSelect ops && Region.free md ops l i && (Region.ready md ops l).contains i && (l.setIfInBounds i true == l')
theorem xP {i:Nat} {N:Option Tmp} {oi:Oper} {v:Value} {fuel:Nat} {l:Array Bool} {a:Act} {w:World} (l':Array Bool) (hi:ops[i]?=some oi) (hN:oi.dst=N) (hc:anyB md ops l l' i=true)
  (hQ:∀ c a w,Q (.panic c) (a.put oi.dst v) w→Q (.panic c) a w) (hy:Yields P ops oi v a) {a':Act} (ha:a.put N v=a')
  (h:vC P md ops Q S ds fuel l' a' w):vC P md ops Q S ds (fuel+1) l a w:=by
 subst ha
 subst hN
 simp only [anyB,Bool.and_eq_true,beq_iff_eq] at hc
 obtain⟨⟨⟨h1,h2⟩,h3⟩,h6⟩:=hc
 subst h6
 exact QH hi (Region.noSelect_spec h1) hQ fuel l a w (Region.free_spec hi h2) (by simpa using h3) hy h
def JD (md:Region.Mode) (ops:Array Oper) (l l':Array Bool) (i:Nat):Bool:=(Region.ready md ops l == [i]) && (l.setIfInBounds i true == l')
theorem JW {i:Nat} {N:Option Tmp} {oi:Oper} {fuel:Nat} {l:Array Bool} {a:Act} {w:World} (l':Array Bool) (hi:ops[i]?=some oi) (hN:oi.dst=N) (hc:JD md ops l l' i=true) (hd:i ∉ ds)
  (h:∀ K:Act→World→Prop,Shut (∀ a' w',S w'→(S w'→vC P md ops Q S ds fuel l' a' w')→K a' w')→if Region.wanted oi (yielded ops a.tmps)=true then Oper.wp P oi a w K Q else K (a.put N undef) w) :
  vC P md ops Q S ds (fuel+1) l a w:=by
 subst hN
 simp only [JD,Bool.and_eq_true,beq_iff_eq] at hc
 obtain⟨h1,h2⟩:=hc
 subst h2
 exact wN h1 (by simp) (jR.cons hi hd (fun K hK=>h K hK) jR.nil)
theorem zAh {i:Nat} {N:Option Tmp} {oi:Oper} {fuel:Nat} {l:Array Bool} {a:Act} {w:World} (l':Array Bool) (hi:ops[i]?=some oi) (hN:oi.dst=N) (hc:JD md ops l l' i=true) (hd:i ∈ ds)
  (h:∀ K:Act→World→Prop,Shut (∀ a' w',vC P md ops Q S ds fuel l' a' w'→K a' w')→if Region.wanted oi (yielded ops a.tmps)=true then Oper.wp P oi a w K Q else K (a.put N undef) w) :
  vC P md ops Q S ds (fuel+1) l a w:=by
 subst hN
 simp only [JD,Bool.and_eq_true,beq_iff_eq] at hc
 obtain⟨h1,h2⟩:=hc
 subst h2
 exact wN h1 (by simp) (jR.zBt hi hd (fun K hK=>h K hK) jR.nil)
theorem ZW {l:Array Bool} {a:Act} {w:World} {n:Nat} (hr:(Region.ready md ops l == [])=true) (h:Q .normal a w):vC P md ops Q S ds n l a w:=VM (by simpa using hr) h n
theorem kL {fuel:Nat} {l:Array Bool} {a a':Act} {w:World} (ha:a=a') (h:vC P md ops Q S ds fuel l a' w):vC P md ops Q S ds fuel l a w:=by
 subst ha
 exact h
theorem call_ {oi:Oper} {N:Option Tmp} {a:Act} {w:World} {K:Act→World→Prop} (f:FuncId) (args:Array Value) (hw:Region.wanted oi (yielded ops a.tmps)=true) (hN:oi.dst=N) (hrun:(execOp a.eval oi).run P w = .ok (.enter f args) w)
  (h:Calls P f args w fun e w'=>∃ v,e = .returned v∧K (a.put N v) w'):if Region.wanted oi (yielded ops a.tmps)=true then Oper.wp P oi a w K Q else K (a.put N undef) w:=by
 rw [if_pos hw]
 subst hN
 unfold Oper.wp
 rw [hrun,Oper.upon_enter]
 refine h.mono fun e w'' hh=>?_
 obtain⟨v,rfl,hk⟩:=hh
 exact hk
theorem zBy {f:FuncId} {fn:Func} (hf:P.funcs[f]?=some fn) (hname:(fn.name == "runtime.NumGoroutine")=false) (hb:fn.body.isSome=true) (args:Array Value) (w:World):(callFunc f args).run P w = .ok (.enter f args) w:=by
 have h1:fn.name ≠ "runtime.NumGoroutine" := by simpa using hname
 obtain⟨c,hc⟩:=Option.isSome_iff_exists.1 hb
 simp [callFunc,hf,h1,hc]
theorem uA {oi:Oper} {N:Option Tmp} {a:Act} {w:World} {K:Act→World→Prop} {f:FuncId} {fn:Func} {aS:Array Operand} {ts:Array TypeId} (hf:P.funcs[f]?=some fn) (hname:(fn.name == "runtime.NumGoroutine")=false) (hb:fn.body.isSome=true) (args:Array Value)
  (hw:Region.wanted oi (yielded ops a.tmps)=true) (hN:oi.dst=N) (hop:oi.op = .call { callee := .value (.func f),args:=aS,argTypes:=ts }) (hargs:aS.map a.eval=args)
  (h:Calls P f args w fun e w'=>∃ v,e = .returned v∧K (a.put N v) w'):if Region.wanted oi (yielded ops a.tmps)=true then Oper.wp P oi a w K Q else K (a.put N undef) w:=by
 refine call_ f args hw hN ?_ h
 have he:=zBy hf hname hb args w
 unfold execOp
 simp [hop,resolve,Deferred.ofValue,invoke,Act.eval,hargs,he]
theorem xN {rest:List Oper} {oi:Oper} {a:Act} {w:World} (N:Option Tmp) (hd:oi.dst=N) (hg:oi.guard=none) {f:FuncId} {fn:Func} {aS:Array Operand} {ts:Array TypeId} (hf:P.funcs[f]?=some fn) (hname:(fn.name == "runtime.NumGoroutine")=false) (hb:fn.body.isSome=true) (args:Array Value)
  (hop:oi.op = .call { callee := .value (.func f),args:=aS,argTypes:=ts }) (hargs:aS.map a.eval=args)
  (h:Calls P f args w fun e w'=>∃ v,e = .returned v∧wpList P ops Q rest (a.put N v) w'):wpList P ops Q (oi :: rest) a w:=by
 refine wpList_plain hg fun K hK=>?_
 have he:=zBy hf hname hb args w
 have hrun:(execOp a.eval oi).run P w = .ok (.enter f args) w:=by
  unfold execOp
  simp [hop,resolve,Deferred.ofValue,invoke,Act.eval,hargs,he]
 unfold Oper.wp
 rw [hrun,Oper.upon_enter]
 refine h.mono fun e w'' hh=>?_
 obtain⟨v,rfl,hk⟩:=hh
 subst hd
 exact hK _ _ hk
theorem zGd {oi:Oper} {N:Option Tmp} {a:Act} {w w1:World} {v:Value} {K:Act→World→Prop} (hw:Region.wanted oi (yielded ops a.tmps)=true) (hN:oi.dst=N) (hrun:(execOp a.eval oi).run P w = .ok (.value v) w1)
  (h:K (a.put N v) w1):if Region.wanted oi (yielded ops a.tmps)=true then Oper.wp P oi a w K Q else K (a.put N undef) w:=by
 rw [if_pos hw]
 subst hN
 unfold Oper.wp
 rw [hrun]
 exact h
theorem zAq {oi:Oper} {a:Act} {w w1:World} {K:Act→World→Prop} (hw:Region.wanted oi (yielded ops a.tmps)=true) (hN:oi.dst=none) (hrun:(execOp a.eval oi).run P w = .ok .skip w1)
  (h:K a w1):if Region.wanted oi (yielded ops a.tmps)=true then Oper.wp P oi a w K Q else K (a.put none undef) w:=by
 rw [if_pos hw]
 unfold Oper.wp
 rw [hrun]
 show K (a.put oi.dst undef) w1
 rw [hN]
 exact h
theorem z6 (n:Int):IntKind.i64.wrap n=Go.RowKit.wrap64 n:=by unfold Go.RowKit.wrap64;exact IntKind.wrap_i64 n
theorem z7 (n:Int):IntKind.i32.wrap n=Go.RowKit.wrap32 n:=by unfold Go.RowKit.wrap32;exact IntKind.wrap_i32 n
end
end Go.Proofs.YtljhmnnhfnmhmaaGreatDoorW.PrintLast
namespace Go.Proofs.YtljhmnnhfnmhmaaGreatDoorW.PrintWords
open Go.RowKit
namespace Kd
section
variable {α:Type} {d:Kd α} {e base g o n cap:Nat} {ok okp:Nat→Prop} {w W:World} {v:Value} {xs:List α}
end
section
variable {α:Type} {enc:α→Value} {h1:∀ x,(enc x).oneCell'=true} {e base g o n cap:Nat} {ok:Nat→Prop} {W:World} {xs:List α}
end
end Kd
end Go.Proofs.YtljhmnnhfnmhmaaGreatDoorW.PrintWords
namespace Go.Proofs.YtljhmnnhfnmhmaaGreatDoorW.PrintWords
open Go.RowKit
namespace Kd
def tag {α:Type} (f:Nat→Nat) (d:Kd α):Kd (α × Nat) where
 sz:=d.sz
 E:=d.E
 K:=fun w x cs=>d.K w x.1 cs
 M:=fun w base ok x cs=>d.M w base (fun k=>ok k∧f k=x.2) x.1 cs
 K_len:=fun h=>d.K_len h
 K_one:=fun h=>d.K_one h
 K_below:=fun hb h=>d.K_below hb h
 K_of_M:=fun h=>d.K_of_M h
 M_mono:=fun hok h=>d.M_mono (fun k hk=>⟨hok k hk.1,hk.2⟩) h
 M_bound:=fun h=>d.M_mono (fun _ hk=>⟨⟨hk.1.1,hk.2⟩,hk.1.2⟩) (d.M_bound h)
 M_move:=fun hm h=>d.M_move (fun k hk=>hm k hk.1) h
 M_lower:=fun hb h=>d.M_lower hb h
def raw (sz:Nat):Kd (List Value) where
 sz:=sz
 E:=[]
 K:=fun _ x cs=>cs=x∧cs.length=sz∧∀ u ∈ cs,u.oneCell'=true
 M:=fun _ _ _ x cs=>cs=x∧cs.length=sz∧∀ u ∈ cs,u.oneCell'=true
 K_len:=fun h=>h.2.1
 K_one:=fun h=>h.2.2
 K_below:=fun _ h=>h
 K_of_M:=fun h=>h
 M_mono:=fun _ h=>h
 M_bound:=fun h=>h
 M_move:=fun _ h=>h
 M_lower:=fun _ h=>h
def S {α:Type} (d:Kd α) (e:Nat) (w:World) (base:Nat) (ok:Nat→Prop) (v:Value) (xs:List α):Prop:=∃ f,(tag f d).R e w base ok v xs.zipIdx
section
variable {α β:Type} {d:Kd α} {d':Kd β} {e e':Nat} {w w1 W:World} {base b:Nat} {ok ok' okv oku:Nat→Prop} {u v:Value} {xs:List α} {ys:List β}
theorem zI6 {ad:Addr} {n cap:Nat} (h:d.R e w base ok (.slice (some ad) n cap) xs):∃ g,ad=⟨g,0,none⟩:=by
 obtain⟨_,inner,ho,hr⟩:=h
 rcases ho.2 with ⟨hv,_⟩|⟨g,cap',cur,hv,_⟩
 ·
  cases hv
 ·
  injection hv with ha _ _
  injection ha with ha
  exact⟨g,ha⟩
theorem zI5 {ad:Addr} {n cap:Nat} (h:d.R e W base ok (.slice (some ad) n cap) xs) (z:α) (i:Int) (h0:0≤i) (h1:i < n) :
  ∃ c,c.length=d.sz∧d.M W base (fun k=>ok k∧some k≠(Value.slice (some ad) n cap).ownBlock) (xs.getD i.toNat z) c∧∀ j u,c[j]?=some u→W.cell? (ad.add (i.toNat * d.sz+j))=some u:=by
 obtain⟨g,rfl⟩:=zI6 h
 obtain⟨c,hcl,hM,hcc,_⟩:=zI4 h z i h0 h1
 refine⟨c,hcl,d.M_mono (fun k hk=>⟨hk.1,fun he=>hk.2 (by simpa [Value.ownBlock] using he)⟩) hM,fun j u hu=>?_⟩
 rw [zJc,Nat.zero_add]
 exact hcc j u hu
theorem Z5 (hE:d.E=[]) (h:d.R e w base ok v xs):d.R e w base (fun k=>some k=v.ownBlock) v xs:=by
 obtain⟨h0,inner,ho,hr⟩:=h
 refine⟨fun k hk=>hk.symm,inner,ho,hr.XK (fun p c hp=>d.M_mono (fun k hk=>?_) (d.M_bound hp))⟩
 obtain⟨_,_,_,q,hq,_⟩:=hk
 rw [hE] at hq
 cases hq
theorem S_nil (d:Kd α) (e:Nat) (w:World) (base:Nat) (ok:Nat→Prop):S d e w base ok (.slice none 0 0) []:=⟨fun _=>0,ZJ _ _ _ _ _⟩
end
section
variable {α β:Type} {d:Kd α} {d':Kd β} {e e' g:Nat} {w w1 W:World} {base b:Nat} {ok ok' okv oku:Nat→Prop} {u v:Value} {xs:List α} {ys:List β}
end
section
variable {P:Program} {ops:Array Oper} {rest:List Oper} {o:Oper} {a:Act} {Q:Exit→Act→World→Prop} {Kc:Act→World→Prop} {α:Type}
end
def gap {α:Type} (f:Nat→Nat) (d:Kd α) (i:Nat) (c:List Value):Kd (α × Nat) where
 sz:=d.sz
 E:=d.E
 K:=fun w x cs=>(x.2=i→cs=c∧cs.length=d.sz∧∀ u ∈ cs,u.oneCell'=true)∧(x.2≠i→d.K w x.1 cs)
 M:=fun w base ok x cs=>(x.2=i→cs=c∧cs.length=d.sz∧∀ u ∈ cs,u.oneCell'=true)∧(x.2≠i→d.M w base (fun k=>ok k∧f k=x.2) x.1 cs)
 K_len:=fun {w x cs} h=>by
  by_cases hx:x.2=i
  ·
   exact(h.1 hx).2.1
  ·
   exact d.K_len (h.2 hx)
 K_one:=fun {w x cs} h=>by
  by_cases hx:x.2=i
  ·
   exact(h.1 hx).2.2
  ·
   exact d.K_one (h.2 hx)
 K_below:=fun hb h=>⟨h.1,fun hx=>d.K_below hb (h.2 hx)⟩
 K_of_M:=fun h=>⟨h.1,fun hx=>d.K_of_M (h.2 hx)⟩
 M_mono:=fun hok h=>⟨h.1,fun hx=>d.M_mono (fun k hk=>⟨hok k hk.1,hk.2⟩) (h.2 hx)⟩
 M_bound:=fun h=>⟨h.1,fun hx=>d.M_mono (fun _ hk=>⟨⟨hk.1.1,hk.2⟩,hk.1.2⟩) (d.M_bound (h.2 hx))⟩
 M_move:=fun hm h=>⟨h.1,fun hx=>d.M_move (fun k hk=>hm k hk.1) (h.2 hx)⟩
 M_lower:=fun hb h=>⟨h.1,fun hx=>d.M_lower hb (h.2 hx)⟩
def H {α:Type} (d:Kd α) (e:Nat) (w:World) (base:Nat) (ok:Nat→Prop) (v:Value) (xs:List α) (i:Int) (oki:Nat→Prop) (c:List Value):Prop :=
 (∀ k,oki k→ok k)∧∃ f,(gap f d i.toNat c).R e w base (fun k=>ok k∧¬ oki k) v xs.zipIdx
section
variable {α β:Type} {d:Kd α} {e e' g n cap:Nat} {w w1 W:World} {base:Nat} {ok ok' oki okp:Nat→Prop} {u v:Value} {xs:List α} {i:Int} {c:List Value}
end
section
variable {P:Program} {ops:Array Oper} {rest:List Oper} {o:Oper} {a:Act} {Q:Exit→Act→World→Prop} {α:Type}
end
end Kd
end Go.Proofs.YtljhmnnhfnmhmaaGreatDoorW.PrintWords
namespace Go.Proofs.YtljhmnnhfnmhmaaGreatDoorW.PrintWords
open Go.RowKit
namespace Kd
theorem zE3 {α:Type} {R:α→List Value→Prop} {size:Nat} {ps:List α} {cs:List Value} (h:yQ R size ps cs) (hs0:0 < size) (hR:∀ p c,R p c→∀ u ∈ c,u.oneCell'=true):∀ u ∈ cs,u.oneCell'=true:=by
 intro u hu
 obtain⟨q,hq,rfl⟩:=List.mem_iff_getElem.1 hu
 have hql:q / size < ps.length:=by
  rw [Nat.div_lt_iff_lt_mul hs0,← h.1]
  exact hq
 refine hR _ _ (h.2 (q / size) _ (List.getElem?_eq_getElem hql)) _ ?_
 rw [List.mem_iff_getElem?]
 refine⟨q % size,?_⟩
 rw [List.getElem?_take,if_pos (Nat.mod_lt _ hs0),List.getElem?_drop,Nat.mul_comm,Nat.div_add_mod,List.getElem?_eq_getElem hq]
def arr {α:Type} (n:Nat) (d:Kd α) (hs:0 < d.sz):Kd (List α) where
 sz:=n * d.sz
 E:=d.E
 K:=fun w xs cs=>xs.length=n∧yQ (d.K w) d.sz xs cs
 M:=fun w base ok xs cs=>xs.length=n∧yQ (d.M w base ok) d.sz xs cs
 K_len:=fun h=>by rw [← h.1];exact h.2.1
 K_one:=fun h=>zE3 h.2 hs (fun _ _ hk=>d.K_one hk)
 K_below:=fun hb h=>⟨h.1,h.2.XK (fun _ _ hk=>d.K_below hb hk)⟩
 K_of_M:=fun h=>⟨h.1,h.2.XK (fun _ _ hk=>d.K_of_M hk)⟩
 M_mono:=fun hok h=>⟨h.1,h.2.XK (fun _ _ hk=>d.M_mono hok hk)⟩
 M_bound:=fun h=>⟨h.1,h.2.XK (fun _ _ hk=>d.M_bound hk)⟩
 M_move:=fun hm h=>⟨h.1,h.2.XK (fun _ _ hk=>d.M_move hm hk)⟩
 M_lower:=fun hb h=>⟨h.1,h.2.XK (fun _ _ hk=>d.M_lower hb hk)⟩
section
variable {α:Type} {n:Nat} {d:Kd α} {hs:0 < d.sz} {w:World} {base:Nat} {ok:Nat→Prop} {xs:List α} {cs:List Value}
end
section
variable {α:Type} {n:Nat} {enc:α→Value} {h1:∀ x,(enc x).oneCell'=true} {hs:0 < (scalar enc h1).sz} {w:World} {base:Nat} {ok:Nat→Prop} {xs:List α} {cs:List Value}
end
end Kd
end Go.Proofs.YtljhmnnhfnmhmaaGreatDoorW.PrintWords
namespace Go.Proofs.YtljhmnnhfnmhmaaGreatDoorW.PrintWords
open Go.RowKit
section
variable {P:Program}
end
namespace Kd
section
variable {P:Program} {ops:Array Oper} {rest:List Oper} {o:Oper} {a:Act} {Q:Exit→Act→World→Prop} {Kc:Act→World→Prop} {α:Type}
end
section
variable {α:Type} {d:Kd α} {e:Nat} {w:World} {base:Nat} {ok:Nat→Prop} {v:Value} {xs:List α}
end
section
variable {P:Program} {ops:Array Oper} {rest:List Oper} {o:Oper} {a:Act} {Q:Exit→Act→World→Prop} {Kc:Act→World→Prop} {α:Type}
end
end Kd
end Go.Proofs.YtljhmnnhfnmhmaaGreatDoorW.PrintWords
namespace Go.Proofs.YtljhmnnhfnmhmaaGreatDoorW.PrintWords
open Go.RowKit
namespace Kd
section
variable {α:Type} {d:Kd α} {e base g n c:Nat} {ok:Nat→Prop} {w w0 W:World} {A:Option Addr} {xs:List α}
end
end Kd
end Go.Proofs.YtljhmnnhfnmhmaaGreatDoorW.PrintWords
namespace Go.Proofs.YtljhmnnhfnmhmaaGreatDoorW.PrintWords
open Go.RowKit
def Kept (w W:World) (S:Nat→Prop):Prop:=w.heap.size≤W.heap.size∧∀ i,i < w.heap.size→¬ S i→W.heap[i]?=w.heap[i]?
section
variable {w W W2:World} {S S2 S':Nat→Prop}
theorem Kept.refl (w:World) (S:Nat→Prop):Kept w w S:=⟨Nat.le_refl _,fun _ _ _=>rfl⟩
theorem Kept.vL (h:Below w.heap.size w W) (S:Nat→Prop):Kept w W S:=⟨h.size,fun i hi _=>h.block i hi⟩
theorem Kept.zKr (h:Kept w W S) (k:Kept W W2 S2) (hs:∀ k,S2 k→S k∨w.heap.size≤k):Kept w W2 S :=
 ⟨Nat.le_trans h.1 k.1,fun i hi hn=>(k.2 i (Nat.lt_of_lt_of_le hi h.1) (fun h2=>(hs i h2).elim hn (fun h3=>by omega))).trans (h.2 i hi hn)⟩
theorem Kept.yK {row:Option Nat} (hg:W.grownBy W2 row) (h:Kept w W S) (hr:∀ k,row=some k→S k∨w.heap.size≤k):Kept w W2 S :=
 h.zKr (S2:=fun k=>row=some k) ⟨hg.size,fun i hi hn=>hg.block i hi (fun he=>hn he.symm)⟩ hr
theorem Kept.below (h:Kept w W S) (hb:Below W.heap.size W W2):Kept w W2 S:=h.zKr (Kept.vL hb (fun _=>False)) (fun _ hk=>hk.elim)
theorem Kept.alloc (h:Kept w W S) (o:Obj):Kept w (W.alloc o) S:=h.below (zD (Below.refl _ _) o)
theorem Kept.drew (h:Kept w W S):Kept w W.drew S:=h
theorem Kept.drewN (h:Kept w W S) (m:Nat):Kept w (W.drewN m) S:=h
end
namespace Kd
section
variable {α:Type} {d:Kd α} {e base n c:Nat} {ok oki S S2:Nat→Prop} {w w0 W W1 W2:World} {v:Value} {A:Option Addr} {xs:List α} {i:Int} {cs:List Value}
end
end Kd
end Go.Proofs.YtljhmnnhfnmhmaaGreatDoorW.PrintWords
namespace Go.Proofs.YtljhmnnhfnmhmaaGreatDoorW.PrintWords
open Go.RowKit
def QK (P:World→Prop) (W:World) (ok:Nat→Prop):Prop:=∀ W':World,(∀ k,ok k→k < W.heap.size→W'.heap[k]?=W.heap[k]?)→P W'
theorem zHb {W W1:World} {k:Nat} (h:W1.heap[k]?=W.heap[k]?) (hlt:k < W.heap.size):k < W1.heap.size:=by
 rw [Array.getElem?_eq_getElem hlt] at h
 exact(Array.getElem?_eq_some_iff.1 h).1
namespace QK
variable {P Q:World→Prop} {W W1:World} {ok ok':Nat→Prop}
theorem now (h:QK P W ok):P W:=h W (fun _ _ _=>rfl)
theorem mono (h:QK P W ok) (hok:∀ k,ok k→ok' k):QK P W ok':=fun W' hW=>h W' (fun k hk hlt=>hW k (hok k hk) hlt)
theorem bound (h:QK P W ok):QK P W (fun k=>ok k∧k < W.heap.size):=fun W' hW=>h W' (fun k hk hlt=>hW k ⟨hk,hlt⟩ hlt)
theorem step (h:QK P W ok) (hm:∀ k,ok k→k < W.heap.size→W1.heap[k]?=W.heap[k]?):QK P W1 ok:=fun W' hW=>h W' (fun k hk hlt=>(hW k hk (zHb (hm k hk hlt) hlt)).trans (hm k hk hlt))
end QK
namespace Kd
def F {α:Type} (d:Kd α) (W:World) (ok:Nat→Prop) (A:Option Addr) (n:Nat) (xs:List α):Prop:=QK (fun W=>d.C W A n xs) W ok
def FK {α:Type} (d:Kd α) (W:World) (ok:Nat→Prop) (x:α) (c:List Value):Prop:=QK (fun W=>d.K W x c) W ok
section
variable {α β:Type} {d:Kd α} {e base n n' cc g N:Nat} {ok ok' okp S:Nat→Prop} {w w0 w1 W W1:World} {A A':Option Addr} {u v v1:Value} {xs:List α} {xs':List β} {d':Kd β} {x:α} {c:List Value}
theorem zIw (h:F d W ok A n xs):d.C W A n xs:=QK.now h
theorem zIv (h:F d W ok A n xs) (hok:∀ k,ok k→ok' k):F d W ok' A n xs:=QK.mono h hok
theorem F_nil (d:Kd α) (W:World) (ok:Nat→Prop):F d W ok none ([]:List α).length []:=fun W' _=>zIt d W'
theorem R_F (h:d.R e W base ok (.slice A n cc) xs):F d W ok A n xs:=fun W' hW=>by
 have h2:=vX (wS h hW)
 rw [h2.1]
 exact h2.2.2
theorem zA1 (h:FK d W ok x c):d.K W x c:=QK.now h
theorem zGh (h:FK d W ok x c) (hok:∀ k,ok k→ok' k):FK d W ok' x c:=QK.mono h hok
theorem zDq (h:FK d W ok x c):FK d W (fun k=>ok k∧k < W.heap.size) x c:=QK.bound h
theorem zA2 (h:FK d W ok x c) (hm:∀ k,ok k→k < W.heap.size→W1.heap[k]?=W.heap[k]?):FK d W1 ok x c:=QK.step h hm
theorem zGi (h:d.M W base ok x c):FK d W ok x c:=fun _ hW=>d.K_of_M (zFg h hW)
theorem zGz (W:World) (g:Nat):∃ W':World,(∀ k,k≠g→W'.heap[k]?=W.heap[k]?)∧∀ a:Addr,a.block=g→W'.cell? a=none:=by
 refine⟨{ W with heap:=W.heap.setIfInBounds g (.cells #[] 0) },fun k hk=>by simp [Ne.symm hk],fun a ha=>?_⟩
 subst ha
 by_cases hlt:a.block < W.heap.size
 ·
  simp [World.cell?,hlt]
 ·
  simp [World.cell?,hlt]
end
end Kd
end Go.Proofs.YtljhmnnhfnmhmaaGreatDoorW.PrintWords
namespace Go.Proofs.YtljhmnnhfnmhmaaGreatDoorW.PrintWords
open Go.RowKit
namespace Kd
def chunks (sz:Nat) (n:Nat) (inner:List Value):List (List Value):=(List.range n).map fun j=>(inner.drop (j * sz)).take sz
theorem jM (sz n:Nat) (inner:List Value):(chunks sz n inner).length=n:=by simp [chunks]
theorem zBr {sz n:Nat} {inner:List Value} {j:Nat} (hj:j < n):(chunks sz n inner)[j]?=some ((inner.drop (j * sz)).take sz):=by simp [chunks,hj]
theorem wP {sz n:Nat} {inner:List Value} {j:Nat} {c:List Value} (h:(chunks sz n inner)[j]?=some c):c=(inner.drop (j * sz)).take sz:=by
 have hj:j < n:=by have:=(List.getElem?_eq_some_iff.1 h).1;rwa [jM] at this
 rw [zBr hj] at h
 injection h with h
 exact h.symm
theorem zE4 {α:Type} {Rr:α→List Value→Prop} {sz:Nat} {xs:List α} {inner:List Value} (h:yQ Rr sz xs inner) (hR:∀ x c,Rr x c→c.length=sz∧∀ u ∈ c,u.oneCell'=true):yQ (fun x cs=>cs=x∧cs.length=sz∧∀ u ∈ cs,u.oneCell'=true) sz (chunks sz xs.length inner) inner:=by
 refine⟨by rw [jM];exact h.1,fun j p hj=>?_⟩
 have hjl:j < xs.length:=by have:=(List.getElem?_eq_some_iff.1 hj).1;rwa [jM] at this
 have hp:=wP hj
 exact⟨hp.symm,hR _ _ (h.2 j _ (List.getElem?_eq_getElem hjl))⟩
section
variable {α:Type} {d:Kd α} {e base n cc g:Nat} {ok ok' okp S:Nat→Prop} {w w1 W W1:World} {A:Option Addr} {u v v1:Value} {xs:List α} {x:α} {c:List Value}
theorem F_get (h:F d W ok A n xs) (z:α) (i:Int) (h0:0≤i) (h1:i < n) :
  ∃ ad c,A=some ad∧c.length=d.sz∧FK d W ok (xs.getD i.toNat z) c∧(∀ j u,c[j]?=some u→W.cell? (ad.add (i.toNat * d.sz+j))=some u)∧(0 < d.sz→ok ad.block):=by
 obtain⟨ad,c,rfl,hcl,hK,hcc⟩:=YW (zIw h) z i h0 h1
 have hin:0 < d.sz→ok ad.block:=by
  intro hs
  by_cases hk:ok ad.block
  ·
   exact hk
  ·
   obtain⟨W',h2,h3⟩:=zGz W ad.block
   obtain⟨ad',c',he,hcl',_,hcc'⟩:=YW (h W' (fun k hk' _=>h2 k (fun e=>hk (e ▸ hk')))) z i h0 h1
   injection he with he
   subst he
   have h4:=hcc' 0 _ (List.getElem?_eq_getElem (by omega))
   rw [h3 _ (Z9 _ _)] at h4
   cases h4
 refine⟨ad,c,rfl,hcl,fun W' hW=>?_,hcc,hin⟩
 obtain⟨ad',c',he,hcl',hK',hcc'⟩:=YW (h W' hW) z i h0 h1
 injection he with he
 subst he
 have hc:c=c':=by
  apply List.ext_getElem?
  intro j
  by_cases hj:j < d.sz
  ·
   have hb:W'.heap[ad.block]?=W.heap[ad.block]?:=by
    have h5:=hcc j _ (List.getElem?_eq_getElem (by omega))
    have h6:=World.block_lt_of_cell? W _ h5
    rw [Z9] at h6
    exact hW _ (hin (by omega)) h6
   have h5:=hcc j _ (List.getElem?_eq_getElem (by omega))
   have h6:=hcc' j _ (List.getElem?_eq_getElem (by omega))
   have h7:W'.cell? (ad.add (i.toNat * d.sz+j))=W.cell? (ad.add (i.toNat * d.sz+j)):=by simp [World.cell?,Z9,hb]
   rw [h7,h5] at h6
   rw [List.getElem?_eq_getElem (by omega),List.getElem?_eq_getElem (by omega)]
   exact h6
  ·
   rw [List.getElem?_eq_none (by omega),List.getElem?_eq_none (by omega)]
 rw [hc]
 exact hK'
theorem zIx (h:F d W ok A n xs):jE (fun x c=>FK d W ok x c) d.sz W A n xs:=by
 obtain⟨hl,hm,hn⟩:=zIw h
 refine⟨hl,hm,fun hp=>?_⟩
 obtain⟨ad,rfl,_⟩:=hn hp
 refine⟨ad,rfl,fun j p hj=>?_⟩
 obtain⟨hjl,hjp⟩:=List.getElem?_eq_some_iff.1 hj
 obtain⟨ad',c,he,hcl,hK,hcc,_⟩:=F_get h p (j:Int) (by omega) (by omega)
 injection he with he
 subst he
 simp only [Int.toNat_natCast] at hK hcc
 rw [List.getD_eq_getElem?_getD,hj] at hK
 exact⟨c,hcl,hK,hcc⟩
def N {α:Type} (d:Kd α) (e:Nat) (w:World) (base:Nat) (ok:Nat→Prop) (v:Value) (xs:List α):Prop :=
 (∀ k,v.ownBlock=some k→ok k)∧∃ rows:List (List Value),rows.length=xs.length∧(raw d.sz).R e w base (fun k=>some k=v.ownBlock) v rows∧∀ (j:Nat) (x:α) (c:List Value),xs[j]?=some x→rows[j]?=some c→FK d w (fun k=>ok k∧some k≠v.ownBlock) x c
theorem zCz {sz:Nat} {rows:List (List Value)} (h:(raw sz).R e w base ok v rows):(raw sz).R e w base (fun k=>some k=v.ownBlock) v rows:=Z5 rfl h
theorem zHu {sz:Nat} {rows:List (List Value)} (h:(raw sz).R e w base ok v rows):(raw sz).R e w base (fun _=>True) v rows:=xG h (fun _ _=>trivial)
theorem R_N (h:d.R e w base ok v xs):N d e w base ok v xs:=by
 obtain⟨h0,inner,ho,hr⟩:=h
 refine⟨h0,chunks d.sz xs.length inner,jM _ _ _,⟨fun k hk=>hk.symm,inner,by rw [jM];exact ho,zE4 hr (fun x c hp=>⟨d.K_len (d.K_of_M hp),d.K_one (d.K_of_M hp)⟩)⟩,fun j x c hx hc=>?_⟩
 rw [wP hc]
 exact zGi (hr.2 j x hx)
theorem zI1 (d:Kd α) (e:Nat) (w:World) (base:Nat) (ok:Nat→Prop):N d e w base ok (.slice none 0 0) []:=R_N (ZJ _ _ _ _ _)
theorem zI0 (h:N d e w base ok v xs):∀ k,v.ownBlock=some k→base≤k:=by
 obtain⟨_,rows,_,hR,_⟩:=h
 exact yB hR
theorem zFh (h:N d e w base ok v xs) (hm:∀ k,ok k→k < w.heap.size→w1.heap[k]?=w.heap[k]?):N d e w1 base ok v xs:=by
 obtain⟨h0,rows,hl,hR,hf⟩:=h
 exact⟨h0,rows,hl,wS hR (fun k hk hlt=>hm k (h0 k hk.symm) hlt),fun j x c hx hc=>zA2 (hf j x c hx hc) (fun k hk hlt=>hm k hk.1 hlt)⟩
theorem zGl (h:N d e w base ok v xs) (hb:Below w.heap.size w w1):N d e w1 base ok v xs:=zFh h (fun k _ hk=>hb.block k hk)
theorem N_far (h:N d e w base ok v xs) {p:Addr} (hok:∀ k,ok k→k≠p.block) (u:Value):N d e (w.setCell p u) base ok v xs:=zFh h (fun k ho _=>Below.heap_setCell w p u k (hok k ho))
theorem zA3 (h:N d e w base ok v xs):∃ A c,v = .slice A xs.length c:=by
 obtain⟨_,rows,hl,hR,_⟩:=h
 obtain⟨A,c,he⟩:=vJ hR
 exact⟨A,c,by rw [he,hl]⟩
theorem zDr {n c:Nat} (h:N d e w base ok (.slice A n c) xs):n=xs.length∧n≤c∧d.C w A xs.length xs:=by
 obtain⟨_,rows,hl,hR,hf⟩:=h
 obtain⟨hn,hc,hC⟩:=vX hR
 refine⟨by omega,hc,?_⟩
 rw [hl] at hC
 refine⟨rfl,hC.2.1,fun hp=>?_⟩
 obtain⟨ad,he,hcell⟩:=hC.2.2 hp
 refine⟨ad,he,fun j p hj=>?_⟩
 have hjl:j < rows.length:=by have:=(List.getElem?_eq_some_iff.1 hj).1;omega
 obtain⟨c',hcl,hK,hcc⟩:=hcell j _ (List.getElem?_eq_getElem hjl)
 have hk:=zA1 (hf j p _ hj (List.getElem?_eq_getElem hjl))
 refine⟨c',hcl,?_,hcc⟩
 rw [show c'=rows[j] from hK.1]
 exact hk
theorem zGm (h:N d e w base ok v xs):∃ A c,v = .slice A xs.length c∧xs.length≤c∧d.C w A xs.length xs:=by
 obtain⟨A,c,rfl⟩:=zA3 h
 exact⟨A,c,rfl,(zDr h).2⟩
end
end Kd
end Go.Proofs.YtljhmnnhfnmhmaaGreatDoorW.PrintWords
